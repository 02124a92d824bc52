import PyProof.Rows.All
import Wide.All
import OpenK.AllK
import Wide.FinOn
import Lean
import PySem.Challenge.RW_il0012_01
open PySem PySem.W PyProof.Rows
set_option Elab.async false
set_option maxRecDepth 100000
set_option maxHeartbeats 8000000
set_option rowWalk.seconds 0
namespace Mine
section
-- the head in one check of the whole top (the library's own fallback), with our own view of the text: its compiled size is a tenth of the pieces'
noncomputable def view : Program := { PySem.Challenge.pw_il0012_01 with main := { PySem.Challenge.pw_il0012_01.main with body := [0, 2, 6, 7, 8, 9, 10, 12, 13, 14, 15, 16].filterMap fun i => PySem.Challenge.pw_il0012_01.main.body[i]? } }
theorem said : OpenLaw.wellSaid PySem.Challenge.rw_il0012_01 = true := by kernel_rfl
theorem headOf {d : DefRec} {kwd : List (Str × PySem.Expr)} (H : Hook) (hdef : defOf view (OpenLaw.row PySem.Challenge.rw_il0012_01).name = some (d, kwd))
    (hp : (OpenLaw.row PySem.Challenge.rw_il0012_01).prog.theDef (OpenLaw.row PySem.Challenge.rw_il0012_01).name = some (d.params, d.body, d.scope)) (hk : kwWritten? d.params.kwonlyargs d.params.kw_defaults = some kwd)
    (k1 : (OpenLaw.row PySem.Challenge.rw_il0012_01).wellSaid = true)
    (left : LeftO (OpenLaw.row PySem.Challenge.rw_il0012_01).prog view [Str.ofString "escape", Str.ofString "unescape", Str.ofString "_NodeInfo"]
      (fun s => xlAt view [] s && recOk (RowW.records (OpenRow.toRowW (OpenLaw.row PySem.Challenge.rw_il0012_01))) s) (Hook.obs H) (Hook.val H) 2740)
    (hw : (OpenLaw.row PySem.Challenge.rw_il0012_01).toRowW.promised)
    (call : WalkO view [Str.ofString "escape", Str.ofString "unescape", Str.ofString "_NodeInfo"] (XL view []) (Hook.says H) (OpenLaw.row PySem.Challenge.rw_il0012_01).toRowW d kwd fun f vs => PySem.call f vs) :
    (OpenLaw.row PySem.Challenge.rw_il0012_01).Holds :=
  holds_open left (Hook.of H) (Hook.keeps H) (fun s e => xl_of s (Bool.and_eq_true_iff.mp e).1) XL.keeps hdef hp hk
    (fun s e => recFacts_of (Bool.and_eq_true_iff.mp e).2) (by rfl) k1 (by decide +kernel) ⟨rfl, rfl, rfl, rfl, rfl, by decide +kernel⟩ hw call
local macro_rules | `(tactic| o_law) => `(tactic| refine holds_law Mine.said fun _ => ?_)
local macro_rules | `(tactic| o_head $H:term) => `(tactic| (refine' headOf $H (by rfl) (by rfl) (by rfl) (by assumption) ?hl ?hw ?hc; (case hl => intro w; kernel_rfl)))
open_top hd for PySem.Challenge.rw_il0012_01

end
theorem fill_whole : PySem.Challenge.rw_il0012_01 = PySem.Challenge.rw_il0012_01 ∧ Mine.hd.heap_1 = Mine.hd.heap_1 := by w_top off; k_fill; exact ⟨rfl, rfl⟩
section
noncomputable abbrev PR : Program := PySem.Challenge.rw_il0012_01.row.prog

/-- the goal as a name of its own: what is taken apart meanwhile does not write the goal out again and again -/
theorem foldLet {P : Prop} (h : let G : Prop := P; G) : P := h

/-- what is left behind a call, said of the heap -/
noncomputable def Kept (h h' : Heap) (fp : List Addr) : Prop := ∀ b o, h.get? b = some o → b ∉ fp → h'.get? b = some o

abbrev NoE : Value → Shared → Prop := fun _ _ => False
/-- a call's contract: the room that it asks for, the ledger that it may turn, what it gives back -/
noncomputable def ContractR (d u : Nat) (w : World) (f : Addr) (args : List Value) (pre : Heap → Prop) (news : List (Addr × Obj)) (P : List (Addr × Obj) → Value → Prop) : Prop :=
  ∀ (dp un : Nat) (gd : Option (List Code)) (cn : Str) (cs : Scope) (a : Addr) (ccd : Value) (cl : List (Str × Addr)) (outer : List Env) (A₀ : Around) (base h₀ : Heap) (L : Addr) (m : Str → Option Value)
    (p : Program) (loose : List Str) (mean : ExcName → Option Value) (mg mb : Str → Option Value) (s : Shared) (Q E : Value → Shared → Prop),
    Below A₀ base outer h₀ → Fr h₀ L s.heap m → (Mine.hd.heap_1 w.params).In h₀ → News h₀ L s.heap news → Top p loose mean mg mb h₀ → cs.kind = .function → dp + d < recursionLimit → un + u < cLine → pre s.heap →
    (∀ v h' tk news', Kept s.heap h' (news.map (·.1)) → (∀ q ∈ news', h'.get? q.1 = some q.2 ∧ (s.heap.get? q.1 = none ∨ q.1 ∈ news.map (·.1))) → P news' v → Q v { s with heap := h', toks := tk }) →
    codeAny (model PR w) (ktrTop dp un gd cn cs L a ccd cl outer) (.call (.ref f) ⟨args, []⟩) (fun r s' => match r with | .ok (.ret v) => Q v s' | .ok _ => False | .error e => E e s') s
noncomputable def Contract (w : World) (f : Addr) (args : List Value) (pre : Heap → Prop) (news : List (Addr × Obj)) (P : List (Addr × Obj) → Value → Prop) : Prop := ContractR 20 200 w f args pre news P

/-- the end of a contract's body -/
noncomputable def LeaveS (g : Heap) (s : Shared) (P : List (Addr × Obj) → Value → Prop) (v : Value) (s' : Shared) : Prop :=
  ∃ h' tk L' m' news', s' = { s with heap := h', toks := tk } ∧ Fr g L' h' m' ∧ News g L' h' news' ∧ P news' v

theorem leaveS_ {g h' : Heap} {s : Shared} {tk : Nat} {L' : Addr} {m' : Str → Option Value} {news' : List (Addr × Obj)} {P : List (Addr × Obj) → Value → Prop} {v : Value}
    (F : Fr g L' h' m') (N : News g L' h' news') (p : P news' v) : LeaveS g s P v { s with heap := h', toks := tk } := ⟨h', tk, L', m', news', rfl, F, N, p⟩

theorem kept_of_hide {h h' : Heap} {as : List Addr} {L' : Addr} {m' : Str → Option Value} (F : Fr (hideAll h as) L' h' m') : Kept h h' as :=
  fun b o e n => F.keep b o (hideAll_get as e n)

section
variable {w : World} {name qual : Str} {params : Arguments} {body : List Stmt} {scope : Scope} {dV kV doc pm cdv ct oc : Value} {an od : Option Addr} {osl : Array (Option Value)} {f : Addr} {args : List Value} {news : List (Addr × Obj)} {P : List (Addr × Obj) → Value → Prop}
theorem contractR_of {d u d' u' : Nat} (hd' : d' + 1 ≤ d) (hu' : u' + 3 ≤ u) {pre : Heap → Prop}
    (hpre : ∀ h g, pre h → Kept h g (news.map (·.1)) → pre g)
    (ho : (Mine.hd.heap_1 w.params).lookup f = some ⟨oc, od, .func (fnOf name qual params body scope dV kV doc pm an cdv ct), osl⟩) (hcd : codeIn (Mine.hd.heap_1 w.params) cdv qual = true)
    (binds : List (Str × Value))
    (hbind : ∀ s : Shared, (Mine.hd.heap_1 w.params).In s.heap → BindsTo s (fnOf name qual params body scope dV kV doc pm an cdv ct) ⟨args, []⟩ binds)
    (hloc : ∀ y ∈ binds, scope.names.lookup y.1 = some .local)
    (hco : scope.isCoroutine = false) (hgen : scope.isGenerator = false) (hk : scope.kind = .function)
    (hcell : ∀ x ∈ scope.names, x.2 ≠ .cell)
    (h : ∀ (dp un : Nat) (gd : Option (List Code)) (outer : List Env) (A : Around) (base g : Heap) (L' : Addr) (h₁ : Heap) (p : Program) (loose : List Str) (mean : ExcName → Option Value) (mg mb : Str → Option Value) (s : Shared),
      Below A base outer g → Fr g L' h₁ (fun y => binds.reverse.lookup y) → (Mine.hd.heap_1 w.params).In g → News g L' h₁ news → Top p loose mean mg mb g → dp + d' < recursionLimit → un + u' < cLine → pre g →
      (∀ q ∈ news, q.1 < L') →
      wpAny (model PR w) (ktrTop dp un gd qual scope L' f cdv [] outer) (execs body (envOf qual scope L' f cdv))
        (fun fl s' => LeaveS g s P (match fl with | .ret v => v | _ => .none) s') NoE { s with heap := h₁, toks := s.toks + binds.length }) :
    ContractR d u w f args pre news P := by
  intro dp un gd cn cs a ccd cl outer A₀ base h₀ L m p loose mean mg mb s Q E B F X N T hkc hdp hun hpr hret
  obtain ⟨FG, BG, st, _⟩ := groundX (A := ktrTop dp un gd cn cs L a ccd cl outer) (R := fun _ _ => True) (env := envX cn cs L a ccd cl) (outer := outer) B F N rfl rfl hkc
  refine codeAny_call_def (fd := fnOf name qual params body scope dV kV doc pm an cdv ct) (body := body) (binds := binds) (by show dp < recursionLimit; omega) (F.keep _ _ (X _ _ ho)) rfl (T.nolimit.keeps F.keep) (codeRec_of (X.keeps F.keep) hcd) rfl (hbind s (X.keeps F.keep)) hcell hloc (fun h₁ hns hk₁ => ?_) hco hgen hk
  refine wpAny_mono (h (dp + 1) (un + 3) gd (envX cn cs L a ccd cl :: outer) _ base _ s.heap.objs.size h₁ p loose mean mg mb s BG ⟨hns, fun b o e => hk₁ b o (of_hideAll _ e), Nat.le_of_eq (hideAll_size _ _)⟩ (X.keeps st)
    (fun p hp => ⟨hk₁ _ _ (N p hp).1, Nat.ne_of_lt (Heap.lt_size (N p hp).1), hideAll_none _ (List.mem_map_of_mem hp)⟩) (T.keeps st) (by omega) (by omega) (hpre _ _ hpr fun b o e n => hideAll_get _ e n) (fun p hp => Heap.lt_size (N p hp).1)) (fun fl s' hl => ?_) fun _ _ y => y.elim
  obtain ⟨h', tk, L', m', news', rfl, F', N', hp⟩ := hl
  refine hret _ h' tk news' (kept_of_hide F') (fun q hq => ⟨(N' q hq).1, ?_⟩) hp
  have hg := (N' q hq).2.2
  cases e : s.heap.get? q.1 with
  | none => exact .inl rfl
  | some o =>
    refine .inr (Classical.byContradiction fun hn => ?_)
    rw [hideAll_get _ e hn] at hg
    cases hg
theorem contract_of {pre : Heap → Prop}
    (hpre : ∀ h g, pre h → Kept h g (news.map (·.1)) → pre g)
    (ho : (Mine.hd.heap_1 w.params).lookup f = some ⟨oc, od, .func (fnOf name qual params body scope dV kV doc pm an cdv ct), osl⟩) (hcd : codeIn (Mine.hd.heap_1 w.params) cdv qual = true)
    (binds : List (Str × Value))
    (hbind : ∀ s : Shared, (Mine.hd.heap_1 w.params).In s.heap → BindsTo s (fnOf name qual params body scope dV kV doc pm an cdv ct) ⟨args, []⟩ binds)
    (hloc : ∀ y ∈ binds, scope.names.lookup y.1 = some .local)
    (hco : scope.isCoroutine = false) (hgen : scope.isGenerator = false) (hk : scope.kind = .function)
    (hcell : ∀ x ∈ scope.names, x.2 ≠ .cell)
    (h : ∀ (dp un : Nat) (gd : Option (List Code)) (outer : List Env) (A : Around) (base g : Heap) (L' : Addr) (h₁ : Heap) (p : Program) (loose : List Str) (mean : ExcName → Option Value) (mg mb : Str → Option Value) (s : Shared),
      Below A base outer g → Fr g L' h₁ (fun y => binds.reverse.lookup y) → (Mine.hd.heap_1 w.params).In g → News g L' h₁ news → Top p loose mean mg mb g → dp + 18 < recursionLimit → un + 190 < cLine → pre g →
      (∀ q ∈ news, q.1 < L') →
      wpAny (model PR w) (ktrTop dp un gd qual scope L' f cdv [] outer) (execs body (envOf qual scope L' f cdv))
        (fun fl s' => LeaveS g s P (match fl with | .ret v => v | _ => .none) s') NoE { s with heap := h₁, toks := s.toks + binds.length }) :
    Contract w f args pre news P := contractR_of (d' := 18) (u' := 190) (by decide) (by decide) hpre ho hcd binds hbind hloc hco hgen hk hcell h
end

section
variable {w : World} {name qual : Str} {params : Arguments} {body : List Stmt} {scope : Scope} {dV kV doc pm cdv ct oc : Value} {an od : Option Addr} {osl : Array (Option Value)} {f : Addr} {args : List Value} {news : List (Addr × Obj)} {P : List (Addr × Obj) → Value → Prop}
/-- as contract_of, for a def with *rest -/
theorem contract_rest {pre : Heap → Prop} (vs : List Value) (front : List (Str × Value)) (nr : Str)
    (hpre : ∀ h g, pre h → Kept h g (news.map (·.1)) → pre g)
    (ho : (Mine.hd.heap_1 w.params).lookup f = some ⟨oc, od, .func (fnOf name qual params body scope dV kV doc pm an cdv ct), osl⟩) (hcd : codeIn (Mine.hd.heap_1 w.params) cdv qual = true)
    (hbind : bindArgs (fnOf name qual params body scope dV kV doc pm an cdv ct) ⟨args, []⟩ = (newTuple vs >>= fun t => pure (front ++ [(nr, t)])))
    (hvs : vs.length ≤ sizeLine)
    (hloc : ∀ v, ∀ y ∈ front ++ [(nr, v)], scope.names.lookup y.1 = some .local)
    (hco : scope.isCoroutine = false) (hgen : scope.isGenerator = false) (hk : scope.kind = .function)
    (hcell : ∀ x ∈ scope.names, x.2 ≠ .cell)
    (h : ∀ (dp un : Nat) (gd : Option (List Code)) (outer : List Env) (A : Around) (base g : Heap) (D L' : Addr) (h₁ : Heap) (p : Program) (loose : List Str) (mean : ExcName → Option Value) (mg mb : Str → Option Value) (s : Shared),
      Below A base outer g → Fr g L' h₁ (fun y => (front ++ [(nr, Value.ref D)]).reverse.lookup y) → (Mine.hd.heap_1 w.params).In g → News g L' h₁ ((D, ({ cls := .type "tuple", data := .seq vs.toArray } : Obj)) :: news) → Top p loose mean mg mb g → dp + 18 < recursionLimit → un + 190 < cLine → pre g →
      (∀ q ∈ news, q.1 < D) → D < L' →
      wpAny (model PR w) (ktrTop dp un gd qual scope L' f cdv [] outer) (execs body (envOf qual scope L' f cdv))
        (fun fl s' => LeaveS g s P (match fl with | .ret v => v | _ => .none) s') NoE { s with heap := h₁, toks := s.toks + (front ++ [(nr, Value.ref D)]).length }) :
    Contract w f args pre news P := by
  intro dp un gd cn cs a ccd cl outer A₀ base h₀ L m p loose mean mg mb s Q E B F X N T hkc hdp hun hpr hret
  refine codeAny_call_function (fd := fnOf name qual params body scope dV kV doc pm an cdv ct) (body := body) (by show dp < recursionLimit; omega) (F.keep _ _ (X _ _ ho)) rfl hco hgen rfl (codeRec_of (X.keeps F.keep) hcd) ?_
  rw [hbind]
  refine wpAny_bind (wpAny_newObj_type ?_ (by show vs.toArray.size ≤ sizeLine; rw [List.size_toArray]; exact hvs))
  refine wpAny_pure ?_
  have F₁ := F.push ({ cls := .type "tuple", data := .seq vs.toArray } : Obj)
  have N₁ := News.push F N ({ cls := .type "tuple", data := .seq vs.toArray } : Obj)
  generalize hD : s.heap.objs.size = D at F₁ N₁ ⊢
  generalize hH : s.heap.push ({ cls := .type "tuple", data := .seq vs.toArray } : Obj) = H at F₁ N₁ ⊢
  have hHs : H.objs.size = D + 1 := by rw [← hH, Heap.size_push, hD]
  obtain ⟨FG, BG, st, _⟩ := groundX (A := ktrTop dp un gd cn cs L a ccd cl outer) (s := { s with heap := H }) (R := fun _ _ => True) (env := envX cn cs L a ccd cl) (outer := outer) B F₁ N₁ rfl rfl hkc
  refine wpAny_newFunctionEnv (s := { s with heap := H }) hcell (hloc _) (fun h₁ hns hsb => ⟨((T.nolimit.keeps F₁.keep)).fresh _ hsb, codeAny_func ?_⟩) hk
  have hk₁ : ∀ b o, H.get? b = some o → h₁.get? b = some o := fun b o e => hsb.extBut b o (Nat.ne_of_lt (Heap.lt_size e)) (Heap.get?_push_of_some _ e)
  have hup : ∀ b o, s.heap.get? b = some o → H.get? b = some o := fun b o e => by rw [← hH]; exact Heap.get?_push_of_some _ e
  have hkept : Kept s.heap (hideAll H (((D, ({ cls := .type "tuple", data := .seq vs.toArray } : Obj)) :: news).map (·.1))) (news.map (·.1)) := fun b o e n => hideAll_get _ (hup b o e) (by
    rw [List.map_cons]
    intro q
    rcases List.mem_cons.mp q with q | q
    · have := Heap.lt_size e; rw [hD, q] at this; exact Nat.lt_irrefl _ this
    · exact n q)
  refine wpAny_mono (h (dp + 1) (un + 3) gd (envX cn cs L a ccd cl :: outer) _ base _ D H.objs.size h₁ p loose mean mg mb s BG ⟨hns, fun b o e => hk₁ b o (of_hideAll _ e), Nat.le_of_eq (hideAll_size _ _)⟩ (X.keeps st)
    (fun p hp => ⟨hk₁ _ _ (N₁ p hp).1, Nat.ne_of_lt (Heap.lt_size (N₁ p hp).1), hideAll_none _ (List.mem_map_of_mem hp)⟩) (T.keeps st) (by omega) (by omega) (hpre _ _ hpr hkept) (fun p hp => by rw [← hD]; exact Heap.lt_size (N p hp).1) (by rw [hHs]; exact Nat.lt_succ_self _)) (fun fl s' hl => ?_) fun _ _ y => y.elim
  obtain ⟨h', tk, L', m', news', rfl, F', N', hp⟩ := hl
  refine hret _ h' tk news' (fun b o e n => F'.keep b o (hkept b o e n)) (fun q hq => ⟨(N' q hq).1, ?_⟩) hp
  have hg := (N' q hq).2.2
  cases e : s.heap.get? q.1 with
  | none => exact .inl rfl
  | some o =>
    refine .inr (Classical.byContradiction fun hn => ?_)
    rw [hkept _ _ e hn] at hg
    cases hg
end

/-- a contract over part of a ledger serves the whole ledger -/
theorem Contract.frame {w : World} {f : Addr} {args : List Value} {pre : Heap → Prop} {sub big : List (Addr × Obj)} {P P' : List (Addr × Obj) → Value → Prop} (c : Contract w f args pre sub P)
    (hsub : ∀ q ∈ sub, q ∈ big)
    (hP : ∀ news₁ v, P news₁ v → (∀ q ∈ news₁, q.1 ∈ sub.map (·.1) ∨ q.1 ∉ big.map (·.1)) → P' (news₁ ++ big.filter fun q => decide (q.1 ∉ sub.map (·.1))) v) : Contract w f args pre big P' := by
  intro dp un gd cn cs a ccd cl outer A₀ base h₀ L m p loose mean mg mb s Q E B F X N T hkc hdp hun hpr hret
  have hin : ∀ b, b ∈ sub.map (·.1) → b ∈ big.map (·.1) := fun b hb => by
    obtain ⟨q, hq, rfl⟩ := List.mem_map.mp hb
    exact List.mem_map_of_mem (hsub q hq)
  refine c dp un gd cn cs a ccd cl outer A₀ base h₀ L m p loose mean mg mb s Q E B F X (fun q hq => N q (hsub q hq)) T hkc hdp hun hpr fun v h' tk news₁ hk hn hp => ?_
  have key : ∀ q ∈ news₁, q.1 ∈ sub.map (·.1) ∨ q.1 ∉ big.map (·.1) := fun q hq => by
    rcases (hn q hq).2 with e | e
    · refine .inr fun hb => ?_
      obtain ⟨r, hr, hrq⟩ := List.mem_map.mp hb
      have := (N r hr).1
      rw [hrq, e] at this
      cases this
    · exact .inl e
  refine hret v h' tk (news₁ ++ big.filter fun q => decide (q.1 ∉ sub.map (·.1))) (fun b o e n => hk b o e fun hb => n (hin b hb)) (fun q hq => ?_) (hP _ _ hp key)
  rcases List.mem_append.mp hq with hq | hq
  · exact ⟨(hn q hq).1, (hn q hq).2.imp id (hin _)⟩
  · obtain ⟨hq, hd⟩ := List.mem_filter.mp hq
    exact ⟨hk _ _ (N q hq).1 (of_decide_eq_true hd), .inr (List.mem_map_of_mem hq)⟩

/-- the caller's facts behind a call -/
theorem fr_of_kept {h₀ h h' : Heap} {L : Addr} {m : Str → Option Value} {news : List (Addr × Obj)} (F : Fr h₀ L h m) (N : News h₀ L h news) (k : Kept h h' (news.map (·.1))) : Fr h₀ L h' m := by
  obtain ⟨oL, es, ep, hL, r⟩ := F.ns
  have nL : L ∉ news.map (·.1) := fun q => by
    obtain ⟨p, hp, e⟩ := List.mem_map.mp q
    exact (N p hp).2.1 e
  refine ⟨⟨oL, es, ep, k _ _ hL nL, r⟩, fun b o e => k _ _ (F.keep b o e) fun q => ?_, F.above⟩
  obtain ⟨p, hp, rfl⟩ := List.mem_map.mp q
  rw [(N p hp).2.2] at e; cases e

end
local macro_rules | `(tactic| obtain $pat:rcasesPatMed := $e:term) => `(tactic| (refine foldLet ?_; intro Gfold; (rcases $e:term with $pat:rcasesPatMed) <;> (k_unfold; try clear Gfold)))
section

noncomputable def esc (x : Str) : Str := Txt.replace (Txt.replace (Txt.replace x "&" "&amp;") ">" "&gt;") "<" "&lt;"
noncomputable def une (x : Str) : Str := Txt.replace (Txt.replace (Txt.replace x "&lt;" "<") "&gt;" ">") "&amp;" "&"

theorem truthy_emptyK {prog : Program} {w : World} {A : Around} {E : Value → Shared → Prop} {s : Shared} {K : Frag} {g : Heap} {L d : Addr} {m : Str → Option Value} {Q : Bool → Shared → Prop} (F : Fr g L s.heap m) (X : K.In g)
    (hl : K.lookup d = some { cls := .type "dict", data := .dict #[] }) (hd : (d == sysModules) = false) (h : Q false { s with toks := s.toks + 1 + 1 }) : wpAny (model prog w) A (truthy (.ref d)) Q E s :=
  wpAny_truthy_dict (knd := strKind prog w) (kvs := []) hd ⟨_, #[], 0, F.keep _ _ (X _ _ hl), ⟨rfl, rfl, rfl⟩, rfl, fun e he => by simp at he, .nil, List.nodup_nil⟩ (by decide) h
section
local macro_rules | `(tactic| k_steps) => `(tactic| (repeat' (first | (k_unfold; (try dsimp only)) | (walk1; (try dsimp only)) | (dsimp only; walk1; (try dsimp only)) | fail "no step")))
local macro_rules | `(tactic| walk_at "truthy ref") => `(tactic| (k_dflt (refine truthy_emptyK (by k_asm) (by k_asm) (by k_is) (by decide) ?_)))
local macro_rules | `(tactic| walk_at "execs cons") => `(tactic| refine wpAny_execs_cons ?_)
local macro_rules | `(tactic| walk_at "execs nil") => `(tactic| refine wpAny_execs_nil ?_)

theorem escape_spec {w : World} {x : Str} {t : Tok} (hx : x.length ≤ 1000) (h1 : (Txt.replace x "&" "&amp;").length ≤ 1000) (h2 : (Txt.replace (Txt.replace x "&" "&amp;") ">" "&gt;").length ≤ 1000) :
    Contract w 37 [.str x t] (fun _ => True) [] (fun _ v => ∃ t', v = .str (esc x) t') := by
  refine contract_of (fun _ _ _ _ => trivial) (by with_unfolding_all rfl) (by with_unfolding_all rfl) [(Str.ofString "data", .str x t), (Str.ofString "entities", .ref 29)] (fun s X => binds_K X rfl (by k_is) rfl rfl rfl) (locs rfl) rfl rfl rfl (by decide) ?_
  intro dp un gd outer A base g L' h₁ p loose mean mg mb s B F X N T hdp hun hpr hlt
  k_steps
  all_goals exact leaveS_ (by assumption) (by assumption) ⟨_, rfl⟩
theorem unescape_spec {w : World} {x : Str} {t : Tok} (hx : x.length ≤ 1000) (h1 : (Txt.replace x "&lt;" "<").length ≤ 1000) (h2 : (Txt.replace (Txt.replace x "&lt;" "<") "&gt;" ">").length ≤ 1000) :
    Contract w 46 [.str x t] (fun _ => True) [] (fun _ v => ∃ t', v = .str (une x) t') := by
  refine contract_of (fun _ _ _ _ => trivial) (by with_unfolding_all rfl) (by with_unfolding_all rfl) [(Str.ofString "data", .str x t), (Str.ofString "entities", .ref 38)] (fun s X => binds_K X rfl (by k_is) rfl rfl rfl) (locs rfl) rfl rfl rfl (by decide) ?_
  intro dp un gd outer A base g L' h₁ p loose mean mg mb s B F X N T hdp hun hpr hlt
  k_steps
  all_goals exact leaveS_ (by assumption) (by assumption) ⟨_, rfl⟩
end

end
section


theorem fr_pin {h₀ h : Heap} {L : Addr} {m : Str → Option Value} {x : Str} {v : Value} (F : Fr h₀ L h m) (e : m x = some v) : Fr h₀ L h (fun y => if y = x then some v else m y) := by
  have : (fun y => if y = x then some v else m y) = m := by
    funext y
    by_cases h : y = x
    · subst h; simp [e]
    · simp [h]
  rw [this]; exact F

/-- a turn went through -/
noncomputable def TurnOk (h₀ : Heap) (L : Addr) (own : List (Addr × Obj)) (wr : List Addr) (J : (Str → Option Value) → List (Addr × Obj) → Prop) (s s' : Shared) : Prop :=
  ∃ h' tk m' news', s' = { s with heap := h', toks := tk } ∧ Fr h₀ L h' m' ∧ News h₀ L h' (news' ++ own) ∧ (∀ p ∈ news', p.1 ∉ wr) ∧ J m' news'
theorem turnOk_ {h₀ h' : Heap} {L : Addr} {own : List (Addr × Obj)} {wr : List Addr} {J : (Str → Option Value) → List (Addr × Obj) → Prop} {s : Shared} {tk : Nat} {m' : Str → Option Value} {news₁ : List (Addr × Obj)} (news' : List (Addr × Obj))
    (F : Fr h₀ L h' m') (N : News h₀ L h' news₁) (hs : ∀ p ∈ news' ++ own, p ∈ news₁) (hw : ∀ p ∈ news', p.1 ∉ wr) (j : J m' news') : TurnOk h₀ L own wr J s { s with heap := h', toks := tk } :=
  ⟨h', tk, m', news', rfl, F, fun p hp => N p (hs p hp), hw, j⟩
noncomputable def TurnEnd (h₀ : Heap) (L : Addr) (own : List (Addr × Obj)) (wr : List Addr) (J : (Str → Option Value) → List (Addr × Obj) → Prop) (s : Shared) (R : Result → Shared → Prop) (f : Flow) (s' : Shared) : Prop :=
  match f with
  | .ret v => R (.ok (.ret v)) s'
  | .brk => R (.ok .next) s'
  | _ => TurnOk h₀ L own wr J s s'

section
variable {prog : Program} {w : World} {A : Around} {s : Shared} {env : Env} {h₀ : Heap}

theorem forJ {R : Result → Shared → Prop} {target : Expr} {body : List Stmt} {I : Addr} {fp wr : List Addr} {n : Nat} {P : Nat → Value → Prop} {St : Nat → Heap → Prop} {m : Str → Option Value}
    {news : List (Addr × Obj)} (W : Walks prog w A I fp wr n P St)
    (hlet : ∀ i v (s : Shared) (Q : Unit → Shared → Prop) E, P i v → St (i + 1) s.heap → Q () s → wpAny (model prog w) A (letOwnedTupleGo target (.ref I) v) Q E s)
    (hLf : env.locals ∉ fp) (hwr : ∀ b ∈ wr, h₀.get? b = none) (hnw : ∀ p ∈ news, p.1 ∉ wr)
    (hst : St 0 s.heap) (F : Fr h₀ env.locals s.heap m) (N : News h₀ env.locals s.heap news)
    (J : Nat → (Str → Option Value) → List (Addr × Obj) → Prop) (h0 : J 0 m news)
    (turn : ∀ i v m₁ news₁ own h tk, i < n → P i v → J i m₁ news₁ → (∀ p ∈ news₁, p.1 ∉ wr) → (∀ p ∈ own, p.1 ∈ fp) → St (i + 1) h →
      Fr h₀ env.locals h m₁ → News h₀ env.locals h (news₁ ++ own) →
      wpAny (model prog w) A (assign target env v) (fun _ s₂ => wpAny (model prog w) A (execs body env) (TurnEnd h₀ env.locals own wr (J (i + 1)) s R) NoE s₂) NoE { s with heap := h, toks := tk })
    (done : ∀ h' tk m' news', Fr h₀ env.locals h' m' → News h₀ env.locals h' news' → (∀ p ∈ news', p.1 ∉ wr) → J n m' news' → R (.ok .next) { s with heap := h', toks := tk }) :
    codeAny (model prog w) A (.forLoop target (.ref I) body [] env) R s := by
  have hLw : env.locals ∉ wr := fun h => hLf (W.sub _ h)
  have old : ∀ b o, h₀.get? b = some o → b ∉ wr := fun b o e hb => by rw [hwr b hb] at e; cases e
  refine codeAny_forLoop_any
    (fun k s' => ∃ h' tk m' news' i, s' = { s with heap := h', toks := tk } ∧ St i h' ∧ Fr h₀ env.locals h' m' ∧ News h₀ env.locals h' news' ∧ (∀ p ∈ news', p.1 ∉ wr) ∧ J i m' news' ∧ i ≤ n ∧ k = n + 1 - i) ?_ (n + 1)
    ⟨s.heap, s.toks, m, news, 0, rfl, hst, F, N, hnw, h0, Nat.zero_le _, rfl⟩
  rintro k s' ⟨h', tk, m', news', i, rfl, hst', F', N', hnw', hJ, hi, rfl⟩
  have next : ∀ h₁ : Heap, (∀ b o, b ∉ wr → h'.get? b = some o → h₁.get? b = some o) → Fr h₀ env.locals h₁ m' ∧ News h₀ env.locals h₁ news' := fun h₁ hk₁ =>
    ⟨⟨F'.ns.at' fun o e => hk₁ _ o hLw e, fun b o e => hk₁ b o (old b o e) (F'.keep b o e), F'.above⟩, fun p hp => ⟨hk₁ _ _ (hnw' p hp) (N' p hp).1, (N' p hp).2⟩⟩
  by_cases hlt : i < n
  · refine W.item i _ _ _ hlt hst' fun v h₁ tk₁ hP hst₁ hk₁ => ?_
    obtain ⟨F₁, N₁⟩ := next h₁ hk₁
    refine hlet i v _ _ _ hP hst₁ ?_
    have Nown : News h₀ env.locals h₁ (ownOf h₀ fp h₁) := news_ownOf hLf
    refine wpAny_mono (turn i v m' news' (ownOf h₀ fp h₁) h₁ tk₁ hlt hP hJ hnw' ownOf_sub hst₁ F₁ (fun p hp => (List.mem_append.mp hp).elim (N₁ p) (Nown p))) (fun _ s₂ h₂ => wpAny_mono h₂ (fun f s₃ h₃ => ?_) fun _ _ e => e.elim) fun _ _ e => e.elim
    have fin : TurnOk h₀ env.locals (ownOf h₀ fp h₁) wr (J (i + 1)) s s₃ → ∃ m, m < n + 1 - i ∧ ∃ h' tk m' news' i, s₃ = { s with heap := h', toks := tk } ∧ St i h' ∧ Fr h₀ env.locals h' m' ∧ News h₀ env.locals h' news' ∧ (∀ p ∈ news', p.1 ∉ wr) ∧ J i m' news' ∧ i ≤ n ∧ m = n + 1 - i := by
      rintro ⟨h₃', tk₃, m₂, news₂, rfl, F₃, N₃, ha₃, hJ₃⟩
      refine ⟨n + 1 - (i + 1), by omega, h₃', tk₃, m₂, news₂, i + 1, rfl, ?_, F₃, fun p hp => N₃ p (List.mem_append_left _ hp), ha₃, hJ₃, hlt, rfl⟩
      refine W.frame _ _ _ hst₁ fun b hb o e => ?_
      cases hn : h₀.get? b with
      | some o₀ =>
        have : o₀ = o := by have := F₁.keep b o₀ hn; rw [e] at this; exact (Option.some.inj this).symm
        exact this ▸ F₃.keep b o₀ hn
      | none => exact (N₃ _ (List.mem_append_right _ (mem_ownOf hb hn e))).1
    cases f with
    | ret v => exact h₃
    | brk => exact h₃
    | cont => exact fin h₃
    | next => exact fin h₃
  · have hin : i = n := by omega
    subst hin
    refine W.done _ _ _ hst' fun h₁ tk₁ hk₁ => wpAny_execs_nil ?_
    obtain ⟨F₁, N₁⟩ := next h₁ hk₁
    exact done h₁ tk₁ m' news' F₁ N₁ hnw' hJ


/-- what is known of the iterator's place -/
structure ItAt (h₀ : Heap) (L I : Addr) (news : List (Addr × Obj)) : Prop where
  base : ∀ b o, h₀.get? b = some o → b < I
  frame : L < I
  led : ∀ p ∈ news, p.1 < I

theorem forPush {R : Result → Shared → Prop} {target : Expr} {body : List Stmt} {src : List Addr} {n : Nat} {P : Nat → Value → Prop} {St : Nat → Heap → Prop} {m : Str → Option Value}
    {news : List (Addr × Obj)} {ob : Obj} (W : Walks prog w A s.heap.objs.size (s.heap.objs.size :: src) [s.heap.objs.size] n P St)
    (hlet : ∀ i v (s' : Shared) (Q : Unit → Shared → Prop) E, P i v → St (i + 1) s'.heap → Q () s' → wpAny (model prog w) A (letOwnedTupleGo target (.ref s.heap.objs.size) v) Q E s')
    (hLf : env.locals ∉ src)
    (hst : St 0 (s.heap.push ob)) (F : Fr h₀ env.locals s.heap m) (N : News h₀ env.locals s.heap news)
    (J : Nat → (Str → Option Value) → List (Addr × Obj) → Prop) (h0 : J 0 m news)
    (turn : ∀ I i v m₁ news₁ own h tk, ItAt h₀ env.locals I news → i < n → P i v → J i m₁ news₁ → (∀ p ∈ news₁, p.1 ≠ I) → (∀ p ∈ own, p.1 = I ∨ p.1 ∈ src) → St (i + 1) h →
      Fr h₀ env.locals h m₁ → News h₀ env.locals h (news₁ ++ own) →
      wpAny (model prog w) A (assign target env v) (fun _ s₂ => wpAny (model prog w) A (execs body env) (TurnEnd h₀ env.locals own [I] (J (i + 1)) s R) NoE s₂) NoE { s with heap := h, toks := tk })
    (done : ∀ h' tk m' news', Fr h₀ env.locals h' m' → News h₀ env.locals h' news' → J n m' news' → R (.ok .next) { s with heap := h', toks := tk }) :
    codeAny (model prog w) A (.forLoop target (.ref s.heap.objs.size) body [] env) R { s with heap := s.heap.push ob } := by
  have hI : ItAt h₀ env.locals s.heap.objs.size news := ⟨fun b o e => Nat.lt_of_lt_of_le (Heap.lt_size (F.keep b o e)) (Nat.le_refl _), F.ns.lt, fun p hp => Heap.lt_size (N p hp).1⟩
  refine forJ (s := { s with heap := s.heap.push ob }) W hlet ?_ ?_ (fun p hp => ?_) hst (F.push ob) (fun p hp => ⟨Heap.get?_push_of_some _ (N p hp).1, (N p hp).2⟩) J h0 (fun i v m₁ news₁ own h tk hi hP hJ hw ho hst' F' N' => turn _ i v m₁ news₁ own h tk hI hi hP hJ (fun p hp e => hw p hp (by rw [e]; exact .head _)) (fun p hp => ?_) hst' F' N') (fun h' tk m' news' F' N' _ hJ => done h' tk m' news' F' N' hJ)
  · intro hm
    rcases List.mem_cons.mp hm with e | e
    · exact absurd hI.frame (by rw [e]; exact Nat.lt_irrefl _)
    · exact hLf e
  · intro b hb
    rw [List.mem_singleton.mp hb]
    cases e : h₀.get? s.heap.objs.size with
    | none => rfl
    | some o => exact absurd (hI.base _ _ e) (Nat.lt_irrefl _)
  · intro e
    have := hI.led p hp
    rw [List.mem_singleton.mp e] at this
    exact Nat.lt_irrefl _ this
  · exact List.mem_cons.mp (ho p hp)

theorem letGo_name {x : Str} {pos : Pos} {it v : Value} {Q : Unit → Shared → Prop} {E : Value → Shared → Prop} (h : Q () s) : wpAny (model prog w) A (letOwnedTupleGo (.Name x pos) it v) Q E s := wpAny_pure h

theorem forList {E : Value → Shared → Prop} {R : Result → Shared → Prop} {target : Expr} {body : List Stmt} {l : Addr} {items : Array Value} {m : Str → Option Value}
    {news : List (Addr × Obj)} (hh : A.handled = none) (hl : s.heap.IsList l items) (hLl : env.locals ≠ l)
    (ht : (∃ x pos, target = .Name x pos) ∨ ((∃ es k pos, target = .Tuple es k pos) ∧ ∀ v ∈ items.toList, ∃ a, v = .ref a))
    (F : Fr h₀ env.locals s.heap m) (N : News h₀ env.locals s.heap news)
    (J : Nat → (Str → Option Value) → List (Addr × Obj) → Prop) (h0 : J 0 m news)
    (turn : ∀ I i v m₁ news₁ own h tk, ItAt h₀ env.locals I news → items[i]? = some v → J i m₁ news₁ → (∀ p ∈ news₁, p.1 ≠ I) → (∀ p ∈ own, p.1 = I ∨ p.1 = l) → h.IsList l items →
      Fr h₀ env.locals h m₁ → News h₀ env.locals h (news₁ ++ own) →
      wpAny (model prog w) A (assign target env v) (fun _ s₂ => wpAny (model prog w) A (execs body env) (TurnEnd h₀ env.locals own [I] (J (i + 1)) s R) NoE s₂) NoE { s with heap := h, toks := tk })
    (done : ∀ h' tk m' news', Fr h₀ env.locals h' m' → News h₀ env.locals h' news' → J items.size m' news' → R (.ok .next) { s with heap := h', toks := tk }) :
    wpAny (model prog w) A (pyIter (.ref l)) (fun it s₂ => codeAny (model prog w) A (.forLoop target it body [] env) R s₂) E s := by
  have hlt : l ≠ s.heap.objs.size := by
    obtain ⟨ol, hol, _⟩ := id hl
    exact Nat.ne_of_lt (Heap.lt_size hol)
  refine wpAny_pyIter_list hl ?_
  refine forPush (Walks.list hh _ l hlt items) (fun i v s' Q E hP hst hq => ?_) (fun h => hLl (List.mem_singleton.mp h)) ⟨⟨_, Heap.get?_push_size _ rfl, rfl, rfl⟩, hl.at fun o e => Heap.get?_push_of_some _ e⟩ F N J h0
    (fun I i v m₁ news₁ own h tk hI hi hP hJ hw ho hst' F' N' => turn I i v m₁ news₁ own h tk hI hP hJ hw (fun p hp => (ho p hp).imp id List.mem_singleton.mp) hst'.2 F' N') done
  rcases ht with ⟨x, pos, rfl⟩ | ⟨⟨es, k, pos, rfl⟩, hv⟩
  · exact wpAny_pure hq
  · obtain ⟨a, rfl⟩ := hv v (by
      have := Array.mem_of_getElem? hP
      exact Array.mem_toList_iff.mpr this)
    exact wpAny_letOwnedTupleGo_listiter hst.1 hq

theorem forTup {E : Value → Shared → Prop} {R : Result → Shared → Prop} {x : Str} {pos : Pos} {body : List Stmt} {l : Addr} {items : Array Value} {m : Str → Option Value}
    {news : List (Addr × Obj)} (hh : A.handled = none) (hl : s.heap.IsTuple l items) (hLl : env.locals ≠ l)
    (F : Fr h₀ env.locals s.heap m) (N : News h₀ env.locals s.heap news)
    (J : Nat → (Str → Option Value) → List (Addr × Obj) → Prop) (h0 : J 0 m news)
    (turn : ∀ I i v m₁ news₁ own h tk, ItAt h₀ env.locals I news → items[i]? = some v → J i m₁ news₁ → (∀ p ∈ news₁, p.1 ≠ I) → (∀ p ∈ own, p.1 = I ∨ p.1 = l) → h.IsTuple l items →
      Fr h₀ env.locals h m₁ → News h₀ env.locals h (news₁ ++ own) →
      wpAny (model prog w) A (assign (.Name x pos) env v) (fun _ s₂ => wpAny (model prog w) A (execs body env) (TurnEnd h₀ env.locals own [I] (J (i + 1)) s R) NoE s₂) NoE { s with heap := h, toks := tk })
    (done : ∀ h' tk m' news', Fr h₀ env.locals h' m' → News h₀ env.locals h' news' → J items.size m' news' → R (.ok .next) { s with heap := h', toks := tk }) :
    wpAny (model prog w) A (pyIter (.ref l)) (fun it s₂ => codeAny (model prog w) A (.forLoop (.Name x pos) it body [] env) R s₂) E s := by
  have hlt : l ≠ s.heap.objs.size := by
    obtain ⟨ol, hol, _⟩ := id hl
    exact Nat.ne_of_lt (Heap.lt_size hol)
  refine wpAny_pyIter_tuple hl ?_
  exact forPush (Walks.tuple hh _ l hlt items) (fun i v s' Q E hP hst hq => wpAny_pure hq) (fun h => hLl (List.mem_singleton.mp h)) ⟨⟨_, Heap.get?_push_size _ rfl, rfl, rfl⟩, hl.at fun o e => Heap.get?_push_of_some _ e⟩ F N J h0
    (fun I i v m₁ news₁ own h tk hI hi hP hJ hw ho hst' F' N' => turn I i v m₁ news₁ own h tk hI hP hJ hw (fun p hp => (ho p hp).imp id List.mem_singleton.mp) hst'.2 F' N') done

theorem forRange {E : Value → Shared → Prop} {R : Result → Shared → Prop} {x : Str} {pos : Pos} {body : List Stmt} {r : Addr} {n : Nat} {t u v : Tok} {m : Str → Option Value}
    {news : List (Addr × Obj)} (hh : A.handled = none) (hr : IsRange s.heap r 0 n 1 t u v) (hn : n ≤ 1000)
    (F : Fr h₀ env.locals s.heap m) (N : News h₀ env.locals s.heap news)
    (J : Nat → (Str → Option Value) → List (Addr × Obj) → Prop) (h0 : J 0 m news)
    (turn : ∀ I i t' m₁ news₁ own h tk, ItAt h₀ env.locals I news → i < n → J i m₁ news₁ → (∀ p ∈ news₁, p.1 ≠ I) → (∀ p ∈ own, p.1 = I) →
      Fr h₀ env.locals h m₁ → News h₀ env.locals h (news₁ ++ own) →
      wpAny (model prog w) A (assign (.Name x pos) env (.int i t')) (fun _ s₂ => wpAny (model prog w) A (execs body env) (TurnEnd h₀ env.locals own [I] (J (i + 1)) s R) NoE s₂) NoE { s with heap := h, toks := tk })
    (done : ∀ h' tk m' news', Fr h₀ env.locals h' m' → News h₀ env.locals h' news' → J n m' news' → R (.ok .next) { s with heap := h', toks := tk }) :
    wpAny (model prog w) A (pyIter (.ref r)) (fun it s₂ => codeAny (model prog w) A (.forLoop (.Name x pos) it body [] env) R s₂) E s := by
  have hsz : Builtin.Range.rangeSize 0 n 1 = n := by
    unfold Builtin.Range.rangeSize
    rw [if_pos (by decide), Int.ediv_one]
    split <;> omega
  have hsm : Builtin.Range.small 0 n 1 = true := by
    unfold Builtin.Range.small Builtin.Range.rangeFitsLong
    rw [hsz]
    simp only [Bool.and_eq_true, Bool.or_eq_true, decide_eq_true_eq, beq_iff_eq]
    rw [if_pos (by decide)]
    simp only [Bool.and_eq_true, decide_eq_true_eq]
    refine ⟨⟨⟨⟨?_, ?_⟩, ?_⟩, ?_⟩, .inr ?_⟩ <;> constructor <;> omega
  refine wpAny_pyIter_range hr hsm ?_
  rw [hsz]
  exact forPush (Walks.range hh _ 0 1 n) (fun i v s' Q E hP hst hq => wpAny_pure hq) (fun h => nomatch h) (by simpa using Heap.get?_push_size _ rfl) F N J h0
    (fun I i v m₁ news₁ own h tk hI hi hP hJ hw ho hst' F' N' => by
      obtain ⟨t', rfl⟩ := hP
      simpa using turn I i t' m₁ news₁ own h tk hI hi hJ hw (fun p hp => (ho p hp).elim id fun h => nomatch h) F' N') done

theorem whileJ {R : Result → Shared → Prop} {test : Expr} {body orelse : List Stmt} {m : Str → Option Value} {news : List (Addr × Obj)} {L : Addr}
    (F : Fr h₀ L s.heap m) (N : News h₀ L s.heap news)
    (J : Nat → (Str → Option Value) → List (Addr × Obj) → Prop) (d₀ : Nat) (h0 : J d₀ m news)
    (turn : ∀ d m₁ news₁ h tk, J d m₁ news₁ → Fr h₀ L h m₁ → News h₀ L h news₁ →
      wpAny (model prog w) A (isTrue test env (eval test env)) (fun b s₂ => if b then wpAny (model prog w) A (execs body env) (TurnEnd h₀ L [] [] (fun m' news' => ∃ d', d' < d ∧ J d' m' news') s R) NoE s₂
        else wpAny (model prog w) A (execs orelse env) (fun f s₃ => R (.ok f) s₃) NoE s₂) NoE { s with heap := h, toks := tk }) :
    codeAny (model prog w) A (.whileLoop test body orelse env) R s := by
  refine codeAny_whileLoop (fun d s' => ∃ h' tk m' news', s' = { s with heap := h', toks := tk } ∧ Fr h₀ L h' m' ∧ News h₀ L h' news' ∧ J d m' news') ?_ d₀ ⟨s.heap, s.toks, m, news, rfl, F, N, h0⟩
  rintro d s' ⟨h', tk, m', news', rfl, F', N', hJ⟩
  refine wpAny_mono (turn d m' news' h' tk hJ F' N') (fun b s₂ h₂ => ?_) fun _ _ e => e.elim
  cases b with
  | false =>
    simp only [Bool.false_eq_true, if_false] at h₂ ⊢
    exact wpAny_mono h₂ (fun _ _ x => x) fun _ _ e => e.elim
  | true =>
    simp only [if_true] at h₂ ⊢
    refine wpAny_mono h₂ (fun f s₃ h₃ => ?_) fun _ _ e => e.elim
    have fin : TurnOk h₀ L [] [] (fun m' news' => ∃ d', d' < d ∧ J d' m' news') s s₃ → ∃ d', d' < d ∧ ∃ h' tk m' news', s₃ = { s with heap := h', toks := tk } ∧ Fr h₀ L h' m' ∧ News h₀ L h' news' ∧ J d' m' news' := by
      rintro ⟨h₃', tk₃, m₂, news₂, rfl, F₃, N₃, _, d', hd, hJ₃⟩
      exact ⟨d', hd, h₃', tk₃, m₂, news₂, rfl, F₃, fun p hp => N₃ p (List.mem_append_left _ hp), hJ₃⟩
    cases f with
    | ret v => exact h₃
    | brk => exact h₃
    | cont => exact fin h₃
    | next => exact fin h₃
end

end
section
local macro_rules | `(tactic| walk_at "pad") => `(tactic| fail)

/-- a list of pairs (sign, count) -/
noncomputable def CountsAt (h : Heap) (l : Addr) (c : List (Str × Int)) : Prop :=
  ∃ items : Array Value, h.IsList l items ∧ items.size = c.length ∧ ∀ (i : Nat) (p : Str × Int), c[i]? = some p → ∃ (a : Addr) (t u : Tok), items[i]? = some (.ref a) ∧ h.IsTuple a #[.str p.1 t, .int p.2 u]
theorem CountsAt.keep {h h' : Heap} {l : Addr} {c : List (Str × Int)} (x : CountsAt h l c) (k : ∀ b o, h.get? b = some o → h'.get? b = some o) : CountsAt h' l c := by
  obtain ⟨items, hl, hs, hi⟩ := x
  exact ⟨items, hl.at fun o e => k _ _ e, hs, fun i p e => let ⟨a, t, u, h1, o, ho, r⟩ := hi i p e; ⟨a, t, u, h1, o, k _ _ ho, r⟩⟩
theorem kept_nil {h g : Heap} (k : Kept h g []) : ∀ b o, h.get? b = some o → g.get? b = some o := fun b o e => k b o e (by simp)

noncomputable def tailOf (s : Str) : Str := if s = "<" then "lt;" else if s = ">" then "gt;" else "amp;"
noncomputable def repAmp : Nat → Str
  | 0 => ""
  | n + 1 => "amp;" ++ repAmp n
noncomputable def piece (p : Str × Int) : Str := if p.2 = 0 ∨ p.1 = "a" then p.1 else "&" ++ repAmp (p.2 - 1).toNat ++ tailOf p.1
noncomputable def okPair (p : Str × Int) : Prop := (p.1 = "<" ∨ p.1 = ">" ∨ p.1 = "&" ∨ p.1 = "a") ∧ 0 ≤ p.2 ∧ p.2 ≤ 4

noncomputable def writ (c : List (Str × Int)) : Str := Txt.join "|" (c.map piece)

theorem len_repAmp : ∀ n, (repAmp n).length = 4 * n
  | 0 => rfl
  | n + 1 => by rw [repAmp, Str.length_append, len_repAmp n]; show 4 + 4 * n = _; omega
theorem mul_amp {prog : Program} {w : World} {A : Around} {E : Value → Shared → Prop} {s : Shared} {k : Int} {t u : Tok} {Q : Value → Shared → Prop} (h0 : ¬ k = 0) (h1 : 0 ≤ k) (h4 : k ≤ 4)
    (h : ∀ t' tk, Q (.str (repAmp (k - 1).toNat) t') { s with toks := tk }) : wpAny (model prog w) A (binaryOp .Mult (.str (Str.ofString "amp;") t) (.int (k - 1) u)) Q E s := by
  refine SB.mul (mulOk_of 16 16 (by decide) (by omega) (by omega) (by decide) (by decide)) fun t' tk => ?_
  have e : Txt.mul (Str.ofString "amp;") (k - 1) = repAmp (k - 1).toNat := by
    have : k = 1 ∨ k = 2 ∨ k = 3 ∨ k = 4 := by omega
    rcases this with rfl | rfl | rfl | rfl <;> decide +kernel
  rw [e]; exact h t' tk
theorem add_short {prog : Program} {w : World} {A : Around} {E : Value → Shared → Prop} {s : Shared} {x y : Str} {t u : Tok} {Q : Value → Shared → Prop} (hx : x.length ≤ 1000) (hy : y.length ≤ 1000)
    (h : ∀ t' tk, Q (.str (x ++ y) t') { s with toks := tk }) : wpAny (model prog w) A (binaryOp .Add (.str x t) (.str y u)) Q E s :=
  PyProof.Rows.add_str h (by rw [sizeLine_eq]; omega)
local macro_rules | `(tactic| walk_at "binaryOp Mult str int") => `(tactic| (refine mul_amp (by assumption) (by assumption) (by assumption) ?_; intro _ _))
local macro_rules | `(tactic| walk_at "binaryOp Add str str") => `(tactic| (refine add_short (by first | decide | ((try simp only [Str.length_append, len_repAmp]); (have e1 : (Str.ofString "&").length = 1 := by decide); omega)) (by first | decide | ((try simp only [Str.length_append, len_repAmp]); omega)) ?_; intro _ _))
local macro_rules | `(tactic| walk_at "exec For Tuple Name cons nil") => `(tactic| refine wpAny_For ?_)

local macro_rules | `(tactic| k_steps) => `(tactic| (repeat' (first | (k_unfold; (try dsimp only)) | (walk1; (try dsimp only)) | (dsimp only; walk1; (try dsimp only)) | fail "no step")))
theorem strsAre_push : ∀ {vs : List Value} {ss : List Str} {x : Str} {t : Tok}, StrsAre vs ss → StrsAre (vs ++ [.str x t]) (ss ++ [x])
  | _, _, _, _, .nil => .cons _ _ .nil
  | _, _, _, _, .cons y u h => .cons y u (strsAre_push h)
theorem take_map_succ {α β : Type} (f : α → β) {c : List α} {i : Nat} {p : α} (h : c[i]? = some p) : (c.take (i + 1)).map f = (c.take i).map f ++ [f p] := by
  rw [List.take_add_one, h]; simp
theorem turn_piece {ts : Array Value} {c : List (Str × Int)} {i : Nat} {pr : Str × Int} {x : Str} {t : Tok} (hS : StrsAre ts.toList ((c.take i).map piece)) (hci : c[i]? = some pr) (hx : piece pr = x) : StrsAre (ts.push (.str x t)).toList ((c.take (i + 1)).map piece) := by
  rw [take_map_succ piece hci, Array.toList_push, hx]; exact strsAre_push hS
theorem sub1 {o : Addr × Obj} {own pre : List (Addr × Obj)} : ∀ p ∈ [o] ++ own, p ∈ pre ++ (o :: own) := fun _ hp => List.mem_append_right _ hp
theorem piece_lt {k : Int} (h : ¬ k = 0) : piece ("<", k) = ("&" : Str) ++ repAmp (k - 1).toNat ++ "lt;" := by
  unfold piece; rw [if_neg (by rintro (e | e); exact h e; exact absurd e (by first | exact (by decide : ¬ (("<" : Str) = "a")) | exact (by decide : ¬ ((">" : Str) = "a")) | exact (by decide : ¬ (("&" : Str) = "a"))))]; rfl
theorem piece_gt {k : Int} (h : ¬ k = 0) : piece (">", k) = ("&" : Str) ++ repAmp (k - 1).toNat ++ "gt;" := by
  unfold piece; rw [if_neg (by rintro (e | e); exact h e; exact absurd e (by first | exact (by decide : ¬ (("<" : Str) = "a")) | exact (by decide : ¬ ((">" : Str) = "a")) | exact (by decide : ¬ (("&" : Str) = "a"))))]; rfl
theorem piece_amp {k : Int} (h : ¬ k = 0) : piece ("&", k) = ("&" : Str) ++ repAmp (k - 1).toNat ++ "amp;" := by
  unfold piece; rw [if_neg (by rintro (e | e); exact h e; exact absurd e (by first | exact (by decide : ¬ (("<" : Str) = "a")) | exact (by decide : ¬ ((">" : Str) = "a")) | exact (by decide : ¬ (("&" : Str) = "a"))))]; rfl
theorem piece_zero {s : Str} {k : Int} (h : k = 0) : piece (s, k) = s := by
  unfold piece; rw [if_pos (.inl h)]
theorem piece_a {k : Int} : piece ("a", k) = "a" := by
  unfold piece; rw [if_pos (.inr rfl)]
theorem sum_le {α : Type} (f : α → Nat) (B : Nat) : ∀ l : List α, (∀ x ∈ l, f x ≤ B) → (l.map f).sum ≤ l.length * B
  | [], _ => by simp
  | x :: l, h => by
    have h1 := h x (.head _)
    have h2 := sum_le f B l fun y hy => h y (.tail _ hy)
    rw [List.map_cons, List.sum_cons, List.length_cons, Nat.add_mul]; omega
theorem len_piece {p : Str × Int} (h : okPair p) : (piece p).length ≤ 30 := by
  obtain ⟨s, k⟩ := p
  obtain ⟨hs, h0, h4⟩ := h
  dsimp only at hs h0 h4
  have : k = 0 ∨ k = 1 ∨ k = 2 ∨ k = 3 ∨ k = 4 := by omega
  rcases this with rfl | rfl | rfl | rfl | rfl <;> rcases hs with rfl | rfl | rfl | rfl <;> decide +kernel
theorem join_room {c : List (Str × Int)} (hc : c.length ≤ 3) (hok : ∀ p ∈ c, okPair p) : ((c.map piece).map (·.length)).sum + (c.map piece).length * 64 ≤ 16777216 := by
  have h1 := sum_le (fun p => (piece p).length) 30 c fun p hp => len_piece (hok p hp)
  rw [List.map_map, List.length_map]
  show (c.map fun p => (piece p).length).sum + _ ≤ _
  omega
local macro_rules | `(tactic| walk_at "call builtin:str.join") => `(tactic| (refine join_listC (News.isList (by assumption) (.head _)) (by assumption) (by decide) (by assumption) ?_; intro _ _))
local macro_rules | `(tactic| k_all) => `(tactic| with_reducible assumption)
theorem written_spec {w : World} {l : Addr} {c : List (Str × Int)} (hc : c.length ≤ 3) (hok : ∀ p ∈ c, okPair p) :
    Contract w 180 [.ref l] (fun h => CountsAt h l c) [] (fun _ v => ∃ t', v = .str (writ c) t') := by
  refine contract_of (fun _ _ x k => x.keep (kept_nil k)) (by with_unfolding_all rfl) (by with_unfolding_all rfl) [(Str.ofString "counts", .ref l)] (fun s X => BindsTo.of_eq rfl) (locs rfl) rfl rfl rfl (by decide) ?_
  intro dp un gd outer A base g L' h₁ p loose mean mg mb s B F X N T hdp hun hpr hlt
  obtain ⟨items, hl, hsz, hit⟩ := hpr
  k_steps
  rename Fr _ _ _ _ => F
  rename_i X0 h2 l1 h3 tk
  rename News _ _ _ _ => N
  have hXl : X0 ≠ l := by
    intro e
    obtain ⟨o, ho, _⟩ := hl
    have := (N (X0, _) (.head _)).2.2
    rw [e, ho] at this
    cases this
  refine forList rfl (hl.at fun o e => F.keep _ _ e) ?hLl (.inr ⟨⟨_, _, _, rfl⟩, ?hv⟩) F N
    (fun i m news => m "texts" = some (.ref X0) ∧ ∃ ts ep, news = [(X0, W.listOf ts ep)] ∧ StrsAre ts.toList ((c.take i).map piece)) ⟨rfl, #[], 0, rfl, .nil⟩ ?turn ?done
  case hLl =>
    intro e
    obtain ⟨o, ho, _⟩ := hl
    exact Nat.lt_irrefl _ (Nat.lt_of_lt_of_le (Heap.lt_size ho) (e ▸ F.above))
  case hv =>
    intro v hv
    obtain ⟨j, hj, rfl⟩ := List.mem_iff_getElem.mp hv
    obtain ⟨a, t, u, ha, _⟩ := hit j (c[j]'(by simpa [hsz] using hj)) (by simp)
    rw [Array.getElem?_eq_getElem (by simpa using hj)] at ha
    exact ⟨a, by simpa using ha⟩
  case turn =>
    intro I i v m₁ news₁ own h tk hI hv hpat hne hown hls F₁ N₁
    obtain ⟨hm, ts, ep, rfl, hS⟩ := hpat
    have hi : i < c.length := by
      rw [← hsz]; exact (Array.getElem?_eq_some_iff.mp hv).1
    obtain ⟨⟨sg, k⟩, hci⟩ : ∃ pr, c[i]? = some pr := ⟨c[i], by simp [hi]⟩
    obtain ⟨a, t, u, ha, hT⟩ := hit i _ hci
    rw [ha] at hv
    cases hv
    obtain ⟨hsg, hk0, hk4⟩ := hok _ (List.mem_of_getElem? hci)
    dsimp only at hT hsg hk0 hk4
    have F₂ : Fr g L' h _ := fr_pin F₁ hm
    have N₂ : News g L' h _ := N₁
    have hXI := hne _ (.head _)
    dsimp only at hXI
    have hoX : ∀ p ∈ own, p.1 ≠ X0 := fun p hp e => (hown p hp).elim (fun q => hXI (e.symm.trans q)) fun q => hXl (e.symm.trans q)
    clear F N F₁ N₁ hne
    simp only [List.cons_append, List.nil_append] at N₂
    rcases hsg with rfl | rfl | rfl | rfl
    all_goals
      k_unmd
      k_fold
      k_steps
      all_goals refine turnOk_ [(X0, _)] (by assumption) (by assumption) (by first | exact fun p hp => hp | exact sub1 (pre := [_])) (fun p hp => by rw [List.mem_singleton.mp hp]; simpa using hXI) ⟨rfl, _, _, rfl, turn_piece hS hci ?_⟩
      all_goals first | exact piece_zero (by assumption) | exact piece_a | exact piece_lt (by assumption) | exact piece_gt (by assumption) | exact piece_amp (by assumption)
  case done =>
    intro h tk m news F₁ N₁ hpat
    obtain ⟨hm, ts, ep, rfl, hS⟩ := hpat
    rw [hsz, List.take_length] at hS
    have hw := join_room hc hok
    have F₂ : Fr g L' h _ := fr_pin F₁ hm
    have N₂ : News g L' h _ := N₁
    clear F N F₁ N₁
    dsimp only
    k_steps
    all_goals exact leaveS_ (by assumption) (by assumption) ⟨_, rfl⟩

end
section
local macro_rules | `(tactic| k_steps) => `(tactic| (repeat' (first | (k_unfold; (try dsimp only)) | (walk1; (try dsimp only)) | (dsimp only; walk1; (try dsimp only)) | fail "no step")))

noncomputable def sgn (i : Int) : Str := Txt.item (Str.ofString "<>&a") i
noncomputable def countsOf (n : Int) : List (Str × Int) := [(sgn ((n.fdiv 27).fmod 4), n.fmod 3), (sgn ((n.fdiv 108).fmod 4), (n.fdiv 3).fmod 3), (sgn ((n.fdiv 432).fmod 4), (n.fdiv 9).fmod 3)]

theorem counts_at {h : Heap} {l a1 a2 a3 : Addr} {e : Nat} {s1 s2 s3 : Str} {k1 k2 k3 : Int} {t1 t2 t3 u1 u2 u3 : Tok}
    (hl : h.get? l = some (W.listOf #[.ref a1, .ref a2, .ref a3] e))
    (h1 : h.get? a1 = some { cls := .type "tuple", data := .seq #[.str s1 t1, .int k1 u1] })
    (h2 : h.get? a2 = some { cls := .type "tuple", data := .seq #[.str s2 t2, .int k2 u2] })
    (h3 : h.get? a3 = some { cls := .type "tuple", data := .seq #[.str s3 t3, .int k3 u3] }) : CountsAt h l [(s1, k1), (s2, k2), (s3, k3)] := by
  refine ⟨_, ⟨_, hl, rfl, _, rfl⟩, rfl, fun i p hp => ?_⟩
  match i with
  | 0 => cases hp; exact ⟨a1, t1, u1, rfl, _, h1, rfl, _, rfl⟩
  | 1 => cases hp; exact ⟨a2, t2, u2, rfl, _, h2, rfl, _, rfl⟩
  | 2 => cases hp; exact ⟨a3, t3, u3, rfl, _, h3, rfl, _, rfl⟩
  | i + 3 => simp at hp

theorem sgn_ok (m : Int) : sgn (m.fmod 4) = "<" ∨ sgn (m.fmod 4) = ">" ∨ sgn (m.fmod 4) = "&" ∨ sgn (m.fmod 4) = "a" := by
  have h0 := Int.fmod_nonneg_of_pos m (show (0 : Int) < 4 by decide)
  have h1 := Int.fmod_lt_of_pos m (show (0 : Int) < 4 by decide)
  generalize m.fmod 4 = i at *
  have : i = 0 ∨ i = 1 ∨ i = 2 ∨ i = 3 := by omega
  rcases this with rfl | rfl | rfl | rfl
  · exact .inl (by decide +kernel)
  · exact .inr (.inl (by decide +kernel))
  · exact .inr (.inr (.inl (by decide +kernel)))
  · exact .inr (.inr (.inr (by decide +kernel)))
theorem counts_ok (n : Int) : ∀ p ∈ countsOf n, (p.1 = "<" ∨ p.1 = ">" ∨ p.1 = "&" ∨ p.1 = "a") ∧ 0 ≤ p.2 ∧ p.2 ≤ 2 := by
  have hk : ∀ m : Int, 0 ≤ m.fmod 3 ∧ m.fmod 3 ≤ 2 := fun m => by
    have h0 := Int.fmod_nonneg_of_pos m (show (0 : Int) < 3 by decide)
    have h1 := Int.fmod_lt_of_pos m (show (0 : Int) < 3 by decide)
    omega
  intro p hp
  simp only [countsOf, List.mem_cons, List.not_mem_nil, or_false] at hp
  rcases hp with rfl | rfl | rfl
  · exact ⟨sgn_ok _, hk _⟩
  · exact ⟨sgn_ok _, hk _⟩
  · exact ⟨sgn_ok _, hk _⟩

end
section

/-- addresses apart, said of numbers -/
noncomputable def Df (a b : Nat) : Prop := a ≠ b
theorem Df.to {a b : Nat} (h : Df a b) : a ≠ b := h
theorem Df.from {a b : Nat} (h : Df a b) : b ≠ a := Ne.symm h
noncomputable def NotAt (a : Nat) : List Nat → Prop
  | [] => True
  | b :: r => Df a b ∧ NotAt a r
noncomputable def Apart : List Nat → Prop
  | [] => True
  | a :: r => NotAt a r ∧ Apart r
theorem notAt_of {a : Nat} : ∀ {l : List Nat}, a ∉ l → NotAt a l
  | [], _ => trivial
  | _ :: _, h => ⟨fun e => h (e ▸ .head _), notAt_of fun q => h (.tail _ q)⟩
theorem apart_of : ∀ {l : List Addr}, l.Nodup → Apart l
  | [], _ => trivial
  | _ :: _, h => ⟨notAt_of (List.nodup_cons.mp h).1, apart_of (List.nodup_cons.mp h).2⟩
structure Nd where
  nm : Str
  tk : Tok
  x : Addr
  dx : Addr
  l : Addr
  np : Int
  nt : Tok
  sv : Array Value
  se : Nat
noncomputable def Nd.objs (d : Nd) : List (Addr × Obj) :=
  [(d.x, ⟨.ref 65, some d.dx, .plain, #[some (.str d.nm d.tk), some (.int d.np d.nt), some (.ref d.l)]⟩), (d.dx, W.dictOf [] 0), (d.l, W.listOf d.sv d.se)]

structure Srt where
  self : Addr
  sd : Addr
  d : Addr
  h1 : Int
  h2 : Int
  h3 : Int
  h4 : Int
  t1 : Tok
  t2 : Tok
  t3 : Tok
  t4 : Tok
  ae : Nat
  od : Obj
  rv : Value
  po : Int
  nf : Int
  pt : Tok
  ft : Tok
noncomputable def Srt.attrs (S : Srt) : List DictEntry := [⟨S.h1, .str (Str.ofString "_node2info") S.t1, .ref S.d⟩, ⟨S.h2, .str (Str.ofString "_ready_nodes") S.t2, S.rv⟩, ⟨S.h3, .str (Str.ofString "_npassedout") S.t3, .int S.po S.pt⟩, ⟨S.h4, .str (Str.ofString "_nfinished") S.t4, .int S.nf S.ft⟩]
noncomputable def Srt.objs (S : Srt) : List (Addr × Obj) := [(S.self, instObj 162 S.sd), (S.sd, W.dictOf S.attrs S.ae), (S.d, S.od)]

section
variable {prog : Program} {w : World} {A : Around} {E : Value → Shared → Prop} {s : Shared} {h₀ : Heap} {L d : Addr} {m : Str → Option Value} {news : List (Addr × Obj)} {od : Obj} {kvs : List (Str × Value)} {k : Str} {t : Tok} {v : Value} {Q : Value → Shared → Prop}
theorem dget_some (N : News h₀ L s.heap news) (hm : (d, od) ∈ news) (hd : od.IsDictOf (strKind prog w) kvs) (lo : (d == sysModules) = false) (hv : valueAt kvs k = some v) (h : Q v { s with toks := s.toks + 1 }) :
    wpAny (model prog w) A (call (.builtin "dict.get") [.ref d, .str k t]) Q E s := by
  have hD := kda_dict N hm hd
  refine call_meetsIn PySem.F.slot_dict_get hD.typeIs PySem.F.entry_dict_get (PySem.F.args_dict_get_2 _ _) (meets_dict_get (strKind prog w) d (strKind_is prog w k t) lo) ⟨valueAt kvs, hD.mapOf, ?_⟩
  rw [hv]; exact h
theorem dget_none (N : News h₀ L s.heap news) (hm : (d, od) ∈ news) (hd : od.IsDictOf (strKind prog w) kvs) (lo : (d == sysModules) = false) (hv : valueAt kvs k = none) (h : Q .none { s with toks := s.toks + 1 }) :
    wpAny (model prog w) A (call (.builtin "dict.get") [.ref d, .str k t]) Q E s := by
  have hD := kda_dict N hm hd
  refine call_meetsIn PySem.F.slot_dict_get hD.typeIs PySem.F.entry_dict_get (PySem.F.args_dict_get_2 _ _) (meets_dict_get (strKind prog w) d (strKind_is prog w k t) lo) ⟨valueAt kvs, hD.mapOf, ?_⟩
  rw [hv]; exact h
end
theorem allLt_back {d : Nat} {l : List (Addr × Obj)} (h : AllLt d l) : ∀ p ∈ l, @LT.lt Nat _ p.1 d := by
  induction l with
  | nil => intro p hp; nomatch hp
  | cons q r ih =>
    intro p hp
    rcases List.mem_cons.mp hp with e | hp
    · rw [e]; exact h.1
    · exact ih h.2 p hp

end
section
-- _get_nodeinfo by a contract of its own, so that add's walks do not go through it
section
local macro_rules | `(tactic| k_steps) => `(tactic| (repeat' (first | (k_unfold; (try dsimp only)) | (walk1; (try dsimp only)) | (dsimp only; walk1; (try dsimp only)) | fail "no step")))
local macro_rules | `(tactic| walk_at "call builtin:dict.get") => `(tactic| first
  | (refine dget_some (by with_reducible assumption) (by k_mem) (by with_reducible assumption) (by with_reducible assumption) (by first | with_reducible assumption | (rename (∀ _, valueAt _ _ = some _) => hvv; exact hvv _)) ?_)
  | (refine dget_none (by with_reducible assumption) (by k_mem) (by with_reducible assumption) (by with_reducible assumption) (by first | with_reducible assumption | (rename (∀ _, valueAt _ _ = none) => hvv; exact hvv _)) ?_))
local macro_rules | `(tactic| k_ne) => `(tactic| (refine neN ?_; (try dsimp only); first | exact Df.to (by with_reducible assumption) | exact Df.from (by with_reducible assumption) | omega))
local macro_rules | `(tactic| k_room) => `(tactic| ((try simp only [depth_under_make, depth_under_kw, depth_in1, depth_deeper, depth_caller]); (try dsimp only [ktrTop]); omega))
local macro_rules | `(tactic| walk_at "setItem ref str") => `(tactic| (k_dflt (refine kda_set (knd := PySem.strKind _ _) (by k_asm) (by k_asm) (by k_updF) (by k_asm) (strKind_is _ _ _ _) (by first | with_reducible assumption | (rename (∀ _, List.length _ ≤ sizeLine) => hzz; exact hzz _)) ?_); intro h' o' F' N' hd'; (try dsimp only at N')))

theorem gni_found {w : World} {S : Srt} {kvs : List (Str × Value)} {t : Tok} {nm : Str} {x : Addr} (hd : S.od.IsDictOf (strKind PR w) kvs) (lo : (S.d == sysModules) = false) (hv : valueAt kvs nm = some (.ref x)) (hnd : (S.objs.map (·.1)).Nodup) :
    ContractR 12 120 w 105 [.ref S.self, .str nm t] (fun _ => True) S.objs (fun news v => v = .ref x ∧ ∀ q ∈ S.objs, q ∈ news) := by
  obtain ⟨self, sd, d, h1, h2, h3, h4, t1, t2, t3, t4, ae, od, rv, po, nf, pt, ft⟩ := S
  dsimp only at *
  replace hnd := apart_of hnd
  simp only [Srt.objs, Srt.attrs, List.map_cons, List.map_nil, Apart, NotAt, and_true] at hnd
  obtain ⟨⟨z01, z02⟩, z12⟩ := hnd
  refine contractR_of (d' := 10) (u' := 110) (by decide) (by decide) (fun _ _ _ _ => trivial) (by with_unfolding_all rfl) (by with_unfolding_all rfl) [(Str.ofString "self", .ref self), (Str.ofString "node", .str nm t)] (fun s X => BindsTo.of_eq rfl) (locs rfl) rfl rfl rfl (by decide) ?_
  intro dp un gd outer A base g L' h₁ p loose mean mg mb s B F X N T hdp hun hpr hlt
  simp only [Srt.objs, Srt.attrs, List.cons_append, List.nil_append] at *
  k_lt hlt
  k_unmd
  k_fold
  k_steps
  refine' leaveS_ ?F ?N ⟨rfl, ?hm⟩
  case F => assumption
  case N => assumption
  case hm => k_allIn
theorem gni_new {w : World} {S : Srt} {kvs : List (Str × Value)} {t : Tok} {a : Str} {z : Addr} {oz : Obj} (hd : S.od.IsDictOf (strKind PR w) kvs) (lo : (S.d == sysModules) = false) (hv : valueAt kvs a = none) (hz : kvs.length ≤ sizeLine)
    (hnd : ((S.objs ++ [(z, oz)]).map (·.1)).Nodup) :
    ContractR 12 120 w 105 [.ref S.self, .str a t] (fun _ => True) (S.objs ++ [(z, oz)])
      (fun news v => ∃ (tk x dx l nt se : Nat) (od' : Obj), v = .ref x ∧ od'.IsDictOf (strKind PR w) (stored kvs a (.ref x)) ∧ (∀ q ∈ (S.self, instObj 162 S.sd) :: (S.sd, W.dictOf S.attrs S.ae) :: (S.d, od') :: (z, oz) :: Nd.objs ⟨a, tk, x, dx, l, 0, nt, #[], se⟩, q ∈ news) ∧
        @LT.lt Nat _ dx x ∧ @LT.lt Nat _ x l ∧ @LT.lt Nat _ z dx) := by
  obtain ⟨self, sd, d, h1, h2, h3, h4, t1, t2, t3, t4, ae, od, rv, po, nf, pt, ft⟩ := S
  dsimp only at *
  replace hnd := apart_of hnd
  simp only [Srt.objs, Srt.attrs, List.cons_append, List.nil_append, List.map_cons, List.map_nil, Apart, NotAt, and_true] at hnd
  obtain ⟨⟨z01, z02, z03⟩, ⟨z12, z13⟩, z23⟩ := hnd
  refine contractR_of (d' := 10) (u' := 110) (by decide) (by decide) (fun _ _ _ _ => trivial) (by with_unfolding_all rfl) (by with_unfolding_all rfl) [(Str.ofString "self", .ref self), (Str.ofString "node", .str a t)] (fun s X => BindsTo.of_eq rfl) (locs rfl) rfl rfl rfl (by decide) ?_
  intro dp un gd outer A base g L' h₁ p loose mean mg mb s B F X N T hdp hun hpr hlt
  simp only [Srt.objs, Srt.attrs, List.cons_append, List.nil_append] at *
  k_lt hlt
  k_unmd
  k_fold
  k_steps
  refine' leaveS_ ?F ?N ⟨_, _, _, _, _, _, _, rfl, ?hd, ?hm, ?l0, ?l1, ?l2⟩
  case F => assumption
  case N => assumption
  case hd => assumption
  case hm => (simp only [Nd.objs]); k_allIn
  case l0 => omega
  case l1 => omega
  case l2 => omega
end
section
variable {w : World} {S : Srt} {kvs : List (Str × Value)} {t : Tok} {dp un : Nat} {gd : Option (List Code)} {cn : Str} {cs : Scope} {a : Addr} {ccd : Value} {cl : List (Str × Addr)} {outer : List Env} {A₀ : Around} {base h₀ : Heap} {L : Addr} {m : Str → Option Value}
    {p : Program} {loose : List Str} {mean : ExcName → Option Value} {mg mb : Str → Option Value} {s : Shared} {Q E : Value → Shared → Prop} {led : List (Addr × Obj)}
/-- the call, at a ledger that holds the sorter -/
theorem gni_found_at {nm : Str} {x : Addr} (hd : S.od.IsDictOf (strKind PR w) kvs) (lo : (S.d == sysModules) = false) (hv : valueAt kvs nm = some (.ref x)) (hnd : (S.objs.map (·.1)).Nodup)
    (B : Below A₀ base outer h₀) (F : Fr h₀ L s.heap m) (X : (Mine.hd.heap_1 w.params).In h₀) (T : Top p loose mean mg mb h₀) (N : News h₀ L s.heap led) (hS : ∀ q ∈ S.objs, q ∈ led)
    (hdp : dp + 12 < recursionLimit) (hun : un + 120 < cLine) (hkc : cs.kind = .function)
    (hret : ∀ h' tk, Fr h₀ L h' m → News h₀ L h' led → Q (.ref x) { s with heap := h', toks := tk }) :
    wpAny (model PR w) (ktrTop dp un gd cn cs L a ccd cl outer) (call (.ref 105) [.ref S.self, .str nm t]) Q E s := by
  have N₁ : News h₀ L s.heap S.objs := fun q hq => N q (hS q hq)
  refine wpAny_call (gni_found hd lo hv hnd dp un gd cn cs a ccd cl outer A₀ base h₀ L m p loose mean mg mb s Q E B F X N₁ T hkc hdp hun trivial fun v h' tk news' hk hn hP => ?_)
  obtain ⟨rfl, hsub⟩ := hP
  refine hret h' tk (fr_of_kept F N₁ hk) fun q hq => ⟨?_, (N q hq).2⟩
  by_cases hin : q.1 ∈ S.objs.map (·.1)
  · obtain ⟨r, hr, hrq⟩ := List.mem_map.mp hin
    have h1 := (N₁ r hr).1
    rw [hrq, (N q hq).1] at h1
    rw [← hrq, (hn r (hsub r hr)).1, Option.some.inj h1]
  · exact hk _ _ (N q hq).1 hin
theorem gni_new_at {nm : Str} {z : Addr} {oz : Obj} {g : Obj → List (Addr × Obj)} (hd : S.od.IsDictOf (strKind PR w) kvs) (lo : (S.d == sysModules) = false) (hv : valueAt kvs nm = none) (hz : kvs.length ≤ sizeLine) (hnd : ((S.objs ++ [(z, oz)]).map (·.1)).Nodup)
    (B : Below A₀ base outer h₀) (F : Fr h₀ L s.heap m) (X : (Mine.hd.heap_1 w.params).In h₀) (T : Top p loose mean mg mb h₀) (N : News h₀ L s.heap led) (U : UpdF S.d S.od led g) (hself : (S.self, instObj 162 S.sd) ∈ led) (hsd : (S.sd, W.dictOf S.attrs S.ae) ∈ led) (hzin : (z, oz) ∈ led)
    (hdp : dp + 12 < recursionLimit) (hun : un + 120 < cLine) (hkc : cs.kind = .function)
    (hret : ∀ (h' : Heap) (tk : Nat) (k x dx l nt se : Nat) (od' : Obj), Fr h₀ L h' m → News h₀ L h' (Nd.objs ⟨nm, k, x, dx, l, 0, nt, #[], se⟩ ++ g od') → od'.IsDictOf (strKind PR w) (stored kvs nm (.ref x)) →
      @LT.lt Nat _ dx x → @LT.lt Nat _ x l → @LT.lt Nat _ z dx → Q (.ref x) { s with heap := h', toks := tk }) :
    wpAny (model PR w) (ktrTop dp un gd cn cs L a ccd cl outer) (call (.ref 105) [.ref S.self, .str nm t]) Q E s := by
  obtain ⟨pre, post, rfl, hg, ha, hb⟩ := U.split
  have hS : ∀ q ∈ S.objs ++ [(z, oz)], q ∈ pre ++ (S.d, S.od) :: post := fun q hq => by
    simp only [Srt.objs, List.cons_append, List.nil_append, List.mem_cons, List.not_mem_nil, or_false] at hq
    rcases hq with rfl | rfl | rfl | rfl
    · exact hself
    · exact hsd
    · exact List.mem_append_right _ (.head _)
    · exact hzin
  have N₁ : News h₀ L s.heap (S.objs ++ [(z, oz)]) := fun q hq => N q (hS q hq)
  refine wpAny_call (gni_new hd lo hv hz hnd dp un gd cn cs a ccd cl outer A₀ base h₀ L m p loose mean mg mb s Q E B F X N₁ T hkc hdp hun trivial fun v h' tk news' hk hn hP => ?_)
  obtain ⟨k, x, dx, l, nt, se, od', rfl, hd', hsub, l0, l1, l2⟩ := hP
  have F' := fr_of_kept F N₁ hk
  obtain ⟨oL, es, ep, hL, hLr⟩ := id F.ns
  have hnew : ∀ q ∈ news', h'.get? q.1 = some q.2 ∧ q.1 ≠ L ∧ h₀.get? q.1 = none := fun q hq => by
    obtain ⟨h1, h2⟩ := hn q hq
    refine ⟨h1, fun e => ?_, ?_⟩
    · rcases h2 with h2 | h2
      · rw [e, hL] at h2; cases h2
      · obtain ⟨q', hq', hqe⟩ := List.mem_map.mp h2
        exact (N₁ q' hq').2.1 (hqe.trans e)
    · rcases h2 with h2 | h2
      · cases e : h₀.get? q.1 with
        | none => rfl
        | some o => rw [F.keep _ _ e] at h2; cases h2
      · obtain ⟨q', hq', hqe⟩ := List.mem_map.mp h2
        rw [← hqe]; exact (N₁ q' hq').2.2
  have hold : ∀ q ∈ pre ++ (S.d, S.od) :: post, q.1 ≠ S.d → h'.get? q.1 = some q.2 := fun q hq hne => by
    by_cases hin : q.1 ∈ (S.objs ++ [(z, oz)]).map (·.1)
    · obtain ⟨r, hr, hrq⟩ := List.mem_map.mp hin
      have h1 := (N₁ r hr).1
      rw [hrq, (N q hq).1] at h1
      have hr' : r ∈ news' := hsub r (by
        simp only [Srt.objs, List.cons_append, List.nil_append, List.mem_cons, List.not_mem_nil, or_false] at hr ⊢
        rcases hr with rfl | rfl | rfl | rfl
        · exact .inl rfl
        · exact .inr (.inl rfl)
        · exact absurd hrq.symm hne
        · exact .inr (.inr (.inr (.inl rfl))))
      rw [← hrq, (hn r hr').1, Option.some.inj h1]
    · exact hk _ _ (N q hq).1 hin
  refine hret h' tk k x dx l nt se od' F' (fun q hq => ?_) hd' l0 l1 l2
  rw [hg] at hq
  rcases List.mem_append.mp hq with hq | hq
  · exact hnew q (hsub q (.tail _ (.tail _ (.tail _ (.tail _ hq)))))
  · rcases List.mem_append.mp hq with hq | hq
    · exact ⟨hold q (List.mem_append_left _ hq) (ha q hq), (N q (List.mem_append_left _ hq)).2⟩
    · rcases List.mem_cons.mp hq with rfl | hq
      · exact hnew _ (hsub _ (.tail _ (.tail _ (.head _))))
      · exact ⟨hold q (List.mem_append_right _ (.tail _ hq)) (hb q hq), (N q (List.mem_append_right _ (.tail _ hq))).2⟩
end

end
section
local macro_rules | `(tactic| k_steps) => `(tactic| (repeat' (first | (k_unfold; (try dsimp only)) | (walk1; (try dsimp only)) | (dsimp only; walk1; (try dsimp only)) | fail "no step")))
local macro_rules | `(tactic| walk_at "call builtin:dict.get") => `(tactic| first
  | (refine dget_some (by with_reducible assumption) (by k_mem) (by with_reducible assumption) (by with_reducible assumption) (by first | with_reducible assumption | (rename (∀ _, valueAt _ _ = some _) => hvv; exact hvv _)) ?_)
  | (refine dget_none (by with_reducible assumption) (by k_mem) (by with_reducible assumption) (by with_reducible assumption) (by first | with_reducible assumption | (rename (∀ _, valueAt _ _ = none) => hvv; exact hvv _)) ?_))
local macro_rules | `(tactic| k_ne) => `(tactic| (refine neN ?_; (try dsimp only); first | exact Df.to (by with_reducible assumption) | exact Df.from (by with_reducible assumption) | omega))
local macro_rules | `(tactic| k_room) => `(tactic| ((try simp only [depth_under_make, depth_under_kw, depth_in1, depth_deeper, depth_caller]); (try dsimp only [ktrTop]); omega))
local macro_rules | `(tactic| walk_at "setItem ref str") => `(tactic| (k_dflt (refine kda_set (knd := PySem.strKind _ _) (by k_asm) (by k_asm) (by k_updF) (by k_asm) (strKind_is _ _ _ _) (by first | with_reducible assumption | (rename (∀ _, List.length _ ≤ sizeLine) => hzz; exact hzz _)) ?_); intro h' o' F' N' hd'; (try dsimp only at N')))

theorem add1_found {w : World} {S : Srt} {kvs : List (Str × Value)} {t u : Tok} {A : Nd} (hd : S.od.IsDictOf (strKind PR w) kvs) (hrv : S.rv = .none) (lo : (S.d == sysModules) = false) (hv : valueAt kvs A.nm = some (.ref A.x)) (hnd : ((S.objs ++ A.objs).map (·.1)).Nodup) :
    Contract w 112 [.ref S.self, .str A.nm t] (fun _ => True) (S.objs ++ A.objs) (fun news v => v = .none ∧ ∃ (nt : Nat), (∀ q ∈ S.objs ++ Nd.objs { A with np := A.np + 0, nt := nt }, q ∈ news)) := by
  obtain ⟨self, sd, d, h1, h2, h3, h4, t1, t2, t3, t4, ae, od, rv, po, nf, pt, ft⟩ := S
  obtain ⟨nm, tk, x, dx, l, np, nt, sv, se⟩ := A
  dsimp only at *
  subst hrv
  replace hnd := apart_of hnd
  simp only [Srt.objs, Srt.attrs, Nd.objs, List.cons_append, List.nil_append, List.map_cons, List.map_nil, Apart, NotAt, and_true] at hnd
  obtain ⟨⟨z0_1, z0_2, z0_3, z0_4, z0_5⟩, ⟨z1_2, z1_3, z1_4, z1_5⟩, ⟨z2_3, z2_4, z2_5⟩, ⟨z3_4, z3_5⟩, z4_5⟩ := hnd
  refine contract_rest [] [(Str.ofString "self", .ref self), (Str.ofString "node", .str nm t)] (Str.ofString "predecessors") (fun _ _ _ _ => trivial) (by with_unfolding_all rfl) (by with_unfolding_all rfl) rfl (Nat.zero_le _) (fun v => locs rfl) rfl rfl rfl (by decide) ?_
  intro dp un gd outer A base g D L' h₁ p loose mean mg mb s B F X N T hdp hun hpr hlt hDL
  simp only [Srt.objs, Srt.attrs, Nd.objs, List.cons_append, List.nil_append] at *
  k_lt hlt
  k_unmd
  k_fold
  repeat' (first | (k_unfold; (try dsimp only)) | ((fail_if_success (with_reducible show wpAny _ _ (call (Value.ref 105) _) _ _ _)); (first | (walk1; (try dsimp only)) | (dsimp only; walk1; (try dsimp only)))) | fail "no step")
  refine gni_found_at (S := ⟨self, sd, d, h1, h2, h3, h4, t1, t2, t3, t4, ae, od, .none, po, nf, pt, ft⟩) (nm := nm) (t := t) hd lo hv ?apq (by assumption) (by assumption) (by assumption) (by assumption) (by assumption) (by (try simp only [Srt.objs, Srt.attrs]); k_allIn) (by omega) (by omega) rfl ?_
  case apq => unfold Srt.objs; simp only [List.cons_append, List.nil_append, List.map_cons, List.map_nil, List.nodup_cons, List.mem_cons, List.not_mem_nil, or_false, not_or, List.nodup_nil, and_true, not_false_eq_true]; and_intros <;> k_ne
  intro hp1 tk1 F1 N1
  repeat' (first | (k_unfold; (try dsimp only)) | ((fail_if_success (with_reducible show wpAny _ _ (call (Value.ref 105) _) _ _ _)); (first | (walk1; (try dsimp only)) | (dsimp only; walk1; (try dsimp only)))) | fail "no step")
  refine' leaveS_ ?F ?N ⟨rfl, ?e0, ?hm⟩
  case F => assumption
  case N => assumption
  case hm =>
    (try simp only [Srt.objs, Srt.attrs, Nd.objs, List.cons_append, List.nil_append])
    k_allIn

theorem add1_new {w : World} {S : Srt} {kvs : List (Str × Value)} {t u : Tok} {a : Str} (hd : S.od.IsDictOf (strKind PR w) kvs) (hrv : S.rv = .none) (lo : (S.d == sysModules) = false) (hv : valueAt kvs a = none) (hz : kvs.length ≤ sizeLine) (hnd : ((S.objs).map (·.1)).Nodup) :
    Contract w 112 [.ref S.self, .str a t] (fun _ => True) (S.objs) (fun news v => v = .none ∧ ∃ (tk x dx l nt se : Nat) (od' : Obj), od'.IsDictOf (strKind PR w) (stored kvs a (.ref x)) ∧ (∀ q ∈ Srt.objs { S with od := od' } ++ Nd.objs ⟨a, tk, x, dx, l, 0 + 0, nt, #[], se⟩, q ∈ news) ∧ @LT.lt Nat _ dx x ∧ @LT.lt Nat _ x l ∧ (∀ q ∈ S.objs, @LT.lt Nat _ q.1 dx)) := by
  obtain ⟨self, sd, d, h1, h2, h3, h4, t1, t2, t3, t4, ae, od, rv, po, nf, pt, ft⟩ := S
  dsimp only at *
  subst hrv
  replace hnd := apart_of hnd
  simp only [Srt.objs, Srt.attrs, Nd.objs, List.cons_append, List.nil_append, List.map_cons, List.map_nil, Apart, NotAt, and_true] at hnd
  obtain ⟨⟨z0_1, z0_2⟩, z1_2⟩ := hnd
  refine contract_rest [] [(Str.ofString "self", .ref self), (Str.ofString "node", .str a t)] (Str.ofString "predecessors") (fun _ _ _ _ => trivial) (by with_unfolding_all rfl) (by with_unfolding_all rfl) rfl (Nat.zero_le _) (fun v => locs rfl) rfl rfl rfl (by decide) ?_
  intro dp un gd outer A base g D L' h₁ p loose mean mg mb s B F X N T hdp hun hpr hlt hDL
  simp only [Srt.objs, Srt.attrs, Nd.objs, List.cons_append, List.nil_append] at *
  k_lt hlt
  k_unmd
  k_fold
  repeat' (first | (k_unfold; (try dsimp only)) | ((fail_if_success (with_reducible show wpAny _ _ (call (Value.ref 105) _) _ _ _)); (first | (walk1; (try dsimp only)) | (dsimp only; walk1; (try dsimp only)))) | fail "no step")
  refine gni_new_at (S := ⟨self, sd, d, h1, h2, h3, h4, t1, t2, t3, t4, ae, od, .none, po, nf, pt, ft⟩) (nm := a) (t := t) (z := D) hd lo hv hz ?apq (by assumption) (by assumption) (by assumption) (by assumption) (by assumption) (by (try dsimp only [Srt.attrs]); k_updF) (by k_mem) (by k_mem) (by k_mem) (by omega) (by omega) rfl ?_
  case apq => unfold Srt.objs; simp only [List.cons_append, List.nil_append, List.map_cons, List.map_nil, List.nodup_cons, List.mem_cons, List.not_mem_nil, or_false, not_or, List.nodup_nil, and_true, not_false_eq_true]; and_intros <;> k_ne
  intro hp1 tk1 k1 x1 dx1 l1 nt1 se1 od1 F1 N1 hd1 la1 lb1 lc1
  simp only [Nd.objs, List.cons_append, List.nil_append] at N1
  repeat' (first | (k_unfold; (try dsimp only)) | ((fail_if_success (with_reducible show wpAny _ _ (call (Value.ref 105) _) _ _ _)); (first | (walk1; (try dsimp only)) | (dsimp only; walk1; (try dsimp only)))) | fail "no step")
  refine' leaveS_ ?F ?N ⟨rfl, ?e0, ?e1, ?e2, ?e3, ?e4, ?e5, ?e6, ?hd, ?hm, ?l0, ?l1, ?l2⟩
  case F => assumption
  case N => assumption
  case hd => assumption
  case hm =>
    (try simp only [Srt.objs, Srt.attrs, Nd.objs, List.cons_append, List.nil_append])
    k_allIn
  case l0 => omega
  case l1 => omega
  case l2 => (refine allLt_back ?_; (try simp only [Srt.objs, Srt.attrs, Nd.objs, List.cons_append, List.nil_append]); simp only [AllLt, and_true]; and_intros <;> omega)

theorem add2_ff {w : World} {S : Srt} {kvs : List (Str × Value)} {t u : Tok} {A : Nd} {B : Nd} (hd : S.od.IsDictOf (strKind PR w) kvs) (hrv : S.rv = .none) (lo : (S.d == sysModules) = false) (hv : valueAt kvs A.nm = some (.ref A.x)) (hsB : B.sv.size ≤ sizeLine) (hvb : valueAt kvs B.nm = some (.ref B.x)) (hnd : ((S.objs ++ A.objs ++ B.objs).map (·.1)).Nodup) :
    Contract w 112 [.ref S.self, .str A.nm t, .str B.nm u] (fun _ => True) (S.objs ++ A.objs ++ B.objs) (fun news v => v = .none ∧ ∃ (nt : Nat), (∀ q ∈ S.objs ++ Nd.objs { A with np := A.np + 1, nt := nt } ++ Nd.objs { B with sv := B.sv.push (.str A.nm t), se := B.se + 1 }, q ∈ news)) := by
  obtain ⟨self, sd, d, h1, h2, h3, h4, t1, t2, t3, t4, ae, od, rv, po, nf, pt, ft⟩ := S
  obtain ⟨nm, tk, x, dx, l, np, nt, sv, se⟩ := A
  obtain ⟨nmB, tkB, xB, dxB, lB, npB, ntB, svB, seB⟩ := B
  dsimp only at *
  subst hrv
  replace hnd := apart_of hnd
  simp only [Srt.objs, Srt.attrs, Nd.objs, List.cons_append, List.nil_append, List.map_cons, List.map_nil, Apart, NotAt, and_true] at hnd
  obtain ⟨⟨z0_1, z0_2, z0_3, z0_4, z0_5, z0_6, z0_7, z0_8⟩, ⟨z1_2, z1_3, z1_4, z1_5, z1_6, z1_7, z1_8⟩, ⟨z2_3, z2_4, z2_5, z2_6, z2_7, z2_8⟩, ⟨z3_4, z3_5, z3_6, z3_7, z3_8⟩, ⟨z4_5, z4_6, z4_7, z4_8⟩, ⟨z5_6, z5_7, z5_8⟩, ⟨z6_7, z6_8⟩, z7_8⟩ := hnd
  refine contract_rest [.str nmB u] [(Str.ofString "self", .ref self), (Str.ofString "node", .str nm t)] (Str.ofString "predecessors") (fun _ _ _ _ => trivial) (by with_unfolding_all rfl) (by with_unfolding_all rfl) rfl (by rw [sizeLine_eq]; exact (by decide : (1 : Nat) ≤ 16777216)) (fun v => locs rfl) rfl rfl rfl (by decide) ?_
  intro dp un gd outer A base g D L' h₁ p loose mean mg mb s B F X N T hdp hun hpr hlt hDL
  simp only [Srt.objs, Srt.attrs, Nd.objs, List.cons_append, List.nil_append] at *
  k_lt hlt
  k_unmd
  k_fold
  repeat' (first | (k_unfold; (try dsimp only)) | ((fail_if_success (with_reducible show wpAny _ _ (call (Value.ref 105) _) _ _ _)); (first | (walk1; (try dsimp only)) | (dsimp only; walk1; (try dsimp only)))) | fail "no step")
  refine gni_found_at (S := ⟨self, sd, d, h1, h2, h3, h4, t1, t2, t3, t4, ae, od, .none, po, nf, pt, ft⟩) (nm := nm) (t := t) hd lo hv ?apq (by assumption) (by assumption) (by assumption) (by assumption) (by assumption) (by (try simp only [Srt.objs, Srt.attrs]); k_allIn) (by omega) (by omega) rfl ?_
  case apq => unfold Srt.objs; simp only [List.cons_append, List.nil_append, List.map_cons, List.map_nil, List.nodup_cons, List.mem_cons, List.not_mem_nil, or_false, not_or, List.nodup_nil, and_true, not_false_eq_true]; and_intros <;> k_ne
  intro hp1 tk1 F1 N1
  repeat' (first | (k_unfold; (try dsimp only)) | ((fail_if_success (with_reducible show wpAny _ _ (call (Value.ref 105) _) _ _ _)); (first | (walk1; (try dsimp only)) | (dsimp only; walk1; (try dsimp only)))) | fail "no step")
  refine gni_found_at (S := ⟨self, sd, d, h1, h2, h3, h4, t1, t2, t3, t4, ae, od, .none, po, nf, pt, ft⟩) (nm := nmB) (t := u) hd lo hvb ?apq (by assumption) (by assumption) (by assumption) (by assumption) (by assumption) (by (try simp only [Srt.objs, Srt.attrs]); k_allIn) (by omega) (by omega) rfl ?_
  case apq => unfold Srt.objs; simp only [List.cons_append, List.nil_append, List.map_cons, List.map_nil, List.nodup_cons, List.mem_cons, List.not_mem_nil, or_false, not_or, List.nodup_nil, and_true, not_false_eq_true]; and_intros <;> k_ne
  intro hp2 tk2 F2 N2
  repeat' (first | (k_unfold; (try dsimp only)) | ((fail_if_success (with_reducible show wpAny _ _ (call (Value.ref 105) _) _ _ _)); (first | (walk1; (try dsimp only)) | (dsimp only; walk1; (try dsimp only)))) | fail "no step")
  refine' leaveS_ ?F ?N ⟨rfl, ?e0, ?hm⟩
  case F => assumption
  case N => assumption
  case hm =>
    (try simp only [Srt.objs, Srt.attrs, Nd.objs, List.cons_append, List.nil_append])
    k_allIn

theorem add2_fn {w : World} {S : Srt} {kvs : List (Str × Value)} {t u : Tok} {A : Nd} {b : Str} (hd : S.od.IsDictOf (strKind PR w) kvs) (hrv : S.rv = .none) (lo : (S.d == sysModules) = false) (hv : valueAt kvs A.nm = some (.ref A.x)) (hvb : valueAt kvs b = none) (hz : kvs.length ≤ sizeLine) (hnd : ((S.objs ++ A.objs).map (·.1)).Nodup) :
    Contract w 112 [.ref S.self, .str A.nm t, .str b u] (fun _ => True) (S.objs ++ A.objs) (fun news v => v = .none ∧ ∃ (tk2 x2 dx2 l2 nt2 se2 nt : Nat) (od' : Obj), od'.IsDictOf (strKind PR w) (stored kvs b (.ref x2)) ∧ (∀ q ∈ Srt.objs { S with od := od' } ++ Nd.objs { A with np := A.np + 1, nt := nt } ++ Nd.objs ⟨b, tk2, x2, dx2, l2, 0, nt2, (#[] : Array Value).push (.str A.nm t), se2⟩, q ∈ news) ∧ @LT.lt Nat _ dx2 x2 ∧ @LT.lt Nat _ x2 l2 ∧ (∀ q ∈ S.objs ++ A.objs, @LT.lt Nat _ q.1 dx2)) := by
  obtain ⟨self, sd, d, h1, h2, h3, h4, t1, t2, t3, t4, ae, od, rv, po, nf, pt, ft⟩ := S
  obtain ⟨nm, tk, x, dx, l, np, nt, sv, se⟩ := A
  dsimp only at *
  subst hrv
  replace hnd := apart_of hnd
  simp only [Srt.objs, Srt.attrs, Nd.objs, List.cons_append, List.nil_append, List.map_cons, List.map_nil, Apart, NotAt, and_true] at hnd
  obtain ⟨⟨z0_1, z0_2, z0_3, z0_4, z0_5⟩, ⟨z1_2, z1_3, z1_4, z1_5⟩, ⟨z2_3, z2_4, z2_5⟩, ⟨z3_4, z3_5⟩, z4_5⟩ := hnd
  refine contract_rest [.str b u] [(Str.ofString "self", .ref self), (Str.ofString "node", .str nm t)] (Str.ofString "predecessors") (fun _ _ _ _ => trivial) (by with_unfolding_all rfl) (by with_unfolding_all rfl) rfl (by rw [sizeLine_eq]; exact (by decide : (1 : Nat) ≤ 16777216)) (fun v => locs rfl) rfl rfl rfl (by decide) ?_
  intro dp un gd outer A base g D L' h₁ p loose mean mg mb s B F X N T hdp hun hpr hlt hDL
  simp only [Srt.objs, Srt.attrs, Nd.objs, List.cons_append, List.nil_append] at *
  k_lt hlt
  k_unmd
  k_fold
  repeat' (first | (k_unfold; (try dsimp only)) | ((fail_if_success (with_reducible show wpAny _ _ (call (Value.ref 105) _) _ _ _)); (first | (walk1; (try dsimp only)) | (dsimp only; walk1; (try dsimp only)))) | fail "no step")
  refine gni_found_at (S := ⟨self, sd, d, h1, h2, h3, h4, t1, t2, t3, t4, ae, od, .none, po, nf, pt, ft⟩) (nm := nm) (t := t) hd lo hv ?apq (by assumption) (by assumption) (by assumption) (by assumption) (by assumption) (by (try simp only [Srt.objs, Srt.attrs]); k_allIn) (by omega) (by omega) rfl ?_
  case apq => unfold Srt.objs; simp only [List.cons_append, List.nil_append, List.map_cons, List.map_nil, List.nodup_cons, List.mem_cons, List.not_mem_nil, or_false, not_or, List.nodup_nil, and_true, not_false_eq_true]; and_intros <;> k_ne
  intro hp1 tk1 F1 N1
  repeat' (first | (k_unfold; (try dsimp only)) | ((fail_if_success (with_reducible show wpAny _ _ (call (Value.ref 105) _) _ _ _)); (first | (walk1; (try dsimp only)) | (dsimp only; walk1; (try dsimp only)))) | fail "no step")
  refine gni_new_at (S := ⟨self, sd, d, h1, h2, h3, h4, t1, t2, t3, t4, ae, od, .none, po, nf, pt, ft⟩) (nm := b) (t := u) (z := _) hd lo hvb hz ?apq (by assumption) (by assumption) (by assumption) (by assumption) (by assumption) (by (try dsimp only [Srt.attrs]); k_updF) (by k_mem) (by k_mem) (.head _) (by omega) (by omega) rfl ?_
  case apq => unfold Srt.objs; simp only [List.cons_append, List.nil_append, List.map_cons, List.map_nil, List.nodup_cons, List.mem_cons, List.not_mem_nil, or_false, not_or, List.nodup_nil, and_true, not_false_eq_true]; and_intros <;> k_ne
  intro hp2 tk2 k2 x2 dx2 l2 nt2 se2 od2 F2 N2 hd2 la2 lb2 lc2
  simp only [Nd.objs, List.cons_append, List.nil_append] at N2
  repeat' (first | (k_unfold; (try dsimp only)) | ((fail_if_success (with_reducible show wpAny _ _ (call (Value.ref 105) _) _ _ _)); (first | (walk1; (try dsimp only)) | (dsimp only; walk1; (try dsimp only)))) | fail "no step")
  refine' leaveS_ ?F ?N ⟨rfl, ?e0, ?e1, ?e2, ?e3, ?e4, ?e5, ?e6, ?e7, ?hd, ?hm, ?l0, ?l1, ?l2⟩
  case F => assumption
  case N => assumption
  case hd => assumption
  case hm =>
    (try simp only [Srt.objs, Srt.attrs, Nd.objs, List.cons_append, List.nil_append])
    k_allIn
  case l0 => omega
  case l1 => omega
  case l2 => (refine allLt_back ?_; (try simp only [Srt.objs, Srt.attrs, Nd.objs, List.cons_append, List.nil_append]); simp only [AllLt, and_true]; and_intros <;> omega)

theorem add2_nf {w : World} {S : Srt} {kvs : List (Str × Value)} {t u : Tok} {a : Str} {B : Nd} (hd : S.od.IsDictOf (strKind PR w) kvs) (hrv : S.rv = .none) (lo : (S.d == sysModules) = false) (hv : valueAt kvs a = none) (hz : kvs.length ≤ sizeLine) (hsB : B.sv.size ≤ sizeLine) (hvb : ∀ x, valueAt (stored kvs a (.ref x)) B.nm = some (.ref B.x)) (hnd : ((S.objs ++ B.objs).map (·.1)).Nodup) :
    Contract w 112 [.ref S.self, .str a t, .str B.nm u] (fun _ => True) (S.objs ++ B.objs) (fun news v => v = .none ∧ ∃ (tk x dx l nt se : Nat) (od' : Obj), od'.IsDictOf (strKind PR w) (stored kvs a (.ref x)) ∧ (∀ q ∈ Srt.objs { S with od := od' } ++ Nd.objs ⟨a, tk, x, dx, l, 0 + 1, nt, #[], se⟩ ++ Nd.objs { B with sv := B.sv.push (.str a t), se := B.se + 1 }, q ∈ news) ∧ @LT.lt Nat _ dx x ∧ @LT.lt Nat _ x l ∧ (∀ q ∈ S.objs ++ B.objs, @LT.lt Nat _ q.1 dx)) := by
  obtain ⟨self, sd, d, h1, h2, h3, h4, t1, t2, t3, t4, ae, od, rv, po, nf, pt, ft⟩ := S
  obtain ⟨nmB, tkB, xB, dxB, lB, npB, ntB, svB, seB⟩ := B
  dsimp only at *
  subst hrv
  replace hnd := apart_of hnd
  simp only [Srt.objs, Srt.attrs, Nd.objs, List.cons_append, List.nil_append, List.map_cons, List.map_nil, Apart, NotAt, and_true] at hnd
  obtain ⟨⟨z0_1, z0_2, z0_3, z0_4, z0_5⟩, ⟨z1_2, z1_3, z1_4, z1_5⟩, ⟨z2_3, z2_4, z2_5⟩, ⟨z3_4, z3_5⟩, z4_5⟩ := hnd
  refine contract_rest [.str nmB u] [(Str.ofString "self", .ref self), (Str.ofString "node", .str a t)] (Str.ofString "predecessors") (fun _ _ _ _ => trivial) (by with_unfolding_all rfl) (by with_unfolding_all rfl) rfl (by rw [sizeLine_eq]; exact (by decide : (1 : Nat) ≤ 16777216)) (fun v => locs rfl) rfl rfl rfl (by decide) ?_
  intro dp un gd outer A base g D L' h₁ p loose mean mg mb s B F X N T hdp hun hpr hlt hDL
  simp only [Srt.objs, Srt.attrs, Nd.objs, List.cons_append, List.nil_append] at *
  k_lt hlt
  k_unmd
  k_fold
  repeat' (first | (k_unfold; (try dsimp only)) | ((fail_if_success (with_reducible show wpAny _ _ (call (Value.ref 105) _) _ _ _)); (first | (walk1; (try dsimp only)) | (dsimp only; walk1; (try dsimp only)))) | fail "no step")
  refine gni_new_at (S := ⟨self, sd, d, h1, h2, h3, h4, t1, t2, t3, t4, ae, od, .none, po, nf, pt, ft⟩) (nm := a) (t := t) (z := D) hd lo hv hz ?apq (by assumption) (by assumption) (by assumption) (by assumption) (by assumption) (by (try dsimp only [Srt.attrs]); k_updF) (by k_mem) (by k_mem) (by k_mem) (by omega) (by omega) rfl ?_
  case apq => unfold Srt.objs; simp only [List.cons_append, List.nil_append, List.map_cons, List.map_nil, List.nodup_cons, List.mem_cons, List.not_mem_nil, or_false, not_or, List.nodup_nil, and_true, not_false_eq_true]; and_intros <;> k_ne
  intro hp1 tk1 k1 x1 dx1 l1 nt1 se1 od1 F1 N1 hd1 la1 lb1 lc1
  simp only [Nd.objs, List.cons_append, List.nil_append] at N1
  repeat' (first | (k_unfold; (try dsimp only)) | ((fail_if_success (with_reducible show wpAny _ _ (call (Value.ref 105) _) _ _ _)); (first | (walk1; (try dsimp only)) | (dsimp only; walk1; (try dsimp only)))) | fail "no step")
  refine gni_found_at (S := ⟨self, sd, d, h1, h2, h3, h4, t1, t2, t3, t4, ae, od1, .none, po, nf, pt, ft⟩) (nm := nmB) (t := u) hd1 lo (hvb x1) ?apq (by assumption) (by assumption) (by assumption) (by assumption) (by assumption) (by (try simp only [Srt.objs, Srt.attrs]); k_allIn) (by omega) (by omega) rfl ?_
  case apq => unfold Srt.objs; simp only [List.cons_append, List.nil_append, List.map_cons, List.map_nil, List.nodup_cons, List.mem_cons, List.not_mem_nil, or_false, not_or, List.nodup_nil, and_true, not_false_eq_true]; and_intros <;> k_ne
  intro hp2 tk2 F2 N2
  repeat' (first | (k_unfold; (try dsimp only)) | ((fail_if_success (with_reducible show wpAny _ _ (call (Value.ref 105) _) _ _ _)); (first | (walk1; (try dsimp only)) | (dsimp only; walk1; (try dsimp only)))) | fail "no step")
  refine' leaveS_ ?F ?N ⟨rfl, ?e0, ?e1, ?e2, ?e3, ?e4, ?e5, ?e6, ?hd, ?hm, ?l0, ?l1, ?l2⟩
  case F => assumption
  case N => assumption
  case hd => assumption
  case hm =>
    (try simp only [Srt.objs, Srt.attrs, Nd.objs, List.cons_append, List.nil_append])
    k_allIn
  case l0 => omega
  case l1 => omega
  case l2 => (refine allLt_back ?_; (try simp only [Srt.objs, Srt.attrs, Nd.objs, List.cons_append, List.nil_append]); simp only [AllLt, and_true]; and_intros <;> omega)

theorem add2_nn {w : World} {S : Srt} {kvs : List (Str × Value)} {t u : Tok} {a : Str} {b : Str} (hd : S.od.IsDictOf (strKind PR w) kvs) (hrv : S.rv = .none) (lo : (S.d == sysModules) = false) (hv : valueAt kvs a = none) (hz : kvs.length ≤ sizeLine) (hvb : ∀ x, valueAt (stored kvs a (.ref x)) b = none) (hz2 : ∀ x, (stored kvs a (.ref x)).length ≤ sizeLine) (hnd : ((S.objs).map (·.1)).Nodup) :
    Contract w 112 [.ref S.self, .str a t, .str b u] (fun _ => True) (S.objs) (fun news v => v = .none ∧ ∃ (tk x dx l tk2 x2 dx2 l2 nt2 se2 nt se : Nat) (od' : Obj), od'.IsDictOf (strKind PR w) (stored (stored kvs a (.ref x)) b (.ref x2)) ∧ (∀ q ∈ Srt.objs { S with od := od' } ++ Nd.objs ⟨a, tk, x, dx, l, 0 + 1, nt, #[], se⟩ ++ Nd.objs ⟨b, tk2, x2, dx2, l2, 0, nt2, (#[] : Array Value).push (.str a t), se2⟩, q ∈ news) ∧ @LT.lt Nat _ dx x ∧ @LT.lt Nat _ x l ∧ (∀ q ∈ S.objs, @LT.lt Nat _ q.1 dx) ∧ @LT.lt Nat _ dx2 x2 ∧ @LT.lt Nat _ x2 l2 ∧ @LT.lt Nat _ l dx2) := by
  obtain ⟨self, sd, d, h1, h2, h3, h4, t1, t2, t3, t4, ae, od, rv, po, nf, pt, ft⟩ := S
  dsimp only at *
  subst hrv
  replace hnd := apart_of hnd
  simp only [Srt.objs, Srt.attrs, Nd.objs, List.cons_append, List.nil_append, List.map_cons, List.map_nil, Apart, NotAt, and_true] at hnd
  obtain ⟨⟨z0_1, z0_2⟩, z1_2⟩ := hnd
  refine contract_rest [.str b u] [(Str.ofString "self", .ref self), (Str.ofString "node", .str a t)] (Str.ofString "predecessors") (fun _ _ _ _ => trivial) (by with_unfolding_all rfl) (by with_unfolding_all rfl) rfl (by rw [sizeLine_eq]; exact (by decide : (1 : Nat) ≤ 16777216)) (fun v => locs rfl) rfl rfl rfl (by decide) ?_
  intro dp un gd outer A base g D L' h₁ p loose mean mg mb s B F X N T hdp hun hpr hlt hDL
  simp only [Srt.objs, Srt.attrs, Nd.objs, List.cons_append, List.nil_append] at *
  k_lt hlt
  k_unmd
  k_fold
  repeat' (first | (k_unfold; (try dsimp only)) | ((fail_if_success (with_reducible show wpAny _ _ (call (Value.ref 105) _) _ _ _)); (first | (walk1; (try dsimp only)) | (dsimp only; walk1; (try dsimp only)))) | fail "no step")
  refine gni_new_at (S := ⟨self, sd, d, h1, h2, h3, h4, t1, t2, t3, t4, ae, od, .none, po, nf, pt, ft⟩) (nm := a) (t := t) (z := D) hd lo hv hz ?apq (by assumption) (by assumption) (by assumption) (by assumption) (by assumption) (by (try dsimp only [Srt.attrs]); k_updF) (by k_mem) (by k_mem) (by k_mem) (by omega) (by omega) rfl ?_
  case apq => unfold Srt.objs; simp only [List.cons_append, List.nil_append, List.map_cons, List.map_nil, List.nodup_cons, List.mem_cons, List.not_mem_nil, or_false, not_or, List.nodup_nil, and_true, not_false_eq_true]; and_intros <;> k_ne
  intro hp1 tk1 k1 x1 dx1 l1 nt1 se1 od1 F1 N1 hd1 la1 lb1 lc1
  simp only [Nd.objs, List.cons_append, List.nil_append] at N1
  repeat' (first | (k_unfold; (try dsimp only)) | ((fail_if_success (with_reducible show wpAny _ _ (call (Value.ref 105) _) _ _ _)); (first | (walk1; (try dsimp only)) | (dsimp only; walk1; (try dsimp only)))) | fail "no step")
  refine gni_new_at (S := ⟨self, sd, d, h1, h2, h3, h4, t1, t2, t3, t4, ae, od1, .none, po, nf, pt, ft⟩) (nm := b) (t := u) (z := _) hd1 lo (hvb x1) (hz2 x1) ?apq (by assumption) (by assumption) (by assumption) (by assumption) (by assumption) (by (try dsimp only [Srt.attrs]); k_updF) (by k_mem) (by k_mem) (.head _) (by omega) (by omega) rfl ?_
  case apq => unfold Srt.objs; simp only [List.cons_append, List.nil_append, List.map_cons, List.map_nil, List.nodup_cons, List.mem_cons, List.not_mem_nil, or_false, not_or, List.nodup_nil, and_true, not_false_eq_true]; and_intros <;> k_ne
  intro hp2 tk2 k2 x2 dx2 l2 nt2 se2 od2 F2 N2 hd2 la2 lb2 lc2
  simp only [Nd.objs, List.cons_append, List.nil_append] at N2
  repeat' (first | (k_unfold; (try dsimp only)) | ((fail_if_success (with_reducible show wpAny _ _ (call (Value.ref 105) _) _ _ _)); (first | (walk1; (try dsimp only)) | (dsimp only; walk1; (try dsimp only)))) | fail "no step")
  refine' leaveS_ ?F ?N ⟨rfl, ?e0, ?e1, ?e2, ?e3, ?e4, ?e5, ?e6, ?e7, ?e8, ?e9, ?e10, ?e11, ?e12, ?hd, ?hm, ?l0, ?l1, ?l2, ?l3, ?l4, ?l5⟩
  case F => assumption
  case N => assumption
  case hd => assumption
  case hm =>
    (try simp only [Srt.objs, Srt.attrs, Nd.objs, List.cons_append, List.nil_append])
    k_allIn
  case l0 => omega
  case l1 => omega
  case l2 => (refine allLt_back ?_; (try simp only [Srt.objs, Srt.attrs, Nd.objs, List.cons_append, List.nil_append]); simp only [AllLt, and_true]; and_intros <;> omega)
  case l3 => omega
  case l4 => omega
  case l5 => omega



end
section
noncomputable def Nd.ads (d : Nd) : List Addr := [d.x, d.dx, d.l]
noncomputable def Srt.ads (S : Srt) : List Addr := [S.self, S.sd, S.d]
theorem Nd.objs_ads (d : Nd) : d.objs.map (·.1) = d.ads := rfl
theorem Srt.objs_ads (S : Srt) : S.objs.map (·.1) = S.ads := rfl
noncomputable def led (S : Srt) (ns : List Nd) : List (Addr × Obj) := S.objs ++ ns.flatMap Nd.objs
noncomputable def kvsOf (ns : List Nd) : List (Str × Value) := ns.map fun d => (d.nm, Value.ref d.x)
noncomputable def lg (ns : List Nd) : List (Str × Int × List Str) := ns.map fun d => (d.nm, d.np, d.sv.toList.map strOf)

structure Wf (w : World) (S : Srt) (ns : List Nd) (b : Nat) : Prop where
  dict : S.od.IsDictOf (strKind PR w) (kvsOf ns)
  lo : (S.d == sysModules) = false
  apS : S.ads.Nodup
  apN : ∀ d ∈ ns, d.ads.Nodup ∧ ∀ a ∈ d.ads, a ∉ S.ads
  apP : ns.Pairwise fun d e => ∀ a ∈ d.ads, a ∉ e.ads
  txt : ∀ d ∈ ns, ∀ v ∈ d.sv.toList, ∃ x t, v = .str x t
  len : ns.length ≤ b
  sz : ∀ d ∈ ns, d.sv.size ≤ b

theorem led_fst (S : Srt) (ns : List Nd) : (led S ns).map (·.1) = S.ads ++ ns.flatMap Nd.ads := by
  unfold led
  rw [List.map_append, List.map_flatMap]; rfl
theorem Wf.names {w : World} {S : Srt} {ns : List Nd} {b : Nat} (W : Wf w S ns b) : (ns.map (·.nm)).Nodup := by
  obtain ⟨_, _, _, _, _, _, hn⟩ := W.dict
  simpa [kvsOf, List.map_map, Function.comp_def] using hn
theorem names_inj : ∀ {ns : List Nd}, (ns.map (·.nm)).Nodup → ∀ {d e : Nd}, d ∈ ns → e ∈ ns → d.nm = e.nm → d = e
  | c :: ns, hn, d, e, hd, he, h => by
    rw [List.map_cons, List.nodup_cons] at hn
    rcases List.mem_cons.mp hd with e1 | hd
    · rcases List.mem_cons.mp he with e2 | he
      · rw [e1, e2]
      · exact absurd (List.mem_map.mpr ⟨e, he, by rw [← h, e1]⟩) hn.1
    · rcases List.mem_cons.mp he with e2 | he
      · exact absurd (List.mem_map.mpr ⟨d, hd, by rw [h, e2]⟩) hn.1
      · exact names_inj hn.2 hd he h
theorem valueAt_mem : ∀ {ns : List Nd}, (ns.map (·.nm)).Nodup → ∀ {d : Nd}, d ∈ ns → valueAt (kvsOf ns) d.nm = some (.ref d.x)
  | c :: ns, hn, d, hd => by
    rw [List.map_cons, List.nodup_cons] at hn
    unfold valueAt kvsOf
    rw [List.map_cons, List.find?_cons]
    rcases List.mem_cons.mp hd with rfl | hd
    · simp
    · have hne : ¬ c.nm = d.nm := fun e => hn.1 (e ▸ List.mem_map_of_mem hd)
      simp only [hne, decide_false]
      exact valueAt_mem hn.2 hd
theorem valueAt_not {ns : List Nd} {a : Str} (h : ∀ d ∈ ns, d.nm ≠ a) : valueAt (kvsOf ns) a = none := by
  unfold valueAt kvsOf
  rw [List.find?_eq_none.mpr]; rfl
  intro p hp
  obtain ⟨d, hd, rfl⟩ := List.mem_map.mp hp
  simpa using h d hd
theorem stored_new {kvs : List (Str × Value)} {a : Str} {v : Value} (h : valueAt kvs a = none) : stored kvs a v = kvs ++ [(a, v)] := by
  unfold stored
  rw [if_neg]
  unfold valueAt at h
  rw [Option.map_eq_none_iff, List.find?_eq_none] at h
  intro hc
  obtain ⟨p, hp, he⟩ := List.any_eq_true.mp hc
  exact h p hp he
theorem valueAt_app {kvs : List (Str × Value)} {a c : Str} {v : Value} (h : a ≠ c) : valueAt (kvs ++ [(a, v)]) c = valueAt kvs c := by
  unfold valueAt
  rw [List.find?_append]
  simp [h]

theorem ads_apart {w : World} {S : Srt} {ns : List Nd} {b : Nat} (W : Wf w S ns b) {d e : Nd} (hd : d ∈ ns) (he : e ∈ ns) (hne : d ≠ e) : ∀ a ∈ d.ads, a ∉ e.ads := by
  have key : ∀ {l : List Nd}, l.Pairwise (fun d e => ∀ a ∈ d.ads, a ∉ e.ads) → d ∈ l → e ∈ l → ∀ a ∈ d.ads, a ∉ e.ads := by
    intro l hp hd he
    induction l with
    | nil => nomatch hd
    | cons c l ih =>
      rw [List.pairwise_cons] at hp
      rcases List.mem_cons.mp hd with e1 | hd
      · rcases List.mem_cons.mp he with e2 | he
        · exact absurd (e1.trans e2.symm) hne
        · rw [e1]; exact hp.1 e he
      · rcases List.mem_cons.mp he with e2 | he
        · rw [e2]; exact fun a ha hc => hp.1 d hd a hc ha
        · exact ih hp.2 hd he
  exact key W.apP hd he

theorem fst_mem_ads {d : Nd} {q : Addr × Obj} (h : q ∈ d.objs) : q.1 ∈ d.ads := List.mem_map_of_mem (f := (·.1)) h
theorem mem_led {S : Srt} {ns : List Nd} {d : Nd} (h : d ∈ ns) : ∀ q ∈ d.objs, q ∈ led S ns := fun _ hq => List.mem_append_right _ (List.mem_flatMap.mpr ⟨d, h, hq⟩)

/-- the ledger that is left: what was at hand anew, the rest as it was -/
theorem rebuild {w : World} {S S' : Srt} {ns Fs New : List Nd} {b : Nat} {f : Nd → Nd} {news₁ : List (Addr × Obj)} (W : Wf w S ns b) (hF : ∀ d ∈ Fs, d ∈ ns)
    (hid : ∀ d ∈ ns, d ∉ Fs → f d = d) (h1 : ∀ q ∈ S'.objs, q ∈ news₁) (h2 : ∀ d ∈ Fs, ∀ q ∈ (f d).objs, q ∈ news₁) (h3 : ∀ d ∈ New, ∀ q ∈ d.objs, q ∈ news₁) :
    ∀ q ∈ led S' (ns.map f ++ New), q ∈ news₁ ++ (led S ns).filter fun q => decide (q.1 ∉ (led S Fs).map (·.1)) := by
  intro q hq
  unfold led at hq
  rcases List.mem_append.mp hq with hq | hq
  · exact List.mem_append_left _ (h1 q hq)
  · obtain ⟨d', hd', hq⟩ := List.mem_flatMap.mp hq
    rcases List.mem_append.mp hd' with hd' | hd'
    · obtain ⟨d, hd, rfl⟩ := List.mem_map.mp hd'
      by_cases hdF : d ∈ Fs
      · exact List.mem_append_left _ (h2 d hdF q hq)
      · rw [hid d hd hdF] at hq
        refine List.mem_append_right _ (List.mem_filter.mpr ⟨mem_led hd q hq, decide_eq_true ?_⟩)
        have ha := fst_mem_ads hq
        rw [led_fst]
        intro hm
        rcases List.mem_append.mp hm with hm | hm
        · exact (W.apN d hd).2 _ ha hm
        · obtain ⟨e, he, hm⟩ := List.mem_flatMap.mp hm
          exact ads_apart W hd (hF e he) (fun h => hdF (h ▸ he)) _ ha hm
    · exact List.mem_append_left _ (h3 d' hd' q hq)

theorem wf_next {w : World} {S S' : Srt} {ns New : List Nd} {b b' : Nat} {f : Nd → Nd} (W : Wf w S ns b) (hS : S'.ads = S.ads) (hf : ∀ d ∈ ns, (f d).ads = d.ads)
    (hdict : S'.od.IsDictOf (strKind PR w) (kvsOf (ns.map f ++ New)))
    (hN : ∀ d ∈ New, d.ads.Nodup ∧ ∀ a ∈ d.ads, a ∉ (led S ns).map (·.1)) (hNP : New.Pairwise fun d e => ∀ a ∈ d.ads, a ∉ e.ads)
    (hs : ∀ d ∈ ns, ∀ v ∈ (f d).sv.toList, ∃ x t, v = .str x t) (hsN : ∀ d ∈ New, ∀ v ∈ d.sv.toList, ∃ x t, v = .str x t)
    (hl : ns.length + New.length ≤ b') (hz : ∀ d ∈ ns, (f d).sv.size ≤ b') (hzN : ∀ d ∈ New, d.sv.size ≤ b') : Wf w S' (ns.map f ++ New) b' := by
  have out : ∀ d ∈ New, ∀ a ∈ d.ads, a ∉ S.ads ∧ ∀ e ∈ ns, a ∉ e.ads := fun d hd a ha => by
    have := (hN d hd).2 a ha
    rw [led_fst] at this
    exact ⟨fun h => this (List.mem_append_left _ h), fun e he h => this (List.mem_append_right _ (List.mem_flatMap.mpr ⟨e, he, h⟩))⟩
  have hSd : S'.d = S.d := by
    have := congrArg (fun l => l[2]?) hS
    simpa [Srt.ads] using this
  refine ⟨hdict, by rw [hSd]; exact W.lo, by rw [hS]; exact W.apS, fun d' hd' => ?_, ?_, fun d' hd' => ?_, by rw [List.length_append, List.length_map]; exact hl, fun d' hd' => ?_⟩
  · rw [hS]
    rcases List.mem_append.mp hd' with hd' | hd'
    · obtain ⟨d, hd, rfl⟩ := List.mem_map.mp hd'
      rw [hf d hd]; exact W.apN d hd
    · exact ⟨(hN d' hd').1, fun a ha => (out d' hd' a ha).1⟩
  · rw [List.pairwise_append]
    refine ⟨?_, hNP, fun d' hd' e he a ha hb => ?_⟩
    · rw [List.pairwise_map]
      refine W.apP.imp_of_mem fun {d e} hd he h => ?_
      rw [hf d hd, hf e he]; exact h
    · obtain ⟨d, hd, rfl⟩ := List.mem_map.mp hd'
      rw [hf d hd] at ha
      exact (out e he a hb).2 d hd ha
  · rcases List.mem_append.mp hd' with hd' | hd'
    · obtain ⟨d, hd, rfl⟩ := List.mem_map.mp hd'; exact hs d hd
    · exact hsN d' hd'
  · rcases List.mem_append.mp hd' with hd' | hd'
    · obtain ⟨d, hd, rfl⟩ := List.mem_map.mp hd'; exact hz d hd
    · exact hzN d' hd'

end
section
noncomputable def ensure (G : List (Str × Int × List Str)) (a : Str) : List (Str × Int × List Str) := if a ∈ G.map (·.1) then G else G ++ [(a, 0, [])]
noncomputable def bump (G : List (Str × Int × List Str)) (a : Str) (k : Int) : List (Str × Int × List Str) := G.map fun e => if e.1 = a then (e.1, e.2.1 + k, e.2.2) else e
noncomputable def pushS (G : List (Str × Int × List Str)) (c a : Str) : List (Str × Int × List Str) := G.map fun e => if e.1 = c then (e.1, e.2.1, e.2.2 ++ [a]) else e
noncomputable def addE (G : List (Str × Int × List Str)) (a c : Str) : List (Str × Int × List Str) := pushS (ensure (bump (ensure G a) a 1) c) c a
noncomputable def addL (G : List (Str × Int × List Str)) (a : Str) : List (Str × Int × List Str) := bump (ensure G a) a 0

theorem bump_fst (G a k) : (bump G a k).map (·.1) = G.map (·.1) := by
  unfold bump; rw [List.map_map]; refine List.map_congr_left fun e _ => ?_
  show (if e.1 = a then (e.1, e.2.1 + k, e.2.2) else e).1 = e.1
  split <;> rfl
theorem bump_not {G : List (Str × Int × List Str)} {a : Str} (h : a ∉ G.map (·.1)) (k : Int) : bump G a k = G := by
  unfold bump
  conv => rhs; rw [← List.map_id G]
  refine List.map_congr_left fun e he => ?_
  rw [if_neg (fun q : e.1 = _ => h (by rw [← q]; exact List.mem_map_of_mem he))]; rfl
theorem pushS_not {G : List (Str × Int × List Str)} {c : Str} (h : c ∉ G.map (·.1)) (a : Str) : pushS G c a = G := by
  unfold pushS
  conv => rhs; rw [← List.map_id G]
  refine List.map_congr_left fun e he => ?_
  rw [if_neg (fun q : e.1 = _ => h (by rw [← q]; exact List.mem_map_of_mem he))]; rfl
theorem bump_app (G H a k) : bump (G ++ H) a k = bump G a k ++ bump H a k := List.map_append ..
theorem pushS_app (G H c a) : pushS (G ++ H) c a = pushS G c a ++ pushS H c a := List.map_append ..
theorem ensure_in {G : List (Str × Int × List Str)} {a : Str} (h : a ∈ G.map (·.1)) : ensure G a = G := if_pos h
theorem ensure_out {G : List (Str × Int × List Str)} {a : Str} (h : a ∉ G.map (·.1)) : ensure G a = G ++ [(a, 0, [])] := if_neg h
theorem lg_fst (ns : List Nd) : (lg ns).map (·.1) = ns.map (·.nm) := by unfold lg; rw [List.map_map]; rfl
theorem lg_app (ns ms : List Nd) : lg (ns ++ ms) = lg ns ++ lg ms := List.map_append ..

noncomputable def upA (a : Str) (nt : Tok) (k : Int) (d : Nd) : Nd := if d.nm = a then { d with np := d.np + k, nt := nt } else d
noncomputable def upC (c : Str) (v : Value) (d : Nd) : Nd := if d.nm = c then { d with sv := d.sv.push v, se := d.se + 1 } else d
theorem upA_ads (a nt k d) : (upA a nt k d).ads = d.ads := by unfold upA; split <;> rfl
theorem upC_ads (c v d) : (upC c v d).ads = d.ads := by unfold upC; split <;> rfl
theorem upA_nm (a nt k d) : (upA a nt k d).nm = d.nm := by unfold upA; split <;> rfl
theorem upC_nm (c v d) : (upC c v d).nm = d.nm := by unfold upC; split <;> rfl
theorem upA_x (a nt k d) : (upA a nt k d).x = d.x := by unfold upA; split <;> rfl
theorem upC_x (c v d) : (upC c v d).x = d.x := by unfold upC; split <;> rfl
theorem upA_sv (a nt k d) : (upA a nt k d).sv = d.sv := by unfold upA; split <;> rfl
theorem lg_upA (ns : List Nd) (a nt k) : lg (ns.map (upA a nt k)) = bump (lg ns) a k := by
  unfold lg bump; rw [List.map_map, List.map_map]
  refine List.map_congr_left fun d _ => ?_
  show ((upA a nt k d).nm, (upA a nt k d).np, (upA a nt k d).sv.toList.map strOf) = if d.nm = a then _ else _
  unfold upA; split <;> rfl
theorem lg_upC (ns : List Nd) (c a : Str) (t : Tok) : lg (ns.map (upC c (.str a t))) = pushS (lg ns) c a := by
  unfold lg pushS; rw [List.map_map, List.map_map]
  refine List.map_congr_left fun d _ => ?_
  show ((upC c (.str a t) d).nm, (upC c (.str a t) d).np, (upC c (.str a t) d).sv.toList.map strOf) = if d.nm = c then _ else _
  unfold upC; split
  · simp [strOf]
  · rfl
theorem kvs_map {ns : List Nd} {f : Nd → Nd} (h1 : ∀ d, (f d).nm = d.nm) (h2 : ∀ d, (f d).x = d.x) : kvsOf (ns.map f) = kvsOf ns := by
  unfold kvsOf; rw [List.map_map]
  refine List.map_congr_left fun d _ => ?_
  show ((f d).nm, Value.ref (f d).x) = _
  rw [h1, h2]

theorem focus1 {w : World} {S : Srt} {ns : List Nd} {b : Nat} (W : Wf w S ns b) {A : Nd} (hA : A ∈ ns) : ((S.objs ++ A.objs).map (·.1)).Nodup := by
  rw [List.map_append, List.nodup_append]
  exact ⟨W.apS, (W.apN A hA).1, fun a ha c hc e => (W.apN A hA).2 c hc (e ▸ ha)⟩
theorem focus2 {w : World} {S : Srt} {ns : List Nd} {b : Nat} (W : Wf w S ns b) {A B : Nd} (hA : A ∈ ns) (hB : B ∈ ns) (hne : A ≠ B) : ((S.objs ++ A.objs ++ B.objs).map (·.1)).Nodup := by
  rw [List.map_append, List.nodup_append]
  refine ⟨focus1 W hA, (W.apN B hB).1, fun a ha c hc e => ?_⟩
  subst e
  rw [List.map_append] at ha
  rcases List.mem_append.mp ha with ha | ha
  · exact (W.apN B hB).2 a hc ha
  · exact ads_apart W hA hB hne a ha hc
theorem focus0 {w : World} {S : Srt} {ns : List Nd} {b : Nat} (W : Wf w S ns b) : (S.objs.map (·.1)).Nodup := W.apS

noncomputable def Same (S S' : Srt) : Prop := S' = { S with od := S'.od }
/-- what an adding leaves of the whole -/
noncomputable def Added (w : World) (S : Srt) (b : Nat) (G : List (Str × Int × List Str)) (news : List (Addr × Obj)) (v : Value) : Prop :=
  v = .none ∧ ∃ S' ns', Wf w S' ns' b ∧ (∀ q ∈ led S' ns', q ∈ news) ∧ Same S S' ∧ lg ns' = G

theorem mem_or_not (ns : List Nd) (a : Str) : (∃ A ∈ ns, A.nm = a) ∨ (∀ d ∈ ns, d.nm ≠ a) := by
  by_cases h : ∃ A ∈ ns, A.nm = a
  · exact .inl h
  · exact .inr fun d hd e => h ⟨d, hd, e⟩
theorem in_names {ns : List Nd} {A : Nd} (h : A ∈ ns) : A.nm ∈ (lg ns).map (·.1) := by rw [lg_fst]; exact List.mem_map_of_mem h
theorem out_names {ns : List Nd} {a : Str} (h : ∀ d ∈ ns, d.nm ≠ a) : a ∉ (lg ns).map (·.1) := by
  rw [lg_fst]; intro hm
  obtain ⟨d, hd, e⟩ := List.mem_map.mp hm
  exact h d hd e
theorem led_nil (S : Srt) : led S [] = S.objs := by simp [led]
theorem led_one (S : Srt) (A : Nd) : led S [A] = S.objs ++ A.objs := by simp [led]
theorem led_two (S : Srt) (A B : Nd) : led S [A, B] = S.objs ++ A.objs ++ B.objs := by simp [led]
theorem sub_led {S : Srt} {ns Fs : List Nd} (h : ∀ d ∈ Fs, d ∈ ns) : ∀ q ∈ led S Fs, q ∈ led S ns := by
  intro q hq
  rcases List.mem_append.mp hq with hq | hq
  · exact List.mem_append_left _ hq
  · obtain ⟨d, hd, hq⟩ := List.mem_flatMap.mp hq
    exact mem_led (h d hd) q hq
theorem push_txt {d : Nd} {a : Str} {t : Tok} (h : ∀ v ∈ d.sv.toList, ∃ x t, v = .str x t) (c : Str) : ∀ v ∈ (upC c (.str a t) d).sv.toList, ∃ x t, v = .str x t := by
  unfold upC
  split
  · intro v hv
    rw [Array.toList_push] at hv
    rcases List.mem_append.mp hv with hv | hv
    · exact h v hv
    · exact ⟨a, t, List.mem_singleton.mp hv⟩
  · exact h
theorem push_sz {d : Nd} {b : Nat} (h : d.sv.size ≤ b) (c : Str) (v : Value) : (upC c v d).sv.size ≤ b + 2 := by
  unfold upC
  split
  · show (d.sv.push v).size ≤ _
    rw [Array.size_push]; omega
  · omega
/-- a new node's addresses are nowhere in the ledger -/
theorem new_out {S : Srt} {ns Fs : List Nd} {N : Nd} {news₁ : List (Addr × Obj)} {dx : Nat} (hk : ∀ q ∈ news₁, q.1 ∈ (led S Fs).map (·.1) ∨ q.1 ∉ (led S ns).map (·.1)) (hm : ∀ q ∈ N.objs, q ∈ news₁)
    (hlt : ∀ q ∈ led S Fs, @LT.lt Nat _ q.1 dx) (h0 : @LE.le Nat _ dx N.dx) (h1 : @LT.lt Nat _ N.dx N.x) (h2 : @LT.lt Nat _ N.x N.l) : N.ads.Nodup ∧ ∀ a ∈ N.ads, a ∉ (led S ns).map (·.1) := by
  refine ⟨?_, fun a ha => ?_⟩
  · have n1 : N.x ≠ N.dx := Nat.ne_of_gt h1
    have n2 : N.x ≠ N.l := Nat.ne_of_lt h2
    have n3 : N.dx ≠ N.l := Nat.ne_of_lt (Nat.lt_trans h1 h2)
    simp [Nd.ads, n1, n2, n3]
  · have hge : @LE.le Nat _ dx a := by
      simp only [Nd.ads, List.mem_cons, List.not_mem_nil, or_false] at ha
      rcases ha with e | e | e
      · rw [e]; exact Nat.le_trans h0 (Nat.le_of_lt h1)
      · rw [e]; exact h0
      · rw [e]; exact Nat.le_trans h0 (Nat.le_of_lt (Nat.lt_trans h1 h2))
    rw [← Nd.objs_ads] at ha
    obtain ⟨q, hq, rfl⟩ := List.mem_map.mp ha
    rcases hk q (hm q hq) with h | h
    · obtain ⟨r, hr, e⟩ := List.mem_map.mp h
      have := hlt r hr
      rw [e] at this
      exact absurd this (Nat.not_lt.mpr hge)
    · exact h

theorem same_od (S : Srt) (od' : Obj) : Same S { S with od := od' } := rfl
theorem same_refl (S : Srt) : Same S S := rfl

theorem addL_spec {w : World} {S : Srt} {ns : List Nd} {b : Nat} {a : Str} {t : Tok} (W : Wf w S ns b) (hb : b ≤ 1000) (hrv : S.rv = .none) :
    Contract w 112 [.ref S.self, .str a t] (fun _ => True) (led S ns) (Added w S (b + 2) (addL (lg ns) a)) := by
  have hz : (kvsOf ns).length ≤ sizeLine := by
    have := W.len; rw [sizeLine_eq]; unfold kvsOf; rw [List.length_map]; omega
  rcases mem_or_not ns a with ⟨A, hA, rfl⟩ | hno
  · have c := add1_found (t := t) (u := t) W.dict hrv W.lo (valueAt_mem W.names hA) (focus1 W hA)
    rw [← led_one] at c
    refine c.frame (sub_led fun d hd => by rw [List.mem_singleton.mp hd]; exact hA) fun news₁ v hP hk => ?_
    obtain ⟨rfl, nt, hm⟩ := hP
    refine ⟨rfl, S, ns.map (upA A.nm nt 0) ++ [], ?_, ?_, same_refl S, ?_⟩
    · refine wf_next W rfl (fun d _ => upA_ads ..) ?_ (by simp) .nil (fun d hd => by rw [upA_sv]; exact W.txt d hd) (by simp) (by have := W.len; simp; omega) (fun d hd => by rw [upA_sv]; have := W.sz d hd; omega) (by simp)
      rw [List.append_nil, kvs_map (upA_nm A.nm nt 0) (upA_x A.nm nt 0)]; exact W.dict
    · refine rebuild W (fun d hd => by rw [List.mem_singleton.mp hd]; exact hA) (fun d hd hn => ?_) (fun q hq => hm q (List.mem_append_left _ hq)) (fun d hd q hq => ?_) (by simp)
      · unfold upA
        rw [if_neg]
        intro e
        exact hn (List.mem_singleton.mpr (names_inj W.names hd hA e))
      · rw [List.mem_singleton.mp hd] at hq
        refine hm q (List.mem_append_right _ ?_)
        unfold upA at hq
        rwa [if_pos rfl] at hq
    · rw [List.append_nil, lg_upA, addL, ensure_in (in_names hA)]
  · have c := add1_new (t := t) (u := t) W.dict hrv W.lo (valueAt_not hno) hz (focus0 W)
    rw [← led_nil] at c
    refine c.frame (sub_led fun d hd => nomatch hd) fun news₁ v hP hk => ?_
    obtain ⟨rfl, tk, x, dx, l, nt, se, od', hd', hm, h1, h2, h3⟩ := hP
    have hdict : od'.IsDictOf (strKind PR w) (kvsOf (ns.map id ++ [⟨a, tk, x, dx, l, 0 + 0, nt, #[], se⟩])) := by
      rw [List.map_id]
      unfold kvsOf
      rw [List.map_append]
      have := stored_new (v := .ref x) (valueAt_not hno)
      rw [this] at hd'
      exact hd'
    have hN := new_out (Fs := []) (ns := ns) (N := ⟨a, tk, x, dx, l, 0 + 0, nt, #[], se⟩) hk (fun q hq => hm q (List.mem_append_right _ hq)) h3 (Nat.le_refl _) h1 h2
    refine ⟨rfl, { S with od := od' }, ns.map id ++ [⟨a, tk, x, dx, l, 0 + 0, nt, #[], se⟩], ?_, ?_, same_od S od', ?_⟩
    · refine wf_next W rfl (fun d _ => rfl) hdict (fun d hd => by rw [List.mem_singleton.mp hd]; exact hN) (List.pairwise_singleton _ _) (fun d hd => W.txt d hd) (fun d hd => by rw [List.mem_singleton.mp hd]; simp) (by have := W.len; simp; omega) (fun d hd => by have := W.sz d hd; show d.sv.size ≤ _; omega) (fun d hd => by rw [List.mem_singleton.mp hd]; simp)
    · exact rebuild (Fs := []) W (fun d hd => nomatch hd) (fun d hd hn => rfl) (fun q hq => hm q (List.mem_append_left _ hq)) (fun d hd => nomatch hd) (fun d hd q hq => by rw [List.mem_singleton.mp hd] at hq; exact hm q (List.mem_append_right _ hq))
    · rw [List.map_id, lg_app, addL, ensure_out (out_names hno), bump_app, bump_not (out_names hno)]
      simp [lg, bump]

theorem addE_spec {w : World} {S : Srt} {ns : List Nd} {b : Nat} {a c : Str} {t u : Tok} (W : Wf w S ns b) (hb : b ≤ 1000) (hrv : S.rv = .none) (hac : a ≠ c) :
    Contract w 112 [.ref S.self, .str a t, .str c u] (fun _ => True) (led S ns) (Added w S (b + 2) (addE (lg ns) a c)) := by
  have hz : (kvsOf ns).length ≤ sizeLine := by
    have := W.len; rw [sizeLine_eq]; unfold kvsOf; rw [List.length_map]; omega
  rcases mem_or_not ns a with ⟨A, hA, rfl⟩ | hno
  · rcases mem_or_not ns c with ⟨B, hB, rfl⟩ | hnc
    · -- both are there
      have hAB : A ≠ B := fun e => hac (by rw [e])
      have k := add2_ff (t := t) (u := u) W.dict hrv W.lo (valueAt_mem W.names hA) (by have := W.sz B hB; rw [sizeLine_eq]; omega) (valueAt_mem W.names hB) (focus2 W hA hB hAB)
      rw [← led_two] at k
      refine k.frame (sub_led fun d hd => ?_) fun news₁ v hP hk => ?_
      · simp only [List.mem_cons, List.not_mem_nil, or_false] at hd; rcases hd with rfl | rfl <;> assumption
      obtain ⟨rfl, nt, hm⟩ := hP
      have hf : ∀ d, ((upC B.nm (.str A.nm t)) ∘ upA A.nm nt 1) d = upC B.nm (.str A.nm t) (upA A.nm nt 1 d) := fun d => rfl
      refine ⟨rfl, S, ns.map ((upC B.nm (.str A.nm t)) ∘ upA A.nm nt 1) ++ [], ?_, ?_, same_refl S, ?_⟩
      · refine wf_next W rfl (fun d _ => by rw [hf, upC_ads, upA_ads]) ?_ (by simp) .nil (fun d hd => by rw [hf]; exact push_txt (by rw [upA_sv]; exact W.txt d hd) _) (by simp) (by have := W.len; simp; omega) (fun d hd => by rw [hf]; exact push_sz (by rw [upA_sv]; exact W.sz d hd) _ _) (by simp)
        rw [List.append_nil, kvs_map (fun d => by rw [hf, upC_nm, upA_nm]) (fun d => by rw [hf, upC_x, upA_x])]; exact W.dict
      · refine rebuild (Fs := [A, B]) W (fun d hd => ?_) (fun d hd hn => ?_) (fun q hq => hm q (List.mem_append_left _ (List.mem_append_left _ hq))) (fun d hd q hq => ?_) (by simp)
        · simp only [List.mem_cons, List.not_mem_nil, or_false] at hd; rcases hd with rfl | rfl <;> assumption
        · simp only [List.mem_cons, List.not_mem_nil, or_false, not_or] at hn
          have n1 : ¬ d.nm = A.nm := fun e => hn.1 (names_inj W.names hd hA e)
          have n2 : ¬ d.nm = B.nm := fun e => hn.2 (names_inj W.names hd hB e)
          rw [hf]; unfold upA upC
          rw [if_neg n1, if_neg n2]
        · simp only [List.mem_cons, List.not_mem_nil, or_false] at hd
          rw [hf] at hq
          rcases hd with rfl | rfl
          · refine hm q (List.mem_append_left _ (List.mem_append_right _ ?_))
            unfold upA at hq
            rw [if_pos rfl] at hq
            unfold upC at hq
            rwa [if_neg hac] at hq
          · refine hm q (List.mem_append_right _ ?_)
            unfold upA at hq
            rw [if_neg (Ne.symm hac)] at hq
            unfold upC at hq
            rwa [if_pos rfl] at hq
      · rw [List.append_nil, ← List.map_map, lg_upC, lg_upA, addE, ensure_in (in_names hA), ensure_in (by rw [bump_fst]; exact in_names hB)]
    · -- the name is there, what it waits for is new
      have k := add2_fn (t := t) (u := u) (b := c) W.dict hrv W.lo (valueAt_mem W.names hA) (valueAt_not hnc) hz (focus1 W hA)
      rw [← led_one] at k
      refine k.frame (sub_led fun d hd => by rw [List.mem_singleton.mp hd]; exact hA) fun news₁ v hP hk => ?_
      obtain ⟨rfl, tk2, x2, dx2, l2, nt2, se2, nt, od', hd', hm, h1, h2, h3⟩ := hP
      have hdict : od'.IsDictOf (strKind PR w) (kvsOf (ns.map (upA A.nm nt 1) ++ [⟨c, tk2, x2, dx2, l2, 0, nt2, (#[] : Array Value).push (.str A.nm t), se2⟩])) := by
        have e : kvsOf (ns.map (upA A.nm nt 1) ++ [⟨c, tk2, x2, dx2, l2, 0, nt2, (#[] : Array Value).push (.str A.nm t), se2⟩]) = kvsOf (ns.map (upA A.nm nt 1)) ++ [(c, .ref x2)] := by unfold kvsOf; rw [List.map_append]; rfl
        rw [e, kvs_map (upA_nm A.nm nt 1) (upA_x A.nm nt 1)]
        rw [stored_new (valueAt_not hnc)] at hd'
        exact hd'
      have hN := new_out (Fs := [A]) (ns := ns) (N := ⟨c, tk2, x2, dx2, l2, 0, nt2, (#[] : Array Value).push (.str A.nm t), se2⟩) hk (fun q hq => hm q (List.mem_append_right _ hq)) h3 (Nat.le_refl _) h1 h2
      refine ⟨rfl, { S with od := od' }, ns.map (upA A.nm nt 1) ++ [⟨c, tk2, x2, dx2, l2, 0, nt2, (#[] : Array Value).push (.str A.nm t), se2⟩], ?_, ?_, same_od S od', ?_⟩
      · refine wf_next W rfl (fun d _ => upA_ads ..) hdict (fun d hd => by rw [List.mem_singleton.mp hd]; exact hN) (List.pairwise_singleton _ _) (fun d hd => by rw [upA_sv]; exact W.txt d hd) (fun d hd => by rw [List.mem_singleton.mp hd]; simp) (by have := W.len; simp; omega) (fun d hd => by rw [upA_sv]; have := W.sz d hd; omega) (fun d hd => by rw [List.mem_singleton.mp hd]; simp)
      · refine rebuild (Fs := [A]) W (fun d hd => by rw [List.mem_singleton.mp hd]; exact hA) (fun d hd hn => ?_) (fun q hq => hm q (List.mem_append_left _ (List.mem_append_left _ hq))) (fun d hd q hq => ?_) (fun d hd q hq => by rw [List.mem_singleton.mp hd] at hq; exact hm q (List.mem_append_right _ hq))
        · unfold upA
          rw [if_neg]
          intro e
          exact hn (List.mem_singleton.mpr (names_inj W.names hd hA e))
        · rw [List.mem_singleton.mp hd] at hq
          refine hm q (List.mem_append_left _ (List.mem_append_right _ ?_))
          unfold upA at hq
          rwa [if_pos rfl] at hq
      · rw [lg_app, lg_upA, addE, ensure_in (in_names hA), ensure_out (by rw [bump_fst]; exact out_names hnc), pushS_app, pushS_not (by rw [bump_fst]; exact out_names hnc)]
        simp [lg, pushS, strOf]
  · rcases mem_or_not ns c with ⟨B, hB, rfl⟩ | hnc
    · -- the name is new, what it waits for is there
      have k := add2_nf (t := t) (u := u) (a := a) W.dict hrv W.lo (valueAt_not hno) hz (by have := W.sz B hB; rw [sizeLine_eq]; omega)
        (fun x => by rw [stored_new (valueAt_not hno), valueAt_app hac]; exact valueAt_mem W.names hB) (focus1 W hB)
      rw [← led_one] at k
      refine k.frame (sub_led fun d hd => by rw [List.mem_singleton.mp hd]; exact hB) fun news₁ v hP hk => ?_
      obtain ⟨rfl, tk, x, dx, l, nt, se, od', hd', hm, h1, h2, h3⟩ := hP
      have hdict : od'.IsDictOf (strKind PR w) (kvsOf (ns.map (upC B.nm (.str a t)) ++ [⟨a, tk, x, dx, l, 0 + 1, nt, #[], se⟩])) := by
        have e : kvsOf (ns.map (upC B.nm (.str a t)) ++ [⟨a, tk, x, dx, l, 0 + 1, nt, #[], se⟩]) = kvsOf (ns.map (upC B.nm (.str a t))) ++ [(a, .ref x)] := by unfold kvsOf; rw [List.map_append]; rfl
        rw [e, kvs_map (upC_nm B.nm _) (upC_x B.nm _)]
        rw [stored_new (valueAt_not hno)] at hd'
        exact hd'
      have hN := new_out (Fs := [B]) (ns := ns) (N := ⟨a, tk, x, dx, l, 0 + 1, nt, #[], se⟩) hk (fun q hq => hm q (List.mem_append_left _ (List.mem_append_right _ hq))) h3 (Nat.le_refl _) h1 h2
      refine ⟨rfl, { S with od := od' }, ns.map (upC B.nm (.str a t)) ++ [⟨a, tk, x, dx, l, 0 + 1, nt, #[], se⟩], ?_, ?_, same_od S od', ?_⟩
      · refine wf_next W rfl (fun d _ => upC_ads ..) hdict (fun d hd => by rw [List.mem_singleton.mp hd]; exact hN) (List.pairwise_singleton _ _) (fun d hd => push_txt (W.txt d hd) _) (fun d hd => by rw [List.mem_singleton.mp hd]; simp) (by have := W.len; simp; omega) (fun d hd => push_sz (W.sz d hd) _ _) (fun d hd => by rw [List.mem_singleton.mp hd]; simp)
      · refine rebuild (Fs := [B]) W (fun d hd => by rw [List.mem_singleton.mp hd]; exact hB) (fun d hd hn => ?_) (fun q hq => hm q (List.mem_append_left _ (List.mem_append_left _ hq))) (fun d hd q hq => ?_) (fun d hd q hq => by rw [List.mem_singleton.mp hd] at hq; exact hm q (List.mem_append_left _ (List.mem_append_right _ hq)))
        · unfold upC
          rw [if_neg]
          intro e
          exact hn (List.mem_singleton.mpr (names_inj W.names hd hB e))
        · rw [List.mem_singleton.mp hd] at hq
          refine hm q (List.mem_append_right _ ?_)
          unfold upC at hq
          rwa [if_pos rfl] at hq
      · rw [lg_app, lg_upC, addE, ensure_out (out_names hno), bump_app, bump_not (out_names hno), ensure_in (by rw [List.map_append]; exact List.mem_append_left _ (in_names hB)), pushS_app]
        congr 1
        simp [lg, bump, pushS, hac]
    · -- both are new
      have k := add2_nn (t := t) (u := u) (a := a) (b := c) W.dict hrv W.lo (valueAt_not hno) hz
        (fun x => by rw [stored_new (valueAt_not hno), valueAt_app hac]; exact valueAt_not hnc)
        (fun x => by rw [stored_new (valueAt_not hno), List.length_append]; have := W.len; rw [sizeLine_eq]; unfold kvsOf; rw [List.length_map, List.length_singleton]; omega) (focus0 W)
      rw [← led_nil] at k
      refine k.frame (sub_led fun d hd => nomatch hd) fun news₁ v hP hk => ?_
      obtain ⟨rfl, tk, x, dx, l, tk2, x2, dx2, l2, nt2, se2, nt, se, od', hd', hm, h1, h2, h3, h4, h5, h6⟩ := hP
      have e0 : stored (stored (kvsOf ns) a (.ref x)) c (.ref x2) = kvsOf ns ++ [(a, .ref x)] ++ [(c, .ref x2)] := by
        rw [stored_new (valueAt_not hno), stored_new]
        rw [valueAt_app hac]; exact valueAt_not hnc
      have hdict : od'.IsDictOf (strKind PR w) (kvsOf (ns.map id ++ [⟨a, tk, x, dx, l, 0 + 1, nt, #[], se⟩, ⟨c, tk2, x2, dx2, l2, 0, nt2, (#[] : Array Value).push (.str a t), se2⟩])) := by
        have e : kvsOf (ns.map id ++ [⟨a, tk, x, dx, l, 0 + 1, nt, #[], se⟩, ⟨c, tk2, x2, dx2, l2, 0, nt2, (#[] : Array Value).push (.str a t), se2⟩]) = kvsOf ns ++ [(a, .ref x)] ++ [(c, .ref x2)] := by
          rw [List.map_id]; unfold kvsOf; rw [List.map_append, List.append_assoc]; rfl
        rw [e, ← e0]; exact hd'
      have hlt2 : ∀ q ∈ led S [], @LT.lt Nat _ q.1 dx2 := fun q hq => Nat.lt_trans (h3 q hq) (Nat.lt_trans h1 (Nat.lt_trans h2 h6))
      have hN1 := new_out (Fs := []) (ns := ns) (N := ⟨a, tk, x, dx, l, 0 + 1, nt, #[], se⟩) hk (fun q hq => hm q (List.mem_append_left _ (List.mem_append_right _ hq))) h3 (Nat.le_refl _) h1 h2
      have hN2 := new_out (Fs := []) (ns := ns) (N := ⟨c, tk2, x2, dx2, l2, 0, nt2, (#[] : Array Value).push (.str a t), se2⟩) hk (fun q hq => hm q (List.mem_append_right _ hq)) hlt2 (Nat.le_refl _) h4 h5
      refine ⟨rfl, { S with od := od' }, ns.map id ++ [⟨a, tk, x, dx, l, 0 + 1, nt, #[], se⟩, ⟨c, tk2, x2, dx2, l2, 0, nt2, (#[] : Array Value).push (.str a t), se2⟩], ?_, ?_, same_od S od', ?_⟩
      · refine wf_next W rfl (fun d _ => rfl) hdict (fun d hd => ?_) ?_ (fun d hd => W.txt d hd) (fun d hd => ?_) (by have := W.len; simp; omega) (fun d hd => by have := W.sz d hd; show d.sv.size ≤ _; omega) (fun d hd => ?_)
        · simp only [List.mem_cons, List.not_mem_nil, or_false] at hd; rcases hd with rfl | rfl <;> assumption
        · refine List.pairwise_cons.mpr ⟨fun d hd => ?_, List.pairwise_singleton _ _⟩
          rw [List.mem_singleton.mp hd]
          intro y hy hy2
          have g1 : @LE.le Nat _ y l := by
            simp only [Nd.ads, List.mem_cons, List.not_mem_nil, or_false] at hy
            rcases hy with e | e | e
            · rw [e]; exact Nat.le_of_lt h2
            · rw [e]; exact Nat.le_of_lt (Nat.lt_trans h1 h2)
            · rw [e]; exact Nat.le_refl _
          have g2 : @LE.le Nat _ dx2 y := by
            simp only [Nd.ads, List.mem_cons, List.not_mem_nil, or_false] at hy2
            rcases hy2 with e | e | e
            · rw [e]; exact Nat.le_of_lt h4
            · rw [e]; exact Nat.le_refl _
            · rw [e]; exact Nat.le_of_lt (Nat.lt_trans h4 h5)
          exact absurd (Nat.lt_of_lt_of_le h6 (Nat.le_trans g2 g1)) (Nat.lt_irrefl _)
        · simp only [List.mem_cons, List.not_mem_nil, or_false] at hd; rcases hd with rfl | rfl <;> simp
        · simp only [List.mem_cons, List.not_mem_nil, or_false] at hd; rcases hd with rfl | rfl <;> simp
      · refine rebuild (Fs := []) W (fun d hd => nomatch hd) (fun d hd hn => rfl) (fun q hq => hm q (List.mem_append_left _ (List.mem_append_left _ hq))) (fun d hd => nomatch hd) (fun d hd q hq => ?_)
        simp only [List.mem_cons, List.not_mem_nil, or_false] at hd
        rcases hd with rfl | rfl
        · exact hm q (List.mem_append_left _ (List.mem_append_right _ hq))
        · exact hm q (List.mem_append_right _ hq)
      · have o1 : c ∉ (lg ns ++ [(a, (0 : Int) + 1, ([] : List Str))]).map (·.1) := by
          rw [List.map_append]
          intro hm
          rcases List.mem_append.mp hm with hm | hm
          · exact out_names hnc hm
          · exact hac (List.mem_singleton.mp hm).symm
        rw [List.map_id, lg_app, addE, ensure_out (out_names hno), bump_app, bump_not (out_names hno)]
        have e1 : bump [(a, (0 : Int), ([] : List Str))] a 1 = [(a, 0 + 1, [])] := by simp [bump]
        rw [e1, ensure_out o1, pushS_app, pushS_not o1]
        simp [lg, pushS, strOf]

end
section
noncomputable def trunc (h : Heap) (L : Nat) : Heap := ⟨h.objs.extract 0 L, h.life⟩
theorem trunc_get (h : Heap) (L b : Nat) : (trunc h L).get? b = if @LT.lt Nat _ b L then h.get? b else none := by
  unfold trunc Heap.get?
  dsimp only
  by_cases hb : @LT.lt Nat _ b L
  · rw [if_pos hb]
    have : (h.objs.extract 0 L)[b]? = h.objs[b]? := by
      rw [Array.getElem?_extract]
      simp only [Nat.sub_zero, Nat.zero_add]
      by_cases hs : b < h.objs.size
      · rw [if_pos (by omega)]
      · rw [if_neg (by omega), Array.getElem?_eq_none (by omega)]
    rw [this]
  · rw [if_neg hb]
    have : (h.objs.extract 0 L)[b]? = none := by
      apply Array.getElem?_eq_none
      rw [Array.size_extract]; omega
    rw [this]
theorem trunc_size (h : Heap) (L : Nat) : (trunc h L).objs.size ≤ L := by
  unfold trunc; dsimp only; rw [Array.size_extract]; omega

structure Rebased (A : Around) (base g g' : Heap) (outer : List Env) (w : World) (p : Program) (loose : List Str) (mean : ExcName → Option Value) (mg mb : Str → Option Value) (L : Addr) (h : Heap) (m : Str → Option Value) (keep rest : List (Addr × Obj)) : Prop where
  B : Below A base outer g'
  F : Fr g' L h m
  X : (Mine.hd.heap_1 w.params).In g'
  T : Top p loose mean mg mb g'
  N : News g' L h keep
  up : ∀ b o, g.get? b = some o → g'.get? b = some o
  rest : ∀ q ∈ rest, g'.get? q.1 = some q.2

/-- the rest of the ledger becomes ground for a while -/
theorem rebase {A : Around} {base g h : Heap} {outer : List Env} {w : World} {p : Program} {loose : List Str} {mean : ExcName → Option Value} {mg mb : Str → Option Value} {L : Addr} {m : Str → Option Value} {news : List (Addr × Obj)}
    (B : Below A base outer g) (F : Fr g L h m) (X : (Mine.hd.heap_1 w.params).In g) (T : Top p loose mean mg mb g) (N : News g L h news) (keep rest : List (Addr × Obj))
    (hk : ∀ q ∈ keep, q ∈ news) (hr : ∀ q ∈ rest, q ∈ news) (hlt : ∀ q ∈ rest, @LT.lt Nat _ q.1 L) (hap : ∀ q ∈ rest, q.1 ∉ keep.map (·.1)) :
    ∃ g', Rebased A base g g' outer w p loose mean mg mb L h m keep rest := by
  have get : ∀ b o, h.get? b = some o → @LT.lt Nat _ b L → b ∉ keep.map (·.1) → (hideAll (trunc h L) (keep.map (·.1))).get? b = some o := fun b o e l n => by
    refine hideAll_get _ ?_ n
    rw [trunc_get, if_pos l]; exact e
  have up : ∀ b o, g.get? b = some o → (hideAll (trunc h L) (keep.map (·.1))).get? b = some o := fun b o e => by
    refine get b o (F.keep b o e) (Nat.lt_of_lt_of_le (Heap.lt_size e) F.above) fun q => ?_
    obtain ⟨r, hr', rfl⟩ := List.mem_map.mp q
    rw [(N r (hk r hr')).2.2] at e; cases e
  refine ⟨hideAll (trunc h L) (keep.map (·.1)), ⟨B.stack, fun b o e => up b o (B.stays b o e), B.frames.of_keeps fun b o e _ => ⟨o, up b o e, rfl⟩⟩, ⟨F.ns, fun b o e => ?_, ?_⟩, X.keeps up, T.keeps up, fun q hq => ⟨(N q (hk q hq)).1, (N q (hk q hq)).2.1, hideAll_none _ (List.mem_map_of_mem hq)⟩, up, fun q hq => get _ _ (N q (hr q hq)).1 (hlt q hq) (hap q hq)⟩
  · have := of_hideAll _ e
    rw [trunc_get] at this
    split at this
    · exact this
    · cases this
  · rw [hideAll_size]; exact trunc_size h L
/-- and back -/
theorem Rebased.back {A : Around} {base g g' h h' : Heap} {outer : List Env} {w : World} {p : Program} {loose : List Str} {mean : ExcName → Option Value} {mg mb : Str → Option Value} {L : Addr} {m m' : Str → Option Value} {keep rest keep' : List (Addr × Obj)}
    (R : Rebased A base g g' outer w p loose mean mg mb L h m keep rest) {news : List (Addr × Obj)} (F : Fr g L h m) (N : News g L h news) (hr : ∀ q ∈ rest, q ∈ news) (F' : Fr g' L h' m') (N' : News g' L h' keep') :
    Fr g L h' m' ∧ News g L h' (keep' ++ rest) := by
  refine ⟨⟨F'.ns, fun b o e => F'.keep b o (R.up b o e), F.above⟩, fun q hq => ?_⟩
  rcases List.mem_append.mp hq with hq | hq
  · refine ⟨(N' q hq).1, (N' q hq).2.1, ?_⟩
    cases e : g.get? q.1 with
    | none => rfl
    | some o => have := (N' q hq).2.2; rw [R.up _ _ e] at this; cases this
  · exact ⟨F'.keep _ _ (R.rest q hq), (N q (hr q hq)).2⟩

end
section
theorem tuple_made {prog : Program} {w : World} {A : Around} {E : Value → Shared → Prop} {s : Shared} {h₀ : Heap} {L l : Addr} {m : Str → Option Value} {news : List (Addr × Obj)} {items : Array Value} {e : Nat} {Q : Value → Shared → Prop}
    (F : Fr h₀ L s.heap m) (N : News h₀ L s.heap news) (hm : (l, PySem.W.listOf items e) ∈ news) (hsz : items.size ≤ sizeLine)
    (h : ∀ D h', Fr h₀ L h' m → News h₀ L h' ((D, ({ cls := .type "tuple", data := .seq items } : Obj)) :: news) → (∀ p ∈ news, p.1 < D) → @LT.lt Nat _ L D → Q (.ref D) { s with heap := h' }) : wpAny (model prog w) A (call (.type "tuple") [.ref l]) Q E s := by
  refine call_tuple_list ⟨_, (N _ hm).1, rfl, _, rfl⟩ (fun h' hk => ?_) hsz
  have F' : Fr h₀ L h' m := F.keeps hk
  have N' : News h₀ L h' news := fun p hp => ⟨hk _ _ (N p hp).1, (N p hp).2⟩
  exact h _ _ (F'.push _) (News.push F' N' _) (fun p hp => Heap.lt_size (N' p hp).1) F'.ns.lt
local macro_rules | `(tactic| k_steps) => `(tactic| (repeat' (first | (k_unfold; (try dsimp only)) | (walk1; (try dsimp only)) | (dsimp only; walk1; (try dsimp only)) | fail "no step")))
local macro_rules | `(tactic| walk_at "call builtin:dict.get") => `(tactic| first
  | (refine dget_some (by with_reducible assumption) (by k_mem) (by with_reducible assumption) (by with_reducible assumption) (by first | with_reducible assumption | (rename (∀ _, valueAt _ _ = some _) => hvv; exact hvv _)) ?_)
  | (refine dget_none (by with_reducible assumption) (by k_mem) (by with_reducible assumption) (by with_reducible assumption) (by first | with_reducible assumption | (rename (∀ _, valueAt _ _ = none) => hvv; exact hvv _)) ?_))
local macro_rules | `(tactic| k_ne) => `(tactic| (refine neN ?_; (try dsimp only); first | exact Df.to (by with_reducible assumption) | exact Df.from (by with_reducible assumption) | omega))
local macro_rules | `(tactic| k_room) => `(tactic| ((try simp only [depth_under_make, depth_under_kw, depth_in1, depth_deeper, depth_caller]); (try dsimp only [ktrTop]); omega))
local macro_rules | `(tactic| walk_at "setItem ref str") => `(tactic| (k_dflt (refine kda_set (knd := PySem.strKind _ _) (by k_asm) (by k_asm) (by k_updF) (by k_asm) (strKind_is _ _ _ _) (by first | with_reducible assumption | (rename (∀ _, List.length _ ≤ sizeLine) => hzz; exact hzz _)) ?_); intro h' o' F' N' hd'; (try dsimp only at N')))

local macro_rules | `(tactic| k_all) => `(tactic| with_reducible assumption)
local macro_rules | `(tactic| walk_at "exec For Name Name cons nil") => `(tactic| refine wpAny_For ?_)
local macro_rules | `(tactic| walk_at "exec For Name Attribute cons nil") => `(tactic| (k_dflt (refine wpAny_For ?_)))
local macro_rules | `(tactic| walk_at "subscriptTail") => `(tactic| (k_dflt (refine kda_item (knd := PySem.strKind _ _) (by with_reducible assumption) (by k_mem) (by with_reducible assumption) (strKind_is _ _ _ _) (by with_reducible assumption) ?_)))
local macro_rules | `(tactic| walk_at "call type:tuple") => `(tactic| (k_dflt (refine tuple_made (by with_reducible assumption) (by with_reducible assumption) (by k_mem) (by with_reducible assumption) ?_); intro D' h' F' N' l1 l2; (try k_lt l1); (try k_sweep)))

theorem put_po {h1 h2 h3 h4 : Int} {t1 t2 t3 t4 : Tok} {a b c d : Value} {n : Nat} (hs : Int) (k : Value) (v : Value) :
    (putL (Str.ofString "_npassedout") hs k v [⟨h1, .str (Str.ofString "_node2info") t1, a⟩, ⟨h2, .str (Str.ofString "_ready_nodes") t2, b⟩, ⟨h3, .str (Str.ofString "_npassedout") t3, c⟩, ⟨h4, .str (Str.ofString "_nfinished") t4, d⟩], putN (Str.ofString "_npassedout") [⟨h1, .str (Str.ofString "_node2info") t1, a⟩, ⟨h2, .str (Str.ofString "_ready_nodes") t2, b⟩, ⟨h3, .str (Str.ofString "_npassedout") t3, c⟩, ⟨h4, .str (Str.ofString "_nfinished") t4, d⟩] n) = ([⟨h1, .str (Str.ofString "_node2info") t1, a⟩, ⟨h2, .str (Str.ofString "_ready_nodes") t2, b⟩, ⟨h3, .str (Str.ofString "_npassedout") t3, v⟩, ⟨h4, .str (Str.ofString "_nfinished") t4, d⟩], n) := by with_unfolding_all rfl
theorem put_nf {h1 h2 h3 h4 : Int} {t1 t2 t3 t4 : Tok} {a b c d : Value} {n : Nat} (hs : Int) (k : Value) (v : Value) :
    (putL (Str.ofString "_nfinished") hs k v [⟨h1, .str (Str.ofString "_node2info") t1, a⟩, ⟨h2, .str (Str.ofString "_ready_nodes") t2, b⟩, ⟨h3, .str (Str.ofString "_npassedout") t3, c⟩, ⟨h4, .str (Str.ofString "_nfinished") t4, d⟩], putN (Str.ofString "_nfinished") [⟨h1, .str (Str.ofString "_node2info") t1, a⟩, ⟨h2, .str (Str.ofString "_ready_nodes") t2, b⟩, ⟨h3, .str (Str.ofString "_npassedout") t3, c⟩, ⟨h4, .str (Str.ofString "_nfinished") t4, d⟩] n) = ([⟨h1, .str (Str.ofString "_node2info") t1, a⟩, ⟨h2, .str (Str.ofString "_ready_nodes") t2, b⟩, ⟨h3, .str (Str.ofString "_npassedout") t3, c⟩, ⟨h4, .str (Str.ofString "_nfinished") t4, v⟩], n) := by with_unfolding_all rfl
theorem put_rv {h1 h2 h3 h4 : Int} {t1 t2 t3 t4 : Tok} {a b c d : Value} {n : Nat} (hs : Int) (k : Value) (v : Value) :
    (putL (Str.ofString "_ready_nodes") hs k v [⟨h1, .str (Str.ofString "_node2info") t1, a⟩, ⟨h2, .str (Str.ofString "_ready_nodes") t2, b⟩, ⟨h3, .str (Str.ofString "_npassedout") t3, c⟩, ⟨h4, .str (Str.ofString "_nfinished") t4, d⟩], putN (Str.ofString "_ready_nodes") [⟨h1, .str (Str.ofString "_node2info") t1, a⟩, ⟨h2, .str (Str.ofString "_ready_nodes") t2, b⟩, ⟨h3, .str (Str.ofString "_npassedout") t3, c⟩, ⟨h4, .str (Str.ofString "_nfinished") t4, d⟩] n) = ([⟨h1, .str (Str.ofString "_node2info") t1, a⟩, ⟨h2, .str (Str.ofString "_ready_nodes") t2, v⟩, ⟨h3, .str (Str.ofString "_npassedout") t3, c⟩, ⟨h4, .str (Str.ofString "_nfinished") t4, d⟩], n) := by with_unfolding_all rfl

local macro_rules | `(tactic| walk_at "setAttr ref") => `(tactic| (k_dflt (refine set_dict (by k_asm) (by k_asm) (by k_asm) (by k_inst) (by exact rfl) (by k_is) (by k_is) (by k_is) (by k_is) (by k_get) (by first | exact put_po _ _ _ | exact put_nf _ _ _ | exact put_rv _ _ _) (by k_upd) (by exact Nat.le_of_ble_eq_true rfl) ?_); k_whole; intro h' F' N'; (try k_sweep)))

local macro_rules | `(tactic| walk_at "call builtin:list.clear") => `(tactic| (k_dflt (refine kl_clear (by k_asm) (by k_asm) (by k_upd) (by with_reducible assumption) (by with_reducible assumption) ?_); intro h' F' N'; (try dsimp only at N')))
noncomputable def led4 (S : Srt) (r : Addr) (rs : Array Value) (re : Nat) (ns : List Nd) : List (Addr × Obj) := S.objs ++ (r, PySem.W.listOf rs re) :: ns.flatMap Nd.objs
noncomputable def setNp (G : List (Str × Int × List Str)) (a : Str) (k : Int) : List (Str × Int × List Str) := G.map fun e => if e.1 = a then (e.1, k, e.2.2) else e
structure Wf2 (w : World) (S : Srt) (r : Addr) (ns : List Nd) (b : Nat) : Prop where
  wf : Wf w S ns b
  rv : S.rv = .ref r
  rS : r ∉ S.ads
  rN : ∀ d ∈ ns, r ∉ d.ads
theorem off_of {S : Srt} {ns : List Nd} {a : Addr} (h : ∀ d ∈ ns, a ∉ d.ads) : ∀ q ∈ ns.flatMap Nd.objs, q.1 ≠ a := by
  intro q hq e
  obtain ⟨d, hd, hq⟩ := List.mem_flatMap.mp hq
  exact h d hd (e ▸ fst_mem_ads hq)
theorem tail_off {w : World} {S : Srt} {ns : List Nd} {b : Nat} (W : Wf w S ns b) {a : Addr} (h : a ∈ S.ads) : ∀ q ∈ ns.flatMap Nd.objs, q.1 ≠ a := by
  intro q hq e
  obtain ⟨d, hd, hq⟩ := List.mem_flatMap.mp hq
  exact (W.apN d hd).2 _ (fst_mem_ads hq) (e ▸ h)


theorem fr_pins {h₀ h : Heap} {L : Addr} {m : Str → Option Value} (F : Fr h₀ L h m) (l : List (Str × Value)) (e : ∀ p ∈ l, m p.1 = some p.2) : Fr h₀ L h (fun y => (l.lookup y).or (m y)) := by
  have : (fun y => (l.lookup y).or (m y)) = m := by
    funext y
    induction l with
    | nil => rfl
    | cons p r ih =>
      rw [List.lookup_cons]
      by_cases hy : (y == p.1) = true
      · rw [hy]
        have := e p (.head _)
        rw [eq_of_beq hy, this]; rfl
      · rw [Bool.not_eq_true] at hy
        rw [hy]
        exact ih fun q hq => e q (.tail _ hq)
  rw [this]; exact F
/-- a change that leaves names and places -/
structure Still (f : Nd → Nd) : Prop where
  ads : ∀ d, (f d).ads = d.ads
  nm : ∀ d, (f d).nm = d.nm
  sv : ∀ d, (f d).sv = d.sv
theorem Still.x {f : Nd → Nd} (h : Still f) (d : Nd) : (f d).x = d.x := by
  have := congrArg (fun l => l[0]?) (h.ads d); simpa [Nd.ads] using this
theorem Still.id : Still id := ⟨fun _ => rfl, fun _ => rfl, fun _ => rfl⟩
theorem Still.comp {f g : Nd → Nd} (hf : Still f) (hg : Still g) : Still (f ∘ g) := ⟨fun d => (hf.ads _).trans (hg.ads d), fun d => (hf.nm _).trans (hg.nm d), fun d => (hf.sv _).trans (hg.sv d)⟩
theorem Still.kvs {f : Nd → Nd} (h : Still f) (ns : List Nd) : kvsOf (ns.map f) = kvsOf ns := kvs_map h.nm h.x
theorem Still.wf {w : World} {S S' : Srt} {ns : List Nd} {b : Nat} {f : Nd → Nd} (h : Still f) (W : Wf w S ns b) (hS : S'.ads = S.ads) (ho : S'.od = S.od) : Wf w S' (ns.map f) b := by
  have := wf_next (S' := S') (New := []) (f := f) W hS (fun d _ => h.ads d) (by rw [List.append_nil, h.kvs, ho]; exact W.dict) (by simp) .nil (fun d hd => by rw [h.sv]; exact W.txt d hd) (by simp) (by simpa using W.len) (fun d hd => by rw [h.sv]; exact W.sz d hd) (by simp)
  rwa [List.append_nil] at this
noncomputable def upNp (a : Str) (k : Int) (nt : Tok) (d : Nd) : Nd := if d.nm = a then { d with np := k, nt := nt } else d
theorem upNp_still (a k nt) : Still (upNp a k nt) := ⟨fun d => by unfold upNp; split <;> rfl, fun d => by unfold upNp; split <;> rfl, fun d => by unfold upNp; split <;> rfl⟩
theorem lg_upNp (ns : List Nd) (a k nt) : lg (ns.map (upNp a k nt)) = setNp (lg ns) a k := by
  unfold lg setNp; rw [List.map_map, List.map_map]
  refine List.map_congr_left fun d _ => ?_
  show ((upNp a k nt d).nm, (upNp a k nt d).np, (upNp a k nt d).sv.toList.map strOf) = if d.nm = a then _ else _
  unfold upNp; split <;> rfl
/-- the other nodes' objects -/
noncomputable def others (ns : List Nd) (a : Str) : List (Addr × Obj) := (ns.filter fun d => decide (d.nm ≠ a)).flatMap Nd.objs
theorem others_in {ns : List Nd} {a : Str} : ∀ q ∈ others ns a, q ∈ ns.flatMap Nd.objs := by
  intro q hq
  obtain ⟨d, hd, hq⟩ := List.mem_flatMap.mp hq
  exact List.mem_flatMap.mpr ⟨d, (List.mem_filter.mp hd).1, hq⟩
theorem others_off {w : World} {S : Srt} {ns : List Nd} {b : Nat} (W : Wf w S ns b) {A : Nd} (hA : A ∈ ns) : ∀ q ∈ others ns A.nm, q.1 ∉ A.ads := by
  intro q hq
  obtain ⟨d, hd, hq⟩ := List.mem_flatMap.mp hq
  obtain ⟨hd, hn⟩ := List.mem_filter.mp hd
  exact ads_apart W hd hA (fun e => (of_decide_eq_true hn) (by rw [e])) _ (fst_mem_ads hq)
theorem others_all {w : World} {S : Srt} {ns : List Nd} {b : Nat} (W : Wf w S ns b) {A : Nd} (hA : A ∈ ns) {u : Nd → Nd} (hu : ∀ d ∈ ns, d.nm ≠ A.nm → u d = d) : ∀ q ∈ (ns.map u).flatMap Nd.objs, q ∈ (u A).objs ∨ q ∈ others ns A.nm := by
  intro q hq
  obtain ⟨d', hd', hq⟩ := List.mem_flatMap.mp hq
  obtain ⟨d, hd, rfl⟩ := List.mem_map.mp hd'
  by_cases h : d.nm = A.nm
  · have : d = A := names_inj W.names hd hA h
    rw [this] at hq; exact .inl hq
  · rw [hu d hd h] at hq
    exact .inr (List.mem_flatMap.mpr ⟨d, List.mem_filter.mpr ⟨hd, decide_eq_true h⟩, hq⟩)
theorem allLt_tail {d : Nat} {l : List (Addr × Obj)} (h : ∀ p ∈ l, @LT.lt Nat _ p.1 d) : AllLt d l := by
  induction l with
  | nil => trivial
  | cons q r ih => exact ⟨h q (.head _), ih fun p hp => h p (.tail _ hp)⟩
theorem still_lt {f : Nd → Nd} (h : Still f) {ns : List Nd} {L : Nat} (hl : ∀ q ∈ ns.flatMap Nd.objs, @LT.lt Nat _ q.1 L) : ∀ q ∈ (ns.map f).flatMap Nd.objs, @LT.lt Nat _ q.1 L := by
  intro q hq
  obtain ⟨d', hd', hq⟩ := List.mem_flatMap.mp hq
  obtain ⟨d, hd, rfl⟩ := List.mem_map.mp hd'
  have := fst_mem_ads hq
  rw [h.ads] at this
  rw [← Nd.objs_ads] at this
  obtain ⟨q', hq', e⟩ := List.mem_map.mp this
  rw [← e]
  exact hl q' (List.mem_flatMap.mpr ⟨d, hd, hq'⟩)

theorem getready_spec {w : World} {S : Srt} {r : Addr} {rs : Array Value} {re b : Nat} {ns : List Nd} {names : List Str} (W : Wf2 w S r ns b) (hrs : StrsAre rs.toList names) (hlen : names.length ≤ 1000) (hne : names ≠ []) (hin : ∀ a ∈ names, ∃ d ∈ ns, d.nm = a) :
    Contract w 124 [.ref S.self] (fun _ => True) (led4 S r rs re ns) (fun news v => ∃ (t : Addr) (S' : Srt) (ns' : List Nd) (re' : Nat), v = .ref t ∧ Wf2 w S' r ns' b ∧ (∀ q ∈ led4 S' r #[] re' ns', q ∈ news) ∧ (t, ({ cls := .type "tuple", data := .seq rs } : Obj)) ∈ news ∧ (∀ q ∈ led4 S' r #[] re' ns', q.1 ≠ t) ∧
      S'.self = S.self ∧ S'.po = S.po + names.length ∧ S'.nf = S.nf ∧ lg ns' = names.foldl (fun G a => setNp G a (-1)) (lg ns)) := by
  have x1 := tail_off W.wf (a := S.self) (by simp [Srt.ads])
  have x2 := tail_off W.wf (a := S.sd) (by simp [Srt.ads])
  have x3 := tail_off W.wf (a := S.d) (by simp [Srt.ads])
  have x4 := off_of (S := S) W.rN
  have hnd : Apart [S.self, S.sd, S.d, r] := by
    have := apart_of (l := S.ads ++ [r]) (by rw [List.nodup_append]; exact ⟨W.wf.apS, by simp, fun a ha c hc e => by rw [List.mem_singleton.mp hc] at e; exact W.rS (e ▸ ha)⟩)
    exact this
  have hrv := W.rv
  have hrz : rs.size ≤ sizeLine := by
    have := hrs.length; rw [sizeLine_eq]; simp only [Array.length_toList] at this; omega
  have hd := W.wf.dict
  have lo := W.wf.lo
  obtain ⟨self, sd, d, h1, h2, h3, h4, t1, t2, t3, t4, ae, od, rv, po, nf, pt, ft⟩ := S
  dsimp only at x1 x2 x3 hnd hrv hd lo
  subst hrv
  simp only [Apart, NotAt, and_true] at hnd
  obtain ⟨⟨z1, z2, z3⟩, ⟨z4, z5⟩, z6⟩ := hnd
  refine contract_of (fun _ _ _ _ => trivial) (by with_unfolding_all rfl) (by with_unfolding_all rfl) [(Str.ofString "self", .ref self)] (fun s X => BindsTo.of_eq rfl) (locs rfl) rfl rfl rfl (by decide) ?_
  have hlne : rs.toList.length ≠ 0 := fun e => hne (List.eq_nil_of_length_eq_zero (by rw [← hrs.length]; exact e))
  intro dp un gd outer A base g L' h₁ p loose mean mg mb s B F X N T hdp hun hpr hlt
  simp only [led4, Srt.objs, Srt.attrs, List.cons_append, List.nil_append] at N hlt
  k_lt hlt
  k_unmd
  k_fold
  k_steps
  rename Fr _ _ _ _ => F
  rename News _ _ _ _ => N
  rename_i D hp2 l2 l1 hp1 tk0 hp3
  obtain ⟨l1a, l1b, l1c, l1d, l1e⟩ := l1
  obtain ⟨hlta, hltb, hltc, hltd, hlte⟩ := hlt
  have hlte' := allLt_back hlte
  have l1e' := allLt_back l1e
  have htup : hp3.IsTuple D rs := ⟨_, (N _ (.head _)).1, rfl, _, rfl⟩
  have hDL : L' ≠ D := fun e => (N _ (.head _)).2.1 e.symm
  have hW := W.wf
  refine forTup rfl htup hDL F N
    (fun i m news => m "self" = some (.ref self) ∧ m "n2i" = some (.ref d) ∧ m "result" = some (.ref D) ∧ ∃ f : Nd → Nd, Still f ∧ lg (ns.map f) = (names.take i).foldl (fun G a => setNp G a (-1)) (lg ns) ∧
      news = (D, ({ cls := .type "tuple", data := .seq rs } : Obj)) :: (self, instObj 162 sd) :: (sd, PySem.W.dictOf (Srt.attrs ⟨self, sd, d, h1, h2, h3, h4, t1, t2, t3, t4, ae, od, .ref r, po, nf, pt, ft⟩) ae) :: (d, od) :: (r, PySem.W.listOf rs re) :: (ns.map f).flatMap Nd.objs)
    ⟨rfl, rfl, rfl, id, Still.id, by rw [List.map_id]; rfl, by rw [List.map_id]; rfl⟩ ?turn ?done
  case turn =>
    intro I i v m₁ news₁ own h tk hI hv hpat hne' hown htu F₁ N₁
    obtain ⟨m1, m2, m3, f, hf, hlg, rfl⟩ := hpat
    obtain ⟨a, t, rfl, hna⟩ := StrsAre.item hrs i v (by rw [Array.getElem?_toList]; exact hv)
    obtain ⟨A0, hA0, hA0n⟩ := hin a (List.mem_of_getElem? hna)
    have W' := hf.wf (S' := ⟨self, sd, d, h1, h2, h3, h4, t1, t2, t3, t4, ae, od, .ref r, po, nf, pt, ft⟩) hW rfl rfl
    have hA : f A0 ∈ ns.map f := List.mem_map_of_mem hA0
    have hAn : (f A0).nm = a := (hf.nm A0).trans hA0n
    have hvA : valueAt (kvsOf ns) a = some (.ref (f A0).x) := by rw [hf.x, ← hA0n]; exact valueAt_mem hW.names hA0
    have hlt2 := still_lt hf hlte'
    have hIL : @LT.lt Nat _ L' I := hI.frame
    have hDI : @LT.lt Nat _ D I := hI.led _ (.head _)
    have hoff := others_off W' hA
    have hall := fun nt => others_all W' hA (u := upNp a (-1) nt) (fun d _ hn => by unfold upNp; rw [if_neg (by rw [← hAn]; exact hn)])
    have hap1 := W'.apN _ hA
    have hrA : r ∉ (f A0).ads := by rw [hf.ads]; exact W.rN A0 hA0
    have hxlt : ∀ y ∈ (f A0).ads, @LT.lt Nat _ y L' := fun y hy => by
      rw [← Nd.objs_ads] at hy
      obtain ⟨q, hq, rfl⟩ := List.mem_map.mp hy
      exact hlt2 q (List.mem_flatMap.mpr ⟨_, hA, hq⟩)
    have hap2 : Apart ([self, sd, d, r] ++ (f A0).ads) := by
      refine apart_of ?_
      rw [List.nodup_append]
      refine ⟨?_, hap1.1, fun y hy c hc e => ?_⟩
      · have := hW.apS
        have hr' := W.rS
        simp only [Srt.ads, List.nodup_cons, List.mem_cons, List.not_mem_nil, or_false, not_or] at this hr' ⊢
        exact ⟨⟨this.1.1, this.1.2, Ne.symm hr'.1⟩, ⟨this.2.1, Ne.symm hr'.2.1⟩, Ne.symm hr'.2.2, fun h => h, List.nodup_nil⟩
      · subst e
        simp only [List.mem_cons, List.not_mem_nil, or_false] at hy
        rcases hy with rfl | rfl | rfl | rfl
        · exact hap1.2 _ hc (by simp [Srt.ads])
        · exact hap1.2 _ hc (by simp [Srt.ads])
        · exact hap1.2 _ hc (by simp [Srt.ads])
        · exact hrA hc
    have y1 := off_of (S := ⟨self, sd, d, h1, h2, h3, h4, t1, t2, t3, t4, ae, od, .ref r, po, nf, pt, ft⟩) (ns := ns.map f) (a := r) (fun d' hd' => by
      obtain ⟨d0, hd0, rfl⟩ := List.mem_map.mp hd'; rw [hf.ads]; exact W.rN d0 hd0)
    have y2 := fun a ha => tail_off W' (a := a) ha
    rw [← hAn] at hvA hall
    rw [← hAn]
    rw [← hAn] at hna
    generalize f A0 = A at *
    have F₂ : Fr g L' h _ := fr_pins F₁ [(Str.ofString "self", .ref self), (Str.ofString "n2i", .ref d), (Str.ofString "result", .ref D)] (by
      intro p hp; simp only [List.mem_cons, List.not_mem_nil, or_false] at hp; rcases hp with rfl | rfl | rfl <;> assumption)
    have N₂ : News g L' h _ := N₁
    have hrest : ∀ q ∈ others (ns.map f) A.nm, q ∈ (D, ({ cls := .type "tuple", data := .seq rs } : Obj)) :: (self, instObj 162 sd) :: (sd, PySem.W.dictOf (Srt.attrs ⟨self, sd, d, h1, h2, h3, h4, t1, t2, t3, t4, ae, od, .ref r, po, nf, pt, ft⟩) ae) :: (d, od) :: (r, PySem.W.listOf rs re) :: (ns.map f).flatMap Nd.objs ++ own := fun q hq =>
      List.mem_append_left _ (.tail _ (.tail _ (.tail _ (.tail _ (.tail _ (others_in q hq))))))
    obtain ⟨g', RB⟩ := rebase B F₂ X T N₂ ((D, ({ cls := .type "tuple", data := .seq rs } : Obj)) :: (self, instObj 162 sd) :: (sd, PySem.W.dictOf (Srt.attrs ⟨self, sd, d, h1, h2, h3, h4, t1, t2, t3, t4, ae, od, .ref r, po, nf, pt, ft⟩) ae) :: (d, od) :: (r, PySem.W.listOf rs re) :: (A.objs ++ own)) (others (ns.map f) A.nm)
      (fun q hq => by
        simp only [List.mem_append, List.mem_cons] at hq ⊢
        rcases hq with h | h | h | h | h | h | h
        · exact .inl (.inl h)
        · exact .inl (.inr (.inl h))
        · exact .inl (.inr (.inr (.inl h)))
        · exact .inl (.inr (.inr (.inr (.inl h))))
        · exact .inl (.inr (.inr (.inr (.inr (.inl h)))))
        · exact .inl (.inr (.inr (.inr (.inr (.inr (List.mem_flatMap.mpr ⟨A, hA, h⟩))))))
        · exact .inr h)
      hrest (fun q hq => hlt2 q (others_in q hq)) (fun q hq => by
        have hq1 := others_in q hq
        have hq2 := hlt2 q hq1
        simp only [List.map_cons, List.map_append, List.mem_cons, List.mem_append, not_or]
        refine ⟨Nat.ne_of_lt (Nat.lt_trans hq2 l2), y2 self (by simp [Srt.ads]) q hq1, y2 sd (by simp [Srt.ads]) q hq1, y2 d (by simp [Srt.ads]) q hq1, y1 q hq1, hoff q hq, fun hm => ?_⟩
        obtain ⟨p, hp, e⟩ := List.mem_map.mp hm
        rcases hown p hp with h | h
        · exact absurd hq2 (by rw [← e, h]; exact Nat.not_lt.mpr (Nat.le_of_lt hIL))
        · exact absurd hq2 (by rw [← e, h]; exact Nat.not_lt.mpr (Nat.le_of_lt l2)))
    have old := And.intro F₂ N₂
    have olB := And.intro B (And.intro X T)
    clear F₁ N₁ F₂ N₂ B X T F N
    have B' := RB.B
    have F' := RB.F
    have X' := RB.X
    have T' := RB.T
    have N' := RB.N
    obtain ⟨nm, tkA, x, dx, l, np, nt, sv, se⟩ := A
    simp only [Nd.ads, Nd.objs, Srt.attrs, List.cons_append, List.nil_append, Apart, NotAt, and_true] at N' hap2
    obtain ⟨⟨z11, z12, z13, z14, z15, z16⟩, ⟨z21, z22, z23, z24, z25⟩, ⟨z31, z32, z33, z34⟩, ⟨z41, z42, z43⟩, ⟨z51, z52⟩, z6⟩ := hap2
    have hxD : @LT.lt Nat _ x D := Nat.lt_trans (hxlt x (by simp [Nd.ads])) l2
    have hox : ∀ p ∈ own, p.1 ≠ x := fun p hp e => by
      rcases hown p hp with h | h
      · exact absurd (hxlt x (by simp [Nd.ads])) (by rw [← e, h]; exact Nat.not_lt.mpr (Nat.le_of_lt hIL))
      · exact absurd hxD (by rw [← e, h]; exact Nat.lt_irrefl _)
    dsimp only at hvA ⊢
    k_unmd
    k_fold
    k_steps
    rename Fr _ _ _ _ => F3
    rename News _ _ _ _ => N3
    obtain ⟨F4, N4⟩ := RB.back old.1 old.2 hrest F3 N3
    refine turnOk_ ((D, ({ cls := .type "tuple", data := .seq rs } : Obj)) :: (self, instObj 162 sd) :: (sd, PySem.W.dictOf (Srt.attrs ⟨self, sd, d, h1, h2, h3, h4, t1, t2, t3, t4, ae, od, .ref r, po, nf, pt, ft⟩) ae) :: (d, od) :: (r, PySem.W.listOf rs re) :: (ns.map (upNp nm (-1) 225 ∘ f)).flatMap Nd.objs) F4 N4 (fun q hq => ?_) (fun q hq => ?_) ⟨rfl, rfl, rfl, upNp nm (-1) 225 ∘ f, (upNp_still nm (-1) 225).comp hf, ?_, rfl⟩
    · simp only [List.cons_append, List.mem_append, List.mem_cons] at hq ⊢
      rcases hq with h | h | h | h | h | h | h
      · exact .inl h
      · exact .inr (.inl h)
      · exact .inr (.inr (.inl h))
      · exact .inr (.inr (.inr (.inl h)))
      · exact .inr (.inr (.inr (.inr (.inl h))))
      · rw [← List.map_map] at h
        rcases hall 225 q h with h | h
        · rw [show upNp nm (-1) 225 ⟨nm, tkA, x, dx, l, np, nt, sv, se⟩ = ⟨nm, tkA, x, dx, l, -1, 225, sv, se⟩ from if_pos rfl] at h
          simp only [Nd.objs, List.mem_cons, List.not_mem_nil, or_false] at h
          rcases h with h | h | h
          · exact .inr (.inr (.inr (.inr (.inr (.inl h)))))
          · exact .inr (.inr (.inr (.inr (.inr (.inr (.inl h))))))
          · exact .inr (.inr (.inr (.inr (.inr (.inr (.inr (.inl h)))))))
        · exact .inr (.inr (.inr (.inr (.inr (.inr (.inr (.inr (.inr h))))))))
      · exact .inr (.inr (.inr (.inr (.inr (.inr (.inr (.inr (.inl h))))))))
    · rw [List.mem_singleton]
      simp only [List.mem_cons] at hq
      rcases hq with rfl | rfl | rfl | rfl | rfl | h
      · exact Nat.ne_of_lt hDI
      · exact Nat.ne_of_lt (Nat.lt_trans hlta hIL)
      · exact Nat.ne_of_lt (Nat.lt_trans hltb hIL)
      · exact Nat.ne_of_lt (Nat.lt_trans hltc hIL)
      · exact Nat.ne_of_lt (Nat.lt_trans hltd hIL)
      · exact Nat.ne_of_lt (Nat.lt_trans (still_lt ((upNp_still nm (-1) 225).comp hf) hlte' q h) hIL)
    · rw [← List.map_map, lg_upNp, hlg, List.take_add_one, hna, List.foldl_append]; rfl
  case done =>
    intro h tk9 m news F₁ N₁ hpat
    obtain ⟨m1, m2, m3, f, hf, hlg, rfl⟩ := hpat
    have hsz : rs.size = names.length := by have := hrs.length; simpa using this
    rw [hsz, List.take_length] at hlg
    have W' := hf.wf (S' := ⟨self, sd, d, h1, h2, h3, h4, t1, t2, t3, t4, ae, od, .ref r, po, nf, pt, ft⟩) hW rfl rfl
    have y1 := off_of (S := ⟨self, sd, d, h1, h2, h3, h4, t1, t2, t3, t4, ae, od, .ref r, po, nf, pt, ft⟩) (ns := ns.map f) (a := r) (fun d' hd' => by
      obtain ⟨d0, hd0, rfl⟩ := List.mem_map.mp hd'; rw [hf.ads]; exact W.rN d0 hd0)
    have y2 := tail_off W' (a := sd) (by simp [Srt.ads])
    have F₂ : Fr g L' h _ := fr_pins F₁ [(Str.ofString "self", .ref self), (Str.ofString "n2i", .ref d), (Str.ofString "result", .ref D)] (by
      intro p hp; simp only [List.mem_cons, List.not_mem_nil, or_false] at hp; rcases hp with rfl | rfl | rfl <;> assumption)
    have N₂ : News g L' h _ := N₁
    clear F N F₁ N₁
    simp only [Srt.attrs] at N₂
    have hrz' : rs.toList.length ≤ sizeLine := by simpa using hrz
    k_unmd
    dsimp only
    k_steps
    rename Fr _ _ _ _ => F4
    rename News _ _ _ _ => N4
    have l5 := allLt_back l1e
    rename_i tk8 h8
    refine leaveS_ F4 N4 ⟨D, ⟨self, sd, d, h1, h2, h3, h4, t1, t2, t3, t4, ae, od, .ref r, po + names.length, nf, tk8 + 1 + 1 + 1, ft⟩, ns.map f, re + 1, rfl, ⟨?_, rfl, W.rS, fun d' hd' => by
      obtain ⟨d0, hd0, rfl⟩ := List.mem_map.mp hd'; rw [hf.ads]; exact W.rN d0 hd0⟩, ?_, .head _, ?_, rfl, rfl, rfl, hlg⟩
    · exact hf.wf hW rfl rfl
    · intro q hq; rw [← hsz] at hq; exact .tail _ hq
    · intro q hq
      simp only [led4, Srt.objs, List.cons_append, List.nil_append, List.mem_cons] at hq
      rcases hq with rfl | rfl | rfl | rfl | h
      · exact Nat.ne_of_lt l1a
      · exact Nat.ne_of_lt l1b
      · exact Nat.ne_of_lt l1c
      · exact Nat.ne_of_lt l1d
      · exact Nat.ne_of_lt (still_lt hf l5 q h)

end
section
theorem meets_bool_new_list (l : Addr) (items : Array Value) (hfit : (items.size : Int) < 2 ^ 63) : Meets (Builtin.«bool.__new__» ⟨[.type "bool", .ref l], []⟩) (fun _ R s => s.heap.IsList l items ∧ R (.ok (.ret (.bool (!items.isEmpty)))) { s with toks := s.toks + 1 + 1 }) :=
  Meets.of_wp fun prog w A R s hs => by
    obtain ⟨hp, g, d, tk, os⟩ := s
    have f1 := F.conv_sub_bool
    obtain ⟨hl, hs⟩ := hs
    repeat (any_goals (first | assumption | (with_reducible refine wpAny_truthy_list hl hfit ?_) | wp_step))
    all_goals first | exact ⟨_, rfl, hs⟩ | exact hs | skip
theorem call_bool_list {prog : Program} {w : World} {A : Around} {E : Value → Shared → Prop} {s : Shared} {h₀ : Heap} {L l : Addr} {news : List (Addr × Obj)} {items : Array Value} {e : Nat} {Q : Value → Shared → Prop}
    (N : News h₀ L s.heap news) (hm : (l, PySem.W.listOf items e) ∈ news) (hfit : items.size ≤ 1000) (h : Q (.bool (!items.isEmpty)) { s with toks := s.toks + 1 + 1 }) :
    wpAny (model prog w) A (call (.type "bool") [.ref l]) Q E s :=
  call_bool_1 (meets_bool_new_list l items (by omega)) ⟨⟨_, (N _ hm).1, rfl, _, rfl⟩, ⟨rfl, h⟩⟩
local macro_rules | `(tactic| k_steps) => `(tactic| (repeat' (first | (k_unfold; (try dsimp only)) | (walk1; (try dsimp only)) | (dsimp only; walk1; (try dsimp only)) | fail "no step")))
local macro_rules | `(tactic| walk_at "call builtin:dict.get") => `(tactic| first
  | (refine dget_some (by with_reducible assumption) (by k_mem) (by with_reducible assumption) (by with_reducible assumption) (by first | with_reducible assumption | (rename (∀ _, valueAt _ _ = some _) => hvv; exact hvv _)) ?_)
  | (refine dget_none (by with_reducible assumption) (by k_mem) (by with_reducible assumption) (by with_reducible assumption) (by first | with_reducible assumption | (rename (∀ _, valueAt _ _ = none) => hvv; exact hvv _)) ?_))
local macro_rules | `(tactic| k_ne) => `(tactic| (refine neN ?_; (try dsimp only); first | exact Df.to (by with_reducible assumption) | exact Df.from (by with_reducible assumption) | omega))
local macro_rules | `(tactic| k_room) => `(tactic| ((try simp only [depth_under_make, depth_under_kw, depth_in1, depth_deeper, depth_caller]); (try dsimp only [ktrTop]); omega))
local macro_rules | `(tactic| walk_at "setItem ref str") => `(tactic| (k_dflt (refine kda_set (knd := PySem.strKind _ _) (by k_asm) (by k_asm) (by k_updF) (by k_asm) (strKind_is _ _ _ _) (by first | with_reducible assumption | (rename (∀ _, List.length _ ≤ sizeLine) => hzz; exact hzz _)) ?_); intro h' o' F' N' hd'; (try dsimp only at N')))

local macro_rules | `(tactic| k_all) => `(tactic| with_reducible assumption)
local macro_rules | `(tactic| walk_at "exec For Name Name cons nil") => `(tactic| refine wpAny_For ?_)
local macro_rules | `(tactic| walk_at "exec For Name Attribute cons nil") => `(tactic| (k_dflt (refine wpAny_For ?_)))
local macro_rules | `(tactic| walk_at "subscriptTail") => `(tactic| (k_dflt (refine kda_item (knd := PySem.strKind _ _) (by with_reducible assumption) (by k_mem) (by with_reducible assumption) (strKind_is _ _ _ _) (by with_reducible assumption) ?_)))
local macro_rules | `(tactic| walk_at "call type:tuple") => `(tactic| (k_dflt (refine tuple_made (by with_reducible assumption) (by with_reducible assumption) (by k_mem) (by with_reducible assumption) ?_); intro D' h' F' N' l1 l2; (try k_lt l1); (try k_sweep)))

local macro_rules | `(tactic| walk_at "call type:bool") => `(tactic| (k_dflt (refine call_bool_list (by with_reducible assumption) (by k_mem) (by with_reducible assumption) ?_)))
theorem active_spec {w : World} {S : Srt} {r : Addr} {rs : Array Value} {re b : Nat} {ns : List Nd} (W : Wf2 w S r ns b) (hnf : S.nf = S.po) (hlen : rs.size ≤ 1000) :
    Contract w 131 [.ref S.self] (fun _ => True) (led4 S r rs re ns) (fun news v => news = led4 S r rs re ns ∧ v = .bool (decide (rs.size ≠ 0))) := by
  have x1 := tail_off W.wf (a := S.self) (by simp [Srt.ads])
  have x2 := tail_off W.wf (a := S.sd) (by simp [Srt.ads])
  have x3 := tail_off W.wf (a := S.d) (by simp [Srt.ads])
  have x4 := off_of (S := S) W.rN
  have hnd : Apart [S.self, S.sd, S.d, r] := by
    have := apart_of (l := S.ads ++ [r]) (by rw [List.nodup_append]; exact ⟨W.wf.apS, by simp, fun a ha c hc e => by rw [List.mem_singleton.mp hc] at e; exact W.rS (e ▸ ha)⟩)
    exact this
  have hrv := W.rv
  obtain ⟨self, sd, d, h1, h2, h3, h4, t1, t2, t3, t4, ae, od, rv, po, nf, pt, ft⟩ := S
  dsimp only at x1 x2 x3 hnd hrv hnf
  subst hrv
  subst hnf
  simp only [Apart, NotAt, and_true] at hnd
  obtain ⟨⟨z1, z2, z3⟩, ⟨z4, z5⟩, z6⟩ := hnd
  refine contract_of (fun _ _ _ _ => trivial) (by with_unfolding_all rfl) (by with_unfolding_all rfl) [(Str.ofString "self", .ref self)] (fun s X => BindsTo.of_eq rfl) (locs rfl) rfl rfl rfl (by decide) ?_
  intro dp un gd outer A base g L' h₁ p loose mean mg mb s B F X N T hdp hun hpr hlt
  simp only [led4, Srt.objs, Srt.attrs, List.cons_append, List.nil_append] at N hlt
  k_lt hlt
  k_unmd
  k_fold
  k_steps
  all_goals first
    | (refine absurd ?_ (Int.lt_irrefl nf); assumption)
    | (refine leaveS_ F N ⟨rfl, ?_⟩; unfold Array.isEmpty; by_cases hz : rs.size = 0 <;> simp [hz])

end
section
/-- one node in the open, the others into the ground -/
theorem open_node {A : Around} {base g h : Heap} {outer : List Env} {w : World} {p : Program} {loose : List Str} {mean : ExcName → Option Value} {mg mb : Str → Option Value} {L : Addr} {m : Str → Option Value} {news : List (Addr × Obj)}
    {S : Srt} {r : Addr} {rs : Array Value} {re b : Nat} {ns : List Nd} {d : Nd} (W : Wf2 w S r ns b) (hd : d ∈ ns)
    (B : Below A base outer g) (F : Fr g L h m) (X : (Mine.hd.heap_1 w.params).In g) (T : Top p loose mean mg mb g) (N : News g L h news) (keepE restE : List (Addr × Obj))
    (hin : ∀ q ∈ led4 S r rs re ns ++ (keepE ++ restE), q ∈ news) (hlt : ∀ q ∈ ns.flatMap Nd.objs, @LT.lt Nat _ q.1 L)
    (hE : ∀ p ∈ keepE, ∀ q ∈ ns.flatMap Nd.objs, q.1 ≠ p.1) (hR : ∀ p ∈ restE, ∃ q ∈ others ns d.nm, q.1 = p.1) :
    ∃ g', Rebased A base g g' outer w p loose mean mg mb L h m (S.objs ++ (r, PySem.W.listOf rs re) :: (d.objs ++ keepE)) (others ns d.nm ++ restE) := by
  have hrest : ∀ p ∈ others ns d.nm ++ restE, ∃ q ∈ others ns d.nm, q.1 = p.1 := fun p hp => (List.mem_append.mp hp).elim (fun h => ⟨p, h, rfl⟩) (hR p)
  refine rebase B F X T N _ _ (fun q hq => hin q ?_) (fun q hq => hin q ?_) (fun q hq => ?_) (fun q hq hm => ?_)
  · simp only [led4, List.mem_append, List.mem_cons] at hq ⊢
    rcases hq with h | h | h | h
    · exact .inl (.inl h)
    · exact .inl (.inr (.inl h))
    · exact .inl (.inr (.inr (List.mem_flatMap.mpr ⟨d, hd, h⟩)))
    · exact .inr (.inl h)
  · simp only [led4, List.mem_append, List.mem_cons] at hq ⊢
    rcases hq with h | h
    · exact .inl (.inr (.inr (others_in q h)))
    · exact .inr (.inr h)
  · obtain ⟨q', hq', e⟩ := hrest q hq
    rw [← e]; exact hlt q' (others_in q' hq')
  · obtain ⟨q', hq', e⟩ := hrest q hq
    rw [← e] at hm
    have h1 := others_in q' hq'
    simp only [List.map_append, List.map_cons, List.mem_append, List.mem_cons, Srt.objs_ads, Nd.objs_ads] at hm
    rcases hm with h | h | h | h
    · exact tail_off W.wf h q' h1 rfl
    · exact off_of (S := S) W.rN q' h1 h
    · exact others_off W.wf hd q' hq' h
    · obtain ⟨p', hp', e'⟩ := List.mem_map.mp h
      exact hE p' hp' q' h1 e'.symm
theorem close_node {w : World} {S S' : Srt} {r : Addr} {rs' : Array Value} {re' b : Nat} {ns : List Nd} {d : Nd} {keepE restE : List (Addr × Obj)} (W : Wf w S ns b) (hd : d ∈ ns) {u : Nd → Nd} (hu : ∀ d' ∈ ns, d'.nm ≠ d.nm → u d' = d') :
    ∀ q ∈ led4 S' r rs' re' (ns.map u) ++ (keepE ++ restE), q ∈ S'.objs ++ (r, PySem.W.listOf rs' re') :: ((u d).objs ++ keepE) ++ (others ns d.nm ++ restE) := by
  intro q hq
  simp only [led4, List.mem_append, List.mem_cons] at hq ⊢
  rcases hq with (h | h | h) | h | h
  · exact .inl (.inl h)
  · exact .inl (.inr (.inl h))
  · rcases others_all W hd hu q h with h | h
    · exact .inl (.inr (.inr (.inl h)))
    · exact .inr (.inl h)
  · exact .inl (.inr (.inr (.inr h)))
  · exact .inr (.inr h)
/-- the places of the sorter, of the list of the ready and of one node -/
theorem open_apart {w : World} {S : Srt} {r : Addr} {b : Nat} {ns : List Nd} {d : Nd} (W : Wf2 w S r ns b) (hd : d ∈ ns) : Apart ([S.self, S.sd, S.d, r] ++ d.ads) := by
  have hap := W.wf.apN d hd
  have h1 := W.wf.apS
  have h2 := W.rS
  have h3 := W.rN d hd
  refine apart_of ?_
  rw [List.nodup_append]
  refine ⟨?_, hap.1, fun y hy c hc e => ?_⟩
  · simp only [Srt.ads, List.nodup_cons, List.mem_cons, List.not_mem_nil, or_false, not_or] at h1 h2 ⊢
    exact ⟨⟨h1.1.1, h1.1.2, Ne.symm h2.1⟩, ⟨h1.2.1, Ne.symm h2.2.1⟩, Ne.symm h2.2.2, fun h => h, List.nodup_nil⟩
  · subst e
    simp only [List.mem_cons, List.not_mem_nil, or_false] at hy
    rcases hy with rfl | rfl | rfl | rfl
    · exact hap.2 _ hc (by simp [Srt.ads])
    · exact hap.2 _ hc (by simp [Srt.ads])
    · exact hap.2 _ hc (by simp [Srt.ads])
    · exact h3 hc
theorem Still.wf2 {w : World} {S S' : Srt} {r : Addr} {ns : List Nd} {b : Nat} {f : Nd → Nd} (h : Still f) (W : Wf2 w S r ns b) (hS : S'.ads = S.ads) (ho : S'.od = S.od) (hv : S'.rv = S.rv) : Wf2 w S' r (ns.map f) b :=
  ⟨h.wf W.wf hS ho, hv.trans W.rv, by rw [hS]; exact W.rS, fun d' hd' => by obtain ⟨d, hd, rfl⟩ := List.mem_map.mp hd'; rw [h.ads]; exact W.rN d hd⟩
/-- the first entry under a name -/
noncomputable def ent : List (Str × Int × List Str) → Str → Int × List Str
  | [], _ => (0, [])
  | e :: r, a => if e.1 = a then e.2 else ent r a
theorem ent_mem : ∀ {ns : List Nd}, (ns.map (·.nm)).Nodup → ∀ {d : Nd}, d ∈ ns → ent (lg ns) d.nm = (d.np, d.sv.toList.map strOf)
  | c :: ns, hn, d, hd => by
    rw [List.map_cons, List.nodup_cons] at hn
    show (if c.nm = d.nm then _ else _) = _
    rcases List.mem_cons.mp hd with rfl | hd
    · rw [if_pos rfl]
    · rw [if_neg fun e => hn.1 (by rw [e]; exact List.mem_map_of_mem hd)]
      exact ent_mem hn.2 hd
/-- one that waits hears that one is done -/
noncomputable def decr (st : List (Str × Int × List Str) × List Str) (b : Str) : List (Str × Int × List Str) × List Str :=
  (setNp st.1 b ((ent st.1 b).1 - 1), if (ent st.1 b).1 - 1 = 0 then st.2 ++ [b] else st.2)
noncomputable def doneOne (st : List (Str × Int × List Str) × List Str) (a : Str) : List (Str × Int × List Str) × List Str :=
  (ent st.1 a).2.foldl decr (setNp st.1 a (-2), st.2)
noncomputable def doneAll (st : List (Str × Int × List Str) × List Str) (names : List Str) : List (Str × Int × List Str) × List Str := names.foldl doneOne st
theorem decrs_grow : ∀ (l : List Str) (st : List (Str × Int × List Str) × List Str), st.2.length ≤ (l.foldl decr st).2.length
  | [], _ => Nat.le_refl _
  | a :: r, st => Nat.le_trans (by unfold decr; dsimp only; split <;> simp) (decrs_grow r (decr st a))
theorem doneAll_grow : ∀ (l : List Str) (st : List (Str × Int × List Str) × List Str), st.2.length ≤ (doneAll st l).2.length
  | [], _ => Nat.le_refl _
  | a :: r, st => Nat.le_trans (decrs_grow (ent st.1 a).2 (setNp st.1 a (-2), st.2)) (doneAll_grow r (doneOne st a))
theorem Still.ent {f : Nd → Nd} (h : Still f) {ns : List Nd} (hn : (ns.map (·.nm)).Nodup) {d : Nd} (hd : d ∈ ns) : Mine.ent (lg (ns.map f)) d.nm = ((f d).np, d.sv.toList.map strOf) := by
  have := ent_mem (ns := ns.map f) (by rw [List.map_map, show ((fun x : Nd => x.nm) ∘ f) = fun x => x.nm from funext h.nm]; exact hn) (List.mem_map_of_mem hd)
  rw [h.nm, h.sv] at this
  exact this
theorem strsAre_txt : ∀ {l : List Value}, (∀ v ∈ l, ∃ x t, v = .str x t) → StrsAre l (l.map strOf)
  | [], _ => .nil
  | v :: l, h => by
    obtain ⟨x, t, rfl⟩ := h v (.head _)
    exact .cons x t (strsAre_txt fun u hu => h u (.tail _ hu))
theorem Still.l {f : Nd → Nd} (h : Still f) (d : Nd) : (f d).l = d.l := by
  have := congrArg (fun l => l[2]?) (h.ads d); simpa [Nd.ads] using this
theorem tok_of {g h : Heap} {L a1 a2 a3 r x dx l : Addr} {o1 o2 o3 o4 : Obj} {nm : Str} {tk nt : Tok} {k : Int} {rest : List (Addr × Obj)}
    (N : News g L h ((a1, o1) :: (a2, o2) :: (a3, o3) :: (r, o4) :: (x, (⟨.ref 65, some dx, .plain, #[some (.str nm tk), some (.int k nt), some (.ref l)]⟩ : Obj)) :: rest)) :
    ∃ nt, News g L h ((a1, o1) :: (a2, o2) :: (a3, o3) :: (r, o4) :: (x, (⟨.ref 65, some dx, .plain, #[some (.str nm tk), some (.int k nt), some (.ref l)]⟩ : Obj)) :: rest) := ⟨nt, N⟩
theorem ftok_of {g h : Heap} {L D self sd : Addr} {oD oS : Obj} {h1 h2 h3 h4 : Int} {t1 t2 t3 t4 ft pt : Tok} {a b : Value} {po nf : Int} {ae : Nat} {rest : List (Addr × Obj)}
    (N : News g L h ((D, oD) :: (self, oS) :: (sd, PySem.W.dictOf [⟨h1, .str (Str.ofString "_node2info") t1, a⟩, ⟨h2, .str (Str.ofString "_ready_nodes") t2, b⟩, ⟨h3, .str (Str.ofString "_npassedout") t3, .int po pt⟩, ⟨h4, .str (Str.ofString "_nfinished") t4, .int nf ft⟩] ae) :: rest)) :
    ∃ ft, News g L h ((D, oD) :: (self, oS) :: (sd, PySem.W.dictOf [⟨h1, .str (Str.ofString "_node2info") t1, a⟩, ⟨h2, .str (Str.ofString "_ready_nodes") t2, b⟩, ⟨h3, .str (Str.ofString "_npassedout") t3, .int po pt⟩, ⟨h4, .str (Str.ofString "_nfinished") t4, .int nf ft⟩] ae) :: rest) := ⟨ft, N⟩

end
section
local macro_rules | `(tactic| walk_at "pad") => `(tactic| fail)
local macro_rules | `(tactic| k_steps) => `(tactic| (repeat' (first | (k_unfold; (try dsimp only)) | (walk1; (try dsimp only)) | (dsimp only; walk1; (try dsimp only)) | fail "no step")))
local macro_rules | `(tactic| walk_at "call builtin:dict.get") => `(tactic| first
  | (refine dget_some (by with_reducible assumption) (by k_mem) (by with_reducible assumption) (by with_reducible assumption) (by first | with_reducible assumption | (rename (∀ _, valueAt _ _ = some _) => hvv; exact hvv _)) ?_)
  | (refine dget_none (by with_reducible assumption) (by k_mem) (by with_reducible assumption) (by with_reducible assumption) (by first | with_reducible assumption | (rename (∀ _, valueAt _ _ = none) => hvv; exact hvv _)) ?_))
local macro_rules | `(tactic| k_ne) => `(tactic| (refine neN ?_; (try dsimp only); first | exact Df.to (by with_reducible assumption) | exact Df.from (by with_reducible assumption) | omega))
local macro_rules | `(tactic| k_room) => `(tactic| ((try simp only [depth_under_make, depth_under_kw, depth_in1, depth_deeper, depth_caller]); (try dsimp only [ktrTop]); omega))
local macro_rules | `(tactic| walk_at "setItem ref str") => `(tactic| (k_dflt (refine kda_set (knd := PySem.strKind _ _) (by k_asm) (by k_asm) (by k_updF) (by k_asm) (strKind_is _ _ _ _) (by first | with_reducible assumption | (rename (∀ _, List.length _ ≤ sizeLine) => hzz; exact hzz _)) ?_); intro h' o' F' N' hd'; (try dsimp only at N')))

local macro_rules | `(tactic| k_all) => `(tactic| with_reducible assumption)
local macro_rules | `(tactic| walk_at "exec For Name Name cons nil") => `(tactic| refine wpAny_For ?_)
local macro_rules | `(tactic| walk_at "exec For Name Attribute cons nil") => `(tactic| (k_dflt (refine wpAny_For ?_)))
local macro_rules | `(tactic| walk_at "subscriptTail") => `(tactic| (k_dflt (refine kda_item (knd := PySem.strKind _ _) (by with_reducible assumption) (by k_mem) (by with_reducible assumption) (strKind_is _ _ _ _) (by with_reducible assumption) ?_)))
local macro_rules | `(tactic| walk_at "call type:tuple") => `(tactic| (k_dflt (refine tuple_made (by with_reducible assumption) (by with_reducible assumption) (by k_mem) (by with_reducible assumption) ?_); intro D' h' F' N' l1 l2; (try k_lt l1); (try k_sweep)))

local macro_rules | `(tactic| walk_at "setAttr ref") => `(tactic| (k_dflt (refine set_dict (by k_asm) (by k_asm) (by k_asm) (by k_inst) (by exact rfl) (by k_is) (by k_is) (by k_is) (by k_is) (by k_get) (by first | exact put_po _ _ _ | exact put_nf _ _ _ | exact put_rv _ _ _) (by k_upd) (by exact Nat.le_of_ble_eq_true rfl) ?_); k_whole; intro h' F' N'; (try k_sweep)))

theorem done_spec {w : World} {S : Srt} {r : Addr} {rs : Array Value} {re b : Nat} {ns : List Nd} {vs : List Value} {names R : List Str} (W : Wf2 w S r ns b) (hrs : StrsAre rs.toList R) (hvs : StrsAre vs names) (hlen : names.length ≤ 1000) (hb : b ≤ 1000)
    (hin : ∀ a ∈ names, ∃ d ∈ ns, d.nm = a) (hsucc : ∀ d ∈ ns, ∀ c ∈ d.sv.toList.map strOf, ∃ e ∈ ns, e.nm = c ∧ e.nm ≠ d.nm)
    (hout : ∀ (i : Nat) a, names[i]? = some a → (ent (doneAll (lg ns, R) (names.take i)).1 a).1 = -1) (hfin : (doneAll (lg ns, R) names).2.length ≤ 1000) :
    Contract w 145 (.ref S.self :: vs) (fun _ => True) (led4 S r rs re ns) (fun news v => ∃ (S' : Srt) (ns' : List Nd) (rs' : Array Value) (re' : Nat), v = .none ∧ Wf2 w S' r ns' b ∧ (∀ q ∈ led4 S' r rs' re' ns', q ∈ news) ∧
      StrsAre rs'.toList (doneAll (lg ns, R) names).2 ∧ lg ns' = (doneAll (lg ns, R) names).1 ∧ S'.self = S.self ∧ S'.nf = S.nf + names.length ∧ S'.po = S.po) := by
  have hvz : vs.length ≤ sizeLine := by
    have := hvs.length; rw [sizeLine_eq]; omega
  have hrv := W.rv
  have hd := W.wf.dict
  have lo := W.wf.lo
  obtain ⟨self, sd, d, h1, h2, h3, h4, t1, t2, t3, t4, ae, od, rv, po, nf, pt, ft⟩ := S
  dsimp only at hrv hd lo
  subst hrv
  refine contract_rest vs [(Str.ofString "self", .ref self)] (Str.ofString "nodes") (fun _ _ _ _ => trivial) (by with_unfolding_all rfl) (by with_unfolding_all rfl) (by cases vs <;> rfl) hvz (fun v => locs rfl) rfl rfl rfl (by decide) ?_
  intro dp un gd outer A base g D L' h₁ p loose mean mg mb s B F X N T hdp hun hpr hlt hDL
  have hlt' : ∀ q ∈ ns.flatMap Nd.objs, @LT.lt Nat _ q.1 D := fun q hq => hlt q (List.mem_append_right _ (.tail _ hq))
  have hltL : ∀ q ∈ ns.flatMap Nd.objs, @LT.lt Nat _ q.1 L' := fun q hq => Nat.lt_trans (hlt' q hq) hDL
  have htup : h₁.IsTuple D vs.toArray := ⟨_, (N _ (.head _)).1, rfl, _, rfl⟩
  have hDL' : L' ≠ D := fun e => Nat.lt_irrefl _ (e ▸ hDL)
  simp only [led4, Srt.objs, Srt.attrs, List.cons_append, List.nil_append] at N
  have x1 := tail_off W.wf (a := self) (by simp [Srt.ads])
  have x2 := tail_off W.wf (a := sd) (by simp [Srt.ads])
  have x3 := tail_off W.wf (a := d) (by simp [Srt.ads])
  have x4 := off_of (S := ⟨self, sd, d, h1, h2, h3, h4, t1, t2, t3, t4, ae, od, .ref r, po, nf, pt, ft⟩) W.rN
  k_unmd
  k_fold
  k_steps
  rename Fr _ _ _ _ => F
  rename News _ _ _ _ => N
  have htup := (⟨_, (N _ (.head _)).1, rfl, _, rfl⟩ : Heap.IsTuple _ D vs.toArray)
  refine forTup rfl htup hDL' F N
    (fun i m news => m "self" = some (.ref self) ∧ m "n2i" = some (.ref d) ∧ ∃ (f : Nd → Nd) (rs1 : Array Value) (re1 : Nat) (nf1 : Int) (ft1 : Tok), Still f ∧ StrsAre rs1.toList (doneAll (lg ns, R) (names.take i)).2 ∧ lg (ns.map f) = (doneAll (lg ns, R) (names.take i)).1 ∧ nf1 = nf + i ∧
      news = (D, ({ cls := .type "tuple", data := .seq vs.toArray } : Obj)) :: led4 ⟨self, sd, d, h1, h2, h3, h4, t1, t2, t3, t4, ae, od, .ref r, po, nf1, pt, ft1⟩ r rs1 re1 (ns.map f))
    ⟨rfl, rfl, id, rs, re, nf, ft, Still.id, hrs, by rw [List.map_id]; rfl, by simp, by rw [List.map_id]; rfl⟩ ?turn ?done
  case turn =>
    intro I i v m₁ news₁ own h tk hI hv hpat hne' hown htu F₁ N₁
    obtain ⟨m1, m2, f, rs1, re1, nf1, ft1, hf, hrs1, hlg, hnf1, rfl⟩ := hpat
    obtain ⟨a, t, rfl, hna⟩ := StrsAre.item hvs i v (by simpa using hv)
    obtain ⟨A0, hA0, hA0n⟩ := hin a (List.mem_of_getElem? hna)
    have W1 := hf.wf2 (S' := ⟨self, sd, d, h1, h2, h3, h4, t1, t2, t3, t4, ae, od, .ref r, po, nf1, pt, ft1⟩) W rfl rfl rfl
    have hA : f A0 ∈ ns.map f := List.mem_map_of_mem hA0
    have hent := hf.ent W.wf.names hA0
    have hnp : (f A0).np = -1 := by
      have := hout i a hna
      rw [← hlg, ← hA0n, hent] at this; exact this
    have hvA : valueAt (kvsOf ns) a = some (.ref (f A0).x) := by rw [hf.x, ← hA0n]; exact valueAt_mem W.wf.names hA0
    have hlt2 := still_lt hf hltL
    have hlt3 := still_lt hf hlt'
    have hIL : @LT.lt Nat _ L' I := hI.frame
    have hDI : @LT.lt Nat _ D I := hI.led _ (.head _)
    have hap := open_apart W1 hA
    have F₂ : Fr g L' h _ := fr_pins F₁ [(Str.ofString "self", .ref self), (Str.ofString "n2i", .ref d)] (by
      intro p hp; simp only [List.mem_cons, List.not_mem_nil, or_false] at hp; rcases hp with rfl | rfl <;> assumption)
    have hkE : ∀ p ∈ (D, ({ cls := .type "tuple", data := .seq vs.toArray } : Obj)) :: own, ∀ q ∈ (ns.map f).flatMap Nd.objs, q.1 ≠ p.1 := by
      intro p hp q hq e
      have := hlt3 q hq
      rcases List.mem_cons.mp hp with rfl | hp
      · exact Nat.lt_irrefl _ (by rw [e] at this; exact this)
      · rcases hown p hp with h | h
        · rw [e, h] at this; exact Nat.lt_irrefl _ (Nat.lt_trans this hDI)
        · rw [e, h] at this; exact Nat.lt_irrefl _ this
    obtain ⟨g', RB⟩ := open_node (S := ⟨self, sd, d, h1, h2, h3, h4, t1, t2, t3, t4, ae, od, .ref r, po, nf1, pt, ft1⟩) (rs := rs1) (re := re1) W1 hA B F₂ X T N₁ ((D, ({ cls := .type "tuple", data := .seq vs.toArray } : Obj)) :: own) []
      (fun q hq => by
        simp only [List.append_nil, List.mem_append, List.mem_cons] at hq ⊢
        rcases hq with h | h | h
        · exact .inl (.inr h)
        · exact .inl (.inl h)
        · exact .inr h) hlt2 hkE (by simp)
    have old := And.intro F₂ N₁
    have olB := And.intro B (And.intro X T)
    clear F₁ N₁ F₂ B X T F N
    have B' := RB.B
    have F' := RB.F
    have X' := RB.X
    have T' := RB.T
    have N' := RB.N
    have hAnm : (f A0).nm = a := (hf.nm A0).trans hA0n
    have hAsv : (f A0).sv = A0.sv := hf.sv A0
    have hAl : (f A0).l = A0.l := hf.l A0
    have hent' : Mine.ent (lg (ns.map f)) (f A0).nm = ((f A0).np, (f A0).sv.toList.map strOf) := by rw [hf.nm, hAsv]; exact hent
    generalize f A0 = A at *
    obtain ⟨nm, tkA, x, dx, l, np, nt, sv, se⟩ := A
    dsimp only at hAnm hnp hvA hAsv hAl
    subst hAnm
    subst hnp
    simp only [Srt.objs, Nd.ads, Nd.objs, Srt.attrs, List.cons_append, List.nil_append, Apart, NotAt, and_true] at N' hap
    obtain ⟨⟨z11, z12, z13, z14, z15, z16⟩, ⟨z21, z22, z23, z24, z25⟩, ⟨z31, z32, z33, z34⟩, ⟨z41, z42, z43⟩, ⟨z51, z52⟩, z6⟩ := hap
    have hEx : ∀ p ∈ (D, ({ cls := .type "tuple", data := .seq vs.toArray } : Obj)) :: own, p.1 ≠ x := fun p hp e => hkE p hp (x, _) (List.mem_flatMap.mpr ⟨_, hA, .head _⟩) e.symm
    have hxD : D ≠ x := hEx _ (.head _)
    have hEx' : ∀ p ∈ own, p.1 ≠ x := fun p hp => hEx p (.tail _ hp)
    have hxD' : Df D x := hxD
    k_unmd
    k_fold
    k_steps
    rename Fr _ _ _ _ => F3
    rename News _ _ _ _ => N3
    obtain ⟨F4, N4⟩ := RB.back old.1 old.2 (fun q hq => .tail _ (List.mem_append_left _ (List.mem_append_right _ (.tail _ (others_in q (by simpa using hq)))))) F3 N3
    clear F3 N3
    obtain ⟨B, X, T⟩ := olB
    clear old RB B' X' T'
    have W2 := (upNp_still nm (-2) 228).wf2 W1 (S' := ⟨self, sd, d, h1, h2, h3, h4, t1, t2, t3, t4, ae, od, .ref r, po, nf1, pt, ft1⟩) rfl rfl rfl
    have hlg2 : lg ((ns.map f).map (upNp nm (-2) 228)) = setNp (doneAll (lg ns, R) (names.take i)).1 nm (-2) := by rw [lg_upNp, hlg]
    have hcl := close_node (S' := ⟨self, sd, d, h1, h2, h3, h4, t1, t2, t3, t4, ae, od, .ref r, po, nf1, pt, ft1⟩) (r := r) (rs' := rs1) (re' := re1) (keepE := (D, ({ cls := .type "tuple", data := .seq vs.toArray } : Obj)) :: own) (restE := []) W1.wf hA (u := upNp nm (-2) 228) (fun d' _ hn => by unfold upNp; rw [if_neg hn])
    rw [show upNp nm (-2) 228 ⟨nm, tkA, x, dx, l, -1, nt, sv, se⟩ = ⟨nm, tkA, x, dx, l, -2, 228, sv, se⟩ from if_pos rfl] at hcl
    have hA2 : (⟨nm, tkA, x, dx, l, -2, 228, sv, se⟩ : Nd) ∈ (ns.map f).map (upNp nm (-2) 228) := List.mem_map.mpr ⟨_, hA, if_pos rfl⟩
    have hf2 := (upNp_still nm (-2) 228).comp hf
    rw [List.map_map] at W2 hlg2 hcl hA2
    have N5 : News g L' _ ((D, ({ cls := .type "tuple", data := .seq vs.toArray } : Obj)) :: (led4 ⟨self, sd, d, h1, h2, h3, h4, t1, t2, t3, t4, ae, od, .ref r, po, nf1, pt, ft1⟩ r rs1 re1 (ns.map (upNp nm (-2) 228 ∘ f)) ++ own)) := fun q hq => N4 q (hcl q (by
      simp only [List.append_nil, List.mem_append, List.mem_cons] at hq ⊢
      rcases hq with h | h | h
      · exact .inr (.inl h)
      · exact .inl h
      · exact .inr (.inr h)))
    clear N4 hcl
    generalize upNp nm (-2) 228 ∘ f = f1 at *
    have hsvA : ∀ c ∈ sv.toList.map strOf, ∃ e ∈ ns, e.nm = c ∧ e.nm ≠ nm := by
      intro c hc
      rw [hAsv] at hc
      obtain ⟨e, he, h1, h2⟩ := hsucc A0 hA0 c hc
      exact ⟨e, he, h1, hA0n ▸ h2⟩
    have hst : (ent (doneAll (lg ns, R) (names.take i)).1 nm).2 = sv.toList.map strOf := by
      rw [← hlg]; exact congrArg Prod.snd hent'
    have htake : doneAll (lg ns, R) (names.take (i + 1)) = (sv.toList.map strOf).foldl decr (setNp (doneAll (lg ns, R) (names.take i)).1 nm (-2), (doneAll (lg ns, R) (names.take i)).2) := by
      unfold doneAll
      rw [List.take_add_one, hna, List.foldl_append]
      show (ent (doneAll (lg ns, R) (names.take i)).1 nm).2.foldl decr (setNp (doneAll (lg ns, R) (names.take i)).1 nm (-2), (doneAll (lg ns, R) (names.take i)).2) = _
      rw [hst]; rfl
    generalize hst0 : (setNp (doneAll (lg ns, R) (names.take i)).1 nm (-2), (doneAll (lg ns, R) (names.take i)).2) = st0 at htake
    have hst1 : lg (ns.map f1) = st0.1 := by rw [hlg2, ← hst0]
    have hst2 : StrsAre rs1.toList st0.2 := by rw [← hst0]; exact hrs1
    have hbnd : ∀ j, (((sv.toList.map strOf).take j).foldl decr st0).2.length ≤ 1000 := fun j => by
      refine Nat.le_trans ?_ hfin
      have h1 := decrs_grow ((sv.toList.map strOf).drop j) (((sv.toList.map strOf).take j).foldl decr st0)
      rw [← List.foldl_append, List.take_append_drop, ← htake] at h1
      have h2 := doneAll_grow (names.drop (i + 1)) (doneAll (lg ns, R) (names.take (i + 1)))
      unfold doneAll at h1 h2 ⊢
      rw [← List.foldl_append, List.take_append_drop] at h2
      exact Nat.le_trans h1 h2
    have hsvs : StrsAre sv.toList (sv.toList.map strOf) := strsAre_txt (W1.wf.txt _ hA)
    have hlist : Heap.IsList _ l sv := ⟨_, (N5 (l, PySem.W.listOf sv se) (.tail _ (List.mem_append_left _ (List.mem_append_right _ (.tail _ (List.mem_flatMap.mpr ⟨_, hA2, by simp [Nd.objs]⟩)))))).1, rfl, _, rfl⟩
    have hlL : L' ≠ l := fun e => by
      have := hlt2 (l, PySem.W.listOf sv se) (List.mem_flatMap.mpr ⟨_, hA, by simp [Nd.objs]⟩)
      rw [e] at this; exact Nat.lt_irrefl _ this
    refine forList rfl hlist hlL (.inl ⟨_, _, rfl⟩) F4 N5
      (fun j m news => m "self" = some (.ref self) ∧ m "n2i" = some (.ref d) ∧ ∃ (f2 : Nd → Nd) (rs2 : Array Value) (re2 : Nat), Still f2 ∧ StrsAre rs2.toList (((sv.toList.map strOf).take j).foldl decr st0).2 ∧ lg (ns.map f2) = (((sv.toList.map strOf).take j).foldl decr st0).1 ∧
        news = (D, ({ cls := .type "tuple", data := .seq vs.toArray } : Obj)) :: (led4 ⟨self, sd, d, h1, h2, h3, h4, t1, t2, t3, t4, ae, od, .ref r, po, nf1, pt, ft1⟩ r rs2 re2 (ns.map f2) ++ own))
      ⟨rfl, rfl, f1, rs1, re1, hf2, hst2, hst1, rfl⟩ ?turn2 ?done2
    case turn2 =>
      intro I2 j v m₂ news₂ own2 h9 tk9 hI2 hv2 hpat hne2 hown2 hli F₆ N₆
      obtain ⟨m12, m22, f2, rs2, re2, hf3, hrs2, hlg3, rfl⟩ := hpat
      obtain ⟨c, t9, rfl, hnc⟩ := StrsAre.item hsvs j v (by rw [Array.getElem?_toList]; exact hv2)
      obtain ⟨C0, hC0, hC0n, hC0A⟩ := hsvA c (List.mem_of_getElem? hnc)
      have hc2 : f2 C0 ∈ ns.map f2 := List.mem_map_of_mem hC0
      have W3 := hf3.wf2 (S' := ⟨self, sd, d, h1, h2, h3, h4, t1, t2, t3, t4, ae, od, .ref r, po, nf1, pt, ft1⟩) W rfl rfl rfl
      have hltC := still_lt hf3 hltL
      have hltD := still_lt hf3 hlt'
      have hapC := open_apart W3 hc2
      have hI2L : @LT.lt Nat _ L' I2 := hI2.frame
      have hI2D : @LT.lt Nat _ D I2 := hI2.led _ (.head _)
      have hvC : valueAt (kvsOf ns) c = some (.ref (f2 C0).x) := by rw [hf3.x, ← hC0n]; exact valueAt_mem W.wf.names hC0
      have hentC := hf3.ent W.wf.names hC0
      have hCnm : (f2 C0).nm = c := (hf3.nm C0).trans hC0n
      have hAin : f2 A0 ∈ ns.map f2 := List.mem_map_of_mem hA0
      have hlA : (f2 A0).l = l := by rw [hf3.l, hAl]
      have hAC : (f2 A0).nm ≠ (f2 C0).nm := by rw [hf3.nm, hf3.nm, hA0n]; exact Ne.symm hC0A
      have hlq : (l, PySem.W.listOf (f2 A0).sv (f2 A0).se) ∈ others (ns.map f2) (f2 C0).nm := List.mem_flatMap.mpr ⟨f2 A0, List.mem_filter.mpr ⟨hAin, decide_eq_true hAC⟩, by rw [← hlA]; simp [Nd.objs]⟩
      have hkE2 : ∀ p ∈ (D, ({ cls := .type "tuple", data := .seq vs.toArray } : Obj)) :: (own ++ own2.filter fun p => decide (p.1 ≠ l)), ∀ q ∈ (ns.map f2).flatMap Nd.objs, q.1 ≠ p.1 := by
        intro p hp q hq e
        have h1 := hltD q hq
        have h2 := Nat.lt_trans h1 hDI
        have h3 := Nat.lt_trans h1 hI2D
        rw [e] at h1 h2 h3
        simp only [List.mem_cons, List.mem_append, List.mem_filter, decide_eq_true_eq] at hp
        rcases hp with rfl | hp | ⟨hp, hn⟩
        · exact Nat.lt_irrefl _ h1
        · rcases hown p hp with h | h
          · rw [h] at h2; exact Nat.lt_irrefl _ h2
          · rw [h] at h1; exact Nat.lt_irrefl _ h1
        · rcases hown2 p hp with h | h
          · rw [h] at h3; exact Nat.lt_irrefl _ h3
          · exact hn h
      have F₇ : Fr g L' h9 _ := fr_pins F₆ [(Str.ofString "self", .ref self), (Str.ofString "n2i", .ref d)] (by
        intro p hp; simp only [List.mem_cons, List.not_mem_nil, or_false] at hp; rcases hp with rfl | rfl <;> assumption)
      obtain ⟨g', RB⟩ := open_node (S := ⟨self, sd, d, h1, h2, h3, h4, t1, t2, t3, t4, ae, od, .ref r, po, nf1, pt, ft1⟩) (rs := rs2) (re := re2) W3 hc2 B F₇ X T N₆ ((D, ({ cls := .type "tuple", data := .seq vs.toArray } : Obj)) :: (own ++ own2.filter fun p => decide (p.1 ≠ l))) (own2.filter fun p => decide (p.1 = l))
        (fun q hq => by
          simp only [List.mem_append, List.mem_cons, List.mem_filter] at hq ⊢
          rcases hq with h | (h | h | h) | h
          · exact .inl (.inr (.inl h))
          · exact .inl (.inl h)
          · exact .inl (.inr (.inr h))
          · exact .inr h.1
          · exact .inr h.1) hltC hkE2 (fun p hp => ⟨_, hlq, (of_decide_eq_true (List.mem_filter.mp hp).2).symm⟩)
      have hsub : ∀ Z : List (Addr × Obj), ∀ q ∈ (D, ({ cls := .type "tuple", data := .seq vs.toArray } : Obj)) :: (Z ++ own) ++ own2, q ∈ Z ++ ((D, ({ cls := .type "tuple", data := .seq vs.toArray } : Obj)) :: (own ++ own2.filter fun p => decide (p.1 ≠ l)) ++ own2.filter fun p => decide (p.1 = l)) := fun Z q hq => by
        simp only [List.cons_append, List.append_assoc, List.mem_append, List.mem_cons] at hq ⊢
        rcases hq with h | h | h | h
        · exact .inr (.inl h)
        · exact .inl h
        · exact .inr (.inr (.inl h))
        · by_cases hl : q.1 = l
          · exact .inr (.inr (.inr (.inr (List.mem_filter.mpr ⟨h, decide_eq_true hl⟩))))
          · exact .inr (.inr (.inr (.inl (List.mem_filter.mpr ⟨h, decide_eq_true hl⟩))))
      have hw9 : ∀ f3 : Nd → Nd, Still f3 → ∀ rs' re', ∀ q ∈ (D, ({ cls := .type "tuple", data := .seq vs.toArray } : Obj)) :: (led4 ⟨self, sd, d, h1, h2, h3, h4, t1, t2, t3, t4, ae, od, .ref r, po, nf1, pt, ft1⟩ r rs' re' (ns.map f3) ++ own), q.1 ∉ [I2] := fun f3 hf3 rs' re' q hq hm => by
        rw [List.mem_singleton] at hm
        rcases List.mem_cons.mp hq with rfl | hq
        · exact Nat.lt_irrefl _ (hm ▸ hI2D)
        rcases List.mem_append.mp hq with hq | hq
        · simp only [led4, Srt.objs, List.cons_append, List.nil_append, List.mem_cons] at hq
          have hs : ∀ z ∈ [self, sd, d, r], @LT.lt Nat _ z D := fun z hz => by
            simp only [List.mem_cons, List.not_mem_nil, or_false] at hz
            rcases hz with rfl | rfl | rfl | rfl
            · exact hlt (_, _) (List.mem_append_left _ (.head _))
            · exact hlt (_, _) (List.mem_append_left _ (.tail _ (.head _)))
            · exact hlt (_, _) (List.mem_append_left _ (.tail _ (.tail _ (.head _))))
            · exact hlt (_, PySem.W.listOf rs re) (List.mem_append_right _ (.head _))
          have h9 : @LT.lt Nat _ q.1 D := by
            rcases hq with rfl | rfl | rfl | rfl | h
            · exact hs _ (by simp)
            · exact hs _ (by simp)
            · exact hs _ (by simp)
            · exact hs _ (by simp)
            · exact still_lt hf3 hlt' q h
          rw [hm] at h9; exact Nat.lt_irrefl _ (Nat.lt_trans h9 hI2D)
        · have := hI2.led q (.tail _ (List.mem_append_right _ hq))
          rw [hm] at this; exact Nat.lt_irrefl _ this
      have old := And.intro F₇ N₆
      have hcl := fun (f3 : Nd → Nd) hu (S' : Srt) rs' re' => close_node (S' := S') (r := r) (rs' := rs') (re' := re') (keepE := (D, ({ cls := .type "tuple", data := .seq vs.toArray } : Obj)) :: (own ++ own2.filter fun p => decide (p.1 ≠ l))) (restE := own2.filter fun p => decide (p.1 = l)) W3.wf hc2 (u := f3) hu
      have hmem : ∀ q ∈ own2, q ∈ own2.filter (fun p => decide (p.1 ≠ l)) ∨ q ∈ own2.filter (fun p => decide (p.1 = l)) := fun q hq => by
        by_cases h : q.1 = l
        · exact .inr (List.mem_filter.mpr ⟨hq, decide_eq_true h⟩)
        · exact .inl (List.mem_filter.mpr ⟨hq, decide_eq_true h⟩)
      have hrsz : rs2.size ≤ 1000 := by
        have := hrs2.length; have := hbnd j; simp only [Array.length_toList] at *; omega
      have hrsz' : rs2.size ≤ sizeLine := by rw [sizeLine_eq]; omega
      have hrest : ∀ q ∈ others (ns.map f2) (f2 C0).nm ++ own2.filter (fun p => decide (p.1 = l)), q ∈ (D, ({ cls := .type "tuple", data := .seq vs.toArray } : Obj)) :: (led4 ⟨self, sd, d, h1, h2, h3, h4, t1, t2, t3, t4, ae, od, .ref r, po, nf1, pt, ft1⟩ r rs2 re2 (ns.map f2) ++ own) ++ own2 := fun q hq => by
        rcases List.mem_append.mp hq with h | h
        · exact List.mem_append_left _ (.tail _ (List.mem_append_left _ (List.mem_append_right _ (.tail _ (others_in q h)))))
        · exact List.mem_append_right _ (List.mem_filter.mp h).1
      clear F₆ N₆ F₇ B X T F4 N5
      have B' := RB.B
      have F' := RB.F
      have X' := RB.X
      have T' := RB.T
      have N' := RB.N
      have hentC' : Mine.ent (lg (ns.map f2)) c = ((f2 C0).np, (f2 C0).sv.toList.map strOf) := by rw [hf3.sv, ← hC0n]; exact hentC
      clear hentC
      generalize f2 C0 = C at *
      obtain ⟨nmC, tkC, xC, dxC, lC, npC, ntC, svC, seC⟩ := C
      dsimp only at hCnm hvC hentC'
      subst hCnm
      simp only [Srt.objs, Nd.ads, Nd.objs, Srt.attrs, List.cons_append, List.nil_append, Apart, NotAt, and_true] at N' hapC
      clear z11 z12 z13 z14 z15 z16 z21 z22 z23 z24 z25 z31 z32 z33 z34 z41 z42 z43 z51 z52 z6
      obtain ⟨⟨z11, z12, z13, z14, z15, z16⟩, ⟨z21, z22, z23, z24, z25⟩, ⟨z31, z32, z33, z34⟩, ⟨z41, z42, z43⟩, ⟨z51, z52⟩, z6⟩ := hapC
      have hE1 : ∀ p ∈ own ++ own2.filter (fun p => decide (p.1 ≠ l)), p.1 ≠ xC := fun p hp e => hkE2 p (.tail _ hp) (xC, _) (List.mem_flatMap.mpr ⟨_, hc2, .head _⟩) e.symm
      have hrD : @LT.lt Nat _ r D := hlt (r, PySem.W.listOf rs re) (List.mem_append_right _ (.head _))
      have hDr : Df D r := fun e => Nat.lt_irrefl _ (e ▸ hrD)
      have hE3 : ∀ p ∈ own ++ own2.filter (fun p => decide (p.1 ≠ l)), p.1 ≠ r := fun p hp e => by
        simp only [List.mem_append, List.mem_filter, decide_eq_true_eq] at hp
        rcases hp with hp | ⟨hp, hn⟩
        · rcases hown p hp with h | h
          · rw [← e, h] at hrD; exact Nat.lt_irrefl _ (Nat.lt_trans hrD hDI)
          · rw [← e, h] at hrD; exact Nat.lt_irrefl _ hrD
        · rcases hown2 p hp with h | h
          · rw [← e, h] at hrD; exact Nat.lt_irrefl _ (Nat.lt_trans hrD hI2D)
          · exact hn h
      have hE2 : Df D xC := fun e => hkE2 _ (.head _) (xC, _) (List.mem_flatMap.mpr ⟨_, hc2, .head _⟩) e.symm
      k_unmd
      k_fold
      k_steps
      all_goals
        rename Fr _ _ _ _ => F3
        rename News _ _ _ _ => N3
        obtain ⟨ntk, N3⟩ := tok_of N3
        obtain ⟨F9, N9⟩ := RB.back old.1 old.2 hrest F3 N3
        have hcl9 := hcl (upNp nmC (npC - 1) ntk) (fun d' _ hn => by unfold upNp; rw [if_neg hn])
        rw [show upNp nmC (npC - 1) ntk ⟨nmC, tkC, xC, dxC, lC, npC, ntC, svC, seC⟩ = ⟨nmC, tkC, xC, dxC, lC, npC - 1, ntk, svC, seC⟩ from if_pos rfl, List.map_map] at hcl9
        have hgo : lg (ns.map (upNp nmC (npC - 1) ntk ∘ f2)) = (((sv.toList.map strOf).take (j + 1)).foldl decr st0).1 := by
          rw [← List.map_map, lg_upNp, List.take_add_one, hnc, List.foldl_append, hlg3]
          show _ = setNp _ nmC ((ent _ nmC).1 - 1)
          rw [← hlg3, hentC']
        have hre : (((sv.toList.map strOf).take (j + 1)).foldl decr st0).2 = if npC - 1 = 0 then (((sv.toList.map strOf).take j).foldl decr st0).2 ++ [nmC] else (((sv.toList.map strOf).take j).foldl decr st0).2 := by
          rw [List.take_add_one, hnc, List.foldl_append]
          show (if (ent _ nmC).1 - 1 = 0 then _ else _) = _
          rw [← hlg3, hentC']
        clear F3 N3
      · rename_i hz h8 tk8
        refine turnOk_ ((D, ({ cls := .type "tuple", data := .seq vs.toArray } : Obj)) :: (led4 ⟨self, sd, d, h1, h2, h3, h4, t1, t2, t3, t4, ae, od, .ref r, po, nf1, pt, ft1⟩ r (rs2.push (.str nmC t9)) (re2 + 1) (ns.map (upNp nmC (npC - 1) ntk ∘ f2)) ++ own)) F9 N9
          (fun q hq => hcl9 ⟨self, sd, d, h1, h2, h3, h4, t1, t2, t3, t4, ae, od, .ref r, po, nf1, pt, ft1⟩ (rs2.push (.str nmC t9)) (re2 + 1) q (hsub _ q hq)) (hw9 _ ((upNp_still nmC (npC - 1) ntk).comp hf3) _ _)
          ⟨rfl, rfl, upNp nmC (npC - 1) ntk ∘ f2, (rs2.push (.str nmC t9)), (re2 + 1), (upNp_still nmC (npC - 1) ntk).comp hf3, ?_, hgo, rfl⟩
        exact (by rw [hre, if_pos hz, Array.toList_push]; exact strsAre_push hrs2)
      · rename_i hz 
        refine turnOk_ ((D, ({ cls := .type "tuple", data := .seq vs.toArray } : Obj)) :: (led4 ⟨self, sd, d, h1, h2, h3, h4, t1, t2, t3, t4, ae, od, .ref r, po, nf1, pt, ft1⟩ r rs2 re2 (ns.map (upNp nmC (npC - 1) ntk ∘ f2)) ++ own)) F9 N9
          (fun q hq => hcl9 ⟨self, sd, d, h1, h2, h3, h4, t1, t2, t3, t4, ae, od, .ref r, po, nf1, pt, ft1⟩ rs2 re2 q (hsub _ q hq)) (hw9 _ ((upNp_still nmC (npC - 1) ntk).comp hf3) _ _)
          ⟨rfl, rfl, upNp nmC (npC - 1) ntk ∘ f2, rs2, re2, (upNp_still nmC (npC - 1) ntk).comp hf3, ?_, hgo, rfl⟩
        exact (by rw [hre, if_neg hz]; exact hrs2)
    case done2 =>
      intro h9 tk9 m₂ news₂ F₆ N₆ hpat
      obtain ⟨m12, m22, f2, rs2, re2, hf3, hrs2, hlg3, rfl⟩ := hpat
      have W3 := hf3.wf2 (S' := ⟨self, sd, d, h1, h2, h3, h4, t1, t2, t3, t4, ae, od, .ref r, po, nf1, pt, ft1⟩) W rfl rfl rfl
      have hsD : ∀ z ∈ [self, sd, d, r], @LT.lt Nat _ z D := fun z hz => by
        simp only [List.mem_cons, List.not_mem_nil, or_false] at hz
        rcases hz with rfl | rfl | rfl | rfl
        · exact hlt (_, _) (List.mem_append_left _ (.head _))
        · exact hlt (_, _) (List.mem_append_left _ (.tail _ (.head _)))
        · exact hlt (_, _) (List.mem_append_left _ (.tail _ (.tail _ (.head _))))
        · exact hlt (_, PySem.W.listOf rs re) (List.mem_append_right _ (.head _))
      have hsdD : @LT.lt Nat _ sd D := hsD sd (by simp)
      have y2 : ∀ q ∈ (ns.map f2).flatMap Nd.objs ++ own, q.1 ≠ sd := fun q hq e => by
        rcases List.mem_append.mp hq with h | h
        · exact tail_off W3.wf (a := sd) (by simp [Srt.ads]) q h e
        · rcases hown q h with h | h
          · rw [← e, h] at hsdD; exact Nat.lt_irrefl _ (Nat.lt_trans hsdD hDI)
          · rw [← e, h] at hsdD; exact Nat.lt_irrefl _ hsdD
      have zsD : Df D sd := fun e => Nat.lt_irrefl _ (e ▸ hsdD)
      have F₇ : Fr g L' h9 _ := fr_pins F₆ [(Str.ofString "self", .ref self), (Str.ofString "n2i", .ref d)] (by
        intro p hp; simp only [List.mem_cons, List.not_mem_nil, or_false] at hp; rcases hp with rfl | rfl <;> assumption)
      have hlen9 : (sv.toList.map strOf).take sv.size = sv.toList.map strOf := List.take_of_length_le (by simp)
      rw [hlen9, ← htake] at hrs2 hlg3
      simp only [led4, Srt.objs, Srt.attrs, List.cons_append, List.nil_append] at N₆
      clear F4 N5 F₆
      k_unmd
      dsimp only
      k_steps
      rename Fr _ _ _ _ => F9
      rename News _ _ _ _ => N9
      obtain ⟨ftk, N9⟩ := ftok_of N9
      refine turnOk_ ((D, ({ cls := .type "tuple", data := .seq vs.toArray } : Obj)) :: led4 ⟨self, sd, d, h1, h2, h3, h4, t1, t2, t3, t4, ae, od, .ref r, po, nf1 + 1, pt, ftk⟩ r rs2 re2 (ns.map f2)) F9 N9 (fun q hq => ?_) (fun q hq hm => ?_)
        ⟨rfl, rfl, f2, rs2, re2, nf1 + 1, ftk, hf3, hrs2, hlg3, by rw [hnf1]; push_cast; omega, rfl⟩
      · simp only [led4, Srt.objs, Srt.attrs, List.cons_append, List.nil_append, List.mem_cons, List.mem_append] at hq ⊢
        rcases hq with h | h | h | h | h | h | h
        · exact .inl h
        · exact .inr (.inl h)
        · exact .inr (.inr (.inl h))
        · exact .inr (.inr (.inr (.inl h)))
        · exact .inr (.inr (.inr (.inr (.inl h))))
        · exact .inr (.inr (.inr (.inr (.inr (.inl h)))))
        · exact .inr (.inr (.inr (.inr (.inr (.inr h)))))
      · rw [List.mem_singleton] at hm
        have h9 : @LT.lt Nat _ q.1 I := by
          simp only [led4, Srt.objs, List.cons_append, List.nil_append, List.mem_cons] at hq
          rcases hq with rfl | rfl | rfl | rfl | rfl | h
          · exact hDI
          · exact Nat.lt_trans (hsD _ (by simp)) hDI
          · exact Nat.lt_trans (hsD _ (by simp)) hDI
          · exact Nat.lt_trans (hsD _ (by simp)) hDI
          · exact Nat.lt_trans (hsD _ (by simp)) hDI
          · exact Nat.lt_trans (still_lt hf3 hlt' q h) hDI
        rw [hm] at h9; exact Nat.lt_irrefl _ h9
  case done =>
    intro h tk9 m news F₁ N₁ hpat
    obtain ⟨m1, m2, f, rs1, re1, nf1, ft1, hf, hrs1, hlg, hnf1, rfl⟩ := hpat
    have hsz : names.take vs.toArray.size = names := List.take_of_length_le (by have := hvs.length; simp only [List.size_toArray]; omega)
    rw [hsz] at hrs1 hlg
    have hvl : (vs.toArray.size : Int) = names.length := by have := hvs.length; simp only [List.size_toArray]; omega
    rw [hvl] at hnf1
    k_unmd
    dsimp only
    k_steps
    refine leaveS_ F₁ N₁ ⟨⟨self, sd, d, h1, h2, h3, h4, t1, t2, t3, t4, ae, od, .ref r, po, nf1, pt, ft1⟩, ns.map f, rs1, re1, rfl, hf.wf2 W rfl rfl rfl, fun q hq => .tail _ hq, hrs1, hlg, rfl, hnf1, rfl⟩

end
section
open PyProof.Rows.LCg PyProof.Rows.LCt
section
variable {prog : Program} {w : World} {A : Around} {E : Value → Shared → Prop} {s : Shared} {h₀ : Heap} {L : Addr} {m : Str → Option Value} {env : Env}
/-- a block with a test, by an invariant -/
theorem restT {ct elt : Expr} {x : Str} {scope : Scope} {cl : List (Str × Addr)} {S : List (Addr × Obj) → Prop} {P : Nat → Value → Prop} {Fin : List Value → List (Addr × Obj) → Prop} {n : Nat} (J : Nat → List Value → List (Addr × Obj) → Prop)
    (fin : ∀ ys news, J n ys news → Fin ys news)
    (step : ∀ i ys news, i < n → J i ys news → ∀ v I oI C oC D m₂ h tk (E' : Value → Shared → Prop), P i v → NsObj oC m₂ → m₂ x = some v → Fr h₀ L h m → News h₀ L h ((I, oI) :: (C, oC) :: (D, lst ys) :: news) → Off3 I C D news → ((@Ne Nat I C) ∧ (@Ne Nat I D) ∧ (@Ne Nat C D)) →
      wpAny (model prog w) A (isTrue ct (compEnvC scope cl C env) (eval ct (compEnvC scope cl C env))) (fun ok s' => if ok = true then
        wpAny (model prog w) A (eval elt (compEnvC scope cl C env)) (CompEnd h₀ L m { s with heap := h, toks := tk } I oI C oC D (lst ys) S (fun y news' => J (i + 1) (ys ++ [y]) news')) E' s'
        else CompEnd h₀ L m { s with heap := h, toks := tk } I oI C oC D (lst ys) S (fun _ news' => J (i + 1) ys news') Value.none s') E' { s with heap := h, toks := tk }) :
    ∀ k i ys news, i + k = n → J i ys news → CompRestT prog w A h₀ L m env ct elt x scope cl s S P Fin k i ys news := by
  intro k
  induction k with
  | zero => intro i ys news e j; exact fin ys news (by rw [← e]; exact j)
  | succ k ih =>
    intro i ys news e j v I oI C oC D m₂ h tk E' hv hC hx F N off ne
    refine wpAny_mono (step i ys news (by omega) j v I oI C oC D m₂ h tk E' hv hC hx F N off ne) (fun ok s' q => ?_) fun _ _ x => x
    cases ok with
    | true =>
      rw [if_pos rfl] at q ⊢
      refine wpAny_mono q (fun y s'' q => ?_) fun _ _ x => x
      obtain ⟨h', tk', news', e', F', N', o', S', r⟩ := q
      exact ⟨h', tk', news', e', F', N', o', S', ih _ _ _ (by omega) r⟩
    | false =>
      rw [if_neg Bool.false_ne_true] at q ⊢
      obtain ⟨h', tk', news', e', F', N', o', S', r⟩ := q
      exact ⟨h', tk', news', e', F', N', o', S', ih _ _ _ (by omega) r⟩
/-- a block without a test, by an invariant -/
theorem restU {elt : Expr} {x : Str} {scope : Scope} {cl : List (Str × Addr)} {S : List (Addr × Obj) → Prop} {P : Nat → Value → Prop} {Fin : List Value → List (Addr × Obj) → Prop} {n : Nat} (J : Nat → List Value → List (Addr × Obj) → Prop)
    (fin : ∀ ys news, J n ys news → Fin ys news)
    (step : ∀ i ys news, i < n → J i ys news → ∀ v I oI C oC D m₂ h tk (E' : Value → Shared → Prop), P i v → NsObj oC m₂ → m₂ x = some v → Fr h₀ L h m → News h₀ L h ((I, oI) :: (C, oC) :: (D, lst ys) :: news) → Off3 I C D news → ((@Ne Nat I C) ∧ (@Ne Nat I D) ∧ (@Ne Nat C D)) →
      wpAny (model prog w) A (eval elt (compEnvC scope cl C env)) (CompEnd h₀ L m { s with heap := h, toks := tk } I oI C oC D (lst ys) S (fun y news' => J (i + 1) (ys ++ [y]) news')) E' { s with heap := h, toks := tk }) :
    ∀ k i ys news, i + k = n → J i ys news → CompRest prog w A h₀ L m env elt x scope cl s S P Fin k i ys news := by
  intro k
  induction k with
  | zero => intro i ys news e j; exact fin ys news (by rw [← e]; exact j)
  | succ k ih =>
    intro i ys news e j v I oI C oC D m₂ h tk E' hv hC hx F N off ne
    refine wpAny_mono (step i ys news (by omega) j v I oI C oC D m₂ h tk E' hv hC hx F N off ne) (fun y s'' q => ?_) fun _ _ x => x
    obtain ⟨h', tk', news', e', F', N', o', S', r⟩ := q
    exact ⟨h', tk', news', e', F', N', o', S', ih _ _ _ (by omega) r⟩
/-- a block over a dict's values -/
theorem ListComp_V {ct elt iter : Expr} {x : Str} {px : Pos} {scope : Scope} {cl : List (Str × Addr)} {pos : Pos} {Q : Value → Shared → Prop}
    (hclos : closureFor scope env = pure cl) (hcell : ∀ y ∈ scope.names, y.2 ≠ .cell) (hkind : scope.kind = .function)
    (hnames : ∀ y ∈ scope.names, y.2 = .local → scope.names.lookup y.1 = some .local) (hx : scope.names.lookup x = some .local)
    (h : wpAny (model prog w) A (eval iter env) (fun xv s₁ => ∃ (vw d : Addr) (od : Obj) (kvs : List (Str × Value)) (news : List (Addr × Obj)), xv = .ref vw ∧ A.handled = none ∧ Fr h₀ L s₁.heap m ∧ News h₀ L s₁.heap news ∧
      (∃ ov, s₁.heap.get? vw = some ov ∧ ov.cls = .type "dict_values" ∧ ov.data = .fields #[.ref d]) ∧ (d, od) ∈ news ∧ od.IsDictOf (strKind prog w) kvs ∧ kvs.length ≤ sizeLine ∧
      ∀ g, CompRestT prog w A h₀ L m env ct elt x scope cl { s₁ with heap := g } (fun nw => (d, od) ∈ nw) (fun i v => ∃ k, kvs[i]? = some (k, v)) (FinE h₀ L m { s₁ with heap := g } Q) kvs.length 0 [] news) E s)
    (hs : ∀ x, foldedSetIterable iter env x = pure x := by intro _; rfl) :
    wpAny (model prog w) A (eval (.ListComp elt [⟨.Name x px, iter, [ct], 0⟩] scope pos) env) Q E s := by
  rw [eval_ListComp]
  refine wpAny_comprehension_free (use := none) rfl hs hclos hkind hnames (wpAny_mono h (fun xv s₁ h₁ => ?_) fun _ _ e => e)
  obtain ⟨vw, d, od, kvs, news, rfl, hh, F, N, hv, hmd, hd, hsz, R⟩ := h₁
  obtain ⟨ep, hat⟩ := KdkAt.of hd
  refine wpAny_pyIter_values hv (hat.dictAt (N _ hmd).1) ?_
  refine block_T (Walks.dictValues (knd := strKind prog w) hh s₁.heap.objs.size d (Nat.ne_of_lt (Heap.lt_size (N _ hmd).1)) kvs ep) hsz (fun i h st => by obtain ⟨o, e, _⟩ := st.1; exact ⟨o, e⟩)
    (fun i h h' o nw st e e' k N' S' => ⟨by obtain ⟨o', q, r⟩ := st.1; rw [e] at q; cases q; exact ⟨o, e', r⟩, hat.dictAt (N' _ S').1⟩) hcell hkind hx ⟨⟨_, Heap.get?_push_size _ rfl, rfl, rfl⟩, hat.dictAt (Heap.get?_push_of_some _ (N _ hmd).1)⟩ (fun b hb => ?_)
    (F.push _) (fun p hp => ⟨Heap.get?_push_of_some _ (N p hp).1, (N p hp).2⟩) (Nat.ne_of_lt F.ns.lt) (next_is_new F) (fun p hp => Nat.ne_of_lt (Heap.lt_size (N p hp).1)) hmd (R _) ?_
  · show b < (s₁.heap.push _).objs.size
    rw [Heap.size_push]
    rcases List.mem_cons.mp hb with rfl | hb
    · exact Nat.lt_succ_self _
    · rw [List.mem_singleton.mp hb]; exact Nat.lt_succ_of_lt (Heap.lt_size (N _ hmd).1)
  · intro D C h tk m' ys news' F' N' o1 hn hC₀ hD₀ hCL hDL hCD offC fin
    refine ⟨m', hn, fun h'' hs'' => fin D h'' tk (F'.change hs'' hCL hC₀) (fun p hp => ?_) o1⟩
    refine ⟨hs''.extBut _ _ ?_ (N' p hp).1, (N' p hp).2⟩
    rcases List.mem_cons.mp hp with rfl | hp
    · exact Ne.symm hCD
    · exact offC p hp
end

end
section
noncomputable def mwObj (it : Addr) : Obj := { cls := .type "method-wrapper", data := .fields #[.builtin "list_iterator.__next__", .ref it] }
theorem li_gaL : typeLookup (.type "list_iterator") "__getattribute__" = pure (some (.builtin "object.__getattribute__")) := by rw [typeLookup_type, builtinLookup_eq_fast]; kernel_rfl
theorem li_ga : Slot "list_iterator" "__getattribute__" "object.__getattribute__" :=
  .of (owner := "object") (n := "__getattribute__") li_gaL (by decide +kernel) (by decide +kernel) (by decide +kernel)
    (by first | exact .inl (by decide +kernel) | exact .inr (by decide +kernel)) (by rw [isSubtype_type]; kernel_rfl)
theorem li_nga : typeLookup (.type "list_iterator") "__getattr__" = pure none := by rw [typeLookup_type, builtinLookup_eq_fast]; kernel_rfl
theorem li_next : typeLookup (.type "list_iterator") "__next__" = pure (some (.builtin "list_iterator.__next__")) := by rw [typeLookup_type, builtinLookup_eq_fast]; kernel_rfl
theorem wd_get : typeLookup (.type "wrapper_descriptor") (Str.ofString "__get__") = pure (some (.builtin "wrapper_descriptor.__get__")) := by rw [typeLookup_type, builtinLookup_eq_fast]; kernel_rfl
theorem wd_set : typeLookup (.type "wrapper_descriptor") (Str.ofString "__set__") = pure none := by rw [typeLookup_type, builtinLookup_eq_fast]; kernel_rfl
theorem wd_del : typeLookup (.type "wrapper_descriptor") (Str.ofString "__delete__") = pure none := by rw [typeLookup_type, builtinLookup_eq_fast]; kernel_rfl
theorem wd_bk : builtinKind "list_iterator.__next__" = some .slot := by first | decide +kernel | kernel_rfl
theorem wd_slot : Slot "wrapper_descriptor" "__get__" "wrapper_descriptor.__get__" :=
  .of (owner := "wrapper_descriptor") (n := "__get__") wd_get (by decide +kernel) (by decide +kernel) (by decide +kernel)
    (by first | exact .inl (by decide +kernel) | exact .inr (by decide +kernel)) (by rw [isSubtype_type]; kernel_rfl)
theorem wd_entry : entryFor table "wrapper_descriptor.__get__" = some Builtin.«wrapper_descriptor.__get__» := entryFor_of_tree (by kernel_rfl)
theorem wd_args (a b c : Value) : argsOk "wrapper_descriptor.__get__" ⟨[a, b, c], []⟩ := by unfold argsOk; kernel_rfl
theorem wd_type : typeOf (.builtin "list_iterator.__next__") = pure (.type "wrapper_descriptor") := by show builtinType _ = _; rw [builtinType_eq_fast]; kernel_rfl
theorem li_owner : ".".intercalate ("list_iterator.__next__".cutAt '.').dropLast = "list_iterator" := by decide +kernel
theorem li_sub : isSubtype (.type "list_iterator") (.type "list_iterator") = pure true := by rw [isSubtype_type]; kernel_rfl
noncomputable def itObj (l : Addr) (i : Nat) : Obj := { cls := .type "list_iterator", data := .fields #[.ref l, .int i 0] }
theorem run_ga {it l : Addr} {i : Nat} {u : Tok} :
    Meets (Builtin.«object.__getattribute__» ⟨[.ref it, .str (Str.ofString "__next__") u], []⟩) (fun A R s => s.heap.get? it = some (itObj l i) ∧ R (.ok (.ret (.ref s.heap.objs.size))) { s with heap := s.heap.push (mwObj it) }) :=
  Meets.of_wp fun prog w A R s hs => by
    obtain ⟨hp, g, d, tk, os⟩ := s
    obtain ⟨hx, hs⟩ := hs
    have hT : (⟨hp, g, d, tk, os⟩ : Shared).TypeIs (.ref it) "list_iterator" := ⟨_, hx, rfl⟩
    have hn := li_next
    unfold itObj at hx
    unfold Builtin.«object.__getattribute__»
    repeat (any_goals (first | assumption | wp_step))
    simp only [wd_bk]
    have hg := wd_get
    have hs' := wd_set
    have hd' := wd_del
    iterate 60 (any_goals (first | assumption | (simp only [wd_bk]) | wp_step | skip))
    refine wpAny_holding (wpAny_call_entry wd_slot wd_type wd_entry ?_ (wd_args _ _ _))
    unfold Builtin.«wrapper_descriptor.__get__»
    repeat (any_goals (first | assumption | wp_step))
    rw [li_owner]
    have hsub := li_sub
    repeat (any_goals (first | assumption | wp_step))
    exact ⟨_, rfl, wpAny_pure ⟨_, rfl, hs⟩⟩
theorem getattr_next {prog : Program} {w : World} {A : Around} {E : Value → Shared → Prop} {s : Shared} {it l : Addr} {i : Nat} {Q : Value → Shared → Prop} (hx : s.heap.get? it = some (itObj l i))
    (h : Q (.ref s.heap.objs.size) { s with heap := s.heap.push (mwObj it), toks := s.toks + 1 }) : wpAny (model prog w) A (getAttr (.ref it) (Str.ofString "__next__") true) Q E s := by
  obtain ⟨hp, g, d, tk, os⟩ := s
  have hT : ∀ tk', (⟨hp, g, d, tk', os⟩ : Shared).TypeIs (.ref it) "list_iterator" := fun _ => ⟨_, hx, rfl⟩
  have hK : ∀ (B : Around) (E' : Value → Shared → Prop) (Q' : Value → Shared → Prop) (tk' u : Tok), Q' (.ref hp.objs.size) ⟨hp.push (mwObj it), g, d, tk', os⟩ → wpAny (model prog w) B (call (.builtin "object.__getattribute__") [.ref it, .str (Str.ofString "__next__") u]) Q' E' ⟨hp, g, d, tk', os⟩ := fun B E' Q' tk' u q => call_meets li_ga (hT _) PySem.F.entry_object_getattribute (PySem.F.args_object_getattribute_2 _ _) run_ga ⟨hx, q⟩
  unfold itObj at hx
  have f3 := li_gaL
  have f5 := li_nga
  unfold getAttr getAttrBy
  repeat (any_goals (first | assumption | exact hT _ | (refine hK _ _ _ _ _ ?_) | wp_step))
theorem mw_check {it : Addr} : checkBoundCall "list_iterator.__next__" ⟨[.ref it], []⟩ = pure () := by first | kernel_rfl | rfl
theorem mw_quiet {as : Args} : (Code.builtin "list_iterator.__next__" as).quiet = true := Code.quiet_builtin _ (by decide +kernel)
section
variable {prog : Program} {w : World} {A : Around} {E : Value → Shared → Prop} {s : Shared}
theorem call_mw {mw it : Addr} {Q : Value → Shared → Prop} (hm : s.heap.get? mw = some (mwObj it))
    (tree : ∀ {P : Fin → Shared → Prop} {A' : Around}, A'.handled = A.handled → (∀ v s', Q v s' → P (.done (.ret v)) s') → wpAny (model prog w) A' (Builtin.«list_iterator.__next__» ⟨[.ref it], []⟩) P E s) : wpAny (model prog w) A (call (.ref mw) []) Q E s := by
  refine wpAny_call (codeAny_of_tree ?_)
  show wpAny _ A.in1 (callAny (.ref mw) ⟨[], []⟩) _ _ s
  simp only [callAny]
  refine wpAny_bind (wpAny_load hm ?_)
  simp only [mwObj, show (Value.type "method-wrapper" == Value.type "method" || Value.type "method-wrapper" == Value.type "builtin_function_or_method" || Value.type "method-wrapper" == Value.type "method-wrapper") = true by decide, if_true]
  refine KFB.if_so (by decide) ?_
  refine wpAny_bind (wpAny_of_eq (a := ()) mw_check ?_)
  refine wpAny_bind (wpAny_pure (wpAny_pure ?_))
  refine ⟨mw_quiet, codeAny_builtin entry_listiter_next (tree (by rfl) fun v s' q => ?_)⟩
  exact q
theorem mw_item {mw it l : Addr} {i : Nat} {items : Array Value} {x : Value} {Q : Value → Shared → Prop} (hm : s.heap.get? mw = some (mwObj it)) (hit : s.heap.get? it = some (itObj l i)) (hl : s.heap.IsList l items) (hx : items[i]? = some x)
    (hQ : ∀ h', h'.get? it = some (itObj l (i + 1)) → (∀ b, b ≠ it → h'.get? b = s.heap.get? b) → Q x { s with heap := h' }) : wpAny (model prog w) A (call (.ref mw) []) Q E s := by
  refine call_mw hm fun {P A'} _ hP => ?_
  obtain ⟨ol, hol, _, nl, hdl⟩ := hl
  show wpAny _ _ (field (.ref it) 0 >>= _) _ _ s
  refine wpAny_bind (wpAny_field hit rfl (x := .ref l) rfl ?_)
  show wpAny _ _ (if (Value.ref l == Value.none) = true then _ else _) _ _ s
  rw [if_neg (show ¬ ((Value.ref l == Value.none) = true) from Bool.false_ne_true)]
  show wpAny _ _ (field (.ref it) 1 >>= _) _ _ s
  refine wpAny_bind (wpAny_field hit rfl (x := .int i 0) rfl ?_)
  show wpAny _ _ (seqItems? (.ref l) >>= _) _ _ s
  refine wpAny_bind (wpAny_seqItems hol hdl ?_)
  simp only [Int.toNat_natCast, hx]
  refine wpAny_bind (wpAny_setField hit rfl (by simp) (wpAny_pure (hP _ _ (hQ _ ?_ fun b hb => Heap.get?_update_other _ _ (Ne.symm hb)))))
  exact Heap.get?_update_self _ hit (Obj.isFreed_of_fields (Obj.data_mapFields rfl _))
structure StopAt (h h' : Heap) (it e : Addr) : Prop where
  keep : ∀ b, b ≠ it → ∀ o, h.get? b = some o → h'.get? b = some o
  new : h.get? e = none
  it : ∃ o, h'.get? it = some o
  there : ∃ t, h'.get? e = some { cls := .type "StopIteration", data := .fields #[.ref t, .none, .none, .none, .bool false, .none] }
theorem mw_end {mw it l : Addr} {i : Nat} {items : Array Value} {Q : Value → Shared → Prop} (hh : A.handled = none) (hm : s.heap.get? mw = some (mwObj it)) (hit : s.heap.get? it = some (itObj l i)) (hl : s.heap.IsList l items) (hx : items[i]? = none)
    (hE : ∀ h' e, StopAt s.heap h' it e → E (.ref e) { s with heap := h' }) : wpAny (model prog w) A (call (.ref mw) []) Q E s := by
  refine call_mw hm fun {P A'} hA hP => ?_
  obtain ⟨ol, hol, _, nl, hdl⟩ := hl
  show wpAny _ _ (field (.ref it) 0 >>= _) _ _ s
  refine wpAny_bind (wpAny_field hit rfl (x := .ref l) rfl ?_)
  show wpAny _ _ (if (Value.ref l == Value.none) = true then _ else _) _ _ s
  rw [if_neg (show ¬ ((Value.ref l == Value.none) = true) from Bool.false_ne_true)]
  show wpAny _ _ (field (.ref it) 1 >>= _) _ _ s
  refine wpAny_bind (wpAny_field hit rfl (x := .int i 0) rfl ?_)
  show wpAny _ _ (seqItems? (.ref l) >>= _) _ _ s
  refine wpAny_bind (wpAny_seqItems hol hdl ?_)
  simp only [Int.toNat_natCast, hx]
  refine wpAny_bind (wpAny_rule (wpAny_bind (wpAny_setField hit rfl (by simp) ?_)))
  show wpAny _ _ (newExc (.type "StopIteration") [] >>= _) _ _ _
  refine wpAny_bind ?_
  simp only [newExc, newTuple]
  refine wpAny_bind (wpAny_newObj_type ?_ (by size_fits))
  refine wpAny_bind (m := firstArgMember _ _) (wpAny_of_eq (a := Value.none) (by first | rfl | (simp only [firstArgMember]; rfl)) ?_)
  refine wpAny_newObj_type ?_ (by size_fits)
  simp only [raiseNew]
  refine wpAny_bind (wpAny_handled ?_)
  rw [hA, hh]
  refine wpAny_bind (wpAny_pure (wpAny_throw (hE _ _ ⟨?_, ?_, ?_, ?_⟩)))
  · intro b hb o ho
    exact Heap.get?_push_of_some _ (Heap.get?_push_of_some _ ((Heap.get?_update_other _ _ (Ne.symm hb)).trans ho))
  · refine Heap.get?_none_of_le ?_
    rw [Heap.size_push, Heap.size_after_update]
    exact Nat.le_succ _
  · exact ⟨_, Heap.get?_push_of_some _ (Heap.get?_push_of_some _ (Heap.get?_update_self _ hit (Obj.isFreed_of_fields (Obj.data_mapFields rfl _))))⟩
  · exact ⟨_, Heap.get?_push_size _ rfl⟩
/-- an error is noted at its frame, and flies no more -/
structure Noted (fs : List Addr) (h h' : Heap) (e : Addr) (c : Value) : Prop where
  keep : ∀ b, b ≠ e → b ∉ fs → ∀ o, h.get? b = some o → h'.get? b = some o
  slots : ∀ b ∈ fs, ∀ o, h.get? b = some o → ∃ sl, h'.get? b = some { o with slots := sl }
  there : ∃ oe vs tb otb tvs, h'.get? e = some oe ∧ oe.cls = c ∧ oe.data = .fields vs ∧ vs[1]? = some (.ref tb) ∧ h'.get? tb = some otb ∧ otb.data = .fields tvs ∧ 3 < tvs.size ∧ tb ≠ e ∧ h.get? tb = none
theorem note_own {base : Heap} {env : Env} {outer : List Env} {L e t : Addr} {c : Value} {Q : Unit → Shared → Prop}
    (hfr : A.frames = some (env :: outer)) (hl : s.heap.FunFrames base (env :: outer)) (hf : env.frame = some L)
    (he : s.heap.get? e = some { cls := c, data := .fields #[.ref t, .none, .none, .none, .bool false, .none] })
    (h : ∀ h', Noted ((env :: outer).filterMap (·.frame)) s.heap h' e c → Q () { s with heap := h' }) :
    wpAny (model prog w) A (noteFrame (.ref e) env) (fun _ s₂ => wpAny (model prog w) A (setFlight (.ref e) none) Q E s₂) E s := by
  generalize hoe : ({ cls := c, data := .fields #[.ref t, .none, .none, .none, .bool false, .none] } : Obj) = oe at he
  have hd : oe.data = .fields #[.ref t, .none, .none, .none, .bool false, .none] := by rw [← hoe]
  have hc : oe.cls = c := by rw [← hoe]
  have hene : e ∉ (env :: outer).filterMap (·.frame) := fun hm => by
    obtain ⟨_, o, ho, hnf⟩ := hl.mem hm
    rw [he] at ho; injection ho with ho; subst ho; exact hnf _ hd
  unfold noteFrame
  simp only [hf]
  refine wpAny_bind (wpAny_field he hd (x := .none) rfl ?_)
  rw [if_neg (show ¬ ((Value.none != Value.none) = true) from by simp)]
  refine wpAny_bind (wpAny_frameOf_fun hfr hl hf fun h₁ hs₁ => ?_)
  refine wpAny_bind (wpAny_entryPlaceOf fun pl hpl => ?_)
  unfold EntryCells.newEntry newFields
  refine wpAny_bind (wpAny_newObj_type ?_ (hpl.sizeOk5 _ _ _ _ _))
  have he₁ := (hs₁.2.1 e hene).trans he
  have he₂ := Heap.get?_push_of_some (h := h₁) { cls := .type "traceback", dict := none, data := .fields ([Value.none, .ref L, .none, rawInt L, .none] ++ (if pl.isEmpty then List.replicate 6 Value.none else pl)).toArray } he₁
  refine wpAny_setField he₂ hd (by simp) ?_
  have hTe : h₁.objs.size ≠ e := Nat.ne_of_gt (Heap.lt_size he₁)
  have hd₃ := Obj.data_mapFields hd (·.setIfInBounds 1 (Value.ref h₁.objs.size))
  have he₃ := Heap.get?_update_self (Obj.mapFields (·.setIfInBounds 1 (Value.ref h₁.objs.size))) he₂ (Obj.isFreed_of_fields hd₃)
  have hT₃ := (Heap.get?_update_other (h₁.push { cls := .type "traceback", dict := none, data := .fields ([Value.none, .ref L, .none, rawInt L, .none] ++ (if pl.isEmpty then List.replicate 6 Value.none else pl)).toArray })
    (Obj.mapFields (·.setIfInBounds 1 (Value.ref h₁.objs.size))) (Ne.symm hTe)).trans (Heap.get?_push_size h₁ rfl)
  unfold setFlight
  refine wpAny_bind (wpAny_field he₃ hd₃ (x := .ref h₁.objs.size) (by simp) ?_)
  rw [if_pos (show (Value.ref h₁.objs.size != Value.none) = true from by simp)]
  refine wpAny_setField hT₃ rfl (by simp only [List.size_toArray, List.length_append, List.length_cons, List.length_nil] <;> omega) (h _ ?_)
  have keep : ∀ b o, b ≠ e → h₁.get? b = some o →
      (((h₁.push { cls := .type "traceback", dict := none, data := .fields ([Value.none, .ref L, .none, rawInt L, .none] ++ (if pl.isEmpty then List.replicate 6 Value.none else pl)).toArray }).update e (Obj.mapFields (·.setIfInBounds 1 (Value.ref h₁.objs.size)))).update h₁.objs.size
        (Obj.mapFields (·.setIfInBounds 3 ((none : Option Addr).elim Value.none fun f => rawInt f)))).get? b = some o := fun b o hbe hb => by
    have hbT : h₁.objs.size ≠ b := Nat.ne_of_gt (Heap.lt_size hb)
    rw [Heap.get?_update_other _ _ hbT, Heap.get?_update_other _ _ (Ne.symm hbe)]
    exact Heap.get?_push_of_some _ hb
  refine ⟨fun b hbe hbf o ho => keep b o hbe ((hs₁.2.1 b hbf).trans ho), fun b hbf o ho => ?_, ?_⟩
  · obtain ⟨sl, hs⟩ := hs₁.2.2 b o ho
    exact ⟨sl, keep b _ (fun q => hene (q ▸ hbf)) hs⟩
  · refine ⟨_, _, h₁.objs.size, _, _, ?_, ?_, hd₃, by simp, Heap.get?_update_self _ hT₃ (Obj.isFreed_of_fields (Obj.data_mapFields rfl _)), Obj.data_mapFields rfl _, ?_, hTe, ?_⟩
    · rw [Heap.get?_update_other _ _ hTe]; exact he₃
    · exact (Obj.cls_mapFields _ _).trans hc
    · simp only [Array.size_setIfInBounds, List.size_toArray, List.length_append, List.length_cons, List.length_nil]; omega
    · refine Heap.get?_none_of_le ?_
      exact Nat.le_of_eq hs₁.1.symm
end
/-- the outer frames' objects, as a ledger -/
inductive FoOk (base : Heap) : List Env → List (Addr × Obj) → Prop
  | nil : FoOk base [] []
  | cons {env : Env} {rest : List Env} {a : Addr} {o : Obj} {fo : List (Addr × Obj)} : env.scope.kind ≠ .module → env.frame = some a → base.get? a = none → (∀ vs, o.data ≠ .fields vs) → FoOk base rest fo → FoOk base (env :: rest) ((a, o) :: fo)
theorem FoOk.of {base h : Heap} : ∀ {l : List Env}, h.FunFrames base l → ∃ fo, FoOk base l fo ∧ ∀ p ∈ fo, h.get? p.1 = some p.2
  | [], _ => ⟨[], .nil, fun _ h => nomatch h⟩
  | env :: rest, x => by
    obtain ⟨hk, ⟨L, o, hf, hn, ho, hd⟩, hr⟩ := x
    obtain ⟨fo, h1, h2⟩ := FoOk.of hr
    exact ⟨(L, o) :: fo, .cons hk hf hn hd h1, fun p hp => by
      rcases List.mem_cons.mp hp with rfl | hp
      · exact ho
      · exact h2 p hp⟩
theorem FoOk.back {base h : Heap} {l : List Env} {fo : List (Addr × Obj)} (x : FoOk base l fo) : (∀ p ∈ fo, h.get? p.1 = some p.2) → h.FunFrames base l := by
  induction x with
  | nil => intro _; trivial
  | cons hk hf hn hd _ ih => intro hg; exact ⟨hk, ⟨_, _, hf, hn, hg _ (.head _), hd⟩, ih fun p hp => hg p (.tail _ hp)⟩
theorem FoOk.ads {base : Heap} {l : List Env} {fo : List (Addr × Obj)} (x : FoOk base l fo) : l.filterMap (·.frame) = fo.map (·.1) := by
  induction x with
  | nil => rfl
  | cons hk hf hn hd _ ih => rw [List.filterMap_cons, hf, List.map_cons, ih]
/-- the same but for the slots -/
inductive Slots : List (Addr × Obj) → List (Addr × Obj) → Prop
  | nil : Slots [] []
  | cons {a : Addr} {o : Obj} {sl : Array (Option Value)} {fo fo' : List (Addr × Obj)} : Slots fo fo' → Slots ((a, o) :: fo) ((a, { o with slots := sl }) :: fo')
theorem Slots.refl : ∀ fo, Slots fo fo
  | [] => .nil
  | (a, o) :: fo => by
    have := Slots.cons (a := a) (o := o) (sl := o.slots) (Slots.refl fo)
    exact this
theorem Slots.trans {x y z : List (Addr × Obj)} (h : Slots x y) : Slots y z → Slots x z := by
  intro h2
  induction h generalizing z with
  | nil => cases h2; exact .nil
  | cons _ ih => cases h2 with | cons h3 => exact .cons (ih h3)
theorem Slots.ads {x y : List (Addr × Obj)} (h : Slots x y) : y.map (·.1) = x.map (·.1) := by
  induction h with
  | nil => rfl
  | cons _ ih => rw [List.map_cons, List.map_cons, ih]
theorem Slots.ok {base : Heap} {l : List Env} {x y : List (Addr × Obj)} (h : Slots x y) : FoOk base l x → FoOk base l y := by
  intro k
  induction h generalizing l with
  | nil => exact k
  | cons _ ih => cases k with | cons hk hf hn hd k => exact .cons hk hf hn hd (ih k)
theorem Slots.of {h h' : Heap} : ∀ {fo : List (Addr × Obj)}, (∀ p ∈ fo, h.get? p.1 = some p.2) → (∀ b ∈ fo.map (·.1), ∀ o, h.get? b = some o → ∃ sl, h'.get? b = some { o with slots := sl }) → ∃ fo', Slots fo fo' ∧ ∀ p ∈ fo', h'.get? p.1 = some p.2
  | [], _, _ => ⟨[], .nil, fun _ h => nomatch h⟩
  | (a, o) :: fo, h1, h2 => by
    obtain ⟨sl, e⟩ := h2 a (.head _) o (h1 _ (.head _))
    obtain ⟨fo', x, y⟩ := Slots.of (fo := fo) (fun p hp => h1 p (.tail _ hp)) (fun b hb => h2 b (.tail _ hb))
    exact ⟨_, .cons x, fun p hp => by
      rcases List.mem_cons.mp hp with rfl | hp
      · exact e
      · exact y p hp⟩

end
section
/-- what is left behind a call that may have caught an error -/
noncomputable def KeptS (fs : List Addr) (h h' : Heap) (fp : List Addr) : Prop := ∀ b o, h.get? b = some o → b ∉ fp → (b ∉ fs → h'.get? b = some o) ∧ ∃ sl, h'.get? b = some { o with slots := sl }
theorem KeptS.of {fs : List Addr} {h h' : Heap} {fp : List Addr} (k : Kept h h' fp) : KeptS fs h h' fp := fun b o e n => ⟨fun _ => k b o e n, o.slots, k b o e n⟩
theorem KeptS.trans {fs : List Addr} {h h₁ h₂ : Heap} {fp : List Addr} (x : KeptS fs h h₁ fp) (y : KeptS fs h₁ h₂ []) : KeptS fs h h₂ fp := fun b o e n => by
  obtain ⟨x1, sl, x2⟩ := x b o e n
  refine ⟨fun nf => (y b o (x1 nf) (by simp)).1 nf, ?_⟩
  obtain ⟨_, sl', y2⟩ := y b _ x2 (by simp)
  exact ⟨sl', y2⟩
noncomputable def ContractS (w : World) (K : Nat) (f : Addr) (args : List Value) (pre : Heap → Prop) (news : List (Addr × Obj)) (P : List (Addr × Obj) → Value → Prop) : Prop :=
  ∀ (dp un : Nat) (gd : Option (List Code)) (cn : Str) (cs : Scope) (a : Addr) (ccd : Value) (cl : List (Str × Addr)) (outer : List Env) (A₀ : Around) (base h₀ : Heap) (L : Addr) (m : Str → Option Value)
    (p : Program) (loose : List Str) (mean : ExcName → Option Value) (mg mb : Str → Option Value) (s : Shared) (Q E : Value → Shared → Prop),
    Below A₀ base outer h₀ → Fr h₀ L s.heap m → (Mine.hd.heap_1 w.params).In base → News h₀ L s.heap news → Top p loose mean mg mb base → cs.kind = .function → dp + 20 * K < recursionLimit → un + 200 * K < cLine → pre s.heap →
    (∀ v h' tk news', KeptS ((envX cn cs L a ccd cl :: outer).filterMap (·.frame)) s.heap h' (news.map (·.1)) → (∀ q ∈ news', h'.get? q.1 = some q.2 ∧ (s.heap.get? q.1 = none ∨ q.1 ∈ news.map (·.1))) → P news' v → Q v { s with heap := h', toks := tk }) →
    wpAny (model PR w) (ktrTop dp un gd cn cs L a ccd cl outer) (call (.ref f) args) Q E s
noncomputable def LeaveT (fs : List Addr) (g : Heap) (s : Shared) (P : List (Addr × Obj) → Value → Prop) (v : Value) (s' : Shared) : Prop :=
  ∃ h' tk news', s' = { s with heap := h', toks := tk } ∧ KeptS fs g h' [] ∧ (∀ q ∈ news', h'.get? q.1 = some q.2 ∧ g.get? q.1 = none) ∧ P news' v
section
variable {w : World} {name qual : Str} {params : Arguments} {body : List Stmt} {scope : Scope} {dV kV doc pm cdv ct oc : Value} {an od : Option Addr} {osl : Array (Option Value)} {f : Addr} {args : List Value} {news : List (Addr × Obj)} {P : List (Addr × Obj) → Value → Prop}
theorem contractS_of {K : Nat} (hK : 1 ≤ K) {pre : Heap → Prop} (hpre : ∀ h g, pre h → Kept h g (news.map (·.1)) → pre g)
    (ho : (Mine.hd.heap_1 w.params).lookup f = some ⟨oc, od, .func (fnOf name qual params body scope dV kV doc pm an cdv ct), osl⟩) (hcd : codeIn (Mine.hd.heap_1 w.params) cdv qual = true)
    (binds : List (Str × Value))
    (hbind : ∀ s : Shared, (Mine.hd.heap_1 w.params).In s.heap → BindsTo s (fnOf name qual params body scope dV kV doc pm an cdv ct) ⟨args, []⟩ binds)
    (hloc : ∀ y ∈ binds, scope.names.lookup y.1 = some .local)
    (hco : scope.isCoroutine = false) (hgen : scope.isGenerator = false) (hk : scope.kind = .function)
    (hcell : ∀ x ∈ scope.names, x.2 ≠ .cell)
    (h : ∀ (dp un : Nat) (gd : Option (List Code)) (outer : List Env) (A : Around) (base g : Heap) (L' : Addr) (h₁ : Heap) (p : Program) (loose : List Str) (mean : ExcName → Option Value) (mg mb : Str → Option Value) (s : Shared),
      Below A base outer g → Fr g L' h₁ (fun y => binds.reverse.lookup y) → (Mine.hd.heap_1 w.params).In base → News g L' h₁ news → Top p loose mean mg mb base → dp + 20 * K < recursionLimit + 2 → un + 200 * K < cLine + 10 → pre g →
      (∀ q ∈ news, q.1 < L') →
      wpAny (model PR w) (ktrTop dp un gd qual scope L' f cdv [] outer) (execs body (envOf qual scope L' f cdv))
        (fun fl s' => LeaveT (outer.filterMap (·.frame)) g s P (match fl with | .ret v => v | _ => .none) s') NoE { s with heap := h₁, toks := s.toks + binds.length }) :
    ContractS w K f args pre news P := by
  intro dp un gd cn cs a ccd cl outer A₀ base h₀ L m p loose mean mg mb s Q E B F X N T hkc hdp hun hpr hret
  refine wpAny_call ?_
  obtain ⟨FG, BG, st, _⟩ := groundX (A := ktrTop dp un gd cn cs L a ccd cl outer) (R := fun _ _ => True) (env := envX cn cs L a ccd cl) (outer := outer) B F N rfl rfl hkc
  have kb : ∀ b o, base.get? b = some o → s.heap.get? b = some o := fun b o e => F.keep b o (B.stays b o e)
  refine codeAny_call_def (fd := fnOf name qual params body scope dV kV doc pm an cdv ct) (body := body) (binds := binds) (by show dp < recursionLimit; omega) (kb _ _ (X _ _ ho)) rfl (T.nolimit.keeps kb) (codeRec_of (X.keeps kb) hcd) rfl (hbind s (X.keeps kb)) hcell hloc (fun h₁ hns hk₁ => ?_) hco hgen hk
  refine wpAny_mono (h (dp + 1) (un + 3) gd (envX cn cs L a ccd cl :: outer) _ base _ s.heap.objs.size h₁ p loose mean mg mb s BG ⟨hns, fun b o e => hk₁ b o (of_hideAll _ e), Nat.le_of_eq (hideAll_size _ _)⟩ X
    (fun p hp => ⟨hk₁ _ _ (N p hp).1, Nat.ne_of_lt (Heap.lt_size (N p hp).1), hideAll_none _ (List.mem_map_of_mem hp)⟩) T (by omega) (by omega) (hpre _ _ hpr fun b o e n => hideAll_get _ e n) (fun p hp => Heap.lt_size (N p hp).1)) (fun fl s' hl => ?_) fun _ _ y => y.elim
  obtain ⟨h', tk, news', rfl, hk', N', hp⟩ := hl
  refine hret _ h' tk news' (fun b o e n => hk' b o (hideAll_get _ e n) (by simp)) (fun q hq => ⟨(N' q hq).1, ?_⟩) hp
  have hg := (N' q hq).2
  cases e : s.heap.get? q.1 with
  | none => exact .inl rfl
  | some o =>
    refine .inr (Classical.byContradiction fun hn => ?_)
    rw [hideAll_get _ e hn] at hg
    cases hg
end
/-- the ground behind such a call -/
structure Reground (A : Around) (base g g₂ : Heap) (outer : List Env) (w : World) (p : Program) (loose : List Str) (mean : ExcName → Option Value) (mg mb : Str → Option Value) (L : Addr) (h₂ : Heap) (m : Str → Option Value) : Prop where
  B : Below A base outer g₂
  F : Fr g₂ L h₂ m
  X : (Mine.hd.heap_1 w.params).In g₂
  T : Top p loose mean mg mb g₂
  K : KeptS (outer.filterMap (·.frame)) g g₂ []
  none : ∀ b, g.get? b = none → g₂.get? b = none
theorem reground {A : Around} {base g h h₂ : Heap} {outer : List Env} {w : World} {p : Program} {loose : List Str} {mean : ExcName → Option Value} {mg mb : Str → Option Value} {L : Addr} {m : Str → Option Value} {news : List (Addr × Obj)} {env : Env}
    (B : Below A base outer g) (F : Fr g L h m) (Xb : (Mine.hd.heap_1 w.params).In base) (Tb : Top p loose mean mg mb base) (N : News g L h news) (hf : env.frame = some L)
    (k : KeptS ((env :: outer).filterMap (·.frame)) h h₂ (news.map (·.1))) : ∃ g₂, Reground A base g g₂ outer w p loose mean mg mb L h₂ m := by
  have hLg : g.get? L = none := by
    cases e : g.get? L with
    | none => rfl
    | some o => exact absurd (Nat.lt_of_lt_of_le (Heap.lt_size e) F.above) (Nat.lt_irrefl _)
  have get : ∀ b, (hideAll (trunc h₂ L) ((List.range L).filter fun b => (g.get? b).isNone)).get? b = if (g.get? b).isSome then h₂.get? b else none := fun b => by
    cases e : g.get? b with
    | none =>
      simp only [Option.isSome_none, Bool.false_eq_true, if_false]
      by_cases hb : @LT.lt Nat _ b L
      · exact hideAll_none _ (List.mem_filter.mpr ⟨List.mem_range.mpr hb, by rw [e]; rfl⟩)
      · cases q : (hideAll (trunc h₂ L) ((List.range L).filter fun b => (g.get? b).isNone)).get? b with
        | none => rfl
        | some o => have := of_hideAll _ q; rw [trunc_get, if_neg hb] at this; cases this
    | some o =>
      simp only [Option.isSome_some, if_true]
      have hb : @LT.lt Nat _ b L := Nat.lt_of_lt_of_le (Heap.lt_size e) F.above
      have nb : b ∉ (List.range L).filter fun b => (g.get? b).isNone := fun hm => by
        have := (List.mem_filter.mp hm).2
        rw [e] at this; cases this
      cases q : h₂.get? b with
      | none =>
        cases q' : (hideAll (trunc h₂ L) ((List.range L).filter fun b => (g.get? b).isNone)).get? b with
        | none => rfl
        | some o' => have := of_hideAll _ q'; rw [trunc_get, if_pos hb, q] at this; cases this
      | some o' => exact hideAll_get _ (by rw [trunc_get, if_pos hb]; exact q) nb
  have kg : KeptS (outer.filterMap (·.frame)) g h₂ [] := fun b o e _ => by
    have nb : b ∉ news.map (·.1) := fun hm => by
      obtain ⟨q, hq, rfl⟩ := List.mem_map.mp hm
      rw [(N q hq).2.2] at e; cases e
    obtain ⟨k1, k2⟩ := k b o (F.keep b o e) nb
    refine ⟨fun nf => k1 ?_, k2⟩
    rw [List.filterMap_cons, hf]
    intro hm
    rcases List.mem_cons.mp hm with rfl | hm
    · rw [hLg] at e; cases e
    · exact nf hm
  have kg2 : KeptS (outer.filterMap (·.frame)) g (hideAll (trunc h₂ L) ((List.range L).filter fun b => (g.get? b).isNone)) [] := fun b o e n => by
    rw [get b, e]; exact kg b o e n
  have st : base.StaysIn (hideAll (trunc h₂ L) ((List.range L).filter fun b => (g.get? b).isNone)) := fun b o e => (kg2 b o (B.stays b o e) (by simp)).1 fun hm => by
    rw [(B.frames.mem hm).1] at e; cases e
  refine ⟨_, ⟨B.stack, st, B.frames.of_keeps fun b o e _ => ?_⟩, ⟨?_, fun b o e => ?_, ?_⟩, Xb.keeps st, Tb.keeps st, kg2, fun b e => ?_⟩
  · obtain ⟨_, sl, q⟩ := kg2 b o e (by simp)
    exact ⟨_, q, rfl⟩
  · obtain ⟨oL, es, ep, hL, r⟩ := F.ns
    have nL : L ∉ news.map (·.1) := fun q => by
      obtain ⟨p, hp, e⟩ := List.mem_map.mp q
      exact (N p hp).2.1 e
    obtain ⟨_, sl, q⟩ := k L oL hL nL
    exact ⟨_, es, ep, q, r⟩
  · rw [get b] at e
    split at e
    · exact e
    · cases e
  · rw [hideAll_size]; exact trunc_size _ _
  · rw [get b, e]; rfl

end
section
section
variable {prog : Program} {w : World} {A : Around} {s : Shared} {h₀ : Heap} {env : Env}
theorem callWith_mw {E : Value → Shared → Prop} {pos : Pos} {u it : Addr} {Q : Value → Shared → Prop} (hm : s.heap.get? u = some (mwObj it))
    (h : wpAny (model prog w) A (call (.ref u) []) Q E s) : wpAny (model prog w) A (callWith pos (.ref u) [] [] []) Q E s := by
  unfold callWith
  refine wpAny_bind (wpAny_holding (wpAny_of_eq (a := { pos := [], kw := [] }) (by rfl) (wpAny_bind (wpAny_standAt ?_))))
  simp only [List.any_nil, Bool.or_false]
  refine wpAny_bind (m := keeperOf (.ref u)) ?_
  unfold keeperOf
  refine wpAny_bind (wpAny_load hm ?_)
  simp only [mwObj, show (Value.type "method-wrapper" != Value.type "method") = true by decide, show (Value.type "method-wrapper" == Value.type "builtin_function_or_method" || Value.type "method-wrapper" == Value.type "method-wrapper") = true by decide, if_true]
  refine wpAny_pure ?_
  exact wpAny_bind (wpAny_mono h (fun r s₂ hr => wpAny_bind (wpAny_holding (wpAny_point (wpAny_pure hr)))) fun _ _ x => x)
end
/-- the outer frames' objects come into the ledger -/
structure FramesOpen (base g g₀ : Heap) (outer : List Env) (w : World) (p : Program) (loose : List Str) (mean : ExcName → Option Value) (mg mb : Str → Option Value) (L : Addr) (h : Heap) (m : Str → Option Value) (news fo : List (Addr × Obj)) : Prop where
  ok : FoOk base outer fo
  F : Fr g₀ L h m
  X : (Mine.hd.heap_1 w.params).In g₀
  T : Top p loose mean mg mb g₀
  N : News g₀ L h (news ++ fo)
  st : base.StaysIn g₀
  keep : ∀ b o, g.get? b = some o → b ∉ fo.map (·.1) → g₀.get? b = some o
  fo : ∀ q ∈ fo, g.get? q.1 = some q.2
  none : ∀ b, g.get? b = none → g₀.get? b = none
theorem open_frames {A : Around} {base g h : Heap} {outer : List Env} {w : World} {p : Program} {loose : List Str} {mean : ExcName → Option Value} {mg mb : Str → Option Value} {L : Addr} {m : Str → Option Value} {news : List (Addr × Obj)}
    (B : Below A base outer g) (F : Fr g L h m) (Xb : (Mine.hd.heap_1 w.params).In base) (Tb : Top p loose mean mg mb base) (N : News g L h news) :
    ∃ g₀ fo, FramesOpen base g g₀ outer w p loose mean mg mb L h m news fo := by
  obtain ⟨fo, hok, hfo⟩ := FoOk.of B.frames
  have hLg : g.get? L = none := by
    cases e : g.get? L with
    | none => rfl
    | some o => exact absurd (Nat.lt_of_lt_of_le (Heap.lt_size e) F.above) (Nat.lt_irrefl _)
  have st : base.StaysIn (hideAll g (fo.map (·.1))) := fun b o e => hideAll_get _ (B.stays b o e) fun hm => by
    rw [← hok.ads] at hm
    rw [(B.frames.mem hm).1] at e; cases e
  have nn : ∀ b, g.get? b = none → (hideAll g (fo.map (·.1))).get? b = none := fun b e => by
    cases q : (hideAll g (fo.map (·.1))).get? b with
    | none => rfl
    | some o => have := of_hideAll _ q; rw [e] at this; cases this
  have kk : ∀ b o, g.get? b = some o → b ∉ fo.map (·.1) → (hideAll g (fo.map (·.1))).get? b = some o := fun b o e n => hideAll_get _ e n
  have hF : Fr (hideAll g (fo.map (·.1))) L h m := ⟨F.ns, fun b o e => F.keep b o (of_hideAll _ e), by rw [hideAll_size]; exact F.above⟩
  have hi : ∀ q ∈ fo, (hideAll g (fo.map (·.1))).get? q.1 = none := fun q hq => hideAll_none _ (List.mem_map_of_mem hq)
  generalize hideAll g (fo.map (·.1)) = G at *
  refine ⟨G, fo, hok, hF, Xb.keeps st, Tb.keeps st, fun q hq => ?_, st, kk, hfo, nn⟩
  rcases List.mem_append.mp hq with hq | hq
  · exact ⟨(N q hq).1, (N q hq).2.1, nn _ (N q hq).2.2⟩
  · refine ⟨F.keep _ _ (hfo q hq), fun e => ?_, hi q hq⟩
    have := hfo q hq
    rw [e, hLg] at this; cases this
/-- and the function's end -/
theorem FramesOpen.leave {base g g₀ h h' : Heap} {outer : List Env} {w : World} {p : Program} {loose : List Str} {mean : ExcName → Option Value} {mg mb : Str → Option Value} {L L' : Addr} {m m' : Str → Option Value} {news fo fo' news' : List (Addr × Obj)}
    (O : FramesOpen base g g₀ outer w p loose mean mg mb L h m news fo) {s : Shared} {tk : Nat} {P : List (Addr × Obj) → Value → Prop} {v : Value} (F' : Fr g₀ L' h' m') (N' : News g₀ L' h' (news' ++ fo')) (hs : Slots fo fo') (hn : ∀ q ∈ news', q.1 ∉ fo.map (·.1)) (hp : P news' v) :
    LeaveT (outer.filterMap (·.frame)) g s P v { s with heap := h', toks := tk } := by
  refine ⟨h', tk, news', rfl, fun b o e _ => ?_, fun q hq => ⟨(N' q (List.mem_append_left _ hq)).1, ?_⟩, hp⟩
  · rw [O.ok.ads]
    by_cases hb : b ∈ fo.map (·.1)
    · refine ⟨fun n => absurd hb n, ?_⟩
      have key : ∀ {x y : List (Addr × Obj)}, Slots x y → ∀ q ∈ x, ∃ sl, (q.1, ({ q.2 with slots := sl } : Obj)) ∈ y := by
        intro x y h
        induction h with
        | nil => intro q hq; cases hq
        | cons _ ih =>
          intro q hq
          rcases List.mem_cons.mp hq with rfl | hq
          · exact ⟨_, .head _⟩
          · obtain ⟨sl, h⟩ := ih q hq; exact ⟨sl, .tail _ h⟩
      obtain ⟨q, hq, rfl⟩ := List.mem_map.mp hb
      obtain ⟨sl, hm⟩ := key hs q hq
      rw [O.fo q hq] at e; cases e
      exact ⟨sl, (N' _ (List.mem_append_right _ hm)).1⟩
    · have := F'.keep b o (O.keep b o e hb)
      exact ⟨fun _ => this, o.slots, this⟩
  · cases e : g.get? q.1 with
    | none => rfl
    | some o =>
      have := O.keep _ _ e (hn q hq)
      rw [(N' q (List.mem_append_left _ hq)).2.2] at this; cases this

end
section
/-- one node under search, with the iterator over those that wait for it -/
structure Ent where
  nm : Str
  tk : Tok
  mw : Addr
  it : Addr
  l : Addr
  pos : Nat
  sv : Array Value
noncomputable def Ent.objs (e : Ent) : List (Addr × Obj) := [(e.mw, mwObj e.it), (e.it, itObj e.l e.pos)]
noncomputable def stkOf (sk : List Ent) : Array Value := (sk.map fun e => Value.str e.nm e.tk).toArray
noncomputable def itsOf (sk : List Ent) : Array Value := (sk.map fun e => Value.ref e.mw).toArray
structure CycOk (w : World) (ns : List Nd) (lv : Str → Nat) (o2 so : Obj) (sk : List Ent) (V : Str → Bool) (n : Nat) : Prop where
  dict : ∃ kvs, o2.IsDictOf (strKind PR w) kvs ∧ kvs.map (·.1) = sk.map (·.nm)
  set : so.SetObjOf (strKind PR w) V n
  cnt : n = (ns.filter fun d => V d.nm).length
  ent : ∀ e ∈ sk, (∃ d ∈ ns, d.nm = e.nm ∧ d.l = e.l ∧ d.sv = e.sv) ∧ V e.nm = true ∧ e.pos ≤ e.sv.size
  rise : sk.Pairwise fun a b => lv a.nm < lv b.nm
theorem CycOk.nil {w : World} {ns : List Nd} {lv : Str → Nat} {o2 so : Obj} (h2 : o2.IsDictOf (strKind PR w) []) (hs : so.SetObjOf (strKind PR w) (fun _ => false) 0) : CycOk w ns lv o2 so [] (fun _ => false) 0 :=
  ⟨⟨[], h2, rfl⟩, hs, (by show 0 = (ns.filter fun _ => false).length; rw [List.filter_eq_nil_iff.mpr (fun _ _ h => Bool.false_ne_true h)]; rfl), (fun _ h => nomatch h), List.Pairwise.nil⟩
/-- what is left to walk -/
noncomputable def cycLeft (ns : List Nd) (sk : List Ent) (V : Str → Bool) : Nat := ((ns.filter fun d => !V d.nm).map fun d => 1 + d.sv.size).sum + (sk.map fun e => e.sv.size - e.pos).sum
theorem cycLeft_step {ns : List Nd} {sk : List Ent} {e : Ent} {V : Str → Bool} (hp : e.pos < e.sv.size) : cycLeft ns (sk ++ [{ e with pos := e.pos + 1 }]) V < cycLeft ns (sk ++ [e]) V := by
  unfold cycLeft
  rw [List.map_append, List.map_append, List.sum_append, List.sum_append]
  simp; omega
theorem cycLeft_pop {ns : List Nd} {sk : List Ent} {e : Ent} {V : Str → Bool} : cycLeft ns sk V ≤ cycLeft ns (sk ++ [e]) V := by
  unfold cycLeft
  rw [List.map_append, List.sum_append]
  omega
theorem filter_set {ns : List Nd} (hn : (ns.map (·.nm)).Nodup) {V : Str → Bool} {d : Nd} (hd : d ∈ ns) (hv : V d.nm = false) :
    (ns.filter fun e => V e.nm || decide (e.nm = d.nm)).length = (ns.filter fun e => V e.nm).length + 1 ∧
    ((ns.filter fun e => !(V e.nm || decide (e.nm = d.nm))).map fun e => 1 + e.sv.size).sum + (1 + d.sv.size) = ((ns.filter fun e => !V e.nm).map fun e => 1 + e.sv.size).sum := by
  induction ns with
  | nil => cases hd
  | cons c ns ih =>
    rw [List.map_cons, List.nodup_cons] at hn
    rcases List.mem_cons.mp hd with rfl | hd
    · have hno : ∀ e ∈ ns, ¬ e.nm = d.nm := fun e he h => hn.1 (h ▸ List.mem_map_of_mem he)
      have h1 : (ns.filter fun e => V e.nm || decide (e.nm = d.nm)) = ns.filter fun e => V e.nm := List.filter_congr fun e he => by simp [hno e he]
      have h2 : (ns.filter fun e => !(V e.nm || decide (e.nm = d.nm))) = ns.filter fun e => !V e.nm := List.filter_congr fun e he => by simp [hno e he]
      rw [List.filter_cons, List.filter_cons, List.filter_cons, List.filter_cons, h1, h2]
      simp [hv]; omega
    · have hne : ¬ c.nm = d.nm := fun e => hn.1 (e ▸ List.mem_map_of_mem hd)
      obtain ⟨i1, i2⟩ := ih hn.2 hd
      rw [List.filter_cons, List.filter_cons, List.filter_cons, List.filter_cons]
      simp only [hne, decide_false, Bool.or_false]
      cases hc : V c.nm with
      | true => simp only [if_true, List.length_cons, Bool.not_true, Bool.false_eq_true, if_false]; exact ⟨by omega, i2⟩
      | false => simp only [Bool.false_eq_true, if_false, Bool.not_false, if_true, List.map_cons, List.sum_cons]; exact ⟨i1, by omega⟩
theorem set_in {w : World} {A : Around} {E : Value → Shared → Prop} {s : Shared} {h₀ : Heap} {L sa : Addr} {news : List (Addr × Obj)} {so : Obj} {V : Str → Bool} {n : Nat} {k : Str} {t : Tok} {b : Bool} {Q : Value → Shared → Prop}
    (N : News h₀ L s.heap news) (hm : (sa, so) ∈ news) (hso : so.SetObjOf (strKind PR w) V n) (hz : n ≤ 1000) (hv : V k = b) (h : Q (.bool b) { s with toks := s.toks + 1 }) :
    wpAny (model PR w) A (compareOp .In (.str k t) (.ref sa)) Q E s :=
  wpAny_inSet_of (knd := strKind PR w) (strKind_is _ _ _ _) rfl (hso.setOf (N _ hm).1 (by unfold scanBound; omega)) (by rw [hv]; exact h)
/-- the addresses at hand -/
noncomputable def cycAds (n2 se its stk : Addr) (sk : List Ent) (own : List (Addr × Obj)) : List Addr := [n2, se, its, stk] ++ ((sk.flatMap Ent.objs).map (·.1) ++ own.map (·.1))
noncomputable def CycAp (n2 se its stk : Addr) (fo : List (Addr × Obj)) (sk : List Ent) (own : List (Addr × Obj)) : Prop := (cycAds n2 se its stk sk own).Nodup ∧ ∀ a ∈ cycAds n2 se its stk sk own, a ∉ fo.map (·.1)
/-- the ledger at hand -/
noncomputable def cycLed (n2 : Addr) (o2 : Obj) (se : Addr) (so : Obj) (its : Addr) (e1 : Nat) (stk : Addr) (e2 : Nat) (fo : List (Addr × Obj)) (sk : List Ent) (own : List (Addr × Obj)) : List (Addr × Obj) :=
  (n2, o2) :: (se, so) :: (its, PySem.W.listOf (itsOf sk) e1) :: (stk, PySem.W.listOf (stkOf sk) e2) :: (fo ++ (sk.flatMap Ent.objs ++ own))
theorem rise_names {lv : Str → Nat} {sk : List Ent} {e : Ent} (h : (sk ++ [e]).Pairwise fun a b => lv a.nm < lv b.nm) : sk.Pairwise (fun a b => lv a.nm < lv b.nm) ∧ e.nm ∉ sk.map (·.nm) := by
  rw [List.pairwise_append] at h
  refine ⟨h.1, fun hm => ?_⟩
  obtain ⟨a, ha, e1⟩ := List.mem_map.mp hm
  have := h.2.2 a ha e (.head _)
  rw [e1] at this; exact Nat.lt_irrefl _ this
theorem keys_without {kvs : List (Str × Value)} {k : Str} : (without kvs k).map (·.1) = (kvs.map (·.1)).filter fun x => decide (x ≠ k) := by
  unfold without; rw [List.filter_map]; rfl
/-- the last one is done -/
theorem CycOk.pop {w : World} {ns : List Nd} {lv : Str → Nat} {o2 o2' so : Obj} {sk : List Ent} {e : Ent} {V : Str → Bool} {n : Nat} {kvs : List (Str × Value)} (h : CycOk w ns lv o2 so (sk ++ [e]) V n)
    (hk : kvs.map (·.1) = (sk ++ [e]).map (·.nm)) (hd : o2'.IsDictOf (strKind PR w) (without kvs e.nm)) : CycOk w ns lv o2' so sk V n := by
  obtain ⟨h1, h2⟩ := rise_names h.rise
  refine ⟨⟨_, hd, ?_⟩, h.set, h.cnt, fun e' he' => h.ent e' (List.mem_append_left _ he'), h1⟩
  rw [keys_without, hk, List.map_append, List.filter_append]
  rw [List.filter_eq_self.mpr fun x hx => decide_eq_true (show x ≠ e.nm from fun q => h2 (by rw [← q]; exact hx))]
  simp
/-- one step at the last one -/
theorem CycOk.step {w : World} {ns : List Nd} {lv : Str → Nat} {o2 so : Obj} {sk : List Ent} {e : Ent} {V : Str → Bool} {n : Nat} (h : CycOk w ns lv o2 so (sk ++ [e]) V n) (hp : e.pos < e.sv.size) :
    CycOk w ns lv o2 so (sk ++ [{ e with pos := e.pos + 1 }]) V n := by
  obtain ⟨kvs, h1, h2⟩ := h.dict
  refine ⟨⟨kvs, h1, by rw [h2]; simp⟩, h.set, h.cnt, fun e' he' => ?_, ?_⟩
  · rcases List.mem_append.mp he' with he' | he'
    · exact h.ent e' (List.mem_append_left _ he')
    · rw [List.mem_singleton] at he'
      obtain ⟨a, b, _⟩ := h.ent e (List.mem_append_right _ (.head _))
      rw [he']; exact ⟨a, b, hp⟩
  · have := h.rise
    rw [List.pairwise_append] at this ⊢
    refine ⟨this.1, List.pairwise_singleton _ _, fun a ha b hb => ?_⟩
    rw [List.mem_singleton.mp hb]
    exact this.2.2 a ha e (.head _)
theorem CycOk.small {w : World} {ns : List Nd} {lv : Str → Nat} {o2 so : Obj} {sk : List Ent} {V : Str → Bool} {n b : Nat} (h : CycOk w ns lv o2 so sk V n) (hl : ns.length ≤ b) : n ≤ b := by
  rw [h.cnt]; exact Nat.le_trans (List.length_filter_le _ _) hl
theorem valueAt_keys {kvs : List (Str × Value)} {ks : List Str} {a : Str} (h : kvs.map (·.1) = ks) (hn : a ∉ ks) : valueAt kvs a = none := by
  unfold valueAt
  rw [List.find?_eq_none.mpr]; rfl
  intro p hp e
  exact hn (h ▸ (of_decide_eq_true e) ▸ List.mem_map_of_mem hp)
theorem CycOk.off {w : World} {ns : List Nd} {lv : Str → Nat} {o2 so : Obj} {sk : List Ent} {V : Str → Bool} {n : Nat} {nd : Str} (_ : CycOk w ns lv o2 so sk V n) (hup : ∀ e ∈ sk, lv e.nm < lv nd) : nd ∉ sk.map (·.nm) := fun hm => by
  obtain ⟨e, he, h⟩ := List.mem_map.mp hm
  have := hup e he
  rw [h] at this; exact Nat.lt_irrefl _ this
section
variable {w : World} {A : Around} {E : Value → Shared → Prop} {s : Shared} {h₀ : Heap} {L : Addr} {m : Str → Option Value} {news : List (Addr × Obj)}
theorem next_led {it l : Addr} {i : Nat} {Q : Value → Shared → Prop} (F : Fr h₀ L s.heap m) (N : News h₀ L s.heap news) (hm : (it, itObj l i) ∈ news)
    (h : ∀ M h', Fr h₀ L h' m → News h₀ L h' ((M, mwObj it) :: news) → (∀ p ∈ news, p.1 < M) → Q (.ref M) { s with heap := h', toks := s.toks + 1 }) : wpAny (model PR w) A (getAttr (.ref it) (Str.ofString "__next__") true) Q E s :=
  getattr_next (N _ hm).1 (h _ _ (F.push _) (News.push F N _ rfl) fun q hq => Heap.lt_size (N q hq).1)
end

end
section
noncomputable def bodyAt (o : Option Obj) : List Stmt := match o with | some ⟨_, _, .func f, _⟩ => (match f.body with | .stmts b => b | _ => []) | _ => []
noncomputable def scopeAt (o : Option Obj) (d : Scope) : Scope := match o with | some ⟨_, _, .func f, _⟩ => f.scope | _ => d
noncomputable def inner (n : Nat) (b : List Stmt) : List Stmt := match b[n]? with
  | some (.For _ _ b _ _) => b
  | some (.While _ b _ _) => b
  | some (.If _ b _ _) => b
  | some (.Try b _ _ _ _) => b
  | _ => []
noncomputable def cycSc (w : World) (d : Scope) : Scope := scopeAt ((Mine.hd.heap_1 w.params).lookup 152) d
noncomputable def cycBody (w : World) : List Stmt := bodyAt ((Mine.hd.heap_1 w.params).lookup 152)
noncomputable def cycTry (w : World) : List Stmt := inner 1 (inner 1 (inner 5 (cycBody w)))
theorem itsOf_snoc (sk : List Ent) (e : Ent) : itsOf (sk ++ [e]) = (itsOf sk).push (.ref e.mw) := by unfold itsOf; simp
theorem stkOf_snoc (sk : List Ent) (e : Ent) : stkOf (sk ++ [e]) = (stkOf sk).push (.str e.nm e.tk) := by unfold stkOf; simp
theorem pins_eq {m : Str → Option Value} (l : List (Str × Value)) (e : ∀ p ∈ l, m p.1 = some p.2) : (fun y => (l.lookup y).or (m y)) = m := by
  funext y
  induction l with
  | nil => rfl
  | cons p r ih =>
    rw [List.lookup_cons]
    by_cases hy : (y == p.1) = true
    · rw [hy]
      have := e p (.head _)
      rw [eq_of_beq hy, this]; rfl
    · rw [Bool.not_eq_true] at hy
      rw [hy]
      exact ih fun q hq => e q (.tail _ hq)
theorem fr_eq {g h : Heap} {L : Addr} {m₁ m₂ : Str → Option Value} (F : Fr g L h m₁) (e : ∀ y, m₁ y = m₂ y) : Fr g L h m₂ := by
  rw [← funext e]; exact F
theorem kl_last_snoc (l : List Value) (v : Value) : kl_last (l ++ [v]) = some (l, v) := by
  induction l with
  | nil => rfl
  | cons a l ih => rw [List.cons_append, kl_last, ih]
theorem last_item {prog : Program} {w : World} {A : Around} {E : Value → Shared → Prop} {s : Shared} {value slice : PySem.Expr} {h₀ : Heap} {L l : Addr} {news : List (Addr × Obj)} {vs : Array Value} {e : Nat} {u : Tok} {v : Value} {Q : Value → Shared → Prop}
    (N : News h₀ L s.heap news) (hm : (l, PySem.W.listOf (vs.push v) e) ∈ news) (h : Q v s)
    (hs : subscripted slice false (.ref l) (.int (-1) u) = operate [.ref l, .int (-1) u] (getItem (.ref l) (.int (-1) u)) := by with_unfolding_all rfl) :
    wpAny (model prog w) A (subscriptTail value slice (.ref l) (.int (-1) u)) Q E s := by
  refine kde_neg (vs := vs.toList ++ [v]) (j := vs.size) ⟨_, (N _ hm).1, rfl, e, ?_⟩ (by decide) (by decide) ?_ ?_ h hs
  · have : vs.push v = (vs.toList ++ [v]).toArray := Array.toList_inj.mp (by rw [Array.toList_push])
    rw [this]
  · unfold seqIndex?; simp; try omega
  · rw [← Array.length_toList]; exact List.getElem?_concat_length


theorem pop_snoc {prog : Program} {w : World} {A : Around} {E : Value → Shared → Prop} {s : Shared} {h₀ : Heap} {L D : Addr} {m : Str → Option Value} {news news' : List (Addr × Obj)} {xs : Array Value} {n : Nat} {v : Value} {Q : Value → Shared → Prop}
    (F : Fr h₀ L s.heap m) (N : News h₀ L s.heap news) (U : Upd D (PySem.W.listOf (xs.push v) n) (PySem.W.listOf xs (n + 1)) news news') (hz : xs.size ≤ 1000)
    (h : ∀ h', Fr h₀ L h' m → News h₀ L h' news' → Q v { s with heap := h' }) : wpAny (model prog w) A (call (.builtin "list.pop") [.ref D]) Q E s :=
  kl_pop (p := xs.toList) F N (by rw [Array.toList_push]; exact kl_last_snoc _ _) U (by rw [Array.toList_push, List.length_append, sizeLine_eq]; simp; omega) h

section
local macro_rules | `(tactic| k_ne) => `(tactic| (refine neN ?_; (try dsimp only); first | exact Df.to (by with_reducible assumption) | exact Df.from (by with_reducible assumption) | omega))
local macro_rules | `(tactic| k_all) => `(tactic| with_reducible assumption)
local macro_rules | `(tactic| walk_at "call builtin:list.pop") => `(tactic| (k_dflt (refine pop_snoc (by k_asm) (by k_asm) (by k_upd) (by with_reducible assumption) ?_); intro h' F' N'; (try dsimp only at N')))
local macro_rules | `(tactic| walk_at "delItem ref str") => `(tactic| (k_dflt (refine kob_del (knd := PySem.strKind _ _) (by k_asm) (by k_asm) (by k_updF) (by k_asm) (strKind_is _ _ _ _) (by with_reducible assumption) (by with_reducible assumption) ?_); intro h' o' F' N' hd'; (try dsimp only at N')))
local macro_rules | `(tactic| k_steps) => `(tactic| (repeat' (first | (k_unfold; (try dsimp only)) | (walk1; (try dsimp only)) | (dsimp only; walk1; (try dsimp only)) | fail "no step")))
local macro_rules | `(tactic| walk_at "subscriptTail") => `(tactic| (k_dflt (refine last_item (by with_reducible assumption) (by k_mem) ?_)))
theorem cyc_try {w : World} {dp un : Nat} {gd : Option (List Code)} {qual : Str} {sc cs : Scope} {f : Addr} {cdv : Value} {outer : List Env} {base g : Heap} {L : Addr} {m : Str → Option Value} {s : Shared} {p : Program} {loose : List Str} {mean : ExcName → Option Value} {mg mb : Str → Option Value}
    {n2 its stk : Addr} {o2 : Obj} {sk : List Ent} {e : Ent} {e1 e2 e3 : Nat} {kvs : List (Str × Value)} {fo rest : List (Addr × Obj)}
    (F : Fr g L s.heap m) (X : (Mine.hd.heap_1 w.params).In g) (T : Top p loose mean mg mb g) (st : base.StaysIn g) (hok : FoOk base outer fo)
    (N : News g L s.heap ((n2, o2) :: (its, PySem.W.listOf (itsOf (sk ++ [e])) e1) :: (stk, PySem.W.listOf (stkOf (sk ++ [e])) e2) :: (e.mw, mwObj e.it) :: (e.it, itObj e.l e.pos) :: (rest ++ fo)))
    (m1 : m "itstack" = some (.ref its)) (m2 : m "stack" = some (.ref stk)) (m3 : m "node2stacki" = some (.ref n2))
    (hd : o2.IsDictOf (strKind PR w) kvs) (lo : (n2 == sysModules) = false) (hk : (valueAt kvs e.nm).isSome = true) (hkz : kvs.length ≤ sizeLine) (hz : sk.length ≤ 1000) (hl : g.get? e.l = some (PySem.W.listOf e.sv e3))
    (hcs : cs = cycSc w sc) (hdp : dp + 38 < recursionLimit) (hun : un + 390 < cLine)
    (hap : Apart [n2, its, stk, e.mw, e.it]) (hout : ∀ q ∈ rest ++ fo, q.1 ∉ [n2, its, stk, e.mw, e.it]) (hfo : ∀ q ∈ rest, q.1 ∉ fo.map (·.1)) {Q : Flow → Shared → Prop} {E : Value → Shared → Prop}
    (hItem : ∀ v h' tk, e.sv[e.pos]? = some v → Fr g L h' (fun y => if y = Str.ofString "node" then some v else m y) →
      News g L h' ((n2, o2) :: (its, PySem.W.listOf (itsOf (sk ++ [e])) e1) :: (stk, PySem.W.listOf (stkOf (sk ++ [e])) e2) :: (e.mw, mwObj e.it) :: (e.it, itObj e.l (e.pos + 1)) :: (rest ++ fo)) → Q .brk { s with heap := h', toks := tk })
    (hEnd : ∀ h' tk o2' fo', e.sv[e.pos]? = none → o2'.IsDictOf (strKind PR w) (without kvs e.nm) → Slots fo fo' → Fr g L h' m →
      News g L h' ((n2, o2') :: (its, PySem.W.listOf (itsOf sk) (e1 + 1)) :: (stk, PySem.W.listOf (stkOf sk) (e2 + 1)) :: (rest ++ fo')) → Q .next { s with heap := h', toks := tk }) :
    wpAny (model PR w) (ktrTop dp un gd qual cs L f cdv [] outer) (execs (cycTry w) (envOf qual cs L f cdv)) Q E s := by
  unfold cycTry cycBody
  with_unfolding_all (conv in inner _ _ => whnf)
  unfold cycSc at hcs
  with_unfolding_all (conv at hcs => rhs; whnf)
  subst hcs
  have hpin : ∀ p ∈ [(Str.ofString "itstack", Value.ref its), (Str.ofString "stack", .ref stk), (Str.ofString "node2stacki", .ref n2)], m p.1 = some p.2 := by
    intro p hp; simp only [List.mem_cons, List.not_mem_nil, or_false] at hp; rcases hp with rfl | rfl | rfl <;> assumption
  have hpe := pins_eq _ hpin
  have F₂ := fr_pins F _ hpin
  clear F
  rw [itsOf_snoc, stkOf_snoc] at N
  k_unmd
  k_steps
  have hmw := (N (e.mw, mwObj e.it) (.tail _ (.tail _ (.tail _ (.head _))))).1
  have hit := (N (e.it, itObj e.l e.pos) (.tail _ (.tail _ (.tail _ (.tail _ (.head _)))))).1
  have hitg : e.it ≠ L ∧ g.get? e.it = none := (N (e.it, itObj e.l e.pos) (.tail _ (.tail _ (.tail _ (.tail _ (.head _)))))).2
  have hli : s.heap.IsList e.l e.sv := ⟨_, F₂.keep _ _ hl, rfl, _, rfl⟩
  simp only [Apart, NotAt, and_true] at hap
  obtain ⟨⟨z1, z2, z3, z4⟩, ⟨z5, z6, z7⟩, ⟨z8, z9⟩, z10⟩ := hap
  refine callWith_mw hmw ?_
  cases hx : e.sv[e.pos]? with
  | some v =>
    refine mw_item hmw hit hli hx fun h' hit' hk' => ?_
    have Fk : Fr g L h' _ := ⟨F₂.ns.at fun o e' => (hk' L (Ne.symm hitg.1)).trans e', fun b o e' => (hk' b fun q => by rw [q, hitg.2] at e'; cases e').trans (F₂.keep b o e'), F₂.above⟩
    have Nk : News g L h' ((n2, o2) :: (its, PySem.W.listOf ((itsOf sk).push (.ref e.mw)) e1) :: (stk, PySem.W.listOf ((stkOf sk).push (.str e.nm e.tk)) e2) :: (e.mw, mwObj e.it) :: (e.it, itObj e.l (e.pos + 1)) :: (rest ++ fo)) := by
      intro q hq
      have old : ∀ q, q ∈ ((n2, o2) :: (its, PySem.W.listOf ((itsOf sk).push (.ref e.mw)) e1) :: (stk, PySem.W.listOf ((stkOf sk).push (.str e.nm e.tk)) e2) :: (e.mw, mwObj e.it) :: (e.it, itObj e.l e.pos) :: (rest ++ fo)) → q.1 ≠ e.it → h'.get? q.1 = some q.2 ∧ q.1 ≠ L ∧ g.get? q.1 = none :=
        fun q hq hne => ⟨(hk' _ hne).trans (N q hq).1, (N q hq).2⟩
      simp only [List.mem_cons] at hq old
      rcases hq with rfl | rfl | rfl | rfl | rfl | hq
      · exact old _ (.inl rfl) z4
      · exact old _ (.inr (.inl rfl)) z7
      · exact old _ (.inr (.inr (.inl rfl))) z9
      · exact old _ (.inr (.inr (.inr (.inl rfl)))) z10
      · exact ⟨hit', hitg⟩
      · exact old _ (.inr (.inr (.inr (.inr (.inr hq))))) fun q' => hout q hq (by rw [q']; simp)
    clear F₂ N
    k_unmd
    k_steps
    refine hItem v _ _ hx (fr_eq (by assumption) fun y => ?_) ?_
    · have := congrFun hpe y; (try dsimp only at this ⊢); rw [this]
    · rw [itsOf_snoc, stkOf_snoc]; assumption
  | none =>
    refine mw_end rfl hmw hit hli hx fun h' x hS => ?_
    have hLx : L ≠ e.it := Ne.symm hitg.1
    obtain ⟨oL, es, ep, hL, hLr⟩ := id F₂.ns
    have Fk : Fr g L h' _ := ⟨F₂.ns.at fun o e' => hS.keep _ hLx _ e', fun b o e' => hS.keep b (fun q => by rw [q, hitg.2] at e'; cases e') _ (F₂.keep b o e'), F₂.above⟩
    have hxo : ∀ b o, s.heap.get? b = some o → b ≠ x := fun b o e' q => by have := hS.new; rw [← q] at this; rw [show ({ s with toks := s.toks + 1 + 1 } : Shared).heap = s.heap from rfl, e'] at this; cases this
    have hfoN : ∀ q ∈ fo, h'.get? q.1 = some q.2 := fun q hq => hS.keep _ (fun q' => hout q (List.mem_append_right _ hq) (by rw [q']; simp)) _ (N q (.tail _ (.tail _ (.tail _ (.tail _ (.tail _ (List.mem_append_right _ hq))))))).1
    have hLb : base.get? L = none := by
      cases e' : base.get? L with
      | none => rfl
      | some o => exact absurd (Nat.lt_of_lt_of_le (Heap.lt_size (st _ _ e')) F₂.above) (Nat.lt_irrefl _)
    obtain ⟨t, ht⟩ := hS.there
    dsimp only at hS ht
    dsimp only
    refine note_own (base := base) rfl (.cons (by show ScopeKind.function ≠ ScopeKind.module; decide) rfl Fk.ns hLb (hok.back hfoN)) rfl ht fun h'' hN => ?_
    dsimp only at hN ⊢
    have hfs : ∀ sc', ((envOf qual sc' L f cdv :: outer).filterMap (·.frame)) = L :: fo.map (·.1) := fun sc' => by rw [List.filterMap_cons]; show L :: _ = _; rw [hok.ads]
    rw [hfs] at hN
    obtain ⟨fo', hsl, hfo'⟩ := Slots.of hfoN fun b hb o e' => hN.slots b (.tail _ hb) o e'
    have hgf : ∀ b o, g.get? b = some o → b ∉ L :: fo.map (·.1) := fun b o e' hb => by
      rcases List.mem_cons.mp hb with rfl | hb
      · exact Nat.lt_irrefl _ (Nat.lt_of_lt_of_le (Heap.lt_size e') F₂.above)
      · obtain ⟨q, hq, rfl⟩ := List.mem_map.mp hb
        have := (N q (.tail _ (.tail _ (.tail _ (.tail _ (.tail _ (List.mem_append_right _ hq))))))).2.2
        rw [this] at e'; cases e'
    have Fl : Fr g L h'' _ := ⟨by
        obtain ⟨sl, q⟩ := hN.slots L (.head _) oL (hS.keep L hLx oL hL)
        exact ⟨_, es, ep, q, hLr⟩, fun b o e' => hN.keep b (hxo b o (F₂.keep b o e')) (hgf b o e') o (Fk.keep b o e'), F₂.above⟩
    have hxf : x ∉ L :: fo.map (·.1) := fun hb => by
      rcases List.mem_cons.mp hb with rfl | hb
      · exact hxo _ _ hL rfl
      · obtain ⟨q, hq, hqe⟩ := List.mem_map.mp hb
        exact hxo _ _ (N q (.tail _ (.tail _ (.tail _ (.tail _ (.tail _ (List.mem_append_right _ hq))))))).1 hqe
    have keepQ : ∀ q : Addr × Obj, s.heap.get? q.1 = some q.2 → q.1 ≠ e.it → q.1 ∉ L :: fo.map (·.1) → h''.get? q.1 = some q.2 := fun q hq hne hnf => hN.keep _ (hxo _ _ hq) hnf _ (hS.keep _ hne _ hq)
    have Nl : News g L h'' ((n2, o2) :: (its, PySem.W.listOf ((itsOf sk).push (.ref e.mw)) e1) :: (stk, PySem.W.listOf ((stkOf sk).push (.str e.nm e.tk)) e2) :: (rest ++ fo')) := by
      have old : ∀ q, q ∈ ((n2, o2) :: (its, PySem.W.listOf ((itsOf sk).push (.ref e.mw)) e1) :: (stk, PySem.W.listOf ((stkOf sk).push (.str e.nm e.tk)) e2) :: (e.mw, mwObj e.it) :: (e.it, itObj e.l e.pos) :: (rest ++ fo)) → q.1 ≠ e.it → q.1 ∉ fo.map (·.1) → h''.get? q.1 = some q.2 ∧ q.1 ≠ L ∧ g.get? q.1 = none :=
        fun q hq hne hnf => ⟨keepQ q (N q hq).1 hne fun hb => by rcases List.mem_cons.mp hb with hb | hb; exact (N q hq).2.1 hb; exact hnf hb, (N q hq).2⟩
      have offF : ∀ a, a ∈ [n2, its, stk, e.mw, e.it] → a ∉ fo.map (·.1) := fun a ha hb => by
        obtain ⟨q, hq, rfl⟩ := List.mem_map.mp hb
        exact hout q (List.mem_append_right _ hq) ha
      intro q hq
      simp only [List.mem_cons, List.mem_append] at hq old
      rcases hq with rfl | rfl | rfl | hq | hq
      · exact old _ (.inl rfl) z4 (offF _ (by simp))
      · exact old _ (.inr (.inl rfl)) z7 (offF _ (by simp))
      · exact old _ (.inr (.inr (.inl rfl))) z9 (offF _ (by simp))
      · exact old _ (.inr (.inr (.inr (.inr (.inr (.inl hq)))))) (fun q' => hout q (List.mem_append_left _ hq) (by rw [q']; simp)) (hfo q hq)
      · have hb : q.1 ∈ fo.map (·.1) := by rw [← hsl.ads]; exact List.mem_map_of_mem hq
        obtain ⟨q0, hq0, hqe⟩ := List.mem_map.mp hb
        have := (N q0 (.tail _ (.tail _ (.tail _ (.tail _ (.tail _ (List.mem_append_right _ hq0))))))).2
        rw [hqe] at this
        exact ⟨hfo' q hq, this⟩
    have hsome : ∀ q ∈ ((n2, o2) :: (its, PySem.W.listOf ((itsOf sk).push (.ref e.mw)) e1) :: (stk, PySem.W.listOf ((stkOf sk).push (.str e.nm e.tk)) e2) :: (rest ++ fo')), ∃ o, s.heap.get? q.1 = some o ∧ q.1 ≠ e.it := by
      intro q hq
      simp only [List.mem_cons, List.mem_append] at hq
      rcases hq with rfl | rfl | rfl | hq | hq
      · exact ⟨_, (N (n2, o2) (.head _)).1, z4⟩
      · exact ⟨_, (N _ (.tail _ (.head _))).1, z7⟩
      · exact ⟨_, (N _ (.tail _ (.tail _ (.head _)))).1, z9⟩
      · exact ⟨_, (N _ (.tail _ (.tail _ (.tail _ (.tail _ (.tail _ (List.mem_append_left _ hq))))))).1, fun q' => hout q (List.mem_append_left _ hq) (by rw [q']; simp)⟩
      · have hb : q.1 ∈ fo.map (·.1) := by rw [← hsl.ads]; exact List.mem_map_of_mem hq
        obtain ⟨q0, hq0, hqe⟩ := List.mem_map.mp hb
        exact ⟨_, hqe ▸ (N _ (.tail _ (.tail _ (.tail _ (.tail _ (.tail _ (List.mem_append_right _ hq0))))))).1, fun q' => hout q0 (List.mem_append_right _ hq0) (by rw [hqe, q']; simp)⟩
    have hgs : ∀ b o, g.get? b = some o → s.heap.get? b = some o ∧ b ≠ e.it := fun b o e' => ⟨F₂.keep b o e', fun q => by rw [q, hitg.2] at e'; cases e'⟩
    have hthere := hN.there
    have hout' : ∀ q ∈ rest ++ fo', q.1 ∉ [n2, its, stk] := fun q hq hm => by
      have hm' : q.1 ∈ [n2, its, stk, e.mw, e.it] := by
        simp only [List.mem_cons, List.not_mem_nil, or_false] at hm ⊢
        rcases hm with h | h | h
        · exact .inl h
        · exact .inr (.inl h)
        · exact .inr (.inr (.inl h))
      rcases List.mem_append.mp hq with hq | hq
      · exact hout q (List.mem_append_left _ hq) hm'
      · have hb : q.1 ∈ fo.map (·.1) := by rw [← hsl.ads]; exact List.mem_map_of_mem hq
        obtain ⟨q0, hq0, hqe⟩ := List.mem_map.mp hb
        exact hout q0 (List.mem_append_right _ hq0) (by rw [hqe]; exact hm')
    have ho1 : ∀ q ∈ rest ++ fo', q.1 ≠ n2 := fun q hq h => hout' q hq (by rw [h]; simp)
    have ho2 : ∀ q ∈ rest ++ fo', q.1 ≠ its := fun q hq h => hout' q hq (by rw [h]; simp)
    have ho3 : ∀ q ∈ rest ++ fo', q.1 ≠ stk := fun q hq h => hout' q hq (by rw [h]; simp)
    clear F₂ N Fk
    obtain ⟨oe, vs, tb, otb, tvs, t1, t2, t3, t4, t5, t6, t7, t8, t9⟩ := hthere
    refine wpAny_handleBy_builtin (X := "StopIteration") (T := "StopIteration") (b := true) ?_ ?_ ?_ ?_
    · rw [isSubtype_type]; kernel_rfl
    · rw [isSubtype_type]; kernel_rfl
    · rw [isSubtype_type]; kernel_rfl
    · have hz1 : (itsOf sk).size ≤ 1000 := by unfold itsOf; simpa using hz
      have hz2 : (stkOf sk).size ≤ 1000 := by unfold stkOf; simpa using hz
      k_unmd
      k_steps
      · exact ⟨oe, t1, t2⟩
      · refine wpAny_setFlight_none t1 t3 t4 t5 t6 t7 ?_
        generalize hH : Heap.update _ tb _ = H
        have kH : ∀ b, b ≠ tb → H.get? b = h''.get? b := fun b hb => by rw [← hH]; exact Heap.get?_update_other _ _ (Ne.symm hb)
        have htbL : ∀ b o, s.heap.get? b = some o → b ≠ e.it → b ≠ tb := fun b o e' hne q => by
          have := hS.keep b hne o e'
          rw [q, t9] at this; cases this
        rename Fr _ _ _ _ => F6
        have F5 : Fr g L H _ := ⟨F6.ns.at fun o e' => (kH L (htbL _ _ hL hLx)).trans e', fun b o e' => (kH b (htbL _ _ (hgs b o e').1 (hgs b o e').2)).trans (F6.keep b o e'), F6.above⟩
        have N5 : News g L H ((n2, o2) :: (its, PySem.W.listOf ((itsOf sk).push (.ref e.mw)) e1) :: (stk, PySem.W.listOf ((stkOf sk).push (.str e.nm e.tk)) e2) :: (rest ++ fo')) := fun q hq => by
          obtain ⟨o, h1, h2⟩ := hsome q hq
          exact ⟨(kH _ (htbL _ _ h1 h2)).trans (Nl q hq).1, (Nl q hq).2⟩
        clear F6 Nl hH kH
        k_unmd
        k_steps
        rename Fr _ _ _ _ => F9
        exact hEnd _ _ _ fo' hx (by assumption) hsl (fr_eq F9 (congrFun hpe)) (by assumption)
end

end
section
local macro_rules | `(tactic| walk_at "pad") => `(tactic| fail)

noncomputable def cycWhile (w : World) : List Stmt := (inner 1 (inner 5 (cycBody w))).drop 1
theorem nodup_app {α : Type} {a b : List α} (h : (a ++ b).Nodup) : a.Nodup ∧ b.Nodup ∧ ∀ x ∈ a, x ∉ b := by
  rw [List.nodup_append] at h
  exact ⟨h.1, h.2.1, fun x ha hb => h.2.2 x ha x hb rfl⟩
theorem cycLed_perm {n2 se its stk : Addr} {o2 so : Obj} {e1 e2 : Nat} {fo own : List (Addr × Obj)} {sk : List Ent} {e : Ent} :
    ∀ q, q ∈ cycLed n2 o2 se so its e1 stk e2 fo (sk ++ [e]) own ↔ q ∈ ((n2, o2) :: (its, PySem.W.listOf (itsOf (sk ++ [e])) e1) :: (stk, PySem.W.listOf (stkOf (sk ++ [e])) e2) :: (e.mw, mwObj e.it) :: (e.it, itObj e.l e.pos) :: (((se, so) :: (sk.flatMap Ent.objs ++ own)) ++ fo)) := by
  intro q
  unfold cycLed
  rw [List.flatMap_append]
  simp only [List.flatMap_cons, List.flatMap_nil, List.append_nil, Ent.objs, List.mem_cons, List.mem_append, List.not_mem_nil, or_false]
  constructor
  · rintro (h | h | h | h | h | ((h | (h | h)) | h))
    all_goals simp [h]
  · rintro (h | h | h | h | h | ((h | (h | h)) | h))
    all_goals simp [h]
theorem truthy_led {prog : Program} {w : World} {A : Around} {E : Value → Shared → Prop} {s : Shared} {h₀ : Heap} {L l : Addr} {news : List (Addr × Obj)} {items : Array Value} {e : Nat} {b : Bool} {Q : Bool → Shared → Prop}
    (N : News h₀ L s.heap news) (hm : (l, PySem.W.listOf items e) ∈ news) (hfit : items.size ≤ 1000) (hb : (!items.isEmpty) = b) (h : Q b { s with toks := s.toks + 1 + 1 }) : wpAny (model prog w) A (truthy (.ref l)) Q E s :=
  wpAny_truthy_list ⟨_, (N _ hm).1, rfl, _, rfl⟩ (by omega) (by rw [hb]; exact h)
theorem snoc_or {α : Type} (l : List α) : l = [] ∨ ∃ a b, l = a ++ [b] := by
  rcases List.eq_nil_or_concat l with h | ⟨a, b, h⟩
  · exact .inl h
  · exact .inr ⟨a, b, by rw [h]; simp⟩
theorem nodup_le : ∀ {l l' : List Str}, l.Nodup → (∀ x ∈ l, x ∈ l') → l.length ≤ l'.length
  | [], _, _, _ => Nat.zero_le _
  | x :: l, l', hn, hs => by
    rw [List.nodup_cons] at hn
    have h1 := hs x (.head _)
    have := nodup_le (l' := l'.erase x) hn.2 fun y hy => (List.mem_erase_of_ne fun e => hn.1 (by rw [← e]; exact hy)).mpr (hs y (.tail _ hy))
    rw [List.length_erase_of_mem h1] at this
    have := List.length_pos_of_mem h1
    rw [List.length_cons]; omega
theorem CycOk.len {w : World} {ns : List Nd} {lv : Str → Nat} {o2 so : Obj} {sk : List Ent} {V : Str → Bool} {n : Nat} (h : CycOk w ns lv o2 so sk V n) : sk.length ≤ ns.length := by
  have hn : (sk.map (·.nm)).Nodup := by
    rw [List.nodup_iff_pairwise_ne, List.pairwise_map]
    exact h.rise.imp fun {a b} hab e => by rw [e] at hab; exact Nat.lt_irrefl _ hab
  have hs : ∀ x ∈ sk.map (·.nm), x ∈ ns.map (·.nm) := fun x hx => by
    obtain ⟨e, he, rfl⟩ := List.mem_map.mp hx
    obtain ⟨⟨d, hd, h1, _⟩, _⟩ := h.ent e he
    exact h1 ▸ List.mem_map_of_mem hd
  simpa using nodup_le hn hs
theorem cyc_dist {n2 se its stk : Addr} {so : Obj} {fo own : List (Addr × Obj)} {a : List Ent} {b : Ent} (h : CycAp n2 se its stk fo (a ++ [b]) own) :
    Apart [n2, its, stk, b.mw, b.it] ∧ (∀ q ∈ ((se, so) :: (a.flatMap Ent.objs ++ own)) ++ fo, q.1 ∉ [n2, its, stk, b.mw, b.it]) ∧ (∀ q ∈ (se, so) :: (a.flatMap Ent.objs ++ own), q.1 ∉ fo.map (·.1)) := by
  obtain ⟨h, hf⟩ := h
  unfold cycAds at h hf
  rw [List.flatMap_append, List.map_append] at h hf
  obtain ⟨h1, h5, h3⟩ := nodup_app h
  obtain ⟨h7, h8, h9⟩ := nodup_app h5
  obtain ⟨h10, h11, h12⟩ := nodup_app h7
  have e1 : ([b].flatMap Ent.objs).map (·.1) = [b.mw, b.it] := by simp [Ent.objs]
  rw [e1] at h3 h9 h11 h12 hf
  have mA : ∀ q ∈ a.flatMap Ent.objs, q.1 ∈ (a.flatMap Ent.objs).map (·.1) := fun q hq => List.mem_map_of_mem hq
  have mO : ∀ q ∈ own, q.1 ∈ own.map (·.1) := fun q hq => List.mem_map_of_mem hq
  have mF : ∀ q ∈ fo, q.1 ∈ fo.map (·.1) := fun q hq => List.mem_map_of_mem hq
  simp only [List.mem_append, not_or] at h3 h9 hf
  refine ⟨apart_of ?_, fun q hq => ?_, fun q hq hm => ?_⟩
  · have := h3 n2 (by simp)
    have h3i := h3 its (by simp)
    have h3s := h3 stk (by simp)
    simp only [List.nodup_cons, List.mem_cons, List.not_mem_nil, or_false, not_or] at h1 h11 this h3i h3s ⊢
    exact ⟨⟨h1.1.2.1, h1.1.2.2, this.1.2.1, this.1.2.2⟩, ⟨h1.2.2.1, h3i.1.2.1, h3i.1.2.2⟩, ⟨h3s.1.2.1, h3s.1.2.2⟩, h11.1, fun h => h, List.nodup_nil⟩
  · have key : ∀ x, x = n2 ∨ x = its ∨ x = stk → x ∈ [n2, se, its, stk] := fun x hx => by simp only [List.mem_cons, List.not_mem_nil, or_false]; rcases hx with h | h | h <;> simp [h]
    intro hm
    have hm' : (q.1 = n2 ∨ q.1 = its ∨ q.1 = stk) ∨ q.1 ∈ [b.mw, b.it] := by
      simp only [List.mem_cons, List.not_mem_nil, or_false] at hm ⊢
      rcases hm with h | h | h | h | h <;> simp [h]
    simp only [List.mem_append, List.mem_cons] at hq
    rcases hq with (rfl | hq | hq) | hq
    · rcases hm' with h | h
      · simp only [List.nodup_cons, List.mem_cons, List.not_mem_nil, or_false, not_or] at h1
        rcases h with h | h | h
        · exact h1.1.1 h.symm
        · exact h1.2.1.1 h
        · exact h1.2.1.2 h
      · exact (h3 se (by simp)).1.2 h
    · rcases hm' with h | h
      · exact (h3 _ (key _ h)).1.1 (mA q hq)
      · exact h12 _ (mA q hq) h
    · rcases hm' with h | h
      · exact (h3 _ (key _ h)).2 (mO q hq)
      · exact h9 _ (.inr h) (mO q hq)
    · rcases hm' with h | h
      · exact hf _ (.inl (key _ h)) (mF q hq)
      · exact hf _ (.inr (.inl (.inr h))) (mF q hq)
  · simp only [List.mem_append, List.mem_cons] at hq
    rcases hq with rfl | hq | hq
    · exact hf se (.inl (by simp)) hm
    · exact hf _ (.inr (.inl (.inl (mA q hq)))) hm
    · exact hf _ (.inr (.inr (mO q hq))) hm
theorem cycAds_step {n2 se its stk : Addr} {fo own : List (Addr × Obj)} {a : List Ent} {b : Ent} (h : CycAp n2 se its stk fo (a ++ [b]) own) : CycAp n2 se its stk fo (a ++ [{ b with pos := b.pos + 1 }]) own := by
  have : cycAds n2 se its stk (a ++ [{ b with pos := b.pos + 1 }]) own = cycAds n2 se its stk (a ++ [b]) own := by
    unfold cycAds; simp [List.flatMap_append, Ent.objs]
  unfold CycAp at h ⊢
  rw [this]; exact h
theorem cycAds_fo {n2 se its stk : Addr} {fo fo' own : List (Addr × Obj)} {sk : List Ent} (h : Slots fo fo') (x : CycAp n2 se its stk fo sk own) : CycAp n2 se its stk fo' sk own := by
  unfold CycAp at x ⊢; rw [h.ads]; exact x
theorem cycAds_pop {n2 se its stk : Addr} {fo own : List (Addr × Obj)} {a : List Ent} {b : Ent} (h : CycAp n2 se its stk fo (a ++ [b]) own) : CycAp n2 se its stk fo a own := by
  obtain ⟨h, hf⟩ := h
  have hs : (cycAds n2 se its stk a own).Sublist (cycAds n2 se its stk (a ++ [b]) own) := by
    unfold cycAds
    rw [List.flatMap_append, List.map_append]
    exact (List.Sublist.refl _).append ((List.sublist_append_left _ _).append (List.Sublist.refl _))
  exact ⟨h.sublist hs, fun x hx => hf x (hs.subset hx)⟩
section
local macro_rules | `(tactic| k_steps) => `(tactic| (repeat' (first | (k_unfold; (try dsimp only)) | (walk1; (try dsimp only)) | (dsimp only; walk1; (try dsimp only)) | fail "no step")))
local macro_rules | `(tactic| walk_at "truthy ref") => `(tactic| (k_dflt (refine truthy_led (by with_reducible assumption) (by with_reducible assumption) (by with_reducible assumption) (by with_reducible assumption) ?_)))
local macro_rules | `(tactic| walk_at "exec While Name") => `(tactic| (k_dflt (refine wpAny_While ?_)))
local macro_rules | `(tactic| walk_at "exec While Name cons cons") => `(tactic| (k_dflt (refine wpAny_While ?_)))
theorem cyc_while {w : World} {dp un : Nat} {gd : Option (List Code)} {qual : Str} {sc cs : Scope} {f : Addr} {cdv : Value} {outer : List Env} {base g : Heap} {L : Addr} {m : Str → Option Value} {s : Shared} {p : Program} {loose : List Str} {mean : ExcName → Option Value} {mg mb : Str → Option Value}
    {ns : List Nd} {lv : Str → Nat} {n2 se its stk : Addr} {o2 so : Obj} {sk : List Ent} {e1 e2 n : Nat} {V : Str → Bool} {fo own : List (Addr × Obj)}
    (F : Fr g L s.heap m) (X : (Mine.hd.heap_1 w.params).In g) (T : Top p loose mean mg mb g) (st : base.StaysIn g) (hok : FoOk base outer fo)
    (N : News g L s.heap (cycLed n2 o2 se so its e1 stk e2 fo sk own))
    (m1 : m "itstack" = some (.ref its)) (m2 : m "stack" = some (.ref stk)) (m3 : m "node2stacki" = some (.ref n2))
    (hC : CycOk w ns lv o2 so sk V n) (lo : (n2 == sysModules) = false) (hg : ∀ d ∈ ns, g.get? d.l = some (PySem.W.listOf d.sv d.se)) (hz : ns.length ≤ 1000) (hnn : (ns.map (·.nm)).Nodup)
    (hlv : ∀ d ∈ ns, ∀ c ∈ d.sv.toList, ∃ x t, c = .str x t ∧ lv d.nm < lv x ∧ ∃ e ∈ ns, e.nm = x)
    (hcs : cs = cycSc w sc) (hdp : dp + 38 < recursionLimit) (hun : un + 390 < cLine) (hnd : CycAp n2 se its stk fo sk own) {Q : Flow → Shared → Prop} {E : Value → Shared → Prop}
    (hFound : ∀ h' tk m' x t sk' o2' e1' e2' fo', Fr g L h' m' → m' (Str.ofString "node") = some (.str x t) → (∀ y, y ≠ Str.ofString "node" → m' y = m y) → (∃ e ∈ ns, e.nm = x) → sk' ≠ [] → (∀ e ∈ sk', lv e.nm < lv x) → CycOk w ns lv o2' so sk' V n →
      cycLeft ns sk' V < cycLeft ns sk V → Slots fo fo' → CycAp n2 se its stk fo' sk' own → News g L h' (cycLed n2 o2' se so its e1' stk e2' fo' sk' own) → Q .next { s with heap := h', toks := tk })
    (hEmpty : ∀ h' tk o2' e1' e2' fo', Fr g L h' m → CycOk w ns lv o2' so [] V n → Slots fo fo' → News g L h' (cycLed n2 o2' se so its e1' stk e2' fo' [] own) → Q .brk { s with heap := h', toks := tk }) :
    wpAny (model PR w) (ktrTop dp un gd qual cs L f cdv [] outer) (execs (cycWhile w) (envOf qual cs L f cdv)) Q E s := by
  have hcs' := hcs
  unfold cycWhile cycBody
  with_unfolding_all (conv in List.drop _ _ => whnf)
  unfold cycSc at hcs
  with_unfolding_all (conv at hcs => rhs; whnf)
  subst hcs
  k_unmd
  k_steps
  refine whileJ (R := _) F N (fun μ m' news' => m' = m ∧ ∃ sk' o2' e1' e2' fo', CycOk w ns lv o2' so sk' V n ∧ sk'.length = μ ∧ cycLeft ns sk' V ≤ cycLeft ns sk V ∧ Slots fo fo' ∧ CycAp n2 se its stk fo' sk' own ∧ news' = cycLed n2 o2' se so its e1' stk e2' fo' sk' own) _ ⟨rfl, sk, o2, e1, e2, fo, hC, rfl, Nat.le_refl _, Slots.refl fo, hnd, rfl⟩ ?turn
  intro μ m' news' h tk hpat F' N'
  obtain ⟨rfl, sk', o2', e1', e2', fo', hC', hμ, hcl, hS, hnd', rfl⟩ := hpat
  have hpin : ∀ p ∈ [(Str.ofString "itstack", Value.ref its), (Str.ofString "stack", .ref stk), (Str.ofString "node2stacki", .ref n2)], m' p.1 = some p.2 := by
    intro p hp; simp only [List.mem_cons, List.not_mem_nil, or_false] at hp; rcases hp with rfl | rfl | rfl <;> assumption
  have hpe := pins_eq _ hpin
  have F₂ := fr_pins F' _ hpin
  have hlen := Nat.le_trans hC'.len hz
  have hszk : (stkOf sk').size ≤ 1000 := by unfold stkOf; simpa using hlen
  have hmem : (stk, PySem.W.listOf (stkOf sk') e2') ∈ cycLed n2 o2' se so its e1' stk e2' fo' sk' own := .tail _ (.tail _ (.tail _ (.head _)))
  clear F N F'
  rcases snoc_or sk' with rfl | ⟨a, b, rfl⟩
  · have hb : (!(stkOf []).isEmpty) = false := rfl
    k_unmd
    k_fold
    k_steps
    exact hEmpty _ _ _ _ _ _ (fr_eq F₂ (congrFun hpe)) hC' hS N'
  · have hb : (!(stkOf (a ++ [b])).isEmpty) = true := by rw [stkOf_snoc]; simp
    k_unmd
    repeat' (first | (k_unfold; (try dsimp only)) | ((fail_if_success (with_reducible show wpAny _ _ (execs (Stmt.Try _ _ _ _ _ :: _) _) _ _ _)); first | (walk1; (try dsimp only)) | (dsimp only; walk1; (try dsimp only))) | fail "no step")
    obtain ⟨kvs, hd, hkk⟩ := hC'.dict
    have hbm : b ∈ a ++ [b] := List.mem_append_right _ (.head _)
    obtain ⟨⟨d, hdn, hd1, hd2, hd3⟩, hVb, hpos⟩ := hC'.ent b hbm
    obtain ⟨hr1, hr2⟩ := rise_names hC'.rise
    have hrb : ∀ e ∈ a, lv e.nm < lv b.nm := fun e he => (List.pairwise_append.mp hC'.rise).2.2 e he b (.head _)
    have hkk1 : kvs.length = (a ++ [b]).length := by
      have := congrArg List.length hkk
      simpa using this
    have hvb : (valueAt kvs b.nm).isSome = true := by
      unfold valueAt
      rw [Option.isSome_map, List.find?_isSome]
      have : b.nm ∈ kvs.map (·.1) := by rw [hkk]; exact List.mem_map_of_mem hbm
      obtain ⟨q, hq, hqe⟩ := List.mem_map.mp this
      exact ⟨q, hq, by simpa using hqe⟩
    have hal : a.length ≤ 1000 := by rw [List.length_append] at hlen; simp at hlen; omega
    have hlst : g.get? b.l = some (PySem.W.listOf b.sv d.se) := by rw [← hd2, ← hd3]; exact hg d hdn
    have N₂ : News g L h ((n2, o2') :: (its, PySem.W.listOf (itsOf (a ++ [b])) e1') :: (stk, PySem.W.listOf (stkOf (a ++ [b])) e2') :: (b.mw, mwObj b.it) :: (b.it, itObj b.l b.pos) :: (((se, so) :: (a.flatMap Ent.objs ++ own)) ++ fo')) := fun q hq => N' q (cycLed_perm q |>.mpr hq)
    have hdist : Apart [n2, its, stk, b.mw, b.it] ∧ (∀ q ∈ ((se, so) :: (a.flatMap Ent.objs ++ own)) ++ fo', q.1 ∉ [n2, its, stk, b.mw, b.it]) ∧ (∀ q ∈ (se, so) :: (a.flatMap Ent.objs ++ own), q.1 ∉ fo'.map (·.1)) := by
      exact cyc_dist hnd'
    have key := fun Q E => cyc_try (sc := sc) (qual := qual) (dp := dp) (un := un) (gd := gd) (f := f) (cdv := cdv) (Q := Q) (E := E) (fr_eq F₂ (congrFun hpe)) X T st (hS.ok hok) (s := { s with heap := h, toks := tk + 1 + 1 }) N₂ m1 m2 m3 hd lo hvb (by rw [hkk1, sizeLine_eq]; omega) hal hlst hcs' hdp hun hdist.1 hdist.2.1 hdist.2.2
    with_unfolding_all refine key _ _ ?item ?fin
    case item =>
      intro v h' tk' hx F9 N9
      have hlt : b.pos < b.sv.size := (Array.getElem?_eq_some_iff.mp hx).1
      obtain ⟨x, t, rfl, hlx, hex⟩ := hlv d hdn v (by rw [hd3]; exact Array.mem_toList_iff.mpr (Array.mem_of_getElem? hx))
      rw [hd1] at hlx
      show wpAny _ _ (execs [] _) Q E _
      refine wpAny_execs_nil (hFound h' tk' _ x t (a ++ [{ b with pos := b.pos + 1 }]) o2' e1' e2' fo' F9 (if_pos rfl) (fun y hy => if_neg hy) hex (by simp) (fun e he => ?_) (hC'.step hlt) (Nat.lt_of_lt_of_le (cycLeft_step hlt) hcl) hS (cycAds_step hnd') (fun q hq => N9 q ?_))
      · rcases List.mem_append.mp he with he | he
        · exact Nat.lt_trans (hrb e he) hlx
        · rw [List.mem_singleton.mp he]; exact hlx
      · have := (cycLed_perm (e := { b with pos := b.pos + 1 }) q).mp hq
        simpa only [itsOf_snoc, stkOf_snoc] using this
    case fin =>
      intro h' tk' o2'' fo'' hx hd' hS' F9 N9
      refine turnOk_ (cycLed n2 o2'' se so its (e1' + 1) stk (e2' + 1) fo'' a own) F9 N9 (fun q hq => ?_) (fun q hq hm => nomatch hm) ⟨a.length, ?_, rfl, a, o2'', e1' + 1, e2' + 1, fo'', hC'.pop hkk hd', rfl, Nat.le_trans cycLeft_pop hcl, hS.trans hS', ?_, rfl⟩
      · unfold cycLed at hq
        simp only [List.append_nil, List.mem_cons, List.mem_append] at hq ⊢
        rcases hq with h | h | h | h | h | h | h <;> simp [h]
      · rw [← hμ]; simp
      · exact cycAds_fo hS' (cycAds_pop hnd')
end

end
section
noncomputable def headS : List Stmt → Stmt
  | a :: _ => a
  | [] => .Pass ⟨0, 0, 0, 0⟩
noncomputable def cycIf (w : World) : Stmt := headS (inner 1 (inner 5 (cycBody w)))
theorem cyc_top {n2 se its stk : Addr} {fo own : List (Addr × Obj)} {sk : List Ent} (h : CycAp n2 se its stk fo sk own) :
    Apart [n2, se, its, stk] ∧ ∀ a ∈ [n2, se, its, stk], ∀ q ∈ fo ++ (sk.flatMap Ent.objs ++ own), q.1 ≠ a := by
  obtain ⟨h, hf⟩ := h
  unfold cycAds at h hf
  obtain ⟨h1, h2, h3⟩ := nodup_app h
  refine ⟨apart_of h1, fun a ha q hq e => ?_⟩
  subst e
  rcases List.mem_append.mp hq with hq | hq
  · exact hf _ (List.mem_append_left _ ha) (List.mem_map_of_mem hq)
  · refine h3 _ ha ?_
    rw [← List.map_append]
    exact List.mem_map_of_mem hq
theorem cycAds_push {n2 se its stk : Addr} {fo own : List (Addr × Obj)} {sk : List Ent} {e : Ent} (h : CycAp n2 se its stk fo sk own) (hne : e.mw ≠ e.it) (h1 : e.mw ∉ cycAds n2 se its stk sk own) (h2 : e.it ∉ cycAds n2 se its stk sk own)
    (h3 : e.mw ∉ fo.map (·.1)) (h4 : e.it ∉ fo.map (·.1)) : CycAp n2 se its stk fo (sk ++ [e]) own := by
  obtain ⟨h, hf⟩ := h
  have e1 : cycAds n2 se its stk (sk ++ [e]) own = ([n2, se, its, stk] ++ (sk.flatMap Ent.objs).map (·.1)) ++ ([e.mw, e.it] ++ own.map (·.1)) := by
    unfold cycAds; simp [List.flatMap_append, Ent.objs]
  have e2 : cycAds n2 se its stk sk own = ([n2, se, its, stk] ++ (sk.flatMap Ent.objs).map (·.1)) ++ own.map (·.1) := by
    unfold cycAds; simp
  unfold CycAp
  rw [e1]
  rw [e2] at h h1 h2 hf
  obtain ⟨a1, a2, a3⟩ := nodup_app h
  simp only [List.mem_append, not_or] at h1 h2
  refine ⟨?_, fun x hx => ?_⟩
  · rw [List.nodup_append]
    refine ⟨a1, ?_, fun x hx y hy e => ?_⟩
    · rw [List.nodup_append]
      refine ⟨by simp [hne], a2, fun x hx y hy e => ?_⟩
      subst e
      simp only [List.mem_cons, List.not_mem_nil, or_false] at hx
      rcases hx with rfl | rfl
      · exact h1.2 hy
      · exact h2.2 hy
    · subst e
      rcases List.mem_append.mp hy with hy | hy
      · simp only [List.mem_cons, List.not_mem_nil, or_false] at hy
        rcases hy with rfl | rfl
        · exact (List.mem_append.mp hx).elim h1.1.1 h1.1.2
        · exact (List.mem_append.mp hx).elim h2.1.1 h2.1.2
      · exact a3 x hx hy
  · rcases List.mem_append.mp hx with hx | hx
    · exact hf x (List.mem_append_left _ hx)
    · rcases List.mem_append.mp hx with hx | hx
      · simp only [List.mem_cons, List.not_mem_nil, or_false] at hx
        rcases hx with rfl | rfl
        · exact h3
        · exact h4
      · exact hf x (List.mem_append_right _ hx)
theorem cycLed_ads {n2 se its stk : Addr} {o2 so : Obj} {e1 e2 : Nat} {fo own : List (Addr × Obj)} {sk : List Ent} : ∀ a, a ∈ cycAds n2 se its stk sk own ∨ a ∈ fo.map (·.1) → a ∈ (cycLed n2 o2 se so its e1 stk e2 fo sk own).map (·.1) := by
  intro a h
  unfold cycLed
  unfold cycAds at h
  simp only [List.map_cons, List.map_append, List.mem_cons, List.mem_append, List.not_mem_nil, or_false] at h ⊢
  rcases h with ((h | h | h | h) | h | h) | h
  · exact .inl h
  · exact .inr (.inl h)
  · exact .inr (.inr (.inl h))
  · exact .inr (.inr (.inr (.inl h)))
  · exact .inr (.inr (.inr (.inr (.inr (.inl h)))))
  · exact .inr (.inr (.inr (.inr (.inr (.inr h)))))
  · exact .inr (.inr (.inr (.inr (.inl h))))
theorem nd_inst {g h : Heap} {d : Nd} (k : ∀ b o, g.get? b = some o → h.get? b = some o) (hd : ∀ q ∈ d.objs, g.get? q.1 = some q.2) :
    InstAt h d.x ⟨.ref 65, some d.dx, .plain, #[some (.str d.nm d.tk), some (.int d.np d.nt), some (.ref d.l)]⟩ 65 (some (PySem.W.dictOf [] 0)) :=
  ⟨k _ _ (hd _ (.head _)), rfl, rfl, k _ _ (hd _ (.tail _ (.head _)))⟩
theorem item_ground {prog : Program} {w : World} {A : Around} {E : Value → Shared → Prop} {s : Shared} {g : Heap} {L d : Addr} {m : Str → Option Value} {od : Obj} {kvs : List (Str × Value)} {k : Str} {t : Tok} {v : Value} {value slice : PySem.Expr} {Q : Value → Shared → Prop}
    (F : Fr g L s.heap m) (hg : g.get? d = some od) (hd : od.IsDictOf (strKind prog w) kvs) (hl : valueAt kvs k = some v) (h : Q v { s with toks := s.toks + 1 })
    (hs : subscripted slice false (.ref d) (.str k t) = operate [.ref d, .str k t] (getItem (.ref d) (.str k t)) := by with_unfolding_all rfl) (hgo : ∀ r, letTemporaryGo value (.ref d) r = pure () := by intro _; with_unfolding_all rfl) :
    wpAny (model prog w) A (subscriptTail value slice (.ref d) (.str k t)) Q E s :=
  have hD : s.heap.DictOf (strKind prog w) d kvs := Heap.dictOf_iff.mpr ⟨od, F.keep _ _ hg, hd⟩
  subscriptTail_builtin hD.typeIs slot_dict_getitem.lookup (wpAny_getItem_of (strKind_is _ _ _ _) hD.mapOf hl h) hs hgo
section
variable {w : World} {A : Around} {E : Value → Shared → Prop} {s : Shared} {h₀ : Heap} {L : Addr} {m : Str → Option Value} {news : List (Addr × Obj)}
theorem iter_ground {l : Addr} {sv : Array Value} {e : Nat} {Q : Value → Shared → Prop} (F : Fr h₀ L s.heap m) (N : News h₀ L s.heap news) (hm : h₀.get? l = some (PySem.W.listOf sv e))
    (h : ∀ I h', Fr h₀ L h' m → News h₀ L h' ((I, itObj l 0) :: news) → (∀ p ∈ news, p.1 < I) → Q (.ref I) { s with heap := h' }) : wpAny (model PR w) A (call (.builtin "iter") [.ref l]) Q E s := by
  refine PySem.Calls.call_function_entry (by decide +kernel) (by decide +kernel) kdk_entry_iter (kdk_args_iter _) ?_
  unfold Builtin.«iter»
  refine wpAny_bind (m := someArgs "iter" 1 2 _) (wpAny_of_eq (a := [Value.ref l]) (by first | rfl | kernel_rfl!) ?_)
  show wpAny _ _ (pyIter (.ref l) >>= _) _ _ _
  refine wpAny_bind (wpAny_pyIter_list (items := sv) ⟨_, F.keep _ _ hm, rfl, _, rfl⟩ ?_)
  exact wpAny_pure ⟨_, rfl, h _ _ (F.push _) (News.push F N _ rfl) fun q hq => Heap.lt_size (N q hq).1⟩
end
/-- the new one on the stack -/
theorem CycOk.push {w : World} {ns : List Nd} {lv : Str → Nat} {o2 o2' so so' : Obj} {sk : List Ent} {V : Str → Bool} {n : Nat} {d : Nd} {tk : Tok} {mw it : Addr} {kvs : List (Str × Value)} {v : Value} (h : CycOk w ns lv o2 so sk V n) (hn : (ns.map (·.nm)).Nodup)
    (hd : d ∈ ns) (hv : V d.nm = false) (hup : ∀ e ∈ sk, lv e.nm < lv d.nm) (hk : kvs.map (·.1) = sk.map (·.nm)) (h2 : o2'.IsDictOf (strKind PR w) (stored kvs d.nm v)) (hs : so'.SetObjOf (strKind PR w) (fun k => V k || decide (k = d.nm)) (n + 1)) :
    CycOk w ns lv o2' so' (sk ++ [⟨d.nm, tk, mw, it, d.l, 0, d.sv⟩]) (fun k => V k || decide (k = d.nm)) (n + 1) := by
  have hoff := h.off hup
  have hva : valueAt kvs d.nm = none := valueAt_keys hk hoff
  refine ⟨⟨_, h2, ?_⟩, hs, ?_, fun e he => ?_, ?_⟩
  · rw [stored_new hva, List.map_append, hk, List.map_append]; rfl
  · have := (filter_set hn hd hv).1
    rw [this, h.cnt]
  · rcases List.mem_append.mp he with he | he
    · obtain ⟨a, b, c⟩ := h.ent e he
      exact ⟨a, by rw [b]; rfl, c⟩
    · rw [List.mem_singleton.mp he]
      exact ⟨⟨d, hd, rfl, rfl, rfl⟩, by simp, Nat.zero_le _⟩
  · rw [List.pairwise_append]
    exact ⟨h.rise, List.pairwise_singleton _ _, fun a ha b hb => by rw [List.mem_singleton.mp hb]; exact hup a ha⟩
theorem cycLeft_push {ns : List Nd} {sk : List Ent} {V : Str → Bool} {d : Nd} {tk : Tok} {mw it : Addr} (hn : (ns.map (·.nm)).Nodup) (hd : d ∈ ns) (hv : V d.nm = false) :
    cycLeft ns (sk ++ [⟨d.nm, tk, mw, it, d.l, 0, d.sv⟩]) (fun k => V k || decide (k = d.nm)) ≤ cycLeft ns sk V := by
  have := (filter_set hn hd hv).2
  unfold cycLeft
  rw [List.map_append, List.sum_append]
  simp only [List.map_cons, List.map_nil, List.sum_cons, List.sum_nil]
  omega
theorem stored_len {kvs : List (Str × Value)} {k : Str} {v : Value} : kvs.length ≤ (stored kvs k v).length := by
  unfold stored; split <;> simp
theorem len_led {prog : Program} {w : World} {A : Around} {E : Value → Shared → Prop} {s : Shared} {h₀ : Heap} {L l : Addr} {news : List (Addr × Obj)} {items : Array Value} {e : Nat} {Q : Value → Shared → Prop}
    (N : News h₀ L s.heap news) (hm : (l, PySem.W.listOf items e) ∈ news) (hfit : items.size ≤ sizeLine) (h : Q (.int items.size (s.toks + 1)) { s with toks := s.toks + 1 + 1 }) : wpAny (model prog w) A (call (.builtin "len") [.ref l]) Q E s :=
  PySem.Calls.call_len_list ⟨_, (N _ hm).1, rfl, _, rfl⟩ (by rw [sizeLine_eq] at hfit; omega) h
section
local macro_rules | `(tactic| k_steps) => `(tactic| (repeat' (first | (k_unfold; (try dsimp only)) | (walk1; (try dsimp only)) | (dsimp only; walk1; (try dsimp only)) | fail "no step")))
local macro_rules | `(tactic| walk_at "call builtin:dict.get") => `(tactic| first
  | (refine dget_some (by with_reducible assumption) (by k_mem) (by with_reducible assumption) (by with_reducible assumption) (by first | with_reducible assumption | (rename (∀ _, valueAt _ _ = some _) => hvv; exact hvv _)) ?_)
  | (refine dget_none (by with_reducible assumption) (by k_mem) (by with_reducible assumption) (by with_reducible assumption) (by first | with_reducible assumption | (rename (∀ _, valueAt _ _ = none) => hvv; exact hvv _)) ?_))
local macro_rules | `(tactic| k_ne) => `(tactic| (refine neN ?_; (try dsimp only); first | exact Df.to (by with_reducible assumption) | exact Df.from (by with_reducible assumption) | omega))
local macro_rules | `(tactic| k_room) => `(tactic| ((try simp only [depth_under_make, depth_under_kw, depth_in1, depth_deeper, depth_caller]); (try dsimp only [ktrTop]); omega))
local macro_rules | `(tactic| walk_at "setItem ref str") => `(tactic| (k_dflt (refine kda_set (knd := PySem.strKind _ _) (by k_asm) (by k_asm) (by k_updF) (by k_asm) (strKind_is _ _ _ _) (by first | with_reducible assumption | (rename (∀ _, List.length _ ≤ sizeLine) => hzz; exact hzz _)) ?_); intro h' o' F' N' hd'; (try dsimp only at N')))
local macro_rules | `(tactic| walk_at "compareOp In str ref") => `(tactic| (k_dflt (refine set_in (by with_reducible assumption) (by k_mem) (by with_reducible assumption) (by with_reducible assumption) (by with_reducible assumption) ?_)))
local macro_rules | `(tactic| walk_at "exec While Constant") => `(tactic| (k_dflt (refine wpAny_While ?_)))
local macro_rules | `(tactic| walk_at "exec While Constant cons nil") => `(tactic| (k_dflt (refine wpAny_While ?_)))
local macro_rules | `(tactic| walk_at "exec While Name") => `(tactic| (k_dflt (refine wpAny_While ?_)))
local macro_rules | `(tactic| walk_at "exec While Name cons cons") => `(tactic| (k_dflt (refine wpAny_While ?_)))
local macro_rules | `(tactic| walk_at "exec While") => `(tactic| (k_dflt (refine wpAny_While ?_)))
local macro_rules | `(tactic| walk_at "compareOp In str ref") => `(tactic| first
  | (k_dflt (refine set_in (by with_reducible assumption) (by k_mem) (by with_reducible assumption) (by with_reducible assumption) (by with_reducible assumption) ?_))
  | (k_dflt (refine kda_in (knd := PySem.strKind _ _) (by with_reducible assumption) (by k_mem) (by with_reducible assumption) (by with_reducible assumption) (strKind_is _ _ _ _) _ (by with_reducible assumption) ?_)))
local macro_rules | `(tactic| walk_at "call builtin:set.add") => `(tactic| (k_dflt (refine kse_add (knd := PySem.strKind _ _) (by k_asm) (by k_asm) (by k_updF) (by k_asm) (by unfold scanBound; omega) (strKind_is _ _ _ _) rfl ?_); intro h' so' F' N' hd'; (try dsimp only at N')))
local macro_rules | `(tactic| k_all) => `(tactic| with_reducible assumption)
local macro_rules | `(tactic| walk_at "subscriptTail") => `(tactic| (k_dflt (refine item_ground (by with_reducible assumption) (by with_reducible assumption) (by with_reducible assumption) (by with_reducible assumption) ?_)))
local macro_rules | `(tactic| walk_at "call builtin:iter") => `(tactic| (k_dflt (refine iter_ground (by with_reducible assumption) (by with_reducible assumption) (by with_reducible assumption) ?_); intro I' h' F' N' l1; (try k_lt l1)))
local macro_rules | `(tactic| walk_at "getAttr ref") => `(tactic| first
  | ((with_reducible show wpAny _ _ (getAttr (Value.ref _) (Str.ofString "__next__") _) _ _ _); (k_dflt (refine next_led (by with_reducible assumption) (by with_reducible assumption) (by k_mem) ?_)); intro M' h' F' N' l1; (try k_lt l1))
  | ((with_reducible show wpAny _ _ (getAttr (Value.ref _) (Str.ofString "successors") _) _ _ _); (k_dflt (refine get_slot (by with_reducible assumption) (by with_reducible assumption) (by exact nd_inst (Fr.keep (by with_reducible assumption)) (by with_reducible assumption)) (by k_is) (by k_is) (by k_is) (by k_is) (by k_is) (by k_is) (by k_slotget) (by k_handed) ?_; k_whole))))
local macro_rules | `(tactic| walk_at "call builtin:list.append") => `(tactic| (k_dflt (refine append_K (by with_reducible assumption) (by with_reducible assumption) (by k_upd) ?_ (by with_reducible assumption)); intro h' F' N'; (try dsimp only at N')))
local macro_rules | `(tactic| walk_at "call builtin:len") => `(tactic| (k_dflt (refine len_led (by with_reducible assumption) (by k_mem) (by with_reducible assumption) ?_)))

theorem cyc_if {w : World} {dp un : Nat} {gd : Option (List Code)} {qual : Str} {sc cs : Scope} {f : Addr} {cdv : Value} {outer : List Env} {g : Heap} {L : Addr} {m : Str → Option Value} {s : Shared} {p : Program} {loose : List Str} {mean : ExcName → Option Value} {mg mb : Str → Option Value}
    {ns : List Nd} {lv : Str → Nat} {d n2 se its stk : Addr} {od o2 so : Obj} {sk : List Ent} {e1 e2 n : Nat} {V : Str → Bool} {fo own : List (Addr × Obj)} {nd : Nd} {tN : Tok}
    (F : Fr g L s.heap m) (X : (Mine.hd.heap_1 w.params).In g) (T : Top p loose mean mg mb g)
    (N : News g L s.heap (cycLed n2 o2 se so its e1 stk e2 fo sk own))
    (m1 : m "itstack" = some (.ref its)) (m2 : m "stack" = some (.ref stk)) (m3 : m "node2stacki" = some (.ref n2)) (m4 : m "n2i" = some (.ref d)) (m5 : m "seen" = some (.ref se)) (m6 : m "node" = some (.str nd.nm tN))
    (hC : CycOk w ns lv o2 so sk V n) (lo : (n2 == sysModules) = false) (lod : (d == sysModules) = false) (hgd : g.get? d = some od) (hod : od.IsDictOf (strKind PR w) (kvsOf ns)) (hg : ∀ q ∈ nd.objs, g.get? q.1 = some q.2) (hz : ns.length ≤ 1000) (hnn : (ns.map (·.nm)).Nodup)
    (hnd : nd ∈ ns) (hup : ∀ e ∈ sk, lv e.nm < lv nd.nm)
    (hcs : cs = cycSc w sc) (hdp : dp + 38 < recursionLimit) (hun : un + 390 < cLine) (hna : CycAp n2 se its stk fo sk own) {Q : Flow → Shared → Prop} {E : Value → Shared → Prop}
    (hQ : ∀ h' tk sk' o2' so' e1' e2' V' n', Fr g L h' m → CycOk w ns lv o2' so' sk' V' n' → cycLeft ns sk' V' ≤ cycLeft ns sk V → CycAp n2 se its stk fo sk' own → News g L h' (cycLed n2 o2' se so' its e1' stk e2' fo sk' own) → Q .next { s with heap := h', toks := tk }) :
    wpAny (model PR w) (ktrTop dp un gd qual cs L f cdv [] outer) (exec (cycIf w) (envOf qual cs L f cdv)) Q E s := by
  unfold cycIf cycBody
  with_unfolding_all (conv in headS _ => whnf)
  unfold cycSc at hcs
  with_unfolding_all (conv at hcs => rhs; whnf)
  subst hcs
  have hpin : ∀ p ∈ [(Str.ofString "itstack", Value.ref its), (Str.ofString "stack", .ref stk), (Str.ofString "node2stacki", .ref n2), (Str.ofString "n2i", .ref d), (Str.ofString "seen", .ref se), (Str.ofString "node", .str nd.nm tN)], m p.1 = some p.2 := by
    intro p hp; simp only [List.mem_cons, List.not_mem_nil, or_false] at hp; rcases hp with rfl | rfl | rfl | rfl | rfl | rfl <;> assumption
  have hpe := pins_eq _ hpin
  have F₂ := fr_pins F _ hpin
  have hset := hC.set
  have hnle : n ≤ 1000 := hC.small hz
  obtain ⟨kv2, hkv, hkeys⟩ := hC.dict
  have hn2 : (valueAt kv2 nd.nm).isSome = false := by rw [valueAt_keys hkeys (hC.off hup)]; rfl
  obtain ⟨hdf, htl⟩ := cyc_top hna
  simp only [Apart, NotAt, and_true] at hdf
  obtain ⟨⟨z1, z2, z3⟩, ⟨z4, z5⟩, z6⟩ := hdf
  have ht1 := htl n2 (by simp)
  have ht2 := htl se (by simp)
  have ht3 := htl its (by simp)
  have ht4 := htl stk (by simp)
  clear F htl
  cases hv2 : V nd.nm with
  | true =>
    unfold cycLed at N
    k_unmd
    k_steps
    exact hQ _ _ sk _ _ _ _ _ _ (fr_eq F₂ (congrFun hpe)) hC (Nat.le_refl _) hna N
  | false =>
    have hvd : valueAt (kvsOf ns) nd.nm = some (.ref nd.x) := valueAt_mem hnn hnd
    have hskl : sk.length ≤ 1000 := Nat.le_trans hC.len hz
    have hlst : g.get? nd.l = some (PySem.W.listOf nd.sv nd.se) := hg _ (.tail _ (.tail _ (.head _)))
    have hzs1 : (itsOf sk).size ≤ sizeLine := by rw [sizeLine_eq]; unfold itsOf; simp; omega
    have hzs2 : (stkOf sk).size ≤ sizeLine := by rw [sizeLine_eq]; unfold stkOf; simp; omega
    have hzs3 : kv2.length ≤ sizeLine := by
      have := congrArg List.length hkeys
      simp at this; rw [sizeLine_eq]; omega
    unfold cycLed at N
    k_unmd
    k_steps
    rename_i tkc hc5 so5 Fc5 Nc5 hs5 tkb I' hc4 Fc4 Nc4 lI M' hc3 Fc3 Nc3 lM hc2 Fc2 Nc2 tka hc1 o5 Fc1 Nc1 hd5 hc0 Fc0 Nc0
    rw [if_neg (by rw [hv2]; simp)] at hs5
    have off : ∀ a : Nat, @LT.lt Nat _ n2 a → @LT.lt Nat _ se a → @LT.lt Nat _ its a → @LT.lt Nat _ stk a → AllLt a (fo ++ (List.flatMap Ent.objs sk ++ own)) → ¬ (a ∈ cycAds n2 se its stk sk own ∨ a ∈ fo.map (·.1)) := fun a h1 h2 h3 h4 h5 hm => by
      replace hm := cycLed_ads (o2 := o2) (so := so) (e1 := e1) (e2 := e2) a hm
      obtain ⟨q, hq, hqe⟩ := List.mem_map.mp hm
      have h5' := allLt_back h5
      unfold cycLed at hq
      simp only [List.mem_cons] at hq
      rcases hq with rfl | rfl | rfl | rfl | hq
      · exact Nat.lt_irrefl _ (hqe ▸ h1)
      · exact Nat.lt_irrefl _ (hqe ▸ h2)
      · exact Nat.lt_irrefl _ (hqe ▸ h3)
      · exact Nat.lt_irrefl _ (hqe ▸ h4)
      · have := h5' q hq; rw [hqe] at this; exact Nat.lt_irrefl _ this
    have offI := off I' lI.1 lI.2.1 lI.2.2.1 lI.2.2.2.1 lI.2.2.2.2
    have offM := off M' lM.2.1 lM.2.2.1 lM.2.2.2.1 lM.2.2.2.2.1 lM.2.2.2.2.2
    refine hQ _ _ (sk ++ [⟨nd.nm, tN, M', I', nd.l, 0, nd.sv⟩]) o5 so5 (e1 + 1) (e2 + 1) _ (n + 1) (fr_eq Fc0 (congrFun hpe)) (hC.push hnn hnd hv2 hup hkeys hd5 hs5) (cycLeft_push hnn hnd hv2) (cycAds_push hna (Nat.ne_of_gt lM.1) (fun h => offM (.inl h)) (fun h => offI (.inl h)) (fun h => offM (.inr h)) (fun h => offI (.inr h))) (fun q hq => Nc0 q ?_)
    have := (cycLed_perm q).mp hq
    rw [itsOf_snoc, stkOf_snoc] at this
    simp only [List.mem_cons, List.mem_append] at this ⊢
    rcases this with h | h | h | h | h | (h | h | h) | h <;> simp [h]
end

end
section

noncomputable def cycFor (w : World) : List Stmt := inner 5 (cycBody w)
section
local macro_rules | `(tactic| k_steps) => `(tactic| (repeat' (first | (k_unfold; (try dsimp only)) | (walk1; (try dsimp only)) | (dsimp only; walk1; (try dsimp only)) | fail "no step")))
local macro_rules | `(tactic| walk_at "compareOp In str ref") => `(tactic| (k_dflt (refine set_in (by with_reducible assumption) (by k_mem) (by with_reducible assumption) (by with_reducible assumption) (by with_reducible assumption) ?_)))
local macro_rules | `(tactic| walk_at "exec While Constant") => `(tactic| (k_dflt (refine wpAny_While ?_)))
local macro_rules | `(tactic| walk_at "exec While Constant cons nil") => `(tactic| (k_dflt (refine wpAny_While ?_)))
theorem cyc_outer {w : World} {dp un : Nat} {gd : Option (List Code)} {qual : Str} {sc cs : Scope} {f : Addr} {cdv : Value} {outer : List Env} {base g : Heap} {L : Addr} {m : Str → Option Value} {s : Shared} {p : Program} {loose : List Str} {mean : ExcName → Option Value} {mg mb : Str → Option Value}
    {ns : List Nd} {lv : Str → Nat} {d n2 se its stk : Addr} {od o2 so : Obj} {e1 e2 n : Nat} {V : Str → Bool} {fo own : List (Addr × Obj)} {nd : Nd} {tN : Tok}
    (F : Fr g L s.heap m) (X : (Mine.hd.heap_1 w.params).In g) (T : Top p loose mean mg mb g) (st : base.StaysIn g) (hok : FoOk base outer fo)
    (N : News g L s.heap (cycLed n2 o2 se so its e1 stk e2 fo [] own))
    (m1 : m "itstack" = some (.ref its)) (m2 : m "stack" = some (.ref stk)) (m3 : m "node2stacki" = some (.ref n2)) (m4 : m "n2i" = some (.ref d)) (m5 : m "seen" = some (.ref se)) (m6 : m "node" = some (.str nd.nm tN))
    (hC : CycOk w ns lv o2 so [] V n) (lo : (n2 == sysModules) = false) (lod : (d == sysModules) = false) (hgd : g.get? d = some od) (hod : od.IsDictOf (strKind PR w) (kvsOf ns)) (hg : ∀ d ∈ ns, ∀ q ∈ d.objs, g.get? q.1 = some q.2) (hz : ns.length ≤ 1000) (hnn : (ns.map (·.nm)).Nodup)
    (hlv : ∀ d ∈ ns, ∀ c ∈ d.sv.toList, ∃ x t, c = .str x t ∧ lv d.nm < lv x ∧ ∃ e ∈ ns, e.nm = x)
    (hnd : nd ∈ ns) (hcs : cs = cycSc w sc) (hdp : dp + 38 < recursionLimit) (hun : un + 390 < cLine) (hna : CycAp n2 se its stk fo [] own) {Q : Flow → Shared → Prop} {E : Value → Shared → Prop}
    (hQ : ∀ fl h' tk m' o2' so' e1' e2' V' n' fo', fl = .next ∨ fl = .cont → Fr g L h' m' → (∀ y, y ≠ Str.ofString "node" → m' y = m y) → CycOk w ns lv o2' so' [] V' n' → Slots fo fo' → News g L h' (cycLed n2 o2' se so' its e1' stk e2' fo' [] own) → Q fl { s with heap := h', toks := tk }) :
    wpAny (model PR w) (ktrTop dp un gd qual cs L f cdv [] outer) (execs (cycFor w) (envOf qual cs L f cdv)) Q E s := by
  have hcs' := hcs
  unfold cycFor cycBody
  with_unfolding_all (conv in inner _ _ => whnf)
  unfold cycSc at hcs
  with_unfolding_all (conv at hcs => rhs; whnf)
  subst hcs
  have hpin : ∀ p ∈ [(Str.ofString "seen", Value.ref se), (Str.ofString "node", .str nd.nm tN)], m p.1 = some p.2 := by
    intro p hp; simp only [List.mem_cons, List.not_mem_nil, or_false] at hp; rcases hp with rfl | rfl <;> assumption
  have hpe := pins_eq _ hpin
  have F₂ := fr_pins F _ hpin
  have hset := hC.set
  have hnle : n ≤ 1000 := hC.small hz
  clear F
  cases hv2 : V nd.nm with
  | true =>
    unfold cycLed at N
    k_unmd
    k_steps
    exact hQ _ _ _ _ _ _ _ _ _ _ fo (.inr rfl) (fr_eq F₂ (congrFun hpe)) (fun _ _ => rfl) hC (Slots.refl fo) N
  | false =>
    have N₁ := N
    unfold cycLed at N
    k_unmd
    k_steps
    have hS0 := Slots.refl fo
    refine whileJ (R := _) (fr_eq F₂ (congrFun hpe)) N₁ (fun μ m' news' => (∀ y, y ≠ Str.ofString "node" → m' y = m y) ∧ ∃ (nd' : Nd) (t' : Tok) (sk : List Ent) (o2' so' : Obj) (e1' e2' : Nat) (V' : Str → Bool) (n' : Nat) (fo' : List (Addr × Obj)), m' (Str.ofString "node") = some (.str nd'.nm t') ∧ nd' ∈ ns ∧ (∀ e ∈ sk, lv e.nm < lv nd'.nm) ∧ CycOk w ns lv o2' so' sk V' n' ∧ cycLeft ns sk V' = μ ∧
      Slots fo fo' ∧ CycAp n2 se its stk fo' sk own ∧ news' = cycLed n2 o2' se so' its e1' stk e2' fo' sk own) _ ⟨fun _ _ => rfl, nd, tN, [], o2, so, e1, e2, V, n, fo, m6, hnd, (fun _ h => nomatch h), hC, rfl, hS0, hna, rfl⟩ ?turn
    intro μ m' news' h tk hpat F' N'
    obtain ⟨hm', nd', t', sk, o2', so', e1', e2', V', n', fo', m6', hnd', hup, hC', hμ, hS, hna', rfl⟩ := hpat
    have ne : ∀ x : Str, x ≠ Str.ofString "node" → ∀ v, m x = some v → m' x = some v := fun x hx v h => (hm' x hx).trans h
    clear F₂ N N₁
    k_unmd
    repeat' (first | (k_unfold; (try dsimp only)) | ((fail_if_success (with_reducible show wpAny _ _ (execs (Stmt.If _ _ _ _ :: _) _) _ _ _)); first | (walk1; (try dsimp only)) | (dsimp only; walk1; (try dsimp only))) | fail "no step")
    refine wpAny_execs_cons ?_
    have key := fun Q E => cyc_if (sc := sc) (qual := qual) (dp := dp) (un := un) (gd := gd) (f := f) (cdv := cdv) (outer := outer) (Q := Q) (E := E) F' X T (s := { s with heap := h, toks := tk }) N' (ne _ (by decide) _ m1) (ne _ (by decide) _ m2) (ne _ (by decide) _ m3) (ne _ (by decide) _ m4) (ne _ (by decide) _ m5) m6'
      hC' lo lod hgd hod (hg nd' hnd') hz hnn hnd' hup hcs' hdp hun hna'
    with_unfolding_all refine key _ _ ?_
    intro h₂ tk₂ sk₂ o2₂ so₂ e1₂ e2₂ V₂ n₂ F₂ hC₂ hl₂ hna₂ N₂
    dsimp only
    have key2 := fun Q E => cyc_while (sc := sc) (qual := qual) (dp := dp) (un := un) (gd := gd) (f := f) (cdv := cdv) (Q := Q) (E := E) F₂ X T st (hS.ok hok) (s := { s with heap := h₂, toks := tk₂ }) N₂ (ne _ (by decide) _ m1) (ne _ (by decide) _ m2) (ne _ (by decide) _ m3)
      hC₂ lo (fun d hd => hg d hd _ (.tail _ (.tail _ (.head _)))) hz hnn hlv hcs' hdp hun hna₂
    with_unfolding_all refine key2 _ _ ?found ?empty
    case found =>
      intro h₃ tk₃ m₃ x t sk₃ o2₃ e1₃ e2₃ fo₃ F₃ hx hm₃ hex hne hup₃ hC₃ hl₃ hS₃ hna₃ N₃
      obtain ⟨nd₃, hnd₃, rfl⟩ := hex
      exact turnOk_ (cycLed n2 o2₃ se so₂ its e1₃ stk e2₃ fo₃ sk₃ own) F₃ N₃ (fun q hq => by simpa using hq) (fun q hq hm => nomatch hm) ⟨cycLeft ns sk₃ V₂, by omega, fun y hy => (hm₃ y hy).trans (hm' y hy), nd₃, t, sk₃, o2₃, so₂, e1₃, e2₃, V₂, n₂, fo₃, hx, hnd₃, hup₃, hC₃, rfl, hS.trans hS₃, hna₃, rfl⟩
    case empty =>
      intro h₃ tk₃ o2₃ e1₃ e2₃ fo₃ F₃ hC₃ hS₃ N₃
      show wpAny _ _ (execs [] _) Q E _
      exact wpAny_execs_nil (hQ _ _ _ _ _ _ _ _ _ _ fo₃ (.inl rfl) F₃ hm' hC₃ (hS.trans hS₃) N₃)
end

end
section
section
variable {prog : Program} {w : World} {A : Around} {s : Shared} {h₀ : Heap} {env : Env}
theorem forDictG {E : Value → Shared → Prop} {R : Result → Shared → Prop} {x : Str} {pos : Pos} {body : List Stmt} {d : Addr} {od : Obj} {kvs : List (Str × Value)} {m : Str → Option Value}
    {news : List (Addr × Obj)} (hh : A.handled = none) (hm : s.heap.get? d = some od) (hdL : env.locals ≠ d) (hd : od.IsDictOf (strKind prog w) kvs) (lo : (d == sysModules) = false)
    (F : Fr h₀ env.locals s.heap m) (N : News h₀ env.locals s.heap news)
    (J : Nat → (Str → Option Value) → List (Addr × Obj) → Prop) (h0 : J 0 m news)
    (turn : ∀ I i k t x' m₁ news₁ own h tk, ItAt h₀ env.locals I news → kvs[i]? = some (k, x') → J i m₁ news₁ → (∀ p ∈ news₁, p.1 ≠ I) → (∀ p ∈ own, p.1 = I ∨ p.1 = d) →
      Fr h₀ env.locals h m₁ → News h₀ env.locals h (news₁ ++ own) →
      wpAny (model prog w) A (assign (.Name x pos) env (.str k t)) (fun _ s₂ => wpAny (model prog w) A (execs body env) (TurnEnd h₀ env.locals own [I] (J (i + 1)) s R) NoE s₂) NoE { s with heap := h, toks := tk })
    (done : ∀ h' tk m' news', Fr h₀ env.locals h' m' → News h₀ env.locals h' news' → J kvs.length m' news' → R (.ok .next) { s with heap := h', toks := tk }) :
    wpAny (model prog w) A (pyIter (.ref d)) (fun it s₂ => codeAny (model prog w) A (.forLoop (.Name x pos) it body [] env) R s₂) E s := by
  obtain ⟨ep, hat⟩ := KdkAt.of hd
  have hlt : d ≠ s.heap.objs.size := Nat.ne_of_lt (Heap.lt_size hm)
  refine wpAny_pyIter_dict lo (hat.dictAt hm) ?_
  exact forPush (Walks.dictKeys (knd := strKind prog w) hh _ d hlt kvs ep) (fun i v s' Q E hP hst hq => wpAny_pure hq) (fun h => hdL (List.mem_singleton.mp h)) ⟨⟨_, Heap.get?_push_size _ rfl, rfl, rfl⟩, hat.dictAt (Heap.get?_push_of_some _ hm)⟩ F N J h0
    (fun I i v m₁ news₁ own h tk hI hi hP hJ hw ho hst' F' N' => by
      obtain ⟨k, x', hx, hk⟩ := hP
      obtain ⟨t, rfl⟩ := Value.isStrOf_shape hk
      exact turn I i k t x' m₁ news₁ own h tk hI hx hJ hw (fun p hp => (ho p hp).imp id List.mem_singleton.mp) F' N') done
end
local macro_rules | `(tactic| k_steps) => `(tactic| (repeat' (first | (k_unfold; (try dsimp only)) | (walk1; (try dsimp only)) | (dsimp only; walk1; (try dsimp only)) | fail "no step")))
local macro_rules | `(tactic| walk_at "call builtin:dict.get") => `(tactic| first
  | (refine dget_some (by with_reducible assumption) (by k_mem) (by with_reducible assumption) (by with_reducible assumption) (by first | with_reducible assumption | (rename (∀ _, valueAt _ _ = some _) => hvv; exact hvv _)) ?_)
  | (refine dget_none (by with_reducible assumption) (by k_mem) (by with_reducible assumption) (by with_reducible assumption) (by first | with_reducible assumption | (rename (∀ _, valueAt _ _ = none) => hvv; exact hvv _)) ?_))
local macro_rules | `(tactic| k_ne) => `(tactic| (refine neN ?_; (try dsimp only); first | exact Df.to (by with_reducible assumption) | exact Df.from (by with_reducible assumption) | omega))
local macro_rules | `(tactic| k_room) => `(tactic| ((try simp only [depth_under_make, depth_under_kw, depth_in1, depth_deeper, depth_caller]); (try dsimp only [ktrTop]); omega))
local macro_rules | `(tactic| walk_at "setItem ref str") => `(tactic| (k_dflt (refine kda_set (knd := PySem.strKind _ _) (by k_asm) (by k_asm) (by k_updF) (by k_asm) (strKind_is _ _ _ _) (by first | with_reducible assumption | (rename (∀ _, List.length _ ≤ sizeLine) => hzz; exact hzz _)) ?_); intro h' o' F' N' hd'; (try dsimp only at N')))

local macro_rules | `(tactic| k_all) => `(tactic| with_reducible assumption)
local macro_rules | `(tactic| walk_at "exec For Name Name cons nil") => `(tactic| refine wpAny_For ?_)
local macro_rules | `(tactic| walk_at "exec For Name Attribute cons nil") => `(tactic| (k_dflt (refine wpAny_For ?_)))
local macro_rules | `(tactic| walk_at "subscriptTail") => `(tactic| (k_dflt (refine kda_item (knd := PySem.strKind _ _) (by with_reducible assumption) (by k_mem) (by with_reducible assumption) (strKind_is _ _ _ _) (by with_reducible assumption) ?_)))
local macro_rules | `(tactic| walk_at "call type:tuple") => `(tactic| (k_dflt (refine tuple_made (by with_reducible assumption) (by with_reducible assumption) (by k_mem) (by with_reducible assumption) ?_); intro D' h' F' N' l1 l2; (try k_lt l1); (try k_sweep)))

theorem cycle_spec {w : World} {S : Srt} {r : Addr} {rs : Array Value} {re b : Nat} {ns : List Nd} {lv : Str → Nat} (W : Wf2 w S r ns b) (hb : b ≤ 1000)
    (hlv : ∀ d ∈ ns, ∀ c ∈ d.sv.toList.map strOf, lv d.nm < lv c ∧ ∃ e ∈ ns, e.nm = c) :
    ContractS w 2 152 [.ref S.self] (fun _ => True) (led4 S r rs re ns) (fun news v => (∀ q ∈ led4 S r rs re ns, q ∈ news) ∧ v = .none) := by
  have x1 := tail_off W.wf (a := S.self) (by simp [Srt.ads])
  have x2 := tail_off W.wf (a := S.sd) (by simp [Srt.ads])
  have x3 := tail_off W.wf (a := S.d) (by simp [Srt.ads])
  have x4 := off_of (S := S) W.rN
  have hnd : Apart [S.self, S.sd, S.d, r] := by
    have := apart_of (l := S.ads ++ [r]) (by rw [List.nodup_append]; exact ⟨W.wf.apS, by simp, fun a ha c hc e => by rw [List.mem_singleton.mp hc] at e; exact W.rS (e ▸ ha)⟩)
    exact this
  have hlv' : ∀ d ∈ ns, ∀ c ∈ d.sv.toList, ∃ x t, c = .str x t ∧ lv d.nm < lv x ∧ ∃ e ∈ ns, e.nm = x := fun d hd c hc => by
    obtain ⟨x, t, rfl⟩ := W.wf.txt d hd c hc
    obtain ⟨h1, h2⟩ := hlv d hd x (List.mem_map.mpr ⟨_, hc, rfl⟩)
    exact ⟨x, t, rfl, h1, h2⟩
  have hrv := W.rv
  have hd := W.wf.dict
  have lo := W.wf.lo
  obtain ⟨self, sd, d, h1, h2, h3, h4, t1, t2, t3, t4, ae, od, rv, po, nf, pt, ft⟩ := S
  dsimp only at x1 x2 x3 hnd hrv hd lo
  subst hrv
  simp only [Apart, NotAt, and_true] at hnd
  obtain ⟨⟨z1, z2, z3⟩, ⟨z4, z5⟩, z6⟩ := hnd
  refine contractS_of (by decide) (fun _ _ _ _ => trivial) (by with_unfolding_all rfl) (by with_unfolding_all rfl) [(Str.ofString "self", .ref self)] (fun s X => BindsTo.of_eq rfl) (locs rfl) rfl rfl rfl (by decide) ?_
  intro dp un gd outer A base gB L' h₁ p loose mean mg mb s BB FB XB NB TB hdp hun hpr hlt
  replace hdp : dp + 38 < recursionLimit := by omega
  replace hun : un + 390 < cLine := by omega
  obtain ⟨g, fo, O⟩ := open_frames BB FB XB TB NB
  have F := O.F
  have X := O.X
  have T := O.T
  have N := O.N
  have hfoL : ∀ q ∈ fo, @LT.lt Nat _ q.1 L' := fun q hq => Nat.lt_of_lt_of_le (Heap.lt_size (O.fo q hq)) FB.above
  have hlt0 := hlt
  simp only [led4, Srt.objs, Srt.attrs, List.cons_append, List.nil_append] at N hlt
  k_lt hlt
  have hltR := hfoL
  k_unmd
  k_fold
  k_steps
  rename Fr _ _ _ _ => F
  rename News _ _ _ _ => N
  rename_i tk4 hp8 tk3 stk hp7 l1a hp6 tk2 its hp5 l1b hp4 tk1 se hp3 led9 hsI hso l1c hp2 tk0 n2 hp1 o2 lo2 ho2 fs2 hi2 fi2 l1d hp0
  have hW := W.wf
  have hnames := hW.names
  have hobj : ∀ q ∈ led4 ⟨self, sd, d, h1, h2, h3, h4, t1, t2, t3, t4, ae, od, .ref r, po, nf, pt, ft⟩ r rs re ns, gB.get? q.1 = none := fun q hq => (NB q hq).2.2
  have hfoB : ∀ q ∈ fo, gB.get? q.1 = some q.2 := O.fo
  have hlS : ∀ q ∈ led4 ⟨self, sd, d, h1, h2, h3, h4, t1, t2, t3, t4, ae, od, .ref r, po, nf, pt, ft⟩ r rs re ns, @LT.lt Nat _ q.1 stk := fun q hq => by
    simp only [led4, Srt.objs, List.cons_append, List.nil_append, List.mem_cons] at hq
    rcases hq with rfl | rfl | rfl | rfl | hq
    · exact l1a.1
    · exact l1a.2.1
    · exact l1a.2.2.1
    · exact l1a.2.2.2.1
    · exact allLt_back l1a.2.2.2.2 q (List.mem_append_left _ hq)
  have hfS : ∀ q ∈ fo, @LT.lt Nat _ q.1 stk := fun q hq => allLt_back l1a.2.2.2.2 q (List.mem_append_right _ hq)
  have hst1 : @LT.lt Nat _ stk its := l1b.1
  have hst2 : @LT.lt Nat _ its se := l1c.1
  have hst3 : @LT.lt Nat _ se n2 := l1d.1
  obtain ⟨g', RB⟩ := rebase (p := p) (loose := loose) (mean := mean) (mg := mg) (mb := mb) (below_caller g) F X T N (cycLed n2 o2 se { cls := .type "set", data := .set #[] 0 (.fresh 0 0 led9) } its 0 stk 0 fo [] [])
    (led4 ⟨self, sd, d, h1, h2, h3, h4, t1, t2, t3, t4, ae, od, .ref r, po, nf, pt, ft⟩ r rs re ns) (fun q hq => by
      unfold cycLed at hq
      simp only [List.flatMap_nil, List.nil_append, List.append_nil, List.mem_cons, List.mem_append] at hq ⊢
      rcases hq with h | h | h | h | h
      · exact .inl h
      · exact .inr (.inl h)
      · exact .inr (.inr (.inl h))
      · exact .inr (.inr (.inr (.inl h)))
      · exact .inr (.inr (.inr (.inr (.inr (.inr (.inr (.inr (.inr h)))))))))
    (fun q hq => by
      simp only [led4, Srt.objs, Srt.attrs, List.cons_append, List.nil_append, List.mem_cons, List.mem_append] at hq ⊢
      rcases hq with h | h | h | h | h
      · exact .inr (.inr (.inr (.inr (.inl h))))
      · exact .inr (.inr (.inr (.inr (.inr (.inl h)))))
      · exact .inr (.inr (.inr (.inr (.inr (.inr (.inl h))))))
      · exact .inr (.inr (.inr (.inr (.inr (.inr (.inr (.inl h)))))))
      · exact .inr (.inr (.inr (.inr (.inr (.inr (.inr (.inr (.inl h)))))))))
    (fun q hq => hlt0 q hq)
    (fun q hq hm => by
      have h0 := hlS q hq
      unfold cycLed at hm
      simp only [List.flatMap_nil, List.nil_append, List.append_nil, List.map_cons, List.mem_cons] at hm
      rcases hm with h | h | h | h | h
      · rw [h] at h0; exact Nat.lt_irrefl _ (Nat.lt_trans h0 (Nat.lt_trans hst1 (Nat.lt_trans hst2 hst3)))
      · rw [h] at h0; exact Nat.lt_irrefl _ (Nat.lt_trans h0 (Nat.lt_trans hst1 hst2))
      · rw [h] at h0; exact Nat.lt_irrefl _ (Nat.lt_trans h0 hst1)
      · rw [h] at h0; exact Nat.lt_irrefl _ h0
      · obtain ⟨q', hq', hqe⟩ := List.mem_map.mp h
        have := hfoB q' hq'
        rw [hqe, hobj q hq] at this; cases this)
  have hgo : ∀ q ∈ led4 ⟨self, sd, d, h1, h2, h3, h4, t1, t2, t3, t4, ae, od, .ref r, po, nf, pt, ft⟩ r rs re ns, g'.get? q.1 = some q.2 := RB.rest
  have hgd : g'.get? d = some od := hgo (d, od) (by simp [led4, Srt.objs])
  have hgn : ∀ e ∈ ns, ∀ q ∈ e.objs, g'.get? q.1 = some q.2 := fun e he q hq => hgo q (List.mem_append_right _ (.tail _ (List.mem_flatMap.mpr ⟨e, he, hq⟩)))
  have st' : base.StaysIn g' := fun b o e => RB.up _ _ (O.st b o e)
  have hdL : @LT.lt Nat _ d L' := hlt0 (d, od) (by simp [led4, Srt.objs])
  have hap0 : ∀ I : Addr, ItAt g' L' I (cycLed n2 o2 se { cls := .type "set", data := .set #[] 0 (.fresh 0 0 led9) } its 0 stk 0 fo [] []) → ∀ own : List (Addr × Obj), own.map (·.1) = [] ∨ own.map (·.1) = [I] → CycAp n2 se its stk fo [] own := by
    intro I hI own hown
    have i1 : @LT.lt Nat _ n2 I := hI.led _ (.head _)
    have i5 : ∀ q ∈ fo, @LT.lt Nat _ q.1 I := fun q hq => hI.led q (.tail _ (.tail _ (.tail _ (.tail _ (List.mem_append_left _ hq)))))
    have q1 : ¬ its = stk := Nat.ne_of_gt hst1
    have q2 : ¬ se = its := Nat.ne_of_gt hst2
    have q3 : ¬ n2 = se := Nat.ne_of_gt hst3
    have q4 : ¬ se = stk := Nat.ne_of_gt (Nat.lt_trans hst1 hst2)
    have q5 : ¬ n2 = its := Nat.ne_of_gt (Nat.lt_trans hst2 hst3)
    have q6 : ¬ n2 = stk := Nat.ne_of_gt (Nat.lt_trans hst1 (Nat.lt_trans hst2 hst3))
    have q7 : ¬ n2 = I := Nat.ne_of_lt i1
    have q8 : ¬ se = I := Nat.ne_of_lt (Nat.lt_trans hst3 i1)
    have q9 : ¬ its = I := Nat.ne_of_lt (Nat.lt_trans hst2 (Nat.lt_trans hst3 i1))
    have q0 : ¬ stk = I := Nat.ne_of_lt (Nat.lt_trans hst1 (Nat.lt_trans hst2 (Nat.lt_trans hst3 i1)))
    have f0 : ∀ a : Nat, @LE.le Nat _ stk a → a ∉ fo.map (·.1) := fun a ha hm => by
      obtain ⟨q, hq, hqe⟩ := List.mem_map.mp hm
      have := hfS q hq
      rw [hqe] at this
      exact Nat.lt_irrefl _ (Nat.lt_of_lt_of_le this ha)
    have l1 : @LE.le Nat _ stk its := Nat.le_of_lt hst1
    have l2 : @LE.le Nat _ stk se := Nat.le_of_lt (Nat.lt_trans hst1 hst2)
    have l3 : @LE.le Nat _ stk n2 := Nat.le_of_lt (Nat.lt_trans hst1 (Nat.lt_trans hst2 hst3))
    have l4 : @LE.le Nat _ stk I := Nat.le_trans l3 (Nat.le_of_lt i1)
    unfold CycAp cycAds
    rcases hown with h | h
    · rw [h]
      simp only [List.flatMap_nil, List.map_nil, List.append_nil, List.nodup_cons, List.mem_cons, List.not_mem_nil, or_false, not_or]
      refine ⟨⟨⟨q3, q5, q6⟩, ⟨q2, q4⟩, q1, fun h => h, List.nodup_nil⟩, fun a ha => ?_⟩
      rcases ha with rfl | rfl | rfl | rfl
      · exact f0 _ l3
      · exact f0 _ l2
      · exact f0 _ l1
      · exact f0 _ (Nat.le_refl _)
    · rw [h]
      simp only [List.flatMap_nil, List.map_nil, List.nil_append, List.cons_append, List.nodup_cons, List.mem_cons, List.not_mem_nil, or_false, not_or]
      refine ⟨⟨⟨q3, q5, q6, q7⟩, ⟨q2, q4, q8⟩, ⟨q1, q9⟩, q0, fun h => h, List.nodup_nil⟩, fun a ha => ?_⟩
      rcases ha with rfl | rfl | rfl | rfl | rfl
      · exact f0 _ l3
      · exact f0 _ l2
      · exact f0 _ l1
      · exact f0 _ (Nat.le_refl _)
      · exact f0 _ l4
  obtain ⟨m0, F1, p1, p2, p3, p4, p5⟩ : ∃ m0, Fr g' L' hp0 m0 ∧ m0 (Str.ofString "itstack") = some (.ref its) ∧ m0 (Str.ofString "stack") = some (.ref stk) ∧ m0 (Str.ofString "node2stacki") = some (.ref n2) ∧ m0 (Str.ofString "n2i") = some (.ref d) ∧ m0 (Str.ofString "seen") = some (.ref se) :=
    ⟨_, RB.F, rfl, rfl, rfl, rfl, rfl⟩
  have N1 := RB.N
  have X1 := RB.X
  have T1 := RB.T
  have old := And.intro F N
  clear F N X T
  refine forDictG rfl (F1.keep _ _ hgd) (fun e => by rw [show (envOf _ _ L' _ _).locals = L' from rfl] at e; rw [e] at hdL; exact Nat.lt_irrefl _ hdL) hd lo F1 N1
    (fun i m' news => (∀ y, y ≠ Str.ofString "node" → m' y = m0 y) ∧ ∃ (o2' so' : Obj) (e1' e2' : Nat) (V' : Str → Bool) (n' : Nat) (fo' : List (Addr × Obj)), CycOk w ns lv o2' so' [] V' n' ∧ Slots fo fo' ∧ news = cycLed n2 o2' se so' its e1' stk e2' fo' [] [])
    ⟨fun y _ => rfl, o2, _, _, _, _, _, fo, CycOk.nil ho2 hso, Slots.refl fo, rfl⟩ ?turn ?done
  case turn =>
    intro I i k t x' m₁ news₁ own h9 tk9 hI hk hpat hne hown F₂ N₂
    obtain ⟨hm, o2', so', e1', e2', V', n', fo', hC, hS, rfl⟩ := hpat
    obtain ⟨nd, hndn, hnd1⟩ : ∃ nd ∈ ns, nd.nm = k := by
      obtain ⟨d0, h1, h2⟩ : ∃ d0, ns[i]? = some d0 ∧ (d0.nm, Value.ref d0.x) = (k, x') := by
        unfold kvsOf at hk; rw [List.getElem?_map] at hk; exact Option.map_eq_some_iff.mp hk
      exact ⟨d0, List.mem_of_getElem? h1, congrArg Prod.fst h2⟩
    subst hnd1
    have hownI : ∀ q ∈ own, q.1 = I := fun q hq => (hown q hq).elim id fun h => by
      have := (N₂ q (List.mem_append_right _ hq)).2.2
      rw [h] at this
      rw [show g'.get? d = some od from hgd] at this; cases this
    have hone : ∀ q ∈ own, q ∈ own.take 1 := fun q hq => by
      cases own with
      | nil => cases hq
      | cons c r =>
        have a1 := (N₂ q (List.mem_append_right _ hq)).1
        have a2 := (N₂ c (List.mem_append_right _ (.head _))).1
        rw [hownI q hq] at a1
        rw [hownI c (.head _), a1] at a2
        have : q = c := Prod.ext ((hownI q hq).trans (hownI c (.head _)).symm) (Option.some.inj a2)
        rw [this]; exact .head _
    have hmap : (own.take 1).map (·.1) = [] ∨ (own.take 1).map (·.1) = [I] := by
      cases own with
      | nil => exact .inl rfl
      | cons c r => exact .inr (by show [c.1] = [I]; rw [hownI c (.head _)])
    have hcap := cycAds_fo hS (hap0 I hI _ hmap)
    have ne : ∀ x : Str, x ≠ Str.ofString "node" → ∀ v, m0 x = some v → m₁ x = some v := fun x hx v h => (hm x hx).trans h
    have N₃ : News g' L' h9 (cycLed n2 o2' se so' its e1' stk e2' fo' [] (own.take 1)) := fun q hq => N₂ q (by
      unfold cycLed at hq ⊢
      simp only [List.flatMap_nil, List.nil_append, List.append_nil, List.cons_append, List.mem_cons, List.mem_append] at hq ⊢
      rcases hq with h | h | h | h | h | h
      · exact .inl h
      · exact .inr (.inl h)
      · exact .inr (.inr (.inl h))
      · exact .inr (.inr (.inr (.inl h)))
      · exact .inr (.inr (.inr (.inr (.inl h))))
      · exact .inr (.inr (.inr (.inr (.inr (List.mem_of_mem_take h))))))
    clear N₂ N1
    k_unmd
    repeat' (first | (k_unfold; (try dsimp only)) | ((fail_if_success (with_reducible show wpAny _ _ (execs (Stmt.If _ _ _ _ :: _) _) _ _ _)); first | (walk1; (try dsimp only)) | (dsimp only; walk1; (try dsimp only))) | fail "no step")
    rename Fr _ _ _ _ => F₄
    rename News _ _ _ _ => N₄
    rename_i hp4'
    have key := fun tk4' Q E => cyc_outer (sc := { kind := .function, names := [], isGenerator := false, isCoroutine := false, more := [] }) (qual := Str.ofString "TopologicalSorter._find_cycle") (dp := dp) (un := un) (gd := gd) (f := 152) (cdv := .ref 151) (outer := outer) (Q := Q) (E := E)
      F₄ X1 T1 st' (hS.ok O.ok) (s := { s with heap := hp4', toks := tk4' }) N₄ ((if_neg (by decide)).trans (ne _ (by decide) _ p1)) ((if_neg (by decide)).trans (ne _ (by decide) _ p2)) ((if_neg (by decide)).trans (ne _ (by decide) _ p3)) ((if_neg (by decide)).trans (ne _ (by decide) _ p4)) ((if_neg (by decide)).trans (ne _ (by decide) _ p5)) (if_pos rfl)
      hC lo2 lo hgd hd hgn (Nat.le_trans hW.len hb) hnames hlv' hndn (by with_unfolding_all rfl) hdp hun hcap
    with_unfolding_all refine key _ _ _ ?_
    intro fl h₅ tk₅ m₅ o2₅ so₅ e1₅ e2₅ V₅ n₅ fo₅ hfl F₅ hm₅ hC₅ hS₅ N₅
    have hwI : ∀ q ∈ cycLed n2 o2₅ se so₅ its e1₅ stk e2₅ fo₅ [] [], q.1 ∉ [I] := fun q hq hm => by
      rw [List.mem_singleton] at hm
      have i1 : @LT.lt Nat _ n2 I := hI.led _ (.head _)
      unfold cycLed at hq
      simp only [List.flatMap_nil, List.append_nil, List.mem_cons] at hq
      rcases hq with rfl | rfl | rfl | rfl | hq
      · exact Nat.ne_of_lt i1 hm
      · exact Nat.ne_of_lt (Nat.lt_trans hst3 i1) hm
      · exact Nat.ne_of_lt (Nat.lt_trans hst2 (Nat.lt_trans hst3 i1)) hm
      · exact Nat.ne_of_lt (Nat.lt_trans hst1 (Nat.lt_trans hst2 (Nat.lt_trans hst3 i1))) hm
      · have hb : q.1 ∈ fo.map (·.1) := by rw [← (hS.trans hS₅).ads]; exact List.mem_map_of_mem hq
        obtain ⟨q0, hq0, hqe⟩ := List.mem_map.mp hb
        have := hfS q0 hq0
        rw [hqe, hm] at this
        exact Nat.lt_irrefl _ (Nat.lt_trans this (Nat.lt_trans hst1 (Nat.lt_trans hst2 (Nat.lt_trans hst3 i1))))
    have fin : TurnOk g' L' own [I] (fun m' news => (∀ y, y ≠ Str.ofString "node" → m' y = m0 y) ∧ ∃ (o2' so' : Obj) (e1' e2' : Nat) (V' : Str → Bool) (n' : Nat) (fo' : List (Addr × Obj)), CycOk w ns lv o2' so' [] V' n' ∧ Slots fo fo' ∧ news = cycLed n2 o2' se so' its e1' stk e2' fo' [] []) s { s with heap := h₅, toks := tk₅ } :=
      turnOk_ (cycLed n2 o2₅ se so₅ its e1₅ stk e2₅ fo₅ [] []) F₅ N₅ (fun q hq => by
        unfold cycLed at hq ⊢
        simp only [List.flatMap_nil, List.nil_append, List.append_nil, List.cons_append, List.mem_cons, List.mem_append] at hq ⊢
        rcases hq with h | h | h | h | h | h
        · exact .inl h
        · exact .inr (.inl h)
        · exact .inr (.inr (.inl h))
        · exact .inr (.inr (.inr (.inl h)))
        · exact .inr (.inr (.inr (.inr (.inl h))))
        · exact .inr (.inr (.inr (.inr (.inr (hone q h)))))) hwI
        ⟨fun y hy => (hm₅ y hy).trans ((if_neg hy).trans (hm y hy)), o2₅, so₅, e1₅, e2₅, V₅, n₅, fo₅, hC₅, hS.trans hS₅, rfl⟩
    rcases hfl with rfl | rfl
    · exact fin
    · exact fin
  case done =>
    intro h9 tk9 m₁ news₁ F₂ N₂ hpat
    obtain ⟨hm, o2', so', e1', e2', V', n', fo', hC, hS, rfl⟩ := hpat
    clear N1 F1
    k_unmd
    dsimp only
    k_steps
    obtain ⟨F₅, N₅⟩ := RB.back old.1 old.2 (fun q hq => by
      simp only [led4, Srt.objs, Srt.attrs, List.cons_append, List.nil_append, List.mem_cons, List.mem_append] at hq ⊢
      rcases hq with h | h | h | h | h
      · exact .inr (.inr (.inr (.inr (.inl h))))
      · exact .inr (.inr (.inr (.inr (.inr (.inl h)))))
      · exact .inr (.inr (.inr (.inr (.inr (.inr (.inl h))))))
      · exact .inr (.inr (.inr (.inr (.inr (.inr (.inr (.inl h)))))))
      · exact .inr (.inr (.inr (.inr (.inr (.inr (.inr (.inr (.inl h))))))))) F₂ N₂
    refine O.leave (news' := led4 ⟨self, sd, d, h1, h2, h3, h4, t1, t2, t3, t4, ae, od, .ref r, po, nf, pt, ft⟩ r rs re ns) F₅ (fun q hq => N₅ q ?_) hS (fun q hq hm => ?_) ⟨fun q hq => hq, rfl⟩
    · rcases List.mem_append.mp hq with hq | hq
      · exact List.mem_append_right _ hq
      · exact List.mem_append_left _ (by unfold cycLed; simp [hq])
    · obtain ⟨q', hq', hqe⟩ := List.mem_map.mp hm
      have := hfoB q' hq'
      rw [hqe, hobj q hq] at this; cases this

end
section
local macro_rules | `(tactic| k_steps) => `(tactic| (repeat' (first | (k_unfold; (try dsimp only)) | (walk1; (try dsimp only)) | (dsimp only; walk1; (try dsimp only)) | fail "no step")))
local macro_rules | `(tactic| walk_at "call builtin:dict.get") => `(tactic| first
  | (refine dget_some (by with_reducible assumption) (by k_mem) (by with_reducible assumption) (by with_reducible assumption) (by first | with_reducible assumption | (rename (∀ _, valueAt _ _ = some _) => hvv; exact hvv _)) ?_)
  | (refine dget_none (by with_reducible assumption) (by k_mem) (by with_reducible assumption) (by with_reducible assumption) (by first | with_reducible assumption | (rename (∀ _, valueAt _ _ = none) => hvv; exact hvv _)) ?_))
local macro_rules | `(tactic| k_ne) => `(tactic| (refine neN ?_; (try dsimp only); first | exact Df.to (by with_reducible assumption) | exact Df.from (by with_reducible assumption) | omega))
local macro_rules | `(tactic| k_room) => `(tactic| ((try simp only [depth_under_make, depth_under_kw, depth_in1, depth_deeper, depth_caller]); (try dsimp only [ktrTop]); omega))
local macro_rules | `(tactic| walk_at "setItem ref str") => `(tactic| (k_dflt (refine kda_set (knd := PySem.strKind _ _) (by k_asm) (by k_asm) (by k_updF) (by k_asm) (strKind_is _ _ _ _) (by first | with_reducible assumption | (rename (∀ _, List.length _ ≤ sizeLine) => hzz; exact hzz _)) ?_); intro h' o' F' N' hd'; (try dsimp only at N')))

local macro_rules | `(tactic| k_all) => `(tactic| with_reducible assumption)
local macro_rules | `(tactic| walk_at "exec For Name Name cons nil") => `(tactic| refine wpAny_For ?_)
local macro_rules | `(tactic| walk_at "exec For Name Attribute cons nil") => `(tactic| (k_dflt (refine wpAny_For ?_)))
local macro_rules | `(tactic| walk_at "subscriptTail") => `(tactic| (k_dflt (refine kda_item (knd := PySem.strKind _ _) (by with_reducible assumption) (by k_mem) (by with_reducible assumption) (strKind_is _ _ _ _) (by with_reducible assumption) ?_)))
local macro_rules | `(tactic| walk_at "call type:tuple") => `(tactic| (k_dflt (refine tuple_made (by with_reducible assumption) (by with_reducible assumption) (by k_mem) (by with_reducible assumption) ?_); intro D' h' F' N' l1 l2; (try k_lt l1); (try k_sweep)))

local macro_rules | `(tactic| walk_at "setAttr ref") => `(tactic| (k_dflt (refine set_dict (by k_asm) (by k_asm) (by k_asm) (by k_inst) (by exact rfl) (by k_is) (by k_is) (by k_is) (by k_is) (by k_get) (by first | exact put_po _ _ _ | exact put_nf _ _ _ | exact put_rv _ _ _) (by k_upd) (by exact Nat.le_of_ble_eq_true rfl) ?_); k_whole; intro h' F' N'; (try k_sweep)))

local macro_rules | `(tactic| walk_at "getAttr ref") => `(tactic| (k_dflt (refine get_slot (by with_reducible assumption) (by with_reducible assumption) (by exact nd_inst (Fr.keep (by with_reducible assumption)) (by with_reducible assumption)) (by k_is) (by k_is) (by k_is) (by k_is) (by k_is) (by k_is) (by k_slotget) (by k_handed) ?_; k_whole)))
theorem prepare_spec {w : World} {S : Srt} {b : Nat} {ns : List Nd} {lv : Str → Nat} (W : Wf w S ns b) (hrv : S.rv = .none) (hb : b ≤ 1000)
    (hlv : ∀ d ∈ ns, ∀ c ∈ d.sv.toList.map strOf, lv d.nm < lv c ∧ ∃ e ∈ ns, e.nm = c) :
    ContractS w 3 117 [.ref S.self] (fun _ => True) (led S ns) (fun news v => v = .none ∧ ∃ (S' : Srt) (r : Addr) (rs : Array Value) (re : Nat), Wf2 w S' r ns b ∧ (∀ q ∈ led4 S' r rs re ns, q ∈ news) ∧
      StrsAre rs.toList ((ns.filter fun d => decide (d.np = 0)).map (·.nm)) ∧ S'.self = S.self ∧ S'.po = S.po ∧ S'.nf = S.nf) := by
  have x1 := tail_off W (a := S.self) (by simp [Srt.ads])
  have x2 := tail_off W (a := S.sd) (by simp [Srt.ads])
  have x3 := tail_off W (a := S.d) (by simp [Srt.ads])
  have hnd : Apart [S.self, S.sd, S.d] := apart_of W.apS
  have hd := W.dict
  have lo := W.lo
  obtain ⟨self, sd, d, h1, h2, h3, h4, t1, t2, t3, t4, ae, od, rv, po, nf, pt, ft⟩ := S
  dsimp only at x1 x2 x3 hnd hrv hd lo
  subst hrv
  simp only [Apart, NotAt, and_true] at hnd
  obtain ⟨⟨z1, z2⟩, z4⟩ := hnd
  refine contractS_of (by decide) (fun _ _ _ _ => trivial) (by with_unfolding_all rfl) (by with_unfolding_all rfl) [(Str.ofString "self", .ref self)] (fun s X => BindsTo.of_eq rfl) (locs rfl) rfl rfl rfl (by decide) ?_
  intro dp un gd outer A base g L' h₁ p loose mean mg mb s B F Xb N Tb hdp hun hpr hlt
  have X := Xb.keeps B.stays
  have T := Tb.keeps B.stays
  obtain ⟨g', RB⟩ := rebase (p := p) (loose := loose) (mean := mean) (mg := mg) (mb := mb) B F X T N (Srt.objs ⟨self, sd, d, h1, h2, h3, h4, t1, t2, t3, t4, ae, od, .none, po, nf, pt, ft⟩) (ns.flatMap Nd.objs)
    (fun q hq => List.mem_append_left _ hq) (fun q hq => List.mem_append_right _ hq) (fun q hq => hlt q (List.mem_append_right _ hq))
    (fun q hq hm => by
      simp only [Srt.objs, List.map_cons, List.map_nil, List.mem_cons, List.not_mem_nil, or_false] at hm
      rcases hm with h | h | h
      · exact x1 q hq h
      · exact x2 q hq h
      · exact x3 q hq h)
  have old := And.intro F N
  have olB := And.intro B (And.intro X T)
  clear F N B X T
  have B := RB.B
  have F := RB.F
  have X := RB.X
  have T := RB.T
  have N := RB.N
  simp only [Srt.objs, Srt.attrs] at N
  have hkl : (kvsOf ns).length ≤ sizeLine := by
    have := W.len; rw [sizeLine_eq]; unfold kvsOf; rw [List.length_map]; omega
  k_unmd
  k_fold
  repeat' (first | (k_unfold; (try dsimp only)) | ((fail_if_success (with_reducible show wpAny _ _ (eval (PySem.Expr.ListComp _ _ _ _) _) _ _ _)); first | (walk1; (try dsimp only)) | (dsimp only; walk1; (try dsimp only))) | fail "no step")
  refine ListComp_V (h₀ := g') (L := L') (m := fun y => List.lookup y [(Str.ofString "self", Value.ref self)].reverse) (cl := []) (by rfl) (by decide) rfl (by decide) (by decide) ?_
  k_unmd
  k_fold
  repeat' (first | (k_unfold; (try dsimp only)) | ((fail_if_success (with_reducible show Exists _)); first | (walk1; (try dsimp only)) | (dsimp only; walk1; (try dsimp only))) | fail "no step")
  rename_i vw hV FV NV lV
  refine ⟨vw, d, od, kvsOf ns, _, rfl, rfl, FV, NV, ⟨_, (NV _ (.head _)).1, rfl, rfl⟩, .tail _ (.tail _ (.tail _ (.head _))), hd, hkl, fun G => ?_⟩
  refine restT (n := (kvsOf ns).length) (fun i ys news => StrsAre ys (((ns.take i).filter fun d => decide (d.np = 0)).map (·.nm)) ∧ news = [(vw, _), (self, instObj 162 sd), (sd, _), (d, od)]) ?fin ?step _ 0 _ _ (by omega) ⟨.nil, rfl⟩
  case step =>
    rintro i ys news hi ⟨hys, rfl⟩ v I oI C oC D m₂ h tk E' ⟨k, hkv⟩ hC hm₂ F₂ N₂ hoff hne
    obtain ⟨dd, hddi, hdd⟩ : ∃ dd, ns[i]? = some dd ∧ (dd.nm, Value.ref dd.x) = (k, v) := by
      unfold kvsOf at hkv; rw [List.getElem?_map] at hkv; exact Option.map_eq_some_iff.mp hkv
    obtain ⟨rfl, rfl⟩ := Prod.mk.inj hdd
    have hddo : ∀ q ∈ dd.objs, g'.get? q.1 = some q.2 := fun q hq => RB.rest q (List.mem_flatMap.mpr ⟨dd, List.mem_of_getElem? hddi, hq⟩)
    have htk : (ns.take (i + 1)).filter (fun d => decide (d.np = 0)) = (ns.take i).filter (fun d => decide (d.np = 0)) ++ if dd.np = 0 then [dd] else [] := by
      rw [List.take_add_one, hddi, List.filter_append]
      by_cases hz : dd.np = 0 <;> simp [hz]
    clear F N FV NV
    k_unmd
    k_fold
    repeat' (first | (k_unfold; (try dsimp only)) | ((fail_if_success (with_reducible show LCg.CompEnd _ _ _ _ _ _ _ _ _ _ _ _ _ _)); first | (walk1; (try dsimp only)) | (dsimp only; walk1; (try dsimp only))) | fail "no step")
    · rename dd.np = 0 => hz
      refine LCg.CompEnd.intro F₂ N₂ _ (fun q hq => hq) hoff (.tail _ (.tail _ (.tail _ (.head _)))) ⟨?_, rfl⟩
      rw [htk, if_pos hz, List.map_append]
      exact strsAre_push hys
    · rename ¬ dd.np = 0 => hz
      refine LCg.CompEnd.intro F₂ N₂ _ (fun q hq => hq) hoff (.tail _ (.tail _ (.tail _ (.head _)))) ⟨?_, rfl⟩
      rw [htk, if_neg hz, List.append_nil]
      exact hys
  case fin =>
    intro ys news hpat D h tk F₂ N₂ hoff
    obtain ⟨hys, rfl⟩ := hpat
    rw [show (kvsOf ns).length = ns.length from by unfold kvsOf; rw [List.length_map], List.take_length] at hys
    clear F N FV NV
    simp only [LCg.Off1] at hoff
    k_unmd
    dsimp only
    repeat' (first | (k_unfold; (try dsimp only)) | ((fail_if_success (with_reducible show wpAny _ _ (call (Value.ref 152) _) _ _ _)); first | (walk1; (try dsimp only)) | (dsimp only; walk1; (try dsimp only))) | fail "no step")
    rename Fr _ _ _ _ => F₅
    rename News _ _ _ _ => N₅
    rename_i hp5
    have hDg : ∀ q ∈ ns.flatMap Nd.objs, D ≠ q.1 := fun q hq e => by
      have h1 := RB.rest q hq
      have h2 := (N₅ _ (.head _)).2.2
      rw [← e] at h1
      rw [show g'.get? D = none from h2] at h1; cases h1
    obtain ⟨F₆, N₆⟩ := RB.back old.1 old.2 (fun q hq => List.mem_append_right _ hq) F₅ N₅
    obtain ⟨B₀, X₀, T₀⟩ := olB
    have W2 : Wf2 w ⟨self, sd, d, h1, h2, h3, h4, t1, t2, t3, t4, ae, od, .ref D, po, nf, pt, ft⟩ D ns b := by
      refine ⟨⟨W.dict, W.lo, W.apS, W.apN, W.apP, W.txt, W.len, W.sz⟩, rfl, ?_, fun e he hm => ?_⟩
      · simp only [Srt.ads, List.mem_cons, List.not_mem_nil, or_false, not_or]
        exact ⟨Ne.symm hoff.2.1, Ne.symm hoff.2.2.1, Ne.symm hoff.2.2.2.1⟩
      · rw [← Nd.objs_ads] at hm
        obtain ⟨q, hq, hqe⟩ := List.mem_map.mp hm
        exact hDg q (List.mem_flatMap.mpr ⟨e, he, hq⟩) hqe.symm
    have N₇ : News g L' hp5 (led4 ⟨self, sd, d, h1, h2, h3, h4, t1, t2, t3, t4, ae, od, .ref D, po, nf, pt, ft⟩ D ys.toArray ys.length ns) := fun q hq => N₆ q (by
      simp only [led4, Srt.objs, Srt.attrs, List.cons_append, List.nil_append, List.mem_cons, List.mem_append, List.not_mem_nil, or_false] at hq ⊢
      rcases hq with h | h | h | h | h
      · exact .inr (.inr (.inl h))
      · exact .inr (.inr (.inr (.inl h)))
      · exact .inr (.inr (.inr (.inr (.inl h))))
      · exact .inl h
      · exact .inr (.inr (.inr (.inr (.inr h)))))
    refine cycle_spec W2 hb hlv dp un gd _ _ 117 (.ref 116) [] outer A base g L' _ p loose mean mg mb _ _ _ B₀ F₆ Xb N₇ Tb rfl (by omega) (by omega) trivial ?_
    intro v h' tk' news' hk hn hpat
    obtain ⟨hP, rfl⟩ := hpat
    obtain ⟨g₂, R⟩ := reground B₀ F₆ Xb Tb N₇ (env := envX _ _ L' 117 (.ref 116) []) rfl hk
    have F₈ := R.F
    have X₈ := R.X
    have T₈ := R.T
    have B₈ := R.B
    have N₈ : News g₂ L' h' (led4 ⟨self, sd, d, h1, h2, h3, h4, t1, t2, t3, t4, ae, od, .ref D, po, nf, pt, ft⟩ D ys.toArray ys.length ns) := fun q hq => ⟨(hn q (hP q hq)).1, (N₇ q hq).2.1, R.none _ (N₇ q hq).2.2⟩
    clear F₅ N₅ F₆ N₆ old B X T RB
    k_unmd
    k_steps
    rename Fr _ _ _ _ => F₉
    rename News _ _ _ _ => N₉
    refine ⟨_, _, led4 ⟨self, sd, d, h1, h2, h3, h4, t1, t2, t3, t4, ae, od, .ref D, po, nf, pt, ft⟩ D ys.toArray ys.length ns, rfl, R.K.trans (.of fun b o e _ => F₉.keep b o e), fun q hq => ⟨(N₉ q hq).1, (N₇ q hq).2.2⟩, rfl, _, D, ys.toArray, ys.length, W2, fun q hq => hq, by simpa using hys, rfl, rfl, rfl⟩

end
section
/-- a call by its contract, with objects at hand that it does not know -/
theorem code_led {w : World} {f : Addr} {args : List Value} {pre : Heap → Prop} {news own : List (Addr × Obj)} {P : List (Addr × Obj) → Value → Prop} (c : Contract w f args pre news P)
    {dp un : Nat} {gd : Option (List Code)} {cn : Str} {cs : Scope} {a : Addr} {ccd : Value} {cl : List (Str × Addr)} {outer : List Env} {A₀ : Around} {base h₀ : Heap} {L : Addr} {m : Str → Option Value}
    {p : Program} {loose : List Str} {mean : ExcName → Option Value} {mg mb : Str → Option Value} {s : Shared} {Q E : Value → Shared → Prop}
    (B : Below A₀ base outer h₀) (F : Fr h₀ L s.heap m) (X : (Mine.hd.heap_1 w.params).In h₀) (T : Top p loose mean mg mb h₀) (N : News h₀ L s.heap (news ++ own)) (hsep : ∀ q ∈ own, q.1 ∉ news.map (·.1))
    (hpr : pre s.heap) (hdp : dp + 20 < recursionLimit) (hun : un + 200 < cLine) (hkc : cs.kind = .function)
    (hret : ∀ v h' tk news', Fr h₀ L h' m → News h₀ L h' (news' ++ own) → (∀ q ∈ own, q.1 ∉ news'.map (·.1)) → P news' v → Q v { s with heap := h', toks := tk }) :
    codeAny (model PR w) (ktrTop dp un gd cn cs L a ccd cl outer) (.call (.ref f) ⟨args, []⟩) (fun r s' => match r with | .ok (.ret v) => Q v s' | .ok _ => False | .error e => E e s') s := by
  have N₁ : News h₀ L s.heap news := fun q hq => N q (List.mem_append_left _ hq)
  refine c dp un gd cn cs a ccd cl outer A₀ base h₀ L m p loose mean mg mb s Q E B F X N₁ T hkc hdp hun hpr fun v h' tk news' hk hn hP => ?_
  have F' := fr_of_kept F N₁ hk
  obtain ⟨oL, es, ep, hL, hLr⟩ := id F.ns
  refine hret v h' tk news' F' (fun q hq => ?_) (fun q hq hm => ?_) hP
  · rcases List.mem_append.mp hq with hq | hq
    · obtain ⟨h1, h2⟩ := hn q hq
      refine ⟨h1, fun e => ?_, ?_⟩
      · rcases h2 with h2 | h2
        · rw [e, hL] at h2; cases h2
        · obtain ⟨q', hq', hqe⟩ := List.mem_map.mp h2
          exact (N₁ q' hq').2.1 (hqe.trans e)
      · rcases h2 with h2 | h2
        · cases e : h₀.get? q.1 with
          | none => rfl
          | some o => rw [F.keep _ _ e] at h2; cases h2
        · obtain ⟨q', hq', hqe⟩ := List.mem_map.mp h2
          rw [← hqe]; exact (N₁ q' hq').2.2
    · exact ⟨hk _ _ (N q (List.mem_append_right _ hq)).1 (hsep q hq), (N q (List.mem_append_right _ hq)).2⟩
  · obtain ⟨q', hq', hqe⟩ := List.mem_map.mp hm
    obtain ⟨_, h2⟩ := hn q' hq'
    rw [hqe] at h2
    rcases h2 with h2 | h2
    · rw [(N q (List.mem_append_right _ hq)).1] at h2; cases h2
    · exact hsep q hq h2
/-- a call by its contract, with objects at hand that it does not know -/
theorem call_led {w : World} {f : Addr} {args : List Value} {pre : Heap → Prop} {news own : List (Addr × Obj)} {P : List (Addr × Obj) → Value → Prop} (c : Contract w f args pre news P)
    {dp un : Nat} {gd : Option (List Code)} {cn : Str} {cs : Scope} {a : Addr} {ccd : Value} {cl : List (Str × Addr)} {outer : List Env} {A₀ : Around} {base h₀ : Heap} {L : Addr} {m : Str → Option Value}
    {p : Program} {loose : List Str} {mean : ExcName → Option Value} {mg mb : Str → Option Value} {s : Shared} {Q E : Value → Shared → Prop}
    (B : Below A₀ base outer h₀) (F : Fr h₀ L s.heap m) (X : (Mine.hd.heap_1 w.params).In h₀) (T : Top p loose mean mg mb h₀) (N : News h₀ L s.heap (news ++ own)) (hsep : ∀ q ∈ own, q.1 ∉ news.map (·.1))
    (hpr : pre s.heap) (hdp : dp + 20 < recursionLimit) (hun : un + 200 < cLine) (hkc : cs.kind = .function)
    (hret : ∀ v h' tk news', Fr h₀ L h' m → News h₀ L h' (news' ++ own) → (∀ q ∈ own, q.1 ∉ news'.map (·.1)) → P news' v → Q v { s with heap := h', toks := tk }) :
    wpAny (model PR w) (ktrTop dp un gd cn cs L a ccd cl outer) (call (.ref f) args) Q E s :=
  wpAny_call (code_led c B F X T N hsep hpr hdp hun hkc hret)
/-- one that turns nothing -/
theorem call_nil {w : World} {f : Addr} {args : List Value} {pre : Heap → Prop} {own : List (Addr × Obj)} {P : List (Addr × Obj) → Value → Prop} (c : Contract w f args pre [] P)
    {dp un : Nat} {gd : Option (List Code)} {cn : Str} {cs : Scope} {a : Addr} {ccd : Value} {cl : List (Str × Addr)} {outer : List Env} {A₀ : Around} {base h₀ : Heap} {L : Addr} {m : Str → Option Value}
    {p : Program} {loose : List Str} {mean : ExcName → Option Value} {mg mb : Str → Option Value} {s : Shared} {Q E : Value → Shared → Prop}
    (B : Below A₀ base outer h₀) (F : Fr h₀ L s.heap m) (X : (Mine.hd.heap_1 w.params).In h₀) (T : Top p loose mean mg mb h₀) (N : News h₀ L s.heap own)
    (hpr : pre s.heap) (hdp : dp + 20 < recursionLimit) (hun : un + 200 < cLine) (hkc : cs.kind = .function)
    (hret : ∀ v h' tk news', Fr h₀ L h' m → News h₀ L h' (news' ++ own) → (∀ q ∈ own, q.1 ∉ news'.map (·.1)) → P news' v → Q v { s with heap := h', toks := tk }) :
    wpAny (model PR w) (ktrTop dp un gd cn cs L a ccd cl outer) (call (.ref f) args) Q E s :=
  call_led (own := own) c B F X T N (fun _ _ h => nomatch h) hpr hdp hun hkc hret
noncomputable def rndBody (w : World) : List Stmt := bodyAt ((Mine.hd.heap_1 w.params).lookup 187)
noncomputable def rndSc (w : World) (d : Scope) : Scope := scopeAt ((Mine.hd.heap_1 w.params).lookup 187) d
noncomputable def rndFor (w : World) : List Stmt := inner 1 (rndBody w)

end
section
noncomputable def itr (f : Str → Str) : Nat → Str → Str
  | 0, x => x
  | n + 1, x => f (itr f n x)
noncomputable def EscOk (x : Str) : Prop := x.length ≤ 1000 ∧ (Txt.replace x "&" "&amp;").length ≤ 1000 ∧ (Txt.replace (Txt.replace x "&" "&amp;") ">" "&gt;").length ≤ 1000
noncomputable def UneOk (x : Str) : Prop := x.length ≤ 1000 ∧ (Txt.replace x "&lt;" "<").length ≤ 1000 ∧ (Txt.replace (Txt.replace x "&lt;" "<") "&gt;" ">").length ≤ 1000
section
local macro_rules | `(tactic| k_steps) => `(tactic| (repeat' (first | (k_unfold; (try dsimp only)) | (walk1; (try dsimp only)) | (dsimp only; walk1; (try dsimp only)) | fail "no step")))
local macro_rules | `(tactic| walk_at "exec For Name Call cons nil") => `(tactic| (k_dflt (refine wpAny_For ?_)))
theorem rnd_esc {w : World} {dp un : Nat} {gd : Option (List Code)} {qual : Str} {sc cs : Scope} {f : Addr} {cdv : Value} {outer : List Env} {base g : Heap} {A : Around} {L : Addr} {m : Str → Option Value} {s : Shared} {p : Program} {loose : List Str} {mean : ExcName → Option Value} {mg mb : Str → Option Value}
    {own : List (Addr × Obj)} {x : Str} {t u : Tok} {n : Nat}
    (B : Below A base outer g) (F : Fr g L s.heap m) (X : (Mine.hd.heap_1 w.params).In g) (T : Top p loose mean mg mb g) (N : News g L s.heap own)
    (m1 : m "text" = some (.str x t)) (m2 : m "more" = some (.int n u)) (hn : n ≤ 100) (hE : ∀ j < n, EscOk (itr esc j x))
    (hcs : cs = rndSc w sc) (hdp : dp + 60 < recursionLimit) (hun : un + 600 < cLine) {Q : Flow → Shared → Prop} {E : Value → Shared → Prop}
    (hQ : ∀ h' tk m' t', Fr g L h' m' → m' (Str.ofString "text") = some (.str (itr esc n x) t') → (∀ y, y ≠ Str.ofString "text" → y ≠ Str.ofString "k" → m' y = m y) → News g L h' own → Q .next { s with heap := h', toks := tk }) :
    wpAny (model PR w) (ktrTop dp un gd qual cs L f cdv [] outer) (exec (headS (rndFor w)) (envOf qual cs L f cdv)) Q E s := by
  unfold rndFor rndBody
  with_unfolding_all (conv in headS _ => whnf)
  unfold rndSc at hcs
  with_unfolding_all (conv at hcs => rhs; whnf)
  subst hcs
  have hpin : ∀ p ∈ [(Str.ofString "text", Value.str x t), (Str.ofString "more", .int n u)], m p.1 = some p.2 := by
    intro p hp; simp only [List.mem_cons, List.not_mem_nil, or_false] at hp; rcases hp with rfl | rfl <;> assumption
  have hpe := pins_eq _ hpin
  have F₂ := fr_pins F _ hpin
  clear F
  k_unmd
  k_steps
  rename_i hR _ t₁ u₁ v₁ hr _ _ _
  rename Fr _ _ _ _ => F₃
  rename News _ _ _ _ => N₃
  refine forRange rfl hr (by omega) (fr_eq F₃ (congrFun hpe)) N₃ (fun i m' news => (∃ t', m' (Str.ofString "text") = some (.str (itr esc i x) t')) ∧ (∀ y, y ≠ Str.ofString "text" → y ≠ Str.ofString "k" → m' y = m y) ∧ news = own) ⟨⟨t, m1⟩, fun _ _ _ => rfl, rfl⟩ ?turn ?done
  case turn =>
    intro I i t' m₁ news₁ own₂ h tk hI hi hpat hne hown F₄ N₄
    obtain ⟨⟨t₂, hx⟩, hm, rfl⟩ := hpat
    have F₅ := fr_pins F₄ [(Str.ofString "text", .str (itr esc i x) t₂)] (by
      intro p hp; simp only [List.mem_cons, List.not_mem_nil, or_false] at hp; subst hp; exact hx)
    have hpe₅ := pins_eq [(Str.ofString "text", Value.str (itr esc i x) t₂)] (m := m₁) (by
      intro p hp; simp only [List.mem_cons, List.not_mem_nil, or_false] at hp; subst hp; exact hx)
    obtain ⟨e1, e2, e3⟩ := hE i hi
    clear F₄ F₃ N₃
    k_unmd
    k_fold
    repeat' (first | (k_unfold; (try dsimp only)) | ((fail_if_success (with_reducible show wpAny _ _ (call (Value.ref 37) _) _ _ _)); first | (walk1; (try dsimp only)) | (dsimp only; walk1; (try dsimp only))) | fail "no step")
    rename Fr _ _ _ _ => F₆
    rename News _ _ _ _ => N₆
    refine call_nil (escape_spec e1 e2 e3) B F₆ X T N₆ trivial (by omega) (by omega) rfl ?_
    intro v h' tk' news' F₇ N₇ hs hpat
    obtain ⟨t₃, rfl⟩ := hpat
    replace N₇ : News g L h' (news₁ ++ own₂) := fun q hq => N₇ q (List.mem_append_right _ hq)
    clear F₆ N₆ N₄ F₅
    k_steps
    rename Fr _ _ _ _ => F₈
    rename News _ _ _ _ => N₈
    exact turnOk_ news₁ F₈ N₈ (fun q hq => hq) (fun q hq hm => hne q hq (List.mem_singleton.mp hm)) ⟨⟨t₃, if_pos rfl⟩, fun y h1 h2 => (if_neg h1).trans ((if_neg h2).trans ((congrFun hpe₅ y).trans (hm y h1 h2))), rfl⟩
  case done =>
    intro h' tk m' news' F₄ N₄ hpat
    obtain ⟨⟨t₂, hx⟩, hm, rfl⟩ := hpat
    exact hQ _ _ _ _ F₄ hx hm N₄
local macro_rules | `(tactic| walk_at "exec While") => `(tactic| (k_dflt (refine wpAny_While ?_)))
local macro_rules | `(tactic| walk_at "exec While Compare cons nil") => `(tactic| (k_dflt (refine wpAny_While ?_)))
/-- below = unescape(text) -/
theorem rnd_below {w : World} {dp un : Nat} {gd : Option (List Code)} {qual : Str} {sc cs : Scope} {f : Addr} {cdv : Value} {outer : List Env} {base g : Heap} {A : Around} {L : Addr} {m : Str → Option Value} {s : Shared} {p : Program} {loose : List Str} {mean : ExcName → Option Value} {mg mb : Str → Option Value}
    {own : List (Addr × Obj)} {x : Str} {t : Tok}
    (B : Below A base outer g) (F : Fr g L s.heap m) (X : (Mine.hd.heap_1 w.params).In g) (T : Top p loose mean mg mb g) (N : News g L s.heap own)
    (m1 : m "text" = some (.str x t)) (hE : UneOk x)
    (hcs : cs = rndSc w sc) (hdp : dp + 60 < recursionLimit) (hun : un + 600 < cLine) {Q : Flow → Shared → Prop} {E : Value → Shared → Prop}
    (hQ : ∀ h' tk t', Fr g L h' (fun y => if y = Str.ofString "below" then some (.str (une x) t') else m y) → News g L h' own → Q .next { s with heap := h', toks := tk }) :
    wpAny (model PR w) (ktrTop dp un gd qual cs L f cdv [] outer) (exec (headS ((rndFor w).drop 1)) (envOf qual cs L f cdv)) Q E s := by
  unfold rndFor rndBody
  with_unfolding_all (conv in headS _ => whnf)
  unfold rndSc at hcs
  with_unfolding_all (conv at hcs => rhs; whnf)
  subst hcs
  have hpin : ∀ p ∈ [(Str.ofString "text", Value.str x t)], m p.1 = some p.2 := by
    intro p hp; simp only [List.mem_cons, List.not_mem_nil, or_false] at hp; subst hp; exact m1
  have hpe := pins_eq _ hpin
  have F₂ := fr_pins F _ hpin
  obtain ⟨e1, e2, e3⟩ := hE
  clear F
  k_unmd
  repeat' (first | (k_unfold; (try dsimp only)) | ((fail_if_success (with_reducible show wpAny _ _ (call (Value.ref 46) _) _ _ _)); first | (walk1; (try dsimp only)) | (dsimp only; walk1; (try dsimp only))) | fail "no step")
  rename Fr _ _ _ _ => F₆
  rename News _ _ _ _ => N₆
  refine call_nil (unescape_spec e1 e2 e3) B F₆ X T N₆ trivial (by omega) (by omega) rfl ?_
  intro v h' tk' news' F₇ N₇ hs hpat
  obtain ⟨t₃, rfl⟩ := hpat
  replace N₇ : News g L h' own := fun q hq => N₇ q (List.mem_append_right _ hq)
  clear F₆ N₆
  k_steps
  rename Fr _ _ _ _ => F₈
  exact hQ _ _ t₃ (fr_eq F₈ fun y => by have := congrFun hpe y; (try dsimp only at this ⊢); rw [this]) (by assumption)
/-- sorter.add(text) behind the loop -/
theorem rnd_add {w : World} {dp un : Nat} {gd : Option (List Code)} {qual : Str} {sc cs : Scope} {f : Addr} {cdv : Value} {outer : List Env} {base g : Heap} {A : Around} {L : Addr} {m : Str → Option Value} {s : Shared} {p : Program} {loose : List Str} {mean : ExcName → Option Value} {mg mb : Str → Option Value}
    {own : List (Addr × Obj)} {x : Str} {t : Tok} {S : Srt} {ns : List Nd} {b : Nat}
    (B : Below A base outer g) (F : Fr g L s.heap m) (X : (Mine.hd.heap_1 w.params).In g) (T : Top p loose mean mg mb g) (N : News g L s.heap (led S ns ++ own)) (hsep : ∀ q ∈ own, q.1 ∉ (led S ns).map (·.1))
    (m1 : m "text" = some (.str x t)) (m2 : m "sorter" = some (.ref S.self)) (W : Wf w S ns b) (hb : b ≤ 1000) (hrv : S.rv = .none)
    (hcs : cs = rndSc w sc) (hdp : dp + 60 < recursionLimit) (hun : un + 600 < cLine) {Q : Flow → Shared → Prop} {E : Value → Shared → Prop}
    (hQ : ∀ h' tk S' ns', Fr g L h' m → Wf w S' ns' (b + 2) → Same S S' → lg ns' = addL (lg ns) x → News g L h' (led S' ns' ++ own) → (∀ q ∈ own, q.1 ∉ (led S' ns').map (·.1)) → Q .next { s with heap := h', toks := tk }) :
    wpAny (model PR w) (ktrTop dp un gd qual cs L f cdv [] outer) (exec (headS ((rndFor w).drop 3)) (envOf qual cs L f cdv)) Q E s := by
  unfold rndFor rndBody
  with_unfolding_all (conv in headS _ => whnf)
  unfold rndSc at hcs
  with_unfolding_all (conv at hcs => rhs; whnf)
  subst hcs
  have hpin : ∀ p ∈ [(Str.ofString "text", Value.str x t), (Str.ofString "sorter", .ref S.self)], m p.1 = some p.2 := by
    intro p hp; simp only [List.mem_cons, List.not_mem_nil, or_false] at hp; rcases hp with rfl | rfl <;> assumption
  have hpe := pins_eq _ hpin
  have F₂ := fr_pins F _ hpin
  clear F
  k_unmd
  k_steps
  refine call_led (addL_spec W hb hrv) B F₂ X T N hsep trivial (by omega) (by omega) rfl ?_
  intro v h' tk' news' F₇ N₇ hs hpat
  obtain ⟨rfl, S', ns', W', hm, hS, hlg⟩ := hpat
  exact hQ _ _ S' ns' (fr_eq F₇ (congrFun hpe)) W' hS hlg (fun q hq => N₇ q ((List.mem_append.mp hq).elim (fun h => List.mem_append_left _ (hm q h)) (List.mem_append_right _))) fun q hq hx => hs q hq (by
    obtain ⟨q', hq', hqe⟩ := List.mem_map.mp hx
    rw [← hqe]; exact List.mem_map_of_mem (hm q' hq'))
/-- the chain's end -/
noncomputable def chainAdd : Nat → List (Str × Int × List Str) → Str → List (Str × Int × List Str)
  | 0, G, x => G
  | n + 1, G, x => if une x = x then G else chainAdd n (addE G x (une x)) (une x)
noncomputable def chainEnd : Nat → Str → Str
  | 0, x => x
  | n + 1, x => if une x = x then x else chainEnd n (une x)
theorem Wf.mono {w : World} {S : Srt} {ns : List Nd} {b b' : Nat} (W : Wf w S ns b) (h : b ≤ b') : Wf w S ns b' :=
  ⟨W.dict, W.lo, W.apS, W.apN, W.apP, W.txt, Nat.le_trans W.len h, fun d hd => Nat.le_trans (W.sz d hd) h⟩
theorem Same.trans {S S' S'' : Srt} (h : Same S S') (h' : Same S' S'') : Same S S'' := by
  unfold Same at h h' ⊢; rw [h', h]
theorem Same.rv {S S' : Srt} (h : Same S S') : S'.rv = S.rv := by unfold Same at h; rw [h]
theorem Same.self {S S' : Srt} (h : Same S S') : S'.self = S.self := by unfold Same at h; rw [h]
theorem chainAdd_end {n : Nat} {G : List (Str × Int × List Str)} {x : Str} (h : une x = x) : chainAdd n G x = G := by
  cases n with
  | zero => rfl
  | succ n => rw [chainAdd, if_pos h]
theorem chainEnd_end {n : Nat} {x : Str} (h : une x = x) : chainEnd n x = x := by
  cases n with
  | zero => rfl
  | succ n => rw [chainEnd, if_pos h]
/-- while below != text -/
theorem rnd_chain {w : World} {dp un : Nat} {gd : Option (List Code)} {qual : Str} {sc cs : Scope} {f : Addr} {cdv : Value} {outer : List Env} {base g : Heap} {A : Around} {L : Addr} {m : Str → Option Value} {s : Shared} {p : Program} {loose : List Str} {mean : ExcName → Option Value} {mg mb : Str → Option Value}
    {own : List (Addr × Obj)} {x : Str} {t u : Tok} {S : Srt} {ns : List Nd} {b : Nat} {D : Str → Prop} {rk : Str → Nat}
    (B : Below A base outer g) (F : Fr g L s.heap m) (X : (Mine.hd.heap_1 w.params).In g) (T : Top p loose mean mg mb g) (N : News g L s.heap (led S ns ++ own)) (hsep : ∀ q ∈ own, q.1 ∉ (led S ns).map (·.1))
    (m1 : m "text" = some (.str x t)) (m2 : m "sorter" = some (.ref S.self)) (m3 : m "below" = some (.str (une x) u)) (W : Wf w S ns b) (hb : b + 2 * rk x ≤ 1000) (hrv : S.rv = .none)
    (hD : D x) (hDu : ∀ x, D x → UneOk x ∧ D (une x) ∧ (une x ≠ x → rk (une x) + 1 = rk x))
    (hcs : cs = rndSc w sc) (hdp : dp + 60 < recursionLimit) (hun : un + 600 < cLine) {Q : Flow → Shared → Prop} {E : Value → Shared → Prop}
    (hQ : ∀ h' tk m' t' S' ns', Fr g L h' m' → m' (Str.ofString "text") = some (.str (chainEnd (rk x) x) t') → (∀ y, y ≠ Str.ofString "text" → y ≠ Str.ofString "below" → m' y = m y) → Wf w S' ns' (b + 2 * rk x) → Same S S' → lg ns' = chainAdd (rk x) (lg ns) x → News g L h' (led S' ns' ++ own) → (∀ q ∈ own, q.1 ∉ (led S' ns').map (·.1)) → Q .next { s with heap := h', toks := tk }) :
    wpAny (model PR w) (ktrTop dp un gd qual cs L f cdv [] outer) (exec (headS ((rndFor w).drop 2)) (envOf qual cs L f cdv)) Q E s := by
  unfold rndFor rndBody
  with_unfolding_all (conv in headS _ => whnf)
  unfold rndSc at hcs
  with_unfolding_all (conv at hcs => rhs; whnf)
  subst hcs
  k_unmd
  k_steps
  refine whileJ (R := _) F N (fun μ m' news => ∃ (y : Str) (t' u' : Tok) (S' : Srt) (ns' : List Nd) (b' : Nat), D y ∧ rk y = μ ∧ m' (Str.ofString "text") = some (.str y t') ∧ m' (Str.ofString "below") = some (.str (une y) u') ∧ (∀ y, y ≠ Str.ofString "text" → y ≠ Str.ofString "below" → m' y = m y) ∧ Wf w S' ns' b' ∧ b' + 2 * rk y = b + 2 * rk x ∧ Same S S' ∧
      chainAdd (rk y) (lg ns') y = chainAdd (rk x) (lg ns) x ∧ chainEnd (rk y) y = chainEnd (rk x) x ∧ (∀ q ∈ own, q.1 ∉ (led S' ns').map (·.1)) ∧ news = led S' ns' ++ own) _
    ⟨x, t, u, S, ns, b, hD, rfl, m1, m3, fun _ _ _ => rfl, W, rfl, same_refl S, rfl, rfl, hsep, rfl⟩ ?turn
  intro μ m' news h tk hpat F' N'
  obtain ⟨y, t', u', S', ns', b', hy, hμ, m1', m3', hm', W', hb', hS, hc1, hc2, hsep', rfl⟩ := hpat
  obtain ⟨⟨e1, e2, e3⟩, hDy, hrk⟩ := hDu y hy
  have m2' : m' (Str.ofString "sorter") = some (.ref S'.self) := by rw [hm' _ (by decide) (by decide), m2, hS.self]
  have hpin : ∀ p ∈ [(Str.ofString "text", Value.str y t'), (Str.ofString "below", .str (une y) u'), (Str.ofString "sorter", .ref S'.self)], m' p.1 = some p.2 := by
    intro p hp; simp only [List.mem_cons, List.not_mem_nil, or_false] at hp; rcases hp with rfl | rfl | rfl <;> assumption
  have hpe := pins_eq _ hpin
  have F₂ := fr_pins F' _ hpin
  clear F N F'
  k_unmd
  k_fold
  repeat' (first | (k_unfold; (try dsimp only)) | ((fail_if_success (with_reducible show wpAny _ _ (call (Value.ref 112) _) _ _ _)); first | (walk1; (try dsimp only)) | (dsimp only; walk1; (try dsimp only))) | fail "no step")
  · rename (une y != y) = true => hne
    have hyy : une y ≠ y := by simpa using hne
    have hrk' := hrk hyy
    obtain ⟨⟨e4, e5, e6⟩, _, _⟩ := hDu _ hDy
    refine call_led (addE_spec (u := u') W' (by omega) (by rw [hS.rv, hrv]) (Ne.symm hyy)) B F₂ X T N' hsep' trivial (by omega) (by omega) rfl ?_
    intro v h₂ tk₂ news₂ F₃ N₃ hs₃ hpat
    obtain ⟨rfl, S₃, ns₃, W₃, hm₃, hS₃, hlg₃⟩ := hpat
    replace N₃ : News g L h₂ (led S₃ ns₃ ++ own) := fun q hq => N₃ q ((List.mem_append.mp hq).elim (fun h => List.mem_append_left _ (hm₃ q h)) (List.mem_append_right _))
    replace hs₃ : ∀ q ∈ own, q.1 ∉ (led S₃ ns₃).map (·.1) := fun q hq hx => hs₃ q hq (by
      obtain ⟨q', hq', hqe⟩ := List.mem_map.mp hx
      rw [← hqe]; exact List.mem_map_of_mem (hm₃ q' hq'))
    clear F₂ N'
    repeat' (first | (k_unfold; (try dsimp only)) | ((fail_if_success (with_reducible show wpAny _ _ (call (Value.ref 46) _) _ _ _)); first | (walk1; (try dsimp only)) | (dsimp only; walk1; (try dsimp only))) | fail "no step")
    rename Fr _ _ _ _ => F₆
    rename News _ _ _ _ => N₆
    refine call_nil (unescape_spec e4 e5 e6) B F₆ X T N₆ trivial (by omega) (by omega) rfl ?_
    intro v h' tk' news' F₇ N₇ hs hpat
    obtain ⟨t₃, rfl⟩ := hpat
    replace N₇ : News g L h' (led S₃ ns₃ ++ own) := fun q hq => N₇ q (List.mem_append_right _ hq)
    clear F₆ N₆
    k_steps
    rename Fr _ _ _ _ => F₈
    rename News _ _ _ _ => N₈
    obtain ⟨k, hk⟩ : ∃ k, rk y = k + 1 := ⟨rk (une y), hrk'.symm⟩
    have hku : rk (une y) = k := by omega
    rw [hk, chainAdd, if_neg hyy, ← hlg₃] at hc1
    rw [hk, chainEnd, if_neg hyy] at hc2
    exact turnOk_ (led S₃ ns₃ ++ own) F₈ N₈ (fun q hq => by simpa using hq) (fun q hq hm => nomatch hm) ⟨rk (une y), by omega, une y, _, t₃, S₃, ns₃, b' + 2, hDy, rfl, rfl, rfl,
      fun z h1 h2 => (if_neg h2).trans ((if_neg h1).trans ((congrFun hpe z).trans (hm' z h1 h2))), W₃, by omega, hS.trans hS₃, by rw [hku]; exact hc1, by rw [hku]; exact hc2, hs₃, rfl⟩
  · rename (une y != y) = false => hne
    have hyy : une y = y := by simpa using hne
    rw [chainAdd_end hyy] at hc1
    rw [chainEnd_end hyy] at hc2
    rename Fr _ _ _ _ => F₈
    exact hQ _ _ m' t' S' ns' (fr_eq F₈ (congrFun hpe)) (hc2 ▸ m1') hm' (W'.mono (by omega)) hS hc1 N' hsep'
end

end
section
/-- sorted() of texts in a list or a tuple -/
theorem sorted_seq {prog : Program} {w : World} {A : Around} {E : Value → Shared → Prop} {s : Shared} {h₀ : Heap} {L l : Addr} {m : Str → Option Value} {news : List (Addr × Obj)} {T : String} {o : Obj} {items : Array Value} {n : Nat} {ss : List Str} {Q : Value → Shared → Prop}
    (F : Fr h₀ L s.heap m) (N : News h₀ L s.heap news) (ho : s.heap.get? l = some o) (hT : T = "list" ∨ T = "tuple") (hc : o.cls = .type T) (hd : o.data = .seq items n) (hS : StrsAre items.toList ss) (h64 : ss.length < 64)
    (h : ∀ (D : Addr) (h' : Heap) (vs' : List Value) (ss' : List Str) (e : Nat), Fr h₀ L h' m → News h₀ L h' ((D, PySem.W.listOf vs'.toArray e) :: news) → (∀ p ∈ news, p.1 < D) → @LT.lt Nat _ L D → StrsAre vs' ss' → ss'.Perm ss → sortedS ss' = true → Q (.ref D) { s with heap := h' }) :
    wpAny (model prog w) A (call (.builtin "sorted") [.ref l]) Q E s := by
  have hlen : items.toList.length < 64 := by rw [hS.length]; exact h64
  refine Calls.call_function_entry kind_sorted plain_sorted entry_sorted (args_sorted1 _) ?_
  unfold Builtin.«sorted»
  refine wpAny_bind (m := checkCount "sorted" 1 1 _) (wpAny_pure ?_)
  refine wpAny_bind (wpAny_collect_seq l hT ho hc hd (fun h₁ k₁ => ?_) (by rw [sizeLine_eq]; simp at hlen; omega))
  refine wpAny_bind (wpAny_newList ?_ (by rw [sizeLine_eq]; omega))
  have F₁ : Fr h₀ L h₁ m := F.kept k₁
  have k₂ : ∀ b o, s.heap.get? b = some o → (h₁.push (seqObj "list" items.toList.toArray 0)).get? b = some o := fun b o e => Heap.get?_push_of_some _ (k₁ b o e)
  have hoL : (h₁.push (seqObj "list" items.toList.toArray 0)).get? h₁.objs.size = some (seqObj "list" items.toList.toArray 0) := Heap.get?_push_size _ rfl
  show wpAny _ _ _ _ _ { s with heap := h₁.push (seqObj "list" items.toList.toArray 0) }
  refine wpAny_bind (wpAny_holding (wpAny_call_entry slot_list_sort ⟨_, hoL, rfl⟩ entry_list_sort (list_sort_treeK strKind_oneLt hoL hS.keysOf (fun v₁ v₂ rest e => keyKind_strs (by rw [← e]; exact hS)) hlen fun st' a1 a2 => ⟨_, rfl, ?_⟩) (args_list_sort _)))
  refine wpAny_pure ⟨_, rfl, ?_⟩
  obtain ⟨ss', b1, b2, b3⟩ := sorted_out_str hS a1 a2
  obtain ⟨e, he⟩ := sortedHeap_at (out := (arrOf st').map (·.2)) hoL
  have k₃ : ∀ b o, s.heap.get? b = some o → (sortedHeap (h₁.push (seqObj "list" items.toList.toArray 0)) h₁.objs.size items.toList ((arrOf st').map (·.2))).get? b = some o := fun b o e' => by
    have hlt := Heap.lt_size (k₁ b o e')
    rw [sortedHeap_old (Nat.ne_of_lt hlt) (Heap.lt_size (k₂ b o e'))]
    exact k₂ b o e'
  have hlt : ∀ p ∈ news, p.1 < h₁.objs.size := fun p hp => Heap.lt_size (k₁ _ _ (N p hp).1)
  refine h h₁.objs.size _ ((arrOf st').map (·.2)).toList ss' e (F.kept k₃) (fun q hq => ?_) hlt F₁.ns.lt b1 b2 b3
  rcases List.mem_cons.mp hq with rfl | hq
  · refine ⟨he, Nat.ne_of_gt F₁.ns.lt, ?_⟩
    cases e' : h₀.get? h₁.objs.size with
    | none => rfl
    | some o' => exact absurd (Heap.lt_size (F₁.keep _ _ e')) (Nat.lt_irrefl _)
  · exact ⟨k₃ _ _ (N q hq).1, (N q hq).2⟩

end
section
noncomputable def fullAdd (rk : Str → Nat) (G : List (Str × Int × List Str)) (x : Str) (k : Nat) : List (Str × Int × List Str) :=
  addL (chainAdd (rk (itr esc k x)) G (itr esc k x)) (chainEnd (rk (itr esc k x)) (itr esc k x))
section
theorem rnd_turn {w : World} {dp un : Nat} {gd : Option (List Code)} {qual : Str} {sc cs : Scope} {f : Addr} {cdv : Value} {outer : List Env} {base g : Heap} {A : Around} {L : Addr} {m : Str → Option Value} {s : Shared} {p : Program} {loose : List Str} {mean : ExcName → Option Value} {mg mb : Str → Option Value}
    {own : List (Addr × Obj)} {x : Str} {k : Nat} {t u : Tok} {S : Srt} {ns : List Nd} {b : Nat} {D : Str → Prop} {rk : Str → Nat}
    (B : Below A base outer g) (F : Fr g L s.heap m) (X : (Mine.hd.heap_1 w.params).In g) (T : Top p loose mean mg mb g) (N : News g L s.heap (led S ns ++ own)) (hsep : ∀ q ∈ own, q.1 ∉ (led S ns).map (·.1))
    (m1 : m "text" = some (.str x t)) (m2 : m "sorter" = some (.ref S.self)) (m3 : m "more" = some (.int k u)) (W : Wf w S ns b) (hb : b + 2 * rk (itr esc k x) + 2 ≤ 1000) (hrv : S.rv = .none) (hk : k ≤ 100)
    (hE : ∀ j < k, EscOk (itr esc j x)) (hD : D (itr esc k x)) (hDu : ∀ x, D x → UneOk x ∧ D (une x) ∧ (une x ≠ x → rk (une x) + 1 = rk x))
    (hcs : cs = rndSc w sc) (hdp : dp + 60 < recursionLimit) (hun : un + 600 < cLine) {Q : Flow → Shared → Prop} {E : Value → Shared → Prop}
    (hQ : ∀ h' tk m' S' ns', Fr g L h' m' → (∀ y, y ≠ Str.ofString "text" → y ≠ Str.ofString "below" → y ≠ Str.ofString "k" → m' y = m y) → Wf w S' ns' (b + 2 * rk (itr esc k x) + 2) → Same S S' → lg ns' = fullAdd rk (lg ns) x k → News g L h' (led S' ns' ++ own) → (∀ q ∈ own, q.1 ∉ (led S' ns').map (·.1)) → Q .next { s with heap := h', toks := tk }) :
    wpAny (model PR w) (ktrTop dp un gd qual cs L f cdv [] outer) (execs (rndFor w) (envOf qual cs L f cdv)) Q E s := by
  unfold rndFor rndBody
  with_unfolding_all (conv in inner _ _ => whnf)
  refine wpAny_execs_cons ?_
  have k1 := fun Q E => rnd_esc (dp := dp) (un := un) (gd := gd) (qual := qual) (f := f) (cdv := cdv) (outer := outer) (Q := Q) (E := E) B F X T N m1 m3 hk hE hcs hdp hun
  with_unfolding_all refine k1 _ _ ?_
  intro h₁ tk₁ m₁ t₁ F₁ e₁ r₁ N₁
  dsimp only
  refine wpAny_execs_cons ?_
  have k2 := fun Q E => rnd_below (s := { s with heap := h₁, toks := tk₁ }) (dp := dp) (un := un) (gd := gd) (qual := qual) (f := f) (cdv := cdv) (outer := outer) (Q := Q) (E := E) B F₁ X T N₁ e₁ (hDu _ hD).1 hcs hdp hun
  with_unfolding_all refine k2 _ _ ?_
  intro h₂ tk₂ t₂ F₂ N₂
  dsimp only
  refine wpAny_execs_cons ?_
  have k3 := fun Q E => rnd_chain (s := { s with heap := h₂, toks := tk₂ }) (dp := dp) (un := un) (gd := gd) (qual := qual) (f := f) (cdv := cdv) (outer := outer) (Q := Q) (E := E) B F₂ X T N₂ hsep ((if_neg (by decide)).trans e₁) ((if_neg (by decide)).trans ((r₁ _ (by decide) (by decide)).trans m2)) (if_pos rfl) W (by omega) hrv hD hDu hcs hdp hun
  with_unfolding_all refine k3 _ _ ?_
  intro h₃ tk₃ m₃ t₃ S₃ ns₃ F₃ e₃ r₃ W₃ hS₃ hlg₃ N₃ hs₃
  dsimp only
  refine wpAny_execs_cons ?_
  have k4 := fun Q E => rnd_add (s := { s with heap := h₃, toks := tk₃ }) (dp := dp) (un := un) (gd := gd) (qual := qual) (f := f) (cdv := cdv) (outer := outer) (Q := Q) (E := E) B F₃ X T N₃ hs₃ e₃ ((r₃ _ (by decide) (by decide)).trans ((if_neg (by decide)).trans ((r₁ _ (by decide) (by decide)).trans (m2.trans (by rw [hS₃.self]))))) W₃ (by omega) (by rw [hS₃.rv, hrv]) hcs hdp hun
  with_unfolding_all refine k4 _ _ ?_
  intro h₄ tk₄ S₄ ns₄ F₄ W₄ hS₄ hlg₄ N₄ hs₄
  dsimp only
  refine wpAny_execs_nil (hQ h₄ tk₄ m₃ S₄ ns₄ F₄ (fun y h1 h2 h3 => (r₃ y h1 h2).trans ((if_neg h2).trans (r₁ y h1 h3))) W₄ (hS₃.trans hS₄) ?_ N₄ hs₄)
  rw [hlg₄, hlg₃]; rfl
end

end
section
local macro_rules | `(tactic| walk_at "pad") => `(tactic| fail)
local macro_rules | `(tactic| walk_at "pad") => `(tactic| fail)
/-- one round -/
noncomputable def readyG (st : List (Str × Int × List Str) × List Str) : List (Str × Int × List Str) := st.2.foldl (fun G a => setNp G a (-1)) st.1
noncomputable def kstep (st : List (Str × Int × List Str) × List Str) : List (Str × Int × List Str) × List Str := doneAll (readyG st, []) st.2
structure StepOk (st : List (Str × Int × List Str) × List Str) : Prop where
  inn : ∀ a ∈ st.2, a ∈ st.1.map (·.1)
  succ : ∀ e ∈ st.1, ∀ c ∈ e.2.2, c ∈ st.1.map (·.1) ∧ c ≠ e.1
  out : ∀ (i : Nat) a, st.2[i]? = some a → (ent (doneAll (readyG st, []) (st.2.take i)).1 a).1 = -1
  fin : (kstep st).2.length < 64
  len : st.2.length < 64
theorem setNp_fst (G a k) : (setNp G a k).map (·.1) = G.map (·.1) := by
  unfold setNp; rw [List.map_map]; refine List.map_congr_left fun e _ => ?_
  show (if e.1 = a then (e.1, k, e.2.2) else e).1 = e.1
  split <;> rfl
theorem setNp_succ {G : List (Str × Int × List Str)} {a : Str} {k : Int} : ∀ e ∈ setNp G a k, ∃ e' ∈ G, e'.1 = e.1 ∧ e'.2.2 = e.2.2 := by
  intro e he
  unfold setNp at he
  obtain ⟨e', he', rfl⟩ := List.mem_map.mp he
  refine ⟨e', he', ?_⟩
  split <;> exact ⟨rfl, rfl⟩
theorem readyG_fst : ∀ (R : List Str) (G : List (Str × Int × List Str)), (R.foldl (fun G a => setNp G a (-1)) G).map (·.1) = G.map (·.1)
  | [], _ => rfl
  | a :: R, G => (readyG_fst R (setNp G a (-1))).trans (setNp_fst G a (-1))
theorem readyG_succ : ∀ (R : List Str) (G : List (Str × Int × List Str)), ∀ e ∈ R.foldl (fun G a => setNp G a (-1)) G, ∃ e' ∈ G, e'.1 = e.1 ∧ e'.2.2 = e.2.2
  | [], _ => fun e he => ⟨e, he, rfl, rfl⟩
  | a :: R, G => fun e he => by
    obtain ⟨e1, h1, h2, h3⟩ := readyG_succ R (setNp G a (-1)) e he
    obtain ⟨e2, h4, h5, h6⟩ := setNp_succ e1 h1
    exact ⟨e2, h4, h5.trans h2, h6.trans h3⟩
noncomputable def rndWhile (w : World) : List Stmt := inner 4 (rndBody w)
section
variable {M : Model} {A : Around} {E : Value → Shared → Prop} {s : Shared} {K : Frag} {env : Env} {pos p : Pos} {first : List Value} {Q : Value → Shared → Prop} {e o : PySem.Expr} {name : Str} {apos : Pos} {q g : Addr} {self : Value}
theorem eval_star_meth
    (h : wpAny M A (eval o env) (fun ov s₁ => wpAny M A (getAttr ov name true) (fun f s₂ => wpAny M A (callWith pos f [] (backTo pos (starEach [.Starred e p] env)) []) Q E s₂) E s₁) E s)
    (he : eval (.Call (.Attribute o name apos) [.Starred e p] [] pos) env = (do
      let ov ← eval o env
      standAt apos.atName
      let (f, first) ← holding [ov] (do pure (← getAttr ov name true, []))
      callWith pos f first (backTo pos (starEach [.Starred e p] env)) []) := by with_unfolding_all rfl) :
    wpAny M A (eval (.Call (.Attribute o name apos) [.Starred e p] [] pos) env) Q E s := by
  rw [he]
  refine wpAny_bind (wpAny_mono h (fun ov s₁ h₁ => wpAny_bind (wpAny_standAt (wpAny_bind (wpAny_holding (wpAny_bind (wpAny_mono h₁ (fun f s₂ h₂ => wpAny_pure ?_) fun _ _ x => x)))))) fun _ _ x => x)
  exact h₂
theorem callWith_MS (hf : fnIn K g = true) (h : wpAny M A (eval e env) (fun v s₁ => StarOf M A E v (fun vs s₂ => MethP K q g self s₂.heap ∧ wpAny M A (call (.ref q) (first ++ vs)) Q E s₂) s₁) E s)
    (he : starEach [.Starred e p] env = [(true, eval e env)] := by rfl) :
    wpAny M A (callWith pos (.ref q) first (backTo pos (starEach [.Starred e p] env)) []) Q E s := by
  rw [he]
  exact ks_call rfl (keeps_M hf) (ks_lone h)
end
section
local macro_rules | `(tactic| k_steps) => `(tactic| (repeat' (first | (k_unfold; (try dsimp only)) | (walk1; (try dsimp only)) | (dsimp only; walk1; (try dsimp only)) | fail "no step")))
local macro_rules | `(tactic| walk_at "call builtin:dict.get") => `(tactic| first
  | (refine dget_some (by with_reducible assumption) (by k_mem) (by with_reducible assumption) (by with_reducible assumption) (by first | with_reducible assumption | (rename (∀ _, valueAt _ _ = some _) => hvv; exact hvv _)) ?_)
  | (refine dget_none (by with_reducible assumption) (by k_mem) (by with_reducible assumption) (by with_reducible assumption) (by first | with_reducible assumption | (rename (∀ _, valueAt _ _ = none) => hvv; exact hvv _)) ?_))
local macro_rules | `(tactic| k_ne) => `(tactic| (refine neN ?_; (try dsimp only); first | exact Df.to (by with_reducible assumption) | exact Df.from (by with_reducible assumption) | omega))
local macro_rules | `(tactic| k_room) => `(tactic| ((try simp only [depth_under_make, depth_under_kw, depth_in1, depth_deeper, depth_caller]); (try dsimp only [ktrTop]); omega))
local macro_rules | `(tactic| walk_at "setItem ref str") => `(tactic| (k_dflt (refine kda_set (knd := PySem.strKind _ _) (by k_asm) (by k_asm) (by k_updF) (by k_asm) (strKind_is _ _ _ _) (by first | with_reducible assumption | (rename (∀ _, List.length _ ≤ sizeLine) => hzz; exact hzz _)) ?_); intro h' o' F' N' hd'; (try dsimp only at N')))

local macro_rules | `(tactic| k_all) => `(tactic| with_reducible assumption)
local macro_rules | `(tactic| walk_at "call builtin:list.append") => `(tactic| (k_dflt (refine append_K (by with_reducible assumption) (by with_reducible assumption) (by k_upd) ?_ (by with_reducible assumption)); intro h' F' N'; (try dsimp only at N')))
theorem rnd_round {w : World} {dp un : Nat} {gd : Option (List Code)} {qual : Str} {sc cs : Scope} {f : Addr} {cdv : Value} {outer : List Env} {base g : Heap} {A : Around} {L : Addr} {m : Str → Option Value} {s : Shared} {p : Program} {loose : List Str} {mean : ExcName → Option Value} {mg mb : Str → Option Value}
    {own : List (Addr × Obj)} {S : Srt} {ns : List Nd} {r : Addr} {rs : Array Value} {re b : Nat} {names : List Str} {rl : Addr} {rv : Array Value} {e1 : Nat}
    (B : Below A base outer g) (F : Fr g L s.heap m) (X : (Mine.hd.heap_1 w.params).In g) (T : Top p loose mean mg mb g) (N : News g L s.heap (led4 S r rs re ns ++ (rl, PySem.W.listOf rv e1) :: own)) (hsep : ∀ q ∈ (rl, PySem.W.listOf rv e1) :: own, q.1 ∉ (led4 S r rs re ns).map (·.1))
    (hrlo : ∀ q ∈ own, q.1 ≠ rl) (m1 : m "rounds" = some (.ref rl)) (m2 : m "sorter" = some (.ref S.self)) (W : Wf2 w S r ns b) (hrs : StrsAre rs.toList names) (hst : StepOk (lg ns, names)) (hb : b ≤ 1000) (hpn : S.nf = S.po) (hrz : rv.size ≤ sizeLine) (hne : names ≠ [])
    (hcs : cs = rndSc w sc) (hdp : dp + 60 < recursionLimit) (hun : un + 600 < cLine) {Q : Flow → Shared → Prop} {E : Value → Shared → Prop}
    (hQ : ∀ h' tk m' S' ns' rs' re' D vs' ss' e₂, Fr g L h' m' → (∀ y, y ≠ Str.ofString "ready" → m' y = m y) → Wf2 w S' r ns' b → S'.self = S.self → S'.nf = S'.po → StrsAre rs'.toList (kstep (lg ns, names)).2 → lg ns' = (kstep (lg ns, names)).1 →
      News g L h' (led4 S' r rs' re' ns' ++ (rl, PySem.W.listOf (rv.push (.ref D)) (e1 + 1)) :: (D, PySem.W.listOf (List.toArray vs') e₂) :: own) → (∀ q ∈ (rl, PySem.W.listOf (rv.push (.ref D)) (e1 + 1)) :: (D, PySem.W.listOf (List.toArray vs') e₂) :: own, q.1 ∉ (led4 S' r rs' re' ns').map (·.1)) →
      (∀ q ∈ own, q.1 ≠ D) → D ≠ rl → StrsAre vs' ss' → ss'.Perm names → sortedS ss' = true → Q .next { s with heap := h', toks := tk }) :
    wpAny (model PR w) (ktrTop dp un gd qual cs L f cdv [] outer) (execs (rndWhile w) (envOf qual cs L f cdv)) Q E s := by
  unfold rndWhile rndBody
  with_unfolding_all (conv in inner _ _ => whnf)
  unfold rndSc at hcs
  with_unfolding_all (conv at hcs => rhs; whnf)
  subst hcs
  have hlen : names.length < 64 := hst.len
  have hin : ∀ a ∈ names, ∃ d ∈ ns, d.nm = a := fun a ha => by
    have := hst.inn a ha
    rw [lg_fst] at this
    exact List.mem_map.mp this
  have hpin : ∀ p ∈ [(Str.ofString "rounds", Value.ref rl), (Str.ofString "sorter", .ref S.self)], m p.1 = some p.2 := by
    intro p hp; simp only [List.mem_cons, List.not_mem_nil, or_false] at hp; rcases hp with rfl | rfl <;> assumption
  have hpe := pins_eq _ hpin
  have F₂ := fr_pins F _ hpin
  clear F
  k_unmd
  repeat' (first | (k_unfold; (try dsimp only)) | ((fail_if_success (with_reducible show wpAny _ _ (call (Value.ref 124) _) _ _ _)); first | (walk1; (try dsimp only)) | (dsimp only; walk1; (try dsimp only))) | fail "no step")
  refine call_led (getready_spec W hrs (by omega) hne hin) B F₂ X T N hsep trivial (by omega) (by omega) rfl ?_
  intro v h₁ tk₁ news₁ F₃ N₃ hs₃ hpat
  obtain ⟨tt, S₁, ns₁, re₁, rfl, W₁, hm₁, htm, hto, hself, hpo, hnf, hlg⟩ := hpat
  have N₄ : News g L h₁ ((rl, PySem.W.listOf rv e1) :: (led4 S₁ r #[] re₁ ns₁ ++ (tt, ({ cls := .type "tuple", data := .seq rs } : Obj)) :: own)) := fun q hq => N₃ q (by
    simp only [List.mem_cons, List.mem_append] at hq ⊢
    rcases hq with h | h | h | h
    · exact .inr (.inl h)
    · exact .inl (hm₁ q h)
    · exact .inl (h ▸ htm)
    · exact .inr (.inr h))
  have hrl : ∀ q ∈ led4 S₁ r #[] re₁ ns₁ ++ (tt, ({ cls := .type "tuple", data := .seq rs } : Obj)) :: own, q.1 ≠ rl := by
    intro q hq e
    simp only [List.mem_cons, List.mem_append] at hq
    rcases hq with hq | rfl | hq
    · exact hs₃ (rl, _) (.head _) (show rl ∈ news₁.map (·.1) from by rw [← e]; exact List.mem_map_of_mem (hm₁ q hq))
    · exact hs₃ (rl, _) (.head _) (show rl ∈ news₁.map (·.1) from by rw [← show tt = rl from e]; exact List.mem_map_of_mem htm)
    · exact hrlo q hq e
  have hsepA : ∀ q ∈ (rl, PySem.W.listOf rv e1) :: own, q.1 ∉ (led4 S₁ r #[] re₁ ns₁).map (·.1) := fun q hq hm => hs₃ q hq (by
    obtain ⟨q', hq', hqe⟩ := List.mem_map.mp hm
    rw [← hqe]; exact List.mem_map_of_mem (hm₁ q' hq'))
  clear N₃ N
  repeat' (first | (k_unfold; (try dsimp only)) | ((fail_if_success (with_reducible show wpAny _ _ (call (Value.builtin "sorted") _) _ _ _)); first | (walk1; (try dsimp only)) | (dsimp only; walk1; (try dsimp only))) | fail "no step")
  rename Fr _ _ _ _ => F₅
  rename News _ _ _ _ => N₅
  refine sorted_seq F₅ N₅ (N₅ _ (.tail _ (List.mem_append_right _ (.head _)))).1 (.inr rfl) rfl rfl hrs hlen ?_
  intro D h₂ vs' ss' e₂ F₆ N₆ hD1 hD2 hvs hperm hsorted
  clear F₅ N₅
  have hDrl : Df D rl := fun e => by
    have := hD1 (rl, PySem.W.listOf rv e1) (.head _)
    rw [e] at this; exact Nat.lt_irrefl _ this
  repeat' (first | (k_unfold; (try dsimp only)) | ((fail_if_success (with_reducible show wpAny _ _ (call (Value.ref 145) _) _ _ _)); first | (walk1; (try dsimp only)) | (dsimp only; walk1; (try dsimp only))) | fail "no step")
  refine eval_star_meth ?_
  repeat' (first | (k_unfold; (try dsimp only)) | ((fail_if_success (with_reducible show wpAny _ _ (getAttr (Value.ref S.self) _ _) _ _ _)); first | (walk1; (try dsimp only)) | (dsimp only; walk1; (try dsimp only))) | fail "no step")
  rw [← hself]
  k_steps
  rename Fr _ _ _ _ => F₈
  rename News _ _ _ _ => N₈
  rename_i q₈ h₈ l₈
  refine callWith_MS (K := Mine.hd.heap_1 w.params) (g := 145) (self := .ref S₁.self) (q := q₈) (by with_unfolding_all rfl) ?_
  k_steps
  have hmt : (tt, ({ cls := .type "tuple", data := .seq rs } : Obj)) ∈ (q₈, methodObj (.ref 145) (.ref S₁.self)) :: (D, PySem.W.listOf vs'.toArray e₂) :: (rl, PySem.W.listOf (rv.push (.ref D)) (e1 + 1)) :: (led4 S₁ r #[] re₁ ns₁ ++ (tt, ({ cls := .type "tuple", data := .seq rs } : Obj)) :: own) :=
    .tail _ (.tail _ (.tail _ (List.mem_append_right _ (.head _))))
  refine star_seq F₈ N₈ hmt rfl rfl (.inr rfl) rfl (by have := hrs.length; rw [sizeLine_eq]; simp at this; omega) ?_
  intro h₉ F₉ N₉
  have hfst : (lg ns₁).map (·.1) = (lg ns).map (·.1) := by rw [hlg]; exact readyG_fst _ _
  have hin₁ : ∀ a ∈ names, ∃ d ∈ ns₁, d.nm = a := fun a ha => by
    have := hst.inn a ha
    rw [← hfst, lg_fst] at this
    exact List.mem_map.mp this
  have hsucc₁ : ∀ d ∈ ns₁, ∀ c ∈ d.sv.toList.map strOf, ∃ e ∈ ns₁, e.nm = c ∧ e.nm ≠ d.nm := fun d hd c hc => by
    have h1 : (d.nm, d.np, d.sv.toList.map strOf) ∈ lg ns₁ := List.mem_map.mpr ⟨d, hd, rfl⟩
    rw [hlg] at h1
    obtain ⟨e', he', h2, h3⟩ := readyG_succ _ _ _ h1
    obtain ⟨h4, h5⟩ := hst.succ e' he' c (by rw [h3]; exact hc)
    rw [show ((lg ns, names).1).map (·.1) = (lg ns₁).map (·.1) from hfst.symm, lg_fst] at h4
    obtain ⟨e, he, hec⟩ := List.mem_map.mp h4
    exact ⟨e, he, hec, by rw [hec]; rw [← show e'.1 = d.nm from h2]; exact h5⟩
  have hlgr : lg ns₁ = readyG (lg ns, names) := hlg
  refine ⟨methP N₉ (.head _) (X.keeps F₉.keep), call_meth N₉ (.head _) (code_led (news := led4 S₁ r #[] re₁ ns₁) (own := (rl, PySem.W.listOf (rv.push (.ref D)) (e1 + 1)) :: (D, PySem.W.listOf vs'.toArray e₂) :: own)
    (done_spec (R := []) (names := names) W₁ .nil hrs (by omega) hb hin₁ hsucc₁ (by rw [hlgr]; exact hst.out) (by rw [hlgr]; exact Nat.le_of_lt (Nat.lt_trans hst.fin (by decide)))) B F₉ X T (fun q hq => N₉ q ?_) ?_ trivial (by omega) (by omega) rfl ?_)⟩
  · simp only [List.mem_cons, List.mem_append] at hq ⊢
    rcases hq with h | h | h | h
    · exact .inr (.inr (.inr (.inl h)))
    · exact .inr (.inr (.inl h))
    · exact .inr (.inl h)
    · exact .inr (.inr (.inr (.inr (.inr h))))
  · intro q hq hm
    simp only [List.mem_cons] at hq
    rcases hq with rfl | rfl | hq
    · exact hsepA (rl, _) (.head _) hm
    · obtain ⟨q', hq', hqe⟩ := List.mem_map.mp hm
      have := hD1 q' (.tail _ (List.mem_append_left _ hq'))
      rw [hqe] at this; exact Nat.lt_irrefl _ this
    · exact hsepA q (.tail _ hq) hm
  · intro v h' tk' news' F₁₀ N₁₀ hs₁₀ hpat
    obtain ⟨S₂, ns₂, rs₂, re₂, rfl, W₂, hm₂, hrs₂, hlg₂, hself₂, hnf₂, hpo₂⟩ := hpat
    refine wpAny_execs_nil (hQ h' tk' _ S₂ ns₂ rs₂ re₂ D vs' ss' e₂ F₁₀ (fun y hy => (if_neg hy).trans (congrFun hpe y)) W₂ (hself₂.trans hself) (by omega) (by rw [hlgr] at hrs₂; exact hrs₂) (by rw [hlgr] at hlg₂; exact hlg₂) (fun q hq => N₁₀ q ?_) (fun q hq hm => hs₁₀ q hq ?_) (fun q hq e => ?_) hDrl hvs hperm hsorted)
    · exact (List.mem_append.mp hq).elim (fun h => List.mem_append_left _ (hm₂ q h)) (List.mem_append_right _)
    · obtain ⟨q', hq', hqe⟩ := List.mem_map.mp hm
      rw [← hqe]; exact List.mem_map_of_mem (hm₂ q' hq')
    · have := hD1 q (.tail _ (List.mem_append_right _ (.tail _ hq)))
      rw [e] at this; exact Nat.lt_irrefl _ this
end

end
section
local macro_rules | `(tactic| walk_at "pad") => `(tactic| fail)
noncomputable def kinit (G : List (Str × Int × List Str)) : List (Str × Int × List Str) × List Str := (G, (G.filter fun e => decide (e.2.1 = 0)).map (·.1))
noncomputable def krounds : Nat → List (Str × Int × List Str) × List Str → List (List Str)
  | 0, _ => []
  | n + 1, st => if st.2 = [] then [] else st.2 :: krounds n (kstep st)
noncomputable def RunOk : Nat → List (Str × Int × List Str) × List Str → Prop
  | 0, st => st.2 = []
  | n + 1, st => st.2 = [] ∨ (StepOk st ∧ RunOk n (kstep st))
inductive SortedOf : List (List Str) → List (List Str) → Prop
  | nil : SortedOf [] []
  | cons {r r' : List Str} {a b : List (List Str)} : r.Perm r' → sortedS r = true → SortedOf a b → SortedOf (r :: a) (r' :: b)
theorem SortedOf.snoc {r r' : List Str} (h1 : r.Perm r') (h2 : sortedS r = true) : ∀ {a b : List (List Str)}, SortedOf a b → SortedOf (a ++ [r]) (b ++ [r'])
  | _, _, .nil => .cons h1 h2 .nil
  | _, _, .cons x y z => .cons x y (z.snoc h1 h2)
/-- lists of texts in a ledger -/
noncomputable def ListsIn (news : List (Addr × Obj)) (rv : Array Value) (rr : List (List Str)) : Prop :=
  rv.size = rr.length ∧ ∀ (i : Nat) r, rr[i]? = some r → ∃ (a : Addr) (vs : List Value) (e : Nat), rv[i]? = some (.ref a) ∧ (a, PySem.W.listOf vs.toArray e) ∈ news ∧ StrsAre vs r
theorem ListsIn.mono {news news' : List (Addr × Obj)} {rv : Array Value} {rr : List (List Str)} (h : ListsIn news rv rr) (hs : ∀ q ∈ news, q ∈ news') : ListsIn news' rv rr :=
  ⟨h.1, fun i r hr => let ⟨a, vs, e, h1, h2, h3⟩ := h.2 i r hr; ⟨a, vs, e, h1, hs _ h2, h3⟩⟩
theorem ListsIn.snoc {news : List (Addr × Obj)} {rv : Array Value} {rr : List (List Str)} {D : Addr} {vs : List Value} {e : Nat} {r : List Str} (h : ListsIn news rv rr) (hv : StrsAre vs r) : ListsIn ((D, PySem.W.listOf vs.toArray e) :: news) (rv.push (.ref D)) (rr ++ [r]) := by
  obtain ⟨h1, h2⟩ := h
  refine ⟨by simp [h1], fun i r' hr => ?_⟩
  by_cases hi : i < rr.length
  · rw [List.getElem?_append_left hi] at hr
    obtain ⟨a, vs', e', h3, h4, h5⟩ := h2 i r' hr
    refine ⟨a, vs', e', ?_, .tail _ h4, h5⟩
    rw [Array.getElem?_push_lt (by omega)]
    rw [Array.getElem?_eq_getElem (by omega)] at h3
    exact h3
  · have : i = rr.length := by
      have := (List.getElem?_eq_some_iff.mp hr).1
      simp at this; omega
    subst this
    rw [List.getElem?_concat_length] at hr
    cases hr
    refine ⟨D, vs, e, ?_, .head _, hv⟩
    rw [← h1, Array.getElem?_push_size]
theorem kinit_lg (ns : List Nd) : (kinit (lg ns)).2 = (ns.filter fun d => decide (d.np = 0)).map (·.nm) := by
  show ((lg ns).filter fun e => decide (e.2.1 = 0)).map (·.1) = _
  unfold lg
  rw [List.filter_map, List.map_map]; rfl
theorem led4_ads {S : Srt} {r : Addr} {rs : Array Value} {re : Nat} {ns : List Nd} : ∀ q ∈ led4 S r rs re ns, q.1 ∈ S.ads ∨ q.1 = r ∨ ∃ d ∈ ns, q.1 ∈ d.ads := by
  intro q hq
  simp only [led4, List.mem_append, List.mem_cons] at hq
  rcases hq with h | h | h
  · exact .inl (List.mem_map_of_mem (f := (·.1)) h)
  · exact .inr (.inl (by rw [h]))
  · obtain ⟨d, hd, h⟩ := List.mem_flatMap.mp h
    exact .inr (.inr ⟨d, hd, List.mem_map_of_mem (f := (·.1)) h⟩)
theorem krounds_nil {n : Nat} {st : List (Str × Int × List Str) × List Str} (h : st.2 = []) : krounds n st = [] := by
  cases n with
  | zero => rfl
  | succ n => rw [krounds, if_pos h]
noncomputable def rndRest (w : World) : List Stmt := (rndBody w).drop 2
section
local macro_rules | `(tactic| k_steps) => `(tactic| (repeat' (first | (k_unfold; (try dsimp only)) | (walk1; (try dsimp only)) | (dsimp only; walk1; (try dsimp only)) | fail "no step")))
local macro_rules | `(tactic| walk_at "call builtin:dict.get") => `(tactic| first
  | (refine dget_some (by with_reducible assumption) (by k_mem) (by with_reducible assumption) (by with_reducible assumption) (by first | with_reducible assumption | (rename (∀ _, valueAt _ _ = some _) => hvv; exact hvv _)) ?_)
  | (refine dget_none (by with_reducible assumption) (by k_mem) (by with_reducible assumption) (by with_reducible assumption) (by first | with_reducible assumption | (rename (∀ _, valueAt _ _ = none) => hvv; exact hvv _)) ?_))
local macro_rules | `(tactic| k_ne) => `(tactic| (refine neN ?_; (try dsimp only); first | exact Df.to (by with_reducible assumption) | exact Df.from (by with_reducible assumption) | omega))
local macro_rules | `(tactic| k_room) => `(tactic| ((try simp only [depth_under_make, depth_under_kw, depth_in1, depth_deeper, depth_caller]); (try dsimp only [ktrTop]); omega))
local macro_rules | `(tactic| walk_at "setItem ref str") => `(tactic| (k_dflt (refine kda_set (knd := PySem.strKind _ _) (by k_asm) (by k_asm) (by k_updF) (by k_asm) (strKind_is _ _ _ _) (by first | with_reducible assumption | (rename (∀ _, List.length _ ≤ sizeLine) => hzz; exact hzz _)) ?_); intro h' o' F' N' hd'; (try dsimp only at N')))

local macro_rules | `(tactic| walk_at "exec While") => `(tactic| (k_dflt (refine wpAny_While ?_)))
local macro_rules | `(tactic| walk_at "exec While Call") => `(tactic| (k_dflt (refine wpAny_While ?_)))
local macro_rules | `(tactic| walk_at "exec While Call cons nil") => `(tactic| (k_dflt (refine wpAny_While ?_)))
theorem rnd_rest {w : World} {dp un : Nat} {gd : Option (List Code)} {qual : Str} {sc cs : Scope} {f : Addr} {cdv : Value} {outer : List Env} {base g : Heap} {A : Around} {L : Addr} {m : Str → Option Value} {s : Shared} {p : Program} {loose : List Str} {mean : ExcName → Option Value} {mg mb : Str → Option Value}
    {S : Srt} {ns : List Nd} {b n : Nat} {lv : Str → Nat}
    (B : Below A base outer g) (F : Fr g L s.heap m) (Xb : (Mine.hd.heap_1 w.params).In base) (Tb : Top p loose mean mg mb base) (N : News g L s.heap (led S ns))
    (m2 : m "sorter" = some (.ref S.self)) (W : Wf w S ns b) (hrv : S.rv = .none) (hb : b ≤ 1000) (hpn : S.nf = S.po)
    (hlv : ∀ d ∈ ns, ∀ c ∈ d.sv.toList.map strOf, lv d.nm < lv c ∧ ∃ e ∈ ns, e.nm = c) (hrun : RunOk n (kinit (lg ns))) (hn : n ≤ 100)
    (hcs : cs = rndSc w sc) (hdp : dp + 78 < recursionLimit) (hun : un + 790 < cLine) {Q : Flow → Shared → Prop} {E : Value → Shared → Prop}
    (hQ : ∀ h' tk news' l rv e rr, KeptS (outer.filterMap (·.frame)) g h' [] → (∀ q ∈ news', h'.get? q.1 = some q.2 ∧ g.get? q.1 = none) → (l, PySem.W.listOf rv e) ∈ news' → ListsIn news' rv rr → SortedOf rr (krounds n (kinit (lg ns))) → Q (.ret (.ref l)) { s with heap := h', toks := tk }) :
    wpAny (model PR w) (ktrTop dp un gd qual cs L f cdv [] outer) (execs (rndRest w) (envOf qual cs L f cdv)) Q E s := by
  have hcs' := hcs
  unfold rndRest rndBody
  with_unfolding_all (conv in List.drop _ _ => whnf)
  unfold rndSc at hcs
  with_unfolding_all (conv at hcs => rhs; whnf)
  subst hcs
  have X := Xb.keeps B.stays
  have T := Tb.keeps B.stays
  have hpin : ∀ p ∈ [(Str.ofString "sorter", Value.ref S.self)], m p.1 = some p.2 := by
    intro p hp; simp only [List.mem_cons, List.not_mem_nil, or_false] at hp; subst hp; exact m2
  have hpe := pins_eq _ hpin
  have F₂ := fr_pins F _ hpin
  clear F
  k_unmd
  repeat' (first | (k_unfold; (try dsimp only)) | ((fail_if_success (with_reducible show wpAny _ _ (call (Value.ref 117) _) _ _ _)); first | (walk1; (try dsimp only)) | (dsimp only; walk1; (try dsimp only))) | fail "no step")
  refine prepare_spec W hrv hb hlv dp un gd _ _ f cdv [] outer A base g L _ p loose mean mg mb _ _ _ B F₂ Xb N Tb rfl (by omega) (by omega) trivial ?_
  intro v h₁ tk₁ news₁ hk hn₁ hpat
  obtain ⟨rfl, S₁, r, rs, re, W₁, hm₁, hrs, hself, hpo, hnf⟩ := hpat
  obtain ⟨g₂, R⟩ := reground B F₂ Xb Tb N (env := envX qual _ L f cdv []) rfl hk
  rw [← kinit_lg] at hrs
  have Bg := R.B
  have F₃ := R.F
  have Xg := R.X
  have Tg := R.T
  obtain ⟨oL, es, ep, hL, hLr⟩ := id F₂.ns
  have N₃ : News g₂ L h₁ (led4 S₁ r rs re ns) := fun q hq => by
    obtain ⟨h1, h2⟩ := hn₁ q (hm₁ q hq)
    refine ⟨h1, fun e => ?_, ?_⟩
    · rcases h2 with h2 | h2
      · rw [e, hL] at h2; cases h2
      · obtain ⟨q', hq', hqe⟩ := List.mem_map.mp h2
        exact (N q' hq').2.1 (hqe.trans e)
    · refine R.none _ ?_
      rcases h2 with h2 | h2
      · cases e : g.get? q.1 with
        | none => rfl
        | some o => rw [F₂.keep _ _ e] at h2; cases h2
      · obtain ⟨q', hq', hqe⟩ := List.mem_map.mp h2
        rw [← hqe]; exact (N q' hq').2.2
  have hgn : ∀ b, g₂.get? b = none → g.get? b = none := fun b hb' => by
    cases e : g.get? b with
    | none => rfl
    | some o =>
      obtain ⟨_, sl, q⟩ := R.K b o e (by simp)
      rw [hb'] at q; cases q
  have hpe' := hpe
  clear X T N F₂
  repeat' (first | (k_unfold; (try dsimp only)) | ((fail_if_success (with_reducible show codeAny _ _ (Code.whileLoop _ _ _ _) _ _)); first | (walk1; (try dsimp only)) | (dsimp only; walk1; (try dsimp only))) | fail "no step")
  rename Fr _ _ _ _ => F₄
  rename News _ _ _ _ => N₄
  rename_i rl hA hl1 hB
  refine whileJ (R := _) F₄ N₄ (fun μ m' news' => m' (Str.ofString "rounds") = some (.ref rl) ∧ m' (Str.ofString "sorter") = some (.ref S.self) ∧ ∃ (S' : Srt) (ns' : List Nd) (rs' : Array Value) (re' : Nat) (st : List (Str × Int × List Str) × List Str) (rv : Array Value) (e : Nat) (rr doneR : List (List Str)) (own : List (Addr × Obj)),
      lg ns' = st.1 ∧ StrsAre rs'.toList st.2 ∧ RunOk μ st ∧ doneR ++ krounds μ st = krounds n (kinit (lg ns)) ∧ SortedOf rr doneR ∧ Wf2 w S' r ns' b ∧ S'.self = S.self ∧ S'.nf = S'.po ∧ ListsIn own rv rr ∧ rr.length + μ ≤ n ∧ (∀ q ∈ (rl, PySem.W.listOf rv e) :: own, q.1 ∉ (led4 S' r rs' re' ns').map (·.1)) ∧ (∀ q ∈ own, q.1 ≠ rl) ∧
      news' = (rl, PySem.W.listOf rv e) :: (led4 S' r rs' re' ns' ++ own)) n
    ⟨rfl, rfl, S₁, ns, rs, re, kinit (lg ns), #[], 0, [], [], [], rfl, hrs, hrun, rfl, .nil, W₁, hself, by omega, ⟨rfl, fun i r hr => by simp at hr⟩, by simp, fun q hq hm => ?_, fun q hq => (nomatch hq), by rw [List.append_nil]⟩ ?turn
  · rw [List.mem_singleton] at hq
    subst hq
    obtain ⟨q', hq', hqe⟩ := List.mem_map.mp hm
    have := hl1 q' hq'
    rw [hqe] at this; exact Nat.lt_irrefl _ this
  intro μ m' news' h tk hpat F₅ N₅
  obtain ⟨e1, e2, S', ns', rs', re', st, rv, e, rr, doneR, own, hlg, hrs', hrn, hkr, hso, W', hself', hpn', hli, hlen, hsep, hrlo, rfl⟩ := hpat
  have hst2 : st.2.length = rs'.size := by have := hrs'.length; simpa using this.symm
  have hpin₅ : ∀ p ∈ [(Str.ofString "sorter", Value.ref S'.self), (Str.ofString "rounds", .ref rl)], m' p.1 = some p.2 := by
    intro p hp; simp only [List.mem_cons, List.not_mem_nil, or_false] at hp; rcases hp with rfl | rfl
    · rw [hself']; exact e2
    · exact e1
  have hpe₅ := pins_eq _ hpin₅
  have F₆ := fr_pins F₅ _ hpin₅
  have N₆ : News g₂ L h (led4 S' r rs' re' ns' ++ (rl, PySem.W.listOf rv e) :: own) := fun q hq => N₅ q (by
    simp only [List.mem_append, List.mem_cons] at hq ⊢
    rcases hq with h | h | h
    · exact .inr (.inl h)
    · exact .inl h
    · exact .inr (.inr h))
  have hl64 : rs'.size < 64 := by
    cases μ with
    | zero => rw [← hst2, show st.2 = [] from hrn]; decide
    | succ k =>
      rcases hrn with h | h
      · rw [← hst2, h]; decide
      · rw [← hst2]; exact h.1.len
  clear F₄ N₄ F₅ N₅
  k_unmd
  repeat' (first | (k_unfold; (try dsimp only)) | ((fail_if_success (with_reducible show wpAny _ _ (call (Value.ref 131) _) _ _ _)); first | (walk1; (try dsimp only)) | (dsimp only; walk1; (try dsimp only))) | fail "no step")
  rename Fr _ _ _ _ => F₇
  refine call_led (active_spec W' hpn' (by omega)) Bg F₇ Xg Tg N₆ hsep trivial (by omega) (by omega) rfl ?_
  intro v h₂ tk₂ news₂ F₈ N₈ hs₈ hpat
  obtain ⟨rfl, rfl⟩ := hpat
  clear F₇ N₆
  by_cases hz : st.2 = []
  · rw [show decide (rs'.size ≠ 0) = false by rw [← hst2, hz]; rfl]
    rw [krounds_nil hz, List.append_nil] at hkr
    subst hkr
    k_steps
    rename Fr _ _ _ _ => F₉
    exact hQ _ _ ((rl, PySem.W.listOf rv e) :: own) rl rv e rr (R.K.trans (.of fun b o e _ => F₉.keep b o e)) (fun q hq => ⟨(N₈ q (List.mem_append_right _ hq)).1, hgn _ (N₈ q (List.mem_append_right _ hq)).2.2⟩) (.head _) (hli.mono fun q hq => .tail _ hq) hso
  · rw [show decide (rs'.size ≠ 0) = true by rw [← hst2]; exact decide_eq_true fun e => hz (List.eq_nil_of_length_eq_zero e)]
    obtain ⟨k, rfl⟩ : ∃ k, μ = k + 1 := by
      cases μ with
      | zero => exact absurd hrn hz
      | succ k => exact ⟨k, rfl⟩
    obtain ⟨hok, hrn'⟩ : StepOk st ∧ RunOk k (kstep st) := hrn.resolve_left hz
    rw [krounds, if_neg hz] at hkr
    repeat' (first | (k_unfold; (try dsimp only)) | ((fail_if_success (with_reducible show wpAny _ _ (execs (Stmt.Assign _ _ _ :: _) _) _ _ _)); first | (walk1; (try dsimp only)) | (dsimp only; walk1; (try dsimp only))) | fail "no step")
    rename Fr _ _ _ _ => F₉
    have hste : st = (lg ns', st.2) := Prod.ext hlg.symm rfl
    have key := fun Q E => rnd_round (sc := sc) (s := { s with heap := h₂, toks := tk₂ }) (dp := dp) (un := un) (gd := gd) (qual := qual) (f := f) (cdv := cdv) (outer := outer) (Q := Q) (E := E) Bg (fr_eq F₉ (congrFun hpe₅)) Xg Tg N₈ hs₈ hrlo e1 (e2.trans (by rw [hself'])) W' hrs' (hste ▸ hok) hb hpn' (by rw [hli.1, sizeLine_eq]; omega) hz hcs' (by omega) (by omega)
    with_unfolding_all refine key _ _ ?_
    intro h₃ tk₃ m₃ S₃ ns₃ rs₃ re₃ D vs' ss' e₃ F₁₀ hm₁₀ W₃ hself₃ hpn₃ hrs₃ hlg₃ N₁₀ hs₁₀ hoD hDrl hvs hperm hsorted
    rw [← hste] at hrs₃ hlg₃
    refine turnOk_ ((rl, PySem.W.listOf (rv.push (.ref D)) (e + 1)) :: (led4 S₃ r rs₃ re₃ ns₃ ++ (D, PySem.W.listOf (List.toArray vs') e₃) :: own)) F₁₀ N₁₀ (fun q hq => ?_) (fun q hq hm => nomatch hm)
      ⟨k, Nat.lt_succ_self _, (hm₁₀ _ (by decide)).trans e1, (hm₁₀ _ (by decide)).trans e2, S₃, ns₃, rs₃, re₃, kstep st, rv.push (.ref D), e + 1, rr ++ [ss'], doneR ++ [st.2], (D, PySem.W.listOf (List.toArray vs') e₃) :: own, hlg₃, hrs₃, hrn', by rw [List.append_assoc]; exact hkr, hso.snoc hperm hsorted, W₃, hself₃.trans hself', hpn₃, hli.snoc hvs, by rw [List.length_append, List.length_singleton]; omega, hs₁₀, fun q hq => ?_, rfl⟩
    · simp only [List.append_nil, List.mem_cons, List.mem_append] at hq ⊢
      rcases hq with h | h | h | h
      · exact .inr (.inl h)
      · exact .inl h
      · exact .inr (.inr (.inl h))
      · exact .inr (.inr (.inr h))
    · rcases List.mem_cons.mp hq with rfl | hq
      · exact hDrl
      · exact hrlo q hq
end

end
section
section
variable {prog : Program} {w : World} {A : Around} {s : Shared} {env : Env} {h₀ : Heap}
theorem forJM {R : Result → Shared → Prop} {target : Expr} {body : List Stmt} {I : Addr} {fp wr : List Addr} {n : Nat} {P : Nat → Value → Prop} {St : Nat → Heap → Prop} {m : Str → Option Value}
    {news : List (Addr × Obj)} (W : Walks prog w A I fp wr n P St)
    (hlet : ∀ i v (s : Shared) (Q : Unit → Shared → Prop) E, P i v → St (i + 1) s.heap → Q () s → wpAny (model prog w) A (letOwnedTupleGo target (.ref I) v) Q E s)
    (hLf : env.locals ∉ fp) (hwr : ∀ b ∈ wr, h₀.get? b = none) (hnw : ∀ p ∈ news, p.1 ∉ wr)
    (hst : St 0 s.heap) (F : Fr h₀ env.locals s.heap m) (N : News h₀ env.locals s.heap news)
    (J : Nat → (Str → Option Value) → List (Addr × Obj) → Prop) (h0 : J 0 m news)
    (turn : ∀ i v m₁ news₁ own h tk, i < n → P i v → J i m₁ news₁ → (∀ p ∈ news₁, p.1 ∉ wr) → (∀ p ∈ own, p.1 ∈ fp) → (∀ b ∈ fp, ∀ o, h₀.get? b = none → h.get? b = some o → (b, o) ∈ own) → St (i + 1) h →
      Fr h₀ env.locals h m₁ → News h₀ env.locals h (news₁ ++ own) →
      wpAny (model prog w) A (assign target env v) (fun _ s₂ => wpAny (model prog w) A (execs body env) (TurnEnd h₀ env.locals own wr (J (i + 1)) s R) NoE s₂) NoE { s with heap := h, toks := tk })
    (done : ∀ h' tk m' news', Fr h₀ env.locals h' m' → News h₀ env.locals h' news' → (∀ p ∈ news', p.1 ∉ wr) → J n m' news' → R (.ok .next) { s with heap := h', toks := tk }) :
    codeAny (model prog w) A (.forLoop target (.ref I) body [] env) R s := by
  have hLw : env.locals ∉ wr := fun h => hLf (W.sub _ h)
  have old : ∀ b o, h₀.get? b = some o → b ∉ wr := fun b o e hb => by rw [hwr b hb] at e; cases e
  refine codeAny_forLoop_any
    (fun k s' => ∃ h' tk m' news' i, s' = { s with heap := h', toks := tk } ∧ St i h' ∧ Fr h₀ env.locals h' m' ∧ News h₀ env.locals h' news' ∧ (∀ p ∈ news', p.1 ∉ wr) ∧ J i m' news' ∧ i ≤ n ∧ k = n + 1 - i) ?_ (n + 1)
    ⟨s.heap, s.toks, m, news, 0, rfl, hst, F, N, hnw, h0, Nat.zero_le _, rfl⟩
  rintro k s' ⟨h', tk, m', news', i, rfl, hst', F', N', hnw', hJ, hi, rfl⟩
  have next : ∀ h₁ : Heap, (∀ b o, b ∉ wr → h'.get? b = some o → h₁.get? b = some o) → Fr h₀ env.locals h₁ m' ∧ News h₀ env.locals h₁ news' := fun h₁ hk₁ =>
    ⟨⟨F'.ns.at' fun o e => hk₁ _ o hLw e, fun b o e => hk₁ b o (old b o e) (F'.keep b o e), F'.above⟩, fun p hp => ⟨hk₁ _ _ (hnw' p hp) (N' p hp).1, (N' p hp).2⟩⟩
  by_cases hlt : i < n
  · refine W.item i _ _ _ hlt hst' fun v h₁ tk₁ hP hst₁ hk₁ => ?_
    obtain ⟨F₁, N₁⟩ := next h₁ hk₁
    refine hlet i v _ _ _ hP hst₁ ?_
    have Nown : News h₀ env.locals h₁ (ownOf h₀ fp h₁) := news_ownOf hLf
    refine wpAny_mono (turn i v m' news' (ownOf h₀ fp h₁) h₁ tk₁ hlt hP hJ hnw' ownOf_sub (fun b hb o hn e => mem_ownOf hb hn e) hst₁ F₁ (fun p hp => (List.mem_append.mp hp).elim (N₁ p) (Nown p))) (fun _ s₂ h₂ => wpAny_mono h₂ (fun f s₃ h₃ => ?_) fun _ _ e => e.elim) fun _ _ e => e.elim
    have fin : TurnOk h₀ env.locals (ownOf h₀ fp h₁) wr (J (i + 1)) s s₃ → ∃ m, m < n + 1 - i ∧ ∃ h' tk m' news' i, s₃ = { s with heap := h', toks := tk } ∧ St i h' ∧ Fr h₀ env.locals h' m' ∧ News h₀ env.locals h' news' ∧ (∀ p ∈ news', p.1 ∉ wr) ∧ J i m' news' ∧ i ≤ n ∧ m = n + 1 - i := by
      rintro ⟨h₃', tk₃, m₂, news₂, rfl, F₃, N₃, ha₃, hJ₃⟩
      refine ⟨n + 1 - (i + 1), by omega, h₃', tk₃, m₂, news₂, i + 1, rfl, ?_, F₃, fun p hp => N₃ p (List.mem_append_left _ hp), ha₃, hJ₃, hlt, rfl⟩
      refine W.frame _ _ _ hst₁ fun b hb o e => ?_
      cases hn : h₀.get? b with
      | some o₀ =>
        have : o₀ = o := by have := F₁.keep b o₀ hn; rw [e] at this; exact (Option.some.inj this).symm
        exact this ▸ F₃.keep b o₀ hn
      | none => exact (N₃ _ (List.mem_append_right _ (mem_ownOf hb hn e))).1
    cases f with
    | ret v => exact h₃
    | brk => exact h₃
    | cont => exact fin h₃
    | next => exact fin h₃
  · have hin : i = n := by omega
    subst hin
    refine W.done _ _ _ hst' fun h₁ tk₁ hk₁ => wpAny_execs_nil ?_
    obtain ⟨F₁, N₁⟩ := next h₁ hk₁
    exact done h₁ tk₁ m' news' F₁ N₁ hnw' hJ


theorem forPushM {R : Result → Shared → Prop} {target : Expr} {body : List Stmt} {src : List Addr} {n : Nat} {P : Nat → Value → Prop} {St : Nat → Heap → Prop} {m : Str → Option Value}
    {news : List (Addr × Obj)} {ob : Obj} (W : Walks prog w A s.heap.objs.size (s.heap.objs.size :: src) [s.heap.objs.size] n P St)
    (hlet : ∀ i v (s' : Shared) (Q : Unit → Shared → Prop) E, P i v → St (i + 1) s'.heap → Q () s' → wpAny (model prog w) A (letOwnedTupleGo target (.ref s.heap.objs.size) v) Q E s')
    (hLf : env.locals ∉ src)
    (hst : St 0 (s.heap.push ob)) (F : Fr h₀ env.locals s.heap m) (N : News h₀ env.locals s.heap news)
    (J : Nat → (Str → Option Value) → List (Addr × Obj) → Prop) (h0 : J 0 m news)
    (turn : ∀ I i v m₁ news₁ own h tk, ItAt h₀ env.locals I news → i < n → P i v → J i m₁ news₁ → (∀ p ∈ news₁, p.1 ≠ I) → (∀ p ∈ own, p.1 = I ∨ p.1 ∈ src) → (∀ o, h.get? s.heap.objs.size = some o → (I, o) ∈ own) → St (i + 1) h →
      Fr h₀ env.locals h m₁ → News h₀ env.locals h (news₁ ++ own) →
      wpAny (model prog w) A (assign target env v) (fun _ s₂ => wpAny (model prog w) A (execs body env) (TurnEnd h₀ env.locals own [I] (J (i + 1)) s R) NoE s₂) NoE { s with heap := h, toks := tk })
    (done : ∀ h' tk m' news', Fr h₀ env.locals h' m' → News h₀ env.locals h' news' → J n m' news' → R (.ok .next) { s with heap := h', toks := tk }) :
    codeAny (model prog w) A (.forLoop target (.ref s.heap.objs.size) body [] env) R { s with heap := s.heap.push ob } := by
  have hI : ItAt h₀ env.locals s.heap.objs.size news := ⟨fun b o e => Nat.lt_of_lt_of_le (Heap.lt_size (F.keep b o e)) (Nat.le_refl _), F.ns.lt, fun p hp => Heap.lt_size (N p hp).1⟩
  refine forJM (s := { s with heap := s.heap.push ob }) W hlet ?_ ?_ (fun p hp => ?_) hst (F.push ob) (fun p hp => ⟨Heap.get?_push_of_some _ (N p hp).1, (N p hp).2⟩) J h0 (fun i v m₁ news₁ own h tk hi hP hJ hw ho hmo hst' F' N' => turn _ i v m₁ news₁ own h tk hI hi hP hJ (fun p hp e => hw p hp (by rw [e]; exact .head _)) (fun p hp => ?_) (fun o e => hmo _ (.head _) o (by cases e' : h₀.get? s.heap.objs.size with | none => rfl | some o' => exact absurd (hI.base _ _ e') (Nat.lt_irrefl _)) e) hst' F' N') (fun h' tk m' news' F' N' _ hJ => done h' tk m' news' F' N' hJ)
  · intro hm
    rcases List.mem_cons.mp hm with e | e
    · exact absurd hI.frame (by rw [e]; exact Nat.lt_irrefl _)
    · exact hLf e
  · intro b hb
    rw [List.mem_singleton.mp hb]
    cases e : h₀.get? s.heap.objs.size with
    | none => rfl
    | some o => exact absurd (hI.base _ _ e) (Nat.lt_irrefl _)
  · intro e
    have := hI.led p hp
    rw [List.mem_singleton.mp e] at this
    exact Nat.lt_irrefl _ this
  · exact List.mem_cons.mp (ho p hp)

theorem forListM {E : Value → Shared → Prop} {R : Result → Shared → Prop} {target : Expr} {body : List Stmt} {l : Addr} {items : Array Value} {m : Str → Option Value}
    {news : List (Addr × Obj)} (hh : A.handled = none) (hl : s.heap.IsList l items) (hLl : env.locals ≠ l)
    (ht : (∃ x pos, target = .Name x pos) ∨ ((∃ es k pos, target = .Tuple es k pos) ∧ ∀ v ∈ items.toList, ∃ a, v = .ref a))
    (F : Fr h₀ env.locals s.heap m) (N : News h₀ env.locals s.heap news)
    (J : Nat → (Str → Option Value) → List (Addr × Obj) → Prop) (h0 : J 0 m news)
    (turn : ∀ I i v m₁ news₁ own h tk, ItAt h₀ env.locals I news → items[i]? = some v → J i m₁ news₁ → (∀ p ∈ news₁, p.1 ≠ I) → (∀ p ∈ own, p.1 = I ∨ p.1 = l) → (∃ o, (I, o) ∈ own) → h.IsList l items →
      Fr h₀ env.locals h m₁ → News h₀ env.locals h (news₁ ++ own) →
      wpAny (model prog w) A (assign target env v) (fun _ s₂ => wpAny (model prog w) A (execs body env) (TurnEnd h₀ env.locals own [I] (J (i + 1)) s R) NoE s₂) NoE { s with heap := h, toks := tk })
    (done : ∀ h' tk m' news', Fr h₀ env.locals h' m' → News h₀ env.locals h' news' → J items.size m' news' → R (.ok .next) { s with heap := h', toks := tk }) :
    wpAny (model prog w) A (pyIter (.ref l)) (fun it s₂ => codeAny (model prog w) A (.forLoop target it body [] env) R s₂) E s := by
  have hlt : l ≠ s.heap.objs.size := by
    obtain ⟨ol, hol, _⟩ := id hl
    exact Nat.ne_of_lt (Heap.lt_size hol)
  refine wpAny_pyIter_list hl ?_
  refine forPushM (Walks.list hh _ l hlt items) (fun i v s' Q E hP hst hq => ?_) (fun h => hLl (List.mem_singleton.mp h)) ⟨⟨_, Heap.get?_push_size _ rfl, rfl, rfl⟩, hl.at fun o e => Heap.get?_push_of_some _ e⟩ F N J h0
    (fun I i v m₁ news₁ own h tk hI hi hP hJ hw ho hmo hst' F' N' => turn I i v m₁ news₁ own h tk hI hP hJ hw (fun p hp => (ho p hp).imp id List.mem_singleton.mp) (by obtain ⟨o, ho, _⟩ := hst'.1; exact ⟨o, hmo o ho⟩) hst'.2 F' N') done
  rcases ht with ⟨x, pos, rfl⟩ | ⟨⟨es, k, pos, rfl⟩, hv⟩
  · exact wpAny_pure hq
  · obtain ⟨a, rfl⟩ := hv v (by
      have := Array.mem_of_getElem? hP
      exact Array.mem_toList_iff.mpr this)
    exact wpAny_letOwnedTupleGo_listiter hst.1 hq

end

end
section
noncomputable def buildG (rk : Str → Nat) (st : List (Str × Int)) : List (Str × Int × List Str) := st.foldl (fun G p => fullAdd rk G p.1 p.2.toNat) []
structure StartsOk (D : Str → Prop) (rk : Str → Nat) (st : List (Str × Int)) : Prop where
  len : st.length ≤ 6
  num : ∀ p ∈ st, 0 ≤ p.2 ∧ p.2 ≤ 100
  esc : ∀ p ∈ st, ∀ j < p.2.toNat, EscOk (itr Mine.esc j p.1)
  dom : ∀ p ∈ st, D (itr Mine.esc p.2.toNat p.1) ∧ rk (itr Mine.esc p.2.toNat p.1) ≤ 10
  une : ∀ x, D x → UneOk x ∧ D (Mine.une x) ∧ (Mine.une x ≠ x → rk (Mine.une x) + 1 = rk x)
section
local macro_rules | `(tactic| k_steps) => `(tactic| (repeat' (first | (k_unfold; (try dsimp only)) | (walk1; (try dsimp only)) | (dsimp only; walk1; (try dsimp only)) | fail "no step")))
local macro_rules | `(tactic| walk_at "call builtin:dict.get") => `(tactic| first
  | (refine dget_some (by with_reducible assumption) (by k_mem) (by with_reducible assumption) (by with_reducible assumption) (by first | with_reducible assumption | (rename (∀ _, valueAt _ _ = some _) => hvv; exact hvv _)) ?_)
  | (refine dget_none (by with_reducible assumption) (by k_mem) (by with_reducible assumption) (by with_reducible assumption) (by first | with_reducible assumption | (rename (∀ _, valueAt _ _ = none) => hvv; exact hvv _)) ?_))
local macro_rules | `(tactic| k_ne) => `(tactic| (refine neN ?_; (try dsimp only); first | exact Df.to (by with_reducible assumption) | exact Df.from (by with_reducible assumption) | omega))
local macro_rules | `(tactic| k_room) => `(tactic| ((try simp only [depth_under_make, depth_under_kw, depth_in1, depth_deeper, depth_caller]); (try dsimp only [ktrTop]); omega))
local macro_rules | `(tactic| walk_at "setItem ref str") => `(tactic| (k_dflt (refine kda_set (knd := PySem.strKind _ _) (by k_asm) (by k_asm) (by k_updF) (by k_asm) (strKind_is _ _ _ _) (by first | with_reducible assumption | (rename (∀ _, List.length _ ≤ sizeLine) => hzz; exact hzz _)) ?_); intro h' o' F' N' hd'; (try dsimp only at N')))

local macro_rules | `(tactic| k_all) => `(tactic| with_reducible assumption)
local macro_rules | `(tactic| walk_at "exec For Name Name cons nil") => `(tactic| refine wpAny_For ?_)
local macro_rules | `(tactic| walk_at "exec For Name Attribute cons nil") => `(tactic| (k_dflt (refine wpAny_For ?_)))
local macro_rules | `(tactic| walk_at "subscriptTail") => `(tactic| (k_dflt (refine kda_item (knd := PySem.strKind _ _) (by with_reducible assumption) (by k_mem) (by with_reducible assumption) (strKind_is _ _ _ _) (by with_reducible assumption) ?_)))
local macro_rules | `(tactic| walk_at "call type:tuple") => `(tactic| (k_dflt (refine tuple_made (by with_reducible assumption) (by with_reducible assumption) (by k_mem) (by with_reducible assumption) ?_); intro D' h' F' N' l1 l2; (try k_lt l1); (try k_sweep)))

local macro_rules | `(tactic| walk_at "exec For Tuple Name cons nil") => `(tactic| (k_dflt (refine wpAny_For ?_)))
theorem rounds_spec {w : World} {l : Addr} {st : List (Str × Int)} {D : Str → Prop} {rk lv : Str → Nat} {n : Nat} (hst : StartsOk D rk st) (hlv : ∀ e ∈ buildG rk st, ∀ c ∈ e.2.2, lv e.1 < lv c ∧ c ∈ (buildG rk st).map (·.1)) (hrun : RunOk n (kinit (buildG rk st))) (hn : n ≤ 100) :
    ContractS w 4 187 [.ref l] (fun h => CountsAt h l st) [] (fun news v => ∃ r rv e rr, v = .ref r ∧ (r, PySem.W.listOf rv e) ∈ news ∧ ListsIn news rv rr ∧ SortedOf rr (krounds n (kinit (buildG rk st)))) := by
  refine contractS_of (by decide) (fun _ _ x k => x.keep (kept_nil k)) (by with_unfolding_all rfl) (by with_unfolding_all rfl) [(Str.ofString "starts", .ref l)] (fun s X => BindsTo.of_eq rfl) (locs rfl) rfl rfl rfl (by decide) ?_
  intro dp un gd outer A base g L' h₁ p loose mean mg mb s B F Xb N Tb hdp hun hpr hlt
  have X := Xb.keeps B.stays
  have T := Tb.keeps B.stays
  obtain ⟨items, hl, hsz, hit⟩ := hpr
  k_unmd
  k_fold
  repeat' (first | (k_unfold; (try dsimp only)) | ((fail_if_success (with_reducible show wpAny _ _ (pyIter _) _ _ _)); first | (walk1; (try dsimp only)) | (dsimp only; walk1; (try dsimp only))) | fail "no step")
  rename Fr _ _ _ _ => F₁
  rename News _ _ _ _ => N₁
  rename Obj.IsDictOf (strKind PR w) _ _ => hs₁
  rename (_ == sysModules) = false => lo₁
  rename (@LT.lt Nat _ _ _ ∧ @LT.lt Nat _ _ _) => l₁
  rename @LT.lt Nat _ _ _ => l₂
  obtain ⟨x, d1, d2, od, k1, k2, k3, k4, t1, t2, t3, t4, pt, ft, F₂, N₂, hs₂, lo₂, l₃, l₄⟩ : ∃ (x d1 d2 : Addr) (od : Obj) (k1 k2 k3 k4 : Int) (t1 t2 t3 t4 pt ft : Tok),
      Fr g L' _ (fun y => if y = Str.ofString "sorter" then some (.ref x) else List.lookup y [(Str.ofString "starts", Value.ref l)].reverse) ∧
      News g L' _ [(d2, od), (x, instObj 162 d1), (d1, PySem.W.dictOf [⟨k1, .str (Str.ofString "_node2info") t1, .ref d2⟩, ⟨k2, .str (Str.ofString "_ready_nodes") t2, .none⟩, ⟨k3, .str (Str.ofString "_npassedout") t3, .int 0 pt⟩, ⟨k4, .str (Str.ofString "_nfinished") t4, .int 0 ft⟩] 4)] ∧
      od.IsDictOf (strKind PR w) [] ∧ (d2 == sysModules) = false ∧ @LT.lt Nat _ d1 x ∧ @LT.lt Nat _ x d2 := ⟨_, _, _, _, _, _, _, _, _, _, _, _, _, _, F₁, N₁, hs₁, lo₁, l₂, l₁.1⟩
  clear F₁ N₁ hs₁ lo₁ l₁ l₂
  generalize hS0 : (⟨x, d1, d2, k1, k2, k3, k4, t1, t2, t3, t4, 4, od, .none, 0, 0, pt, ft⟩ : Srt) = S0
  have W0 : Wf w S0 [] 0 := by
    subst hS0
    refine ⟨hs₂, lo₂, ?_, (fun _ h => nomatch h), .nil, (fun _ h => nomatch h), Nat.le_refl _, (fun _ h => nomatch h)⟩
    simp only [Srt.ads, List.nodup_cons, List.mem_cons, List.not_mem_nil, or_false, not_or]
    exact ⟨⟨Nat.ne_of_gt l₃, Nat.ne_of_lt l₄⟩, Nat.ne_of_lt (Nat.lt_trans l₃ l₄), fun h => h, List.nodup_nil⟩
  have hrv0 : S0.rv = .none := by rw [← hS0]
  have hpn0 : S0.nf = S0.po := by rw [← hS0]
  have hx0 : S0.self = x := by rw [← hS0]
  have N₃ : News g L' _ (led S0 []) := fun q hq => N₂ q (by
    subst hS0
    simp only [led, Srt.objs, Srt.attrs, List.flatMap_nil, List.append_nil, List.mem_cons, List.not_mem_nil, or_false] at hq ⊢
    rcases hq with h | h | h
    · exact .inr (.inl h)
    · exact .inr (.inr h)
    · exact .inl h)
  clear N₂
  have hlL : L' ≠ l := by
    obtain ⟨o, ho, _⟩ := hl
    intro e
    exact Nat.lt_irrefl _ (Nat.lt_of_lt_of_le (Heap.lt_size ho) (e ▸ F₂.above))
  refine forListM rfl (hl.at fun o e => F₂.keep _ _ e) hlL (.inr ⟨⟨_, _, _, rfl⟩, ?hv⟩) F₂ N₃
    (fun i m' news => m' (Str.ofString "sorter") = some (.ref x) ∧ ∃ (S' : Srt) (ns' : List Nd), Wf w S' ns' (22 * i) ∧ Same S0 S' ∧ lg ns' = buildG rk (st.take i) ∧ news = led S' ns') ⟨rfl, S0, [], W0, same_refl S0, rfl, rfl⟩ ?turn ?done
  case hv =>
    intro v hv
    obtain ⟨j, hj, rfl⟩ := List.mem_iff_getElem.mp hv
    obtain ⟨a, t, u, ha, _⟩ := hit j (st[j]'(by simpa [hsz] using hj)) (by simp)
    rw [Array.getElem?_eq_getElem (by simpa using hj)] at ha
    exact ⟨a, by simpa using ha⟩
  case turn =>
    intro I i v m₁ news₁ own h tk hI hv hpat hne hown hIo hls F₄ N₄
    obtain ⟨hm, S', ns', W', hS', hlg, rfl⟩ := hpat
    have hi : i < st.length := by
      rw [← hsz]; exact (Array.getElem?_eq_some_iff.mp hv).1
    obtain ⟨⟨tx, k⟩, hci⟩ : ∃ pr, st[i]? = some pr := ⟨st[i], by simp [hi]⟩
    have hpm := List.mem_of_getElem? hci
    obtain ⟨a, t, u, ha, hT⟩ := hit i _ hci
    rw [ha] at hv
    cases hv
    obtain ⟨hk0, hk1⟩ := hst.num _ hpm
    have hesc := hst.esc _ hpm
    obtain ⟨hdom, hrk⟩ := hst.dom _ hpm
    dsimp only at hT hk0 hk1 hesc hdom hrk
    obtain ⟨kn, rfl⟩ := Int.eq_ofNat_of_zero_le hk0
    have hownI : ∀ q ∈ own, q.1 = I := fun q hq => (hown q hq).elim id fun h' => by
      have := (N₄ q (List.mem_append_right _ hq)).2.2
      obtain ⟨o, ho, _⟩ := hl
      rw [h', ho] at this; cases this
    have hsep : ∀ q ∈ own, q.1 ∉ (led S' ns').map (·.1) := fun q hq hx => by
      obtain ⟨q', hq', hqe⟩ := List.mem_map.mp hx
      exact hne q' hq' (hqe.trans (hownI q hq))
    have F₅ : Fr g L' h m₁ := F₄
    have N₅ : News g L' h (led S' ns' ++ own) := N₄
    clear F₂ N₃ F₄ N₄
    k_unmd
    k_fold
    repeat' (first | (k_unfold; (try dsimp only)) | ((fail_if_success (with_reducible show wpAny _ _ (execs (Stmt.For _ _ _ _ _ :: _) _) _ _ _)); first | (walk1; (try dsimp only)) | (dsimp only; walk1; (try dsimp only))) | fail "no step")
    rename Fr _ _ _ _ => F₆
    rename News _ _ _ _ => N₆
    rename_i hp6
    have hSx : S'.self = x := hS'.self.trans hx0
    simp only [Int.toNat_natCast] at hesc hdom hrk
    have hi6 : i ≤ 5 := by have := hst.len; omega
    have key := fun tk6 Q E => rnd_turn (sc := { kind := .function, names := [], isGenerator := false, isCoroutine := false, more := [] }) (s := { s with heap := hp6, toks := tk6 }) (dp := dp) (un := un) (gd := gd) (qual := Str.ofString "_law_rounds") (f := 187) (cdv := .ref 186) (outer := outer) (Q := Q) (E := E)
      B F₆ X T N₆ hsep ((if_neg (by decide)).trans (if_pos rfl)) ((if_neg (by decide)).trans ((if_neg (by decide)).trans (hm.trans (by rw [hSx])))) (if_pos rfl) W' (by omega) (by rw [hS'.rv, hrv0]) (by omega) hesc hdom hst.une (by with_unfolding_all rfl) (by omega) (by omega)
    with_unfolding_all refine key _ _ _ ?_
    intro h₇ tk₇ m₇ S₇ ns₇ F₇ r₇ W₇ hS₇ hlg₇ N₇ hs₇
    refine turnOk_ (led S₇ ns₇) F₇ N₇ (fun q hq => hq) (fun q hq hm' => ?_) ⟨(r₇ _ (by decide) (by decide) (by decide)).trans ((if_neg (by decide)).trans ((if_neg (by decide)).trans hm)), S₇, ns₇, W₇.mono (by omega), hS'.trans hS₇, ?_, rfl⟩
    · obtain ⟨oI, hoI⟩ := hIo
      rw [List.mem_singleton] at hm'
      exact hs₇ (I, oI) hoI (show I ∈ (led S₇ ns₇).map (·.1) from hm' ▸ List.mem_map_of_mem hq)
    · rw [hlg₇, hlg]
      unfold buildG
      rw [List.take_add_one, hci, List.foldl_append]
      rfl
  case done =>
    intro h tk m₁ news₁ F₃ N₃ hpat
    obtain ⟨hm, S', ns', W', hS', hlg, rfl⟩ := hpat
    rw [hsz, List.take_length] at hlg
    dsimp only
    have hSx : S'.self = x := hS'.self.trans hx0
    have hst6 := hst.len
    have key := fun Q E => rnd_rest (sc := { kind := .function, names := [], isGenerator := false, isCoroutine := false, more := [] }) (s := { s with heap := h, toks := tk }) (dp := dp) (un := un) (gd := gd) (qual := Str.ofString "_law_rounds") (f := 187) (cdv := .ref 186) (outer := outer) (Q := Q) (E := E)
      B F₃ Xb Tb N₃ (hm.trans (by rw [hSx])) W' (by rw [hS'.rv, hrv0]) (by omega) (by rw [show S'.nf = S0.nf by unfold Same at hS'; rw [hS'], show S'.po = S0.po by unfold Same at hS'; rw [hS'], hpn0]) (lv := lv) (fun d hd c hc => by
        have h1 : (d.nm, d.np, d.sv.toList.map strOf) ∈ lg ns' := List.mem_map.mpr ⟨d, hd, rfl⟩
        rw [hlg] at h1
        obtain ⟨h2, h3⟩ := hlv _ h1 c hc
        rw [← hlg, lg_fst] at h3
        exact ⟨h2, List.mem_map.mp h3⟩) (by rw [hlg]; exact hrun) hn (by with_unfolding_all rfl) (by omega) (by omega)
    with_unfolding_all refine key _ _ ?_
    intro h₈ tk₈ news₈ r rv e rr hk hn₈ hmem hli hso
    show LeaveT _ _ _ _ _ _
    exact ⟨h₈, tk₈, news₈, rfl, hk, hn₈, r, rv, e, rr, rfl, hmem, hli, by rw [← hlg]; exact hso⟩
end

end
section
open PyProof.Rows.LCg
section
variable {prog : Program} {w : World} {A : Around} {E : Value → Shared → Prop} {s : Shared} {env : Env}
/-- what a block over pairs with a test has gathered -/
noncomputable def gath (b : Nat → Bool) (val : Nat → Value) (n : Nat) : List Value := (List.range n).filterMap fun i => if b i then some (val i) else none
theorem gath_succ {b : Nat → Bool} {val : Nat → Value} {n : Nat} : gath b val (n + 1) = gath b val n ++ if b n then [val n] else [] := by
  unfold gath
  rw [List.range_succ, List.filterMap_append]
  cases h : b n <;> simp [h]
theorem gath_len {b : Nat → Bool} {val : Nat → Value} {n : Nat} : (gath b val n).length ≤ n := by
  unfold gath
  have := List.length_filterMap_le (fun i => if b i then some (val i) else none) (List.range n)
  simpa using this
/-- a block over a list of pairs, with a test; neither the test nor the element turns anything -/
theorem pairs_test {ct elt iter : PySem.Expr} {x x₂ : Str} {px px₂ tp : Pos} {kk : Nat} {scope : Scope} {cl : List (Str × Addr)} {pos : Pos} {Q : Value → Shared → Prop}
    (hh : A.handled = none) (hclos : closureFor scope env = pure cl) (hcell : ∀ y ∈ scope.names, y.2 ≠ .cell) (hkind : scope.kind = .function)
    (hnames : ∀ y ∈ scope.names, y.2 = .local → scope.names.lookup y.1 = some .local) (hx : scope.names.lookup x = some .local) (hx₂ : scope.names.lookup x₂ = some .local) (hxx : x ≠ x₂)
    (b : Nat → Bool) (val v1 v2 : Nat → Value)
    (h : wpAny (model prog w) A (eval iter env) (fun xv s₁ => ∃ (ax : Addr) (its : Array Value), xv = .ref ax ∧ s₁.heap.IsList ax its ∧ its.size ≤ 1000 ∧ (∀ i v, its[i]? = some v → ∃ t, v = .ref t ∧ IsTup s₁.heap t #[v1 i, v2 i]) ∧
      (∀ i C (s' : Shared) m₂ (Q' : Bool → Shared → Prop) E', s'.heap.Ns C m₂ → m₂ x = some (v1 i) → m₂ x₂ = some (v2 i) → (∀ tk, Q' (b i) { s' with toks := tk }) → wpAny (model prog w) A (isTrue ct (compEnvC scope cl C env) (eval ct (compEnvC scope cl C env))) Q' E' s') ∧
      (∀ i C (s' : Shared) m₂ (Q' : Value → Shared → Prop) E', s'.heap.Ns C m₂ → m₂ x = some (v1 i) → m₂ x₂ = some (v2 i) → (∀ tk, Q' (val i) { s' with toks := tk }) → wpAny (model prog w) A (eval elt (compEnvC scope cl C env)) Q' E' s') ∧
      (∀ h' D tk, (∀ c o, s₁.heap.get? c = some o → h'.get? c = some o) → s₁.heap.objs.size ≤ D → h'.get? D = some (lst (gath b val its.size)) → Q (.ref D) { s₁ with heap := h', toks := tk })) E s)
    (hs : ∀ x, foldedSetIterable iter env x = pure x := by intro _; rfl) :
    wpAny (model prog w) A (eval (.ListComp elt [⟨.Tuple [.Name x px, .Name x₂ px₂] kk tp, iter, [ct], 0⟩] scope pos) env) Q E s := by
  rw [eval_ListComp]
  refine wpAny_comprehension_free (use := none) rfl hs hclos hkind hnames (wpAny_mono h (fun xv s₁ h₁ => ?_) fun _ _ e => e)
  obtain ⟨ax, its, rfl, hl, hsz, htup, htest, helt, fin⟩ := h₁
  have hlt : ax < s₁.heap.objs.size := by obtain ⟨_, e, _⟩ := hl; exact Heap.lt_size e
  refine wpAny_pyIter_list hl ?_
  generalize hI : s₁.heap.objs.size = I
  have hne : ax ≠ I := by rw [← hI]; exact Nat.ne_of_lt hlt
  have W := Walks.list (prog := prog) (w := w) (A := A) hh I ax hne its
  generalize hH : s₁.heap.push { cls := .type "list_iterator", data := .fields #[.ref ax, .int 0 0] } = H
  have hHs : H.objs.size = I + 1 := by rw [← hH, Heap.size_push, hI]
  have upH : ∀ c o, s₁.heap.get? c = some o → H.get? c = some o := fun c o e => by rw [← hH]; exact Heap.get?_push_of_some _ e
  have st0 : H.IsListIter I ax 0 ∧ H.IsList ax its := by
    rw [← hH, ← hI]
    exact ⟨⟨_, Heap.get?_push_size _ rfl, rfl, rfl⟩, hl.push _⟩
  refine wpAny_newObj_type (wpAny_newFunctionEnv hcell (by intro y hy; simp at hy) (fun h₁ hns₁ hsb₁ => ?_) hkind)
  dsimp only at hns₁ hsb₁ ⊢
  generalize hH2 : H.push { cls := .type "list", dict := none, data := .seq ([] : List Value).toArray } = H2 at hns₁ hsb₁ ⊢
  generalize hD : H.objs.size = D
  generalize hC : H2.objs.size = C at *
  have hDI : D = I + 1 := by rw [← hD, hHs]
  have hCD : C = D + 1 := by rw [← hC, ← hH2, Heap.size_push, hD]
  have old : ∀ c o, H.get? c = some o → h₁.get? c = some o := fun c o e => by
    have hc := Heap.lt_size e
    rw [hD] at hc
    refine hsb₁.extBut c o (fun q => ?_) (Heap.get?_push_of_some _ (by rw [← hH2]; exact Heap.get?_push_of_some _ e))
    rw [q, hCD] at hc; exact absurd hc (Nat.not_lt.mpr (Nat.le_succ _))
  have hacc : h₁.get? D = some (lst []) := hsb₁.extBut _ _ (by rw [hCD]; exact Nat.ne_of_lt (Nat.lt_succ_self _)) (Heap.get?_push_of_some _ (by rw [← hH2, ← hD]; exact Heap.get?_push_size _ rfl))
  have nI : ∀ c o, s₁.heap.get? c = some o → c ≠ I ∧ c ≠ D ∧ c ≠ C := fun c o e => by
    have hc := Heap.lt_size e
    rw [hI] at hc
    refine ⟨Nat.ne_of_lt hc, ?_, ?_⟩
    · rw [hDI]; exact Nat.ne_of_lt (Nat.lt_succ_of_lt hc)
    · rw [hCD, hDI]; exact Nat.ne_of_lt (Nat.lt_succ_of_lt (Nat.lt_succ_of_lt hc))
  have nID : I ≠ D := by rw [hDI]; exact Nat.ne_of_lt (Nat.lt_succ_self _)
  have nDC : D ≠ C := by rw [hCD]; exact Nat.ne_of_lt (Nat.lt_succ_self _)
  have nIC : I ≠ C := by rw [hCD, hDI]; exact Nat.ne_of_lt (Nat.lt_succ_of_lt (Nat.lt_succ_self _))
  obtain ⟨oax, hax, _⟩ := id hl
  have nax := nI ax oax hax
  have hst₁ : h₁.IsListIter I ax 0 ∧ h₁.IsList ax its := W.frame 0 _ _ st0 fun c _ o e => old c o e
  have loop : ∀ s₃ : Shared, s₃ = { s₁ with heap := h₁, toks := s₁.toks + ([] : List (Str × Value)).length } →
      codeAny (model prog w) A (.compLoop (.ListComp elt [⟨.Tuple [.Name x px, .Name x₂ px₂] kk tp, iter, [ct], 0⟩] scope pos) 0 (.ref I) (.ref D) (compEnvC scope cl C env)) (compPost (model prog w) A E none Q (.ref D) C) s₃ := by
    rintro s₃ rfl
    refine kct_loop (fun k s' => ∃ h' tk i m', s' = { s₁ with heap := h', toks := tk } ∧ i ≤ its.size ∧ k = its.size + 1 - i ∧ (h'.IsListIter I ax i ∧ h'.IsList ax its) ∧ (∀ c o, s₁.heap.get? c = some o → h'.get? c = some o) ∧ h'.Ns C m' ∧ h'.get? D = some (lst (gath b val i))) ?_ (its.size + 1)
      ⟨h₁, _, 0, _, rfl, Nat.zero_le _, rfl, hst₁, fun c o e => old c o (upH c o e), hns₁, hacc⟩
    rintro k s' ⟨h', tk, i, m', rfl, hi, rfl, hst', hk', hn', hD'⟩
    by_cases hlt : i < its.size
    · refine W.item i _ _ _ hlt hst' fun v h₂ tk₂ hPv hst₂ hk₂ => ?_
      obtain ⟨t, rfl, ht⟩ := htup i v hPv
      have hk₂' : ∀ c o, s₁.heap.get? c = some o → h₂.get? c = some o := fun c o e => hk₂ c o (by simpa using (nI c o e).1) (hk' c o e)
      obtain ⟨ot, hot, hct, nt, hdt⟩ := ht
      have ht₂ : IsTup h₂ t #[v1 i, v2 i] := ⟨ot, hk₂' _ _ hot, hct, nt, hdt⟩
      have hn₂ : h₂.Ns C m' := hn'.at' fun o e => hk₂ _ o (by simpa using Ne.symm nIC) e
      have hD₂ : h₂.get? D = some (lst (gath b val i)) := hk₂ _ _ (by simpa using Ne.symm nID) hD'
      dsimp only
      refine wpAny_letOwnedTupleGo_listiter hst₂.1 ?_
      refine assign_Tuple_tuple hh ht₂ rfl rfl fun h₅ he => ?_
      have he' : ∀ c o, h₂.get? c = some o → h₅.get? c = some o := fun c o e => he c o (Nat.ne_of_lt (Heap.lt_size e)) e
      refine assignInOrder_cons (wpAny_assign_Name (wpAny_storeName_local (lookup_relabel_local hx) (hn₂.at' fun o e => he' _ o e) (fun h₆ hn₆ hs₆ => ?_) (by simp [compEnvC, relabel, hkind])))
      refine assignInOrder_cons (wpAny_assign_Name (wpAny_storeName_local (lookup_relabel_local hx₂) hn₆ (fun h₃ hn₃ hs₃ => ?_) (by simp [compEnvC, relabel, hkind])))
      refine assignInOrder_nil ?_
      have old3 : ∀ c o, c ≠ C → h₂.get? c = some o → h₃.get? c = some o := fun c o hc e => hs₃.extBut c o hc (hs₆.extBut c o hc (he' c o e))
      have hk₃ : ∀ c o, s₁.heap.get? c = some o → h₃.get? c = some o := fun c o e => old3 c o (nI c o e).2.2 (hk₂' c o e)
      have hst₃ : h₃.IsListIter I ax (i + 1) ∧ h₃.IsList ax its := W.frame _ _ _ hst₂ fun c hc o e => old3 c o (by
        simp only [List.mem_cons, List.not_mem_nil, or_false] at hc
        rcases hc with rfl | rfl
        · exact nIC
        · exact nax.2.2) e
      have hD₃ : h₃.get? D = some (lst (gath b val i)) := old3 _ _ nDC hD₂
      refine htest i C _ _ _ _ hn₃ (by simp [hxx]) (by simp) fun tk₄ => ?_
      cases hb : b i with
      | true =>
        rw [if_pos rfl]
        refine helt i C _ _ _ _ hn₃ (by simp [hxx]) (by simp) fun tk₅ => ?_
        refine append_at (hsz := by rw [List.size_toArray, sizeLine_eq]; have := @gath_len b val i; omega) hD₃ fun h₆ hs₆ hD₆ => ?_
        refine ⟨its.size + 1 - (i + 1), by omega, h₆, tk₅, i + 1, _, rfl, hlt, rfl, W.frame _ _ _ hst₃ fun c hc o e => hs₆.extBut c o (by
          simp only [List.mem_cons, List.not_mem_nil, or_false] at hc
          rcases hc with rfl | rfl
          · exact nID
          · exact nax.2.1) e, fun c o e => hs₆.extBut c o (nI c o e).2.1 (hk₃ c o e), hn₃.sameBut hs₆ (Ne.symm nDC), ?_⟩
        rw [gath_succ, hb, if_pos rfl]
        exact hD₆.trans (congrArg some (lst_snoc _ _))
      | false =>
        rw [if_neg Bool.false_ne_true]
        refine ⟨its.size + 1 - (i + 1), by omega, h₃, tk₄, i + 1, _, rfl, hlt, rfl, hst₃, hk₃, hn₃, ?_⟩
        rw [gath_succ, hb, if_neg Bool.false_ne_true, List.append_nil]
        exact hD₃
    · obtain rfl : i = its.size := Nat.le_antisymm hi (Nat.not_lt.mp hlt)
      refine W.done _ _ _ hst' fun h₂ tk₂ hk₂ => ?_
      refine ⟨m', hn'.at' fun o e => hk₂ _ o (by simpa using Ne.symm nIC) e, fun h'' hs'' => fin h'' D _ (fun c o e => hs''.extBut c o (nI c o e).2.2 (hk₂ c o (by simpa using (nI c o e).1) (hk' c o e))) ?_ (hs''.extBut _ _ nDC (hk₂ _ _ (by simpa using Ne.symm nID) hD'))⟩
      rw [hI, hDI]; exact Nat.le_succ _
  exact codeAny_compStart_list (loop _ rfl) (W.self 0 _ _ _ hst₁ (loop _ rfl))
noncomputable def gathI (b : Nat → Bool) (k : Nat → Int) (n : Nat) : List Int := (List.range n).filterMap fun i => if b i then some (k i) else none
theorem gathI_succ {b : Nat → Bool} {k : Nat → Int} {n : Nat} : gathI b k (n + 1) = gathI b k n ++ if b n then [k n] else [] := by
  unfold gathI
  rw [List.range_succ, List.filterMap_append]
  cases h : b n <;> simp [h]
theorem ints_snoc : ∀ {vs : List Value} {ns : List Int} {k : Int} {t : Tok}, IntsAre vs ns → IntsAre (vs ++ [.int k t]) (ns ++ [k])
  | _, _, _, _, .nil => .cons _ _ .nil
  | _, _, _, _, .cons y u h => .cons y u (ints_snoc h)
theorem gath_ints {b : Nat → Bool} {k : Nat → Int} {u : Nat → Tok} : ∀ n, IntsAre (gath b (fun i => .int (k i) (u i)) n) (gathI b k n)
  | 0 => .nil
  | n + 1 => by
    rw [gath_succ, gathI_succ]
    cases h : b n with
    | true => rw [if_pos rfl, if_pos rfl]; exact ints_snoc (gath_ints n)
    | false => rw [if_neg Bool.false_ne_true, if_neg Bool.false_ne_true, List.append_nil, List.append_nil]; exact gath_ints n
theorem mem_gathI {b : Nat → Bool} {k : Nat → Int} {n : Nat} {a : Int} : a ∈ gathI b k n ↔ ∃ i, i < n ∧ b i = true ∧ k i = a := by
  unfold gathI
  rw [List.mem_filterMap]
  constructor
  · rintro ⟨i, hi, h⟩
    refine ⟨i, List.mem_range.mp hi, ?_⟩
    cases hb : b i with
    | true => rw [hb, if_pos rfl] at h; exact ⟨rfl, Option.some.inj h⟩
    | false => rw [hb, if_neg Bool.false_ne_true] at h; cases h
  · rintro ⟨i, hi, hb, rfl⟩
    exact ⟨i, List.mem_range.mpr hi, by rw [hb, if_pos rfl]⟩
end
/-- the greatest count of the signs other than a -/
noncomputable def IsDepth (c : List (Str × Int)) (M : Int) : Prop := (M = 0 ∨ ∃ p ∈ c, p.1 ≠ "a" ∧ p.2 = M) ∧ 0 ≤ M ∧ ∀ p ∈ c, p.1 ≠ "a" → p.2 ≤ M

end
section

/-- one drawn pair, written out -/
structure Dr where
  a : Addr
  lc : Addr
  a1 : Addr
  a2 : Addr
  a3 : Addr
  e : Nat
  more : Int
  u : Tok
  s1 : Str
  s2 : Str
  s3 : Str
  k1 : Int
  k2 : Int
  k3 : Int
  t1 : Tok
  t2 : Tok
  t3 : Tok
  u1 : Tok
  u2 : Tok
  u3 : Tok
noncomputable def tupObj (v : Array Value) : Obj := { cls := .type "tuple", data := .seq v }
noncomputable def Dr.objs (d : Dr) : List (Addr × Obj) := [(d.a, { cls := .type "tuple", data := .seq #[.ref d.lc, .int d.more d.u] }), (d.lc, PySem.W.listOf #[.ref d.a1, .ref d.a2, .ref d.a3] d.e), (d.a1, { cls := .type "tuple", data := .seq #[.str d.s1 d.t1, .int d.k1 d.u1] }), (d.a2, { cls := .type "tuple", data := .seq #[.str d.s2 d.t2, .int d.k2 d.u2] }), (d.a3, { cls := .type "tuple", data := .seq #[.str d.s3 d.t3, .int d.k3 d.u3] })]
noncomputable def Dr.val (d : Dr) : List (Str × Int) × Int := ([(d.s1, d.k1), (d.s2, d.k2), (d.s3, d.k3)], d.more)
noncomputable def lft (more back k : Int) : Int := if k + more - back > 0 then k + more - back else 0
/-- a list of three pairs -/
noncomputable def tri (D a1 a2 a3 : Addr) (s1 s2 s3 : Str) (k1 k2 k3 : Int) (t1 t2 t3 u1 u2 u3 : Tok) : List (Addr × Obj) :=
  [(D, PySem.W.listOf #[.ref a1, .ref a2, .ref a3] 3), (a3, { cls := .type "tuple", data := .seq #[.str s3 t3, .int k3 u3] }), (a2, { cls := .type "tuple", data := .seq #[.str s2 t2, .int k2 u2] }), (a1, { cls := .type "tuple", data := .seq #[.str s1 t1, .int k1 u1] })]
noncomputable def sg3 (a b c : Str) : Nat → Str
  | 0 => a
  | 1 => b
  | _ => c
noncomputable def kk3 {α : Type} (a b c : α) : Nat → α
  | 0 => a
  | 1 => b
  | _ => c
noncomputable def dueBody (w : World) : List Stmt := bodyAt ((Mine.hd.heap_1 w.params).lookup 192)
noncomputable def dueSc (w : World) (d : Scope) : Scope := scopeAt ((Mine.hd.heap_1 w.params).lookup 192) d
noncomputable def dueTurn (w : World) : List Stmt := inner 0 (inner 1 (dueBody w))
theorem comp_end3 {h₀ h' : Heap} {L I C D D' : Addr} {m : Str → Option Value} {s₁ : Shared} {oI oC oD oT : Obj} {S : List (Addr × Obj) → Prop} {rest : Value → List (Addr × Obj) → Prop} {tl : List (Addr × Obj)} {y : Value} {tk : Nat}
    (F : Fr h₀ L h' m) (N : News h₀ L h' ((D', oT) :: (I, oI) :: (C, oC) :: (D, oD) :: tl)) (off : LCg.Off3 I C D ((D', oT) :: tl)) (hS : S ((D', oT) :: tl)) (r : rest y ((D', oT) :: tl)) :
    LCg.CompEnd h₀ L m s₁ I oI C oC D oD S rest y { s₁ with heap := h', toks := tk } :=
  LCg.CompEnd.intro F N _ (fun q hq => by
    simp only [List.mem_cons] at hq ⊢
    rcases hq with h | h | h | h | h <;> simp [h]) off hS r
section
local macro_rules | `(tactic| k_steps) => `(tactic| (repeat' (first | (k_unfold; (try dsimp only)) | (walk1; (try dsimp only)) | (dsimp only; walk1; (try dsimp only)) | fail "no step")))
local macro_rules | `(tactic| walk_at "call builtin:dict.get") => `(tactic| first
  | (refine dget_some (by with_reducible assumption) (by k_mem) (by with_reducible assumption) (by with_reducible assumption) (by first | with_reducible assumption | (rename (∀ _, valueAt _ _ = some _) => hvv; exact hvv _)) ?_)
  | (refine dget_none (by with_reducible assumption) (by k_mem) (by with_reducible assumption) (by with_reducible assumption) (by first | with_reducible assumption | (rename (∀ _, valueAt _ _ = none) => hvv; exact hvv _)) ?_))
local macro_rules | `(tactic| k_ne) => `(tactic| (refine neN ?_; (try dsimp only); first | exact Df.to (by with_reducible assumption) | exact Df.from (by with_reducible assumption) | omega))
local macro_rules | `(tactic| k_room) => `(tactic| ((try simp only [depth_under_make, depth_under_kw, depth_in1, depth_deeper, depth_caller]); (try dsimp only [ktrTop]); omega))
local macro_rules | `(tactic| walk_at "setItem ref str") => `(tactic| (k_dflt (refine kda_set (knd := PySem.strKind _ _) (by k_asm) (by k_asm) (by k_updF) (by k_asm) (strKind_is _ _ _ _) (by first | with_reducible assumption | (rename (∀ _, List.length _ ≤ sizeLine) => hzz; exact hzz _)) ?_); intro h' o' F' N' hd'; (try dsimp only at N')))

local macro_rules | `(tactic| walk_at "eval Name") => `(tactic| ((with_reducible show wpAny _ _ (eval (PySem.Expr.Name _ _) (compEnvC _ _ _ _)) _ _ _); k_dflt (refine ldVarK (by with_reducible assumption) (by with_reducible assumption) ?_)))
local macro_rules | `(tactic| walk_at "CompEnd") => `(tactic| (k_dflt (refine comp_end3 (by with_reducible assumption) (by with_reducible assumption) (by rename (@LT.lt Nat _ _ _ ∧ @LT.lt Nat _ _ _ ∧ @LT.lt Nat _ _ _ ∧ _) => cl1; rename ((@Ne Nat _ _ ∧ @Ne Nat _ _ ∧ @Ne Nat _ _) ∧ _) => coff; exact ⟨⟨Nat.ne_of_gt cl1.1, Nat.ne_of_gt cl1.2.1, Nat.ne_of_gt cl1.2.2.1⟩, coff⟩) (by exact .inr ⟨_, by k_mem, rfl, _, rfl⟩) ?_)))
theorem due_left {w : World} {dp un : Nat} {gd : Option (List Code)} {qual : Str} {sc cs : Scope} {f : Addr} {cdv : Value} {outer : List Env} {base g : Heap} {A : Around} {L : Addr} {m : Str → Option Value} {s : Shared} {p : Program} {loose : List Str} {mean : ExcName → Option Value} {mg mb : Str → Option Value}
    {rest : List (Addr × Obj)} {d : Dr} {ob om : Obj} {back more : Int} {tb tm : Tok}
    (B : Below A base outer g) (F : Fr g L s.heap m) (X : (Mine.hd.heap_1 w.params).In g) (T : Top p loose mean mg mb g) (N : News g L s.heap ((L + 2, ob) :: (L + 1, om) :: (d.objs ++ rest)))
    (hob : ob.data = .cell (some (.int back tb))) (hom : om.data = .cell (some (.int more tm)))
    (m1 : m "counts" = some (.ref d.lc))
    (hcs : cs = dueSc w sc) (hdp : dp + 60 < recursionLimit) (hun : un + 600 < cLine) {Q : Flow → Shared → Prop} {E : Value → Shared → Prop}
    (hQ : ∀ h' tk D a1 a2 a3 u1 u2 u3, Fr g L h' (fun y => if y = Str.ofString "left" then some (.ref D) else m y) → News g L h' (tri D a1 a2 a3 d.s1 d.s2 d.s3 (lft more back d.k1) (lft more back d.k2) (lft more back d.k3) d.t1 d.t2 d.t3 u1 u2 u3 ++ ((L + 2, ob) :: (L + 1, om) :: (d.objs ++ rest))) →
      (∀ q ∈ (L + 2, ob) :: (L + 1, om) :: (d.objs ++ rest), q.1 ∉ [D, a1, a2, a3]) → ([D, a1, a2, a3] : List Addr).Nodup → Q .next { s with heap := h', toks := tk }) :
    wpAny (model PR w) (ktrTop dp un gd qual cs L f cdv (cellsFrom (L + 1) cs.names []) outer) (exec (headS (dueTurn w)) (envOfC qual cs L f cdv)) Q E s := by
  unfold dueTurn dueBody
  with_unfolding_all (conv in headS _ => whnf)
  unfold dueSc at hcs
  with_unfolding_all (conv at hcs => rhs; whnf)
  subst hcs
  have hpin : ∀ p ∈ [(Str.ofString "counts", Value.ref d.lc)], m p.1 = some p.2 := by
    intro p hp; simp only [List.mem_cons, List.not_mem_nil, or_false] at hp; subst hp; exact m1
  have hpe := pins_eq _ hpin
  have F₂ := fr_pins F _ hpin
  clear F
  simp only [Dr.objs, List.cons_append, List.nil_append] at N
  k_unmd
  repeat' (first | (k_unfold; (try dsimp only)) | ((fail_if_success (with_reducible show LCg.FinA _ _ _ _ _ _ _ _)); first | (walk1; (try dsimp only)) | (dsimp only; walk1; (try dsimp only))) | fail "no step")
  intro D h₉ tk₉ F₉ N₉ off₉
  obtain ⟨a1, a2, a3, u1, u2, u3, N₈, ⟨_, _, _, _, _, _, l₁⟩, ⟨_, _, _, _, _, _, l₂⟩, ⟨_, _, _, _, _, _, l₃⟩, hoff⟩ : ∃ (a1 a2 a3 : Addr) (u1 u2 u3 : Tok), News g L h₉ (tri D a1 a2 a3 d.s1 d.s2 d.s3 (lft more back d.k1) (lft more back d.k2) (lft more back d.k3) d.t1 d.t2 d.t3 u1 u2 u3 ++ ((L + 2, ob) :: (L + 1, om) :: (d.objs ++ rest))) ∧
      (∃ i c e : Addr, @LT.lt Nat _ i a1 ∧ @LT.lt Nat _ c a1 ∧ @LT.lt Nat _ e a1 ∧ AllLt a1 ((L + 2, ob) :: (L + 1, om) :: (d.objs ++ rest))) ∧
      (∃ i c e : Addr, @LT.lt Nat _ i a2 ∧ @LT.lt Nat _ c a2 ∧ @LT.lt Nat _ e a2 ∧ @LT.lt Nat _ a1 a2 ∧ AllLt a2 ((L + 2, ob) :: (L + 1, om) :: (d.objs ++ rest))) ∧
      (∃ i c e : Addr, @LT.lt Nat _ i a3 ∧ @LT.lt Nat _ c a3 ∧ @LT.lt Nat _ e a3 ∧ @LT.lt Nat _ a2 a3 ∧ @LT.lt Nat _ a1 a3 ∧ AllLt a3 ((L + 2, ob) :: (L + 1, om) :: (d.objs ++ rest))) ∧
      LCg.Off1 D ((a3, ({ cls := .type "tuple", data := .seq #[.str d.s3 d.t3, .int (lft more back d.k3) u3] } : Obj)) :: (a2, ({ cls := .type "tuple", data := .seq #[.str d.s2 d.t2, .int (lft more back d.k2) u2] } : Obj)) :: (a1, ({ cls := .type "tuple", data := .seq #[.str d.s1 d.t1, .int (lft more back d.k1) u1] } : Obj)) :: ((L + 2, ob) :: (L + 1, om) :: (d.objs ++ rest))) :=
    ⟨_, _, _, _, _, _, N₉, ⟨_, _, _, by assumption⟩, ⟨_, _, _, by assumption⟩, ⟨_, _, _, by assumption⟩, off₉⟩
  have b₁ := allLt_back l₁
  have b₂ := allLt_back l₂.2
  have b₃ := allLt_back l₃.2.2
  have off1 : ∀ {l : List (Addr × Obj)}, LCg.Off1 D l → ∀ q ∈ l, q.1 ≠ D := by
    intro l
    induction l with
    | nil => intro _ q hq; nomatch hq
    | cons c l ih =>
      intro ho q hq
      rcases List.mem_cons.mp hq with rfl | hq
      · exact ho.1
      · exact ih ho.2 q hq
  have hoff' := off1 hoff
  refine hQ _ _ D a1 a2 a3 u1 u2 u3 (fr_eq F₉ fun y => by have := congrFun hpe y; (try dsimp only at this ⊢); rw [this]) N₈ (fun q hq hm => ?_) ?_
  · simp only [List.mem_cons, List.not_mem_nil, or_false] at hm
    rcases hm with h | h | h | h
    · exact hoff' q (.tail _ (.tail _ (.tail _ hq))) h
    · exact Nat.ne_of_lt (b₁ q hq) h
    · exact Nat.ne_of_lt (b₂ q hq) h
    · exact Nat.ne_of_lt (b₃ q hq) h
  · simp only [List.nodup_cons, List.mem_cons, List.not_mem_nil, or_false, not_or]
    exact ⟨⟨fun e => hoff' _ (.tail _ (.tail _ (.head _))) e.symm, fun e => hoff' _ (.tail _ (.head _)) e.symm, fun e => hoff' _ (.head _) e.symm⟩, ⟨Nat.ne_of_lt l₂.1, Nat.ne_of_lt l₃.2.1⟩, Nat.ne_of_lt l₃.1, fun h => h, List.nodup_nil⟩
theorem due_depth {w : World} {dp un : Nat} {gd : Option (List Code)} {qual : Str} {sc cs : Scope} {f : Addr} {cdv : Value} {outer : List Env} {base g : Heap} {A : Around} {L : Addr} {m : Str → Option Value} {s : Shared} {p : Program} {loose : List Str} {mean : ExcName → Option Value} {mg mb : Str → Option Value}
    {rest : List (Addr × Obj)} {D a1 a2 a3 : Addr} {s1 s2 s3 : Str} {k1 k2 k3 : Int} {t1 t2 t3 u1 u2 u3 : Tok}
    (B : Below A base outer g) (F : Fr g L s.heap m) (X : (Mine.hd.heap_1 w.params).In g) (T : Top p loose mean mg mb g) (N : News g L s.heap (tri D a1 a2 a3 s1 s2 s3 k1 k2 k3 t1 t2 t3 u1 u2 u3 ++ rest))
    (m1 : m "left" = some (.ref D))
    (hcs : cs = dueSc w sc) (hdp : dp + 60 < recursionLimit) (hun : un + 600 < cLine) {Q : Flow → Shared → Prop} {E : Value → Shared → Prop} 
    (hQ : ∀ h' tk M t, IsDepth [(s1, k1), (s2, k2), (s3, k3)] M → Fr g L h' (fun y => if y = Str.ofString "depth" then some (.int M t) else m y) → News g L h' (tri D a1 a2 a3 s1 s2 s3 k1 k2 k3 t1 t2 t3 u1 u2 u3 ++ rest) → Q .next { s with heap := h', toks := tk }) :
    wpAny (model PR w) (ktrTop dp un gd qual cs L f cdv (cellsFrom (L + 1) cs.names []) outer) (exec (headS ((dueTurn w).drop 1)) (envOfC qual cs L f cdv)) Q E s := by
  unfold dueTurn dueBody
  with_unfolding_all (conv in headS _ => whnf)
  unfold dueSc at hcs
  with_unfolding_all (conv at hcs => rhs; whnf)
  subst hcs
  have hpin : ∀ p ∈ [(Str.ofString "left", Value.ref D)], m p.1 = some p.2 := by
    intro p hp; simp only [List.mem_cons, List.not_mem_nil, or_false] at hp; subst hp; exact m1
  have hpe := pins_eq _ hpin
  have F₂ := fr_pins F _ hpin
  clear F
  simp only [tri, List.cons_append, List.nil_append] at N
  k_unmd
  repeat' (first | (k_unfold; (try dsimp only)) | ((fail_if_success (with_reducible show wpAny _ _ (eval (PySem.Expr.ListComp _ _ _ _) _) _ _ _)); first | (walk1; (try dsimp only)) | (dsimp only; walk1; (try dsimp only))) | fail "no step")
  rename Fr _ _ _ _ => F₃
  rename News _ _ _ _ => N₃
  rename_i l0 h3 hl0
  refine pairs_test (cl := []) rfl (by rfl) (by decide) rfl (by decide) (by decide) (by decide) (by decide) (fun i => decide (sg3 s1 s2 s3 i ≠ Str.ofString "a")) (fun i => .int (kk3 k1 k2 k3 i) (kk3 u1 u2 u3 i)) (fun i => .str (sg3 s1 s2 s3 i) (kk3 t1 t2 t3 i)) (fun i => .int (kk3 k1 k2 k3 i) (kk3 u1 u2 u3 i)) ?_
  repeat' (first | (k_unfold; (try dsimp only)) | ((fail_if_success (with_reducible show Exists _)); first | (walk1; (try dsimp only)) | (dsimp only; walk1; (try dsimp only))) | fail "no step")
  rename News _ _ _ _ => N₄
  rename Fr _ _ _ _ => F₄
  refine ⟨D, #[.ref a1, .ref a2, .ref a3], rfl, ⟨_, (N₄ _ (.tail _ (.head _))).1, rfl, _, rfl⟩, (by show (3 : Nat) ≤ 1000; decide), fun i v hv => ?_, fun i C s' m₂ Q' E' hn h1 h2 hq => ?_, fun i C s' m₂ Q' E' hn h1 h2 hq => ?_, fun h' D' tk' hk hD hD' => ?_⟩
  · match i with
    | 0 => cases hv; exact ⟨a1, rfl, _, (N₄ _ (.tail _ (.tail _ (.tail _ (.tail _ (.head _)))))).1, rfl, _, rfl⟩
    | 1 => cases hv; exact ⟨a2, rfl, _, (N₄ _ (.tail _ (.tail _ (.tail _ (.head _))))).1, rfl, _, rfl⟩
    | 2 => cases hv; exact ⟨a3, rfl, _, (N₄ _ (.tail _ (.tail _ (.head _)))).1, rfl, _, rfl⟩
    | i + 3 => simp at hv
  · generalize sg3 s1 s2 s3 i = sg at *
    generalize kk3 t1 t2 t3 i = tg at *
    clear N₄ F₄
    k_unmd
    k_steps
    rw [show (sg != Str.ofString "a") = decide (sg ≠ Str.ofString "a") from by by_cases h : sg = Str.ofString "a" <;> simp [h]]
    exact hq _
  · clear N₄ F₄
    k_unmd
    k_steps
    exact hq _
  · have F₅ : Fr g L h' _ := F₄.kept hk
    have N₅ : News g L h' _ := N₄.kept_cons F₄ hk hD hD'
    clear F₄ N₄
    refine add_arrays F₅ N₅ ⟨_, (N₅ _ (.tail _ (.head _))).1, rfl, _, rfl⟩ ⟨_, (N₅ _ (.head _)).1, rfl, _, rfl⟩ (fun h₆ F₆ N₆ => ?_) (by
      rw [sizeLine_eq, List.size_toArray]
      exact Nat.le_trans (Nat.add_le_add_left gath_len 1) (by show 1 + 3 ≤ 16777216; decide))
    clear F₅ N₅
    have hints : IntsAre (#[Value.int 0 s.toks].toList ++ (gath (fun i => decide (sg3 s1 s2 s3 i ≠ Str.ofString "a")) (fun i => .int (kk3 k1 k2 k3 i) (kk3 u1 u2 u3 i)) 3).toArray.toList) (0 :: gathI (fun i => decide (sg3 s1 s2 s3 i ≠ Str.ofString "a")) (kk3 k1 k2 k3) 3) := .cons _ _ (by rw [List.toList_toArray]; exact gath_ints (k := kk3 k1 k2 k3) (u := kk3 u1 u2 u3) 3)
    repeat' (first | (k_unfold; (try dsimp only)) | ((fail_if_success (with_reducible show wpAny _ _ (call (Value.builtin "max") _) _ _ _)); first | (walk1; (try dsimp only)) | (dsimp only; walk1; (try dsimp only))) | fail "no step")
    rename Fr _ _ _ _ => F₇
    rename News _ _ _ _ => N₇
    refine max_list_N rfl F₇ N₇ ⟨_, (N₇ _ (.head _)).1, rfl, _, rfl⟩ hints (Nat.zero_lt_succ _) fun h₈ M t₈ tk₈ F₈ N₈ hM1 hM2 => ?_
    clear F₇ N₇
    have hdep : IsDepth [(s1, k1), (s2, k2), (s3, k3)] M := by
      have hle : ∀ p ∈ [(s1, k1), (s2, k2), (s3, k3)], p.1 ≠ Str.ofString "a" → p.2 ≤ M := fun p hp hpa => hM2 _ (.tail _ (mem_gathI.mpr (by
        simp only [List.mem_cons, List.not_mem_nil, or_false] at hp
        rcases hp with rfl | rfl | rfl
        · exact ⟨0, by decide, decide_eq_true hpa, rfl⟩
        · exact ⟨1, by decide, decide_eq_true hpa, rfl⟩
        · exact ⟨2, by decide, decide_eq_true hpa, rfl⟩)))
      refine ⟨?_, hM2 0 (.head _), hle⟩
      rcases List.mem_cons.mp hM1 with h | h
      · exact .inl h
      · obtain ⟨i, hi, hb, hk⟩ := mem_gathI.mp h
        refine .inr ?_
        match i, hi with
        | 0, _ => exact ⟨(s1, k1), .head _, of_decide_eq_true hb, hk⟩
        | 1, _ => exact ⟨(s2, k2), .tail _ (.head _), of_decide_eq_true hb, hk⟩
        | 2, _ => exact ⟨(s3, k3), .tail _ (.tail _ (.head _)), of_decide_eq_true hb, hk⟩
    k_steps
    rename Fr _ _ _ _ => F₉
    rename News _ _ _ _ => N₉
    exact hQ _ _ M t₈ hdep (fr_eq F₉ fun y => by have := congrFun hpe y; (try dsimp only at this ⊢); rw [this]) fun q hq => N₉ q (.tail _ (.tail _ (.tail _ hq)))
end

end
section
/-- a list of texts at hand -/
structure RL where
  a : Addr
  vs : List Value
  e : Nat
  ss : List Str
noncomputable def RL.obj (x : RL) : Addr × Obj := (x.a, PySem.W.listOf x.vs.toArray x.e)
noncomputable def refsOf (Ls : List RL) : Array Value := (Ls.map fun x => Value.ref x.a).toArray
structure RLsOk (rl : Addr) (Ls : List RL) (rest : List (Addr × Obj)) : Prop where
  str : ∀ x ∈ Ls, StrsAre x.vs x.ss
  nd : (rl :: Ls.map (·.a)).Nodup
  off : ∀ q ∈ rest, q.1 ∉ rl :: Ls.map (·.a)
noncomputable def growTo (rr : List (List Str)) (n : Nat) : List (List Str) := rr ++ List.replicate (n + 1 - rr.length) []
noncomputable def putAt : List (List Str) → Nat → Str → List (List Str)
  | [], _, _ => []
  | r :: rr, 0, t => (if t ∈ r then r else r ++ [t]) :: rr
  | r :: rr, n + 1, t => r :: putAt rr n t
theorem putAt_mid : ∀ (a : List (List Str)) (r : List Str) (b : List (List Str)) (t : Str), putAt (a ++ r :: b) a.length t = a ++ (if t ∈ r then r else r ++ [t]) :: b
  | [], _, _, _ => rfl
  | c :: a, r, b, t => by rw [List.cons_append, List.length_cons, putAt, putAt_mid a r b t]; rfl
theorem refsOf_snoc (Ls : List RL) (x : RL) : refsOf (Ls ++ [x]) = (refsOf Ls).push (.ref x.a) := by unfold refsOf; simp
section
local macro_rules | `(tactic| k_steps) => `(tactic| (repeat' (first | (k_unfold; (try dsimp only)) | (walk1; (try dsimp only)) | (dsimp only; walk1; (try dsimp only)) | fail "no step")))
local macro_rules | `(tactic| walk_at "call builtin:dict.get") => `(tactic| first
  | (refine dget_some (by with_reducible assumption) (by k_mem) (by with_reducible assumption) (by with_reducible assumption) (by first | with_reducible assumption | (rename (∀ _, valueAt _ _ = some _) => hvv; exact hvv _)) ?_)
  | (refine dget_none (by with_reducible assumption) (by k_mem) (by with_reducible assumption) (by with_reducible assumption) (by first | with_reducible assumption | (rename (∀ _, valueAt _ _ = none) => hvv; exact hvv _)) ?_))
local macro_rules | `(tactic| k_ne) => `(tactic| (refine neN ?_; (try dsimp only); first | exact Df.to (by with_reducible assumption) | exact Df.from (by with_reducible assumption) | omega))
local macro_rules | `(tactic| k_room) => `(tactic| ((try simp only [depth_under_make, depth_under_kw, depth_in1, depth_deeper, depth_caller]); (try dsimp only [ktrTop]); omega))
local macro_rules | `(tactic| walk_at "setItem ref str") => `(tactic| (k_dflt (refine kda_set (knd := PySem.strKind _ _) (by k_asm) (by k_asm) (by k_updF) (by k_asm) (strKind_is _ _ _ _) (by first | with_reducible assumption | (rename (∀ _, List.length _ ≤ sizeLine) => hzz; exact hzz _)) ?_); intro h' o' F' N' hd'; (try dsimp only at N')))

local macro_rules | `(tactic| k_all) => `(tactic| with_reducible assumption)
local macro_rules | `(tactic| walk_at "exec While Compare cons nil") => `(tactic| (k_dflt (refine wpAny_While ?_)))
local macro_rules | `(tactic| walk_at "call builtin:list.append") => `(tactic| (k_dflt (refine append_K (by with_reducible assumption) (by with_reducible assumption) (by k_upd) ?_ (by with_reducible assumption)); intro h' F' N'; (try dsimp only at N')))
local macro_rules | `(tactic| walk_at "call builtin:len") => `(tactic| (k_dflt (refine len_led (by with_reducible assumption) (by k_mem) (by with_reducible assumption) ?_)))
theorem due_grow {w : World} {dp un : Nat} {gd : Option (List Code)} {qual : Str} {sc cs : Scope} {f : Addr} {cdv : Value} {outer : List Env} {base g : Heap} {A : Around} {L : Addr} {m : Str → Option Value} {s : Shared} {p : Program} {loose : List Str} {mean : ExcName → Option Value} {mg mb : Str → Option Value}
    {rest : List (Addr × Obj)} {rl : Addr} {Ls : List RL} {e M : Nat} {tM : Tok}
    (B : Below A base outer g) (F : Fr g L s.heap m) (X : (Mine.hd.heap_1 w.params).In g) (T : Top p loose mean mg mb g) (N : News g L s.heap ((rl, PySem.W.listOf (refsOf Ls) e) :: (Ls.map RL.obj ++ rest)))
    (hL : RLsOk rl Ls rest) (hz : Ls.length ≤ 100) (hM : M ≤ 100)
    (m1 : m "rounds" = some (.ref rl)) (m2 : m "depth" = some (.int M tM))
    (hcs : cs = dueSc w sc) (hdp : dp + 60 < recursionLimit) (hun : un + 600 < cLine) {Q : Flow → Shared → Prop} {E : Value → Shared → Prop}
    (hQ : ∀ h' tk Ls' e', Fr g L h' m → RLsOk rl Ls' rest → Ls'.map (·.ss) = growTo (Ls.map (·.ss)) M → News g L h' ((rl, PySem.W.listOf (refsOf Ls') e') :: (Ls'.map RL.obj ++ rest)) → Q .next { s with heap := h', toks := tk }) :
    wpAny (model PR w) (ktrTop dp un gd qual cs L f cdv (cellsFrom (L + 1) cs.names []) outer) (exec (headS ((dueTurn w).drop 2)) (envOfC qual cs L f cdv)) Q E s := by
  unfold dueTurn dueBody
  with_unfolding_all (conv in headS _ => whnf)
  unfold dueSc at hcs
  with_unfolding_all (conv at hcs => rhs; whnf)
  subst hcs
  k_unmd
  k_steps
  refine whileJ (R := _) F N (fun μ m' news => m' = m ∧ ∃ (Ls' : List RL) (e' : Nat), RLsOk rl Ls' rest ∧ Ls'.map (·.ss) = Ls.map (·.ss) ++ List.replicate (Ls'.length - Ls.length) [] ∧ Ls.length ≤ Ls'.length ∧ Ls'.length ≤ max (M + 1) Ls.length ∧ M + 1 - Ls'.length = μ ∧ news = (rl, PySem.W.listOf (refsOf Ls') e') :: (Ls'.map RL.obj ++ rest)) _
    ⟨rfl, Ls, e, hL, by simp, Nat.le_refl _, by omega, rfl, rfl⟩ ?turn
  intro μ m' news' h tk hpat F' N'
  obtain ⟨rfl, Ls', e', hL', hss, hle, hmx, hμ, rfl⟩ := hpat
  have hpin : ∀ p ∈ [(Str.ofString "rounds", Value.ref rl), (Str.ofString "depth", .int M tM)], m' p.1 = some p.2 := by
    intro p hp; simp only [List.mem_cons, List.not_mem_nil, or_false] at hp; rcases hp with rfl | rfl <;> assumption
  have hpe := pins_eq _ hpin
  have F₂ := fr_pins F' _ hpin
  have hsz : (refsOf Ls').size ≤ sizeLine := by unfold refsOf; rw [sizeLine_eq]; simp; omega
  have hszn : ((refsOf Ls').size : Int) = Ls'.length := by unfold refsOf; simp
  have hoff : ∀ q ∈ Ls'.map RL.obj ++ rest, q.1 ≠ rl := by
    intro q hq e
    rcases List.mem_append.mp hq with hq | hq
    · obtain ⟨x, hx, rfl⟩ := List.mem_map.mp hq
      exact (List.nodup_cons.mp hL'.nd).1 (List.mem_map.mpr ⟨x, hx, e⟩)
    · exact hL'.off q hq (e ▸ .head _)
  clear F N F'
  k_unmd
  k_fold
  k_steps
  · rename Fr _ _ _ _ => F₉
    rename News _ _ _ _ => N₉
    rename (@LT.lt Nat _ _ _ ∧ AllLt _ _) => hl
    rename ((refsOf Ls').size : Int) ≤ (M : Int) => hsm
    obtain ⟨lx, hl, N₉⟩ : ∃ lx, (@LT.lt Nat _ rl lx ∧ AllLt lx (Ls'.map RL.obj ++ rest)) ∧ News g L _ ((lx, PySem.W.listOf #[] 0) :: (rl, PySem.W.listOf ((refsOf Ls').push (.ref lx)) (e' + 1)) :: (Ls'.map RL.obj ++ rest)) := ⟨_, hl, N₉⟩
    have hb := allLt_back hl.2
    have hnl : ∀ x ∈ Ls', x.a ≠ lx := fun x hx e => by
      have := hb x.obj (List.mem_append_left _ (List.mem_map_of_mem hx))
      exact Nat.ne_of_lt this e
    refine turnOk_ ((rl, PySem.W.listOf (refsOf (Ls' ++ [(⟨lx, [], 0, []⟩ : RL)])) (e' + 1)) :: ((Ls' ++ [(⟨lx, [], 0, []⟩ : RL)]).map RL.obj ++ rest)) F₉ N₉ (fun q hq => ?_) (fun q hq hm => nomatch hm) ⟨M + 1 - (Ls' ++ [(⟨lx, [], 0, []⟩ : RL)]).length, ?_, hpe, Ls' ++ [(⟨lx, [], 0, []⟩ : RL)], e' + 1, ⟨fun x hx => ?_, ?_, fun q hq hm => ?_⟩, ?_, ?_, ?_, rfl, rfl⟩
    · rw [refsOf_snoc] at hq
      simp only [List.map_append, List.map_cons, List.map_nil, List.append_nil, List.mem_cons, List.mem_append, List.not_mem_nil, or_false, RL.obj] at hq ⊢
      rcases hq with h | (h | h) | h
      · exact .inr (.inl h)
      · exact .inr (.inr (.inl h))
      · exact .inl h
      · exact .inr (.inr (.inr h))
    · rw [List.length_append, List.length_singleton]; omega
    · rcases List.mem_append.mp hx with hx | hx
      · exact hL'.str x hx
      · rw [List.mem_singleton.mp hx]; exact .nil
    · have := hL'.nd
      rw [List.map_append, ← List.cons_append, List.nodup_append]
      refine ⟨this, by simp, fun x hx y hy e => ?_⟩
      simp only [List.map_cons, List.map_nil, List.mem_singleton] at hy
      rw [hy] at e
      rcases List.mem_cons.mp hx with h | h
      · exact Nat.ne_of_lt hl.1 (h.symm.trans e)
      · obtain ⟨z, hz, hze⟩ := List.mem_map.mp h
        exact hnl z hz (hze.trans e)
    · rw [List.map_append, ← List.cons_append] at hm
      rcases List.mem_append.mp hm with hm | hm
      · exact hL'.off q hq hm
      · simp only [List.map_cons, List.map_nil, List.mem_singleton] at hm
        exact Nat.ne_of_lt (hb q (List.mem_append_right _ hq)) hm
    · rw [List.map_append, hss, List.length_append, List.length_singleton, show Ls'.length + 1 - Ls.length = Ls'.length - Ls.length + 1 by omega, List.replicate_succ', List.append_assoc]; rfl
    · rw [List.length_append]; omega
    · rw [List.length_append, List.length_singleton]; omega
  · rename ¬ ((refsOf Ls').size : Int) ≤ (M : Int) => hsm
    refine hQ _ _ Ls' e' (fr_eq F₂ (congrFun hpe)) hL' ?_ N'
    unfold growTo
    rw [hss, List.length_map, show Ls'.length - Ls.length = M + 1 - Ls.length by omega]
end

end
section
local macro_rules | `(tactic| walk_at "pad") => `(tactic| fail)
theorem tri_counts {g h : Heap} {L D a1 a2 a3 : Addr} {s1 s2 s3 : Str} {k1 k2 k3 : Int} {t1 t2 t3 u1 u2 u3 : Tok} {rest : List (Addr × Obj)} (N : News g L h (tri D a1 a2 a3 s1 s2 s3 k1 k2 k3 t1 t2 t3 u1 u2 u3 ++ rest)) : CountsAt h D [(s1, k1), (s2, k2), (s3, k3)] :=
  counts_at (N _ (.head _)).1 (N _ (.tail _ (.tail _ (.tail _ (.head _))))).1 (N _ (.tail _ (.tail _ (.head _)))).1 (N _ (.tail _ (.head _))).1
section
variable {prog : Program} {w : World} {A : Around} {E : Value → Shared → Prop} {s : Shared} {h₀ : Heap} {L l : Addr} {news : List (Addr × Obj)}
theorem item_led {value slice : PySem.Expr} {items : Array Value} {e k : Nat} {u : Tok} {v : Value} {Q : Value → Shared → Prop} (N : News h₀ L s.heap news) (hm : (l, PySem.W.listOf items e) ∈ news) (hx : items[k]? = some v) (hk : k ≤ 1000) (h : Q v s)
    (hs : subscripted slice false (.ref l) (.int k u) = operate [.ref l, .int k u] (getItem (.ref l) (.int k u)) := by with_unfolding_all rfl) :
    wpAny (model prog w) A (subscriptTail value slice (.ref l) (.int k u)) Q E s :=
  have hl : s.heap.IsList l items := ⟨_, (N _ hm).1, rfl, _, rfl⟩
  tail_any hl.typeIs slot_list_getitem.lookup (wpAny_getItem_list hl (Int.natCast_nonneg k) (by omega) (by simpa using hx) h) hs
theorem notin_led {vs : List Value} {ss : List Str} {e : Nat} {k : Str} {t : Tok} {b : Bool} {Q : Value → Shared → Prop} (N : News h₀ L s.heap news) (hm : (l, PySem.W.listOf vs.toArray e) ∈ news) (hv : StrsAre vs ss) (hb : (!(ss.any (· == k))) = b) (h : Q (.bool b) s) :
    wpAny (model prog w) A (compareOp .NotIn (.str k t) (.ref l)) Q E s :=
  notin_list_strs ⟨_, (N _ hm).1, rfl, _, rfl⟩ hv (by rw [hb]; exact h)
end
section
local macro_rules | `(tactic| k_steps) => `(tactic| (repeat' (first | (k_unfold; (try dsimp only)) | (walk1; (try dsimp only)) | (dsimp only; walk1; (try dsimp only)) | fail "no step")))
local macro_rules | `(tactic| walk_at "call builtin:dict.get") => `(tactic| first
  | (refine dget_some (by with_reducible assumption) (by k_mem) (by with_reducible assumption) (by with_reducible assumption) (by first | with_reducible assumption | (rename (∀ _, valueAt _ _ = some _) => hvv; exact hvv _)) ?_)
  | (refine dget_none (by with_reducible assumption) (by k_mem) (by with_reducible assumption) (by with_reducible assumption) (by first | with_reducible assumption | (rename (∀ _, valueAt _ _ = none) => hvv; exact hvv _)) ?_))
local macro_rules | `(tactic| k_ne) => `(tactic| (refine neN ?_; (try dsimp only); first | exact Df.to (by with_reducible assumption) | exact Df.from (by with_reducible assumption) | omega))
local macro_rules | `(tactic| k_room) => `(tactic| ((try simp only [depth_under_make, depth_under_kw, depth_in1, depth_deeper, depth_caller]); (try dsimp only [ktrTop]); omega))
local macro_rules | `(tactic| walk_at "setItem ref str") => `(tactic| (k_dflt (refine kda_set (knd := PySem.strKind _ _) (by k_asm) (by k_asm) (by k_updF) (by k_asm) (strKind_is _ _ _ _) (by first | with_reducible assumption | (rename (∀ _, List.length _ ≤ sizeLine) => hzz; exact hzz _)) ?_); intro h' o' F' N' hd'; (try dsimp only at N')))

local macro_rules | `(tactic| walk_at "subscriptTail") => `(tactic| (k_dflt (refine item_led (by with_reducible assumption) (by k_mem) (by with_reducible assumption) (by with_reducible assumption) ?_)))
local macro_rules | `(tactic| walk_at "compareOp NotIn str ref") => `(tactic| (k_dflt (refine notin_led (by with_reducible assumption) (by k_mem) (by with_reducible assumption) (by with_reducible assumption) ?_)))
local macro_rules | `(tactic| k_all) => `(tactic| with_reducible assumption)
local macro_rules | `(tactic| walk_at "call builtin:list.append") => `(tactic| (k_dflt (refine append_K (by with_reducible assumption) (by with_reducible assumption) (by k_upd) ?_ (by with_reducible assumption)); intro h' F' N'; (try dsimp only at N')))
theorem due_put {w : World} {dp un : Nat} {gd : Option (List Code)} {qual : Str} {sc cs : Scope} {f : Addr} {cdv : Value} {outer : List Env} {base g : Heap} {A : Around} {L : Addr} {m : Str → Option Value} {s : Shared} {p : Program} {loose : List Str} {mean : ExcName → Option Value} {mg mb : Str → Option Value}
    {rest : List (Addr × Obj)} {rl : Addr} {Ls : List RL} {e M : Nat} {tM : Tok} {D : Addr} {c : List (Str × Int)}
    (B : Below A base outer g) (F : Fr g L s.heap m) (X : (Mine.hd.heap_1 w.params).In g) (T : Top p loose mean mg mb g) (N : News g L s.heap ((rl, PySem.W.listOf (refsOf Ls) e) :: (Ls.map RL.obj ++ rest)))
    (hL : RLsOk rl Ls rest) (hz : Ls.length ≤ 1000) (hM : M < Ls.length) (hsz : ∀ x ∈ Ls, x.ss.length ≤ 1000)
    (hc : ∀ h, News g L h rest → CountsAt h D c) (hc3 : c.length ≤ 3) (hok : ∀ p ∈ c, okPair p)
    (m1 : m "rounds" = some (.ref rl)) (m2 : m "depth" = some (.int M tM)) (m3 : m "left" = some (.ref D))
    (hcs : cs = dueSc w sc) (hdp : dp + 60 < recursionLimit) (hun : un + 600 < cLine) {Q : Flow → Shared → Prop} {E : Value → Shared → Prop}
    (hQ : ∀ h' tk Ls', Fr g L h' m → RLsOk rl Ls' rest → Ls'.map (·.ss) = putAt (Ls.map (·.ss)) M (writ c) → News g L h' ((rl, PySem.W.listOf (refsOf Ls') e) :: (Ls'.map RL.obj ++ rest)) → Q .next { s with heap := h', toks := tk }) :
    wpAny (model PR w) (ktrTop dp un gd qual cs L f cdv (cellsFrom (L + 1) cs.names []) outer) (exec (headS ((dueTurn w).drop 3)) (envOfC qual cs L f cdv)) Q E s := by
  unfold dueTurn dueBody
  with_unfolding_all (conv in headS _ => whnf)
  unfold dueSc at hcs
  with_unfolding_all (conv at hcs => rhs; whnf)
  subst hcs
  obtain ⟨pre, x, post, rfl, hpl⟩ : ∃ pre x post, Ls = pre ++ x :: post ∧ pre.length = M := by
    refine ⟨Ls.take M, Ls[M], Ls.drop (M + 1), ?_, by simp; omega⟩
    simp
  have hpin : ∀ p ∈ [(Str.ofString "rounds", Value.ref rl), (Str.ofString "depth", .int M tM), (Str.ofString "left", .ref D)], m p.1 = some p.2 := by
    intro p hp; simp only [List.mem_cons, List.not_mem_nil, or_false] at hp; rcases hp with rfl | rfl | rfl <;> assumption
  have hpe := pins_eq _ hpin
  have F₂ := fr_pins F _ hpin
  clear F
  k_unmd
  repeat' (first | (k_unfold; (try dsimp only)) | ((fail_if_success (with_reducible show wpAny _ _ (call (Value.ref 180) _) _ _ _)); first | (walk1; (try dsimp only)) | (dsimp only; walk1; (try dsimp only))) | fail "no step")
  rename Fr _ _ _ _ => F₃
  rename News _ _ _ _ => N₃
  have hN0 := hc _ (fun q hq => N₃ q (.tail _ (List.mem_append_right _ hq)))
  refine call_nil (written_spec hc3 hok) B F₃ X T N₃ hN0 (by omega) (by omega) rfl ?_
  intro v h₄ tk₄ news₄ F₄ N₄ _ hpat
  obtain ⟨t₄, rfl⟩ := hpat
  have hx0 := hL.str x (List.mem_append_right _ (.head _))
  have hidx : (refsOf (pre ++ x :: post))[M]? = some (.ref x.a) := by unfold refsOf; rw [← hpl]; simp
  have hM1 : M ≤ 1000 := by omega
  have hnd := hL.nd
  rw [List.map_append, List.map_cons, List.nodup_cons] at hnd
  have hrx : Df rl x.a := fun e => hnd.1 (by rw [e]; simp)
  have N₅ : News g L h₄ ((rl, PySem.W.listOf (refsOf (pre ++ x :: post)) e) :: (x.a, PySem.W.listOf x.vs.toArray x.e) :: (pre.map RL.obj ++ (post.map RL.obj ++ rest))) := fun q hq => N₄ q (List.mem_append_right _ (by
    rw [List.map_append, List.map_cons]
    simp only [List.mem_cons, List.mem_append] at hq ⊢
    rcases hq with h | h | h | h | h
    · exact .inl h
    · exact .inr (.inl (.inr (.inl h)))
    · exact .inr (.inl (.inl h))
    · exact .inr (.inl (.inr (.inr h)))
    · exact .inr (.inr h)))
  have hox : ∀ q ∈ pre.map RL.obj ++ (post.map RL.obj ++ rest), q.1 ≠ x.a := by
    intro q hq e'
    obtain ⟨n1, n2, n3⟩ := nodup_app hnd.2
    simp only [List.mem_append] at hq
    rcases hq with hq | hq | hq
    · obtain ⟨y, hy, rfl⟩ := List.mem_map.mp hq
      exact n3 y.a (List.mem_map_of_mem hy) (by rw [show y.a = x.a from e']; exact .head _)
    · obtain ⟨y, hy, rfl⟩ := List.mem_map.mp hq
      exact (List.nodup_cons.mp n2).1 (by rw [← show y.a = x.a from e']; exact List.mem_map_of_mem hy)
    · exact hL.off q hq (by rw [e', List.map_append]; simp)
  clear F₃ N₃ N₄
  by_cases hmem : writ c ∈ x.ss
  · have hb : (!(x.ss.any (· == writ c))) = false := by
      rw [Bool.not_eq_false', List.any_eq_true]; exact ⟨_, hmem, by simp⟩
    k_steps
    refine hQ _ _ (pre ++ x :: post) (fr_eq F₄ (congrFun hpe)) hL ?_ (fun q hq => N₅ q ?_)
    · rw [List.map_append, List.map_cons, ← hpl, ← List.length_map (as := pre) (·.ss), putAt_mid, if_pos hmem]
    · rw [List.map_append, List.map_cons] at hq
      simp only [List.mem_cons, List.mem_append] at hq ⊢
      rcases hq with h | (h | h | h) | h
      · exact .inl h
      · exact .inr (.inr (.inl h))
      · exact .inr (.inl h)
      · exact .inr (.inr (.inr (.inl h)))
      · exact .inr (.inr (.inr (.inr h)))
  · have hb : (!(x.ss.any (· == writ c))) = true := by
      rw [Bool.not_eq_true', List.any_eq_false]; exact fun y hy h => hmem (by rw [← eq_of_beq h]; exact hy)
    repeat' (first | (k_unfold; (try dsimp only)) | ((fail_if_success (with_reducible show wpAny _ _ (call (Value.ref 180) _) _ _ _)); first | (walk1; (try dsimp only)) | (dsimp only; walk1; (try dsimp only))) | fail "no step")
    rename Fr _ _ _ _ => F₆
    rename News _ _ _ _ => N₆
    have hN1 := hc _ (fun q hq => N₆ q (.tail _ (.tail _ (List.mem_append_right _ (List.mem_append_right _ hq)))))
    refine call_nil (written_spec hc3 hok) B F₆ X T N₆ hN1 (by omega) (by omega) rfl ?_
    intro v h₇ tk₇ news₇ F₇ N₇ _ hpat
    obtain ⟨t₇, rfl⟩ := hpat
    replace N₇ : News g L h₇ ((rl, PySem.W.listOf (refsOf (pre ++ x :: post)) e) :: (x.a, PySem.W.listOf x.vs.toArray x.e) :: (pre.map RL.obj ++ (post.map RL.obj ++ rest))) := fun q hq => N₇ q (List.mem_append_right _ hq)
    have hxz : x.vs.toArray.size ≤ sizeLine := by
      have h1 := hx0.length
      have h2 := hsz x (List.mem_append_right _ (.head _))
      rw [sizeLine_eq, List.size_toArray]; omega
    clear F₆ N₆
    k_steps
    rename Fr _ _ _ _ => F₈
    rename News _ _ _ _ => N₈
    refine hQ _ _ (pre ++ ⟨x.a, x.vs ++ [.str (writ c) t₇], x.e + 1, x.ss ++ [writ c]⟩ :: post) (fr_eq F₈ (congrFun hpe)) ⟨fun y hy => ?_, ?_, fun q hq => ?_⟩ ?_ (fun q hq => N₈ q ?_)
    · rcases List.mem_append.mp hy with hy | hy
      · exact hL.str y (List.mem_append_left _ hy)
      · rcases List.mem_cons.mp hy with rfl | hy
        · exact strsAre_push hx0
        · exact hL.str y (List.mem_append_right _ (.tail _ hy))
    · have := hL.nd
      rw [List.map_append, List.map_cons] at this ⊢
      exact this
    · have := hL.off q hq
      rw [List.map_append, List.map_cons] at this ⊢
      exact this
    · rw [List.map_append, List.map_cons, List.map_append, List.map_cons, ← hpl, ← List.length_map (as := pre) (·.ss), putAt_mid, if_neg hmem]
    · rw [List.map_append, List.map_cons, show refsOf (pre ++ ⟨x.a, x.vs ++ [.str (writ c) t₇], x.e + 1, x.ss ++ [writ c]⟩ :: post) = refsOf (pre ++ x :: post) from by unfold refsOf; simp] at hq
      simp only [List.mem_cons, List.mem_append, RL.obj] at hq ⊢
      rcases hq with h | (h | h | h) | h
      · exact .inl h
      · exact .inr (.inr (.inl h))
      · refine .inr (.inl ?_)
        rw [h]; simp
      · exact .inr (.inr (.inr (.inl h)))
      · exact .inr (.inr (.inr (.inr h)))
end

end
section
noncomputable def depN (c : List (Str × Int)) : Nat := ((c.filter fun (p : Str × Int) => decide (p.1 ≠ Str.ofString "a")).map (fun (p : Str × Int) => p.2.toNat)).foldl max 0
theorem foldl_max_le : ∀ (l : List Nat) (z b : Nat), z ≤ b → (∀ x ∈ l, x ≤ b) → l.foldl max z ≤ b
  | [], _, _, h, _ => h
  | x :: l, z, b, h, hl => foldl_max_le l (max z x) b (Nat.max_le.mpr ⟨h, hl x (.head _)⟩) fun y hy => hl y (.tail _ hy)
theorem le_foldl_max : ∀ (l : List Nat) (z : Nat), z ≤ l.foldl max z ∧ ∀ x ∈ l, x ≤ l.foldl max z
  | [], z => ⟨Nat.le_refl _, fun _ h => nomatch h⟩
  | x :: l, z => by
    obtain ⟨h1, h2⟩ := le_foldl_max l (max z x)
    refine ⟨Nat.le_trans (Nat.le_max_left _ _) h1, fun y hy => ?_⟩
    rcases List.mem_cons.mp hy with rfl | hy
    · exact Nat.le_trans (Nat.le_max_right _ _) h1
    · exact h2 y hy
theorem IsDepth.eq {c : List (Str × Int)} {M : Int} (h : IsDepth c M) : M = depN c := by
  obtain ⟨h1, h2, h3⟩ := h
  obtain ⟨l1, l2⟩ := le_foldl_max ((c.filter fun (p : Str × Int) => decide (p.1 ≠ Str.ofString "a")).map (fun (p : Str × Int) => p.2.toNat)) 0
  have hle : depN c ≤ M.toNat := foldl_max_le _ _ _ (Nat.zero_le _) fun x hx => by
    obtain ⟨p, hp, rfl⟩ := List.mem_map.mp hx
    obtain ⟨hp, hpa⟩ := List.mem_filter.mp hp
    have := h3 p hp (of_decide_eq_true hpa)
    omega
  rcases h1 with h1 | ⟨p, hp, hpa, hpM⟩
  · omega
  · have : p.2.toNat ≤ depN c := l2 _ (List.mem_map.mpr ⟨p, List.mem_filter.mpr ⟨hp, decide_eq_true hpa⟩, rfl⟩)
    omega
noncomputable def leftOf (c : List (Str × Int)) (more back : Int) : List (Str × Int) := c.map fun p => (p.1, lft more back p.2)
noncomputable def dueStep (rr : List (List Str)) (c : List (Str × Int)) (more back : Int) : List (List Str) := putAt (growTo rr (depN (leftOf c more back))) (depN (leftOf c more back)) (writ (leftOf c more back))
theorem depN_le {c : List (Str × Int)} {b : Nat} (h : ∀ p ∈ c, p.2 ≤ b) : depN c ≤ b := foldl_max_le _ _ _ (Nat.zero_le _) fun x hx => by
  obtain ⟨p, hp, rfl⟩ := List.mem_map.mp hx
  have := h p (List.mem_filter.mp hp).1
  omega
theorem growTo_len (rr : List (List Str)) (n : Nat) : (growTo rr n).length = max rr.length (n + 1) := by
  unfold growTo; rw [List.length_append, List.length_replicate]; omega
theorem putAt_len : ∀ (rr : List (List Str)) (n : Nat) (t : Str), (putAt rr n t).length = rr.length
  | [], _, _ => rfl
  | _ :: rr, 0, _ => rfl
  | _ :: rr, n + 1, t => by rw [putAt, List.length_cons, List.length_cons, putAt_len rr n t]
theorem growTo_fit {rr : List (List Str)} {n b : Nat} (h : ∀ r ∈ rr, r.length ≤ b) : ∀ r ∈ growTo rr n, r.length ≤ b := fun r hr => by
  rcases List.mem_append.mp hr with hr | hr
  · exact h r hr
  · rw [(List.mem_replicate.mp hr).2]; exact Nat.zero_le _
theorem putAt_fit : ∀ {rr : List (List Str)} {n b : Nat} {t : Str}, (∀ r ∈ rr, r.length ≤ b) → ∀ r ∈ putAt rr n t, r.length ≤ b + 1
  | [], _, _, _, _ => fun _ h => nomatch h
  | c :: rr, 0, b, t, h => fun r hr => by
    rcases List.mem_cons.mp hr with rfl | hr
    · have := h c (.head _)
      split
      · omega
      · rw [List.length_append, List.length_singleton]; omega
    · exact Nat.le_succ_of_le (h r (.tail _ hr))
  | c :: rr, n + 1, b, t, h => fun r hr => by
    rcases List.mem_cons.mp hr with rfl | hr
    · exact Nat.le_succ_of_le (h _ (.head _))
    · exact putAt_fit (fun r hr => h r (.tail _ hr)) r hr
/-- a pair that the law draws -/
structure DrOk (d : Dr) : Prop where
  sgn : (d.s1 = "<" ∨ d.s1 = ">" ∨ d.s1 = "&" ∨ d.s1 = "a") ∧ (d.s2 = "<" ∨ d.s2 = ">" ∨ d.s2 = "&" ∨ d.s2 = "a") ∧ (d.s3 = "<" ∨ d.s3 = ">" ∨ d.s3 = "&" ∨ d.s3 = "a")
  num : (0 ≤ d.k1 ∧ d.k1 ≤ 2) ∧ (0 ≤ d.k2 ∧ d.k2 ≤ 2) ∧ (0 ≤ d.k3 ∧ d.k3 ≤ 2)
  more : 0 ≤ d.more ∧ d.more ≤ 2
theorem lft_ok {k more back : Int} (hk : 0 ≤ k ∧ k ≤ 2) (hm : 0 ≤ more ∧ more ≤ 2) (hb : 0 ≤ back) : 0 ≤ lft more back k ∧ lft more back k ≤ 4 := by
  unfold lft; split <;> omega
theorem left_ok {d : Dr} (h : DrOk d) {back : Int} (hb : 0 ≤ back) : ∀ p ∈ leftOf d.val.1 d.more back, okPair p := by
  obtain ⟨⟨s1, s2, s3⟩, ⟨n1, n2, n3⟩, m⟩ := h
  intro p hp
  simp only [leftOf, Dr.val, List.map_cons, List.map_nil, List.mem_cons, List.not_mem_nil, or_false] at hp
  rcases hp with rfl | rfl | rfl
  · exact ⟨s1, lft_ok n1 m hb⟩
  · exact ⟨s2, lft_ok n2 m hb⟩
  · exact ⟨s3, lft_ok n3 m hb⟩
section
theorem due_inner {w : World} {dp un : Nat} {gd : Option (List Code)} {qual : Str} {sc cs : Scope} {f : Addr} {cdv : Value} {outer : List Env} {base g : Heap} {A : Around} {L : Addr} {m : Str → Option Value} {s : Shared} {p : Program} {loose : List Str} {mean : ExcName → Option Value} {mg mb : Str → Option Value}
    {rest : List (Addr × Obj)} {d : Dr} {ob om : Obj} {back : Int} {tb tm : Tok} {rl : Addr} {Ls : List RL} {e n : Nat}
    (B : Below A base outer g) (F : Fr g L s.heap m) (X : (Mine.hd.heap_1 w.params).In g) (T : Top p loose mean mg mb g) (N : News g L s.heap ((L + 2, ob) :: (L + 1, om) :: (d.objs ++ ((rl, PySem.W.listOf (refsOf Ls) e) :: (Ls.map RL.obj ++ rest)))))
    (hob : ob.data = .cell (some (.int back tb))) (hom : om.data = .cell (some (.int d.more tm))) (hd : DrOk d) (hb0 : 0 ≤ back)
    (hL : RLsOk rl Ls ((L + 2, ob) :: (L + 1, om) :: (d.objs ++ rest))) (hl5 : Ls.length ≤ 5) (hn : ∀ x ∈ Ls, x.ss.length ≤ n) (hn30 : n ≤ 60)
    (m1 : m "counts" = some (.ref d.lc)) (m2 : m "rounds" = some (.ref rl))
    (hcs : cs = dueSc w sc) (hdp : dp + 60 < recursionLimit) (hun : un + 600 < cLine) {Q : Flow → Shared → Prop} {E : Value → Shared → Prop}
    (hQ : ∀ h' tk m' Ls' e', Fr g L h' m' → (∀ y, y ≠ Str.ofString "left" → y ≠ Str.ofString "depth" → m' y = m y) → RLsOk rl Ls' ((L + 2, ob) :: (L + 1, om) :: (d.objs ++ rest)) → Ls'.map (·.ss) = dueStep (Ls.map (·.ss)) d.val.1 d.more back →
      News g L h' ((L + 2, ob) :: (L + 1, om) :: (d.objs ++ ((rl, PySem.W.listOf (refsOf Ls') e') :: (Ls'.map RL.obj ++ rest)))) → Q .next { s with heap := h', toks := tk }) :
    wpAny (model PR w) (ktrTop dp un gd qual cs L f cdv (cellsFrom (L + 1) cs.names []) outer) (execs (dueTurn w) (envOfC qual cs L f cdv)) Q E s := by
  unfold dueTurn dueBody
  with_unfolding_all (conv in inner _ _ => whnf)
  refine wpAny_execs_cons ?_
  have k1 := fun Q E => due_left (dp := dp) (un := un) (gd := gd) (qual := qual) (f := f) (cdv := cdv) (outer := outer) (Q := Q) (E := E) B F X T N hob hom m1 hcs hdp hun
  with_unfolding_all refine k1 _ _ ?_
  intro h₁ tk₁ D a1 a2 a3 u1 u2 u3 F₁ N₁ hsep hnd4
  dsimp only
  refine wpAny_execs_cons ?_
  have k2 := fun Q E => due_depth (s := { s with heap := h₁, toks := tk₁ }) (dp := dp) (un := un) (gd := gd) (qual := qual) (f := f) (cdv := cdv) (outer := outer) (Q := Q) (E := E) B F₁ X T N₁ (if_pos rfl) hcs hdp hun
  with_unfolding_all refine k2 _ _ ?_
  intro h₂ tk₂ M tM hdep F₂ N₂
  dsimp only
  have hM := hdep.eq
  rw [show [(d.s1, lft d.more back d.k1), (d.s2, lft d.more back d.k2), (d.s3, lft d.more back d.k3)] = leftOf d.val.1 d.more back from rfl] at hM
  have hok := left_ok hd hb0
  have hM4 : depN (leftOf d.val.1 d.more back) ≤ 4 := depN_le fun p hp => (hok p hp).2.2
  subst hM
  generalize hMd : depN (leftOf d.val.1 d.more back) = Md at *
  refine wpAny_execs_cons ?_
  have N₂' : News g L h₂ ((rl, PySem.W.listOf (refsOf Ls) e) :: (Ls.map RL.obj ++ (tri D a1 a2 a3 d.s1 d.s2 d.s3 (lft d.more back d.k1) (lft d.more back d.k2) (lft d.more back d.k3) d.t1 d.t2 d.t3 u1 u2 u3 ++ ((L + 2, ob) :: (L + 1, om) :: (d.objs ++ rest))))) := fun q hq => N₂ q (by
    simp only [List.mem_cons, List.mem_append] at hq ⊢
    rcases hq with h | h | h | h | h | h | h
    · exact .inr (.inr (.inr (.inr (.inl h))))
    · exact .inr (.inr (.inr (.inr (.inr (.inl h)))))
    · exact .inl h
    · exact .inr (.inl h)
    · exact .inr (.inr (.inl h))
    · exact .inr (.inr (.inr (.inl h)))
    · exact .inr (.inr (.inr (.inr (.inr (.inr h))))))
  have htri : ∀ q ∈ tri D a1 a2 a3 d.s1 d.s2 d.s3 (lft d.more back d.k1) (lft d.more back d.k2) (lft d.more back d.k3) d.t1 d.t2 d.t3 u1 u2 u3, q.1 ∈ [D, a1, a2, a3] := by
    intro q hq
    simp only [tri, List.mem_cons, List.not_mem_nil, or_false] at hq ⊢
    rcases hq with rfl | rfl | rfl | rfl <;> simp
  have hL₂ : RLsOk rl Ls (tri D a1 a2 a3 d.s1 d.s2 d.s3 (lft d.more back d.k1) (lft d.more back d.k2) (lft d.more back d.k3) d.t1 d.t2 d.t3 u1 u2 u3 ++ ((L + 2, ob) :: (L + 1, om) :: (d.objs ++ rest))) := ⟨hL.str, hL.nd, fun q hq hm => by
    rcases List.mem_append.mp hq with hq | hq
    · have h4 := htri q hq
      rcases List.mem_cons.mp hm with h | h
      · exact hsep (rl, PySem.W.listOf (refsOf Ls) e) (by simp) (show rl ∈ _ from h ▸ h4)
      · obtain ⟨x, hx, hxe⟩ := List.mem_map.mp h
        exact hsep x.obj (.tail _ (.tail _ (List.mem_append_right _ (.tail _ (List.mem_append_left _ (List.mem_map_of_mem hx)))))) (show x.a ∈ _ from hxe ▸ h4)
    · exact hL.off q hq hm⟩
  have k3 := fun Q E => due_grow (s := { s with heap := h₂, toks := tk₂ }) (M := Md) (dp := dp) (un := un) (gd := gd) (qual := qual) (f := f) (cdv := cdv) (outer := outer) (Q := Q) (E := E) B F₂ X T N₂' hL₂ (by omega) (by omega) ((if_neg (by decide)).trans ((if_neg (by decide)).trans m2)) (if_pos rfl) hcs hdp hun
  with_unfolding_all refine k3 _ _ ?_
  intro h₃ tk₃ Ls₃ e₃ F₃ hL₃ hss₃ N₃
  dsimp only
  refine wpAny_execs_cons ?_
  have hlen₃ : Ls₃.length = max Ls.length (Md + 1) := by
    have := congrArg List.length hss₃
    rw [growTo_len] at this; simpa using this
  have hfit₃ : ∀ x ∈ Ls₃, x.ss.length ≤ n := fun x hx => growTo_fit (rr := Ls.map (·.ss)) (n := Md) (b := n) (fun r hr => by obtain ⟨y, hy, rfl⟩ := List.mem_map.mp hr; exact hn y hy) x.ss (hss₃ ▸ List.mem_map_of_mem hx)
  have k4 := fun Q E => due_put (s := { s with heap := h₃, toks := tk₃ }) (M := Md) (c := leftOf d.val.1 d.more back) (dp := dp) (un := un) (gd := gd) (qual := qual) (f := f) (cdv := cdv) (outer := outer) (Q := Q) (E := E) B F₃ X T N₃ hL₃ (by omega) (by omega) (fun x hx => Nat.le_trans (hfit₃ x hx) (by omega)) (fun h N => tri_counts N) (by simp [leftOf, Dr.val]) hok
    ((if_neg (by decide)).trans ((if_neg (by decide)).trans m2)) (if_pos rfl) ((if_neg (by decide)).trans (if_pos rfl)) hcs hdp hun
  with_unfolding_all refine k4 _ _ ?_
  intro h₄ tk₄ Ls₄ F₄ hL₄ hss₄ N₄
  dsimp only
  refine wpAny_execs_nil (hQ h₄ tk₄ _ Ls₄ e₃ F₄ (fun y h1 h2 => (if_neg h2).trans (if_neg h1)) ⟨hL₄.str, hL₄.nd, fun q hq => hL₄.off q (List.mem_append_right _ hq)⟩ ?_ (fun q hq => N₄ q ?_))
  · rw [hss₄, hss₃]
    unfold dueStep
    rw [hMd]
  · simp only [List.mem_cons, List.mem_append] at hq ⊢
    rcases hq with h | h | h | h | h | h
    · exact .inr (.inr (.inr (.inl h)))
    · exact .inr (.inr (.inr (.inr (.inl h))))
    · exact .inr (.inr (.inr (.inr (.inr (.inl h)))))
    · exact .inl h
    · exact .inr (.inl h)
    · exact .inr (.inr (.inr (.inr (.inr (.inr h)))))
end

end
section
local macro_rules | `(tactic| walk_at "pad") => `(tactic| fail)
local macro_rules | `(tactic| walk_at "pad") => `(tactic| fail)
noncomputable def dueRun (rr : List (List Str)) (v : List (Str × Int) × Int) : Nat → List (List Str)
  | 0 => rr
  | k + 1 => dueStep (dueRun rr v k) v.1 v.2 k
noncomputable def dueAll (rr : List (List Str)) (vs : List (List (Str × Int) × Int)) : List (List Str) := vs.foldl (fun rr v => dueRun rr v 5) rr
theorem dueStep_len {rr : List (List Str)} {d : Dr} {back : Int} (h : DrOk d) (hb : 0 ≤ back) (hl : rr.length ≤ 5) : (dueStep rr d.val.1 d.more back).length ≤ 5 := by
  have : depN (leftOf d.val.1 d.more back) ≤ 4 := depN_le fun p hp => (left_ok h hb p hp).2.2
  unfold dueStep
  rw [putAt_len, growTo_len]; omega
theorem dueStep_fit {rr : List (List Str)} {c : List (Str × Int)} {more back : Int} {b : Nat} (h : ∀ r ∈ rr, r.length ≤ b) : ∀ r ∈ dueStep rr c more back, r.length ≤ b + 1 := putAt_fit (growTo_fit h)
theorem dueRun_len {rr : List (List Str)} {d : Dr} (h : DrOk d) (hl : rr.length ≤ 5) : ∀ k, (dueRun rr d.val k).length ≤ 5
  | 0 => hl
  | k + 1 => dueStep_len h (Int.natCast_nonneg k) (dueRun_len h hl k)
theorem dueRun_fit {rr : List (List Str)} {v : List (Str × Int) × Int} {b : Nat} (h : ∀ r ∈ rr, r.length ≤ b) : ∀ k, ∀ r ∈ dueRun rr v k, r.length ≤ b + k
  | 0 => h
  | k + 1 => dueStep_fit (dueRun_fit h k)
theorem store_cell {M : Model} {A : Around} {E : Value → Shared → Prop} {s : Shared} {h₀ : Heap} {L a : Addr} {m : Str → Option Value} {cn : Str} {cs : Scope} {ccd : Value} {cl : List (Str × Addr)}
  {x : Str} {v : Value} {Q : Unit → Shared → Prop} {tl : List (Addr × Obj)} {c : Addr} {o : Obj} {v₀ : Option Value} (F : Fr h₀ L s.heap m) (N : News h₀ L s.heap ((c, o) :: tl)) (hc : cl.lookup x = some c) (hd : o.data = .cell v₀) (hn : ∀ q ∈ tl, q.1 ≠ c)
    (h : ∀ h' o', Fr h₀ L h' m → News h₀ L h' ((c, o') :: tl) → o'.data = .cell (some v) → Q () { s with heap := h' })
    (hk : cs.kind = .function := by rfl) (hx : (envX cn cs L a ccd cl).kindOf x = some .cell := by rfl) : wpAny M A (storeName (envX cn cs L a ccd cl) x v) Q E s := by
  have hmem := N (c, o) (.head _)
  refine wpAny_storeName_cell hk hx hc ⟨o, hmem.1, hd⟩ fun h' hv hs => ?_
  obtain ⟨o', ho', hd'⟩ := hv
  refine h h' o' ⟨F.ns.sameBut hs (Ne.symm hmem.2.1), fun b ob e => (hs.2 b (fun q => ?_)).trans (F.keep b ob e), F.above⟩ (News.setAt (own := []) N (fun _ h => nomatch h) hn hs ho') hd'
  rw [q, hmem.2.2] at e; cases e
theorem forRangeM {prog : Program} {w : World} {A : Around} {s : Shared} {env : Env} {h₀ : Heap} {E : Value → Shared → Prop} {R : Result → Shared → Prop} {x : Str} {pos : Pos} {body : List Stmt} {r : Addr} {n : Nat} {t u v : Tok} {m : Str → Option Value}
    {news : List (Addr × Obj)} (hh : A.handled = none) (hr : IsRange s.heap r 0 n 1 t u v) (hn : n ≤ 1000)
    (F : Fr h₀ env.locals s.heap m) (N : News h₀ env.locals s.heap news)
    (J : Nat → (Str → Option Value) → List (Addr × Obj) → Prop) (h0 : J 0 m news)
    (turn : ∀ I i t' m₁ news₁ own h tk, ItAt h₀ env.locals I news → i < n → J i m₁ news₁ → (∀ p ∈ news₁, p.1 ≠ I) → (∀ p ∈ own, p.1 = I) → (∃ o, (I, o) ∈ own) →
      Fr h₀ env.locals h m₁ → News h₀ env.locals h (news₁ ++ own) →
      wpAny (model prog w) A (assign (.Name x pos) env (.int i t')) (fun _ s₂ => wpAny (model prog w) A (execs body env) (TurnEnd h₀ env.locals own [I] (J (i + 1)) s R) NoE s₂) NoE { s with heap := h, toks := tk })
    (done : ∀ h' tk m' news', Fr h₀ env.locals h' m' → News h₀ env.locals h' news' → J n m' news' → R (.ok .next) { s with heap := h', toks := tk }) :
    wpAny (model prog w) A (pyIter (.ref r)) (fun it s₂ => codeAny (model prog w) A (.forLoop (.Name x pos) it body [] env) R s₂) E s := by
  have hsz : Builtin.Range.rangeSize 0 n 1 = n := by
    unfold Builtin.Range.rangeSize
    rw [if_pos (by decide), Int.ediv_one]
    split <;> omega
  have hsm : Builtin.Range.small 0 n 1 = true := by
    unfold Builtin.Range.small Builtin.Range.rangeFitsLong
    rw [hsz]
    simp only [Bool.and_eq_true, Bool.or_eq_true, decide_eq_true_eq, beq_iff_eq]
    rw [if_pos (by decide)]
    simp only [Bool.and_eq_true, decide_eq_true_eq]
    refine ⟨⟨⟨⟨?_, ?_⟩, ?_⟩, ?_⟩, .inr ?_⟩ <;> constructor <;> omega
  refine wpAny_pyIter_range hr hsm ?_
  rw [hsz]
  exact forPushM (Walks.range hh _ 0 1 n) (fun i v s' Q E hP hst hq => wpAny_pure hq) (fun h => nomatch h) (by simpa using Heap.get?_push_size _ rfl) F N J h0
    (fun I i v m₁ news₁ own h tk hI hi hP hJ hw ho hmo hst' F' N' => by
      obtain ⟨t', rfl⟩ := hP
      simpa using turn I i t' m₁ news₁ own h tk hI hi hJ hw (fun p hp => (ho p hp).elim id fun h => nomatch h) ⟨_, hmo _ hst'⟩ F' N') done
section
local macro_rules | `(tactic| k_steps) => `(tactic| (repeat' (first | (k_unfold; (try dsimp only)) | (walk1; (try dsimp only)) | (dsimp only; walk1; (try dsimp only)) | fail "no step")))
local macro_rules | `(tactic| walk_at "exec For Name Call cons nil") => `(tactic| (k_dflt (refine wpAny_For ?_)))
theorem due_back {w : World} {dp un : Nat} {gd : Option (List Code)} {qual : Str} {sc cs : Scope} {f : Addr} {cdv : Value} {outer : List Env} {base g : Heap} {A : Around} {L : Addr} {m : Str → Option Value} {s : Shared} {p : Program} {loose : List Str} {mean : ExcName → Option Value} {mg mb : Str → Option Value}
    {rest : List (Addr × Obj)} {d : Dr} {ob om : Obj} {vb : Option Value} {tm : Tok} {rl : Addr} {Ls : List RL} {e n : Nat}
    (B : Below A base outer g) (F : Fr g L s.heap m) (X : (Mine.hd.heap_1 w.params).In g) (T : Top p loose mean mg mb g) (N : News g L s.heap ((L + 2, ob) :: (L + 1, om) :: (d.objs ++ ((rl, PySem.W.listOf (refsOf Ls) e) :: (Ls.map RL.obj ++ rest)))))
    (hob : ob.data = .cell vb) (hom : om.data = .cell (some (.int d.more tm))) (hd : DrOk d)
    (hL : RLsOk rl Ls ((L + 2, ob) :: (L + 1, om) :: (d.objs ++ rest))) (hap : ∀ q ∈ (L + 1, om) :: (d.objs ++ rest), q.1 ≠ L + 2) (hl5 : Ls.length ≤ 5) (hn : ∀ x ∈ Ls, x.ss.length ≤ n) (hn30 : n ≤ 50)
    (m1 : m "counts" = some (.ref d.lc)) (m2 : m "rounds" = some (.ref rl))
    (hcs : cs = dueSc w sc) (hdp : dp + 60 < recursionLimit) (hun : un + 600 < cLine) {Q : Flow → Shared → Prop} {E : Value → Shared → Prop}
    (hQ : ∀ h' tk m' Ls' e' ob' vb', Fr g L h' m' → (∀ y, y ≠ Str.ofString "left" → y ≠ Str.ofString "depth" → m' y = m y) → RLsOk rl Ls' ((L + 2, ob') :: (L + 1, om) :: (d.objs ++ rest)) → Ls'.map (·.ss) = dueRun (Ls.map (·.ss)) d.val 5 → ob'.data = .cell vb' →
      News g L h' ((L + 2, ob') :: (L + 1, om) :: (d.objs ++ ((rl, PySem.W.listOf (refsOf Ls') e') :: (Ls'.map RL.obj ++ rest)))) → Q .next { s with heap := h', toks := tk }) :
    wpAny (model PR w) (ktrTop dp un gd qual cs L f cdv (cellsFrom (L + 1) cs.names []) outer) (exec (headS (inner 1 (dueBody w))) (envOfC qual cs L f cdv)) Q E s := by
  have hcs' := hcs
  unfold dueBody
  with_unfolding_all (conv in headS _ => whnf)
  unfold dueSc at hcs
  with_unfolding_all (conv at hcs => rhs; whnf)
  subst hcs
  have hpin : ∀ p ∈ [(Str.ofString "counts", Value.ref d.lc), (Str.ofString "rounds", .ref rl)], m p.1 = some p.2 := by
    intro p hp; simp only [List.mem_cons, List.not_mem_nil, or_false] at hp; rcases hp with rfl | rfl <;> assumption
  have hpe := pins_eq _ hpin
  have F₂ := fr_pins F _ hpin
  generalize hLD : ((L + 2, ob) :: (L + 1, om) :: (d.objs ++ ((rl, PySem.W.listOf (refsOf Ls) e) :: (Ls.map RL.obj ++ rest)))) = LD at N
  clear F
  k_unmd
  k_steps
  rename_i hR _ t₁ u₁ v₁ hr _ _ _
  rename Fr _ _ _ _ => F₃
  rename News _ _ _ _ => N₃
  subst hLD
  have hr5 : IsRange _ _ 0 ((5 : Nat) : Int) 1 _ _ _ := hr
  refine forRangeM rfl hr5 (by omega) (fr_eq F₃ (congrFun hpe)) N₃ (fun i m' news => (∀ y, y ≠ Str.ofString "left" → y ≠ Str.ofString "depth" → m' y = m y) ∧ ∃ Ls' e' ob' vb', RLsOk rl Ls' ((L + 2, ob') :: (L + 1, om) :: (d.objs ++ rest)) ∧ Ls'.map (·.ss) = dueRun (Ls.map (·.ss)) d.val i ∧ ob'.data = .cell vb' ∧
      news = (L + 2, ob') :: (L + 1, om) :: (d.objs ++ ((rl, PySem.W.listOf (refsOf Ls') e') :: (Ls'.map RL.obj ++ rest)))) ⟨fun _ _ _ => rfl, Ls, e, ob, vb, hL, rfl, hob, rfl⟩ ?turn ?done
  case turn =>
    rintro I i t' m₁ news₁ own₂ h tk hI hi ⟨hm, Ls', e', ob', vb', hL', hss, hob', rfl⟩ hne hown ⟨oI, hoI⟩ F₄ N₄
    clear F₃ N₃
    have N₅ : News g L h ((L + 2, ob') :: ((L + 1, om) :: (d.objs ++ ((rl, PySem.W.listOf (refsOf Ls') e') :: (Ls'.map RL.obj ++ (rest ++ own₂)))))) := fun q hq => N₄ q (by
      simp only [List.mem_cons, List.mem_append] at hq ⊢
      rcases hq with h | h | h | h | h | h | h
      · exact .inl (.inl h)
      · exact .inl (.inr (.inl h))
      · exact .inl (.inr (.inr (.inl h)))
      · exact .inl (.inr (.inr (.inr (.inl h))))
      · exact .inl (.inr (.inr (.inr (.inr (.inl h)))))
      · exact .inl (.inr (.inr (.inr (.inr (.inr h)))))
      · exact .inr h)
    have hapx : ∀ q ∈ (L + 1, om) :: (d.objs ++ ((rl, PySem.W.listOf (refsOf Ls') e') :: (Ls'.map RL.obj ++ (rest ++ own₂)))), q.1 ≠ L + 2 := by
      intro q hq
      have hb := hL'.off _ (.head _)
      simp only [List.mem_cons, List.mem_append] at hq
      rcases hq with h | h | h | h | h | h
      · exact hap q (by rw [h]; exact .head _)
      · exact hap q (.tail _ (List.mem_append_left _ h))
      · intro e; apply hb; rw [← e, h]; exact .head _
      · obtain ⟨x, hx, rfl⟩ := List.mem_map.mp h
        intro e; apply hb; rw [← e]; exact .tail _ (List.mem_map.mpr ⟨x, hx, rfl⟩)
      · exact hap q (.tail _ (List.mem_append_right _ h))
      · rw [hown q h]; exact fun e => hne _ (.head _) e.symm
    refine wpAny_assign_Name (store_cell F₄ N₅ rfl hob' hapx fun h₁ o₁ F₁ N₁ hd₁ => ?_)
    have hL₁ : RLsOk rl Ls' ((L + 2, o₁) :: (L + 1, om) :: (d.objs ++ (rest ++ own₂))) := ⟨hL'.str, hL'.nd, fun q hq hm => by
      simp only [List.mem_cons, List.mem_append] at hq
      rcases hq with h | h | h | h | h
      · exact hL'.off _ (.head _) (by rw [h] at hm; exact hm)
      · exact hL'.off _ (.tail _ (.head _)) (by rw [h] at hm; exact hm)
      · exact hL'.off q (.tail _ (.tail _ (List.mem_append_left _ h))) hm
      · exact hL'.off q (.tail _ (.tail _ (List.mem_append_right _ h))) hm
      · rw [hown q h] at hm
        rcases List.mem_cons.mp hm with e | e
        · exact hne (rl, PySem.W.listOf (refsOf Ls') e') (by simp) e.symm
        · obtain ⟨x, hx, hxe⟩ := List.mem_map.mp e
          exact hne x.obj (.tail _ (.tail _ (List.mem_append_right _ (.tail _ (List.mem_append_left _ (List.mem_map_of_mem hx)))))) hxe⟩
    have hlen : Ls'.length ≤ 5 := by
      have := congrArg List.length hss
      rw [List.length_map] at this
      rw [this]; exact dueRun_len hd (by simpa using hl5) i
    have hfit : ∀ x ∈ Ls', x.ss.length ≤ n + i := fun x hx => dueRun_fit (rr := Ls.map (·.ss)) (v := d.val) (b := n) (fun r hr => by obtain ⟨y, hy, rfl⟩ := List.mem_map.mp hr; exact hn y hy) i x.ss (hss ▸ List.mem_map_of_mem hx)
    have key := fun Q E => due_inner (s := { s with heap := h₁, toks := tk }) (back := (i : Int)) (dp := dp) (un := un) (gd := gd) (qual := qual) (f := f) (cdv := cdv) (outer := outer) (Q := Q) (E := E) B F₁ X T N₁ hd₁ hom hd (Int.natCast_nonneg i) hL₁ hlen hfit (by omega)
      ((hm _ (by decide) (by decide)).trans m1) ((hm _ (by decide) (by decide)).trans m2) hcs' hdp hun
    with_unfolding_all refine key _ _ ?_
    intro h₂ tk₂ m₂ Ls₂ e₂ F₂ hm₂ hL₂ hss₂ N₂
    refine turnOk_ ((L + 2, o₁) :: (L + 1, om) :: (d.objs ++ ((rl, PySem.W.listOf (refsOf Ls₂) e₂) :: (Ls₂.map RL.obj ++ rest)))) F₂ N₂ (fun q hq => ?_) (fun q hq hm => ?_) ⟨fun y h1 h2 => (hm₂ y h1 h2).trans (hm y h1 h2), Ls₂, e₂, o₁, _, ⟨hL₂.str, hL₂.nd, fun q hq => hL₂.off q ?_⟩, ?_, hd₁, rfl⟩
    · simp only [List.mem_cons, List.mem_append] at hq ⊢
      rcases hq with (h | h | h | h | h | h) | h
      · exact .inl h
      · exact .inr (.inl h)
      · exact .inr (.inr (.inl h))
      · exact .inr (.inr (.inr (.inl h)))
      · exact .inr (.inr (.inr (.inr (.inl h))))
      · exact .inr (.inr (.inr (.inr (.inr (.inl h)))))
      · exact .inr (.inr (.inr (.inr (.inr (.inr h)))))
    · rw [List.mem_singleton] at hm
      have hoff := hL₂.off _ (.tail _ (.tail _ (List.mem_append_right _ (List.mem_append_right _ hoI))))
      simp only [List.mem_cons, List.mem_append] at hq
      rcases hq with h | h | h | h | h | h
      · rw [h] at hm; exact hne _ (.head _) hm
      · rw [h] at hm; exact hne _ (.tail _ (.head _)) hm
      · exact hne q (.tail _ (.tail _ (List.mem_append_left _ h))) hm
      · rw [h] at hm; exact hoff (by rw [← hm]; exact .head _)
      · obtain ⟨x, hx, rfl⟩ := List.mem_map.mp h
        exact hoff (by rw [← hm]; exact .tail _ (List.mem_map.mpr ⟨x, hx, rfl⟩))
      · exact hne q (.tail _ (.tail _ (List.mem_append_right _ (.tail _ (List.mem_append_right _ h))))) hm
    · simp only [List.mem_cons, List.mem_append] at hq ⊢
      rcases hq with h | h | h | h
      · exact .inl h
      · exact .inr (.inl h)
      · exact .inr (.inr (.inl h))
      · exact .inr (.inr (.inr (.inl h)))
    · rw [hss₂, hss]; rfl
  case done =>
    intro h' tk m' news' F₄ N₄ hpat
    obtain ⟨hm, Ls', e', ob', vb', hL', hss, hob', rfl⟩ := hpat
    exact hQ _ _ _ Ls' e' ob' vb' F₄ hm hL' hss hob' N₄
end

end
section
open PyProof.Rows.LCg
section
local macro_rules | `(tactic| walk_at "eval Name") => `(tactic| ((with_reducible show wpAny _ _ (eval (PySem.Expr.Name _ _) (compEnvC _ _ _ _)) _ _ _); k_dflt (refine ldVarK (by with_reducible assumption) (by with_reducible assumption) ?_)))
theorem due_ret {w : World} {dp un : Nat} {gd : Option (List Code)} {qual : Str} {sc cs : Scope} {f : Addr} {cdv : Value} {outer : List Env} {base g : Heap} {A : Around} {L : Addr} {m : Str → Option Value} {s : Shared} {p : Program} {loose : List Str} {mean : ExcName → Option Value} {mg mb : Str → Option Value}
    {rest : List (Addr × Obj)} {rl : Addr} {Ls : List RL} {e : Nat}
    (B : Below A base outer g) (F : Fr g L s.heap m) (X : (Mine.hd.heap_1 w.params).In g) (T : Top p loose mean mg mb g) (N : News g L s.heap ((rl, PySem.W.listOf (refsOf Ls) e) :: (Ls.map RL.obj ++ rest)))
    (hL : RLsOk rl Ls rest) (hz : Ls.length ≤ 10) (hsz : ∀ x ∈ Ls, x.ss.length < 64)
    (m1 : m "rounds" = some (.ref rl))
    (hcs : cs = dueSc w sc) (hdp : dp + 60 < recursionLimit) (hun : un + 600 < cLine) {Q : Flow → Shared → Prop} {E : Value → Shared → Prop}
    (hQ : ∀ h' tk D rr ys own, Fr g L h' m → (D, PySem.W.listOf (List.toArray ys) ys.length) ∈ own → ListsIn own ys.toArray rr → SortedOf rr (Ls.map (·.ss)) → News g L h' own → Q (.ret (.ref D)) { s with heap := h', toks := tk }) :
    wpAny (model PR w) (ktrTop dp un gd qual cs L f cdv (cellsFrom (L + 1) cs.names []) outer) (exec (headS ((dueBody w).drop 2)) (envOfC qual cs L f cdv)) Q E s := by
  unfold dueBody
  with_unfolding_all (conv in headS _ => whnf)
  unfold dueSc at hcs
  with_unfolding_all (conv at hcs => rhs; whnf)
  subst hcs
  have hpin : ∀ p ∈ [(Str.ofString "rounds", Value.ref rl)], m p.1 = some p.2 := by
    intro p hp; simp only [List.mem_cons, List.not_mem_nil, or_false] at hp; subst hp; exact m1
  have hpe := pins_eq _ hpin
  have F₂ := fr_pins F _ hpin
  have hszr : (refsOf Ls).size ≤ sizeLine := by unfold refsOf; rw [sizeLine_eq]; simp; omega
  have hszn : (refsOf Ls).size = Ls.length := by unfold refsOf; simp
  clear F
  k_unmd
  repeat' (first | (k_unfold; (try dsimp only)) | ((fail_if_success (with_reducible show wpAny _ _ (eval (PySem.Expr.ListComp _ _ _ _) _) _ _ _)); first | (walk1; (try dsimp only)) | (dsimp only; walk1; (try dsimp only))) | fail "no step")
  refine ListComp_U F₂ (cl := []) (by rfl) (by decide) rfl (by decide) (by decide) ?_
  generalize hLD : ((rl, PySem.W.listOf (refsOf Ls) e) :: (Ls.map RL.obj ++ rest)) = LD at N
  repeat' (first | (k_unfold; (try dsimp only)) | ((fail_if_success (with_reducible show CompSrc _ _ _ _ _ _ _ _ _ _ _ _ _ _)); first | (walk1; (try dsimp only)) | (dsimp only; walk1; (try dsimp only))) | fail "no step")
  rename Fr _ _ _ _ => F₃
  rename News _ _ _ _ => N₃
  subst hLD
  refine CompSrc.ledger rfl F₃ N₃ (.head _) hszr fun G => ?_
  refine restU (n := (refsOf Ls).size) (fun i ys news => ∃ rr own, ListsIn own ys.toArray rr ∧ SortedOf rr ((Ls.take i).map (·.ss)) ∧ news = own ++ ((rl, PySem.W.listOf (refsOf Ls) e) :: (Ls.map RL.obj ++ rest))) ?fin ?step _ 0 _ _ (by omega) ⟨[], [], ⟨rfl, fun i r h => by simp at h⟩, .nil, rfl⟩
  case step =>
    intro i ys news hi hpat v I oI C oC D m₂ h tk E' hv hC hm₂ F₄ N₄ hoff hne
    obtain ⟨rr, own, hIn, hSo, rfl⟩ := hpat
    obtain ⟨x, hxi, rfl⟩ : ∃ x, Ls[i]? = some x ∧ Value.ref x.a = v := by
      unfold refsOf at hv; rw [List.getElem?_toArray, List.getElem?_map] at hv; exact Option.map_eq_some_iff.mp hv
    have hxm := List.mem_of_getElem? hxi
    have hxo : h.get? x.a = some (PySem.W.listOf x.vs.toArray x.e) := (N₄ x.obj (by
      simp only [List.mem_cons, List.mem_append]
      exact .inr (.inr (.inr (.inr (.inr (.inl (List.mem_map_of_mem hxm))))))) ).1
    have hxs := hL.str x hxm
    have hx64 := hsz x hxm
    generalize hLD : (own ++ ((rl, PySem.W.listOf (refsOf Ls) e) :: (Ls.map RL.obj ++ rest))) = LD at *
    clear F₃ N₃
    k_unmd
    k_fold
    repeat' (first | (k_unfold; (try dsimp only)) | ((fail_if_success (with_reducible show wpAny _ _ (call (Value.builtin _) _) _ _ _)); first | (walk1; (try dsimp only)) | (dsimp only; walk1; (try dsimp only))) | fail "no step")
    rename Fr _ _ _ _ => F₅
    rename News _ _ _ _ => N₅
    refine sorted_seq F₅ N₅ hxo (.inl rfl) rfl rfl (by simpa using hxs) hx64 fun D' h' vs' ss' e' F₆ N₆ hlt hLD' hS hperm hsorted => ?_
    subst hLD
    refine comp_end3 F₆ N₆ ⟨⟨Nat.ne_of_gt (hlt _ (.head _)), Nat.ne_of_gt (hlt _ (.tail _ (.head _))), Nat.ne_of_gt (hlt _ (.tail _ (.tail _ (.head _))))⟩, hoff⟩ (.inr ⟨_, .tail _ (List.mem_append_right _ (.head _)), rfl, _, rfl⟩) ⟨rr ++ [ss'], (D', PySem.W.listOf vs'.toArray e') :: own, ?_, ?_, rfl⟩
    · have := hIn.snoc (D := D') (e := e') hS
      rwa [show (ys ++ [Value.ref D']).toArray = ys.toArray.push (.ref D') by simp]
    · rw [List.take_add_one, hxi, List.map_append]
      exact hSo.snoc hperm hsorted
  case fin =>
    intro ys news hpat D h tk F₄ N₄ hoff
    obtain ⟨rr, own, hIn, hSo, rfl⟩ := hpat
    rw [hszn, List.take_length] at hSo
    exact hQ h tk D rr ys ((D, PySem.W.listOf ys.toArray ys.length) :: (own ++ ((rl, PySem.W.listOf (refsOf Ls) e) :: (Ls.map RL.obj ++ rest)))) (fr_eq F₄ (congrFun hpe)) (.head _) (hIn.mono fun q hq => .tail _ (List.mem_append_left _ hq)) hSo N₄
end

end
section
/-- a contract that wants more room -/
noncomputable def ContractK (w : World) (K : Nat) (f : Addr) (args : List Value) (pre : Heap → Prop) (news : List (Addr × Obj)) (P : List (Addr × Obj) → Value → Prop) : Prop :=
  ∀ (dp un : Nat) (gd : Option (List Code)) (cn : Str) (cs : Scope) (a : Addr) (ccd : Value) (cl : List (Str × Addr)) (outer : List Env) (A₀ : Around) (base h₀ : Heap) (L : Addr) (m : Str → Option Value)
    (p : Program) (loose : List Str) (mean : ExcName → Option Value) (mg mb : Str → Option Value) (s : Shared) (Q E : Value → Shared → Prop),
    Below A₀ base outer h₀ → Fr h₀ L s.heap m → (Mine.hd.heap_1 w.params).In h₀ → News h₀ L s.heap news → Top p loose mean mg mb h₀ → cs.kind = .function → dp + 20 * K < recursionLimit → un + 200 * K < cLine → pre s.heap →
    (∀ v h' tk news', Kept s.heap h' (news.map (·.1)) → (∀ q ∈ news', h'.get? q.1 = some q.2 ∧ (s.heap.get? q.1 = none ∨ q.1 ∈ news.map (·.1))) → P news' v → Q v { s with heap := h', toks := tk }) →
    codeAny (model PR w) (ktrTop dp un gd cn cs L a ccd cl outer) (.call (.ref f) ⟨args, []⟩) (fun r s' => match r with | .ok (.ret v) => Q v s' | .ok _ => False | .error e => E e s') s
section
variable {w : World} {name qual : Str} {params : Arguments} {body : List Stmt} {scope : Scope} {dV kV doc pm cdv ct oc : Value} {an od : Option Addr} {osl : Array (Option Value)} {f : Addr} {args : List Value} {news : List (Addr × Obj)} {P : List (Addr × Obj) → Value → Prop}
/-- as contract_of, for a def with cells -/
theorem contract_cells {pre : Heap → Prop} {K : Nat} (hK : 0 < K)
    (hpre : ∀ h g, pre h → Kept h g (news.map (·.1)) → pre g)
    (ho : (Mine.hd.heap_1 w.params).lookup f = some ⟨oc, od, .func (fnOf name qual params body scope dV kV doc pm an cdv ct), osl⟩) (hcd : codeIn (Mine.hd.heap_1 w.params) cdv qual = true)
    (binds : List (Str × Value))
    (hbind : ∀ s : Shared, (Mine.hd.heap_1 w.params).In s.heap → BindsTo s (fnOf name qual params body scope dV kV doc pm an cdv ct) ⟨args, []⟩ binds)
    (hkind : ∀ n, ∀ x ∈ binds, scope.names.lookup x.1 = some .local ∨ (scope.names.lookup x.1 = some .cell ∧ ((cellsFrom n scope.names []).lookup x.1).isSome = true))
    (hnd : ((cellsFrom 0 scope.names []).map (·.1)).Nodup)
    (hco : scope.isCoroutine = false) (hgen : scope.isGenerator = false) (hk : scope.kind = .function)
    (h : ∀ (dp un : Nat) (gd : Option (List Code)) (outer : List Env) (A : Around) (base g : Heap) (L' : Addr) (h₁ : Heap) (cells : List (Addr × Obj)) (p : Program) (loose : List Str) (mean : ExcName → Option Value) (mg mb : Str → Option Value) (s : Shared) (tk : Nat),
      Below A base outer g → Fr g L' h₁ (bindL (envOfC qual scope L' f cdv).kindOf binds fun _ => none) → (Mine.hd.heap_1 w.params).In g → News g L' h₁ (cells ++ news) → CellsAre (bindC (envOfC qual scope L' f cdv).kindOf binds fun _ => none) (cellsFrom (L' + 1) scope.names []) cells → Top p loose mean mg mb g → dp + 20 * K < recursionLimit + 2 → un + 200 * K < cLine + 10 → pre g →
      (∀ q ∈ news, q.1 < L') →
      wpAny (model PR w) (ktrTop dp un gd qual scope L' f cdv (cellsFrom (L' + 1) scope.names []) outer) (execs body (envOfC qual scope L' f cdv))
        (fun fl s' => LeaveS g s P (match fl with | .ret v => v | _ => .none) s') NoE { s with heap := h₁, toks := tk }) :
    ContractK w K f args pre news P := by
  intro dp un gd cn cs a ccd cl outer A₀ base h₀ L m p loose mean mg mb s Q E B F X N T hkc hdp hun hpr hret
  obtain ⟨FG, BG, st, _⟩ := groundX (A := ktrTop dp un gd cn cs L a ccd cl outer) (R := fun _ _ => True) (env := envX cn cs L a ccd cl) (outer := outer) B F N rfl rfl hkc
  refine codeAny_call_function (fd := fnOf name qual params body scope dV kV doc pm an cdv ct) (body := body) (by show dp < recursionLimit; omega) (F.keep _ _ (X _ _ ho)) rfl hco hgen rfl (codeRec_of (X.keeps F.keep) hcd) (hbind s (X.keeps F.keep) _ _ _ _ ?_)
  refine wpAny_newFunctionEnv_cells hk (hkind _) fun env' he s' x => ?_
  subst he
  refine ⟨(T.nolimit.keeps F.keep).keeps x.toInCall.keep, codeAny_func ?_⟩
  obtain ⟨h₁, tk, rfl, _⟩ := x.done
  have hk₁ := x.toInCall.keep
  obtain ⟨cells, NC, Y⟩ := Cl.news (h₀ := s.heap) (Nat.le_refl _) fun n c hm => ⟨x.cell n c (lookup_of_mem_nodup (cellsFrom_names scope.names 0 (s.heap.objs.size + 1) [] [] rfl ▸ hnd) hm), x.above n c hm⟩
  refine wpAny_mono (h (dp + 1) (un + 3) gd (envX cn cs L a ccd cl :: outer) _ base _ s.heap.objs.size h₁ cells p loose mean mg mb s tk BG ⟨x.toInCall.ns, fun b o e => hk₁ b o (of_hideAll _ e), Nat.le_of_eq (hideAll_size _ _)⟩ (X.keeps st)
    (fun q hq => ?_) Y (T.keeps st) (by omega) (by omega) (hpre _ _ hpr fun b o e n => hideAll_get _ e n) (fun q hq => Heap.lt_size (N q hq).1)) (fun fl s' hl => ?_) fun _ _ y => y.elim
  · rcases List.mem_append.mp hq with hq | hq
    · refine ⟨(NC q hq).1, (NC q hq).2.1, ?_⟩
      cases e : (hideAll s.heap (news.map (·.1))).get? q.1 with
      | none => rfl
      | some o => have := of_hideAll _ e; rw [(NC q hq).2.2] at this; cases this
    · exact ⟨hk₁ _ _ (N q hq).1, Nat.ne_of_lt (Heap.lt_size (N q hq).1), hideAll_none _ (List.mem_map_of_mem hq)⟩
  · obtain ⟨h', tk', L', m', news', rfl, F', N', hp⟩ := hl
    refine hret _ h' tk' news' (kept_of_hide F') (fun q hq => ⟨(N' q hq).1, ?_⟩) hp
    have hg := (N' q hq).2.2
    cases e : s.heap.get? q.1 with
    | none => exact .inl rfl
    | some o =>
      refine .inr (Classical.byContradiction fun hn => ?_)
      rw [hideAll_get _ e hn] at hg
      cases hg
end
/-- a call by its contract, with objects at hand that it does not know -/
theorem codeK_led {w : World} {K : Nat} {f : Addr} {args : List Value} {pre : Heap → Prop} {news own : List (Addr × Obj)} {P : List (Addr × Obj) → Value → Prop} (c : ContractK w K f args pre news P)
    {dp un : Nat} {gd : Option (List Code)} {cn : Str} {cs : Scope} {a : Addr} {ccd : Value} {cl : List (Str × Addr)} {outer : List Env} {A₀ : Around} {base h₀ : Heap} {L : Addr} {m : Str → Option Value}
    {p : Program} {loose : List Str} {mean : ExcName → Option Value} {mg mb : Str → Option Value} {s : Shared} {Q E : Value → Shared → Prop}
    (B : Below A₀ base outer h₀) (F : Fr h₀ L s.heap m) (X : (Mine.hd.heap_1 w.params).In h₀) (T : Top p loose mean mg mb h₀) (N : News h₀ L s.heap (news ++ own)) (hsep : ∀ q ∈ own, q.1 ∉ news.map (·.1))
    (hpr : pre s.heap) (hdp : dp + 20 * K < recursionLimit) (hun : un + 200 * K < cLine) (hkc : cs.kind = .function)
    (hret : ∀ v h' tk news', Fr h₀ L h' m → News h₀ L h' (news' ++ own) → (∀ q ∈ own, q.1 ∉ news'.map (·.1)) → P news' v → Q v { s with heap := h', toks := tk }) :
    codeAny (model PR w) (ktrTop dp un gd cn cs L a ccd cl outer) (.call (.ref f) ⟨args, []⟩) (fun r s' => match r with | .ok (.ret v) => Q v s' | .ok _ => False | .error e => E e s') s := by
  have N₁ : News h₀ L s.heap news := fun q hq => N q (List.mem_append_left _ hq)
  refine c dp un gd cn cs a ccd cl outer A₀ base h₀ L m p loose mean mg mb s Q E B F X N₁ T hkc hdp hun hpr fun v h' tk news' hk hn hP => ?_
  have F' := fr_of_kept F N₁ hk
  obtain ⟨oL, es, ep, hL, hLr⟩ := id F.ns
  refine hret v h' tk news' F' (fun q hq => ?_) (fun q hq hm => ?_) hP
  · rcases List.mem_append.mp hq with hq | hq
    · obtain ⟨h1, h2⟩ := hn q hq
      refine ⟨h1, fun e => ?_, ?_⟩
      · rcases h2 with h2 | h2
        · rw [e, hL] at h2; cases h2
        · obtain ⟨q', hq', hqe⟩ := List.mem_map.mp h2
          exact (N₁ q' hq').2.1 (hqe.trans e)
      · rcases h2 with h2 | h2
        · cases e : h₀.get? q.1 with
          | none => rfl
          | some o => rw [F.keep _ _ e] at h2; cases h2
        · obtain ⟨q', hq', hqe⟩ := List.mem_map.mp h2
          rw [← hqe]; exact (N₁ q' hq').2.2
    · exact ⟨hk _ _ (N q (List.mem_append_right _ hq)).1 (hsep q hq), (N q (List.mem_append_right _ hq)).2⟩
  · obtain ⟨q', hq', hqe⟩ := List.mem_map.mp hm
    obtain ⟨_, h2⟩ := hn q' hq'
    rw [hqe] at h2
    rcases h2 with h2 | h2
    · rw [(N q (List.mem_append_right _ hq)).1] at h2; cases h2
    · exact hsep q hq h2
/-- a call by its contract, with objects at hand that it does not know -/
theorem callK_led {w : World} {K : Nat} {f : Addr} {args : List Value} {pre : Heap → Prop} {news own : List (Addr × Obj)} {P : List (Addr × Obj) → Value → Prop} (c : ContractK w K f args pre news P)
    {dp un : Nat} {gd : Option (List Code)} {cn : Str} {cs : Scope} {a : Addr} {ccd : Value} {cl : List (Str × Addr)} {outer : List Env} {A₀ : Around} {base h₀ : Heap} {L : Addr} {m : Str → Option Value}
    {p : Program} {loose : List Str} {mean : ExcName → Option Value} {mg mb : Str → Option Value} {s : Shared} {Q E : Value → Shared → Prop}
    (B : Below A₀ base outer h₀) (F : Fr h₀ L s.heap m) (X : (Mine.hd.heap_1 w.params).In h₀) (T : Top p loose mean mg mb h₀) (N : News h₀ L s.heap (news ++ own)) (hsep : ∀ q ∈ own, q.1 ∉ news.map (·.1))
    (hpr : pre s.heap) (hdp : dp + 20 * K < recursionLimit) (hun : un + 200 * K < cLine) (hkc : cs.kind = .function)
    (hret : ∀ v h' tk news', Fr h₀ L h' m → News h₀ L h' (news' ++ own) → (∀ q ∈ own, q.1 ∉ news'.map (·.1)) → P news' v → Q v { s with heap := h', toks := tk }) :
    wpAny (model PR w) (ktrTop dp un gd cn cs L a ccd cl outer) (call (.ref f) args) Q E s :=
  wpAny_call (codeK_led c B F X T N hsep hpr hdp hun hkc hret)

end
section
local macro_rules | `(tactic| walk_at "pad") => `(tactic| fail)
local macro_rules | `(tactic| walk_at "pad") => `(tactic| fail)
theorem dueAll_len : ∀ {drs : List Dr} {rr : List (List Str)}, (∀ d ∈ drs, DrOk d) → rr.length ≤ 5 → (dueAll rr (drs.map Dr.val)).length ≤ 5
  | [], _, _, h => h
  | d :: drs, rr, hd, h => by
    show (dueAll (dueRun rr d.val 5) (drs.map Dr.val)).length ≤ 5
    exact dueAll_len (fun x hx => hd x (.tail _ hx)) (dueRun_len (hd d (.head _)) h 5)
theorem dueAll_fit : ∀ {vs : List (List (Str × Int) × Int)} {rr : List (List Str)} {b : Nat}, (∀ r ∈ rr, r.length ≤ b) → ∀ r ∈ dueAll rr vs, r.length ≤ b + 5 * vs.length
  | [], _, _, h => h
  | v :: vs, rr, b, h => fun r hr => by
    have := dueAll_fit (vs := vs) (rr := dueRun rr v 5) (b := b + 5) (dueRun_fit h 5) r hr
    rw [List.length_cons]; omega
theorem dueAll_snoc (rr : List (List Str)) (vs : List (List (Str × Int) × Int)) (v : List (Str × Int) × Int) : dueAll rr (vs ++ [v]) = dueRun (dueAll rr vs) v 5 := by unfold dueAll; rw [List.foldl_append]; rfl
noncomputable def drLed (l : Addr) (drs : List Dr) (e : Nat) : List (Addr × Obj) := (l, PySem.W.listOf (drs.map fun d => Value.ref d.a).toArray e) :: drs.flatMap Dr.objs
section
local macro_rules | `(tactic| walk_at "exec For Tuple Name cons nil") => `(tactic| (k_dflt (refine wpAny_For ?_)))
theorem due_spec {w : World} {l : Addr} {drs : List Dr} {e : Nat} (hdr : ∀ d ∈ drs, DrOk d) (hlen : drs.length ≤ 6) :
    ContractK w 5 192 [.ref l] (fun _ => True) (drLed l drs e) (fun news v => ∃ r rv e rr, v = .ref r ∧ (r, PySem.W.listOf rv e) ∈ news ∧ ListsIn news rv rr ∧ SortedOf rr (dueAll [] (drs.map Dr.val))) := by
  refine contract_cells (by decide) (fun _ _ _ _ => trivial) (by with_unfolding_all rfl) (by with_unfolding_all rfl) [(Str.ofString "starts", .ref l)] (fun s X => BindsTo.of_eq rfl) (kindsX rfl) (by decide) rfl rfl rfl ?_
  intro dp un gd outer A base g L' h₁ cells p loose mean mg mb s tk B F X N Y T hdp hun _ hlt
  obtain ⟨ob, om, rfl, hob, hom⟩ := CellsAre.two (n := Str.ofString "back") (n' := Str.ofString "more") (c := L' + 2) (c' := L' + 1) Y
  have m1 := fr_pins F [(Str.ofString "starts", .ref l)] (by
    intro p hp; simp only [List.mem_cons, List.not_mem_nil, or_false] at hp; subst hp; with_unfolding_all rfl)
  generalize hLD : [(L' + 2, ob), (L' + 1, om)] ++ drLed l drs e = LD at N
  clear F
  k_unmd
  k_fold
  repeat' (first | (k_unfold; (try dsimp only)) | ((fail_if_success (with_reducible show wpAny _ _ (pyIter _) _ _ _)); first | (walk1; (try dsimp only)) | (dsimp only; walk1; (try dsimp only))) | fail "no step")
  rename Fr _ _ _ _ => F₁
  rename News _ _ _ _ => N₁
  obtain ⟨rl, hrl, F₁, N₁⟩ : ∃ rl, (∀ q ∈ LD, @LT.lt Nat _ q.1 rl) ∧ Fr g L' _ (fun y => if y = Str.ofString "rounds" then some (.ref rl) else (List.lookup y [(Str.ofString "starts", Value.ref l)]).or (bindL (envOfC _ _ L' 192 (.ref 191)).kindOf [(Str.ofString "starts", Value.ref l)] (fun x => none) y)) ∧ News g L' _ ((rl, PySem.W.listOf #[] 0) :: LD) := ⟨_, by assumption, F₁, N₁⟩
  subst hLD
  have hL0 : RLsOk rl [] ((L' + 2, ob) :: (L' + 1, om) :: drLed l drs e) := ⟨(fun _ hx => nomatch hx), by simp, fun q hq hm => by
    simp only [List.map_nil, List.mem_singleton] at hm
    exact Nat.ne_of_lt (hrl q hq) hm⟩
  have hll : ∀ h, News g L' h (drLed l drs e) → h.IsList l (drs.map fun d => Value.ref d.a).toArray := fun h N => ⟨_, (N _ (.head _)).1, rfl, _, rfl⟩
  have hlL : L' ≠ l := fun e' => Nat.ne_of_lt (hlt (l, PySem.W.listOf (drs.map fun d => Value.ref d.a).toArray e) (.head _)) e'.symm
  refine forListM rfl (hll _ fun q hq => N₁ q (.tail _ (List.mem_append_right _ hq))) hlL (.inr ⟨⟨_, _, _, rfl⟩, ?hv⟩) F₁ N₁
    (fun i m' news => m' (Str.ofString "rounds") = some (.ref rl) ∧ ∃ (ob' om' : Obj) (vb vm : Option Value) (Ls' : List RL) (e' : Nat), RLsOk rl Ls' ((L' + 2, ob') :: (L' + 1, om') :: drLed l drs e) ∧ Ls'.map (·.ss) = dueAll [] ((drs.take i).map Dr.val) ∧ ob'.data = .cell vb ∧ om'.data = .cell vm ∧
      ∀ q ∈ (L' + 2, ob') :: (L' + 1, om') :: ((rl, PySem.W.listOf (refsOf Ls') e') :: (Ls'.map RL.obj ++ drLed l drs e)), q ∈ news)
    ⟨rfl, ob, om, _, _, [], 0, hL0, rfl, hob, hom, fun q hq => by
      simp only [List.mem_cons, List.mem_append, List.map_nil, List.not_mem_nil, false_or, or_false] at hq ⊢
      rcases hq with h | h | h | h
      · exact .inr (.inl (.inl h))
      · exact .inr (.inl (.inr h))
      · exact .inl h
      · exact .inr (.inr h)⟩ ?turn ?done
  case hv =>
    intro v hv
    obtain ⟨d, _, rfl⟩ := List.mem_map.mp (by simpa using hv)
    exact ⟨_, rfl⟩
  case turn =>
    intro I i v m₁ news₁ own h tk hI hv hpat hne hown hIo hls F₄ N₄
    obtain ⟨hm, ob', om', vb, vm, Ls, e', hL, hss, hob', hom', hsub⟩ := hpat
    obtain ⟨d, hdi, rfl⟩ : ∃ d, drs[i]? = some d ∧ Value.ref d.a = v := by
      rw [List.getElem?_toArray, List.getElem?_map] at hv; exact Option.map_eq_some_iff.mp hv
    have hdm := List.mem_of_getElem? hdi
    have hdo : ∀ q ∈ d.objs, q ∈ drLed l drs e := fun q hq => .tail _ (List.mem_flatMap.mpr ⟨d, hdm, hq⟩)
    have hT : IsTup h d.a #[.ref d.lc, .int d.more d.u] := ⟨_, (N₄ _ (List.mem_append_left _ (hsub _ (.tail _ (.tail _ (.tail _ (List.mem_append_right _ (hdo _ (.head _))))))))).1, rfl, _, rfl⟩
    have hb1 : ∀ q ∈ drLed l drs e, q.1 ≠ L' + 1 ∧ q.1 ≠ L' + 2 := fun q hq => by
      have : @LT.lt Nat _ q.1 L' := hlt q hq
      exact ⟨Nat.ne_of_lt (Nat.lt_succ_of_lt this), Nat.ne_of_lt (Nat.lt_succ_of_lt (Nat.lt_succ_of_lt this))⟩
    have h12 : L' + 1 ≠ L' + 2 := Nat.ne_of_lt (Nat.lt_succ_self (L' + 1))
    have hIn : ∀ q ∈ (L' + 2, ob') :: (L' + 1, om') :: ((rl, PySem.W.listOf (refsOf Ls) e') :: (Ls.map RL.obj ++ drLed l drs e)), q.1 ≠ I := fun q hq => hne q (hsub q hq)
    have hlm : (l, PySem.W.listOf (drs.map fun d => Value.ref d.a).toArray e) ∈ drLed l drs e := .head _
    have hownE : ∀ q ∈ own, q.1 = I ∨ q.1 = l := hown
    have hown1 : ∀ q ∈ own, q.1 ≠ L' + 1 ∧ q.1 ≠ L' + 2 := fun q hq => by
      rcases hownE q hq with h | h
      · exact ⟨fun e₁ => hIn _ (.tail _ (.head _)) (e₁.symm.trans h), fun e₁ => hIn _ (.head _) (e₁.symm.trans h)⟩
      · have := hb1 _ hlm; rw [h]; exact this
    have hownL : ∀ q ∈ own, q.1 ∉ rl :: Ls.map (·.a) := fun q hq hm => by
      rcases hownE q hq with h | h
      · rw [h] at hm
        rcases List.mem_cons.mp hm with e₁ | e₁
        · exact hIn _ (.tail _ (.tail _ (.head _))) e₁.symm
        · obtain ⟨x, hx, hxe⟩ := List.mem_map.mp e₁
          exact hIn x.obj (.tail _ (.tail _ (.tail _ (List.mem_append_left _ (List.mem_map_of_mem hx))))) hxe
      · exact hL.off _ (.tail _ (.tail _ hlm)) (by rw [h] at hm; exact hm)
    have hLx : ∀ x ∈ Ls, x.a ≠ L' + 1 ∧ x.a ≠ L' + 2 := fun x hx => ⟨fun e₁ => hL.off _ (.tail _ (.head _)) (e₁ ▸ .tail _ (List.mem_map.mpr ⟨x, hx, rfl⟩)), fun e₁ => hL.off _ (.head _) (e₁ ▸ .tail _ (List.mem_map.mpr ⟨x, hx, rfl⟩))⟩
    have hrlx : rl ≠ L' + 1 ∧ rl ≠ L' + 2 := ⟨fun e₁ => hL.off _ (.tail _ (.head _)) (e₁ ▸ .head _), fun e₁ => hL.off _ (.head _) (e₁ ▸ .head _)⟩
    refine assign_Tuple_tuple rfl hT rfl rfl fun h₅ he => ?_
    have hk₅ : ∀ b o, h.get? b = some o → h₅.get? b = some o := fun b o e₁ => he b o (Nat.ne_of_lt (Heap.lt_size e₁)) e₁
    have F₅ : Fr g L' h₅ m₁ := ⟨F₄.ns.at' fun o e₁ => hk₅ _ o e₁, fun b o e₁ => hk₅ b o (F₄.keep b o e₁), F₄.above⟩
    have N₅ : News g L' h₅ ((L' + 1, om') :: (L' + 2, ob') :: ((rl, PySem.W.listOf (refsOf Ls) e') :: (Ls.map RL.obj ++ (drLed l drs e ++ own)))) := fun q hq => by
      have hq' : q ∈ news₁ ++ own := by
        simp only [List.mem_cons, List.mem_append] at hq
        rcases hq with h | h | h | h | h | h
        · exact List.mem_append_left _ (hsub _ (by rw [h]; exact .tail _ (.head _)))
        · exact List.mem_append_left _ (hsub _ (by rw [h]; exact .head _))
        · exact List.mem_append_left _ (hsub _ (by rw [h]; exact .tail _ (.tail _ (.head _))))
        · exact List.mem_append_left _ (hsub _ (.tail _ (.tail _ (.tail _ (List.mem_append_left _ h)))))
        · exact List.mem_append_left _ (hsub _ (.tail _ (.tail _ (.tail _ (List.mem_append_right _ h)))))
        · exact List.mem_append_right _ h
      exact ⟨hk₅ _ _ (N₄ q hq').1, (N₄ q hq').2⟩
    refine assignInOrder_cons (wpAny_assign_Name (storeX_L F₅ N₅ fun h₆ F₆ N₆ => ?_))
    refine assignInOrder_cons (wpAny_assign_Name (store_cell F₆ N₆ rfl hom' ?hap1 fun h₇ o₇ F₇ N₇ hd₇ => assignInOrder_nil ?_))
    case hap1 =>
      intro q hq
      simp only [List.mem_cons, List.mem_append] at hq
      rcases hq with h | h | h | h | h
      · rw [h]; exact Ne.symm h12
      · rw [h]; exact hrlx.1
      · obtain ⟨x, hx, rfl⟩ := List.mem_map.mp h
        exact (hLx x hx).1
      · exact (hb1 q h).1
      · exact (hown1 q h).1
    refine wpAny_execs_cons ?_
    have hlen5 : Ls.length ≤ 5 := by
      have := congrArg List.length hss
      rw [List.length_map] at this
      rw [this]; exact dueAll_len (fun x hx => hdr x (List.mem_of_mem_take hx)) (Nat.zero_le _)
    have hfit : ∀ x ∈ Ls, x.ss.length ≤ 30 := fun x hx => by
      have := dueAll_fit (vs := (drs.take i).map Dr.val) (rr := []) (b := 0) (fun _ h => nomatch h) x.ss (hss ▸ List.mem_map_of_mem hx)
      rw [List.length_map, List.length_take] at this
      omega
    have hL₇ : RLsOk rl Ls ((L' + 2, ob') :: (L' + 1, o₇) :: (d.objs ++ (drLed l drs e ++ own))) := ⟨hL.str, hL.nd, fun q hq hm => by
      simp only [List.mem_cons, List.mem_append] at hq
      rcases hq with h | h | h | h | h
      · exact hL.off _ (.head _) (by rw [h] at hm; exact hm)
      · exact hL.off _ (.tail _ (.head _)) (by rw [h] at hm; exact hm)
      · exact hL.off q (.tail _ (.tail _ (hdo q h))) hm
      · exact hL.off q (.tail _ (.tail _ h)) hm
      · exact hownL q h hm⟩
    have key := fun Q E => due_back (ob := ob') (om := o₇) (rest := drLed l drs e ++ own) (s := { s with heap := h₇, toks := tk + 1 }) (dp := dp) (un := un) (gd := gd) (outer := outer) (n := 30) (qual := Str.ofString "_law_due") (f := 192) (cdv := .ref 191) (Q := Q) (E := E) B F₇ X T (fun q hq => N₇ q (by
        simp only [List.mem_cons, List.mem_append] at hq ⊢
        rcases hq with h | h | h | h | h | h | h
        · exact .inr (.inl h)
        · exact .inl h
        · exact .inr (.inr (.inr (.inr (.inl (hdo q h)))))
        · exact .inr (.inr (.inl h))
        · exact .inr (.inr (.inr (.inl h)))
        · exact .inr (.inr (.inr (.inr (.inl h))))
        · exact .inr (.inr (.inr (.inr (.inr h)))))) hob' hd₇ (hdr d hdm) hL₇ (fun q hq => by
        simp only [List.mem_cons, List.mem_append] at hq
        rcases hq with h | h | h | h
        · rw [h]; exact h12
        · exact (hb1 q (hdo q h)).2
        · exact (hb1 q h).2
        · exact (hown1 q h).2) hlen5 hfit (by omega) (if_pos rfl) ((if_neg (by decide)).trans hm) (sc := { kind := .function, names := [], isGenerator := false, isCoroutine := false, more := [] }) (by with_unfolding_all rfl) (by omega) (by omega)
    with_unfolding_all refine key _ _ ?_
    intro h₈ tk₈ m₈ Ls₈ e₈ ob₈ vb₈ F₈ hm₈ hL₈ hss₈ hob₈ N₈
    refine wpAny_execs_nil (turnOk_ ((L' + 2, ob₈) :: (L' + 1, o₇) :: ((rl, PySem.W.listOf (refsOf Ls₈) e₈) :: (Ls₈.map RL.obj ++ drLed l drs e))) F₈ N₈ (fun q hq => ?_) (fun q hq hm => ?_) ⟨(hm₈ _ (by decide) (by decide)).trans ((if_neg (by decide)).trans hm), ob₈, o₇, _, _, Ls₈, e₈, ⟨hL₈.str, hL₈.nd, fun q hq => hL₈.off q ?_⟩, ?_, hob₈, hd₇, fun q hq => hq⟩)
    · simp only [List.mem_cons, List.mem_append] at hq ⊢
      rcases hq with (h | h | h | h | h) | h
      · exact .inl h
      · exact .inr (.inl h)
      · exact .inr (.inr (.inr (.inl h)))
      · exact .inr (.inr (.inr (.inr (.inl h))))
      · exact .inr (.inr (.inr (.inr (.inr (.inl h)))))
      · exact .inr (.inr (.inr (.inr (.inr (.inr h)))))
    · rw [List.mem_singleton] at hm
      obtain ⟨oI, hoI⟩ := hIo
      have hoff := hL₈.off _ (.tail _ (.tail _ (List.mem_append_right _ (List.mem_append_right _ hoI))))
      simp only [List.mem_cons, List.mem_append] at hq
      rcases hq with h | h | h | h | h
      · rw [h] at hm; exact hIn _ (.head _) hm
      · rw [h] at hm; exact hIn _ (.tail _ (.head _)) hm
      · rw [h] at hm; exact hoff (by rw [← hm]; exact .head _)
      · obtain ⟨x, hx, rfl⟩ := List.mem_map.mp h
        exact hoff (by rw [← hm]; exact .tail _ (List.mem_map.mpr ⟨x, hx, rfl⟩))
      · exact hIn q (.tail _ (.tail _ (.tail _ (List.mem_append_right _ h)))) hm
    · simp only [List.mem_cons, List.mem_append] at hq ⊢
      rcases hq with h | h | h
      · exact .inl h
      · exact .inr (.inl h)
      · exact .inr (.inr (.inr (.inl h)))
    · rw [hss₈, hss, List.take_add_one, hdi, List.map_append, Option.toList_some, List.map_cons, List.map_nil, dueAll_snoc]
  case done =>
    intro h' tk m' news' F₄ N₄ hpat
    obtain ⟨hm, ob', om', vb, vm, Ls, e', hL, hss, hob', hom', hsub⟩ := hpat
    rw [List.size_toArray, List.length_map, List.take_length] at hss
    dsimp only
    have hlen5 : Ls.length ≤ 5 := by
      have := congrArg List.length hss
      rw [List.length_map] at this
      rw [this]; exact dueAll_len hdr (Nat.zero_le _)
    have hfit : ∀ x ∈ Ls, x.ss.length < 64 := fun x hx => by
      have := dueAll_fit (vs := drs.map Dr.val) (rr := []) (b := 0) (fun _ h => nomatch h) x.ss (hss ▸ List.mem_map_of_mem hx)
      rw [List.length_map] at this
      omega
    refine wpAny_execs_cons ?_
    have key := fun Q E => due_ret (rest := (L' + 2, ob') :: (L' + 1, om') :: drLed l drs e) (s := { s with heap := h', toks := tk }) (dp := dp) (un := un) (gd := gd) (outer := outer) (qual := Str.ofString "_law_due") (f := 192) (cdv := .ref 191) (Q := Q) (E := E) B F₄ X T (fun q hq => N₄ q (hsub q (by
        simp only [List.mem_cons, List.mem_append] at hq ⊢
        rcases hq with h | h | h | h | h
        · exact .inr (.inr (.inl h))
        · exact .inr (.inr (.inr (.inl h)))
        · exact .inl h
        · exact .inr (.inl h)
        · exact .inr (.inr (.inr (.inr h)))))) hL (by omega) hfit hm (sc := { kind := .function, names := [], isGenerator := false, isCoroutine := false, more := [] }) (by with_unfolding_all rfl) (by omega) (by omega)
    with_unfolding_all refine key _ _ ?_
    intro h₅ tk₅ D rr ys own F₅ hD hIn hSo N₅
    rw [hss] at hSo
    exact leaveS_ F₅ N₅ ⟨D, ys.toArray, _, rr, rfl, hD, hIn, hSo⟩
end

end
section
open PyProof.Rows.LCg
noncomputable def lawBody (w : World) : List Stmt := bodyAt ((Mine.hd.heap_1 w.params).lookup 197)
noncomputable def lawSc (w : World) (d : Scope) : Scope := scopeAt ((Mine.hd.heap_1 w.params).lookup 197) d
theorem dr_of {w : World} {n : Int} {l a1 a2 a3 : Addr} {e : Nat} {t1 t2 t3 u1 u2 u3 : Tok} :
    ∃ d : Dr, Value.ref l = .ref d.lc ∧ d.val.1 = countsOf n ∧ ∀ q ∈ d.objs.tail, q ∈ [(l, PySem.W.listOf #[.ref a1, .ref a2, .ref a3] e), (a3, ({ cls := .type "tuple", data := .seq #[.str (sgn ((n.fdiv 432).fmod 4)) t3, .int ((n.fdiv 9).fmod 3) u3] } : Obj)), (a2, { cls := .type "tuple", data := .seq #[.str (sgn ((n.fdiv 108).fmod 4)) t2, .int ((n.fdiv 3).fmod 3) u2] }), (a1, { cls := .type "tuple", data := .seq #[.str (sgn ((n.fdiv 27).fmod 4)) t1, .int (n.fmod 3) u1] })] :=
  ⟨⟨0, l, a1, a2, a3, e, 0, 0, sgn ((n.fdiv 27).fmod 4), sgn ((n.fdiv 108).fmod 4), sgn ((n.fdiv 432).fmod 4), n.fmod 3, (n.fdiv 3).fmod 3, (n.fdiv 9).fmod 3, t1, t2, t3, u1, u2, u3⟩, rfl, rfl, fun q hq => by
    simp only [Dr.objs, List.tail_cons, List.mem_cons, List.not_mem_nil, or_false] at hq ⊢
    rcases hq with h | h | h | h
    · exact .inl h
    · exact .inr (.inr (.inr h))
    · exact .inr (.inr (.inl h))
    · exact .inr (.inl h)⟩
section
local macro_rules | `(tactic| k_steps) => `(tactic| (repeat' (first | (k_unfold; (try dsimp only)) | (walk1; (try dsimp only)) | (dsimp only; walk1; (try dsimp only)) | fail "no step")))
theorem counts_dr {w : World} {n : Int} {t : Tok} : Contract w 173 [.int n t] (fun _ => True) []
    (fun news v => ∃ d : Dr, v = .ref d.lc ∧ d.val.1 = countsOf n ∧ ∀ q ∈ d.objs.tail, q ∈ news) := by
  refine contract_of (fun _ _ _ _ => trivial) (by with_unfolding_all rfl) (by with_unfolding_all rfl) [(Str.ofString "n", .int n t)] (fun s X => BindsTo.of_eq rfl) (locs rfl) rfl rfl rfl (by decide) ?_
  intro dp un gd outer A base g L' h₁ p loose mean mg mb s B F X N T hdp hun hpr hlt
  k_fold
  k_steps
  all_goals exact leaveS_ (by assumption) (by assumption) (dr_of (w := w))
end
theorem slice4 {prog : Program} {w : World} {A : Around} {E : Value → Shared → Prop} {s : Shared} {h₀ h₃ : Heap} {L l : Addr} {m : Str → Option Value} {news : List (Addr × Obj)} {vs : List Value} {ns : List Int} {x : Str} {p1 p2 p3 : Pos} {tk : Nat} {t : Tok} {Q : Value → Shared → Prop}
    (F : Fr h₀ L h₃ m) (N : News h₀ L h₃ news) (hl : h₃.IsList l vs.toArray) (hv : IntsAre vs ns) (hz : vs.toArray.size ≤ sizeLine)
    (h : ∀ D ws h', Fr h₀ L h' m → News h₀ L h' ((D, PySem.W.listOf (List.toArray ws) 0) :: news) → (∀ p ∈ news, p.1 < D) → IntsAre ws (ns.take 4) → Q (.ref D) { s with heap := h', toks := tk }) :
    wpAny (model prog w) A (subscriptTail (.Name x p1) (.Slice none (some (.Constant (.int 4) 0 p2)) none p3) (.ref l) (.ref h₃.objs.size)) Q E { s with heap := h₃.push { cls := .type "slice", data := .fields #[.none, .int 4 t, .none] }, toks := tk } :=
  kmk_slice_ints (s := { s with heap := h₃, toks := tk }) F N hl .none (.int _ _) hv (kmk_upto hv (by decide)) rfl (fun D ws h' F' N' l1 hi _ _ => h D ws h' F' N' l1 hi) (by with_unfolding_all rfl) (by intro _; with_unfolding_all rfl) hz
theorem off3_of {I C D : Addr} : ∀ {l : List (Addr × Obj)}, (∀ p ∈ l, p.1 ≠ I ∧ p.1 ≠ C ∧ p.1 ≠ D) → LCg.Off3 I C D l
  | [], _ => trivial
  | p :: l, h => ⟨h p (.head _), off3_of fun q hq => h q (.tail _ hq)⟩
noncomputable def drawOf (x : Int) : List (Str × Int) × Int := (countsOf x, x.fmod 2 + 1)
section
local macro_rules | `(tactic| walk_at "eval Name") => `(tactic| ((with_reducible show wpAny _ _ (eval (PySem.Expr.Name _ _) (compEnvC _ _ _ _)) _ _ _); k_dflt (refine ldVarK (by with_reducible assumption) (by with_reducible assumption) ?_)))
theorem law_drawn {w : World} {dp un : Nat} {gd : Option (List Code)} {qual : Str} {sc cs : Scope} {f : Addr} {cdv : Value} {outer : List Env} {base g : Heap} {A : Around} {L : Addr} {m : Str → Option Value} {s : Shared} {p : Program} {loose : List Str} {mean : ExcName → Option Value} {mg mb : Str → Option Value}
    {l : Addr} {vs : List Value} {ns : List Int}
    (B : Below A base outer g) (F : Fr g L s.heap m) (X : (Mine.hd.heap_1 w.params).In g) (T : Top p loose mean mg mb g) (N : News g L s.heap [])
    (hl : g.IsList l vs.toArray) (hv : IntsAre vs ns) (hlen : ns.length ≤ 63)
    (m1 : m "script" = some (.ref l))
    (hcs : cs = lawSc w sc) (hdp : dp + 60 < recursionLimit) (hun : un + 600 < cLine) {Q : Flow → Shared → Prop} {E : Value → Shared → Prop}
    (hQ : ∀ h' tk D drs e, Fr g L h' (fun y => if y = Str.ofString "drawn" then some (.ref D) else m y) → News g L h' (drLed D drs e) → drs.map Dr.val = ([214, 55] ++ ns.take 4).map drawOf → Q .next { s with heap := h', toks := tk }) :
    wpAny (model PR w) (ktrTop dp un gd qual cs L f cdv [] outer) (exec (headS (lawBody w)) (envOf qual cs L f cdv)) Q E s := by
  unfold lawBody
  with_unfolding_all (conv in headS _ => whnf)
  unfold lawSc at hcs
  with_unfolding_all (conv at hcs => rhs; whnf)
  subst hcs
  have hpin : ∀ p ∈ [(Str.ofString "script", Value.ref l)], m p.1 = some p.2 := by
    intro p hp; simp only [List.mem_cons, List.not_mem_nil, or_false] at hp; subst hp; exact m1
  have hpe := pins_eq _ hpin
  have F₂ := fr_pins F _ hpin
  clear F
  k_unmd
  refine Assign_ListComp_U (cl := []) F₂ rfl (by rfl) (by rfl) (by decide) rfl (by decide) (by decide) rfl rfl ?_
  k_fold
  repeat' (first | (k_unfold; (try dsimp only)) | ((fail_if_success (with_reducible show CompSrc _ _ _ _ _ _ _ _ _ _ _ _ _ _)); first | (walk1; (try dsimp only)) | (dsimp only; walk1; (try dsimp only))) | fail "no step")
  rename Fr _ _ _ _ => F₃
  rename News _ _ _ _ => N₃
  have hz1 : ns.length ≤ sizeLine := Nat.le_trans hlen (by rw [sizeLine_eq]; decide)
  have hvz : vs.toArray.size ≤ sizeLine := kmk_sz hv hz1
  refine slice4 F₃ N₃ (F₃.lst hl) hv hvz ?_
  intro D₄ ws h₄ F₄ N₄ l₄ hws
  clear F₃ N₃
  repeat' (first | (k_unfold; (try dsimp only)) | ((fail_if_success (with_reducible show CompSrc _ _ _ _ _ _ _ _ _ _ _ _ _ _)); first | (walk1; (try dsimp only)) | (dsimp only; walk1; (try dsimp only))) | fail "no step")
  rename_i D₅ w₅ h₅ F₅ N₅ hI l₅
  generalize hns : [214, 55] ++ List.take 4 ns = ms at hI hQ
  have hms : ms.length ≤ 6 := by rw [← hns, List.length_append, List.length_take]; simp; omega
  have hsz : w₅.toArray.size ≤ sizeLine := kmk_sz hI (Nat.le_trans hms (by rw [sizeLine_eq]; decide))
  refine CompSrc.ledger rfl F₅ N₅ (.head _) hsz fun G => ?_
  refine restU (n := w₅.toArray.size) (fun i ys news => ∃ ds : List Dr, ys = ds.map (fun d => Value.ref d.a) ∧ ds.map Dr.val = (ms.take i).map drawOf ∧ (∀ q ∈ ds.flatMap Dr.objs, q ∈ news) ∧ (D₅, PySem.W.listOf (List.toArray w₅) 0) ∈ news) ?fin ?step _ 0 _ _ (by omega) ⟨[], rfl, rfl, (fun _ h => nomatch h), .head _⟩
  case step =>
    intro i ys news hi hpat v I oI C oC D m₂ h tk E' hv' hC hm₂ F₆ N₆ hoff hne
    obtain ⟨ds, rfl, hds, hdn, hsrc⟩ := hpat
    obtain ⟨n, t, hn, rfl⟩ : ∃ n t, ms[i]? = some n ∧ v = .int n t := by
      obtain ⟨n, t, e1, e2⟩ := hI.at i v (by rw [List.getElem?_toArray] at hv'; exact hv')
      exact ⟨n, t, e2, e1⟩
    clear F₅ N₅
    k_unmd
    k_fold
    repeat' (first | (k_unfold; (try dsimp only)) | ((fail_if_success (with_reducible show wpAny _ _ (call (Value.ref 173) _) _ _ _)); first | (walk1; (try dsimp only)) | (dsimp only; walk1; (try dsimp only))) | fail "no step")
    rename Fr _ _ _ _ => F₇
    rename News _ _ _ _ => N₇
    refine call_nil counts_dr B F₇ X T N₇ trivial (by omega) (by omega) rfl ?_
    intro v h₈ tk₈ news₈ F₈ N₈ hsep hpat
    obtain ⟨d, rfl, hdv, hdo⟩ := hpat
    (try clear N₇); (try clear F₇); (try clear F₆); (try clear N₆)
    repeat' (first | (k_unfold; (try dsimp only)) | ((fail_if_success (with_reducible show CompEnd _ _ _ _ _ _ _ _ _ _ _ _ _ _)); first | (walk1; (try dsimp only)) | (dsimp only; walk1; (try dsimp only))) | fail "no step")
    rename_i D₉ h₉ F₉ N₉ l₉
    have hI₉ : ∀ q ∈ news₈, q.1 ≠ I ∧ q.1 ≠ C ∧ q.1 ≠ D := fun q hq => ⟨fun e => hsep (I, oI) (.head _) (List.mem_map.mpr ⟨q, hq, e⟩), fun e => hsep (C, oC) (.tail _ (.head _)) (List.mem_map.mpr ⟨q, hq, e⟩), fun e => hsep (D, _) (.tail _ (.tail _ (.head _))) (List.mem_map.mpr ⟨q, hq, e⟩)⟩
    have hobj : ({ d with a := D₉, more := n.fmod 2 + 1, u := tk₈ + 1 + 1 + 1 } : Dr).objs = (D₉, { cls := .type "tuple", data := .seq #[.ref d.lc, .int (n.fmod 2 + 1) (tk₈ + 1 + 1 + 1)] }) :: d.objs.tail := rfl
    refine LCg.CompEnd.intro F₉ N₉ ((D₉, { cls := .type "tuple", data := .seq #[.ref d.lc, .int (n.fmod 2 + 1) (tk₈ + 1 + 1 + 1)] }) :: (news₈ ++ news)) (fun q hq => ?_) ⟨⟨Nat.ne_of_gt (l₉ (I, oI) (List.mem_append_right _ (.head _))), Nat.ne_of_gt (l₉ (C, oC) (List.mem_append_right _ (.tail _ (.head _)))), Nat.ne_of_gt (l₉ (D, _) (List.mem_append_right _ (.tail _ (.tail _ (.head _)))))⟩, off3_of fun q hq => ?_⟩ (.inr ⟨_, .tail _ (List.mem_append_right _ hsrc), rfl, _, rfl⟩)
      ⟨ds ++ [{ d with a := D₉, more := n.fmod 2 + 1, u := tk₈ + 1 + 1 + 1 }], by simp, ?_, fun q hq => ?_, .tail _ (List.mem_append_right _ hsrc)⟩
    · simp only [List.mem_cons, List.mem_append] at hq ⊢
      rcases hq with h | h | h | h | h | h
      · exact .inr (.inr (.inl h))
      · exact .inr (.inr (.inr (.inl h)))
      · exact .inr (.inr (.inr (.inr (.inl h))))
      · exact .inl h
      · exact .inr (.inl h)
      · exact .inr (.inr (.inr (.inr (.inr h))))
    · rcases List.mem_append.mp hq with hq | hq
      · exact hI₉ q hq
      · exact hoff.mem q hq
    · rw [List.map_append, hds, List.take_add_one, hn, List.map_append]
      show _ ++ [(d.val.1, n.fmod 2 + 1)] = _
      rw [hdv]; rfl
    · rw [List.flatMap_append] at hq
      rcases List.mem_append.mp hq with hq | hq
      · exact .tail _ (List.mem_append_right _ (hdn q hq))
      · rw [List.flatMap_cons, List.flatMap_nil, List.append_nil, hobj] at hq
        rcases List.mem_cons.mp hq with h | h
        · rw [h]; exact .head _
        · exact .tail _ (List.mem_append_left _ (hdo q h))
  case fin =>
    intro ys news hpat D h tk F₆ N₆ hoff
    obtain ⟨ds, rfl, hds, hdn, hsrc⟩ := hpat
    rw [List.take_of_length_le (by rw [List.size_toArray, hI.length]; exact Nat.le_refl _)] at hds
    refine hQ h tk D ds (ds.map fun d => Value.ref d.a).length (fr_eq F₆ fun y => by have := congrFun hpe y; (try dsimp only at this ⊢); rw [this]) (fun q hq => N₆ q ?_) hds
    rcases List.mem_cons.mp hq with h | h
    · rw [h]; exact .head _
    · exact .tail _ (hdn q h)
end

end
section
open PyProof.Rows.LCg PyProof.Rows.LCp PySem.SeqAt
/-- pairs of a text and a number in a ledger -/
noncomputable def PairsIn (news : List (Addr × Obj)) (ys : List Value) (c : List (Str × Int)) : Prop :=
  ys.length = c.length ∧ ∀ (i : Nat) p, c[i]? = some p → ∃ (a : Addr) (t u : Tok), ys[i]? = some (.ref a) ∧ (a, ({ cls := .type "tuple", data := .seq #[.str p.1 t, .int p.2 u] } : Obj)) ∈ news
theorem PairsIn.mono {news news' : List (Addr × Obj)} {ys : List Value} {c : List (Str × Int)} (h : PairsIn news ys c) (hs : ∀ q ∈ news, q ∈ news') : PairsIn news' ys c :=
  ⟨h.1, fun i p hp => let ⟨a, t, u, h1, h2⟩ := h.2 i p hp; ⟨a, t, u, h1, hs _ h2⟩⟩
theorem PairsIn.snoc {news : List (Addr × Obj)} {ys : List Value} {c : List (Str × Int)} {D : Addr} {x : Str} {k : Int} {t u : Tok} (h : PairsIn news ys c) (hm : (D, ({ cls := .type "tuple", data := .seq #[.str x t, .int k u] } : Obj)) ∈ news) : PairsIn news (ys ++ [.ref D]) (c ++ [(x, k)]) := by
  obtain ⟨h1, h2⟩ := h
  refine ⟨by simp [h1], fun i p hp => ?_⟩
  by_cases hi : i < c.length
  · rw [List.getElem?_append_left hi] at hp
    obtain ⟨a, t', u', h3, h4⟩ := h2 i p hp
    exact ⟨a, t', u', by rw [List.getElem?_append_left (by omega)]; exact h3, h4⟩
  · rw [List.getElem?_append_right (by omega)] at hp
    have hi0 : i - c.length = 0 := by
      have := (List.getElem?_eq_some_iff.mp hp).1; simp at this; omega
    rw [hi0] at hp
    cases hp
    exact ⟨D, t, u, by rw [List.getElem?_append_right (by omega), h1, hi0]; rfl, hm⟩
section
variable {prog : Program} {w : World} {A : Around} {E : Value → Shared → Prop} {s : Shared} {h₀ : Heap} {L : Addr} {m : Str → Option Value} {env : Env}
theorem restP {elt : Expr} {x x₂ : Str} {scope : Scope} {cl : List (Str × Addr)} {S : List (Addr × Obj) → Prop} {P : Nat → Value → Prop} {Fin : List Value → List (Addr × Obj) → Prop} {n : Nat} (J : Nat → List Value → List (Addr × Obj) → Prop)
    (fin : ∀ ys news, J n ys news → Fin ys news)
    (step : ∀ i ys news, i < n → J i ys news → ∀ v, P i v → ∃ (t : Addr) (ot : Obj) (v₁ v₂ : Value) (nt : Nat), v = .ref t ∧ (t, ot) ∈ news ∧ ot.cls = .type "tuple" ∧ ot.data = .seq #[v₁, v₂] nt ∧
      ∀ I oI C oC D m₂ h tk (E' : Value → Shared → Prop), NsObj oC m₂ → m₂ x = some v₁ → m₂ x₂ = some v₂ → Fr h₀ L h m → News h₀ L h ((I, oI) :: (C, oC) :: (D, lst ys) :: news) → Off3 I C D news → ((@Ne Nat I C) ∧ (@Ne Nat I D) ∧ (@Ne Nat C D)) →
      wpAny (model prog w) A (eval elt (compEnvC scope cl C env)) (CompEnd h₀ L m { s with heap := h, toks := tk } I oI C oC D (lst ys) S (fun y news' => J (i + 1) (ys ++ [y]) news')) E' { s with heap := h, toks := tk }) :
    ∀ k i ys news, i + k = n → J i ys news → CompRestP prog w A h₀ L m env elt x x₂ scope cl s S P Fin k i ys news := by
  intro k
  induction k with
  | zero => intro i ys news e j; exact fin ys news (by rw [← e]; exact j)
  | succ k ih =>
    intro i ys news e j v hv
    obtain ⟨t, ot, v₁, v₂, nt, h1, h2, h3, h4, h5⟩ := step i ys news (by omega) j v hv
    refine ⟨t, ot, v₁, v₂, nt, h1, h2, h3, h4, fun I oI C oC D m₂ h tk E' hC hx hx₂ F N off ne => ?_⟩
    refine wpAny_mono (h5 I oI C oC D m₂ h tk E' hC hx hx₂ F N off ne) (fun y s'' q => ?_) fun _ _ x => x
    obtain ⟨h', tk', news', e', F', N', o', S', r⟩ := q
    exact ⟨h', tk', news', e', F', N', o', S', ih _ _ _ (by omega) r⟩
theorem eq_strs {x y : List Value} {ss : List Str} (hx : StrsAre x ss) (hy : StrsAre y ss) {A : Around} {s : Shared} : ∀ j (h1 : j < x.toArray.size) (h2 : j < y.toArray.size), EqAt A s x.toArray[j] y.toArray[j] true := by
  intro j h1 h2
  have key : ∀ {x y : List Value} {ss : List Str}, StrsAre x ss → StrsAre y ss → ∀ (j : Nat) (v u : Value), x[j]? = some v → y[j]? = some u → EqAt A s v u true := by
    intro x y ss hx
    induction hx generalizing y with
    | nil => intro _ j v u hv; simp at hv
    | cons a t _ ih =>
      intro hy j v u hv hu
      cases hy with
      | cons _ t' hy =>
        cases j with
        | zero =>
          cases hv; cases hu
          have := EqAt.str_str (A := A) (s := s) a t a t'
          rwa [beq_self_eq_true] at this
        | succ j => exact ih hy j v u hv hu
  exact key hx hy j _ _ (by simp) (by simp)
/-- two lists of lists of texts -/
theorem rr_eq {l b : Addr} {rv₁ rv₂ : Array Value} {rr : List (List Str)} {news₁ news₂ : List (Addr × Obj)} {Q : Value → Shared → Prop} (h1 : s.heap.IsList l rv₁) (h2 : s.heap.IsList b rv₂) (i1 : ListsIn news₁ rv₁ rr) (i2 : ListsIn news₂ rv₂ rr)
    (n1 : ∀ q ∈ news₁, s.heap.get? q.1 = some q.2) (n2 : ∀ q ∈ news₂, s.heap.get? q.1 = some q.2) (hu : A.units + 1 < cLine) (hQ : Q (.bool true) s) : wpAny (model prog w) A (compareOp .Eq (.ref l) (.ref b)) Q E s := by
  refine eq_listAt (e := fun _ => true) h1 h2 (i1.1.trans i2.1.symm) (by omega) (fun j hj1 hj2 => ?_) (by rw [List.all_eq_true.mpr fun _ _ => rfl]; exact hQ)
  have hjr : j < rr.length := by rw [← i1.1]; exact hj1
  obtain ⟨a₁, vs₁, e₁, p1, p2, p3⟩ := i1.2 j rr[j] (by simp [hjr])
  obtain ⟨a₂, vs₂, e₂, q1, q2, q3⟩ := i2.2 j rr[j] (by simp [hjr])
  rw [Array.getElem?_eq_getElem hj1] at p1
  rw [Array.getElem?_eq_getElem hj2] at q1
  rw [Option.some.inj p1, Option.some.inj q1]
  by_cases e : a₁ = a₂
  · subst e; exact EqAt.same _
  · have := RcAt.lists (A := A.in1) (e := fun _ => true) (s := s) (l := a₁) (b := a₂) (items := vs₁.toArray) (items2 := vs₂.toArray) ⟨_, n1 _ p2, rfl, _, rfl⟩ ⟨_, n2 _ q2, rfl, _, rfl⟩ (by simp [p3.length, q3.length]) (by show A.units + 1 < cLine; omega) (fun k hk1 hk2 => eq_strs p3 q3 k hk1 hk2)
    rw [List.all_eq_true.mpr fun _ _ => rfl] at this
    exact EqAt.of_refs e this
end

end
section
open PyProof.Rows.LCg PyProof.Rows.LCp
noncomputable def stOf (vals : List (List (Str × Int) × Int)) : List (Str × Int) := vals.map fun v => (writ v.1, v.2)
/-- what the plain law says of the pairs drawn -/
noncomputable def PlainOk (vals : List (List (Str × Int) × Int)) : Prop :=
  ∃ (D : Str → Prop) (rk lv : Str → Nat) (n : Nat), StartsOk D rk (stOf vals) ∧ (∀ e ∈ buildG rk (stOf vals), ∀ c ∈ e.2.2, lv e.1 < lv c ∧ c ∈ (buildG rk (stOf vals)).map (·.1)) ∧ RunOk n (kinit (buildG rk (stOf vals))) ∧ n ≤ 100 ∧
    ∀ rr₁ rr₂, SortedOf rr₁ (krounds n (kinit (buildG rk (stOf vals)))) → SortedOf rr₂ (dueAll [] vals) → rr₁ = rr₂
noncomputable def LawEnd (g : Heap) (s : Shared) (fl : Flow) (s' : Shared) : Prop :=
  fl = .ret (.bool true) ∧ ∃ h' tk, s' = { s with heap := h', toks := tk } ∧ ∀ b o, g.get? b = some o → h'.get? b = some o
section
local macro_rules | `(tactic| walk_at "eval Name") => `(tactic| ((with_reducible show wpAny _ _ (eval (PySem.Expr.Name _ _) (compEnvC _ _ _ _)) _ _ _); k_dflt (refine ldVarK (by with_reducible assumption) (by with_reducible assumption) ?_)))
theorem law_ret {w : World} {dp un : Nat} {gd : Option (List Code)} {qual : Str} {sc cs : Scope} {f : Addr} {cdv : Value} {base g : Heap} {A : Around} {L : Addr} {m : Str → Option Value} {s : Shared} {p : Program} {loose : List Str} {mean : ExcName → Option Value} {mg mb : Str → Option Value}
    {D : Addr} {drs : List Dr} {e : Nat}
    (B : Below A base [] g) (F : Fr g L s.heap m) (Xb : (Mine.hd.heap_1 w.params).In base) (Tb : Top p loose mean mg mb base) (N : News g L s.heap (drLed D drs e))
    (hdr : ∀ d ∈ drs, DrOk d) (hlen : drs.length ≤ 6) (hplain : PlainOk (drs.map Dr.val))
    (m1 : m "drawn" = some (.ref D))
    (hcs : cs = lawSc w sc) (hdp : dp + 200 < recursionLimit) (hun : un + 2000 < cLine) {E : Value → Shared → Prop} :
    wpAny (model PR w) (ktrTop dp un gd qual cs L f cdv [] []) (exec (headS ((lawBody w).drop 1)) (envOf qual cs L f cdv)) (LawEnd g s) E s := by
  have X := Xb.keeps B.stays
  have T := Tb.keeps B.stays
  obtain ⟨DD, rk, lv, n, hst, hlv, hrun, hn, hfin⟩ := hplain
  unfold lawBody
  with_unfolding_all (conv in headS _ => whnf)
  unfold lawSc at hcs
  with_unfolding_all (conv at hcs => rhs; whnf)
  subst hcs
  have hpin : ∀ p ∈ [(Str.ofString "drawn", Value.ref D)], m p.1 = some p.2 := by
    intro p hp; simp only [List.mem_cons, List.not_mem_nil, or_false] at hp; subst hp; exact m1
  have hpe := pins_eq _ hpin
  have F₂ := fr_pins F _ hpin
  have hsz : (drs.map fun d => Value.ref d.a).toArray.size ≤ sizeLine := by rw [sizeLine_eq]; simp; omega
  generalize hLD : drLed D drs e = LD at N
  clear F
  k_unmd
  k_fold
  repeat' (first | (k_unfold; (try dsimp only)) | ((fail_if_success (with_reducible show wpAny _ _ (eval (PySem.Expr.ListComp _ _ _ _) _) _ _ _)); first | (walk1; (try dsimp only)) | (dsimp only; walk1; (try dsimp only))) | fail "no step")
  rename Fr _ _ _ _ => F₃
  rename News _ _ _ _ => N₃
  refine ListComp_P F₃ (cl := []) (by rfl) (by decide) rfl (by decide) (by decide) (by decide) (by decide) ?_
  k_fold
  repeat' (first | (k_unfold; (try dsimp only)) | ((fail_if_success (with_reducible show SrcLP _ _ _ _ _ _ _ _ _ _ _ _ _ _ _)); first | (walk1; (try dsimp only)) | (dsimp only; walk1; (try dsimp only))) | fail "no step")
  rename Fr _ _ _ _ => F₄
  rename News _ _ _ _ => N₄
  subst hLD
  refine SrcLP.ledger rfl F₄ N₄ (.head _) hsz fun G => ?_
  refine restP (n := (drs.map fun d => Value.ref d.a).toArray.size) (fun i ys news => PairsIn news ys ((drs.take i).map fun d => (writ d.val.1, d.more)) ∧ ∀ q ∈ drLed D drs e, q ∈ news) ?fin ?step _ 0 _ _ (by omega) ⟨⟨rfl, fun i p h => by simp at h⟩, fun q hq => hq⟩
  case step =>
    intro i ys news hi hpat v hv'
    obtain ⟨hP, hsub⟩ := hpat
    obtain ⟨d, hdi, rfl⟩ : ∃ d, drs[i]? = some d ∧ Value.ref d.a = v := by
      rw [List.getElem?_toArray, List.getElem?_map] at hv'; exact Option.map_eq_some_iff.mp hv'
    have hdm := List.mem_of_getElem? hdi
    have hdo : ∀ q ∈ d.objs, q ∈ news := fun q hq => hsub q (.tail _ (List.mem_flatMap.mpr ⟨d, hdm, hq⟩))
    refine ⟨d.a, _, .ref d.lc, .int d.more d.u, _, rfl, hdo _ (.head _), rfl, rfl, ?_⟩
    intro I oI C oC D' m₂ h tk E' hC hm₁ hm₂ F₆ N₆ hoff hne
    k_unmd
    k_fold
    repeat' (first | (k_unfold; (try dsimp only)) | ((fail_if_success (with_reducible show wpAny _ _ (call (Value.ref 180) _) _ _ _)); first | (walk1; (try dsimp only)) | (dsimp only; walk1; (try dsimp only))) | fail "no step")
    rename Fr _ _ _ _ => F₇
    rename News _ _ _ _ => N₇
    have hok : ∀ p ∈ d.val.1, okPair p := by
      obtain ⟨⟨a1, a2, a3⟩, ⟨b1, b2, b3⟩, _⟩ := hdr d hdm
      intro p hp
      simp only [Dr.val, List.mem_cons, List.not_mem_nil, or_false] at hp
      rcases hp with rfl | rfl | rfl
      · exact ⟨a1, b1.1, Int.le_trans b1.2 (by decide)⟩
      · exact ⟨a2, b2.1, Int.le_trans b2.2 (by decide)⟩
      · exact ⟨a3, b3.1, Int.le_trans b3.2 (by decide)⟩
    have hg : ∀ q ∈ d.objs, h.get? q.1 = some q.2 := fun q hq => (N₇ q (.tail _ (.tail _ (.tail _ (hdo q hq))))).1
    have hca : CountsAt h d.lc d.val.1 := counts_at (hg _ (.tail _ (.head _))) (hg _ (.tail _ (.tail _ (.head _)))) (hg _ (.tail _ (.tail _ (.tail _ (.head _))))) (hg _ (.tail _ (.tail _ (.tail _ (.tail _ (.head _))))))
    refine call_nil (written_spec (by simp [Dr.val]) hok) B F₇ X T N₇ hca (by omega) (by omega) rfl ?_
    intro v h₈ tk₈ news₈ F₈ N₈ hsep hpat
    obtain ⟨t₈, rfl⟩ := hpat
    (try clear N₇); (try clear F₇); (try clear F₆); (try clear N₆)
    repeat' (first | (k_unfold; (try dsimp only)) | ((fail_if_success (with_reducible show CompEnd _ _ _ _ _ _ _ _ _ _ _ _ _ _)); first | (walk1; (try dsimp only)) | (dsimp only; walk1; (try dsimp only))) | fail "no step")
    rename_i D₉ h₉ F₉ N₉ l₉
    refine LCg.CompEnd.intro F₉ N₉ ((D₉, { cls := .type "tuple", data := .seq #[.str (writ d.val.1) t₈, .int d.more d.u] }) :: news) (fun q hq => ?_) ⟨⟨Nat.ne_of_gt (l₉ (I, oI) (List.mem_append_right _ (.head _))), Nat.ne_of_gt (l₉ (C, oC) (List.mem_append_right _ (.tail _ (.head _)))), Nat.ne_of_gt (l₉ (D', _) (List.mem_append_right _ (.tail _ (.tail _ (.head _)))))⟩, hoff⟩ (.inr ⟨_, .tail _ (hsub _ (.head _)), rfl, _, rfl⟩) ⟨?_, fun q hq => .tail _ (hsub q hq)⟩
    · simp only [List.mem_cons, List.mem_append] at hq ⊢
      rcases hq with h | h | h | h | h
      · exact .inr (.inr (.inl h))
      · exact .inr (.inr (.inr (.inl h)))
      · exact .inr (.inr (.inr (.inr (.inl h))))
      · exact .inl h
      · exact .inr (.inr (.inr (.inr (.inr h))))
    · rw [List.take_add_one, hdi, List.map_append]
      exact (hP.mono fun q hq => .tail _ hq).snoc (.head _)
  case fin =>
    intro ys news hpat D₂ h tk F₆ N₆ hoff
    obtain ⟨hP, hsub⟩ := hpat
    rw [List.take_of_length_le (by simp)] at hP
    k_unmd
    repeat' (first | (k_unfold; (try dsimp only)) | ((fail_if_success (with_reducible show wpAny _ _ (call (Value.ref 187) _) _ _ _)); first | (walk1; (try dsimp only)) | (dsimp only; walk1; (try dsimp only))) | fail "no step")
    have hN0 : News g L h [] := fun _ hq => nomatch hq
    have hca : CountsAt h D₂ (stOf (drs.map Dr.val)) := by
      refine ⟨ys.toArray, ⟨_, (N₆ _ (.head _)).1, rfl, _, rfl⟩, ?_, fun i q hq => ?_⟩
      · rw [List.size_toArray, hP.1]; simp [stOf]
      · have : stOf (drs.map Dr.val) = drs.map fun d => (writ d.val.1, d.more) := by unfold stOf; rw [List.map_map]; rfl
        rw [this] at hq
        obtain ⟨a, t, u, h1, h2⟩ := hP.2 i q hq
        exact ⟨a, t, u, by rw [List.getElem?_toArray]; exact h1, _, (N₆ _ (.tail _ h2)).1, rfl, _, rfl⟩
    refine rounds_spec hst hlv hrun hn dp un gd _ _ f cdv [] [] A base g L _ p loose mean mg mb _ _ _ B F₆ Xb hN0 Tb rfl (by omega) (by omega) hca ?_
    intro v h₇ tk₇ news₇ hk hn₇ hpat
    obtain ⟨r, rv, e₇, rr₁, rfl, hr, hIn, hSo⟩ := hpat
    obtain ⟨g₂, R⟩ := reground B F₆ Xb Tb hN0 (env := envX qual _ L f cdv []) rfl hk
    have F₈ := R.F
    have X₈ := R.X
    have T₈ := R.T
    have B₈ := R.B
    have hnone : ∀ q ∈ news₇, h.get? q.1 = none := fun q hq => (hn₇ q hq).2.elim id fun h => nomatch h
    have N₈ : News g₂ L h₇ (drLed D drs e ++ news₇) := fun q hq => by
      rcases List.mem_append.mp hq with hq | hq
      · have hq' := N₆ q (.tail _ (hsub q hq))
        exact ⟨(hk q.1 q.2 hq'.1 (fun h => nomatch h)).1 (fun hm => hq'.2.1 (List.mem_singleton.mp hm)), hq'.2.1, R.none _ hq'.2.2⟩
      · refine ⟨(hn₇ q hq).1, fun hL => ?_, R.none _ ?_⟩
        · obtain ⟨oL, _, _, hL', _⟩ := F₆.ns
          have := hnone q hq; rw [hL, hL'] at this; cases this
        · cases e' : g.get? q.1 with
          | none => rfl
          | some o => have := hnone q hq; rw [F₆.keep _ _ e'] at this; cases this
    have hsep : ∀ q ∈ news₇, q.1 ∉ (drLed D drs e).map (·.1) := fun q hq hm => by
      obtain ⟨q', hq', hqe⟩ := List.mem_map.mp hm
      have := hnone q hq
      rw [← hqe, (N₆ q' (.tail _ (hsub q' hq'))).1] at this; cases this
    have hKK : ∀ b o, g.get? b = some o → g₂.get? b = some o := fun b o e' => (R.K b o e' (fun h => nomatch h)).1 (fun h => nomatch h)
    generalize hLD : drLed D drs e ++ news₇ = LD at N₈
    dsimp only
    repeat' (first | (k_unfold; (try dsimp only)) | ((fail_if_success (with_reducible show wpAny _ _ (call (Value.ref 192) _) _ _ _)); first | (walk1; (try dsimp only)) | (dsimp only; walk1; (try dsimp only))) | fail "no step")
    subst hLD
    refine callK_led (due_spec hdr hlen) B₈ F₈ X₈ T₈ N₈ hsep trivial (by omega) (by omega) rfl ?_
    intro v h₉ tk₉ news₉ F₉ N₉ hsep₉ hpat
    obtain ⟨r₂, rv₂, e₉, rr₂, rfl, hr₂, hIn₂, hSo₂⟩ := hpat
    obtain rfl := hfin rr₁ rr₂ hSo hSo₂
    have n1 : ∀ q ∈ news₇, h₉.get? q.1 = some q.2 := fun q hq => (N₉ q (List.mem_append_right _ hq)).1
    have n2 : ∀ q ∈ news₉, h₉.get? q.1 = some q.2 := fun q hq => (N₉ q (List.mem_append_left _ hq)).1
    dsimp only
    refine rr_eq (s := { s with heap := h₉, toks := tk₉ }) ⟨_, n1 _ hr, rfl, _, rfl⟩ ⟨_, n2 _ hr₂, rfl, _, rfl⟩ hIn hIn₂ n1 n2 (by show un + 1 < cLine; omega) ?_
    exact ⟨rfl, h₉, _, rfl, fun b o e' => F₉.keep b o (hKK b o e')⟩
end

end
section
theorem drOk_of {d : Dr} {x : Int} (h : d.val = drawOf x) : DrOk d := by
  have h1 := congrArg Prod.fst h
  have h2 : d.more = x.fmod 2 + 1 := congrArg Prod.snd h
  have hc := counts_ok x
  have h0 := Int.fmod_nonneg_of_pos x (show (0 : Int) < 2 by decide)
  have h3 := Int.fmod_lt_of_pos x (show (0 : Int) < 2 by decide)
  have e : [(d.s1, d.k1), (d.s2, d.k2), (d.s3, d.k3)] = countsOf x := h1
  rw [← e] at hc
  have c1 := hc (d.s1, d.k1) (by simp)
  have c2 := hc (d.s2, d.k2) (by simp)
  have c3 := hc (d.s3, d.k3) (by simp)
  exact ⟨⟨c1.1, c2.1, c3.1⟩, ⟨c1.2, c2.2, c3.2⟩, by omega⟩
theorem law_all {w : World} {dp un : Nat} {gd : Option (List Code)} {qual : Str} {sc cs : Scope} {f : Addr} {cdv : Value} {base g : Heap} {A : Around} {L : Addr} {m : Str → Option Value} {s : Shared} {p : Program} {loose : List Str} {mean : ExcName → Option Value} {mg mb : Str → Option Value}
    {l : Addr} {vs : List Value} {ns : List Int}
    (B : Below A base [] g) (F : Fr g L s.heap m) (Xb : (Mine.hd.heap_1 w.params).In base) (Tb : Top p loose mean mg mb base) (N : News g L s.heap [])
    (hl : g.IsList l vs.toArray) (hv : IntsAre vs ns) (hlen : ns.length ≤ 63) (hplain : PlainOk (([214, 55] ++ ns.take 4).map drawOf))
    (m1 : m "script" = some (.ref l))
    (hcs : cs = lawSc w sc) (hdp : dp + 200 < recursionLimit) (hun : un + 2000 < cLine) {E : Value → Shared → Prop} :
    wpAny (model PR w) (ktrTop dp un gd qual cs L f cdv [] []) (execs (lawBody w) (envOf qual cs L f cdv)) (LawEnd g s) E s := by
  have X := Xb.keeps B.stays
  have T := Tb.keeps B.stays
  have key1 := fun Q E => law_drawn (Q := Q) (E := E) (gd := gd) (qual := qual) (f := f) (cdv := cdv) (outer := []) B F X T N hl hv hlen m1 hcs (show dp + 60 < recursionLimit by omega) (show un + 600 < cLine by omega)
  have e : lawBody w = [headS (lawBody w), headS ((lawBody w).drop 1)] := by unfold lawBody; with_unfolding_all rfl
  rw [e]
  refine wpAny_execs_cons (key1 _ _ ?_)
  intro h' tk D drs e' F₁ N₁ hval
  dsimp only
  refine wpAny_execs_cons ?_
  have hdr : ∀ d ∈ drs, DrOk d := fun d hd => by
    have : d.val ∈ ([214, 55] ++ ns.take 4).map drawOf := hval ▸ List.mem_map_of_mem hd
    obtain ⟨x, _, hx⟩ := List.mem_map.mp this
    exact drOk_of hx.symm
  have hlen6 : drs.length ≤ 6 := by
    have := congrArg List.length hval
    rw [List.length_map, List.length_map, List.length_append, List.length_take] at this
    simp only [List.length_cons, List.length_nil] at this
    omega
  refine wpAny_mono (law_ret (s := { s with heap := h', toks := tk }) (gd := gd) (qual := qual) (f := f) (cdv := cdv) (E := E) B F₁ Xb Tb N₁ hdr hlen6 (hval ▸ hplain) (if_pos rfl) hcs hdp hun) (fun fl s' hq => ?_) fun _ _ x => x
  obtain ⟨rfl, h₂, tk₂, rfl, hk⟩ := hq
  exact ⟨rfl, h₂, tk₂, rfl, hk⟩

end
section
open PySem.Builtin PySem.Builtin.Str PySem.StrLaws
/-- str.replace on lists of numbers -/
noncomputable def rep (y z : List Nat) : Nat → List Nat → List Nat
  | 0, l => l
  | n + 1, [] => []
  | n + 1, c :: r => if (c :: r).take y.length = y then z ++ rep y z n ((c :: r).drop y.length) else c :: rep y z n r
theorem rep_nil (y z : List Nat) : ∀ n, rep y z n [] = []
  | 0 => rfl
  | _ + 1 => rfl
theorem rep_fuel {y z : List Nat} (hy : 1 ≤ y.length) : ∀ (n m : Nat) (l : List Nat), l.length ≤ n → l.length ≤ m → rep y z n l = rep y z m l
  | n, m, [], _, _ => by rw [rep_nil, rep_nil]
  | 0, _, c :: r, h, _ => by simp at h
  | _ + 1, 0, c :: r, _, h => by simp at h
  | n + 1, m + 1, c :: r, h1, h2 => by
    rw [List.length_cons] at h1 h2
    unfold rep
    split
    · rw [rep_fuel hy n m _ (by rw [List.length_drop, List.length_cons]; omega) (by rw [List.length_drop, List.length_cons]; omega)]
    · rw [rep_fuel hy n m r (by omega) (by omega)]
theorem rep_none {y z : List Nat} : ∀ (n : Nat) (l : List Nat), (∀ k, (l.drop k).take y.length ≠ y) → rep y z n l = l
  | 0, l, _ => rfl
  | _ + 1, [], _ => rfl
  | n + 1, c :: r, h => by
    unfold rep
    rw [if_neg (show ¬ (c :: r).take y.length = y from h 0), rep_none n r fun k => h (k + 1)]
theorem rep_next {y z : List Nat} (hy : 1 ≤ y.length) : ∀ (c n : Nat) (l : List Nat), l.length ≤ n → c ≤ l.length → (l.drop c).take y.length = y → (∀ k, k < c → (l.drop k).take y.length ≠ y) →
    rep y z n l = l.take c ++ z ++ rep y z n (l.drop (c + y.length))
  | 0, 0, l, hn, _, h, _ => by
    have : l = [] := List.eq_nil_of_length_eq_zero (by omega)
    subst this
    rw [List.drop_nil, List.take_nil] at h
    rw [← h] at hy; simp at hy
  | 0, n + 1, [], hn, _, h, _ => by
    rw [List.drop_nil, List.take_nil] at h
    rw [← h] at hy; simp at hy
  | 0, n + 1, d :: r, hn, _, h, _ => by
    rw [List.drop_zero] at h
    rw [rep, if_pos h, List.take_zero, List.nil_append, Nat.zero_add]
    rw [List.length_cons] at hn
    rw [rep_fuel hy n (n + 1) _ (by rw [List.length_drop, List.length_cons]; omega) (by rw [List.length_drop, List.length_cons]; omega)]
  | c + 1, 0, l, hn, hc, _, _ => by omega
  | c + 1, n + 1, [], hn, hc, _, _ => by simp at hc
  | c + 1, n + 1, d :: r, hn, hc, h, hk => by
    rw [List.length_cons] at hn hc
    rw [rep, if_neg (show ¬ (d :: r).take y.length = y from hk 0 (by omega)), rep_next hy c n r (by omega) (by omega) h fun k hk' => hk (k + 1) (by omega), List.take_succ_cons, show c + 1 + y.length = (c + y.length) + 1 by omega, List.drop_succ_cons]
    rw [rep_fuel hy n (n + 1) _ (by rw [List.length_drop]; omega) (by rw [List.length_drop]; omega)]
    rfl
theorem at_iff {x y : Str} (hy : 1 ≤ y.length) {k : Nat} : At x y x.length k ↔ (x.cps.toList.drop k).take y.cps.toList.length = y.cps.toList := by
  have e : y.cps.toList.length = y.length := by simp [Str.length]
  have ex : x.cps.toList.length = x.length := by simp [Str.length]
  unfold At
  rw [subAt_eq, beq_iff_eq, e]
  refine ⟨fun h => h.2, fun h => ⟨?_, h⟩⟩
  have := congrArg List.length h
  rw [List.length_take, List.length_drop, e, ex] at this
  omega
theorem join_toList (z : Str) : ∀ (p : Str) (ps : List Str), (Str.join z (p :: ps)).cps.toList = p.cps.toList ++ (ps.flatMap fun q => z.cps.toList ++ q.cps.toList)
  | p, [] => by simp [Str.join]
  | p, q :: ps => by
    rw [Str.join, Str.cps_append, Str.cps_append, Array.toList_append, Array.toList_append, join_toList z q ps, List.flatMap_cons]
    simp only [List.append_assoc]
    intro h; cases h
theorem parts_rep {x y z : Str} (hy : 1 ≤ y.length) : ∀ (cuts : List Nat) (a f n : Nat), a ≤ x.length → x.length - a ≤ n → ChainG x y x.length a cuts f → (∀ k, f ≤ k → ¬ At x y x.length k) →
    (Str.join z (partsFrom x y.length a cuts)).cps.toList = rep y.cps.toList z.cps.toList n (x.cps.toList.drop a)
  | [], a, f, n, ha, hn, h, hk => by
    have e : f = a := h
    subst e
    rw [partsFrom, Str.join, strSub_toList, List.take_of_length_le (by simp [Str.length])]
    refine (rep_none n _ fun k hk' => ?_).symm
    rw [List.drop_drop] at hk'
    exact hk _ (Nat.le_add_right f k) ((at_iff hy).mpr hk')
  | c :: r, a, f, n, ha, hn, h, hk => by
    obtain ⟨h1, h2, h3, h4⟩ := h
    have hcl := h2.1
    have ey : y.cps.toList.length = y.length := by simp [Str.length]
    have ex : x.cps.toList.length = x.length := by simp [Str.length]
    have ih := parts_rep (z := z) hy r (c + y.length) f n hcl (by omega) h4 hk
    obtain ⟨p, q, e⟩ := partsFrom_ne x y.length (c + y.length) r
    rw [partsFrom]
    rw [rep_next (y := y.cps.toList) (by rw [ey]; exact hy) (c - a) n _ (by rw [List.length_drop, ex]; exact hn) (by rw [List.length_drop, ex]; omega)
      (by rw [List.drop_drop, show a + (c - a) = c by omega]; exact (at_iff hy).mp h2)
      (fun k hk' => by rw [List.drop_drop]; exact fun e' => h3 (a + k) (by omega) (by omega) ((at_iff hy).mpr e'))]
    rw [List.drop_drop, show a + (c - a + y.cps.toList.length) = c + y.length by rw [ey]; omega, ← ih, e]
    rw [show Str.join z (strSub x a c :: p :: q) = strSub x a c ++ z ++ Str.join z (p :: q) from rfl, Str.cps_append, Str.cps_append, Array.toList_append, Array.toList_append, strSub_toList]
theorem replace_rep {x y z : Str} (hy : 1 ≤ y.length) : (Txt.replace x y z).cps.toList = rep y.cps.toList z.cps.toList x.length x.cps.toList := by
  obtain ⟨f, hG, hk⟩ := occ_tight x y hy
  have key := parts_rep (z := z) hy _ 0 f x.length (Nat.zero_le _) (by omega) hG hk
  rw [List.drop_zero] at key
  rw [← key]
  unfold Txt.replace
  split
  · rename_i h
    rw [Bool.or_eq_true, List.isEmpty_iff, Bool.and_eq_true] at h
    rcases h with h | h
    · rw [h, partsFrom, Str.join, sub_whole]
    · have := eq_of_beq h.1; omega
  · rw [glued_eq_join, partsBetween_eq]
theorem rep_bar {y z : List Nat} {b : Nat} (hy : 1 ≤ y.length) (hb : b ∉ y) : ∀ (n : Nat) (l r : List Nat), l.length + 1 + r.length ≤ n → rep y z n (l ++ b :: r) = rep y z n l ++ b :: rep y z n r
  | 0, _, _, h => by omega
  | n + 1, [], r, h => by
    simp only [List.length_nil] at h
    rw [rep_nil, List.nil_append, List.nil_append, rep, if_neg]
    · rw [rep_fuel hy n (n + 1) r (by omega) (by omega)]
    · intro e
      obtain ⟨k, hk⟩ : ∃ k, y.length = k + 1 := ⟨y.length - 1, by omega⟩
      rw [hk, List.take_succ_cons] at e
      exact hb (by rw [← e]; exact .head _)
  | n + 1, c :: l, r, h => by
    rw [List.length_cons] at h
    have htake : ((c :: l) ++ b :: r).take y.length = y ↔ (c :: l).take y.length = y := by
      by_cases hl : y.length ≤ (c :: l).length
      · rw [List.take_append_of_le_length hl]
      · refine ⟨fun e => absurd ?_ hb, fun e => ?_⟩
        · rw [← e]
          refine List.mem_of_getElem? (i := (c :: l).length) ?_
          rw [List.getElem?_take_of_lt (by omega), List.getElem?_append_right (Nat.le_refl _), Nat.sub_self]; rfl
        · have := congrArg List.length e
          rw [List.length_take] at this; omega
    rw [List.cons_append] at htake ⊢
    rw [rep, rep]
    by_cases ht : (c :: l).take y.length = y
    · have hl : y.length ≤ (c :: l).length := by
        have := congrArg List.length ht
        rw [List.length_take] at this; omega
      rw [if_pos ht, if_pos (htake.mpr ht), ← List.cons_append, List.drop_append_of_le_length hl, rep_bar hy hb n _ r (by rw [List.length_drop, List.length_cons]; omega), List.append_assoc]
      rw [rep_fuel hy n (n + 1) r (by omega) (by omega)]
    · rw [if_neg ht, if_neg fun e => ht (htake.mp e), rep_bar hy hb n l r (by omega), rep_fuel hy n (n + 1) r (by omega) (by omega)]
      rfl
noncomputable def bar : Str := Str.ofString "|"
theorem bar_list : bar.cps.toList = [124] := by decide +kernel
theorem replace_bar {a b y z : Str} (hy : 1 ≤ y.length) (hb : (124 : Nat) ∉ y.cps.toList) : Txt.replace (a ++ bar ++ b) y z = Txt.replace a y z ++ bar ++ Txt.replace b y z := by
  have ey : y.cps.toList.length = y.length := by simp [Str.length]
  have ea : a.cps.toList.length = a.length := by simp [Str.length]
  have eb : b.cps.toList.length = b.length := by simp [Str.length]
  have el : (a ++ bar ++ b).length = a.length + 1 + b.length := by rw [Str.length_append, Str.length_append]; rfl
  apply Str.ext'
  apply Array.toList_inj.mp
  rw [replace_rep hy]
  simp only [Str.cps_append, Array.toList_append]
  rw [replace_rep hy, replace_rep hy, bar_list, List.append_assoc, List.singleton_append, el]
  rw [rep_bar (by rw [ey]; exact hy) hb _ _ _ (by rw [ea, eb]; exact Nat.le_refl _), List.append_assoc, List.singleton_append]
  rw [rep_fuel (by rw [ey]; exact hy) (a.length + 1 + b.length) a.length _ (by omega) (by omega), rep_fuel (by rw [ey]; exact hy) (a.length + 1 + b.length) b.length _ (by omega) (by omega)]

end
section
open PySem.Builtin PySem.Builtin.Str PySem.StrLaws
noncomputable def dn (k : Int) : Int := if k > 0 then k - 1 else 0
/-- a function of texts that goes through the bars -/
noncomputable def Thru (f : Str → Str) : Prop := ∀ a b, f (a ++ bar ++ b) = f a ++ bar ++ f b
theorem Thru.comp {f g : Str → Str} (hf : Thru f) (hg : Thru g) : Thru fun x => f (g x) := fun a b => by show f (g _) = _; rw [hg, hf]
theorem thru_replace {y z : Str} (hy : 1 ≤ y.length) (hb : (124 : Nat) ∉ y.cps.toList) : Thru fun x => Txt.replace x y z := fun _ _ => replace_bar hy hb
noncomputable def r1 (x : Str) : Str := Txt.replace x "&" "&amp;"
noncomputable def r2 (x : Str) : Str := Txt.replace (r1 x) ">" "&gt;"
noncomputable def g1 (x : Str) : Str := Txt.replace x "&lt;" "<"
noncomputable def g2 (x : Str) : Str := Txt.replace (g1 x) "&gt;" ">"
theorem thru_r1 : Thru r1 := thru_replace (by decide +kernel) (by decide +kernel)
theorem thru_r2 : Thru r2 := (thru_replace (y := ">") (z := "&gt;") (by decide +kernel) (by decide +kernel)).comp thru_r1
theorem thru_g1 : Thru g1 := thru_replace (by decide +kernel) (by decide +kernel)
theorem thru_g2 : Thru g2 := (thru_replace (y := "&gt;") (z := ">") (by decide +kernel) (by decide +kernel)).comp thru_g1
theorem thru_esc : Thru esc := (thru_replace (y := "<") (z := "&lt;") (by decide +kernel) (by decide +kernel)).comp thru_r2
theorem thru_une : Thru une := (thru_replace (y := "&amp;") (z := "&") (by decide +kernel) (by decide +kernel)).comp thru_g2
theorem Thru.join {f : Str → Str} (hf : Thru f) : ∀ (p : Str) (ps : List Str), f (Str.join bar (p :: ps)) = Str.join bar ((p :: ps).map f)
  | p, [] => rfl
  | p, q :: ps => by
    show f (p ++ bar ++ Str.join bar (q :: ps)) = f p ++ bar ++ Str.join bar ((q :: ps).map f)
    rw [hf, hf.join q ps]
theorem writ_join (c : List (Str × Int)) : writ c = Str.join bar (c.map piece) := glued_eq_join bar _
theorem Thru.writ {f : Str → Str} (hf : Thru f) {c c' : List (Str × Int)} (hc : c ≠ []) (h : c.map (fun p => f (piece p)) = c'.map piece) : f (writ c) = Mine.writ c' := by
  cases c with
  | nil => exact absurd rfl hc
  | cons p c => rw [writ_join, writ_join, List.map_cons, hf.join, ← List.map_cons, List.map_map, ← h]; rfl
theorem Thru.len {f : Str → Str} (hf : Thru f) {c : List (Str × Int)} (hc : c ≠ []) {b : Nat} (h : ∀ p ∈ c, (f (piece p)).length ≤ b) : (f (Mine.writ c)).length ≤ c.length * (b + 1) := by
  cases c with
  | nil => exact absurd rfl hc
  | cons p c =>
    rw [writ_join, List.map_cons, hf.join, ← List.map_cons, List.map_map]
    refine Nat.le_trans (join_length_le _ _) ?_
    have := sum_le (fun p => (f (piece p)).length) b (p :: c) h
    rw [List.map_map, List.length_map]
    have e : bar.length = 1 := by decide +kernel
    rw [e, Nat.mul_one, Nat.mul_succ]
    exact Nat.add_le_add_right this _
theorem pairs20 {P : Str × Int → Prop} {b : Int} (hb : b ≤ 4) (h0 : ∀ s ∈ [("<" : Str), ">", "&", "a"], ∀ k ∈ [(0 : Int), 1, 2, 3, 4], k ≤ b → P (s, k)) : ∀ p, okPair p → p.2 ≤ b → P p := by
  rintro ⟨s, k⟩ ⟨hs, h1, h2⟩ hk
  dsimp only at hs h1 h2 hk
  refine h0 s ?_ k ?_ hk
  · rcases hs with rfl | rfl | rfl | rfl <;> simp
  · have : k = 0 ∨ k = 1 ∨ k = 2 ∨ k = 3 ∨ k = 4 := by omega
    rcases this with rfl | rfl | rfl | rfl | rfl <;> simp
theorem une_piece : ∀ p, okPair p → p.2 ≤ 4 → une (piece p) = piece (p.1, dn p.2) := pairs20 (by decide) (by decide +kernel)
theorem esc_piece : ∀ p, okPair p → p.2 ≤ 3 → esc (piece p) = piece (p.1, p.2 + 1) := pairs20 (by decide) (by decide +kernel)
theorem len_pieces : ∀ p, okPair p → p.2 ≤ 4 → (piece p).length ≤ 100 ∧ (g1 (piece p)).length ≤ 100 ∧ (g2 (piece p)).length ≤ 100 := pairs20 (by decide) (by decide +kernel)
theorem len_pieces' : ∀ p, okPair p → p.2 ≤ 4 → (r1 (piece p)).length ≤ 100 ∧ (r2 (piece p)).length ≤ 100 := pairs20 (by decide) (by decide +kernel)
theorem dn_short : ∀ p, okPair p → p.2 ≤ 4 → (piece (p.1, dn p.2)).length ≤ (piece p).length ∧ (p.1 ≠ "a" → p.2 ≠ 0 → (piece (p.1, dn p.2)).length < (piece p).length) ∧ (p.1 = "a" ∨ p.2 = 0 → piece (p.1, dn p.2) = piece p) := pairs20 (by decide) (by decide +kernel)

end
section
abbrev Gr := List (Str × Int × List Str)
noncomputable def nms (G : Gr) : List Str := G.map (·.1)
theorem ent_none : ∀ {G : Gr} {x : Str}, x ∉ nms G → ent G x = (0, [])
  | [], _, _ => rfl
  | e :: G, x, h => by
    have h1 : ¬ e.1 = x := fun q => h (by rw [← q]; exact .head _)
    rw [ent, if_neg h1]
    exact ent_none fun q => h (.tail _ q)
theorem ent_of_mem : ∀ {G : Gr}, (nms G).Nodup → ∀ {e : Str × Int × List Str}, e ∈ G → ent G e.1 = e.2
  | c :: G, hn, e, he => by
    have hn' := List.nodup_cons.mp hn
    rcases List.mem_cons.mp he with rfl | he
    · rw [ent, if_pos rfl]
    · rw [ent, if_neg fun q => hn'.1 (List.mem_map.mpr ⟨e, he, q.symm⟩)]
      exact ent_of_mem hn'.2 he
theorem ent_map {f : Str × Int × List Str → Str × Int × List Str} (hf : ∀ e, (f e).1 = e.1) : ∀ {G : Gr} {x : Str}, x ∈ nms G → ent (G.map f) x = (f (x, ent G x)).2
  | e :: G, x, h => by
    rw [List.map_cons, ent, ent, hf]
    by_cases q : e.1 = x
    · rw [if_pos q, if_pos q, ← q]
    · rw [if_neg q, if_neg q]
      exact ent_map hf (by rcases List.mem_cons.mp h with h | h; exact absurd h.symm q; exact h)
theorem nms_map {f : Str × Int × List Str → Str × Int × List Str} (hf : ∀ e, (f e).1 = e.1) (G : Gr) : nms (G.map f) = nms G := by
  unfold nms; rw [List.map_map]; exact List.map_congr_left fun e _ => hf e
theorem ent_app : ∀ {G H : Gr} {x : Str}, ent (G ++ H) x = if x ∈ nms G then ent G x else ent H x
  | [], H, x => rfl
  | e :: G, H, x => by
    rw [List.cons_append, ent, ent, ent_app]
    by_cases q : e.1 = x
    · rw [if_pos q, if_pos q, if_pos (by rw [← q]; exact .head _)]
    · rw [if_neg q, if_neg q]
      by_cases h : x ∈ nms G
      · rw [if_pos h, if_pos (show x ∈ nms (e :: G) from List.mem_cons_of_mem _ h)]
      · rw [if_neg h, if_neg (show ¬ x ∈ nms (e :: G) from fun h' => (List.mem_cons.mp h').elim (fun e' => q e'.symm) h)]
theorem ent_ensure {G : Gr} {a x : Str} : ent (ensure G a) x = ent G x := by
  unfold ensure
  split
  · rfl
  · rw [ent_app]
    by_cases h : x ∈ nms G
    · rw [if_pos h]
    · rw [if_neg h, ent_none h, ent]
      split <;> rfl
theorem mem_ensure {G : Gr} {a x : Str} : x ∈ nms (ensure G a) ↔ x ∈ nms G ∨ x = a := by
  unfold ensure
  split
  · rename_i h; exact ⟨.inl, fun h' => h'.elim id fun e => e ▸ h⟩
  · unfold nms; rw [List.map_append, List.mem_append]; simp
theorem nodup_ensure {G : Gr} {a : Str} (h : (nms G).Nodup) : (nms (ensure G a)).Nodup := by
  unfold ensure
  split
  · exact h
  · rename_i ha
    unfold nms at h ⊢
    rw [List.map_append, List.nodup_append]
    exact ⟨h, by simp, fun x hx y hy e => ha (by simp at hy; rw [← hy, ← e]; exact hx)⟩
theorem bump_id (k : Int) (a : Str) (e : Str × Int × List Str) : (if e.1 = a then (e.1, e.2.1 + k, e.2.2) else e).1 = e.1 := by split <;> rfl
theorem push_id (c a : Str) (e : Str × Int × List Str) : (if e.1 = c then (e.1, e.2.1, e.2.2 ++ [a]) else e).1 = e.1 := by split <;> rfl
theorem set_id (k : Int) (a : Str) (e : Str × Int × List Str) : (if e.1 = a then (e.1, k, e.2.2) else e).1 = e.1 := by split <;> rfl
theorem nms_bump (G : Gr) (a k) : nms (bump G a k) = nms G := nms_map (bump_id k a) G
theorem nms_push (G : Gr) (c a) : nms (pushS G c a) = nms G := nms_map (push_id c a) G
theorem nms_set (G : Gr) (a k) : nms (setNp G a k) = nms G := nms_map (set_id k a) G
theorem ent_bump {G : Gr} {a x : Str} {k : Int} (hx : x ∈ nms G) : ent (bump G a k) x = ((ent G x).1 + (if x = a then k else 0), (ent G x).2) := by
  unfold bump
  rw [ent_map (bump_id k a) hx]
  dsimp only
  by_cases h : x = a
  · rw [if_pos h, if_pos h]
  · rw [if_neg h, if_neg h, Int.add_zero]
theorem ent_push {G : Gr} {c a x : Str} (hx : x ∈ nms G) : ent (pushS G c a) x = ((ent G x).1, (ent G x).2 ++ (if x = c then [a] else [])) := by
  unfold pushS
  rw [ent_map (push_id c a) hx]
  dsimp only
  by_cases h : x = c
  · rw [if_pos h, if_pos h]
  · rw [if_neg h, if_neg h, List.append_nil]
theorem ent_set {G : Gr} {a x : Str} {k : Int} (hx : x ∈ nms G) : ent (setNp G a k) x = (if x = a then k else (ent G x).1, (ent G x).2) := by
  unfold setNp
  rw [ent_map (set_id k a) hx]
  dsimp only
  by_cases h : x = a
  · rw [if_pos h, if_pos h]
  · rw [if_neg h, if_neg h]
theorem mem_addE {G : Gr} {a c x : Str} : x ∈ nms (addE G a c) ↔ x ∈ nms G ∨ x = a ∨ x = c := by
  unfold addE
  rw [nms_push, mem_ensure, nms_bump, mem_ensure, or_assoc]
theorem ent_addE {G : Gr} {a c x : Str} (hx : x ∈ nms G ∨ x = a ∨ x = c) : ent (addE G a c) x = ((ent G x).1 + (if x = a then 1 else 0), (ent G x).2 ++ (if x = c then [a] else [])) := by
  unfold addE
  rw [ent_push (by rw [mem_ensure, nms_bump, mem_ensure, or_assoc]; exact hx), ent_ensure]
  by_cases h : x ∈ nms (ensure G a)
  · rw [ent_bump h, ent_ensure]
  · rw [ent_none (by rw [nms_bump]; exact h)]
    have h' := fun q => h (mem_ensure.mpr q)
    rw [ent_none fun q => h' (.inl q), if_neg fun q => h' (.inr q)]
    rfl
theorem mem_addL {G : Gr} {a x : Str} : x ∈ nms (addL G a) ↔ x ∈ nms G ∨ x = a := by
  unfold addL
  rw [nms_bump, mem_ensure]
theorem ent_addL {G : Gr} {a x : Str} (hx : x ∈ nms G ∨ x = a) : ent (addL G a) x = ent G x := by
  unfold addL
  rw [ent_bump (mem_ensure.mpr hx), ent_ensure]
  split <;> simp
/-- a graph in which every text waits on what unescape makes of it -/
structure Good (G : Gr) : Prop where
  nd : (nms G).Nodup
  np : ∀ x ∈ nms G, (ent G x).1 = ((ent G (une x)).2.count x : Nat)
  su : ∀ x, ∀ c ∈ (ent G x).2, c ∈ nms G ∧ une c = x ∧ c ≠ x
noncomputable def ClosedBut (G : Gr) (P : Str → Prop) : Prop := ∀ x ∈ nms G, ¬ P x → une x ≠ x → x ∈ (ent G (une x)).2
theorem good_addE {G : Gr} {a : Str} (h : Good G) (ha : une a ≠ a) : Good (addE G a (une a)) := by
  refine ⟨?_, fun x hx => ?_, fun x c hc => ?_⟩
  · unfold addE
    rw [nms_push]
    refine nodup_ensure ?_
    rw [nms_bump]
    exact nodup_ensure h.nd
  · have hx' := mem_addE.mp hx
    have np' : (ent G x).1 = ((ent G (une x)).2.count x : Nat) := by
      by_cases q : x ∈ nms G
      · exact h.np x q
      · rw [ent_none q, List.count_eq_zero_of_not_mem fun q' => q (h.su _ _ q').1]; rfl
    have key : (ent (addE G a (une a)) (une x)).2 = (ent G (une x)).2 ++ (if une x = une a then [a] else []) := by
      by_cases q : une x ∈ nms G ∨ une x = a ∨ une x = une a
      · rw [ent_addE q]
      · rw [ent_none fun q' => q (mem_addE.mp q'), ent_none fun q' => q (.inl q'), if_neg fun q' => q (.inr (.inr q'))]; rfl
    rw [key, ent_addE hx', List.count_append, np']
    dsimp only
    by_cases q : x = a
    · subst q
      rw [if_pos rfl, if_pos rfl]; simp
    · rw [if_neg q]
      split
      · rw [List.count_eq_zero_of_not_mem (l := [a]) (by simpa using q)]; simp
      · simp
  · by_cases q : x ∈ nms G ∨ x = a ∨ x = une a
    · rw [ent_addE q] at hc
      rcases List.mem_append.mp hc with hc | hc
      · obtain ⟨h1, h2, h3⟩ := h.su x c hc
        exact ⟨mem_addE.mpr (.inl h1), h2, h3⟩
      · split at hc
        · rename_i e
          rw [List.mem_singleton.mp hc]
          exact ⟨mem_addE.mpr (.inr (.inl rfl)), e.symm, fun q => ha (by rw [← e, ← q])⟩
        · nomatch hc
    · rw [ent_none fun q' => q (mem_addE.mp q')] at hc
      nomatch hc
theorem good_addL {G : Gr} {a : Str} (h : Good G) : Good (addL G a) := by
  have e : ∀ x, ent (addL G a) x = ent G x := fun x => by
    by_cases q : x ∈ nms G ∨ x = a
    · exact ent_addL q
    · rw [ent_none fun q' => q (mem_addL.mp q'), ent_none fun q' => q (.inl q')]
  refine ⟨?_, fun x hx => ?_, fun x c hc => ?_⟩
  · unfold addL
    rw [nms_bump]
    exact nodup_ensure h.nd
  · rw [e, e]
    by_cases q : x ∈ nms G
    · exact h.np x q
    · rw [ent_none q, List.count_eq_zero_of_not_mem fun q' => q (h.su _ _ q').1]; rfl
  · rw [e] at hc
    obtain ⟨h1, h2, h3⟩ := h.su x c hc
    exact ⟨mem_addL.mpr (.inl h1), h2, h3⟩
theorem closed_addE {G : Gr} {a : Str} (h : ClosedBut G (· = a)) (ha : une a ≠ a) : ClosedBut (addE G a (une a)) (· = une a) := by
  intro x hx hne hu
  have q : une x ∈ nms G ∨ une x = a ∨ une x = une a ∨ ¬ (une x ∈ nms G ∨ une x = a ∨ une x = une a) := by
    by_cases q : une x ∈ nms G ∨ une x = a ∨ une x = une a
    · rcases q with q | q | q
      · exact .inl q
      · exact .inr (.inl q)
      · exact .inr (.inr (.inl q))
    · exact .inr (.inr (.inr q))
  have key : (ent (addE G a (une a)) (une x)).2 = (ent G (une x)).2 ++ (if une x = une a then [a] else []) := by
    by_cases q : une x ∈ nms G ∨ une x = a ∨ une x = une a
    · rw [ent_addE q]
    · rw [ent_none fun q' => q (mem_addE.mp q'), ent_none fun q' => q (.inl q'), if_neg fun q' => q (.inr (.inr q'))]; rfl
  rw [key]
  by_cases e : x = a
  · rw [e, if_pos rfl]; simp
  · have hx' : x ∈ nms G := by
      rcases mem_addE.mp hx with h' | h' | h'
      · exact h'
      · exact absurd h' e
      · exact absurd h' hne
    exact List.mem_append_left _ (h x hx' e hu)
theorem closed_addL {G : Gr} {a : Str} (h : ClosedBut G (· = a)) (ha : une a = a) : ClosedBut (addL G a) (fun _ => False) := by
  intro x hx _ hu
  by_cases e : x = a
  · rw [e] at hu; exact absurd ha hu
  · have hx' : x ∈ nms G := (mem_addL.mp hx).elim id fun q => absurd q e
    have := h x hx' e hu
    by_cases q : une x ∈ nms G ∨ une x = a
    · rwa [ent_addL q]
    · rw [ent_none fun q' => q (.inl q')] at this; nomatch this
theorem itr_comm (f : Str → Str) : ∀ (n : Nat) (x : Str), itr f (n + 1) x = itr f n (f x)
  | 0, _ => rfl
  | n + 1, x => by rw [itr, itr_comm f n x]; rfl
theorem chain_facts : ∀ (n : Nat) (G : Gr) (x : Str), Good G → ClosedBut G (· = x) →
    Good (chainAdd n G x) ∧ ClosedBut (chainAdd n G x) (· = chainEnd n x) ∧ ∀ y, (y ∈ nms (chainAdd n G x) ∨ y = chainEnd n x) ↔ (y ∈ nms G ∨ ∃ i, i ≤ n ∧ y = itr une i x)
  | 0, G, x, hg, hc => ⟨hg, hc, fun y => by
    refine or_congr Iff.rfl ⟨fun e => ⟨0, Nat.le_refl _, e⟩, ?_⟩
    rintro ⟨i, hi, e⟩
    obtain rfl : i = 0 := by omega
    exact e⟩
  | n + 1, G, x, hg, hc => by
    rw [chainAdd, chainEnd]
    by_cases h : une x = x
    · rw [if_pos h, if_pos h]
      refine ⟨hg, hc, fun y => or_congr Iff.rfl ⟨fun e => ⟨0, Nat.zero_le _, e⟩, ?_⟩⟩
      rintro ⟨i, _, e⟩
      rw [e]
      have key : ∀ i, itr une i x = x := fun i => by
        induction i with
        | zero => rfl
        | succ i ih => rw [itr_comm, h]; exact ih
      exact key i
    · rw [if_neg h, if_neg h]
      obtain ⟨h1, h2, h3⟩ := chain_facts n _ _ (good_addE hg h) (closed_addE hc h)
      refine ⟨h1, h2, fun y => (h3 y).trans ?_⟩
      rw [mem_addE]
      constructor
      · rintro ((h' | h' | h') | ⟨i, hi, e⟩)
        · exact .inl h'
        · exact .inr ⟨0, Nat.zero_le _, h'⟩
        · exact .inr ⟨1, by omega, h'⟩
        · exact .inr ⟨i + 1, by omega, by rw [itr_comm]; exact e⟩
      · rintro (h' | ⟨i, hi, e⟩)
        · exact .inl (.inl h')
        · cases i with
          | zero => exact .inl (.inr (.inl e))
          | succ i => exact .inr ⟨i, by omega, by rw [← itr_comm]; exact e⟩
theorem chainEnd_eq : ∀ (n : Nat) (x : Str), une (itr une n x) = itr une n x → une (chainEnd n x) = chainEnd n x
  | 0, _, h => h
  | n + 1, x, h => by
    rw [chainEnd]
    by_cases q : une x = x
    · rw [if_pos q]; exact q
    · rw [if_neg q]
      exact chainEnd_eq n (une x) (by rw [← itr_comm]; exact h)
theorem full_facts {rk : Str → Nat} {G : Gr} {x : Str} {k : Nat} (hg : Good G) (hc : ClosedBut G (fun _ => False)) (hend : une (itr une (rk (itr esc k x)) (itr esc k x)) = itr une (rk (itr esc k x)) (itr esc k x)) :
    Good (fullAdd rk G x k) ∧ ClosedBut (fullAdd rk G x k) (fun _ => False) ∧ ∀ y, y ∈ nms (fullAdd rk G x k) ↔ (y ∈ nms G ∨ ∃ i, i ≤ rk (itr esc k x) ∧ y = itr une i (itr esc k x)) := by
  obtain ⟨h1, h2, h3⟩ := chain_facts (rk (itr esc k x)) G (itr esc k x) hg fun y hy _ hu => hc y hy (fun h => h) hu
  exact ⟨good_addL h1, closed_addL h2 (chainEnd_eq _ _ hend), fun y => mem_addL.trans (h3 y)⟩

end
section
structure Stt (G0 : Gr) (P : Str → Int) (G : Gr) : Prop where
  nm : nms G = nms G0
  en : ∀ x ∈ nms G0, ent G x = (P x, (ent G0 x).2)
theorem Stt.set {G0 G : Gr} {P : Str → Int} (h : Stt G0 P G) (a : Str) (k : Int) : Stt G0 (fun x => if x = a then k else P x) (setNp G a k) := by
  refine ⟨(nms_set G a k).trans h.nm, fun x hx => ?_⟩
  rw [ent_set (by rw [h.nm]; exact hx), h.en x hx]
theorem Stt.congr {G0 G : Gr} {P P' : Str → Int} (h : Stt G0 P G) (e : ∀ x ∈ nms G0, P x = P' x) : Stt G0 P' G := ⟨h.nm, fun x hx => by rw [h.en x hx, e x hx]⟩
theorem count_cons' (x b : Str) (l : List Str) : ((b :: l).count x : Int) = l.count x + if x = b then 1 else 0 := by
  rw [List.count_cons]
  by_cases h : x = b
  · subst h; simp
  · rw [if_neg h, if_neg (by simpa using fun e => h e.symm)]; simp
theorem decr_fold {G0 : Gr} : ∀ (l : List Str) (G : Gr) (out : List Str) (P : Str → Int), Stt G0 P G → (∀ b ∈ l, b ∈ nms G0) → (∀ x ∈ l, (l.count x : Int) ≤ P x) →
    ∃ new, (l.foldl decr (G, out)).2 = out ++ new ∧ new.Nodup ∧ (∀ x, x ∈ new ↔ x ∈ l ∧ P x = (l.count x : Int)) ∧ Stt G0 (fun x => P x - (l.count x : Int)) (l.foldl decr (G, out)).1
  | [], G, out, P, h, _, _ => ⟨[], by simp, List.nodup_nil, fun x => by simp, h.congr fun x _ => by simp⟩
  | b :: l, G, out, P, h, hb, hc => by
    have hbn := hb b (.head _)
    have e1 : decr (G, out) b = (setNp G b (P b - 1), if P b - 1 = 0 then out ++ [b] else out) := by
      unfold decr
      rw [h.en b hbn]
    have hcb := hc b (.head _)
    rw [count_cons', if_pos rfl] at hcb
    have hc' : ∀ x ∈ l, (l.count x : Int) ≤ (if x = b then P b - 1 else P x) := fun x hx => by
      have := hc x (.tail _ hx)
      rw [count_cons'] at this
      by_cases q : x = b
      · subst q; rw [if_pos rfl] at this ⊢; omega
      · rw [if_neg q] at this ⊢; omega
    rw [List.foldl_cons, e1]
    obtain ⟨new, n1, n2, n3, n4⟩ := decr_fold l _ (if P b - 1 = 0 then out ++ [b] else out) _ (h.set b (P b - 1)) (fun x hx => hb x (.tail _ hx)) hc'
    have hS : Stt G0 (fun x => P x - ((b :: l).count x : Int)) (l.foldl decr (setNp G b (P b - 1), if P b - 1 = 0 then out ++ [b] else out)).1 := n4.congr fun x _ => by
      rw [count_cons']
      by_cases q : x = b
      · subst q; rw [if_pos rfl, if_pos rfl]; omega
      · rw [if_neg q, if_neg q]; omega
    by_cases hz : P b - 1 = 0
    · have hbl : b ∉ l := fun hm => by
        have : 0 < l.count b := List.count_pos_iff.mpr hm
        omega
      have hb0 : l.count b = 0 := List.count_eq_zero_of_not_mem hbl
      refine ⟨b :: new, ?_, List.nodup_cons.mpr ⟨fun hm => hbl ((n3 b).mp hm).1, n2⟩, fun x => ?_, hS⟩
      · rw [n1, if_pos hz, List.append_assoc]; rfl
      · rw [List.mem_cons, List.mem_cons, n3, count_cons']
        by_cases q : x = b
        · subst q
          simp only [true_or, true_and, if_true]
          exact ⟨fun _ => by omega, fun _ => trivial⟩
        · simp only [q, false_or, if_false, Int.add_zero]
    · refine ⟨new, ?_, n2, fun x => ?_, hS⟩
      · rw [n1, if_neg hz]
      · rw [List.mem_cons, n3, count_cons']
        by_cases q : x = b
        · subst q
          simp only [true_or, true_and, if_true]
          constructor
          · rintro ⟨_, h2⟩; omega
          · intro h2
            refine ⟨?_, by omega⟩
            by_cases hm : x ∈ l
            · exact hm
            · have := List.count_eq_zero_of_not_mem hm; omega
        · simp only [q, false_or, if_false, Int.add_zero]
/-- the depths fit the graph -/
structure Ranked (G0 : Gr) (rk : Str → Nat) : Prop where
  good : Good G0
  closed : ClosedBut G0 (fun _ => False)
  zero : ∀ x ∈ nms G0, une x = x → rk x = 0
  step : ∀ x ∈ nms G0, une x ≠ x → rk (une x) + 1 = rk x
  few : (nms G0).length < 64
section
variable {G0 : Gr} {rk : Str → Nat}
theorem Ranked.in_succ (R : Ranked G0 rk) {a x : Str} : x ∈ (ent G0 a).2 ↔ x ∈ nms G0 ∧ une x = a ∧ x ≠ a := by
  refine ⟨fun h => R.good.su a x h, ?_⟩
  rintro ⟨h1, rfl, h3⟩
  exact R.closed x h1 (fun h => h) fun e => h3 e.symm
theorem Ranked.par (R : Ranked G0 rk) {x : Str} (hx : x ∈ nms G0) (hu : une x ≠ x) : une x ∈ nms G0 := by
  have := R.closed x hx (fun h => h) hu
  by_cases q : une x ∈ nms G0
  · exact q
  · rw [ent_none q] at this; nomatch this
theorem Ranked.rank_succ (R : Ranked G0 rk) {a x : Str} (h : x ∈ (ent G0 a).2) : rk x = rk a + 1 := by
  obtain ⟨h1, h2, h3⟩ := R.in_succ.mp h
  have := R.step x h1 (by rw [h2]; exact fun e => h3 e.symm)
  rw [h2] at this; exact this.symm
theorem Ranked.np_zero (R : Ranked G0 rk) {x : Str} (hx : x ∈ nms G0) : (ent G0 x).1 = 0 ↔ rk x = 0 := by
  rw [R.good.np x hx]
  by_cases h : une x = x
  · have hm : x ∉ (ent G0 (une x)).2 := fun hm => (R.good.su _ x hm).2.2 h.symm
    rw [List.count_eq_zero_of_not_mem hm]
    exact ⟨fun _ => R.zero x hx h, fun _ => rfl⟩
  · have hm := R.closed x hx (fun h => h) h
    have h1 : 0 < (ent G0 (une x)).2.count x := List.count_pos_iff.mpr hm
    have h2 := R.step x hx h
    constructor
    · intro e; omega
    · intro e; omega
/-- the counts once the texts q of the round d are done -/
noncomputable def pQ (G0 : Gr) (rk : Str → Nat) (d : Nat) (q : List Str) (x : Str) : Int :=
  if rk x < d then -2 else if rk x = d then (if x ∈ q then -2 else -1) else if rk x = d + 1 ∧ une x ∈ q then 0 else (ent G0 x).1
theorem done_one (R : Ranked G0 rk) {d : Nat} {q : List Str} {G : Gr} {out : List Str} {a : Str} (hS : Stt G0 (pQ G0 rk d q) G) (ha : a ∈ nms G0) (had : rk a = d) (haq : a ∉ q)
    (hn : out.Nodup) (ho : ∀ x, x ∈ out ↔ x ∈ nms G0 ∧ rk x = d + 1 ∧ une x ∈ q) :
    Stt G0 (pQ G0 rk d (q ++ [a])) (doneOne (G, out) a).1 ∧ (doneOne (G, out) a).2.Nodup ∧ ∀ x, x ∈ (doneOne (G, out) a).2 ↔ x ∈ nms G0 ∧ rk x = d + 1 ∧ une x ∈ q ++ [a] := by
  have e1 : doneOne (G, out) a = (ent G0 a).2.foldl decr (setNp G a (-2), out) := by unfold doneOne; rw [hS.en a ha]
  have hP : ∀ x ∈ (ent G0 a).2, (if x = a then (-2 : Int) else pQ G0 rk d q x) = ((ent G0 a).2.count x : Nat) := fun x hx => by
    obtain ⟨h1, h2, h3⟩ := R.in_succ.mp hx
    have h4 := R.rank_succ hx
    rw [if_neg h3]
    unfold pQ
    rw [if_neg (by omega), if_neg (by omega), if_neg (by rw [h2]; exact fun h => haq h.2), R.good.np x h1, h2]
  obtain ⟨new, n1, n2, n3, n4⟩ := decr_fold (ent G0 a).2 (setNp G a (-2)) out _ (hS.set a (-2)) (fun b hb => (R.in_succ.mp hb).1) (fun x hx => Int.le_of_eq (hP x hx).symm)
  rw [e1]
  have hnew : ∀ x, x ∈ new ↔ x ∈ (ent G0 a).2 := fun x => (n3 x).trans ⟨fun h => h.1, fun h => ⟨h, hP x h⟩⟩
  refine ⟨n4.congr fun x hx => ?_, ?_, fun x => ?_⟩
  · by_cases hxa : x = a
    · subst hxa
      rw [if_pos rfl, List.count_eq_zero_of_not_mem fun hm => (R.in_succ.mp hm).2.2 rfl]
      unfold pQ
      rw [if_neg (by omega), if_pos had, if_pos (by simp)]; rfl
    · by_cases hs : x ∈ (ent G0 a).2
      · have h4 := R.rank_succ hs
        rw [hP x hs]
        unfold pQ
        rw [if_neg (by omega), if_neg (by omega), if_pos ⟨by omega, by rw [(R.in_succ.mp hs).2.1]; simp⟩, Int.sub_self]
      · rw [if_neg hxa, List.count_eq_zero_of_not_mem hs]
        have h5 : (une x ∈ q ++ [a] ∧ rk x = d + 1) ↔ (une x ∈ q ∧ rk x = d + 1) := by
          rw [List.mem_append, List.mem_singleton]
          constructor
          · rintro ⟨h | h, h6⟩
            · exact ⟨h, h6⟩
            · exact absurd (R.in_succ.mpr ⟨hx, h, hxa⟩) hs
          · rintro ⟨h, h6⟩; exact ⟨.inl h, h6⟩
        have h7 : x ∈ q ++ [a] ↔ x ∈ q := by rw [List.mem_append, List.mem_singleton]; exact ⟨fun h => h.elim id fun e => absurd e hxa, .inl⟩
        unfold pQ
        rw [and_comm] at h5
        rw [and_comm (a := une x ∈ q)] at h5
        simp only [h5, h7]
        simp
  · rw [n1, List.nodup_append]
    exact ⟨hn, n2, fun x hx y hy e => haq (by
      have h1 := ((ho x).mp hx).2.2
      have h2 := (R.in_succ.mp ((hnew y).mp hy)).2.1
      rw [← h2, ← e]; exact h1)⟩
  · rw [n1, List.mem_append, ho, hnew, List.mem_append, List.mem_singleton]
    constructor
    · rintro (⟨h1, h2, h3⟩ | h)
      · exact ⟨h1, h2, .inl h3⟩
      · exact ⟨(R.in_succ.mp h).1, by rw [R.rank_succ h, had], .inr (R.in_succ.mp h).2.1⟩
    · rintro ⟨h1, h2, h3 | h3⟩
      · exact .inl ⟨h1, h2, h3⟩
      · refine .inr (R.in_succ.mpr ⟨h1, h3, fun e => ?_⟩)
        rw [e] at h2; omega
theorem done_all (R : Ranked G0 rk) {d : Nat} : ∀ (l q : List Str) (G : Gr) (out : List Str), Stt G0 (pQ G0 rk d q) G → (∀ a ∈ l, a ∈ nms G0 ∧ rk a = d) → (q ++ l).Nodup → out.Nodup → (∀ x, x ∈ out ↔ x ∈ nms G0 ∧ rk x = d + 1 ∧ une x ∈ q) →
    Stt G0 (pQ G0 rk d (q ++ l)) (doneAll (G, out) l).1 ∧ (doneAll (G, out) l).2.Nodup ∧ ∀ x, x ∈ (doneAll (G, out) l).2 ↔ x ∈ nms G0 ∧ rk x = d + 1 ∧ une x ∈ q ++ l
  | [], q, G, out, hS, _, _, hn, ho => by rw [List.append_nil]; exact ⟨hS, hn, ho⟩
  | a :: l, q, G, out, hS, hl, hq, hn, ho => by
    have haq : a ∉ q := fun h => (List.nodup_append.mp hq).2.2 a h a (.head _) rfl
    obtain ⟨h1, h2, h3⟩ := done_one R hS (hl a (.head _)).1 (hl a (.head _)).2 haq hn ho
    have e : q ++ a :: l = (q ++ [a]) ++ l := by simp
    rw [e] at hq ⊢
    exact done_all R l (q ++ [a]) _ _ h1 (fun b hb => hl b (.tail _ hb)) hq h2 h3
/-- the state at round d -/
structure At_ (G0 : Gr) (rk : Str → Nat) (d : Nat) (st : Gr × List Str) : Prop where
  stt : Stt G0 (fun x => if rk x < d then -2 else if rk x = d then 0 else (ent G0 x).1) st.1
  nd : st.2.Nodup
  mem : ∀ x, x ∈ st.2 ↔ x ∈ nms G0 ∧ rk x = d
theorem ready_fold {P : Str → Int} : ∀ (l : List Str) (G : Gr) (P : Str → Int), Stt G0 P G → Stt G0 (fun x => if x ∈ l then -1 else P x) (l.foldl (fun G a => setNp G a (-1)) G)
  | [], G, P, h => h.congr fun x _ => by simp
  | a :: l, G, P, h => by
    rw [List.foldl_cons]
    refine (ready_fold (P := P) l _ _ (h.set a (-1))).congr fun x _ => ?_
    by_cases h1 : x ∈ l
    · simp [h1]
    · by_cases h2 : x = a
      · simp [h2]
      · simp [h1, h2]
theorem ready_at (R : Ranked G0 rk) {d : Nat} {st : Gr × List Str} (h : At_ G0 rk d st) : Stt G0 (pQ G0 rk d []) (readyG st) := by
  refine (ready_fold (P := fun _ => 0) st.2 st.1 _ h.stt).congr fun x hx => ?_
  unfold pQ
  by_cases h1 : rk x = d
  · rw [if_pos ((h.mem x).mpr ⟨hx, h1⟩), if_neg (by omega), if_pos h1]; simp
  · rw [if_neg fun q => h1 ((h.mem x).mp q).2, if_neg h1, if_neg h1]; simp
theorem step_at (R : Ranked G0 rk) {d : Nat} {st : Gr × List Str} (h : At_ G0 rk d st) : At_ G0 rk (d + 1) (kstep st) := by
  obtain ⟨h1, h2, h3⟩ := done_all R st.2 [] (readyG st) [] (ready_at R h) (fun a ha => (h.mem a).mp ha) (by simpa using h.nd) List.nodup_nil (fun x => by simp)
  rw [List.nil_append] at h1 h3
  have hp : ∀ x, x ∈ nms G0 → rk x = d + 1 → une x ∈ st.2 := fun x hx hr => by
    by_cases hu : une x = x
    · have := R.zero x hx hu; omega
    · have := R.step x hx hu
      exact (h.mem _).mpr ⟨R.par hx hu, by omega⟩
  refine ⟨h1.congr fun x hx => ?_, h2, fun x => (h3 x).trans ⟨fun q => ⟨q.1, q.2.1⟩, fun q => ⟨q.1, q.2, hp x q.1 q.2⟩⟩⟩
  unfold pQ
  by_cases c1 : rk x < d
  · rw [if_pos c1, if_pos (by omega)]
  · by_cases c2 : rk x = d
    · rw [if_neg c1, if_pos c2, if_pos ((h.mem x).mpr ⟨hx, c2⟩), if_pos (by omega)]
    · by_cases c3 : rk x = d + 1
      · rw [if_neg c1, if_neg c2, if_pos ⟨c3, hp x hx c3⟩, if_neg (by omega), if_pos c3]
      · rw [if_neg c1, if_neg c2, if_neg fun q => c3 q.1, if_neg (by omega), if_neg c3]
theorem At_.few (R : Ranked G0 rk) {d : Nat} {st : Gr × List Str} (h : At_ G0 rk d st) : st.2.length < 64 :=
  Nat.lt_of_le_of_lt (nodup_le h.nd fun x hx => ((h.mem x).mp hx).1) R.few
theorem stepOk_at (R : Ranked G0 rk) {d : Nat} {st : Gr × List Str} (h : At_ G0 rk d st) : StepOk st := by
  refine ⟨fun a ha => by rw [show st.1.map (·.1) = nms G0 from h.stt.nm]; exact ((h.mem a).mp ha).1, fun e he c hc => ?_, fun i a ha => ?_, (step_at R h).few R, h.few R⟩
  · have he1 : e.1 ∈ nms G0 := by rw [← h.stt.nm]; exact List.mem_map_of_mem he
    have := ent_of_mem (by rw [h.stt.nm]; exact R.good.nd) he
    rw [h.stt.en e.1 he1] at this
    have hc' : c ∈ (ent G0 e.1).2 := by rw [← this] at hc; exact hc
    rw [show st.1.map (·.1) = nms G0 from h.stt.nm]
    exact ⟨(R.in_succ.mp hc').1, (R.in_succ.mp hc').2.2⟩
  · obtain ⟨h1, _, _⟩ := done_all R (st.2.take i) [] (readyG st) [] (ready_at R h) (fun a ha => (h.mem a).mp (List.mem_of_mem_take ha)) (by simpa using h.nd.sublist (List.take_sublist i st.2)) List.nodup_nil (fun x => by simp)
    rw [List.nil_append] at h1
    have ham := (h.mem a).mp (List.mem_of_getElem? ha)
    rw [h1.en a ham.1]
    unfold pQ
    rw [if_neg (by omega), if_pos ham.2, if_neg]
    intro hm
    obtain ⟨j, hj⟩ := List.getElem?_of_mem hm
    have hji : j < i := by
      have := (List.getElem?_eq_some_iff.mp hj).1
      rw [List.length_take] at this; omega
    rw [List.getElem?_take_of_lt hji] at hj
    have := (List.getElem?_inj (i := j) (j := i) (List.getElem?_eq_some_iff.mp hj).1 h.nd).mp (hj.trans ha.symm)
    omega
theorem init_at (R : Ranked G0 rk) : At_ G0 rk 0 (kinit G0) := by
  have hent : ∀ e ∈ G0, e.2 = ent G0 e.1 := fun e he => (ent_of_mem R.good.nd he).symm
  refine ⟨⟨rfl, fun x hx => ?_⟩, ?_, fun x => ?_⟩
  · rw [if_neg (Nat.not_lt_zero _)]
    by_cases h : rk x = 0
    · rw [if_pos h, ← (R.np_zero hx).mpr h]; rfl
    · rw [if_neg h]; rfl
  · exact R.good.nd.sublist (List.Sublist.map _ List.filter_sublist)
  · show x ∈ (G0.filter fun e => decide (e.2.1 = 0)).map (·.1) ↔ _
    rw [List.mem_map]
    constructor
    · rintro ⟨e, he, rfl⟩
      obtain ⟨h1, h2⟩ := List.mem_filter.mp he
      have hn : e.1 ∈ nms G0 := List.mem_map_of_mem h1
      refine ⟨hn, (R.np_zero hn).mp ?_⟩
      rw [← hent e h1]; exact of_decide_eq_true h2
    · rintro ⟨hn, hr⟩
      obtain ⟨e, he, rfl⟩ := List.mem_map.mp hn
      exact ⟨e, List.mem_filter.mpr ⟨he, decide_eq_true (by rw [hent e he]; exact (R.np_zero hn).mpr hr)⟩, rfl⟩
theorem runOk_at (R : Ranked G0 rk) : ∀ (n d : Nat) (st : Gr × List Str), At_ G0 rk d st → (∀ x ∈ nms G0, rk x < d + n) → RunOk n st
  | 0, d, st, h, hn => by
    show st.2 = []
    refine List.eq_nil_iff_forall_not_mem.mpr fun x hx => ?_
    have := (h.mem x).mp hx
    have := hn x this.1
    omega
  | n + 1, d, st, h, hn => .inr ⟨stepOk_at R h, runOk_at R n (d + 1) _ (step_at R h) fun x hx => by have := hn x hx; omega⟩
/-- levels by depth -/
structure Levels (K : List (List Str)) (rk : Str → Nat) (N : Str → Prop) (d : Nat) : Prop where
  len : ∀ j, j < K.length ↔ ∃ x, N x ∧ d + j ≤ rk x
  at_ : ∀ j r, K[j]? = some r → r.Nodup ∧ ∀ x, x ∈ r ↔ N x ∧ rk x = d + j
theorem Ranked.down (R : Ranked G0 rk) : ∀ (k : Nat) (x : Str), x ∈ nms G0 → k ≤ rk x → ∃ y ∈ nms G0, rk y + k = rk x
  | 0, x, hx, _ => ⟨x, hx, rfl⟩
  | k + 1, x, hx, hk => by
    obtain ⟨y, hy, e⟩ := R.down k x hx (by omega)
    have hu : une y ≠ y := fun q => by have := R.zero y hy q; omega
    exact ⟨une y, R.par hy hu, by have := R.step y hy hu; omega⟩
theorem levels_at (R : Ranked G0 rk) : ∀ (n d : Nat) (st : Gr × List Str), At_ G0 rk d st → (∀ x ∈ nms G0, rk x < d + n) → Levels (krounds n st) rk (· ∈ nms G0) d
  | 0, d, st, h, hn => by
    refine ⟨fun j => ⟨fun q => by simp [krounds] at q, ?_⟩, fun j r q => by simp [krounds] at q⟩
    rintro ⟨x, hx, hj⟩
    have := hn x hx
    omega
  | n + 1, d, st, h, hn => by
    rw [krounds]
    by_cases he : st.2 = []
    · rw [if_pos he]
      refine ⟨fun j => ⟨fun q => by simp at q, ?_⟩, fun j r q => by simp at q⟩
      rintro ⟨x, hx, hj⟩
      obtain ⟨y, hy, e⟩ := R.down (rk x - d) x hx (by omega)
      have : y ∈ st.2 := (h.mem y).mpr ⟨hy, by omega⟩
      rw [he] at this; nomatch this
    · rw [if_neg he]
      have ih := levels_at R n (d + 1) _ (step_at R h) fun x hx => by have := hn x hx; omega
      refine ⟨fun j => ?_, fun j r hr => ?_⟩
      · cases j with
        | zero =>
          obtain ⟨x, hx⟩ := List.exists_mem_of_ne_nil _ he
          have := (h.mem x).mp hx
          exact ⟨fun _ => ⟨x, this.1, by omega⟩, fun _ => by simp⟩
        | succ j =>
          rw [List.length_cons, Nat.add_lt_add_iff_right, ih.len j]
          exact exists_congr fun x => and_congr Iff.rfl (by omega)
      · cases j with
        | zero =>
          cases hr
          exact ⟨h.nd, h.mem⟩
        | succ j =>
          obtain ⟨h1, h2⟩ := ih.at_ j r hr
          exact ⟨h1, fun x => (h2 x).trans (and_congr Iff.rfl (by omega))⟩
end

end
section
theorem Levels.congr {K : List (List Str)} {rk : Str → Nat} {N N' : Str → Prop} {d : Nat} (h : Levels K rk N d) (e : ∀ x, N x ↔ N' x) : Levels K rk N' d :=
  ⟨fun j => (h.len j).trans (exists_congr fun x => and_congr (e x) Iff.rfl), fun j r hr => ⟨(h.at_ j r hr).1, fun x => ((h.at_ j r hr).2 x).trans (and_congr (e x) Iff.rfl)⟩⟩
theorem growTo_get {R : List (List Str)} {n j : Nat} {r : List Str} (h : (growTo R n)[j]? = some r) : R[j]? = some r ∨ (R.length ≤ j ∧ r = []) := by
  unfold growTo at h
  by_cases hj : j < R.length
  · rw [List.getElem?_append_left hj] at h; exact .inl h
  · rw [List.getElem?_append_right (by omega)] at h
    exact .inr ⟨by omega, (List.mem_replicate.mp (List.mem_of_getElem? h)).2⟩
theorem putAt_get : ∀ {R : List (List Str)} {n j : Nat} {t : Str} {r : List Str}, (putAt R n t)[j]? = some r → ∃ r₀, R[j]? = some r₀ ∧ r = if j = n then (if t ∈ r₀ then r₀ else r₀ ++ [t]) else r₀
  | [], _, _, _, _, h => by simp [putAt] at h
  | c :: R, 0, 0, t, r, h => by
    simp only [putAt, List.getElem?_cons_zero, Option.some.injEq] at h
    exact ⟨c, rfl, by rw [if_pos rfl]; exact h.symm⟩
  | c :: R, 0, j + 1, t, r, h => ⟨r, h, by rw [if_neg (by omega)]⟩
  | c :: R, n + 1, 0, t, r, h => by
    simp only [putAt, List.getElem?_cons_zero, Option.some.injEq] at h
    exact ⟨c, rfl, by rw [if_neg (by omega)]; exact h.symm⟩
  | c :: R, n + 1, j + 1, t, r, h => by
    obtain ⟨r₀, h1, h2⟩ := putAt_get (R := R) (n := n) (j := j) (t := t) (r := r) h
    refine ⟨r₀, h1, ?_⟩
    rw [h2]
    by_cases q : j = n
    · simp [q]
    · simp [q]
theorem levels_put {R : List (List Str)} {rk : Str → Nat} {N : Str → Prop} {t : Str} (h : Levels R rk N 0) : Levels (putAt (growTo R (rk t)) (rk t) t) rk (fun x => N x ∨ x = t) 0 := by
  have hl : (putAt (growTo R (rk t)) (rk t) t).length = max R.length (rk t + 1) := by rw [putAt_len, growTo_len]
  refine ⟨fun j => ?_, fun j r hr => ?_⟩
  · rw [hl]
    constructor
    · intro hj
      by_cases q : j < R.length
      · obtain ⟨x, h1, h2⟩ := (h.len j).mp q
        exact ⟨x, .inl h1, h2⟩
      · exact ⟨t, .inr rfl, by omega⟩
    · rintro ⟨x, h1 | h1, h2⟩
      · have := (h.len j).mpr ⟨x, h1, h2⟩; omega
      · subst h1; omega
  · obtain ⟨r₀, h1, h2⟩ := putAt_get hr
    have h3 : r₀.Nodup ∧ ∀ x, x ∈ r₀ ↔ N x ∧ rk x = 0 + j := by
      rcases growTo_get h1 with q | ⟨q, rfl⟩
      · exact h.at_ j r₀ q
      · refine ⟨List.nodup_nil, fun x => ⟨(fun h' => nomatch h'), fun h' => ?_⟩⟩
        have := (h.len j).mpr ⟨x, h'.1, by omega⟩
        omega
    rw [h2]
    by_cases q : j = rk t
    · rw [if_pos q]
      by_cases ht : t ∈ r₀
      · rw [if_pos ht]
        refine ⟨h3.1, fun x => (h3.2 x).trans ⟨fun h' => ⟨.inl h'.1, h'.2⟩, ?_⟩⟩
        rintro ⟨h' | h', h4⟩
        · exact ⟨h', h4⟩
        · rw [h']; exact (h3.2 t).mp ht
      · rw [if_neg ht]
        refine ⟨List.nodup_append.mpr ⟨h3.1, by simp, fun x hx y hy e => ht (by rw [List.mem_singleton] at hy; rw [← hy, ← e]; exact hx)⟩, fun x => ?_⟩
        rw [List.mem_append, h3.2, List.mem_singleton]
        constructor
        · rintro (h' | h')
          · exact ⟨.inl h'.1, h'.2⟩
          · exact ⟨.inr h', by rw [h']; omega⟩
        · rintro ⟨h' | h', h4⟩
          · exact .inl ⟨h', h4⟩
          · exact .inr h'
    · rw [if_neg q]
      refine ⟨h3.1, fun x => (h3.2 x).trans ⟨fun h' => ⟨.inl h'.1, h'.2⟩, ?_⟩⟩
      rintro ⟨h' | h', h4⟩
      · exact ⟨h', h4⟩
      · rw [h'] at h4; omega
theorem levels_run {rk : Str → Nat} {v : List (Str × Int) × Int} (hrk : ∀ b : Nat, b < 5 → rk (writ (leftOf v.1 v.2 b)) = depN (leftOf v.1 v.2 b)) {N : Str → Prop} {R : List (List Str)} (h : Levels R rk N 0) :
    ∀ k, k ≤ 5 → Levels (dueRun R v k) rk (fun x => N x ∨ ∃ b : Nat, b < k ∧ x = writ (leftOf v.1 v.2 b)) 0
  | 0, _ => h.congr fun x => ⟨.inl, fun q => q.elim id fun ⟨b, hb, _⟩ => absurd hb (Nat.not_lt_zero _)⟩
  | k + 1, hk => by
    have := levels_put (t := writ (leftOf v.1 v.2 k)) (levels_run hrk h k (by omega))
    rw [hrk k (by omega)] at this
    refine this.congr fun x => ?_
    constructor
    · rintro ((h' | ⟨b, hb, h'⟩) | h')
      · exact .inl h'
      · exact .inr ⟨b, by omega, h'⟩
      · exact .inr ⟨k, by omega, h'⟩
    · rintro (h' | ⟨b, hb, h'⟩)
      · exact .inl (.inl h')
      · by_cases q : b = k
        · exact .inr (by rw [h', q])
        · exact .inl (.inr ⟨b, by omega, h'⟩)
theorem levels_all {rk : Str → Nat} : ∀ (vs : List (List (Str × Int) × Int)), (∀ v ∈ vs, ∀ b : Nat, b < 5 → rk (writ (leftOf v.1 v.2 b)) = depN (leftOf v.1 v.2 b)) → ∀ {N : Str → Prop} {R : List (List Str)}, Levels R rk N 0 →
    Levels (dueAll R vs) rk (fun x => N x ∨ ∃ v ∈ vs, ∃ b : Nat, b < 5 ∧ x = writ (leftOf v.1 v.2 b)) 0
  | [], _, N, R, h => h.congr fun x => ⟨.inl, fun q => q.elim id fun ⟨v, hv, _⟩ => nomatch hv⟩
  | v :: vs, hrk, N, R, h => by
    have h1 := levels_run (hrk v (.head _)) h 5 (Nat.le_refl _)
    have h2 := levels_all vs (fun u hu => hrk u (.tail _ hu)) h1
    refine h2.congr fun x => ?_
    constructor
    · rintro ((h' | ⟨b, hb, h'⟩) | ⟨u, hu, h'⟩)
      · exact .inl h'
      · exact .inr ⟨v, .head _, b, hb, h'⟩
      · exact .inr ⟨u, .tail _ hu, h'⟩
    · rintro (h' | ⟨u, hu, h'⟩)
      · exact .inl (.inl h')
      · rcases List.mem_cons.mp hu with rfl | hu
        · exact .inl (.inr h')
        · exact .inr ⟨u, hu, h'⟩
theorem levels_nil {rk : Str → Nat} : Levels [] rk (fun _ => False) 0 := ⟨fun j => ⟨fun h => by simp at h, fun ⟨_, h, _⟩ => h.elim⟩, fun j r h => by simp at h⟩
open PySem.Spec in
theorem rising_pairwise : ∀ (p : Str) (l : List Str), risingS p l = true → (p :: l).Pairwise (fun a b => a.cps.toList ≤ b.cps.toList)
  | p, [], _ => by simp
  | p, x :: r, h => by
    have h' : (!ltCps x.cps.toList p.cps.toList && risingS x r) = true := h
    rw [Bool.and_eq_true, ltCps_eq] at h'
    have ih := rising_pairwise x r h'.2
    have hpx : p.cps.toList ≤ x.cps.toList := List.not_lt.mp (by simpa using h'.1)
    refine List.pairwise_cons.mpr ⟨fun y hy => ?_, ih⟩
    rcases List.mem_cons.mp hy with rfl | hy
    · exact hpx
    · exact List.le_trans hpx ((List.pairwise_cons.mp ih).1 y hy)
theorem sorted_pairwise : ∀ (l : List Str), sortedS l = true → l.Pairwise (fun a b => a.cps.toList ≤ b.cps.toList)
  | [], _ => List.Pairwise.nil
  | p :: l, h => rising_pairwise p l h
theorem sorted_eq {a b : List Str} (ha : sortedS a = true) (hb : sortedS b = true) (h : a.Perm b) : a = b :=
  List.Perm.eq_of_pairwise (fun x y _ _ h1 h2 => Str.ext' (Array.toList_inj.mp (List.le_antisymm h1 h2))) (sorted_pairwise a ha) (sorted_pairwise b hb) h
theorem perm_of_mem {a b : List Str} (ha : a.Nodup) (hb : b.Nodup) (h : ∀ x, x ∈ a ↔ x ∈ b) : a.Perm b := by
  refine List.perm_iff_count.mpr fun x => ?_
  rw [ha.count, hb.count]
  simp only [h x]
theorem sortedOf_eq {rr₁ K : List (List Str)} (h1 : SortedOf rr₁ K) : ∀ {rr₂ R : List (List Str)}, SortedOf rr₂ R → K.length = R.length → (∀ (j : Nat) (a b : List Str), K[j]? = some a → R[j]? = some b → a.Perm b) → rr₁ = rr₂ := by
  induction h1 with
  | nil => intro rr₂ R h2 hl _; cases h2 with | nil => rfl | cons _ _ _ => simp at hl
  | @cons r r' a b p1 s1 _ ih =>
    intro rr₂ R h2 hl hp
    cases h2 with
    | nil => simp at hl
    | @cons q q' c e p2 s2 h2 =>
      rw [ih h2 (by simpa using hl) fun j x y hx hy => hp (j + 1) x y hx hy]
      rw [sorted_eq s1 s2 ((p1.trans (hp 0 r' q' rfl rfl)).trans p2.symm)]
theorem levels_sorted {K R rr₁ rr₂ : List (List Str)} {rk : Str → Nat} {N : Str → Prop} (hK : Levels K rk N 0) (hR : Levels R rk N 0) (h1 : SortedOf rr₁ K) (h2 : SortedOf rr₂ R) : rr₁ = rr₂ := by
  refine sortedOf_eq h1 h2 ?_ fun j a b ha hb => ?_
  · rcases Nat.lt_trichotomy K.length R.length with h | h | h
    · have := (hK.len K.length).mpr ((hR.len _).mp h); omega
    · exact h
    · have := (hR.len R.length).mpr ((hK.len _).mp h); omega
  · obtain ⟨a1, a2⟩ := hK.at_ j a ha
    obtain ⟨b1, b2⟩ := hR.at_ j b hb
    exact perm_of_mem a1 b1 fun x => (a2 x).trans (b2 x).symm

end
section
open PySem.StrLaws
noncomputable def Ok3 (c : List (Str × Int)) : Prop := c.length = 3 ∧ ∀ p ∈ c, okPair p
noncomputable def dnC (c : List (Str × Int)) : List (Str × Int) := c.map fun p => (p.1, dn p.2)
theorem Ok3.ne {c : List (Str × Int)} (h : Ok3 c) : c ≠ [] := fun e => by have := h.1; rw [e] at this; simp at this
theorem dn_ok {p : Str × Int} (h : okPair p) : okPair (p.1, dn p.2) := ⟨h.1, by unfold dn; dsimp only; split <;> omega, by have := h.2; unfold dn; dsimp only; split <;> omega⟩
theorem Ok3.dn {c : List (Str × Int)} (h : Ok3 c) : Ok3 (dnC c) := ⟨by unfold dnC; rw [List.length_map]; exact h.1, fun p hp => by
  obtain ⟨q, hq, rfl⟩ := List.mem_map.mp hp
  exact dn_ok (h.2 q hq)⟩
theorem une_writ {c : List (Str × Int)} (h : Ok3 c) : une (writ c) = writ (dnC c) := by
  refine thru_une.writ h.ne ?_
  unfold dnC
  rw [List.map_map]
  exact List.map_congr_left fun p hp => une_piece p (h.2 p hp) (h.2 p hp).2.2
theorem esc_writ {c : List (Str × Int)} (h : Ok3 c) (h3 : ∀ p ∈ c, p.2 ≤ 3) : esc (writ c) = writ (c.map fun p => (p.1, p.2 + 1)) := by
  refine thru_esc.writ h.ne ?_
  rw [List.map_map]
  exact List.map_congr_left fun p hp => esc_piece p (h.2 p hp) (h3 p hp)
theorem thru_id : Thru fun x => x := fun _ _ => rfl
theorem escOk {c : List (Str × Int)} (h : Ok3 c) : EscOk (writ c) := by
  have b : ∀ {f : Str → Str}, Thru f → (∀ p ∈ c, (f (piece p)).length ≤ 100) → (f (writ c)).length ≤ 1000 := fun hf hp => by
    have := hf.len h.ne hp
    rw [h.1] at this; omega
  exact ⟨b thru_id fun p hp => (len_pieces p (h.2 p hp) (h.2 p hp).2.2).1, b thru_r1 fun p hp => (len_pieces' p (h.2 p hp) (h.2 p hp).2.2).1, b thru_r2 fun p hp => (len_pieces' p (h.2 p hp) (h.2 p hp).2.2).2⟩
theorem uneOk {c : List (Str × Int)} (h : Ok3 c) : UneOk (writ c) := by
  have b : ∀ {f : Str → Str}, Thru f → (∀ p ∈ c, (f (piece p)).length ≤ 100) → (f (writ c)).length ≤ 1000 := fun hf hp => by
    have := hf.len h.ne hp
    rw [h.1] at this; omega
  exact ⟨b thru_id fun p hp => (len_pieces p (h.2 p hp) (h.2 p hp).2.2).1, b thru_g1 fun p hp => (len_pieces p (h.2 p hp) (h.2 p hp).2.2).2.1, b thru_g2 fun p hp => (len_pieces p (h.2 p hp) (h.2 p hp).2.2).2.2⟩
theorem depN_le_iff {c : List (Str × Int)} {d : Nat} : depN c ≤ d ↔ ∀ p ∈ c, p.1 ≠ Str.ofString "a" → p.2.toNat ≤ d := by
  unfold depN
  constructor
  · intro h p hp ha
    exact Nat.le_trans ((le_foldl_max _ 0).2 _ (List.mem_map.mpr ⟨p, List.mem_filter.mpr ⟨hp, decide_eq_true ha⟩, rfl⟩)) h
  · intro h
    refine foldl_max_le _ _ _ (Nat.zero_le _) fun x hx => ?_
    obtain ⟨p, hp, rfl⟩ := List.mem_map.mp hx
    obtain ⟨h1, h2⟩ := List.mem_filter.mp hp
    exact h p h1 (of_decide_eq_true h2)
theorem depN_dn (c : List (Str × Int)) : depN (dnC c) = depN c - 1 := by
  have key : ∀ d, depN (dnC c) ≤ d ↔ depN c ≤ d + 1 := fun d => by
    rw [depN_le_iff, depN_le_iff]
    unfold dnC
    constructor
    · intro h p hp ha
      have := h (p.1, dn p.2) (List.mem_map.mpr ⟨p, hp, rfl⟩) ha
      unfold dn at this; dsimp only at this; split at this <;> omega
    · intro h p hp ha
      obtain ⟨q, hq, rfl⟩ := List.mem_map.mp hp
      have := h q hq ha
      unfold dn; dsimp only; split <;> omega
  have h1 := (key (depN (dnC c))).mp (Nat.le_refl _)
  have h2 := (key (depN c - 1)).mpr (by omega)
  omega
theorem depN_4 {c : List (Str × Int)} (h : Ok3 c) : depN c ≤ 4 := depN_le fun p hp => (h.2 p hp).2.2
theorem join_len : ∀ (p : Str) (ps : List Str), (Str.join bar (p :: ps)).length = ((p :: ps).map (·.length)).sum + ps.length
  | p, [] => by simp [Str.join]
  | p, q :: ps => by
    rw [show Str.join bar (p :: q :: ps) = p ++ bar ++ Str.join bar (q :: ps) from rfl, Str.length_append, Str.length_append, join_len q ps, show bar.length = 1 by decide +kernel]
    simp only [List.map_cons, List.sum_cons, List.length_cons]
    omega
theorem sum_lt_of {α : Type} {f g : α → Nat} : ∀ (l : List α), (∀ x ∈ l, f x ≤ g x) → (l.map f).sum ≤ (l.map g).sum ∧ ((∃ x ∈ l, f x < g x) → (l.map f).sum < (l.map g).sum)
  | [], _ => ⟨Nat.le_refl _, fun ⟨_, h, _⟩ => nomatch h⟩
  | x :: l, h => by
    obtain ⟨h1, h2⟩ := sum_lt_of l fun y hy => h y (.tail _ hy)
    have h0 := h x (.head _)
    simp only [List.map_cons, List.sum_cons]
    refine ⟨by omega, ?_⟩
    rintro ⟨y, hy, hlt⟩
    rcases List.mem_cons.mp hy with rfl | hy
    · omega
    · have := h2 ⟨y, hy, hlt⟩; omega
theorem fix_iff {c : List (Str × Int)} (h : Ok3 c) : une (writ c) = writ c ↔ depN c = 0 := by
  rw [une_writ h]
  have hd : ∀ p ∈ c, _ := fun p hp => dn_short p (h.2 p hp) (h.2 p hp).2.2
  constructor
  · intro e
    have h0 : depN c ≤ 0 := depN_le_iff.mpr fun p hp ha => by
      by_cases hz : p.2 = 0
      · rw [hz]; exact Nat.le_refl _
      · exfalso
        have hlt := (sum_lt_of (f := fun p : Str × Int => (piece (p.1, dn p.2)).length) (g := fun p => (piece p).length) c fun q hq => (hd q hq).1).2 ⟨p, hp, (hd p hp).2.1 ha hz⟩
        have e' := congrArg Str.length e
        rw [writ_join, writ_join] at e'
        obtain ⟨q, r, hqr⟩ := List.exists_cons_of_ne_nil h.ne
        rw [hqr] at e' hlt
        unfold dnC at e'
        rw [List.map_map, List.map_cons, List.map_cons, join_len, join_len, ← List.map_cons (f := piece), ← List.map_cons (f := piece ∘ fun p : Str × Int => (p.1, dn p.2)), List.map_map, List.map_map, List.length_map, List.length_map] at e'
        have e2 : ((q :: r).map fun p : Str × Int => (piece (p.1, dn p.2)).length).sum = ((q :: r).map fun p => (piece p).length).sum := Nat.add_right_cancel e'
        omega
    omega
  · intro h0
    rw [writ_join, writ_join]
    unfold dnC
    rw [List.map_map]
    congr 1
    refine List.map_congr_left fun p hp => (hd p hp).2.2 ?_
    by_cases ha : p.1 = Str.ofString "a"
    · exact .inl ha
    · have h1 := depN_le_iff.mp (Nat.le_of_eq h0) p hp ha
      have h2 := (h.2 p hp).2.1
      exact .inr (by omega)
noncomputable def rkF : Nat → Str → Nat
  | 0, _ => 0
  | n + 1, x => if une x = x then 0 else rkF n (une x) + 1
theorem rkF_writ : ∀ (n : Nat) (c : List (Str × Int)), Ok3 c → depN c ≤ n → rkF n (writ c) = depN c
  | 0, c, _, hd => by rw [rkF]; omega
  | n + 1, c, h, hd => by
    rw [rkF]
    by_cases q : une (writ c) = writ c
    · rw [if_pos q, (fix_iff h).mp q]
    · have h0 : depN c ≠ 0 := fun e => q ((fix_iff h).mpr e)
      rw [if_neg q, une_writ h, rkF_writ n _ h.dn (by rw [depN_dn]; omega), depN_dn]
      omega
noncomputable def rk (x : Str) : Nat := rkF 10 x
theorem rk_writ {c : List (Str × Int)} (h : Ok3 c) : rk (writ c) = depN c := rkF_writ 10 c h (Nat.le_trans (depN_4 h) (by decide))
/-- a drawn pair of counts and a number -/
structure VOk (v : List (Str × Int) × Int) : Prop where
  len : v.1.length = 3
  prs : ∀ p ∈ v.1, (p.1 = "<" ∨ p.1 = ">" ∨ p.1 = "&" ∨ p.1 = "a") ∧ 0 ≤ p.2 ∧ p.2 ≤ 2
  num : 0 ≤ v.2 ∧ v.2 ≤ 2
theorem left_ok3 {v : List (Str × Int) × Int} (h : VOk v) (b : Nat) : Ok3 (leftOf v.1 v.2 b) := by
  refine ⟨by unfold leftOf; rw [List.length_map]; exact h.len, fun p hp => ?_⟩
  obtain ⟨q, hq, rfl⟩ := List.mem_map.mp hp
  obtain ⟨h1, h2⟩ := h.prs q hq
  exact ⟨h1, lft_ok h2 h.num (Int.natCast_nonneg b)⟩
theorem left_dn {v : List (Str × Int) × Int} (b : Nat) : dnC (leftOf v.1 v.2 b) = leftOf v.1 v.2 ((b + 1 : Nat) : Int) := by
  unfold dnC leftOf
  rw [List.map_map]
  refine List.map_congr_left fun p _ => ?_
  show (p.1, dn (lft v.2 b p.2)) = (p.1, lft v.2 ((b + 1 : Nat) : Int) p.2)
  congr 1
  unfold dn lft
  split <;> split <;> (try split) <;> omega
theorem itr_une {v : List (Str × Int) × Int} (h : VOk v) : ∀ b : Nat, itr une b (writ (leftOf v.1 v.2 (0 : Nat))) = writ (leftOf v.1 v.2 b)
  | 0 => rfl
  | b + 1 => by rw [itr, itr_une h b, une_writ (left_ok3 h b), left_dn]
noncomputable def upK (c : List (Str × Int)) (n : Nat) : List (Str × Int) := c.map fun p => (p.1, p.2 + n)
theorem up_ok3 {v : List (Str × Int) × Int} (h : VOk v) {n : Nat} (hn : n ≤ 2) : Ok3 (upK v.1 n) := by
  refine ⟨by unfold upK; rw [List.length_map]; exact h.len, fun p hp => ?_⟩
  obtain ⟨q, hq, rfl⟩ := List.mem_map.mp hp
  obtain ⟨h1, h2⟩ := h.prs q hq
  exact ⟨h1, by dsimp only; omega, by dsimp only; omega⟩
theorem itr_esc {v : List (Str × Int) × Int} (h : VOk v) : ∀ n : Nat, n ≤ 2 → itr esc n (writ v.1) = writ (upK v.1 n)
  | 0, _ => by
    have : upK v.1 0 = v.1 := by
      unfold upK
      conv => rhs; rw [← List.map_id v.1]
      exact List.map_congr_left fun p _ => by simp
    rw [this]; rfl
  | n + 1, hn => by
    rw [itr, itr_esc h n (by omega), esc_writ (up_ok3 h (by omega)) fun p hp => by
      obtain ⟨q, hq, rfl⟩ := List.mem_map.mp hp
      have := (h.prs q hq).2.2
      dsimp only; omega]
    congr 1
    unfold upK
    rw [List.map_map]
    refine List.map_congr_left fun p _ => ?_
    show (p.1, p.2 + (n : Int) + 1) = (p.1, p.2 + ((n + 1 : Nat) : Int))
    congr 1
    omega
theorem top_eq {v : List (Str × Int) × Int} (h : VOk v) : itr esc v.2.toNat (writ v.1) = writ (leftOf v.1 v.2 (0 : Nat)) := by
  have hn := h.num
  rw [itr_esc h v.2.toNat (by omega)]
  congr 1
  unfold upK leftOf
  refine List.map_congr_left fun p hp => ?_
  have h2 := (h.prs p hp).2
  congr 1
  unfold lft
  split <;> omega
theorem itr_stop {x : Str} {d : Nat} (h : une (itr une d x) = itr une d x) : ∀ k, itr une (d + k) x = itr une d x
  | 0 => rfl
  | k + 1 => by show une (itr une (d + k) x) = _; rw [itr_stop h k, h]
theorem build_facts {rk : Str → Nat} : ∀ (st : List (Str × Int)) (G : Gr), (∀ p ∈ st, une (itr une (rk (itr esc p.2.toNat p.1)) (itr esc p.2.toNat p.1)) = itr une (rk (itr esc p.2.toNat p.1)) (itr esc p.2.toNat p.1)) → Good G → ClosedBut G (fun _ => False) →
    Good (st.foldl (fun G p => fullAdd rk G p.1 p.2.toNat) G) ∧ ClosedBut (st.foldl (fun G p => fullAdd rk G p.1 p.2.toNat) G) (fun _ => False) ∧
      ∀ y, y ∈ nms (st.foldl (fun G p => fullAdd rk G p.1 p.2.toNat) G) ↔ (y ∈ nms G ∨ ∃ p ∈ st, ∃ i, i ≤ rk (itr esc p.2.toNat p.1) ∧ y = itr une i (itr esc p.2.toNat p.1))
  | [], G, _, hg, hc => ⟨hg, hc, fun y => ⟨.inl, fun h => h.elim id fun ⟨_, h, _⟩ => nomatch h⟩⟩
  | p :: st, G, he, hg, hc => by
    obtain ⟨h1, h2, h3⟩ := full_facts hg hc (he p (.head _))
    obtain ⟨k1, k2, k3⟩ := build_facts st _ (fun q hq => he q (.tail _ hq)) h1 h2
    refine ⟨k1, k2, fun y => (k3 y).trans ?_⟩
    rw [h3]
    constructor
    · rintro ((h | h) | ⟨q, hq, h⟩)
      · exact .inl h
      · exact .inr ⟨p, .head _, h⟩
      · exact .inr ⟨q, .tail _ hq, h⟩
    · rintro (h | ⟨q, hq, h⟩)
      · exact .inl (.inl h)
      · rcases List.mem_cons.mp hq with rfl | hq
        · exact .inl (.inr h)
        · exact .inr ⟨q, hq, h⟩
theorem plain_of {vals : List (List (Str × Int) × Int)} (hv : ∀ v ∈ vals, VOk v) (hl : vals.length ≤ 6) : PlainOk vals := by
  have hst : ∀ p ∈ stOf vals, ∃ v ∈ vals, p = (writ v.1, v.2) := fun p hp => by
    obtain ⟨v, h1, h2⟩ := List.mem_map.mp hp
    exact ⟨v, h1, h2.symm⟩
  have hD : ∀ c, Ok3 c → (une (writ c) = writ c → rk (writ c) = 0) ∧ (une (writ c) ≠ writ c → rk (une (writ c)) + 1 = rk (writ c)) := fun c h => by
    refine ⟨fun e => by rw [rk_writ h]; exact (fix_iff h).mp e, fun e => ?_⟩
    have h0 : depN c ≠ 0 := fun q => e ((fix_iff h).mpr q)
    rw [une_writ h, rk_writ h.dn, rk_writ h, depN_dn]; omega
  have hrt : ∀ v ∈ vals, rk (itr esc v.2.toNat (writ v.1)) = depN (leftOf v.1 v.2 (0 : Nat)) := fun v h => by rw [top_eq (hv v h), rk_writ (left_ok3 (hv v h) 0)]
  have hdl : ∀ (v : List (Str × Int) × Int) (b : Nat), depN (leftOf v.1 v.2 b) = depN (leftOf v.1 v.2 (0 : Nat)) - b := fun v b => by
    induction b with
    | zero => rfl
    | succ b ih => rw [← left_dn, depN_dn, ih]; omega
  have hend : ∀ v ∈ vals, une (itr une (depN (leftOf v.1 v.2 (0 : Nat))) (writ (leftOf v.1 v.2 (0 : Nat)))) = itr une (depN (leftOf v.1 v.2 (0 : Nat))) (writ (leftOf v.1 v.2 (0 : Nat))) := fun v h => by
    rw [itr_une (hv v h), fix_iff (left_ok3 (hv v h) _), hdl, Nat.sub_self]
  obtain ⟨hg, hc, hn⟩ := build_facts (rk := rk) (stOf vals) [] (fun p hp => by
    obtain ⟨v, h1, rfl⟩ := hst p hp
    dsimp only
    rw [hrt v h1, top_eq (hv v h1)]
    exact hend v h1) ⟨List.nodup_nil, (fun _ h => nomatch h), (fun _ _ h => nomatch h)⟩ (fun _ h => nomatch h)
  have hnames : ∀ y, y ∈ nms (buildG rk (stOf vals)) ↔ ∃ v ∈ vals, ∃ b : Nat, b < 5 ∧ y = writ (leftOf v.1 v.2 b) := fun y => by
    refine (hn y).trans ?_
    constructor
    · rintro (h | ⟨p, hp, i, hi, rfl⟩)
      · nomatch h
      · obtain ⟨v, h1, rfl⟩ := hst p hp
        dsimp only at hi ⊢
        rw [hrt v h1] at hi
        have := depN_4 (left_ok3 (hv v h1) 0)
        exact ⟨v, h1, i, by omega, by rw [top_eq (hv v h1), itr_une (hv v h1)]⟩
    · rintro ⟨v, h1, b, hb, rfl⟩
      refine .inr ⟨(writ v.1, v.2), List.mem_map.mpr ⟨v, h1, rfl⟩, min b (depN (leftOf v.1 v.2 (0 : Nat))), ?_, ?_⟩
      · dsimp only; rw [hrt v h1]; exact Nat.min_le_right _ _
      · dsimp only
        rw [top_eq (hv v h1), ← itr_une (hv v h1)]
        by_cases q : b ≤ depN (leftOf v.1 v.2 (0 : Nat))
        · rw [Nat.min_eq_left q]
        · rw [Nat.min_eq_right (by omega)]
          have := itr_stop (hend v h1) (b - depN (leftOf v.1 v.2 (0 : Nat)))
          rw [← this]; congr 1; omega
  have hR : Ranked (buildG rk (stOf vals)) rk := by
    refine ⟨hg, hc, fun x hx => ?_, fun x hx => ?_, ?_⟩
    · obtain ⟨v, h1, b, _, rfl⟩ := (hnames x).mp hx
      exact (hD _ (left_ok3 (hv v h1) b)).1
    · obtain ⟨v, h1, b, _, rfl⟩ := (hnames x).mp hx
      exact (hD _ (left_ok3 (hv v h1) b)).2
    · have h1 : (nms (buildG rk (stOf vals))).length ≤ (vals.flatMap fun v => (List.range 5).map fun b => writ (leftOf v.1 v.2 (b : Nat))).length := nodup_le hg.nd fun x hx => by
        obtain ⟨v, h1, b, hb, rfl⟩ := (hnames x).mp hx
        exact List.mem_flatMap.mpr ⟨v, h1, List.mem_map.mpr ⟨b, List.mem_range.mpr hb, rfl⟩⟩
      have h2 : (vals.flatMap fun v => (List.range 5).map fun b => writ (leftOf v.1 v.2 (b : Nat))).length = vals.length * 5 := by
        clear hv hl hst hrt hend hg hc hn hnames h1
        induction vals with
        | nil => rfl
        | cons v vals ih => rw [List.flatMap_cons, List.length_append, ih, List.length_map, List.length_range, List.length_cons]; omega
      omega
  have hrk5 : ∀ x ∈ nms (buildG rk (stOf vals)), rk x < 0 + 5 := fun x hx => by
    obtain ⟨v, h1, b, _, rfl⟩ := (hnames x).mp hx
    have := depN_4 (left_ok3 (hv v h1) b)
    rw [rk_writ (left_ok3 (hv v h1) b)]; omega
  refine ⟨fun x => ∃ c, Ok3 c ∧ x = writ c, rk, rk, 5, ⟨by unfold stOf; rw [List.length_map]; exact hl, fun p hp => ?_, fun p hp j hj => ?_, fun p hp => ?_, fun x hx => ?_⟩, fun e he c hc' => ?_, runOk_at hR 5 0 _ (init_at hR) hrk5, by decide, fun rr₁ rr₂ h1 h2 => ?_⟩
  · obtain ⟨v, h1, rfl⟩ := hst p hp
    have := (hv v h1).num
    dsimp only; omega
  · obtain ⟨v, h1, rfl⟩ := hst p hp
    have := (hv v h1).num
    dsimp only at hj ⊢
    rw [itr_esc (hv v h1) j (by omega)]
    exact escOk (up_ok3 (hv v h1) (by omega))
  · obtain ⟨v, h1, rfl⟩ := hst p hp
    dsimp only
    have := depN_4 (left_ok3 (hv v h1) 0)
    exact ⟨⟨_, left_ok3 (hv v h1) 0, top_eq (hv v h1)⟩, by rw [hrt v h1]; omega⟩
  · obtain ⟨c, h, rfl⟩ := hx
    exact ⟨uneOk h, ⟨dnC c, h.dn, une_writ h⟩, (hD c h).2⟩
  · have he1 := ent_of_mem hg.nd he
    have hc2 : c ∈ (ent (buildG rk (stOf vals)) e.1).2 := by rw [show ent (buildG rk (stOf vals)) e.1 = e.2 from he1]; exact hc'
    exact ⟨by rw [hR.rank_succ hc2]; exact Nat.lt_succ_self _, (hR.in_succ.mp hc2).1⟩
  · refine levels_sorted (levels_at hR 5 0 _ (init_at hR) hrk5) ((levels_all vals (fun v hv' b _ => rk_writ (left_ok3 (hv v hv') b)) levels_nil).congr fun x => ?_) h1 h2
    rw [hnames]
    exact ⟨fun h => h.elim (fun h => h.elim) id, .inr⟩
theorem plain (ns : List Int) : PlainOk (([214, 55] ++ ns.take 4).map drawOf) := by
  refine plain_of (fun v hv => ?_) ?_
  · obtain ⟨x, _, rfl⟩ := List.mem_map.mp hv
    have h0 := Int.fmod_nonneg_of_pos x (show (0 : Int) < 2 by decide)
    have h3 := Int.fmod_lt_of_pos x (show (0 : Int) < 2 by decide)
    exact ⟨rfl, counts_ok x, by show 0 ≤ x.fmod 2 + 1 ∧ x.fmod 2 + 1 ≤ 2; omega⟩
  · rw [List.length_map, List.length_append, List.length_take]
    simp only [List.length_cons, List.length_nil]
    omega

end
end Mine
local macro_rules | `(tactic| k_qdec) => `(tactic| kernel_rfl)
theorem PySem.Challenge.cw_il0012_01_holds : PySem.Challenge.rw_il0012_01.Holds :=
  Mine.hd (by
  k_go0
  rename_i w s₀ s₁ mg mb G Y fa o pm doc kV ho hg KX X V GL T B TE TW w9 w8 M w7 hcd w6 w5 hs hlay0 hL1 hr1 hl2 w4 w3 w2 w1 wv hL ra w1' r0 hI hr hcond1 hcond2 K0 hD h₁ F N0
  have key := fun (s : Shared) (F : Fr s₁.heap s₁.heap.objs.size s.heap (fun x => List.lookup x [(Str.ofString "script", Value.ref w2)].reverse)) (N0 : News s₁.heap s₁.heap.objs.size s.heap []) => Mine.law_all (dp := 302) (un := 7) (gd := some []) (qual := Str.ofString "law") (f := fa) (cdv := .ref w7) (s := s) (E := fun _ _ => False) (w := w) K0 F KX T N0 hL hI (by omega) (Mine.plain w5) rfl (sc := { kind := .function, names := [], isGenerator := false, isCoroutine := false, more := [] }) rfl (by decide) (by decide)
  with_unfolding_all refine wpAny_mono (key _ F N0) ?_ ?_
  · rintro fl s' ⟨rfl, h₂, tk₂, rfl, hk⟩
    refine ⟨.inl ⟨.bool true, .bool true, [], rfl, fun _ => rfl, .bool true, ?_, fun _ => ⟨List.nodup_nil, fun _ h => nomatch h⟩⟩, hk, rfl, hg⟩
    with_unfolding_all rfl
  · exact fun _ _ x => x.elim)
