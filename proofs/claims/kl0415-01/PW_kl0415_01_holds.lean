import PyProof.Rows.All
import Wide.All
import OpenK.AllK
import Wide.FinOn
import Flt.Round
import Lean
import PySem.Challenge.RW_kl0415_01
set_option Elab.async false
local macro_rules | `(tactic| walk_at $s:str) => `(tactic| k_extra $s)
section
open PySem PySem.W PyProof.Rows
set_option maxRecDepth 100000
set_option maxHeartbeats 8000000
namespace Mine
open_top hd for PySem.Challenge.rw_kl0415_01
end Mine
end
section
open PySem PySem.W PySem.Spec PySem.Calls PyProof.Rows
set_option maxRecDepth 100000
namespace Mine

abbrev PG : Program := PySem.Challenge.rw_kl0415_01.row.prog

/-- what holds behind a call of a def: all that stood stands, the new objects are told -/
noncomputable def PC (w : World) (f : Addr) (sz : Nat) (vs : List Value) (args : List (Addr × Obj)) (Out : List (Addr × Obj) → Value → Prop) : Prop :=
  ∀ (p : Program) (loose : List Str) (mean : ExcName → Option Value) (mg mb : Str → Option Value) (dp un : Nat) (gd : Option (List Code)) (cn : Str) (cs : Scope) (a : Addr) (ccd : Value) (cl : List (Str × Addr)) (outer : List Env) (A₀ : Around) (base h₀ : Heap) (L : Addr) (m : Str → Option Value) (s : Shared) (Q E : Value → Shared → Prop),
    Below A₀ base outer h₀ → Fr h₀ L s.heap m → (Mine.hd.heap_39 w.params).In h₀ → Top p loose mean mg mb h₀ → cs.kind = .function → News h₀ L s.heap args → dp + sz < recursionLimit → un + 8 * sz < cLine →
    (∀ r h' tk' tl, (∀ b o, s.heap.get? b = some o → h'.get? b = some o) → (∀ q ∈ tl, h'.get? q.1 = some q.2 ∧ s.heap.get? q.1 = none) → Out tl r → Q r { s with heap := h', toks := tk' }) →
    wpAny (model PG w) (ktrTop dp un gd cn cs L a ccd cl outer) (call (.ref f) vs) Q E s

theorem fill : (PySem.Challenge.rw_kl0415_01 = PySem.Challenge.rw_kl0415_01) ∧ (Mine.hd.heap_39 = Mine.hd.heap_39) := by w_top off; k_fill; exact ⟨rfl, rfl⟩

/-- the end of a body: its frame, its ledger, what it hands back -/
noncomputable def PEnd (s₀ : Shared) (g : Heap) (args : List (Addr × Obj)) (Out : List (Addr × Obj) → Value → Prop) (v : Value) (s' : Shared) : Prop :=
  ∃ L' m' tl h' tk', s' = { s₀ with heap := h', toks := tk' } ∧ Fr g L' h' m' ∧ News g L' h' (tl ++ args) ∧ (∀ q ∈ tl, q.1 ∉ args.map (·.1)) ∧ Out tl v
/-- the heap under a body: what the call's arguments are not -/
noncomputable def PSub (s₀ : Shared) (g : Heap) (args : List (Addr × Obj)) : Prop := ∀ b o, s₀.heap.get? b = some o → b ∉ args.map (·.1) → g.get? b = some o

theorem pend_keeps {s₀ : Shared} {g h' : Heap} {L' : Addr} {m' : Str → Option Value} {tl args : List (Addr × Obj)} (G : PSub s₀ g args) (F : Fr g L' h' m') (N : News g L' h' (tl ++ args))
    (N₀ : ∀ q ∈ args, s₀.heap.get? q.1 = some q.2) : ∀ b o, s₀.heap.get? b = some o → h'.get? b = some o := fun b o e => by
  by_cases hb : b ∈ args.map (·.1)
  · obtain ⟨q, hq, rfl⟩ := List.mem_map.mp hb
    have h1 := N₀ q hq
    rw [e] at h1
    cases h1
    exact (N q (List.mem_append_right _ hq)).1
  · exact F.keep b o (G b o e hb)

section
variable {w : World} {f : Addr} {sz : Nat} {vs : List Value} {args : List (Addr × Obj)} {Out : List (Addr × Obj) → Value → Prop}
  {name qual : Str} {params : Arguments} {body : List Stmt} {scope : Scope} {dV kV doc pm cdv ct oc : Value} {an od : Option Addr} {osl : Array (Option Value)} {binds : List (Str × Value)}

theorem psub_hide {s : Shared} : PSub s (hideAll s.heap (args.map (·.1))) args := fun _ _ e n => hideAll_get _ e n

theorem psub_none {s : Shared} {g : Heap} {b : Addr} (G : PSub s g args) (h : g.get? b = none) (hb : b ∉ args.map (·.1)) : s.heap.get? b = none := by
  cases e : s.heap.get? b with
  | none => rfl
  | some o => rw [G b o e hb] at h; cases h

theorem pend_ret {h₀ : Heap} {L : Addr} {m : Str → Option Value} {s : Shared} {Q : Value → Shared → Prop} (_F : Fr h₀ L s.heap m) (N : News h₀ L s.heap args)
    (hret : ∀ r h' tk' tl, (∀ b o, s.heap.get? b = some o → h'.get? b = some o) → (∀ q ∈ tl, h'.get? q.1 = some q.2 ∧ s.heap.get? q.1 = none) → Out tl r → Q r { s with heap := h', toks := tk' })
    {v : Value} {s' : Shared} (x : PEnd s (hideAll s.heap (args.map (·.1))) args Out v s') : Q v s' := by
  obtain ⟨L', m', tl, h', tk', rfl, F', N', hn, ho⟩ := x
  exact hret v h' tk' tl (pend_keeps psub_hide F' N' fun q hq => (N q hq).1) (fun q hq => ⟨(N' q (List.mem_append_left _ hq)).1, psub_none psub_hide (N' q (List.mem_append_left _ hq)).2.2 (hn q hq)⟩) ho

theorem pend0 {g : Heap} {L' : Addr} {m' : Str → Option Value} {s : Shared} {h' : Heap} {tk' : Nat} {v : Value} (F : Fr g L' h' m') (N : News g L' h' args) (ho : Out [] v) : PEnd s g args Out v { s with heap := h', toks := tk' } :=
  ⟨L', m', [], h', tk', rfl, F, N, fun _ h => (nomatch h), ho⟩
theorem pend0t {g : Heap} {L' : Addr} {m' : Str → Option Value} {s : Shared} {h' : Heap} {tk' : Nat} {v : Value} {a : Addr} {o : Obj} (F : Fr g L' h' m') (N : News g L' h' ((a, o) :: args)) (ho : Out [] v) : PEnd s g args Out v { s with heap := h', toks := tk' } :=
  pend0 F (fun q hq => N q (.tail _ hq)) ho
theorem pend1 {g : Heap} {L' : Addr} {m' : Str → Option Value} {s : Shared} {h' : Heap} {tk' : Nat} {v : Value} {a : Addr} {o : Obj} (F : Fr g L' h' m') (N : News g L' h' ((a, o) :: args)) (ha : a ∉ args.map (·.1)) (ho : Out [(a, o)] v) : PEnd s g args Out v { s with heap := h', toks := tk' } :=
  ⟨L', m', [(a, o)], h', tk', rfl, F, N, fun _ h => by rw [List.mem_singleton.mp h]; exact ha, ho⟩

theorem pc_plain (ho : (Mine.hd.heap_39 w.params).lookup f = some ⟨oc, od, .func (fnOf name qual params body scope dV kV doc pm an cdv ct), osl⟩) (hcd : codeIn (Mine.hd.heap_39 w.params) cdv qual = true)
    (hbind : ∀ s, BindsTo s (fnOf name qual params body scope dV kV doc pm an cdv ct) ⟨vs, []⟩ binds) (hloc : ∀ y ∈ binds, scope.names.lookup y.1 = some .local)
    (h : ∀ (p : Program) (loose : List Str) (mean : ExcName → Option Value) (mg mb : Str → Option Value) (dp un : Nat) (gd : Option (List Code)) (env : Env) (outer : List Env) (A₀ : Around) (base g : Heap) (L' : Addr) (h₁ : Heap) (s : Shared),
      Fr g L' h₁ (fun y => binds.reverse.lookup y) → News g L' h₁ args → Below A₀ base (env :: outer) g → (Mine.hd.heap_39 w.params).In g → Top p loose mean mg mb g → s.heap.objs.size = L' → dp + sz < recursionLimit → un + 8 * sz < cLine →
      wpAny (model PG w) (ktrTop (dp + 1) (un + 3) gd qual scope L' f cdv [] (env :: outer)) (execs body (envX qual scope L' f cdv []))
        (fun fl s' => PEnd s g args Out (match fl with | .ret v => v | _ => .none) s')
        (fun _ _ => False) { s with heap := h₁, toks := s.toks + binds.length })
    (hco : scope.isCoroutine = false) (hgen : scope.isGenerator = false) (hk : scope.kind = .function)
    (hcell : ∀ x ∈ scope.names, x.2 ≠ .cell) (hsz : 0 < sz) : PC w f sz vs args Out := by
  intro p loose mean mg mb dp un gd cn cs a ccd cl outer A₀ base h₀ L m s Q E B F X N hcs hN hd hu hret
  refine wpAny_call ?_
  obtain ⟨FG, BG, st, _⟩ := groundX (A := ktrTop dp un gd cn cs L a ccd cl outer) (R := fun _ _ => True) B F hN rfl rfl hcs
  refine codeAny_call_def (fd := fnX name qual params body scope [] dV kV doc pm an cdv ct) (body := body) (binds := binds) (by show dp < _; omega) ((X.keeps F.keep) _ _ ho) rfl (N.nolimit.keeps F.keep) (codeRec_of (X.keeps F.keep) hcd) rfl (hbind s) hcell hloc (fun h₁ hns hk₁ => ?_) hco hgen hk
  exact wpAny_mono (h p loose mean mg mb dp un gd _ outer _ base _ s.heap.objs.size h₁ s ⟨hns, fun b o e => hk₁ b o (of_hideAll _ e), Nat.le_of_eq (hideAll_size _ _)⟩
    (fun p hp => ⟨hk₁ _ _ (hN p hp).1, Nat.ne_of_lt (Heap.lt_size (hN p hp).1), hideAll_none _ (List.mem_map_of_mem hp)⟩) BG (X.keeps st) (N.keeps st) rfl hd hu) (fun fl s' hl => pend_ret F hN hret hl) fun _ _ y => y.elim

theorem pc_cells (ho : (Mine.hd.heap_39 w.params).lookup f = some ⟨oc, od, .func (fnOf name qual params body scope dV kV doc pm an cdv ct), osl⟩) (hcd : codeIn (Mine.hd.heap_39 w.params) cdv qual = true)
    (hbind : ∀ s, BindsTo s (fnOf name qual params body scope dV kV doc pm an cdv ct) ⟨vs, []⟩ binds) (hkind : (binds.all fun y => scope.names.lookup y.1 == some .local || scope.names.lookup y.1 == some .cell) = true)
    (hnd : ((cellsFrom 0 scope.names []).map (·.1)).Nodup)
    (h : ∀ (p : Program) (loose : List Str) (mean : ExcName → Option Value) (mg mb : Str → Option Value) (dp un : Nat) (gd : Option (List Code)) (env : Env) (outer : List Env) (A₀ : Around) (base g : Heap) (L' : Addr) (h₁ : Heap) (s : Shared) (tk : Nat) (cells : List (Addr × Obj)),
      Fr g L' h₁ (bindL (envOfC qual scope L' f cdv).kindOf binds fun _ => none) → News g L' h₁ (cells ++ args) →
      CellsAre (bindC (envOfC qual scope L' f cdv).kindOf binds fun _ => none) (cellsFrom (L' + 1) scope.names []) cells → Below A₀ base (env :: outer) g → (Mine.hd.heap_39 w.params).In g → Top p loose mean mg mb g → s.heap.objs.size = L' → (∀ q ∈ args, q.1 < L') → dp + sz < recursionLimit → un + 8 * sz < cLine →
      wpAny (model PG w) (ktrTop (dp + 1) (un + 3) gd qual scope L' f cdv (cellsFrom (L' + 1) scope.names []) (env :: outer)) (execs body (envX qual scope L' f cdv (cellsFrom (L' + 1) scope.names [])))
        (fun fl s' => PEnd s g args Out (match fl with | .ret v => v | _ => .none) s')
        (fun _ _ => False) { s with heap := h₁, toks := tk })
    (hco : scope.isCoroutine = false) (hgen : scope.isGenerator = false) (hk : scope.kind = .function) (hsz : 0 < sz) : PC w f sz vs args Out := by
  intro p loose mean mg mb dp un gd cn cs a ccd cl outer A₀ base h₀ L m s Q E B F X N hcs hN hd hu hret
  refine wpAny_call ?_
  obtain ⟨FG, BG, st, _⟩ := groundX (A := ktrTop dp un gd cn cs L a ccd cl outer) (R := fun _ _ => True) B F hN rfl rfl hcs
  refine codeAny_call_function (fd := fnX name qual params body scope [] dV kV doc pm an cdv ct) (by show dp < _; omega) ((X.keeps F.keep) _ _ ho) rfl hco hgen rfl (codeRec_of (X.keeps F.keep) hcd) (hbind s _ _ _ _ ?_)
  refine wpAny_newFunctionEnv_cells hk (kindsX hkind _) fun env' he s' x => ?_
  subst he
  refine ⟨(N.nolimit.keeps F.keep).keeps x.toInCall.keep, codeAny_func ?_⟩
  obtain ⟨h₁, tk, rfl, _⟩ := x.done
  have hk₁ := x.toInCall.keep
  obtain ⟨cells, NC, Y⟩ := Cl.news (h₀ := s.heap) (Nat.le_refl _) fun n c hm => ⟨x.cell n c (lookup_of_mem_nodup (cellsFrom_names scope.names 0 (s.heap.objs.size + 1) [] [] rfl ▸ hnd) hm), x.above n c hm⟩
  refine wpAny_mono (h p loose mean mg mb dp un gd _ outer _ base _ s.heap.objs.size h₁ s tk cells ⟨x.toInCall.ns, fun b o e => hk₁ b o (of_hideAll _ e), Nat.le_of_eq (hideAll_size _ _)⟩ (fun q hq => ?_) Y BG (X.keeps st) (N.keeps st) rfl (fun q hq => Heap.lt_size (hN q hq).1) hd hu) (fun fl s' hl => pend_ret F hN hret hl) fun _ _ y => y.elim
  rcases List.mem_append.mp hq with hq | hq
  · refine ⟨(NC q hq).1, (NC q hq).2.1, ?_⟩
    cases e : (hideAll s.heap (args.map (·.1))).get? q.1 with
    | none => rfl
    | some o => have := of_hideAll _ e; rw [(NC q hq).2.2] at this; cases this
  · exact ⟨hk₁ _ _ (hN q hq).1, Nat.ne_of_lt (Heap.lt_size (hN q hq).1), hideAll_none _ (List.mem_map_of_mem hq)⟩

theorem pc_use {p : Program} {loose : List Str} {mean : ExcName → Option Value} {mg mb : Str → Option Value} {dp un : Nat} {gd : Option (List Code)} {cn : Str} {cs : Scope} {a : Addr} {ccd : Value} {cl : List (Str × Addr)} {outer : List Env} {A₀ : Around} {base h₀ : Heap} {L : Addr} {m : Str → Option Value} {s : Shared} {news : List (Addr × Obj)} {Q E : Value → Shared → Prop}
    (C : PC w f sz vs args Out) (B : Below A₀ base outer h₀) (F : Fr h₀ L s.heap m) (X : (Mine.hd.heap_39 w.params).In h₀) (T : Top p loose mean mg mb h₀) (hk : cs.kind = .function) (N : News h₀ L s.heap news) (hsub : ∀ q ∈ args, q ∈ news) (hd : dp + sz < recursionLimit) (hu : un + 8 * sz < cLine)
    (k : ∀ r h' tk' tl, Fr h₀ L h' m → News h₀ L h' (tl ++ news) → (∀ q ∈ tl, ∀ q' ∈ news, q'.1 ≠ q.1) → (∀ b o, s.heap.get? b = some o → h'.get? b = some o) → (∀ q ∈ tl, s.heap.get? q.1 = none) → Out tl r → Q r { s with heap := h', toks := tk' }) :
    wpAny (model PG w) (ktrTop dp un gd cn cs L a ccd cl outer) (call (.ref f) vs) Q E s := by
  refine C p loose mean mg mb dp un gd cn cs a ccd cl outer A₀ base h₀ L m s Q E B F X T hk (fun q hq => N q (hsub q hq)) hd hu fun r h' tk' tl kp tn ho => ?_
  refine k r h' tk' tl (F.keeps kp) (fun q hq => ?_) (fun q hq q' hq' e => ?_) kp (fun q hq => (tn q hq).2) ho
  · rcases List.mem_append.mp hq with hq | hq
    · obtain ⟨t1, t2⟩ := tn q hq
      refine ⟨t1, fun e => ?_, ?_⟩
      · obtain ⟨oL, _, _, hL, _⟩ := F.ns
        rw [e, hL] at t2; cases t2
      · cases e : h₀.get? q.1 with
        | none => rfl
        | some o => rw [F.keep _ _ e] at t2; cases t2
    · exact ⟨kp _ _ (N q hq).1, (N q hq).2⟩
  · have := (tn q hq).2
    rw [← e, (N q' hq').1] at this; cases this
end
section
variable {w : World} {f : Addr} {sz : Nat} {vs : List Value} {args : List (Addr × Obj)} {p : Program} {loose : List Str} {mean : ExcName → Option Value} {mg mb : Str → Option Value} {dp un : Nat} {gd : Option (List Code)} {cn : Str} {cs : Scope} {a : Addr} {ccd : Value} {cl : List (Str × Addr)} {outer : List Env} {A₀ : Around} {base h₀ : Heap} {L : Addr} {m : Str → Option Value} {s : Shared} {news : List (Addr × Obj)} {Q E : Value → Shared → Prop}
theorem pc_useV {v : Value} (B : Below A₀ base outer h₀) (F : Fr h₀ L s.heap m) (X : (Mine.hd.heap_39 w.params).In h₀) (T : Top p loose mean mg mb h₀) (hk : cs.kind = .function) (N : News h₀ L s.heap news) (hsub : ∀ q ∈ args, q ∈ news) (hd : dp + sz < recursionLimit) (hu : un + 8 * sz < cLine) (C : PC w f sz vs args (fun tl r => tl = [] ∧ r = v))
    (k : ∀ h' tk', Fr h₀ L h' m → News h₀ L h' news → (∀ b o, s.heap.get? b = some o → h'.get? b = some o) → Q v { s with heap := h', toks := tk' }) :
    wpAny (model PG w) (ktrTop dp un gd cn cs L a ccd cl outer) (call (.ref f) vs) Q E s :=
  pc_use C B F X T hk N hsub hd hu fun r h' tk' tl F' N' _ kp _ ho => by
    obtain ⟨rfl, rfl⟩ := ho
    exact k h' tk' F' N' kp
theorem pc_useE {v : Tok → Value} (B : Below A₀ base outer h₀) (F : Fr h₀ L s.heap m) (X : (Mine.hd.heap_39 w.params).In h₀) (T : Top p loose mean mg mb h₀) (hk : cs.kind = .function) (N : News h₀ L s.heap news) (hsub : ∀ q ∈ args, q ∈ news) (hd : dp + sz < recursionLimit) (hu : un + 8 * sz < cLine) (C : PC w f sz vs args (fun tl r => tl = [] ∧ ∃ t, r = v t))
    (k : ∀ h' tk' t, Fr h₀ L h' m → News h₀ L h' news → (∀ b o, s.heap.get? b = some o → h'.get? b = some o) → Q (v t) { s with heap := h', toks := tk' }) :
    wpAny (model PG w) (ktrTop dp un gd cn cs L a ccd cl outer) (call (.ref f) vs) Q E s :=
  pc_use C B F X T hk N hsub hd hu fun r h' tk' tl F' N' _ kp _ ho => by
    obtain ⟨rfl, t, rfl⟩ := ho
    exact k h' tk' t F' N' kp
theorem pc_useS {P : Str → Prop} (B : Below A₀ base outer h₀) (F : Fr h₀ L s.heap m) (X : (Mine.hd.heap_39 w.params).In h₀) (T : Top p loose mean mg mb h₀) (hk : cs.kind = .function) (N : News h₀ L s.heap news) (hsub : ∀ q ∈ args, q ∈ news) (hd : dp + sz < recursionLimit) (hu : un + 8 * sz < cLine) (C : PC w f sz vs args (fun tl r => tl = [] ∧ ∃ y t, r = .str y t ∧ P y))
    (k : ∀ h' tk' y t, Fr h₀ L h' m → News h₀ L h' news → (∀ b o, s.heap.get? b = some o → h'.get? b = some o) → P y → Q (.str y t) { s with heap := h', toks := tk' }) :
    wpAny (model PG w) (ktrTop dp un gd cn cs L a ccd cl outer) (call (.ref f) vs) Q E s :=
  pc_use C B F X T hk N hsub hd hu fun r h' tk' tl F' N' _ kp _ ho => by
    obtain ⟨rfl, y, t, rfl, hy⟩ := ho
    exact k h' tk' y t F' N' kp hy
theorem pc_useR {P : Obj → Prop} (B : Below A₀ base outer h₀) (F : Fr h₀ L s.heap m) (X : (Mine.hd.heap_39 w.params).In h₀) (T : Top p loose mean mg mb h₀) (hk : cs.kind = .function) (N : News h₀ L s.heap news) (hsub : ∀ q ∈ args, q ∈ news) (hd : dp + sz < recursionLimit) (hu : un + 8 * sz < cLine) (C : PC w f sz vs args (fun tl r => ∃ y oy, r = .ref y ∧ tl = [(y, oy)] ∧ P oy))
    (k : ∀ h' tk' y oy, Fr h₀ L h' m → News h₀ L h' ((y, oy) :: news) → (∀ q ∈ news, q.1 ≠ y) → (∀ b o, s.heap.get? b = some o → h'.get? b = some o) → (∀ q ∈ [(y, oy)], s.heap.get? q.1 = none) → P oy → Q (.ref y) { s with heap := h', toks := tk' }) :
    wpAny (model PG w) (ktrTop dp un gd cn cs L a ccd cl outer) (call (.ref f) vs) Q E s :=
  pc_use C B F X T hk N hsub hd hu fun r h' tk' tl F' N' hne kp tn ho => by
    obtain ⟨y, oy, rfl, rfl, hP⟩ := ho
    exact k h' tk' y oy F' N' (hne _ (.head _)) kp tn hP
end
theorem sub_cons {α : Type} {a : α} {r l : List α} (h : a ∈ l) (t : ∀ q ∈ r, q ∈ l) : ∀ q ∈ a :: r, q ∈ l := List.forall_mem_cons.mpr ⟨h, t⟩
theorem pickN {h₀ h : Heap} {L : Addr} {k l : List (Addr × Obj)} (N : News h₀ L h l) (hs : ∀ q ∈ k, q ∈ l) : News h₀ L h k := fun q hq => N q (hs q hq)
section
variable {α : Type} {q a0 a1 a2 a3 a4 a5 a6 a7 a8 a9 : α} {l : List α}
theorem ix0 : a0 ∈ a0 :: l := .head _
theorem ix1 : a1 ∈ a0 :: a1 :: l := .tail _ (.head _)
theorem ix2 : a2 ∈ a0 :: a1 :: a2 :: l := .tail _ ix1
theorem ix3 : a3 ∈ a0 :: a1 :: a2 :: a3 :: l := .tail _ ix2
theorem ix4 : a4 ∈ a0 :: a1 :: a2 :: a3 :: a4 :: l := .tail _ ix3
theorem ix5 : a5 ∈ a0 :: a1 :: a2 :: a3 :: a4 :: a5 :: l := .tail _ ix4
theorem ix6 : a6 ∈ a0 :: a1 :: a2 :: a3 :: a4 :: a5 :: a6 :: l := .tail _ ix5
theorem ix7 : a7 ∈ a0 :: a1 :: a2 :: a3 :: a4 :: a5 :: a6 :: a7 :: l := .tail _ ix6
theorem ix8 : a8 ∈ a0 :: a1 :: a2 :: a3 :: a4 :: a5 :: a6 :: a7 :: a8 :: l := .tail _ ix7
theorem ix9 : a9 ∈ a0 :: a1 :: a2 :: a3 :: a4 :: a5 :: a6 :: a7 :: a8 :: a9 :: l := .tail _ ix8
theorem tl1 (h : q ∈ l) : q ∈ a0 :: l := .tail _ h
theorem tl2 (h : q ∈ l) : q ∈ a0 :: a1 :: l := .tail _ (tl1 h)
theorem tl3 (h : q ∈ l) : q ∈ a0 :: a1 :: a2 :: l := .tail _ (tl2 h)
theorem tl4 (h : q ∈ l) : q ∈ a0 :: a1 :: a2 :: a3 :: l := .tail _ (tl3 h)
theorem tl5 (h : q ∈ l) : q ∈ a0 :: a1 :: a2 :: a3 :: a4 :: l := .tail _ (tl4 h)
theorem tl6 (h : q ∈ l) : q ∈ a0 :: a1 :: a2 :: a3 :: a4 :: a5 :: l := .tail _ (tl5 h)
theorem tl7 (h : q ∈ l) : q ∈ a0 :: a1 :: a2 :: a3 :: a4 :: a5 :: a6 :: l := .tail _ (tl6 h)
theorem tl8 (h : q ∈ l) : q ∈ a0 :: a1 :: a2 :: a3 :: a4 :: a5 :: a6 :: a7 :: l := .tail _ (tl7 h)
theorem tl9 (h : q ∈ l) : q ∈ a0 :: a1 :: a2 :: a3 :: a4 :: a5 :: a6 :: a7 :: a8 :: l := .tail _ (tl8 h)
theorem up10 (h : q ∈ l) : q ∈ a0 :: a1 :: a2 :: a3 :: a4 :: a5 :: a6 :: a7 :: a8 :: a9 :: l := .tail _ (tl9 h)
end
theorem ne_by {l : List (Addr × Obj)} {a d : Addr} {o : Obj} (h : ∀ p ∈ l, p.1 ≠ d) (hm : (a, o) ∈ l) : a ≠ d := h _ hm
theorem ne_lt {l : List (Addr × Obj)} {a d : Addr} {o : Obj} (h : ∀ p ∈ l, p.1 < d) (hm : (a, o) ∈ l) : a ≠ d := Nat.ne_of_lt (h _ hm)
noncomputable def NeA (a b : Addr) : Prop := a ≠ b
theorem n4a {a b c e d : Addr} (h : NeA a d ∧ NeA b d ∧ NeA c d ∧ NeA e d) : a ≠ d := h.1
theorem n4b {a b c e d : Addr} (h : NeA a d ∧ NeA b d ∧ NeA c d ∧ NeA e d) : b ≠ d := h.2.1
theorem n4c {a b c e d : Addr} (h : NeA a d ∧ NeA b d ∧ NeA c d ∧ NeA e d) : c ≠ d := h.2.2.1
theorem n4d {a b c e d : Addr} (h : NeA a d ∧ NeA b d ∧ NeA c d ∧ NeA e d) : e ≠ d := h.2.2.2
theorem lim_d {x a b n : Nat} (h : x + a < n) (hb : b ≤ a) : x + b < n := Nat.lt_of_le_of_lt (Nat.add_le_add_left hb x) h
theorem lim_d1 {x a b n : Nat} (h : x + a < n) (hb : 1 + b ≤ a) : x + 1 + b < n := Nat.add_assoc x 1 b ▸ lim_d h hb
theorem lim_u3 {x a b n : Nat} (h : x + a < n) (hb : 3 + b ≤ a) : x + 3 + b < n := Nat.add_assoc x 3 b ▸ lim_d h hb
theorem sk1 {a : Nat} : a + 1 ≠ a := Nat.succ_ne_self a
theorem sk2 {a : Nat} : a + 1 + 1 ≠ a := by omega
theorem sk3 {a : Nat} : a + 1 + 1 + 1 ≠ a := by omega
theorem sk4 {a : Nat} : a + 1 + 1 + 1 + 1 ≠ a := by omega
theorem nl1 {l : List (Addr × Obj)} {a d : Addr} {o : Obj} (h : ∀ p ∈ l, p.1 < d) (hm : (a, o) ∈ l) : a ≠ d + 1 := Nat.ne_of_lt (Nat.lt_succ_of_lt (h _ hm))
theorem nl2 {l : List (Addr × Obj)} {a d : Addr} {o : Obj} (h : ∀ p ∈ l, p.1 < d) (hm : (a, o) ∈ l) : a ≠ d + 1 + 1 := Nat.ne_of_lt (Nat.lt_succ_of_lt (Nat.lt_succ_of_lt (h _ hm)))
theorem nl3 {l : List (Addr × Obj)} {a d : Addr} {o : Obj} (h : ∀ p ∈ l, p.1 < d) (hm : (a, o) ∈ l) : a ≠ d + 1 + 1 + 1 := Nat.ne_of_lt (Nat.lt_succ_of_lt (Nat.lt_succ_of_lt (Nat.lt_succ_of_lt (h _ hm))))
theorem nl4 {l : List (Addr × Obj)} {a d : Addr} {o : Obj} (h : ∀ p ∈ l, p.1 < d) (hm : (a, o) ∈ l) : a ≠ d + 1 + 1 + 1 + 1 := Nat.ne_of_lt (Nat.lt_succ_of_lt (Nat.lt_succ_of_lt (Nat.lt_succ_of_lt (Nat.lt_succ_of_lt (h _ hm)))))
noncomputable def nthL : List Value → Nat → Option Value
  | [], _ => none
  | a :: _, 0 => some a
  | _ :: r, k + 1 => nthL r k
theorem nthL_eq : ∀ (l : List Value) (k : Nat), nthL l k = l[k]?
  | [], k => by simp [nthL]
  | a :: _, 0 => by simp [nthL]
  | _ :: r, k + 1 => by simp [nthL, nthL_eq r k]
theorem my_item {prog : Program} {w : World} {A : Around} {E : Value → Shared → Prop} {s : Shared} {h₀ : Heap} {L : Addr} {news : List (Addr × Obj)} {value slice : PySem.Expr} {l : Addr} {vs : Array Value} {c : Nat} {k : Int} {u : Tok} {v : Value} {Q : Value → Shared → Prop}
    (N : News h₀ L s.heap news) (hm : (l, W.listOf vs c) ∈ news) (hx : nthL vs.toList k.toNat = some v) (h0 : 0 ≤ k) (hhi : k < 2 ^ 63) (h : Q v s)
    (hs : subscripted slice false (.ref l) (.int k u) = operate [.ref l, .int k u] (getItem (.ref l) (.int k u))) :
    wpAny (model prog w) A (subscriptTail value slice (.ref l) (.int k u)) Q E s := by
  have hl : s.heap.IsList l vs := ⟨_, N.get hm, rfl, _, rfl⟩
  exact tail_any hl.typeIs slot_list_getitem.lookup (wpAny_getItem_list hl h0 hhi (by rw [nthL_eq] at hx; simpa using hx) h) hs
end Mine
end
section
open PySem PySem.W PySem.Spec PySem.Calls PyProof.Rows PySem.Flt
set_option maxRecDepth 100000
namespace Mine
noncomputable def fmax (x y : UInt64) : UInt64 := if (Float64.cmp x y == some .lt) = true then y else x
noncomputable def fmin (x y : UInt64) : UInt64 := if (Float64.cmp y x == some .lt) = true then y else x

theorem args_max3 (a b c : Value) : argsOk "max" ⟨[a, b, c], []⟩ := by unfold argsOk; kernel_rfl
section
variable {prog : Program} {w : World} {A : Around} {E : Value → Shared → Prop} {s : Shared}
theorem call_max_three {a b c : Value} {Q : Value → Shared → Prop}
    (h : wpAny (model prog w) A.in1 (pyIter (.ref s.heap.objs.size)) (fun it s₂ => ∃ I fp wr n P St bt, it = .ref I ∧ Walks prog w A.in1 I fp wr n P St ∧ St 0 s₂.heap ∧ (∀ b ∈ fp, b < s₂.heap.objs.size) ∧ 0 < n ∧ CmpOf prog w A.in1 .Gt P bt ∧
      ∀ v h' tk, P (argBest bt (n - 1)) v → (∀ b o, b ∉ wr → s₂.heap.get? b = some o → h'.get? b = some o) → Q v { s₂ with heap := h', toks := tk }) E
      { s with heap := s.heap.push { cls := .type "tuple", data := .seq #[a, b, c] } }) :
    wpAny (model prog w) A (call (.builtin "max") [a, b, c]) Q E s := by
  have hname : (toString "max" ++ toString ".loop" : String) = "max.loop" := by decide
  refine call_function_tree F.kind_max F.plain_max F.entry_max (args_max3 _ _ _) ?_
  show wpAny _ A.in1 (Builtin.Builtins.bindParams "max" ["key", "default"] 0 ⟨[], []⟩ >>= _) _ _ s
  refine wpAny_bind (wpAny_of_eq (show Builtin.Builtins.bindParams "max" ["key", "default"] 0 ⟨[], []⟩ = pure [none, none] from rfl) ?_)
  show wpAny _ A.in1 (newTuple [a, b, c] >>= _) _ _ s
  refine wpAny_bind (wpAny_newObj_type (wpAny_bind (wpAny_mono h (fun it s₂ h₂ => ?_) fun _ _ e => e)))
  obtain ⟨I, fp, wr, n, P, St, bt, rfl, W, hst, hfp, hn, hcmp, hQ⟩ := h₂
  refine wpAny_bind (wpAny_newObj_type ?_)
  have hSf : s₂.heap.objs.size ∉ fp := fun hm => Nat.lt_irrefl _ (hfp _ hm)
  rw [hname]
  refine wpAny_pure ⟨plainId_quiet F.plain_max_loop _, codeAny_max_loop_first W bt hcmp s₂.heap.objs.size hSf hn (W.frame _ _ _ hst fun b _ o e => Heap.get?_push_of_some _ e) (Heap.get?_push_size _ rfl) fun v h' tk hP hk => ?_⟩
  exact hQ v h' tk hP fun b o hbw e => hk b o hbw (Nat.ne_of_lt (Heap.lt_size e)) (Heap.get?_push_of_some _ e)

theorem max_three_ff {x y z : UInt64} {t u v : Tok} {h₀ : Heap} {L : Addr} {m : Str → Option Value} {news : List (Addr × Obj)} {Q : Value → Shared → Prop} (hh : A.handled = none) (F : Fr h₀ L s.heap m) (N : News h₀ L s.heap news)
    (h : ∀ h' tk r, Fr h₀ L h' m → News h₀ L h' news → Q (.float (fmax (fmax x y) z) r) { s with heap := h', toks := tk }) :
    wpAny (model prog w) A (call (.builtin "max") [.float x t, .float y u, .float z v]) Q E s := by
  have hT : (s.heap.push { cls := .type "tuple", data := .seq #[.float x t, .float y u, .float z v] }).IsTuple s.heap.objs.size #[.float x t, .float y u, .float z v] := ⟨_, Heap.get?_push_size _ rfl, rfl, 0, rfl⟩
  refine call_max_three (wpAny_pyIter_tuple hT ?_)
  have hsz : (s.heap.push { cls := .type "tuple", data := .seq #[.float x t, .float y u, .float z v] }).objs.size = s.heap.objs.size + 1 := Heap.size_push ..
  refine ⟨_, [_, s.heap.objs.size], [_], _, _, _, _, rfl, Walks.tuple (A := A.in1) hh _ s.heap.objs.size (by rw [hsz]; exact Nat.ne_of_lt (Nat.lt_succ_self _)) #[.float x t, .float y u, .float z v],
    ⟨⟨_, Heap.get?_push_size _ rfl, rfl, rfl⟩, hT.push _⟩, fun c hc => ?_, by simp, cmpOf_gt #[.float x t, .float y u, .float z v] (by intro q hq; simp at hq; rcases hq with rfl | rfl | rfl <;> exact .float _ _), fun r h' tk hP hk => ?_⟩
  · show c < ((s.heap.push _).push _).objs.size
    rw [Heap.size_push, hsz]
    rcases List.mem_cons.mp hc with rfl | hc
    · rw [hsz]; exact Nat.lt_succ_self _
    · rcases List.mem_cons.mp hc with rfl | hc
      · exact Nat.lt_succ_of_lt (Nat.lt_succ_self _)
      · cases hc
  · have hold : ∀ c o, s.heap.get? c = some o → h'.get? c = some o := fun c o e => by
      refine hk c o (fun hm => ?_) (Heap.get?_push_of_some _ (Heap.get?_push_of_some _ e))
      rcases List.mem_cons.mp hm with e1 | hm
      · have := Heap.lt_size e; rw [e1, hsz] at this; exact Nat.lt_irrefl _ (Nat.lt_of_succ_lt this)
      · cases hm
    have hv : ∃ q, r = .float (fmax (fmax x y) z) q := by
      by_cases h1 : Float64.cmp x y = some .lt
      · by_cases h2 : Float64.cmp y z = some .lt
        · have e : fmax (fmax x y) z = z := by simp [fmax, h1, h2]
          simp [argBest, ltV, h1, h2] at hP; rw [e, ← hP]; exact ⟨_, rfl⟩
        · have e : fmax (fmax x y) z = y := by simp [fmax, h1, h2]
          simp [argBest, ltV, h1, h2] at hP; rw [e, ← hP]; exact ⟨_, rfl⟩
      · by_cases h2 : Float64.cmp x z = some .lt
        · have e : fmax (fmax x y) z = z := by simp [fmax, h1, h2]
          simp [argBest, ltV, h1, h2] at hP; rw [e, ← hP]; exact ⟨_, rfl⟩
        · have e : fmax (fmax x y) z = x := by simp [fmax, h1, h2]
          simp [argBest, ltV, h1, h2] at hP; rw [e, ← hP]; exact ⟨_, rfl⟩
    obtain ⟨q, rfl⟩ := hv
    exact h h' tk q (F.grownK hold) (N.grown hold)
end

theorem args_min3 (a b c : Value) : argsOk "min" ⟨[a, b, c], []⟩ := by unfold argsOk; kernel_rfl
section
variable {prog : Program} {w : World} {A : Around} {E : Value → Shared → Prop} {s : Shared}
theorem call_min_three {a b c : Value} {Q : Value → Shared → Prop}
    (h : wpAny (model prog w) A.in1 (pyIter (.ref s.heap.objs.size)) (fun it s₂ => ∃ I fp wr n P St bt, it = .ref I ∧ Walks prog w A.in1 I fp wr n P St ∧ St 0 s₂.heap ∧ (∀ b ∈ fp, b < s₂.heap.objs.size) ∧ 0 < n ∧ CmpOf prog w A.in1 .Lt P bt ∧
      ∀ v h' tk, P (argBest bt (n - 1)) v → (∀ b o, b ∉ wr → s₂.heap.get? b = some o → h'.get? b = some o) → Q v { s₂ with heap := h', toks := tk }) E
      { s with heap := s.heap.push { cls := .type "tuple", data := .seq #[a, b, c] } }) :
    wpAny (model prog w) A (call (.builtin "min") [a, b, c]) Q E s := by
  have hname : (toString "min" ++ toString ".loop" : String) = "min.loop" := by decide
  refine call_function_tree F.kind_min F.plain_min F.entry_min (args_min3 _ _ _) ?_
  show wpAny _ A.in1 (Builtin.Builtins.bindParams "min" ["key", "default"] 0 ⟨[], []⟩ >>= _) _ _ s
  refine wpAny_bind (wpAny_of_eq (show Builtin.Builtins.bindParams "min" ["key", "default"] 0 ⟨[], []⟩ = pure [none, none] from rfl) ?_)
  show wpAny _ A.in1 (newTuple [a, b, c] >>= _) _ _ s
  refine wpAny_bind (wpAny_newObj_type (wpAny_bind (wpAny_mono h (fun it s₂ h₂ => ?_) fun _ _ e => e)))
  obtain ⟨I, fp, wr, n, P, St, bt, rfl, W, hst, hfp, hn, hcmp, hQ⟩ := h₂
  refine wpAny_bind (wpAny_newObj_type ?_)
  have hSf : s₂.heap.objs.size ∉ fp := fun hm => Nat.lt_irrefl _ (hfp _ hm)
  rw [hname]
  refine wpAny_pure ⟨plainId_quiet F.plain_min_loop _, codeAny_min_loop_first W bt hcmp s₂.heap.objs.size hSf hn (W.frame _ _ _ hst fun b _ o e => Heap.get?_push_of_some _ e) (Heap.get?_push_size _ rfl) fun v h' tk hP hk => ?_⟩
  exact hQ v h' tk hP fun b o hbw e => hk b o hbw (Nat.ne_of_lt (Heap.lt_size e)) (Heap.get?_push_of_some _ e)

theorem min_three_ff {x y z : UInt64} {t u v : Tok} {h₀ : Heap} {L : Addr} {m : Str → Option Value} {news : List (Addr × Obj)} {Q : Value → Shared → Prop} (hh : A.handled = none) (F : Fr h₀ L s.heap m) (N : News h₀ L s.heap news)
    (h : ∀ h' tk r, Fr h₀ L h' m → News h₀ L h' news → Q (.float (fmin (fmin x y) z) r) { s with heap := h', toks := tk }) :
    wpAny (model prog w) A (call (.builtin "min") [.float x t, .float y u, .float z v]) Q E s := by
  have hT : (s.heap.push { cls := .type "tuple", data := .seq #[.float x t, .float y u, .float z v] }).IsTuple s.heap.objs.size #[.float x t, .float y u, .float z v] := ⟨_, Heap.get?_push_size _ rfl, rfl, 0, rfl⟩
  refine call_min_three (wpAny_pyIter_tuple hT ?_)
  have hsz : (s.heap.push { cls := .type "tuple", data := .seq #[.float x t, .float y u, .float z v] }).objs.size = s.heap.objs.size + 1 := Heap.size_push ..
  refine ⟨_, [_, s.heap.objs.size], [_], _, _, _, _, rfl, Walks.tuple (A := A.in1) hh _ s.heap.objs.size (by rw [hsz]; exact Nat.ne_of_lt (Nat.lt_succ_self _)) #[.float x t, .float y u, .float z v],
    ⟨⟨_, Heap.get?_push_size _ rfl, rfl, rfl⟩, hT.push _⟩, fun c hc => ?_, by simp, cmpOf_lt #[.float x t, .float y u, .float z v] (by intro q hq; simp at hq; rcases hq with rfl | rfl | rfl <;> exact .float _ _), fun r h' tk hP hk => ?_⟩
  · show c < ((s.heap.push _).push _).objs.size
    rw [Heap.size_push, hsz]
    rcases List.mem_cons.mp hc with rfl | hc
    · rw [hsz]; exact Nat.lt_succ_self _
    · rcases List.mem_cons.mp hc with rfl | hc
      · exact Nat.lt_succ_of_lt (Nat.lt_succ_self _)
      · cases hc
  · have hold : ∀ c o, s.heap.get? c = some o → h'.get? c = some o := fun c o e => by
      refine hk c o (fun hm => ?_) (Heap.get?_push_of_some _ (Heap.get?_push_of_some _ e))
      rcases List.mem_cons.mp hm with e1 | hm
      · have := Heap.lt_size e; rw [e1, hsz] at this; exact Nat.lt_irrefl _ (Nat.lt_of_succ_lt this)
      · cases hm
    have hv : ∃ q, r = .float (fmin (fmin x y) z) q := by
      by_cases h1 : Float64.cmp y x = some .lt
      · by_cases h2 : Float64.cmp z y = some .lt
        · have e : fmin (fmin x y) z = z := by simp [fmin, h1, h2]
          simp [argBest, ltV, h1, h2] at hP; rw [e, ← hP]; exact ⟨_, rfl⟩
        · have e : fmin (fmin x y) z = y := by simp [fmin, h1, h2]
          simp [argBest, ltV, h1, h2] at hP; rw [e, ← hP]; exact ⟨_, rfl⟩
      · by_cases h2 : Float64.cmp z x = some .lt
        · have e : fmin (fmin x y) z = z := by simp [fmin, h1, h2]
          simp [argBest, ltV, h1, h2] at hP; rw [e, ← hP]; exact ⟨_, rfl⟩
        · have e : fmin (fmin x y) z = x := by simp [fmin, h1, h2]
          simp [argBest, ltV, h1, h2] at hP; rw [e, ← hP]; exact ⟨_, rfl⟩
    obtain ⟨q, rfl⟩ := hv
    exact h h' tk q (F.grownK hold) (N.grown hold)
end
end Mine
end
section
open PySem PySem.W PySem.Spec PySem.Calls PyProof.Rows
set_option maxRecDepth 100000
namespace Mine

/-- one sign for its spelling -/
noncomputable def sub1 (c : Nat) (z : List Nat) (d : Nat) : List Nat := if d = c then z else [d]
theorem sub1_free (c : Nat) (z : List Nat) : ∀ l : List Nat, c ∉ l → l.flatMap (sub1 c z) = l := by
  intro l
  induction l with
  | nil => intro _; rfl
  | cons k r ih =>
    intro h
    have h1 : ¬ k = c := fun e => h (by rw [e]; exact List.mem_cons_self)
    rw [List.flatMap_cons, ih fun m => h (List.mem_cons_of_mem _ m)]
    simp [sub1, h1]
theorem sub1_join (c : Nat) (z : Str) : ∀ parts : List Str, (∀ p ∈ parts, c ∉ p.cps.toList) → (Str.join ⟨#[c]⟩ parts).cps.toList.flatMap (sub1 c z.cps.toList) = (Str.join z parts).cps.toList := by
  intro parts
  induction parts with
  | nil => intro _; rfl
  | cons p r ih =>
    intro h
    cases r with
    | nil => exact sub1_free _ _ _ (h p List.mem_cons_self)
    | cons q r =>
      have e := ih fun a ha => h a (List.mem_cons_of_mem _ ha)
      show (p ++ ⟨#[c]⟩ ++ Str.join ⟨#[c]⟩ (q :: r)).cps.toList.flatMap _ = (p ++ z ++ Str.join z (q :: r)).cps.toList
      simp only [Str.cps_append, Array.toList_append, List.flatMap_append]
      rw [e, sub1_free _ _ _ (h p List.mem_cons_self)]
      simp [sub1]
theorem replace_sub1 (x z : Str) (c : Nat) : (Txt.replace x ⟨#[c]⟩ z).cps.toList = x.cps.toList.flatMap (sub1 c z.cps.toList) := by
  rw [StrLaws.replace_one, ← sub1_join c z _ (StrLaws.split_free x c), StrLaws.join_split]
theorem missed {x : Str} {c : Nat} (h : (Builtin.Str.occurrences x ⟨#[c]⟩ 0 x.length 1).isEmpty = true) : c ∉ x.cps.toList := by
  have e := StrLaws.found_one x c
  rw [h] at e
  exact of_decide_eq_false e.symm
theorem hit {x : Str} {c : Nat} (h : (Builtin.Str.occurrences x ⟨#[c]⟩ 0 x.length 1).isEmpty = false) : c ∈ x.cps.toList := by
  have e := StrLaws.found_one x c
  rw [h] at e
  exact of_decide_eq_true e.symm
end Mine
end
section
open PySem PySem.W PySem.Spec PySem.Calls PyProof.Rows
set_option maxRecDepth 100000
namespace Mine

/-- an object that is a block of names -/
noncomputable def NsObj (o : Obj) (m : Str → Option Value) : Prop := ∀ (h : Heap) (a : Addr), h.get? a = some o → h.Ns a m
theorem nsObj_of {h : Heap} {a : Addr} {m : Str → Option Value} (n : h.Ns a m) : ∃ o, h.get? a = some o ∧ NsObj o m := by
  obtain ⟨o, es, ep, ho, r⟩ := n
  exact ⟨o, ho, fun h' a' e => ⟨o, es, ep, e, r⟩⟩

/-- what a comprehension's turn hands on -/
noncomputable def EltPost (R : Nat → List Value → List (Addr × Obj) → Prop) (i : Nat) (ys : List Value) (os : List (Addr × Obj)) (s₃ : Shared) (y : Value) (s₄ : Shared) : Prop :=
  Keeps s₃ s₄ ∧ ∃ os', (∀ q ∈ os', s₄.heap.get? q.1 = some q.2 ∧ s₃.heap.get? q.1 = none) ∧ R (i + 1) (ys ++ [y]) (os' ++ os)

section
variable {prog : Program} {w : World} {A : Around} {RR : Result → Shared → Prop} {s : Shared}

theorem compLoop_ix {elt iter : Expr} {x : Str} {px : Pos} {ifs : List Expr} {scope : Scope} {pos : Pos} {I D : Addr} {fp wr : List Addr} {n : Nat} {P : Nat → Value → Prop} {St : Nat → Heap → Prop}
    {cenv : Env} {m : Str → Option Value} (W : Walks prog w A I fp wr n P St) (R : Nat → List Value → List (Addr × Obj) → Prop)
    (hwr : ∀ i h, St i h → ∀ b ∈ wr, ∃ o, h.get? b = some o)
    (hx : cenv.kindOf x = some .local) (hp : (cenv.scope.kind == .class || (cenv.scope.kind == .module && cenv.locals != cenv.globals)) = false)
    (hDC : D ≠ cenv.locals) (hDf : D ∉ fp) (hCf : cenv.locals ∉ fp)
    (hst : St 0 s.heap) (hacc : s.heap.PlainList D #[]) (hn : s.heap.Ns cenv.locals m) (R0 : R 0 [] [])
    (step : ∀ i v s₂ oC mm ys os E', i < n → P i v → R i ys os → s₂.heap.get? cenv.locals = some oC → NsObj oC mm → mm x = some v → (∀ b o, b ≠ cenv.locals → b ∉ wr → b ≠ D → s.heap.get? b = some o → s₂.heap.get? b = some o) →
      (∀ q ∈ os, s₂.heap.get? q.1 = some q.2 ∧ s.heap.get? q.1 = none) → (∃ h tk, s₂ = { s with heap := h, toks := tk }) →
      wpAny (model prog w) A (forIn ifs true fun c r => if r = true then do let ok ← isTrue c cenv (eval c cenv); pure (ForInStep.yield ok) else pure (ForInStep.yield r))
        (fun ok s₃ => Keeps s₂ s₃ ∧ if ok = true then wpAny (model prog w) A (eval elt cenv) (EltPost R i ys os s₃) E' s₃ else R (i + 1) ys os) E' s₂)
    (fin : ∀ h' tk m' ys os, h'.Ns cenv.locals m' → h'.PlainList D ys.toArray → R n ys os → (∀ q ∈ os, h'.get? q.1 = some q.2 ∧ q.1 ≠ D ∧ q.1 ≠ cenv.locals ∧ s.heap.get? q.1 = none) →
      (∀ b o, b ≠ cenv.locals → b ∉ wr → b ≠ D → s.heap.get? b = some o → h'.get? b = some o) → RR (.ok .next) { s with heap := h', toks := tk })
    (hsz : n ≤ sizeLine) :
    codeAny (model prog w) A (.compLoop (.ListComp elt [⟨.Name x px, iter, ifs, 0⟩] scope pos) 0 (.ref I) (.ref D) cenv) RR s := by
  have hCw : cenv.locals ∉ wr := fun h => hCf (W.sub _ h)
  have hDw : D ∉ wr := fun h => hDf (W.sub _ h)
  refine codeAny_compLoop_tests
    (fun k s' => ∃ h' tk m' ys os i, s' = { s with heap := h', toks := tk } ∧ St i h' ∧ h'.PlainList D ys.toArray ∧ h'.Ns cenv.locals m' ∧ R i ys os ∧
      (∀ q ∈ os, h'.get? q.1 = some q.2 ∧ q.1 ≠ D ∧ q.1 ≠ cenv.locals ∧ q.1 ∉ wr ∧ s.heap.get? q.1 = none) ∧ ys.length ≤ i ∧ i ≤ n ∧ k = n + 1 - i ∧
      (∀ b o, b ≠ cenv.locals → b ∉ wr → b ≠ D → s.heap.get? b = some o → h'.get? b = some o)) ?_ (n + 1)
    ⟨s.heap, s.toks, m, [], [], 0, rfl, hst, hacc, hn, R0, fun _ h => (nomatch h), Nat.le_refl _, Nat.zero_le _, rfl, fun _ _ _ _ _ e => e⟩
  rintro k s' ⟨H, tk, m', ys, os, i, rfl, hst', hacc', hn', hR, hos, hyl, hi, rfl, hk⟩
  by_cases hlt : i < n
  · refine W.item i _ _ _ hlt hst' fun v h₁ tk₁ hPv hst₁ hk₁ => ?_
    refine wpAny_assign_Name (wpAny_storeName_local hx (hn'.at' fun o e => hk₁ _ o hCw e) (fun h₂ hn₂ hs₂ => ?_) hp)
    have up₂ : ∀ b o, b ≠ cenv.locals → b ∉ wr → H.get? b = some o → h₂.get? b = some o := fun b o hbC hbf e => hs₂.extBut b o hbC (hk₁ b o hbf e)
    have hst₂ : St (i + 1) h₂ := W.frame _ _ _ hst₁ fun b hb o e => hs₂.extBut b o (fun h => hCf (h ▸ hb)) e
    obtain ⟨oC, hoC, hNC⟩ := nsObj_of hn₂
    have hos₂ : ∀ q ∈ os, h₂.get? q.1 = some q.2 := fun q hq => up₂ _ _ (hos q hq).2.2.1 (hos q hq).2.2.2.1 (hos q hq).1
    refine wpAny_mono (step i v { s with heap := h₂, toks := tk₁ + 1 } oC _ ys os _ hlt hPv hR hoC hNC (by simp) (fun b o hbC hbf hbD e => up₂ b o hbC hbf (hk b o hbC hbf hbD e)) (fun q hq => ⟨hos₂ q hq, (hos q hq).2.2.2.2⟩) ⟨_, _, rfl⟩) (fun ok s₃ h₃ => ?_) fun _ _ e => e
    obtain ⟨⟨h₃, tk₃, rfl, hk₃⟩, hw⟩ := h₃
    dsimp only at hk₃ hw ⊢
    have hst₃ : St (i + 1) h₃ := W.frame _ _ _ hst₂ fun b _ o e => hk₃ b o e
    have hacc₃ : h₃.PlainList D ys.toArray := hacc'.at fun o e => hk₃ _ o (up₂ D o hDC hDw e)
    have hn₃ := hn₂.keeps hk₃
    have hos₃ : ∀ q ∈ os, h₃.get? q.1 = some q.2 := fun q hq => hk₃ _ _ (hos₂ q hq)
    cases ok with
    | false =>
      simp only [Bool.false_eq_true, if_false] at hw ⊢
      exact ⟨n + 1 - (i + 1), by omega, h₃, tk₃, _, ys, os, i + 1, rfl, hst₃, hacc₃, hn₃, hw, fun q hq => ⟨hos₃ q hq, (hos q hq).2⟩, by omega, hlt, rfl, fun b o hbC hbf hbD e => hk₃ b o (up₂ b o hbC hbf (hk b o hbC hbf hbD e))⟩
    | true =>
      simp only [if_true] at hw ⊢
      refine wpAny_mono hw (fun y s₄ h₄ => ?_) fun _ _ e => e
      obtain ⟨⟨h₄, tk₄, rfl, hk₄⟩, os', hos', hR'⟩ := h₄
      dsimp only at hk₄ hos' ⊢
      have hys : ys.toArray.size ≤ sizeLine := by rw [List.size_toArray]; omega
      refine wpAny_list_append_plain (hsz := hys) (hacc₃.at fun o e => hk₄ _ o e) fun h₅ hl₅ hs₅ => ?_
      have hl₅' : h₅.PlainList D (ys ++ [y]).toArray := by
        have e : (ys ++ [y]).toArray = ys.toArray.push y := by simp
        rw [e]; exact hl₅
      obtain ⟨nD, hD⟩ := hacc₃
      refine ⟨n + 1 - (i + 1), by omega, h₅, tk₄, _, ys ++ [y], os' ++ os, i + 1, rfl, ?_, hl₅', (hn₃.keeps hk₄).sameBut hs₅ (Ne.symm hDC), hR', ?_, ?_, hlt, rfl, fun b o hbC hbf hbD e => hs₅.extBut b o hbD (hk₄ b o (hk₃ b o (up₂ b o hbC hbf (hk b o hbC hbf hbD e))))⟩
      · exact W.frame _ _ h₅ hst₃ fun b hb o e => hs₅.extBut b o (fun h => hDf (h ▸ hb)) (hk₄ b o e)
      · intro q hq
        rcases List.mem_append.mp hq with hq | hq
        · have hnone := (hos' q hq).2
          have nD' : q.1 ≠ D := fun e => by rw [e, hD] at hnone; cases hnone
          have nC : q.1 ≠ cenv.locals := fun e => by rw [e, hk₃ _ _ hoC] at hnone; cases hnone
          refine ⟨hs₅.extBut _ _ nD' (hos' q hq).1, nD', nC, fun hb => ?_, ?_⟩
          · obtain ⟨o, ho⟩ := hwr _ _ hst₃ _ hb
            rw [ho] at hnone; cases hnone
          · cases e : s.heap.get? q.1 with
            | none => rfl
            | some o =>
              by_cases hb : q.1 ∈ wr
              · obtain ⟨o', ho'⟩ := hwr _ _ hst₃ _ hb
                rw [ho'] at hnone; cases hnone
              · rw [hk₃ _ _ (up₂ _ _ nC hb (hk _ _ nC hb nD' e))] at hnone; cases hnone
        · have z := hos q hq
          exact ⟨hs₅.extBut _ _ z.2.1 (hk₄ _ _ (hos₃ q hq)), z.2⟩
      · rw [List.length_append, List.length_singleton]; omega
  · have hin : i = n := by omega
    subst hin
    refine W.done _ _ _ hst' fun h₁ tk₁ hk₁ => ?_
    exact fin h₁ tk₁ m' ys os (hn'.at' fun o e => hk₁ _ o hCw e) (hacc'.at fun o e => hk₁ _ o hDw e) hR (fun q hq => ⟨hk₁ _ _ (hos q hq).2.2.2.1 (hos q hq).1, (hos q hq).2.1, (hos q hq).2.2.1, (hos q hq).2.2.2.2⟩) fun b o hbC hbf hbD e => hk₁ b o hbf (hk b o hbC hbf hbD e)
end

section
variable {prog : Program} {w : World} {A : Around} {E : Value → Shared → Prop} {env : Env} {s : Shared}

theorem comp_core {elt iter : Expr} {x : Str} {px : Pos} {ifs : List Expr} {scope : Scope} {cl : List (Str × Addr)} {pos : Pos} {s₂ : Shared} {I : Addr} {fp wr : List Addr} {n : Nat} {P : Nat → Value → Prop} {St : Nat → Heap → Prop} {RR : Value → Addr → Result → Shared → Prop}
    (hcell : ∀ y ∈ scope.names, y.2 ≠ .cell) (hkind : scope.kind = .function) (hx : scope.names.lookup x = some .local)
    (W : Walks prog w A I fp wr n P St) (hwr : ∀ i h, St i h → ∀ b ∈ wr, ∃ o, h.get? b = some o) (hsz : n ≤ sizeLine) (hst : St 0 s₂.heap) (hfp : ∀ b ∈ fp, b < s₂.heap.objs.size)
    (R : Nat → List Value → List (Addr × Obj) → Prop) (R0 : R 0 [] [])
    (step : ∀ C i v s₃ oC mm ys os E', i < n → P i v → R i ys os → s₃.heap.get? C = some oC → NsObj oC mm → mm x = some v → s₂.heap.get? C = none → (∀ b o, b ∉ wr → s₂.heap.get? b = some o → s₃.heap.get? b = some o) →
        (∀ q ∈ os, s₃.heap.get? q.1 = some q.2 ∧ s₂.heap.get? q.1 = none) → (∃ h tk, s₃ = { s₂ with heap := h, toks := tk }) →
        wpAny (model prog w) A (forIn ifs true fun c r => if r = true then do let ok ← isTrue c (compEnvC scope cl C env) (eval c (compEnvC scope cl C env)); pure (ForInStep.yield ok) else pure (ForInStep.yield r))
          (fun ok s₄ => Keeps s₃ s₄ ∧ if ok = true then wpAny (model prog w) A (eval elt (compEnvC scope cl C env)) (EltPost R i ys os s₄) E' s₄ else R (i + 1) ys os) E' s₃)
    (fin : ∀ D C h' tk m' ys os, s₂.heap.get? D = none → s₂.heap.get? C = none → D ≠ C → h'.Ns C m' → h'.PlainList D ys.toArray → R n ys os → (∀ q ∈ os, h'.get? q.1 = some q.2 ∧ q.1 ≠ D ∧ q.1 ≠ C ∧ s₂.heap.get? q.1 = none) → (∀ b o, b ∉ wr → s₂.heap.get? b = some o → h'.get? b = some o) →
        RR (.ref D) C (.ok .next) { s₂ with heap := h', toks := tk }) :
    wpAny (model prog w) A (newList []) (fun acc s₃ => wpAny (model prog w) A (newFunctionEnv scope env.globals cl [] env.qual none .none (some env)) (fun cenv s₄ =>
      codeAny (model prog w) A (.compStart (.ListComp elt [⟨.Name x px, iter, ifs, 0⟩] scope pos) 0 (.ref I) acc { cenv with scope := relabel scope env }) (RR acc cenv.locals) s₄) E s₃) E s₂ := by
  refine wpAny_newObj_type (wpAny_newFunctionEnv hcell (by intro y hy; simp at hy) (fun h₁ hns₁ hsb₁ => ?_) hkind)
  dsimp only at hns₁ hsb₁ ⊢
  generalize hH2 : s₂.heap.push { cls := .type "list", dict := none, data := .seq ([] : List Value).toArray } = H2 at hns₁ hsb₁ ⊢
  have hC : H2.objs.size = s₂.heap.objs.size + 1 := by rw [← hH2, Heap.size_push]
  have hDC : s₂.heap.objs.size ≠ H2.objs.size := by rw [hC]; exact Nat.ne_of_lt (Nat.lt_succ_self _)
  have below : ∀ b, b < s₂.heap.objs.size → b ≠ H2.objs.size ∧ b ≠ s₂.heap.objs.size := fun b hb => ⟨by rw [hC]; exact Nat.ne_of_lt (Nat.lt_succ_of_lt hb), Nat.ne_of_lt hb⟩
  have hDf : s₂.heap.objs.size ∉ fp := fun hm => Nat.lt_irrefl _ (hfp _ hm)
  have hCf : H2.objs.size ∉ fp := fun hm => by have := hfp _ hm; rw [hC] at this; exact Nat.lt_irrefl _ (Nat.lt_of_succ_lt this)
  have old : ∀ b o, s₂.heap.get? b = some o → h₁.get? b = some o := fun b o e => hsb₁.extBut b o (below b (Heap.lt_size e)).1 (Heap.get?_push_of_some _ (hH2 ▸ Heap.get?_push_of_some _ e))
  have hacc : h₁.PlainList s₂.heap.objs.size #[] := ⟨_, hsb₁.extBut _ _ hDC (Heap.get?_push_of_some _ (hH2 ▸ Heap.get?_push_size _ rfl))⟩
  have hst₁ : St 0 h₁ := W.frame _ _ _ hst fun b _ o e => old b o e
  have fresh : ∀ a, s₂.heap.objs.size ≤ a → s₂.heap.get? a = none := fun a ha => by
    cases e : s₂.heap.get? a with
    | none => rfl
    | some o' => exact absurd (Heap.lt_size e) (Nat.not_lt.mpr ha)
  have hCn : s₂.heap.get? H2.objs.size = none := fresh _ (by rw [hC]; exact Nat.le_succ _)
  have unold : ∀ b, h₁.get? b = none → s₂.heap.get? b = none := fun b e => by
    cases q : s₂.heap.get? b with
    | none => rfl
    | some o => rw [old _ _ q] at e; cases e
  have loop : codeAny (model prog w) A (.compLoop (.ListComp elt [⟨.Name x px, iter, ifs, 0⟩] scope pos) 0 (.ref I) (.ref s₂.heap.objs.size) (compEnvC scope cl H2.objs.size env))
        (RR (.ref s₂.heap.objs.size) H2.objs.size) { s₂ with heap := h₁, toks := s₂.toks + ([] : List (Str × Value)).length } := by
    refine compLoop_ix (hsz := hsz) (cenv := compEnvC scope cl H2.objs.size env) W R hwr (lookup_relabel_local hx) (by simp [compEnvC, relabel, hkind]) hDC hDf hCf hst₁ hacc hns₁ R0 ?_ ?_
    · intro i v s₃ oC mm ys os E' hi hP hR hoC hNC hm hk hos hsh
      obtain ⟨h₃, tk₃, rfl⟩ := hsh
      exact step H2.objs.size i v _ oC mm ys os E' hi hP hR hoC hNC hm hCn (fun b o hb e => hk b o (below b (Heap.lt_size e)).1 hb (below b (Heap.lt_size e)).2 (old b o e)) (fun q hq => ⟨(hos q hq).1, unold _ (hos q hq).2⟩) ⟨_, _, rfl⟩
    · intro h' tk m' ys os hn hpl hR hos hk
      exact fin s₂.heap.objs.size H2.objs.size h' tk m' ys os (fresh _ (Nat.le_refl _)) hCn hDC hn hpl hR (fun q hq => ⟨(hos q hq).1, (hos q hq).2.1, (hos q hq).2.2.1, unold _ (hos q hq).2.2.2⟩)
        fun b o hb e => hk b o (below b (Heap.lt_size e)).1 hb (below b (Heap.lt_size e)).2 (old b o e)
  exact codeAny_compStart_list loop (W.self 0 _ _ _ hst₁ loop)

/-- a comprehension by what holds behind each turn; its elements may make objects -/
theorem comp_ix {elt iter : Expr} {x : Str} {px : Pos} {ifs : List Expr} {scope : Scope} {cl : List (Str × Addr)} {pos : Pos} {Q : Value → Shared → Prop}
    (hclos : closureFor scope env = pure cl) (hcell : ∀ y ∈ scope.names, y.2 ≠ .cell) (hkind : scope.kind = .function)
    (hnames : ∀ y ∈ scope.names, y.2 = .local → scope.names.lookup y.1 = some .local) (hx : scope.names.lookup x = some .local)
    (h : wpAny (model prog w) A (eval iter env) (fun xv s₁ => wpAny (model prog w) A (pyIter xv) (fun it s₂ => ∃ I fp wr n P St, it = .ref I ∧ Walks prog w A I fp wr n P St ∧ (∀ i h, St i h → ∀ b ∈ wr, ∃ o, h.get? b = some o) ∧ n ≤ sizeLine ∧ St 0 s₂.heap ∧ (∀ b ∈ fp, b < s₂.heap.objs.size) ∧
      ∃ R : Nat → List Value → List (Addr × Obj) → Prop, R 0 [] [] ∧
      (∀ C i v s₃ oC mm ys os E', i < n → P i v → R i ys os → s₃.heap.get? C = some oC → NsObj oC mm → mm x = some v → s₂.heap.get? C = none → (∀ b o, b ∉ wr → s₂.heap.get? b = some o → s₃.heap.get? b = some o) →
        (∀ q ∈ os, s₃.heap.get? q.1 = some q.2 ∧ s₂.heap.get? q.1 = none) → (∃ h tk, s₃ = { s₂ with heap := h, toks := tk }) →
        wpAny (model prog w) A (forIn ifs true fun c r => if r = true then do let ok ← isTrue c (compEnvC scope cl C env) (eval c (compEnvC scope cl C env)); pure (ForInStep.yield ok) else pure (ForInStep.yield r))
          (fun ok s₄ => Keeps s₃ s₄ ∧ if ok = true then wpAny (model prog w) A (eval elt (compEnvC scope cl C env)) (EltPost R i ys os s₄) E' s₄ else R (i + 1) ys os) E' s₃) ∧
      (∀ D h' tk ys os, s₂.heap.get? D = none → h'.PlainList D ys.toArray → R n ys os → (∀ q ∈ os, h'.get? q.1 = some q.2 ∧ q.1 ≠ D ∧ s₂.heap.get? q.1 = none) → (∀ b o, b ∉ wr → s₂.heap.get? b = some o → h'.get? b = some o) →
        Q (.ref D) { s₂ with heap := h', toks := tk })) E s₁) E s)
    (hs : ∀ x, foldedSetIterable iter env x = pure x) :
    wpAny (model prog w) A (eval (.ListComp elt [⟨.Name x px, iter, ifs, 0⟩] scope pos) env) Q E s := by
  rw [eval_ListComp]
  refine wpAny_comprehension_free (use := none) rfl hs hclos hkind hnames (wpAny_mono h (fun xv s₁ h₁ => wpAny_mono h₁ (fun it s₂ h₂ => ?_) fun _ _ e => e) fun _ _ e => e)
  obtain ⟨I, fp, wr, n, P, St, rfl, W, hwr, hsz, hst, hfp, R, R0, step, fin⟩ := h₂
  refine comp_core (RR := fun acc C => compPost (model prog w) A E none Q acc C) hcell hkind hx W hwr hsz hst hfp R R0 step ?_
  intro D C h' tk m' ys os hD hC hDC hn hpl hR hos hk
  refine ⟨m', hn, fun h'' hs'' => ?_⟩
  refine fin D h'' tk ys os hD (hpl.extBut hs''.extBut hDC) hR (fun q hq => ⟨hs''.extBut _ _ (hos q hq).2.2.1 (hos q hq).1, (hos q hq).2.1, (hos q hq).2.2.2⟩) fun b o hb e => ?_
  exact hs''.extBut b o (by rintro rfl; rw [hC] at e; cases e) (hk b o hb e)

/-- the same where the statement stores it into a name at once -/
theorem comp_ixA {elt iter : Expr} {x y : Str} {px py : Pos} {ifs : List Expr} {scope : Scope} {cl : List (Str × Addr)} {pos spos : Pos} {Q : Flow → Shared → Prop}
    (hsw : swapsWith (.ListComp elt [⟨.Name x px, iter, ifs, 0⟩] scope pos) (some (.Name y py)) spos.line env = pure true)
    (hclos : closureFor scope env = pure cl) (hcell : ∀ z ∈ scope.names, z.2 ≠ .cell) (hkind : scope.kind = .function)
    (hnames : ∀ z ∈ scope.names, z.2 = .local → scope.names.lookup z.1 = some .local) (hx : scope.names.lookup x = some .local)
    (hy : env.kindOf y = some .local) (hp : (env.scope.kind == .class || (env.scope.kind == .module && env.locals != env.globals)) = false)
    (h : wpAny (model prog w) A (eval iter env) (fun xv s₁ => wpAny (model prog w) A (pyIter xv) (fun it s₂ => ∃ I fp wr n P St m, it = .ref I ∧ Walks prog w A I fp wr n P St ∧ (∀ i h, St i h → ∀ b ∈ wr, ∃ o, h.get? b = some o) ∧ n ≤ sizeLine ∧ St 0 s₂.heap ∧ (∀ b ∈ fp, b < s₂.heap.objs.size) ∧ env.locals ∉ wr ∧ s₂.heap.Ns env.locals m ∧
      ∃ R : Nat → List Value → List (Addr × Obj) → Prop, R 0 [] [] ∧
      (∀ C i v s₃ oC mm ys os E', i < n → P i v → R i ys os → s₃.heap.get? C = some oC → NsObj oC mm → mm x = some v → s₂.heap.get? C = none → (∀ b o, b ∉ wr → s₂.heap.get? b = some o → s₃.heap.get? b = some o) →
        (∀ q ∈ os, s₃.heap.get? q.1 = some q.2 ∧ s₂.heap.get? q.1 = none) → (∃ h tk, s₃ = { s₂ with heap := h, toks := tk }) →
        wpAny (model prog w) A (forIn ifs true fun c r => if r = true then do let ok ← isTrue c (compEnvC scope cl C env) (eval c (compEnvC scope cl C env)); pure (ForInStep.yield ok) else pure (ForInStep.yield r))
          (fun ok s₄ => Keeps s₃ s₄ ∧ if ok = true then wpAny (model prog w) A (eval elt (compEnvC scope cl C env)) (EltPost R i ys os s₄) E' s₄ else R (i + 1) ys os) E' s₃) ∧
      (∀ D h' tk ys os, s₂.heap.get? D = none → h'.PlainList D ys.toArray → R n ys os → (∀ q ∈ os, h'.get? q.1 = some q.2 ∧ q.1 ≠ D ∧ s₂.heap.get? q.1 = none) → h'.Ns env.locals (fun z => if z = y then some (.ref D) else m z) →
        (∀ b o, b ≠ env.locals → b ∉ wr → s₂.heap.get? b = some o → h'.get? b = some o) → Q .next { s₂ with heap := h', toks := tk })) E s₁) E s)
    (hs : ∀ x, foldedSetIterable iter env x = pure x) :
    wpAny (model prog w) A (exec (.Assign [.Name y py] (.ListComp elt [⟨.Name x px, iter, ifs, 0⟩] scope pos) spos) env) Q E s := by
  rw [exec_Assign_Name_used _ _ _ _ hsw]
  refine wpAny_bind (wpAny_standAt (wpAny_bind ?_))
  show wpAny _ A (do let _ ← comprehension (.ListComp elt [⟨.Name x px, iter, ifs, 0⟩] scope pos) scope env _ (newList []) false (eval iter env) (some (assign (.Name y py) env))) _ _ s
  refine wpAny_bind (wpAny_mono (wpAny_comprehension_free (use := some (assign (.Name y py) env)) (Q := fun _ s' => Q .next s') rfl hs hclos hkind hnames
    (wpAny_mono h (fun xv s₁ h₁ => wpAny_mono h₁ (fun it s₂ h₂ => ?_) fun _ _ e => e) fun _ _ e => e)) (fun _ s' hq => wpAny_pure (wpAny_pure hq)) fun _ _ e => e)
  obtain ⟨I, fp, wr, n, P, St, m, rfl, W, hwr, hsz, hst, hfp, hLf, hnL, R, R0, step, fin⟩ := h₂
  refine comp_core (RR := fun acc C => compPost (model prog w) A E (some (assign (.Name y py) env)) (fun _ s' => Q .next s') acc C) hcell hkind hx W hwr hsz hst hfp R R0 step ?_
  intro D C h' tk m' ys os hD hC hDC hn hpl hR hos hk
  have hLC : env.locals ≠ C := by rintro rfl; obtain ⟨o, _, _, ho, _⟩ := hnL; rw [hC] at ho; cases ho
  have hLD : env.locals ≠ D := by rintro rfl; obtain ⟨o, _, _, ho, _⟩ := hnL; rw [hD] at ho; cases ho
  have hLo : ∀ q ∈ os, q.1 ≠ env.locals := fun q hq e => by
    obtain ⟨o, _, _, ho, _⟩ := hnL
    have z := (hos q hq).2.2.2
    rw [e, ho] at z; cases z
  show wpAny _ A (assign (.Name y py) env (.ref D)) _ _ _
  refine wpAny_assign_Name (wpAny_storeName_local hy (hnL.at' fun o e => hk _ o hLf e) (fun h₂ hn₂ hs₂ => ?_) hp)
  refine ⟨m', hn.sameBut hs₂ (Ne.symm hLC), fun h₃ hs₃ => ?_⟩
  refine fin D h₃ _ ys os hD ((hpl.extBut hs₂.extBut (Ne.symm hLD)).extBut hs₃.extBut hDC) hR (fun q hq => ⟨hs₃.extBut _ _ (hos q hq).2.2.1 (hs₂.extBut _ _ (hLo q hq) (hos q hq).1), (hos q hq).2.1, (hos q hq).2.2.2⟩) (hn₂.sameBut hs₃ hLC) fun b o hbL hbf e => ?_
  exact hs₃.extBut b o (by rintro rfl; rw [hC] at e; cases e) (hs₂.extBut b o hbL (hk b o hbf e))
end
end Mine
end
section
open PySem PySem.W PySem.Spec PySem.Calls PyProof.Rows
set_option maxRecDepth 100000
namespace Mine

/-- what a value hands out when it is gone through -/
noncomputable def IterOf (prog : Program) (w : World) (A : Around) (E : Value → Shared → Prop) (s : Shared) (xv : Value) (n : Nat) (P : Nat → Value → Prop) : Prop :=
  ∀ Q : Value → Shared → Prop, (∀ oI fp St, Walks prog w A s.heap.objs.size fp [s.heap.objs.size] n P St → (∀ i h, St i h → ∃ o, h.get? s.heap.objs.size = some o) → St 0 (s.heap.push oI) → (∀ b ∈ fp, b < s.heap.objs.size + 1) →
    Q (.ref s.heap.objs.size) { s with heap := s.heap.push oI }) → wpAny (model prog w) A (pyIter xv) Q E s

section
variable {prog : Program} {w : World} {A : Around} {E : Value → Shared → Prop} {s : Shared}
theorem iter_list {l : Addr} {items : Array Value} (hh : A.handled = none) (hl : s.heap.IsList l items) : IterOf prog w A E s (.ref l) items.size (fun i v => items[i]? = some v) := by
  intro Q hQ
  have hlt : l < s.heap.objs.size := by obtain ⟨_, e, _⟩ := hl; exact Heap.lt_size e
  refine wpAny_pyIter_list hl (hQ _ [s.heap.objs.size, l] _ (Walks.list hh _ _ (Nat.ne_of_lt hlt) items) (fun i h st => ?_) ⟨⟨_, Heap.get?_push_size _ rfl, rfl, rfl⟩, hl.push _⟩ fun b hb => ?_)
  · obtain ⟨⟨o, ho, _⟩, _⟩ := st; exact ⟨o, ho⟩
  · rcases List.mem_cons.mp hb with rfl | hb
    · exact Nat.lt_succ_self _
    · rw [List.mem_singleton.mp hb]; exact Nat.lt_succ_of_lt hlt
theorem iter_tuple {l : Addr} {items : Array Value} (hh : A.handled = none) (hl : s.heap.IsTuple l items) : IterOf prog w A E s (.ref l) items.size (fun i v => items[i]? = some v) := by
  intro Q hQ
  have hlt : l < s.heap.objs.size := by obtain ⟨_, e, _⟩ := hl; exact Heap.lt_size e
  refine wpAny_pyIter_tuple hl (hQ _ [s.heap.objs.size, l] _ (Walks.tuple hh _ _ (Nat.ne_of_lt hlt) items) (fun i h st => ?_) ⟨⟨_, Heap.get?_push_size _ rfl, rfl, rfl⟩, hl.push _⟩ fun b hb => ?_)
  · obtain ⟨⟨o, ho, _⟩, _⟩ := st; exact ⟨o, ho⟩
  · rcases List.mem_cons.mp hb with rfl | hb
    · exact Nat.lt_succ_self _
    · rw [List.mem_singleton.mp hb]; exact Nat.lt_succ_of_lt hlt
theorem iter_range {r : Addr} {a b : Int} {t u v : Tok} {n : Nat} (hh : A.handled = none) (hr : IsRange s.heap r a b 1 t u v) (hsmall : Builtin.Range.small a b 1 = true) (hn : Builtin.Range.rangeSize a b 1 = (n : Int)) :
    IterOf prog w A E s (.ref r) n (fun i v => ∃ t, v = .int (a + i * 1) t) := by
  intro Q hQ
  refine wpAny_pyIter_range hr hsmall (hQ _ [s.heap.objs.size] _ (Walks.range hh _ a 1 n) (fun i h st => ⟨_, st⟩) ?_ fun b hb => ?_)
  · show IsRangeIter _ _ _ _ _
    rw [hn]; simpa using Heap.get?_push_size _ rfl
  · rw [List.mem_singleton.mp hb]; exact Nat.lt_succ_self _
theorem iter_str {x : Str} {t : Tok} (hh : A.handled = none) : IterOf prog w A E s (.str x t) x.cps.size (SignAt x) := by
  intro Q hQ
  cases ha : x.cps.all (· < 128)
  · exact wpAny_pyIter_wide ha (hQ _ [s.heap.objs.size] _ (Walks.strWide hh _ x t) (fun i h st => by obtain ⟨o, ho, _⟩ := st; exact ⟨o, ho⟩) ⟨_, Heap.get?_push_size _ rfl, rfl, rfl⟩ fun b hb => by rw [List.mem_singleton.mp hb]; exact Nat.lt_succ_self _)
  · exact wpAny_pyIter_ascii ha (hQ _ [s.heap.objs.size] _ (Walks.strAscii hh _ x t) (fun i h st => by obtain ⟨o, ho, _⟩ := st; exact ⟨o, ho⟩) ⟨_, Heap.get?_push_size _ rfl, rfl, rfl⟩ fun b hb => by rw [List.mem_singleton.mp hb]; exact Nat.lt_succ_self _)
end

/-- where the walk stops and a hand goes on -/
noncomputable def Leaf (P : Prop) : Prop := P
theorem NewsKept {h₀ : Heap} {L : Addr} {h h' : Heap} {news : List (Addr × Obj)} (N : News h₀ L h news) (k : ∀ b o, h.get? b = some o → h'.get? b = some o) : News h₀ L h' news := fun p hp => ⟨k _ _ (N p hp).1, (N p hp).2⟩

/-- what a stopped comprehension asks for -/
noncomputable def CompAsk (prog : Program) (w : World) (A : Around) (E : Value → Shared → Prop) (env : Env) (h₀ : Heap) (L : Addr) (m : Str → Option Value) (elt : Expr) (x : Str) (ifs : List Expr) (scope : Scope) (cl : List (Str × Addr)) (Q : Value → Shared → Prop) (xv : Value) (s₁ : Shared) : Prop :=
  ∃ (n : Nat) (P : Nat → Value → Prop) (news : List (Addr × Obj)), IterOf prog w A E s₁ xv n P ∧ n ≤ sizeLine ∧ Fr h₀ L s₁.heap m ∧ News h₀ L s₁.heap news ∧
      ∃ R : Nat → List Value → List (Addr × Obj) → Prop, R 0 [] [] ∧
      (∀ C i v h₃ tk₃ oC mm ys os E', i < n → P i v → R i ys os → NsObj oC mm → mm x = some v → Fr h₀ L h₃ m → News h₀ L h₃ ((C, oC) :: (os ++ news)) → (∀ b o, s₁.heap.get? b = some o → h₃.get? b = some o) →
        wpAny (model prog w) A (forIn ifs true fun c r => if r = true then do let ok ← isTrue c (compEnvC scope cl C env) (eval c (compEnvC scope cl C env)); pure (ForInStep.yield ok) else pure (ForInStep.yield r))
          (fun ok s₄ => Keeps { s₁ with heap := h₃, toks := tk₃ } s₄ ∧ if ok = true then wpAny (model prog w) A (eval elt (compEnvC scope cl C env)) (EltPost R i ys os s₄) E' s₄ else R (i + 1) ys os) E' { s₁ with heap := h₃, toks := tk₃ }) ∧
      (∀ D h' tk ys os c, R n ys os → Fr h₀ L h' m → News h₀ L h' ((D, W.listOf ys.toArray c) :: (os ++ news)) → (∀ q ∈ os ++ news, q.1 ≠ D) → (∀ q ∈ os, ∀ q' ∈ news, q'.1 ≠ q.1) → (∀ b o, s₁.heap.get? b = some o → h'.get? b = some o) →
        Q (.ref D) { s₁ with heap := h', toks := tk })

section
variable {prog : Program} {w : World} {A : Around} {E : Value → Shared → Prop} {env : Env} {s : Shared} {h₀ : Heap} {L : Addr} {m : Str → Option Value}

theorem comp_F (_F : Fr h₀ L s.heap m) {elt iter : Expr} {x : Str} {px : Pos} {ifs : List Expr} {scope : Scope} {cl : List (Str × Addr)} {pos : Pos} {Q : Value → Shared → Prop}
    (hclos : closureFor scope env = pure cl) (hcell : ∀ y ∈ scope.names, y.2 ≠ .cell) (hkind : scope.kind = .function)
    (hnames : ∀ y ∈ scope.names, y.2 = .local → scope.names.lookup y.1 = some .local) (hx : scope.names.lookup x = some .local)
    (h : wpAny (model prog w) A (eval iter env) (fun xv s₁ => Leaf (CompAsk prog w A E env h₀ L m elt x ifs scope cl Q xv s₁)) E s)
    (hs : ∀ x, foldedSetIterable iter env x = pure x) :
    wpAny (model prog w) A (eval (.ListComp elt [⟨.Name x px, iter, ifs, 0⟩] scope pos) env) Q E s := by
  refine comp_ix hclos hcell hkind hnames hx (wpAny_mono h (fun xv s₁ h₁ => ?_) fun _ _ e => e) hs
  obtain ⟨n, P, news, hI, hsz, F, N, R, R0, step, fin⟩ := h₁
  have nLo : ∀ q, s₁.heap.get? q = none → q ≠ L := fun q e hq => by
    obtain ⟨oL, _, _, hL, _⟩ := F.ns
    rw [hq, hL] at e; cases e
  have n0 : ∀ q, s₁.heap.get? q = none → h₀.get? q = none := fun q e => by
    cases z : h₀.get? q with
    | none => rfl
    | some o => rw [F.keep _ _ z] at e; cases e
  refine hI _ fun oI fp St W hwr hst hfp => ?_
  have up : ∀ {h' : Heap}, (∀ b o, b ∉ [s₁.heap.objs.size] → (s₁.heap.push oI).get? b = some o → h'.get? b = some o) → ∀ b o, s₁.heap.get? b = some o → h'.get? b = some o := fun hk b o e =>
    hk b o (fun hm => by rw [List.mem_singleton.mp hm] at e; exact Nat.lt_irrefl _ (Heap.lt_size e)) (Heap.get?_push_of_some _ e)
  have un : ∀ q, (s₁.heap.push oI).get? q = none → s₁.heap.get? q = none := fun q e => by
    cases z : s₁.heap.get? q with
    | none => rfl
    | some o => rw [Heap.get?_push_of_some _ z] at e; cases e
  refine ⟨_, fp, [s₁.heap.objs.size], n, P, St, rfl, W, fun i h' st b hb => by rw [List.mem_singleton.mp hb]; exact hwr i h' st, hsz, hst, fun b hb => by show b < (s₁.heap.push oI).objs.size; rw [Heap.size_push]; exact hfp b hb, R, R0, ?_, ?_⟩
  · intro C i v s₃ oC mm ys os E' hi hP hR hoC hNC hm hCn hk hos hsh
    obtain ⟨h₃, tk₃, rfl⟩ := hsh
    have k' := up hk
    refine step C i v h₃ tk₃ oC mm ys os E' hi hP hR hNC hm (F.keeps k') (fun q hq => ?_) k'
    rcases List.mem_cons.mp hq with rfl | hq
    · exact ⟨hoC, nLo _ (un _ hCn), n0 _ (un _ hCn)⟩
    · rcases List.mem_append.mp hq with hq | hq
      · exact ⟨(hos q hq).1, nLo _ (un _ (hos q hq).2), n0 _ (un _ (hos q hq).2)⟩
      · exact NewsKept N k' q hq
  · intro D h' tk ys os hD hpl hR hos hk
    obtain ⟨c, hc⟩ := hpl
    have k' := up hk
    refine fin D h' tk ys os c hR (F.keeps k') (fun q hq => ?_) (fun q hq e => ?_) (fun q hq q' hq' e => ?_) k'
    · rcases List.mem_cons.mp hq with rfl | hq
      · exact ⟨hc, nLo _ (un _ hD), n0 _ (un _ hD)⟩
      · rcases List.mem_append.mp hq with hq | hq
        · exact ⟨(hos q hq).1, nLo _ (un _ (hos q hq).2.2), n0 _ (un _ (hos q hq).2.2)⟩
        · exact NewsKept N k' q hq
    · rcases List.mem_append.mp hq with hq | hq
      · exact (hos q hq).2.1 e
      · have z := un _ hD
        rw [← e, (N q hq).1] at z; cases z
    · have z := un _ (hos q hq).2.2
      rw [← e, (N q' hq').1] at z; cases z
end

section
variable {prog : Program} {w : World} {A : Around} {E : Value → Shared → Prop} {env : Env} {s : Shared} {h₀ : Heap} {m : Str → Option Value}

theorem comp_FA (_F : Fr h₀ env.locals s.heap m) {elt iter : Expr} {x y : Str} {px py : Pos} {ifs : List Expr} {scope : Scope} {cl : List (Str × Addr)} {pos spos : Pos} {Q : Flow → Shared → Prop}
    (hsw : swapsWith (.ListComp elt [⟨.Name x px, iter, ifs, 0⟩] scope pos) (some (.Name y py)) spos.line env = pure true)
    (hclos : closureFor scope env = pure cl) (hcell : ∀ z ∈ scope.names, z.2 ≠ .cell) (hkind : scope.kind = .function)
    (hnames : ∀ z ∈ scope.names, z.2 = .local → scope.names.lookup z.1 = some .local) (hx : scope.names.lookup x = some .local)
    (hy : env.kindOf y = some .local) (hp : (env.scope.kind == .class || (env.scope.kind == .module && env.locals != env.globals)) = false)
    (h : wpAny (model prog w) A (eval iter env) (fun xv s₁ => Leaf (∃ (n : Nat) (P : Nat → Value → Prop) (news : List (Addr × Obj)), IterOf prog w A E s₁ xv n P ∧ n ≤ sizeLine ∧ Fr h₀ env.locals s₁.heap m ∧ News h₀ env.locals s₁.heap news ∧
      ∃ R : Nat → List Value → List (Addr × Obj) → Prop, R 0 [] [] ∧
      (∀ C i v h₃ tk₃ oC mm ys os E', i < n → P i v → R i ys os → NsObj oC mm → mm x = some v → Fr h₀ env.locals h₃ m → News h₀ env.locals h₃ ((C, oC) :: (os ++ news)) → (∀ b o, s₁.heap.get? b = some o → h₃.get? b = some o) →
        wpAny (model prog w) A (forIn ifs true fun c r => if r = true then do let ok ← isTrue c (compEnvC scope cl C env) (eval c (compEnvC scope cl C env)); pure (ForInStep.yield ok) else pure (ForInStep.yield r))
          (fun ok s₄ => Keeps { s₁ with heap := h₃, toks := tk₃ } s₄ ∧ if ok = true then wpAny (model prog w) A (eval elt (compEnvC scope cl C env)) (EltPost R i ys os s₄) E' s₄ else R (i + 1) ys os) E' { s₁ with heap := h₃, toks := tk₃ }) ∧
      (∀ D h' tk ys os c, R n ys os → Fr h₀ env.locals h' (fun z => if z = y then some (.ref D) else m z) → News h₀ env.locals h' ((D, W.listOf ys.toArray c) :: (os ++ news)) → (∀ q ∈ os ++ news, q.1 ≠ D) → (∀ q ∈ os, ∀ q' ∈ news, q'.1 ≠ q.1) →
        Q .next { s₁ with heap := h', toks := tk }))) E s)
    (hs : ∀ x, foldedSetIterable iter env x = pure x) :
    wpAny (model prog w) A (exec (.Assign [.Name y py] (.ListComp elt [⟨.Name x px, iter, ifs, 0⟩] scope pos) spos) env) Q E s := by
  refine comp_ixA hsw hclos hcell hkind hnames hx hy hp (wpAny_mono h (fun xv s₁ h₁ => ?_) fun _ _ e => e) hs
  obtain ⟨n, P, news, hI, hsz, F, N, R, R0, step, fin⟩ := h₁
  have nLo : ∀ q, s₁.heap.get? q = none → q ≠ env.locals := fun q e hq => by
    obtain ⟨oL, _, _, hL, _⟩ := F.ns
    rw [hq, hL] at e; cases e
  have n0 : ∀ q, s₁.heap.get? q = none → h₀.get? q = none := fun q e => by
    cases z : h₀.get? q with
    | none => rfl
    | some o => rw [F.keep _ _ z] at e; cases e
  refine hI _ fun oI fp St W hwr hst hfp => ?_
  have up : ∀ {h' : Heap}, (∀ b o, b ∉ [s₁.heap.objs.size] → (s₁.heap.push oI).get? b = some o → h'.get? b = some o) → ∀ b o, s₁.heap.get? b = some o → h'.get? b = some o := fun hk b o e =>
    hk b o (fun hm => by rw [List.mem_singleton.mp hm] at e; exact Nat.lt_irrefl _ (Heap.lt_size e)) (Heap.get?_push_of_some _ e)
  have un : ∀ q, (s₁.heap.push oI).get? q = none → s₁.heap.get? q = none := fun q e => by
    cases z : s₁.heap.get? q with
    | none => rfl
    | some o => rw [Heap.get?_push_of_some _ z] at e; cases e
  have hI0 : s₁.heap.get? s₁.heap.objs.size = none := by
    cases z : s₁.heap.get? s₁.heap.objs.size with
    | none => rfl
    | some o => exact absurd (Heap.lt_size z) (Nat.lt_irrefl _)
  refine ⟨_, fp, [s₁.heap.objs.size], n, P, St, m, rfl, W, fun i h' st b hb => by rw [List.mem_singleton.mp hb]; exact hwr i h' st, hsz, hst, fun b hb => by show b < (s₁.heap.push oI).objs.size; rw [Heap.size_push]; exact hfp b hb,
    fun hb => nLo _ hI0 (List.mem_singleton.mp hb).symm, (F.push oI).ns, R, R0, ?_, ?_⟩
  · intro C i v s₃ oC mm ys os E' hi hP hR hoC hNC hm hCn hk hos hsh
    obtain ⟨h₃, tk₃, rfl⟩ := hsh
    have k' := up hk
    refine step C i v h₃ tk₃ oC mm ys os E' hi hP hR hNC hm (F.keeps k') (fun q hq => ?_) k'
    rcases List.mem_cons.mp hq with rfl | hq
    · exact ⟨hoC, nLo _ (un _ hCn), n0 _ (un _ hCn)⟩
    · rcases List.mem_append.mp hq with hq | hq
      · exact ⟨(hos q hq).1, nLo _ (un _ (hos q hq).2), n0 _ (un _ (hos q hq).2)⟩
      · exact NewsKept N k' q hq
  · intro D h' tk ys os hD hpl hR hos hns hk
    obtain ⟨c, hc⟩ := hpl
    have k' : ∀ b o, b ≠ env.locals → s₁.heap.get? b = some o → h'.get? b = some o := fun b o hb e =>
      hk b o hb (fun hm => by rw [List.mem_singleton.mp hm] at e; exact Nat.lt_irrefl _ (Heap.lt_size e)) (Heap.get?_push_of_some _ e)
    refine fin D h' tk ys os c hR ⟨hns, fun b o e => k' b o (Nat.ne_of_lt (Nat.lt_of_lt_of_le (Heap.lt_size e) F.above)) (F.keep b o e), F.above⟩ (fun q hq => ?_) (fun q hq e => ?_) (fun q hq q' hq' e => ?_)
    · rcases List.mem_cons.mp hq with rfl | hq
      · exact ⟨hc, nLo _ (un _ hD), n0 _ (un _ hD)⟩
      · rcases List.mem_append.mp hq with hq | hq
        · exact ⟨(hos q hq).1, nLo _ (un _ (hos q hq).2.2), n0 _ (un _ (hos q hq).2.2)⟩
        · exact ⟨k' _ _ (N q hq).2.1 (N q hq).1, (N q hq).2⟩
    · rcases List.mem_append.mp hq with hq | hq
      · exact (hos q hq).2.1 e
      · have z := un _ hD
        rw [← e, (N q hq).1] at z; cases z
    · have z := un _ (hos q hq).2.2
      rw [← e, (N q' hq').1] at z; cases z
end

section
variable {M : Model} {A : Around} {E : Value → Shared → Prop} {s : Shared} {scope : Scope} {cl : List (Str × Addr)} {C L : Addr} {env : Env} {h₀ : Heap} {m : Str → Option Value} {news : List (Addr × Obj)} {Q : Value → Shared → Prop}
  {K : Frag} {mg mb : Str → Option Value} {p : Program} {loose : List Str} {x : Str} {pos : Pos} {v : Value}
/-- a comprehension's own name -/
theorem nameCX {oC : Obj} {mm : Str → Option Value} (N : News h₀ L s.heap news) (hm : (C, oC) ∈ news) (hO : NsObj oC mm) (hv : mm x = some v) (h : Q v s)
    (hk : (compEnvC scope cl C env).scope.kind = .function) (hx : (compEnvC scope cl C env).kindOf x = some .local) (hd : (x == ("__debug__" : Str)) = false) :
    wpAny M A (eval (.Name x pos) (compEnvC scope cl C env)) Q E s := wpAny_Name (wpAny_loadName_local hk hx (hO _ _ (N.get hm)) hv h) hd
theorem nameCC {c : Addr} {o : Obj} (N : News h₀ L s.heap news) (hc : cl.lookup x = some c) (hm : (c, o) ∈ news) (hd : o.data = .cell (some v)) (h : Q v s)
    (hk : (compEnvC scope cl C env).scope.kind = .function) (hx : (compEnvC scope cl C env).kindOf x = some .cell) (hb : (x == ("__debug__" : Str)) = false) :
    wpAny M A (eval (.Name x pos) (compEnvC scope cl C env)) Q E s := wpAny_Name (wpAny_loadName_cell hk hx hc ⟨o, N.get hm, hd⟩ h) hb
end


/-- a turn without a test -/
theorem step_plain {prog : Program} {w : World} {A : Around} {E : Value → Shared → Prop} {s : Shared} {R : Nat → List Value → List (Addr × Obj) → Prop} {i : Nat} {ys : List Value} {os : List (Addr × Obj)} {cenv : Env} {elt : Expr}
    (h : wpAny (model prog w) A (eval elt cenv) (EltPost R i ys os s) E s) :
    wpAny (model prog w) A (forIn ([] : List Expr) true fun c r => if r = true then do let ok ← isTrue c cenv (eval c cenv); pure (ForInStep.yield ok) else pure (ForInStep.yield r))
      (fun ok s₄ => Keeps s s₄ ∧ if ok = true then wpAny (model prog w) A (eval elt cenv) (EltPost R i ys os s₄) E s₄ else R (i + 1) ys os) E s :=
  wpAny_pure ⟨⟨s.heap, s.toks, rfl, fun _ _ e => e⟩, by simpa using h⟩

noncomputable def IntPost (z : Int) (s : Shared) (y : Value) (s' : Shared) : Prop := Keeps s s' ∧ ∃ t, y = .int z t
noncomputable def ValPost (V : List Value → Prop) (ys : List Value) (s : Shared) (y : Value) (s' : Shared) : Prop := Keeps s s' ∧ V (ys ++ [y])
section
variable {prog : Program} {w : World} {A : Around} {E : Value → Shared → Prop} {env : Env} {s₁ : Shared} {h₀ : Heap} {L : Addr} {m : Str → Option Value} {elt : Expr} {x : Str} {ifs : List Expr} {scope : Scope} {cl : List (Str × Addr)} {Q : Value → Shared → Prop} {xv : Value} {n : Nat} {P : Nat → Value → Prop} {news : List (Addr × Obj)}
/-- what a stopped comprehension asks for, its parts given one by one -/
theorem comp_go (hI : IterOf prog w A E s₁ xv n P) (hsz : n ≤ sizeLine) (F : Fr h₀ L s₁.heap m) (N : News h₀ L s₁.heap news) (R : Nat → List Value → List (Addr × Obj) → Prop) (R0 : R 0 [] [])
    (step : ∀ C i v h₃ tk₃ oC mm ys os E', i < n → P i v → R i ys os → NsObj oC mm → mm x = some v → Fr h₀ L h₃ m → News h₀ L h₃ ((C, oC) :: (os ++ news)) → (∀ b o, s₁.heap.get? b = some o → h₃.get? b = some o) →
        wpAny (model prog w) A (forIn ifs true fun c r => if r = true then do let ok ← isTrue c (compEnvC scope cl C env) (eval c (compEnvC scope cl C env)); pure (ForInStep.yield ok) else pure (ForInStep.yield r))
          (fun ok s₄ => Keeps { s₁ with heap := h₃, toks := tk₃ } s₄ ∧ if ok = true then wpAny (model prog w) A (eval elt (compEnvC scope cl C env)) (EltPost R i ys os s₄) E' s₄ else R (i + 1) ys os) E' { s₁ with heap := h₃, toks := tk₃ })
    (fin : ∀ D h' tk ys os c, R n ys os → Fr h₀ L h' m → News h₀ L h' ((D, W.listOf ys.toArray c) :: (os ++ news)) → (∀ q ∈ os ++ news, q.1 ≠ D) → (∀ q ∈ os, ∀ q' ∈ news, q'.1 ≠ q.1) → (∀ b o, s₁.heap.get? b = some o → h'.get? b = some o) →
        Q (.ref D) { s₁ with heap := h', toks := tk }) :
    CompAsk prog w A E env h₀ L m elt x ifs scope cl Q xv s₁ := ⟨n, P, news, hI, hsz, F, N, R, R0, step, fin⟩
/-- the same where no turn makes an object and none is tested -/
theorem comp_vals (hI : IterOf prog w A E s₁ xv n P) (hsz : n ≤ sizeLine) (F : Fr h₀ L s₁.heap m) (N : News h₀ L s₁.heap news) (V : Nat → List Value → Prop) (V0 : V 0 [])
    (step : ∀ C i v h₃ tk₃ oC mm ys E', i < n → P i v → V i ys → NsObj oC mm → mm x = some v → Fr h₀ L h₃ m → News h₀ L h₃ ((C, oC) :: news) →
        wpAny (model prog w) A (eval elt (compEnvC scope cl C env)) (ValPost (V (i + 1)) ys { s₁ with heap := h₃, toks := tk₃ }) E' { s₁ with heap := h₃, toks := tk₃ })
    (fin : ∀ D h' tk ys c, V n ys → Fr h₀ L h' m → News h₀ L h' ((D, W.listOf ys.toArray c) :: news) → (∀ q ∈ news, q.1 ≠ D) → Q (.ref D) { s₁ with heap := h', toks := tk }) :
    CompAsk prog w A E env h₀ L m elt x [] scope cl Q xv s₁ := by
  refine comp_go hI hsz F N (fun i ys os => os = [] ∧ V i ys) ⟨rfl, V0⟩ ?_ ?_
  · intro C i v h₃ tk₃ oC mm ys os E' hi hP hR hNC hm F2 N2 _
    obtain ⟨rfl, hR⟩ := hR
    exact step_plain (wpAny_mono (step C i v h₃ tk₃ oC mm ys E' hi hP hR hNC hm F2 N2) (fun y s' h => ⟨h.1, [], fun _ h => (nomatch h), rfl, h.2⟩) fun _ _ e => e)
  · intro D h' tk ys os c hR F2 N2 hne _ _
    obtain ⟨rfl, hR⟩ := hR
    exact fin D h' tk ys c hR F2 N2 hne
/-- a turn that hands a whole number on -/
noncomputable def IntTurn (prog : Program) (w : World) (A : Around) (env : Env) (s₁ : Shared) (h₀ : Heap) (L : Addr) (m : Str → Option Value) (elt : Expr) (x : Str) (scope : Scope) (cl : List (Str × Addr)) (news : List (Addr × Obj)) (j z : Int) : Prop :=
  ∀ C h₃ tk₃ oC mm E' t, NsObj oC mm → mm x = some (.int j t) → Fr h₀ L h₃ m → News h₀ L h₃ ((C, oC) :: news) →
    wpAny (model prog w) A (eval elt (compEnvC scope cl C env)) (IntPost z { s₁ with heap := h₃, toks := tk₃ }) E' { s₁ with heap := h₃, toks := tk₃ }
theorem ints3 {ys : List Value} {a b c : Int} (h : IntsAre ys [a, b, c]) : ∃ ta tb tc, ys = [.int a ta, .int b tb, .int c tc] := by
  obtain ⟨t1, r1, rfl, h1⟩ := h.cons_inv
  obtain ⟨t2, r2, rfl, h2⟩ := h1.cons_inv
  obtain ⟨t3, r3, rfl, h3⟩ := h2.cons_inv
  rw [h3.nil_inv]
  exact ⟨t1, t2, t3, rfl⟩
theorem comp_ints {j0 j1 j2 a0 a1 a2 : Int} (hI : IterOf prog w A E s₁ xv 3 (fun i v => ∃ t, v = .int (if i = 0 then j0 else if i = 1 then j1 else j2) t)) (F : Fr h₀ L s₁.heap m) (N : News h₀ L s₁.heap news)
    (T0 : IntTurn prog w A env s₁ h₀ L m elt x scope cl news j0 a0) (T1 : IntTurn prog w A env s₁ h₀ L m elt x scope cl news j1 a1) (T2 : IntTurn prog w A env s₁ h₀ L m elt x scope cl news j2 a2)
    (fin : ∀ D h' tk ta tb tc c, Fr h₀ L h' m → News h₀ L h' ((D, W.listOf #[.int a0 ta, .int a1 tb, .int a2 tc] c) :: news) → (∀ q ∈ news, q.1 ≠ D) → Q (.ref D) { s₁ with heap := h', toks := tk }) :
    CompAsk prog w A E env h₀ L m elt x [] scope cl Q xv s₁ := by
  refine comp_vals hI (by decide) F N (fun i ys => IntsAre ys ([a0, a1, a2].take i)) .nil ?_ ?_
  · intro C i v h₃ tk₃ oC mm ys E' hi hP hR hNC hm F2 N2
    obtain ⟨t, rfl⟩ := hP
    match i, hi with
    | 0, _ => exact wpAny_mono (T0 C h₃ tk₃ oC mm E' t hNC hm F2 N2) (fun y s' h => ⟨h.1, by obtain ⟨t, rfl⟩ := h.2; exact hR.append (.cons _ _ .nil)⟩) fun _ _ e => e
    | 1, _ => exact wpAny_mono (T1 C h₃ tk₃ oC mm E' t hNC hm F2 N2) (fun y s' h => ⟨h.1, by obtain ⟨t, rfl⟩ := h.2; exact hR.append (.cons _ _ .nil)⟩) fun _ _ e => e
    | 2, _ => exact wpAny_mono (T2 C h₃ tk₃ oC mm E' t hNC hm F2 N2) (fun y s' h => ⟨h.1, by obtain ⟨t, rfl⟩ := h.2; exact hR.append (.cons _ _ .nil)⟩) fun _ _ e => e
  · intro D h' tk ys c hR F2 N2 hne
    obtain ⟨ta, tb, tc, rfl⟩ := ints3 hR
    exact fin D h' tk ta tb tc c F2 N2 hne
theorem comp_intsF {f : Int → Int} {j0 j1 j2 : Int} (hI : IterOf prog w A E s₁ xv 3 (fun i v => ∃ t, v = .int (if i = 0 then j0 else if i = 1 then j1 else j2) t)) (F : Fr h₀ L s₁.heap m) (N : News h₀ L s₁.heap news)
    (T : ∀ b, IntTurn prog w A env s₁ h₀ L m elt x scope cl news b (f b))
    (fin : ∀ D h' tk ta tb tc c, Fr h₀ L h' m → News h₀ L h' ((D, W.listOf #[.int (f j0) ta, .int (f j1) tb, .int (f j2) tc] c) :: news) → (∀ q ∈ news, q.1 ≠ D) → Q (.ref D) { s₁ with heap := h', toks := tk }) :
    CompAsk prog w A E env h₀ L m elt x [] scope cl Q xv s₁ := comp_ints hI F N (T j0) (T j1) (T j2) fin
theorem iter_range3 {r : Addr} {a b : Int} {t u v : Tok} (hh : A.handled = none) (hr : IsRange s₁.heap r a b 1 t u v) (hsmall : Builtin.Range.small a b 1 = true) (hn : Builtin.Range.rangeSize a b 1 = 3) :
    IterOf prog w A E s₁ (.ref r) 3 (fun i v => ∃ t, v = .int (if i = 0 then a else if i = 1 then a + 1 else a + 2) t) := by
  intro Q hQ
  refine iter_range hh hr hsmall hn Q fun oI fp St W => hQ oI fp St ?_
  refine { W with item := fun i s Q E hi st k => W.item i s Q E hi st fun v h' tk hv => k v h' tk ?_ }
  obtain ⟨t, rfl⟩ := hv
  match i, hi with
  | 0, _ => exact ⟨t, by simp⟩
  | 1, _ => exact ⟨t, by simp⟩
  | 2, _ => exact ⟨t, by simp⟩
theorem iter_list3 {l : Addr} {a b c : Int} {ta tb tc : Tok} (hh : A.handled = none) (hl : s₁.heap.IsList l #[.int a ta, .int b tb, .int c tc]) :
    IterOf prog w A E s₁ (.ref l) 3 (fun i v => ∃ t, v = .int (if i = 0 then a else if i = 1 then b else c) t) := by
  intro Q hQ
  refine iter_list hh hl Q fun oI fp St W => hQ oI fp St ?_
  refine { W with item := fun i s Q E hi st k => W.item i s Q E hi st fun v h' tk hv => k v h' tk ?_ }
  match i, hi with
  | 0, _ => exact ⟨ta, (Option.some.inj hv).symm⟩
  | 1, _ => exact ⟨tb, (Option.some.inj hv).symm⟩
  | 2, _ => exact ⟨tc, (Option.some.inj hv).symm⟩
/-- a turn's end, where nothing new was made -/
theorem int_end {s s' : Shared} {h' : Heap} {tk : Nat} {z : Int} {t : Tok} (e : s' = { s with heap := h', toks := tk }) (k : ∀ b o, s.heap.get? b = some o → h'.get? b = some o) : IntPost z s (.int z t) s' := ⟨⟨h', tk, e, k⟩, t, rfl⟩
theorem val_end {s s' : Shared} {h' : Heap} {tk : Nat} {V : List Value → Prop} {ys : List Value} {y : Value} (e : s' = { s with heap := h', toks := tk }) (k : ∀ b o, s.heap.get? b = some o → h'.get? b = some o) (h : V (ys ++ [y])) : ValPost V ys s y s' := ⟨⟨h', tk, e, k⟩, h⟩
end
end Mine
end
section
open PySem PySem.W PySem.Spec PySem.Calls PyProof.Rows
set_option maxRecDepth 100000
namespace Mine
set_option maxHeartbeats 8000000
theorem fill_esc : (PySem.Challenge.rw_kl0415_01 = PySem.Challenge.rw_kl0415_01) ∧ (Mine.hd.heap_39 = Mine.hd.heap_39) := by w_top off; k_fill; exact ⟨rfl, rfl⟩

theorem gen_toks {M : Model} {A : Around} {α : Type} {t : Sem α} {Q : α → Shared → Prop} {E : Value → Shared → Prop} {h : Heap} {g d : _} {X : Nat} {o : _} (hX : 0 < X) (k : ∀ tk, 0 < tk → wpAny M A t Q E ⟨h, g, d, tk, o⟩) : wpAny M A t Q E ⟨h, g, d, X, o⟩ := k X hX

theorem frEq {g h : Heap} {L : Addr} {m m' : Str → Option Value} (F : Fr g L h m) (e : ∀ y, m y = m' y) : Fr g L h m' := by
  have : m = m' := funext e
  exact this ▸ F
section
variable {w : World} {p : Program} {loose : List Str} {mean : ExcName → Option Value} {mg mb : Str → Option Value} {g : Heap} {L' a : Addr} {h₁ : Heap} {s : Shared} {tk : Nat} {dp un : Nat} {gd : Option (List Code)} {qual : Str} {scope : Scope} {cdv : Value} {env : Env} {outer : List Env} {m₀ : Str → Option Value} {x C Z : Str} {t : Tok} {c : Nat}
  {p1 p2 p3 p4 p5 p6 p7 p8 p9 p10 p11 : Pos} {Q : Flow → Shared → Prop} {E : Value → Shared → Prop} {news : List (Addr × Obj)} {pl : Sem Bool}

theorem esc_step (X : (Mine.hd.heap_39 w.params).In g) (T : Top p loose mean mg mb g) (F : Fr g L' h₁ (fun y => if y = Str.ofString "text" then some (.str x t) else m₀ y)) (N : News g L' h₁ news)
    (hk : scope.kind = .function) (hx : (envX qual scope L' a cdv []).kindOf (Str.ofString "text") = some .local)
    (he : eval (.Call (.Attribute (.Name (Str.ofString "text") p5) (Str.ofString "replace") p6) [.Constant (.str C) 0 p7, .Constant (.str Z) 0 p8] [] p9) (envX qual scope L' a cdv []) = (do
      let ov ← eval (.Name (Str.ofString "text") p5) (envX qual scope L' a cdv [])
      standAt p6.atName
      let (f, first) ← holding [ov] (getMethod ov (Str.ofString "replace") pl)
      callWith p9 f first (backTo p9 (starEach [.Constant (.str C) 0 p7, .Constant (.str Z) 0 p8] (envX qual scope L' a cdv []))) (backToKw p9 (keywordEach [] (envX qual scope L' a cdv [])))))
    (hC : C = ⟨#[c]⟩) (hl : x.length ≤ 1048576) (hz : Z.length ≤ 14) (hCZ : (C == Z) = false) (ht : 0 < tk)
    (h : ∀ x' t' h' tk', 0 < tk' → x'.cps.toList = x.cps.toList.flatMap (sub1 c Z.cps.toList) → Fr g L' h' (fun y => if y = Str.ofString "text" then some (.str x' t') else m₀ y) → News g L' h' news → Q .next { s with heap := h', toks := tk' }) :
    wpAny (model PG w) (ktrTop dp un gd qual scope L' a cdv [] (env :: outer)) (exec (.If (.Compare (.Constant (.str C) 0 p1) [.In] [.Name (Str.ofString "text") p2] p3) [.Assign [.Name (Str.ofString "text") p4] (.Call (.Attribute (.Name (Str.ofString "text") p5) (Str.ofString "replace") p6) [.Constant (.str C) 0 p7, .Constant (.str Z) 0 p8] [] p9) p10] [] p11) (envX qual scope L' a cdv [])) Q E { s with heap := h₁, toks := tk } := by
  k_with_none
  k_with "execs cons" => ((with_reducible show wpAny _ _ _ _ _ (Shared.mk _ _ _ (_ + 1) _)); refine gen_toks (by dsimp only; omega) ?_; intro tk htk; try dsimp only)
  k_with "execs nil" => ((with_reducible show wpAny _ _ _ _ _ (Shared.mk _ _ _ (_ + 1) _)); refine gen_toks (by dsimp only; omega) ?_; intro tk htk; try dsimp only)
  k_with "eval Name" => (refine nameX_L (by assumption) (by exact if_pos rfl) ?_ (by assumption) (by assumption))
  k_with "storeName" => (refine storeX_L (by assumption) (by assumption) ?_ (by assumption) (by assumption); intro h' F' N')
  k_with "call builtin:str.replace" => (refine SC.replaceW (by (dsimp only; omega)) (by (dsimp only; omega)) (by (dsimp only; omega)) (by assumption) (by assumption) (by assumption) (by intro t' k))



  k_steps
  · refine h _ _ _ _ (by assumption) ?_ F N
    subst hC
    exact (sub1_free _ _ _ (missed (by assumption))).symm
  refine methodCall_KW ?_ he
  k_steps
  try dsimp only

  refine SC.replaceW (Nat.ne_of_gt (by assumption)) (Nat.succ_ne_zero _) (Nat.ne_of_lt (Nat.lt_succ_self _)) hCZ hl hz (fun t' k => ?_)
  refine storeX_L F N (fun h' F' N' => ?_) hk hx
  refine wpAny_execs_nil ?_
  refine h (Txt.replace x C Z) t' h' _ (Nat.succ_pos _) ?_ (frEq F' fun y => ?_) N'
  · subst hC
    exact replace_sub1 _ _ _
  · show (if y = Str.ofString "text" then _ else if y = Str.ofString "text" then _ else _) = if y = Str.ofString "text" then _ else _
    by_cases e : y = Str.ofString "text"
    · rw [if_pos e, if_pos e]
    · rw [if_neg e, if_neg e, if_neg e]
end

theorem frOne {x : Str} (a : Str) (v : Value) : (List.lookup x [(a, v)].reverse) = if x = a then some v else none := by
  show List.lookup x [(a, v)] = _
  by_cases e : x = a
  · subst e; simp
  · rw [if_neg e, List.lookup_cons]
    have : (x == a) = false := by simpa using e
    rw [this]; rfl

theorem fm_len (c : Nat) (z : List Nat) (k : Nat) (hz : z.length ≤ k) (hk : 1 ≤ k) : ∀ l : List Nat, (l.flatMap (sub1 c z)).length ≤ k * l.length := by
  intro l
  induction l with
  | nil => simp
  | cons a r ih =>
    rw [List.flatMap_cons, List.length_append, List.length_cons, Nat.mul_succ]
    have : (sub1 c z a).length ≤ k := by unfold sub1; split <;> simp_all
    omega
theorem str_len (x : Str) : x.length = x.cps.toList.length := by simp [Str.length]



theorem pc_cdata0 (w : World) (x : Str) (t : Tok) (hl : x.length ≤ 36) :
    PC w 42 1 [.str x t] [] (fun tl v => tl = [] ∧ ∃ y t', v = .str y t' ∧ y.cps.toList = (((x.cps.toList.flatMap (sub1 38 [38, 97, 109, 112, 59])).flatMap (sub1 60 [38, 108, 116, 59])).flatMap (sub1 62 [38, 103, 116, 59]))) := by
  refine' pc_plain (f := 42) (binds := [(Str.ofString "text", .str x t)]) ?k6 ?k7 ?k9 ?kB ?_ ?c2 ?c3 ?c4 ?c5 ?c6
  (case k6 => k_is); (case k7 => k_is); (case k9 => intro s; exact BindsTo.of_eq rfl); (case c5 => decide); (case kB => exact locs rfl); (case c2 => exact rfl); (case c3 => exact rfl); (case c4 => exact rfl); (case c6 => decide)
  intro p loose mean mg mb dp un gd env outer A₀ base g L' h₁ s F N B X T hs hd hu
  replace F : Fr g L' h₁ (fun y => if y = Str.ofString "text" then some (.str x t) else none) := frEq F (fun _ => frOne _ _)
  have l0 : x.cps.toList.length ≤ 36 := by rw [← str_len]; exact hl
  refine wpAny_execs_cons (wpAny_Try_except ?_)
  refine wpAny_execs_cons (esc_step (c := 38) X T F N rfl rfl rfl (by decide +kernel) (by rw [str_len]; omega) (by decide +kernel) (by decide +kernel) (Nat.succ_pos _) (fun x1 t1 h1 k1 hk1 e1 F1 N1 => ?_))
  dsimp only
  rw [show (Str.ofString "&amp;").cps.toList = [38, 97, 109, 112, 59] from by decide +kernel] at e1
  have l1 : x1.cps.toList.length ≤ 180 := by
    rw [e1]
    exact Nat.le_trans (fm_len _ _ 5 (by decide) (by decide) _) (Nat.mul_le_mul_left _ l0)
  refine wpAny_execs_cons (esc_step (c := 60) X T F1 N1 rfl rfl rfl (by decide +kernel) (by rw [str_len]; omega) (by decide +kernel) (by decide +kernel) hk1 (fun x2 t2 h2 k2 hk2 e2 F2 N2 => ?_))
  dsimp only
  rw [show (Str.ofString "&lt;").cps.toList = [38, 108, 116, 59] from by decide +kernel] at e2
  have l2 : x2.cps.toList.length ≤ 720 := by
    rw [e2]
    exact Nat.le_trans (fm_len _ _ 4 (by decide) (by decide) _) (Nat.mul_le_mul_left _ l1)
  refine wpAny_execs_cons (esc_step (c := 62) X T F2 N2 rfl rfl rfl (by decide +kernel) (by rw [str_len]; omega) (by decide +kernel) (by decide +kernel) hk2 (fun x3 t3 h3 k3 hk3 e3 F3 N3 => ?_))
  dsimp only
  rw [show (Str.ofString "&gt;").cps.toList = [38, 103, 116, 59] from by decide +kernel] at e3
  have l3 : x3.cps.toList.length ≤ 2880 := by
    rw [e3]
    exact Nat.le_trans (fm_len _ _ 4 (by decide) (by decide) _) (Nat.mul_le_mul_left _ l2)
  refine wpAny_execs_cons (wpAny_Return_some (nameX_L F3 (if_pos rfl) ?_ rfl rfl (by decide)))
  refine ⟨L', _, [], h3, _, rfl, F3, N3, fun _ h => (nomatch h), rfl, x3, t3, rfl, ?_⟩
  rw [e3, e2, e1]

theorem pc_html0 (w : World) (x : Str) (t : Tok) (hl : x.length ≤ 36) :
    PC w 49 1 [.str x t] [] (fun tl v => tl = [] ∧ ∃ y t', v = .str y t' ∧ y.cps.toList = (((x.cps.toList.flatMap (sub1 38 [38, 97, 109, 112, 59])).flatMap (sub1 62 [38, 103, 116, 59])).flatMap (sub1 34 [38, 113, 117, 111, 116, 59]))) := by
  refine' pc_plain (f := 49) (binds := [(Str.ofString "text", .str x t)]) ?k6 ?k7 ?k9 ?kB ?_ ?c2 ?c3 ?c4 ?c5 ?c6
  (case k6 => k_is); (case k7 => k_is); (case k9 => intro s; exact BindsTo.of_eq rfl); (case c5 => decide); (case kB => exact locs rfl); (case c2 => exact rfl); (case c3 => exact rfl); (case c4 => exact rfl); (case c6 => decide)
  intro p loose mean mg mb dp un gd env outer A₀ base g L' h₁ s F N B X T hs hd hu
  replace F : Fr g L' h₁ (fun y => if y = Str.ofString "text" then some (.str x t) else none) := frEq F (fun _ => frOne _ _)
  have l0 : x.cps.toList.length ≤ 36 := by rw [← str_len]; exact hl
  refine wpAny_execs_cons (wpAny_Try_except ?_)
  refine wpAny_execs_cons (esc_step (c := 38) X T F N rfl rfl rfl (by decide +kernel) (by rw [str_len]; omega) (by decide +kernel) (by decide +kernel) (Nat.succ_pos _) (fun x1 t1 h1 k1 hk1 e1 F1 N1 => ?_))
  dsimp only
  rw [show (Str.ofString "&amp;").cps.toList = [38, 97, 109, 112, 59] from by decide +kernel] at e1
  have l1 : x1.cps.toList.length ≤ 180 := by
    rw [e1]
    exact Nat.le_trans (fm_len _ _ 5 (by decide) (by decide) _) (Nat.mul_le_mul_left _ l0)
  refine wpAny_execs_cons (esc_step (c := 62) X T F1 N1 rfl rfl rfl (by decide +kernel) (by rw [str_len]; omega) (by decide +kernel) (by decide +kernel) hk1 (fun x2 t2 h2 k2 hk2 e2 F2 N2 => ?_))
  dsimp only
  rw [show (Str.ofString "&gt;").cps.toList = [38, 103, 116, 59] from by decide +kernel] at e2
  have l2 : x2.cps.toList.length ≤ 720 := by
    rw [e2]
    exact Nat.le_trans (fm_len _ _ 4 (by decide) (by decide) _) (Nat.mul_le_mul_left _ l1)
  refine wpAny_execs_cons (esc_step (c := 34) X T F2 N2 rfl rfl rfl (by decide +kernel) (by rw [str_len]; omega) (by decide +kernel) (by decide +kernel) hk2 (fun x3 t3 h3 k3 hk3 e3 F3 N3 => ?_))
  dsimp only
  rw [show (Str.ofString "&quot;").cps.toList = [38, 113, 117, 111, 116, 59] from by decide +kernel] at e3
  have l3 : x3.cps.toList.length ≤ 4320 := by
    rw [e3]
    exact Nat.le_trans (fm_len _ _ 6 (by decide) (by decide) _) (Nat.mul_le_mul_left _ l2)
  refine wpAny_execs_cons (wpAny_Return_some (nameX_L F3 (if_pos rfl) ?_ rfl rfl (by decide)))
  refine ⟨L', _, [], h3, _, rfl, F3, N3, fun _ h => (nomatch h), rfl, x3, t3, rfl, ?_⟩
  rw [e3, e2, e1]

theorem pc_c14n0 (w : World) (x : Str) (t : Tok) (hl : x.length ≤ 36) :
    PC w 56 1 [.str x t] [] (fun tl v => tl = [] ∧ ∃ y t', v = .str y t' ∧ y.cps.toList = ((((((x.cps.toList.flatMap (sub1 38 [38, 97, 109, 112, 59])).flatMap (sub1 60 [38, 108, 116, 59])).flatMap (sub1 34 [38, 113, 117, 111, 116, 59])).flatMap (sub1 9 [38, 35, 120, 57, 59])).flatMap (sub1 10 [38, 35, 120, 65, 59])).flatMap (sub1 13 [38, 35, 120, 68, 59]))) := by
  refine' pc_plain (f := 56) (binds := [(Str.ofString "text", .str x t)]) ?k6 ?k7 ?k9 ?kB ?_ ?c2 ?c3 ?c4 ?c5 ?c6
  (case k6 => k_is); (case k7 => k_is); (case k9 => intro s; exact BindsTo.of_eq rfl); (case c5 => decide); (case kB => exact locs rfl); (case c2 => exact rfl); (case c3 => exact rfl); (case c4 => exact rfl); (case c6 => decide)
  intro p loose mean mg mb dp un gd env outer A₀ base g L' h₁ s F N B X T hs hd hu
  replace F : Fr g L' h₁ (fun y => if y = Str.ofString "text" then some (.str x t) else none) := frEq F (fun _ => frOne _ _)
  have l0 : x.cps.toList.length ≤ 36 := by rw [← str_len]; exact hl
  refine wpAny_execs_cons (wpAny_Try_except ?_)
  refine wpAny_execs_cons (esc_step (c := 38) X T F N rfl rfl rfl (by decide +kernel) (by rw [str_len]; omega) (by decide +kernel) (by decide +kernel) (Nat.succ_pos _) (fun x1 t1 h1 k1 hk1 e1 F1 N1 => ?_))
  dsimp only
  rw [show (Str.ofString "&amp;").cps.toList = [38, 97, 109, 112, 59] from by decide +kernel] at e1
  have l1 : x1.cps.toList.length ≤ 180 := by
    rw [e1]
    exact Nat.le_trans (fm_len _ _ 5 (by decide) (by decide) _) (Nat.mul_le_mul_left _ l0)
  refine wpAny_execs_cons (esc_step (c := 60) X T F1 N1 rfl rfl rfl (by decide +kernel) (by rw [str_len]; omega) (by decide +kernel) (by decide +kernel) hk1 (fun x2 t2 h2 k2 hk2 e2 F2 N2 => ?_))
  dsimp only
  rw [show (Str.ofString "&lt;").cps.toList = [38, 108, 116, 59] from by decide +kernel] at e2
  have l2 : x2.cps.toList.length ≤ 720 := by
    rw [e2]
    exact Nat.le_trans (fm_len _ _ 4 (by decide) (by decide) _) (Nat.mul_le_mul_left _ l1)
  refine wpAny_execs_cons (esc_step (c := 34) X T F2 N2 rfl rfl rfl (by decide +kernel) (by rw [str_len]; omega) (by decide +kernel) (by decide +kernel) hk2 (fun x3 t3 h3 k3 hk3 e3 F3 N3 => ?_))
  dsimp only
  rw [show (Str.ofString "&quot;").cps.toList = [38, 113, 117, 111, 116, 59] from by decide +kernel] at e3
  have l3 : x3.cps.toList.length ≤ 4320 := by
    rw [e3]
    exact Nat.le_trans (fm_len _ _ 6 (by decide) (by decide) _) (Nat.mul_le_mul_left _ l2)
  refine wpAny_execs_cons (esc_step (c := 9) X T F3 N3 rfl rfl rfl (by decide +kernel) (by rw [str_len]; omega) (by decide +kernel) (by decide +kernel) hk3 (fun x4 t4 h4 k4 hk4 e4 F4 N4 => ?_))
  dsimp only
  rw [show (Str.ofString "&#x9;").cps.toList = [38, 35, 120, 57, 59] from by decide +kernel] at e4
  have l4 : x4.cps.toList.length ≤ 21600 := by
    rw [e4]
    exact Nat.le_trans (fm_len _ _ 5 (by decide) (by decide) _) (Nat.mul_le_mul_left _ l3)
  refine wpAny_execs_cons (esc_step (c := 10) X T F4 N4 rfl rfl rfl (by decide +kernel) (by rw [str_len]; omega) (by decide +kernel) (by decide +kernel) hk4 (fun x5 t5 h5 k5 hk5 e5 F5 N5 => ?_))
  dsimp only
  rw [show (Str.ofString "&#xA;").cps.toList = [38, 35, 120, 65, 59] from by decide +kernel] at e5
  have l5 : x5.cps.toList.length ≤ 108000 := by
    rw [e5]
    exact Nat.le_trans (fm_len _ _ 5 (by decide) (by decide) _) (Nat.mul_le_mul_left _ l4)
  refine wpAny_execs_cons (esc_step (c := 13) X T F5 N5 rfl rfl rfl (by decide +kernel) (by rw [str_len]; omega) (by decide +kernel) (by decide +kernel) hk5 (fun x6 t6 h6 k6 hk6 e6 F6 N6 => ?_))
  dsimp only
  rw [show (Str.ofString "&#xD;").cps.toList = [38, 35, 120, 68, 59] from by decide +kernel] at e6
  have l6 : x6.cps.toList.length ≤ 540000 := by
    rw [e6]
    exact Nat.le_trans (fm_len _ _ 5 (by decide) (by decide) _) (Nat.mul_le_mul_left _ l5)
  refine wpAny_execs_cons (wpAny_Return_some (nameX_L F6 (if_pos rfl) ?_ rfl rfl (by decide)))
  refine ⟨L', _, [], h6, _, rfl, F6, N6, fun _ h => (nomatch h), rfl, x6, t6, rfl, ?_⟩
  rw [e6, e5, e4, e3, e2, e1]
end Mine
end
section
open PySem PySem.W PySem.Spec PySem.Calls PyProof.Rows
set_option maxRecDepth 100000
namespace Mine
set_option maxHeartbeats 8000000

/-- what rgb_to_hsv reckons -/
noncomputable def hueRaw (x y z mx rg : UInt64) : UInt64 :=
  let rc := Float64.div (Float64.sub mx x) rg
  let gc := Float64.div (Float64.sub mx y) rg
  let bc := Float64.div (Float64.sub mx z) rg
  if (Float64.cmp x mx == some .eq) = true then Float64.sub bc gc
  else if (Float64.cmp y mx == some .eq) = true then Float64.sub (Float64.add 4611686018427387904 rc) bc
  else Float64.sub (Float64.add 4616189618054758400 gc) rc
noncomputable def fmx (x y z : UInt64) : UInt64 := fmax (fmax x y) z
noncomputable def fmn (x y z : UInt64) : UInt64 := fmin (fmin x y) z
noncomputable def hueF (x y z : UInt64) : UInt64 := (Float64.divmod (Float64.div (hueRaw x y z (fmx x y z) (Float64.sub (fmx x y z) (fmn x y z))) 4618441417868443648) 4607182418800017408).2
noncomputable def satF (x y z : UInt64) : UInt64 := Float64.div (Float64.sub (fmx x y z) (fmn x y z)) (fmx x y z)
noncomputable def greyF (x y z : UInt64) : Bool := Float64.cmp (fmn x y z) (fmx x y z) == some .eq
structure Name where
  h : UInt64
  s : UInt64
  v : UInt64
noncomputable def tellF (x y z : UInt64) : Name := if greyF x y z = true then ⟨0, 0, fmx x y z⟩ else ⟨hueF x y z, satF x y z, fmx x y z⟩
/-- a name as it lies in the heap -/
noncomputable def NameObj (o : Obj) (n : Name) : Prop := ∃ th ts tv c, o = { cls := .type "tuple", data := .seq #[.float n.h th, .float n.s ts, .float n.v tv] c }

theorem fill_rgb : (PySem.Challenge.rw_kl0415_01 = PySem.Challenge.rw_kl0415_01) ∧ (Mine.hd.heap_39 = Mine.hd.heap_39) := by w_top off; k_fill; exact ⟨rfl, rfl⟩

section
variable {x y z : UInt64}
theorem rgb_no1 (hg : greyF x y z = false → Float64.isZero (fmx x y z) = false ∧ Float64.isZero (Float64.sub (fmx x y z) (fmn x y z)) = false) (h1 : (Float64.cmp (fmin (fmin x y) z) (fmax (fmax x y) z) == some .eq) = false) (h2 : Float64.isZero (fmax (fmax x y) z) = true) : False := by
  have := (hg h1).1
  unfold fmx at this; rw [h2] at this; cases this
theorem rgb_no2 (hg : greyF x y z = false → Float64.isZero (fmx x y z) = false ∧ Float64.isZero (Float64.sub (fmx x y z) (fmn x y z)) = false) (h1 : (Float64.cmp (fmin (fmin x y) z) (fmax (fmax x y) z) == some .eq) = false) (h2 : Float64.isZero (Float64.sub (fmax (fmax x y) z) (fmin (fmin x y) z)) = true) : False := by
  have := (hg h1).2
  unfold fmx fmn at this; rw [h2] at this; cases this
theorem rgb_grey {t1 t2 t3 : Tok} {n : Nat} (h1 : (Float64.cmp (fmin (fmin x y) z) (fmax (fmax x y) z) == some .eq) = true) :
    NameObj { cls := .type "tuple", data := .seq #[.float 0 t1, .float 0 t2, .float (fmax (fmax x y) z) t3] n } (tellF x y z) := by
  have e : tellF x y z = ⟨0, 0, fmx x y z⟩ := if_pos h1
  rw [e]; exact ⟨_, _, _, _, rfl⟩
theorem rgb_at {t1 t2 t3 : Tok} {n : Nat} {r : UInt64} (h1 : (Float64.cmp (fmin (fmin x y) z) (fmax (fmax x y) z) == some .eq) = false) (hr : r = hueRaw x y z (fmx x y z) (Float64.sub (fmx x y z) (fmn x y z))) :
    NameObj { cls := .type "tuple", data := .seq #[.float (Float64.divmod (Float64.div r 4618441417868443648) 4607182418800017408).2 t1, .float (Float64.div (Float64.sub (fmax (fmax x y) z) (fmin (fmin x y) z)) (fmax (fmax x y) z)) t2, .float (fmax (fmax x y) z) t3] n } (tellF x y z) := by
  subst hr
  have e : tellF x y z = ⟨hueF x y z, satF x y z, fmx x y z⟩ := if_neg (by unfold greyF fmx fmn; rw [h1]; simp)
  rw [e]; exact ⟨_, _, _, _, rfl⟩
theorem rgb_1 {t1 t2 t3 : Tok} {n : Nat} (h1 : (Float64.cmp (fmin (fmin x y) z) (fmax (fmax x y) z) == some .eq) = false) (h2 : (Float64.cmp x (fmax (fmax x y) z) == some .eq) = true) :
    NameObj { cls := .type "tuple", data := .seq #[.float (Float64.divmod (Float64.div (Float64.sub (Float64.div (Float64.sub (fmax (fmax x y) z) z) (Float64.sub (fmax (fmax x y) z) (fmin (fmin x y) z))) (Float64.div (Float64.sub (fmax (fmax x y) z) y) (Float64.sub (fmax (fmax x y) z) (fmin (fmin x y) z)))) 4618441417868443648) 4607182418800017408).2 t1, .float (Float64.div (Float64.sub (fmax (fmax x y) z) (fmin (fmin x y) z)) (fmax (fmax x y) z)) t2, .float (fmax (fmax x y) z) t3] n } (tellF x y z) :=
  rgb_at h1 (if_pos h2).symm
theorem rgb_2 {t1 t2 t3 : Tok} {n : Nat} (h1 : (Float64.cmp (fmin (fmin x y) z) (fmax (fmax x y) z) == some .eq) = false) (h2 : (Float64.cmp x (fmax (fmax x y) z) == some .eq) = false) (h3 : (Float64.cmp y (fmax (fmax x y) z) == some .eq) = true) :
    NameObj { cls := .type "tuple", data := .seq #[.float (Float64.divmod (Float64.div (Float64.sub (Float64.add 4611686018427387904 (Float64.div (Float64.sub (fmax (fmax x y) z) x) (Float64.sub (fmax (fmax x y) z) (fmin (fmin x y) z)))) (Float64.div (Float64.sub (fmax (fmax x y) z) z) (Float64.sub (fmax (fmax x y) z) (fmin (fmin x y) z)))) 4618441417868443648) 4607182418800017408).2 t1, .float (Float64.div (Float64.sub (fmax (fmax x y) z) (fmin (fmin x y) z)) (fmax (fmax x y) z)) t2, .float (fmax (fmax x y) z) t3] n } (tellF x y z) :=
  rgb_at h1 (by unfold hueRaw fmx fmn; simp only []; rw [if_neg (by rw [h2]; simp), if_pos h3])
theorem rgb_3 {t1 t2 t3 : Tok} {n : Nat} (h1 : (Float64.cmp (fmin (fmin x y) z) (fmax (fmax x y) z) == some .eq) = false) (h2 : (Float64.cmp x (fmax (fmax x y) z) == some .eq) = false) (h3 : (Float64.cmp y (fmax (fmax x y) z) == some .eq) = false) :
    NameObj { cls := .type "tuple", data := .seq #[.float (Float64.divmod (Float64.div (Float64.sub (Float64.add 4616189618054758400 (Float64.div (Float64.sub (fmax (fmax x y) z) y) (Float64.sub (fmax (fmax x y) z) (fmin (fmin x y) z)))) (Float64.div (Float64.sub (fmax (fmax x y) z) x) (Float64.sub (fmax (fmax x y) z) (fmin (fmin x y) z)))) 4618441417868443648) 4607182418800017408).2 t1, .float (Float64.div (Float64.sub (fmax (fmax x y) z) (fmin (fmin x y) z)) (fmax (fmax x y) z)) t2, .float (fmax (fmax x y) z) t3] n } (tellF x y z) :=
  rgb_at h1 (by unfold hueRaw fmx fmn; simp only []; rw [if_neg (by rw [h2]; simp), if_neg (by rw [h3]; simp)])
end

theorem pc_rgb (w : World) (x y z : UInt64) (tx ty tz : Tok) (hg : greyF x y z = false → Float64.isZero (fmx x y z) = false ∧ Float64.isZero (Float64.sub (fmx x y z) (fmn x y z)) = false) :
    PC w 21 1 [.float x tx, .float y ty, .float z tz] [] (fun tl v => ∃ a o, v = .ref a ∧ tl = [(a, o)] ∧ NameObj o (tellF x y z)) := by
  k_with_none
  k_with "call builtin:max" => ((with_reducible show wpAny _ _ (call _ [Value.float _ _, Value.float _ _, Value.float _ _]) _ _ _); refine max_three_ff rfl (by assumption) (by assumption) ?_; intro h' tk' r' F' N')
  k_with "call builtin:min" => ((with_reducible show wpAny _ _ (call _ [Value.float _ _, Value.float _ _, Value.float _ _]) _ _ _); refine min_three_ff rfl (by assumption) (by assumption) ?_; intro h' tk' r' F' N')
  refine' pc_plain (f := 21) (binds := [(Str.ofString "r", .float x tx), (Str.ofString "g", .float y ty), (Str.ofString "b", .float z tz)]) ?k6 ?k7 ?k9 ?kB ?_ ?c2 ?c3 ?c4 ?c5 ?c6
  (case k6 => k_is); (case k7 => k_is); (case k9 => intro s; exact BindsTo.of_eq rfl); (case c5 => decide); (case kB => exact locs rfl); (case c2 => exact rfl); (case c3 => exact rfl); (case c4 => exact rfl); (case c6 => decide)
  intro p loose mean mg mb dp un gd env outer A₀ base g L' h₁ s F N B X T hs hd hu
  (try dsimp only)
  (try k_unmd); (try k_fold)
  k_steps
  all_goals first
    | exact rgb_no1 hg (by assumption) (by assumption)
    | exact rgb_no2 hg (by assumption) (by assumption)
    | exact pend1 (by assumption) (by assumption) (by simp) ⟨_, _, rfl, rfl, rgb_grey (by assumption)⟩
    | exact pend1 (by assumption) (by assumption) (by simp) ⟨_, _, rfl, rfl, rgb_1 (by assumption) (by assumption)⟩
    | exact pend1 (by assumption) (by assumption) (by simp) ⟨_, _, rfl, rfl, rgb_2 (by assumption) (by assumption) (by assumption)⟩
    | exact pend1 (by assumption) (by assumption) (by simp) ⟨_, _, rfl, rfl, rgb_3 (by assumption) (by assumption) (by assumption)⟩
    | trace_state
end Mine
end
section
open PySem PySem.W PySem.Spec PySem.Calls PyProof.Rows
set_option maxRecDepth 100000
namespace Mine
set_option maxHeartbeats 8000000

/-- what hsv_to_rgb reckons -/
noncomputable def sixI (h : UInt64) : Int := Flt.toInt Float64.truncOf (Float64.mul h 4618441417868443648)
noncomputable def fracF (h : UInt64) : UInt64 := Float64.sub (Float64.mul h 4618441417868443648) (Float64.ofInt (sixI h))
noncomputable def pF (s v : UInt64) : UInt64 := Float64.mul v (Float64.sub 4607182418800017408 s)
noncomputable def qF (h s v : UInt64) : UInt64 := Float64.mul v (Float64.sub 4607182418800017408 (Float64.mul s (fracF h)))
noncomputable def tF (h s v : UInt64) : UInt64 := Float64.mul v (Float64.sub 4607182418800017408 (Float64.mul s (Float64.sub 4607182418800017408 (fracF h))))
noncomputable def backF (h s v : UInt64) : UInt64 × UInt64 × UInt64 :=
  if (Float64.cmp s 0 == some .eq) = true then (v, v, v)
  else if (sixI h).fmod 6 = 0 then (v, tF h s v, pF s v)
  else if (sixI h).fmod 6 = 1 then (qF h s v, v, pF s v)
  else if (sixI h).fmod 6 = 2 then (pF s v, v, tF h s v)
  else if (sixI h).fmod 6 = 3 then (pF s v, qF h s v, v)
  else if (sixI h).fmod 6 = 4 then (tF h s v, pF s v, v)
  else (v, pF s v, qF h s v)
noncomputable def RgbObj (o : Obj) (r : UInt64 × UInt64 × UInt64) : Prop := ∃ t1 t2 t3 c, o = { cls := .type "tuple", data := .seq #[.float r.1 t1, .float r.2.1 t2, .float r.2.2 t3] c }
noncomputable def HsvOk (h s : UInt64) : Prop := (Float64.cmp s 0 == some .eq) = false → Float64.isFinite (Float64.mul h 4618441417868443648) = true ∧ (sixI h).natAbs < 2 ^ 1024 - 2 ^ 970
theorem fill_hsv : (PySem.Challenge.rw_kl0415_01 = PySem.Challenge.rw_kl0415_01) ∧ (Mine.hd.heap_39 = Mine.hd.heap_39) := by w_top off; k_fill; exact ⟨rfl, rfl⟩
section
variable {h s v : UInt64}
theorem hsv_no1 (hz : HsvOk h s) (h1 : (Float64.cmp s 0 == some .eq) = false) (h2 : Float64.isNaN (Float64.mul h 4618441417868443648) = true) : False := by
  have e := (hz h1).1
  unfold Float64.isNaN at h2; unfold Float64.isFinite at e
  revert h2 e; cases Float64.decode (Float64.mul h 4618441417868443648) <;> simp
theorem hsv_no2 (hz : HsvOk h s) (h1 : (Float64.cmp s 0 == some .eq) = false) (h2 : Float64.isInf (Float64.mul h 4618441417868443648) = true) : False := by
  have e := (hz h1).1
  unfold Float64.isInf at h2; unfold Float64.isFinite at e
  revert h2 e; cases Float64.decode (Float64.mul h 4618441417868443648) <;> simp
theorem hsv_no3 (hz : HsvOk h s) (h1 : (Float64.cmp s 0 == some .eq) = false) (h2 : 2 ^ 1024 - 2 ^ 970 ≤ (Flt.toInt Float64.truncOf (Float64.mul h 4618441417868443648)).natAbs) : False := Nat.not_le_of_lt (hz h1).2 h2
theorem hsv_g {t1 t2 t3 : Tok} {c : Nat} (h1 : (Float64.cmp s 0 == some .eq) = true) : RgbObj { cls := .type "tuple", data := .seq #[.float v t1, .float v t2, .float v t3] c } (backF h s v) := by
  rw [show backF h s v = (v, v, v) from if_pos h1]; exact ⟨_, _, _, _, rfl⟩
theorem hsv_0 {t1 t2 t3 : Tok} {c : Nat} (h1 : (Float64.cmp s 0 == some .eq) = false)  (h2 : (sixI h).fmod 6 = 0) : RgbObj { cls := .type "tuple", data := .seq #[.float (v) t1, .float (tF h s v) t2, .float (pF s v) t3] c } (backF h s v) := by
  have e : backF h s v = (v, tF h s v, pF s v) := by unfold backF; rw [if_neg (by rw [h1]; simp), if_pos h2]
  rw [e]; exact ⟨_, _, _, _, rfl⟩
theorem hsv_1 {t1 t2 t3 : Tok} {c : Nat} (h1 : (Float64.cmp s 0 == some .eq) = false) (h2 : (sixI h).fmod 6 ≠ 0) (h3 : (sixI h).fmod 6 = 1) : RgbObj { cls := .type "tuple", data := .seq #[.float (qF h s v) t1, .float (v) t2, .float (pF s v) t3] c } (backF h s v) := by
  have e : backF h s v = (qF h s v, v, pF s v) := by unfold backF; rw [if_neg (by rw [h1]; simp), if_neg h2, if_pos h3]
  rw [e]; exact ⟨_, _, _, _, rfl⟩
theorem hsv_2 {t1 t2 t3 : Tok} {c : Nat} (h1 : (Float64.cmp s 0 == some .eq) = false) (h2 : (sixI h).fmod 6 ≠ 0) (h3 : (sixI h).fmod 6 ≠ 1) (h4 : (sixI h).fmod 6 = 2) : RgbObj { cls := .type "tuple", data := .seq #[.float (pF s v) t1, .float (v) t2, .float (tF h s v) t3] c } (backF h s v) := by
  have e : backF h s v = (pF s v, v, tF h s v) := by unfold backF; rw [if_neg (by rw [h1]; simp), if_neg h2, if_neg h3, if_pos h4]
  rw [e]; exact ⟨_, _, _, _, rfl⟩
theorem hsv_3 {t1 t2 t3 : Tok} {c : Nat} (h1 : (Float64.cmp s 0 == some .eq) = false) (h2 : (sixI h).fmod 6 ≠ 0) (h3 : (sixI h).fmod 6 ≠ 1) (h4 : (sixI h).fmod 6 ≠ 2) (h5 : (sixI h).fmod 6 = 3) : RgbObj { cls := .type "tuple", data := .seq #[.float (pF s v) t1, .float (qF h s v) t2, .float (v) t3] c } (backF h s v) := by
  have e : backF h s v = (pF s v, qF h s v, v) := by unfold backF; rw [if_neg (by rw [h1]; simp), if_neg h2, if_neg h3, if_neg h4, if_pos h5]
  rw [e]; exact ⟨_, _, _, _, rfl⟩
theorem hsv_4 {t1 t2 t3 : Tok} {c : Nat} (h1 : (Float64.cmp s 0 == some .eq) = false) (h2 : (sixI h).fmod 6 ≠ 0) (h3 : (sixI h).fmod 6 ≠ 1) (h4 : (sixI h).fmod 6 ≠ 2) (h5 : (sixI h).fmod 6 ≠ 3) (h6 : (sixI h).fmod 6 = 4) : RgbObj { cls := .type "tuple", data := .seq #[.float (tF h s v) t1, .float (pF s v) t2, .float (v) t3] c } (backF h s v) := by
  have e : backF h s v = (tF h s v, pF s v, v) := by unfold backF; rw [if_neg (by rw [h1]; simp), if_neg h2, if_neg h3, if_neg h4, if_neg h5, if_pos h6]
  rw [e]; exact ⟨_, _, _, _, rfl⟩
theorem hsv_5 {t1 t2 t3 : Tok} {c : Nat} (h1 : (Float64.cmp s 0 == some .eq) = false) (h2 : (sixI h).fmod 6 ≠ 0) (h3 : (sixI h).fmod 6 ≠ 1) (h4 : (sixI h).fmod 6 ≠ 2) (h5 : (sixI h).fmod 6 ≠ 3) (h6 : (sixI h).fmod 6 ≠ 4) (h7 : (sixI h).fmod 6 = 5) : RgbObj { cls := .type "tuple", data := .seq #[.float (v) t1, .float (pF s v) t2, .float (qF h s v) t3] c } (backF h s v) := by
  have e : backF h s v = (v, pF s v, qF h s v) := by unfold backF; rw [if_neg (by rw [h1]; simp), if_neg h2, if_neg h3, if_neg h4, if_neg h5, if_neg h6]
  rw [e]; exact ⟨_, _, _, _, rfl⟩
theorem hsv_out (h2 : (sixI h).fmod 6 ≠ 0) (h3 : (sixI h).fmod 6 ≠ 1) (h4 : (sixI h).fmod 6 ≠ 2) (h5 : (sixI h).fmod 6 ≠ 3) (h6 : (sixI h).fmod 6 ≠ 4) (h7 : (sixI h).fmod 6 ≠ 5) : False := by
  have a := Int.fmod_eq_emod_of_nonneg (sixI h) (show (0 : Int) ≤ 6 by decide)
  omega
end

theorem pc_hsv (w : World) (x y z : UInt64) (tx ty tz : Tok) (hz : HsvOk x y) :
    PC w 28 1 [.float x tx, .float y ty, .float z tz] [] (fun tl v => ∃ a o, v = .ref a ∧ tl = [(a, o)] ∧ RgbObj o (backF x y z)) := by
  k_with_none
  refine' pc_plain (f := 28) (binds := [(Str.ofString "h", .float x tx), (Str.ofString "s", .float y ty), (Str.ofString "v", .float z tz)]) ?k6 ?k7 ?k9 ?kB ?_ ?c2 ?c3 ?c4 ?c5 ?c6
  (case k6 => k_is); (case k7 => k_is); (case k9 => intro s; exact BindsTo.of_eq rfl); (case c5 => decide); (case kB => exact locs rfl); (case c2 => exact rfl); (case c3 => exact rfl); (case c4 => exact rfl); (case c6 => decide)
  intro p loose mean mg mb dp un gd env outer A₀ base g L' h₁ s F N B X T hs hd hu
  (try dsimp only)
  (try k_unmd); (try k_fold)
  k_steps
  all_goals first
    | exact hsv_no1 hz (by assumption) (by assumption)
    | exact hsv_no2 hz (by assumption) (by assumption)
    | exact hsv_no3 hz (by assumption) (by assumption)
    | exact pend1 (by assumption) (by assumption) (by simp) ⟨_, _, rfl, rfl, hsv_g (by assumption)⟩
    | exact pend1 (by assumption) (by assumption) (by simp) ⟨_, _, rfl, rfl, hsv_0 (by assumption) (by assumption)⟩
    | exact pend1 (by assumption) (by assumption) (by simp) ⟨_, _, rfl, rfl, hsv_1 (by assumption) (by assumption) (by assumption)⟩
    | exact pend1 (by assumption) (by assumption) (by simp) ⟨_, _, rfl, rfl, hsv_2 (by assumption) (by assumption) (by assumption) (by assumption)⟩
    | exact pend1 (by assumption) (by assumption) (by simp) ⟨_, _, rfl, rfl, hsv_3 (by assumption) (by assumption) (by assumption) (by assumption) (by assumption)⟩
    | exact pend1 (by assumption) (by assumption) (by simp) ⟨_, _, rfl, rfl, hsv_4 (by assumption) (by assumption) (by assumption) (by assumption) (by assumption) (by assumption)⟩
    | exact pend1 (by assumption) (by assumption) (by simp) ⟨_, _, rfl, rfl, hsv_5 (by assumption) (by assumption) (by assumption) (by assumption) (by assumption) (by assumption) (by assumption)⟩
    | exact (hsv_out (by assumption) (by assumption) (by assumption) (by assumption) (by assumption) (by assumption)).elim
    | trace_state
end Mine
end
section
open PySem PySem.W PySem.Spec PySem.Calls PyProof.Rows
set_option maxRecDepth 100000
namespace Mine
set_option maxHeartbeats 8000000
theorem fill_told : (PySem.Challenge.rw_kl0415_01 = PySem.Challenge.rw_kl0415_01) ∧ (Mine.hd.heap_39 = Mine.hd.heap_39) := by w_top off; k_fill; exact ⟨rfl, rfl⟩

noncomputable def fl (a : Int) : UInt64 := Float64.ofFrac (decide (a < 0) != decide ((8192 : Int) < 0)) a.natAbs (Int.natAbs 8192)
theorem fl_notInf {a : Int} (h0 : 0 ≤ a) (h1 : a ≤ 20000) : ¬ Float64.isInf (fl a) = true := by
  unfold fl
  rw [Flt.notInf_ofFrac (by decide) ?_]
  · simp
  · have h2 : a.natAbs ≤ 20000 := by omega
    refine Nat.lt_of_le_of_lt (Nat.mul_le_mul_left 2 (Nat.mul_le_mul_right _ h2)) (by decide +kernel)

/-- a paint as it lies in the heap -/
noncomputable def PaintObj (o : Obj) (a b c : Int) : Prop := ∃ ta tb tc n, o = W.listOf #[.int a ta, .int b tb, .int c tc] n
structure Small (a b c : Int) : Prop where
  a0 : 0 ≤ a
  b0 : 0 ≤ b
  c0 : 0 ≤ c
  a1 : a ≤ 20000
  b1 : b ≤ 20000
  c1 : c ≤ 20000
noncomputable def Parted (x y z : UInt64) : Prop := greyF x y z = false → Float64.isZero (fmx x y z) = false ∧ Float64.isZero (Float64.sub (fmx x y z) (fmn x y z)) = false
noncomputable def tell (a b c : Int) : Name := tellF (fl a) (fl b) (fl c)


theorem pc_told (w : World) (x : Addr) (o : Obj) (a b c : Int) (hs : Small a b c) (ho : PaintObj o a b c) (hg : Parted (fl a) (fl b) (fl c)) :
    PC w 78 2 [.ref x] [(x, o)] (fun tl v => ∃ y oy, v = .ref y ∧ tl = [(y, oy)] ∧ NameObj oy (tell a b c)) := by
  k_with_none
  k_with "call ref" => (k_here; (with_reducible show wpAny _ _ (call (Value.ref 21) _) _ _ _); refine pc_useR (by assumption) (by assumption) (by assumption) (by assumption) (by rfl) (by assumption) (by exact List.forall_mem_nil _) (lim_d1 hd (by decide)) (lim_u3 hu (by decide)) (pc_rgb _ _ _ _ _ _ _ (by assumption)) ?_; intro h' tk' a' o' F' N' hne' kp' tn' ho')
  obtain ⟨a0, b0, c0, a1, b1, c1⟩ := hs
  obtain ⟨ta, tb, tc, n, rfl⟩ := ho
  have na := fl_notInf a0 a1
  have nb := fl_notInf b0 b1
  have nc := fl_notInf c0 c1
  refine' pc_plain (f := 78) (binds := [(Str.ofString "paint", .ref x)]) ?k6 ?k7 ?k9 ?kB ?_ ?c2 ?c3 ?c4 ?c5 ?c6
  (case k6 => k_is); (case k7 => k_is); (case k9 => intro s; exact BindsTo.of_eq rfl); (case c5 => decide); (case kB => exact locs rfl); (case c2 => exact rfl); (case c3 => exact rfl); (case c4 => exact rfl); (case c6 => decide)
  intro p loose mean mg mb dp un gd env outer A₀ base g L' h₁ s F N B X T hs hd hu
  (try dsimp only)
  (try k_unmd); (try k_fold)
  k_steps
  all_goals first
    | (refine pend1 (by assumption) (by assumption) ?_ ⟨_, _, rfl, rfl, by assumption⟩; intro hm; exact absurd (List.mem_singleton.mp hm).symm (by simp_all))
    | trace_state
/-- a call that hands back a name, taken apart -/
theorem pc_useN {w : World} {f : Addr} {sz : Nat} {vs : List Value} {args : List (Addr × Obj)} {p : Program} {loose : List Str} {mean : ExcName → Option Value} {mg mb : Str → Option Value} {dp un : Nat} {gd : Option (List Code)} {cn : Str} {cs : Scope} {a : Addr} {ccd : Value} {cl : List (Str × Addr)} {outer : List Env} {A₀ : Around} {base h₀ : Heap} {L : Addr} {m : Str → Option Value} {s : Shared} {news : List (Addr × Obj)} {Q E : Value → Shared → Prop} {n : Name} (B : Below A₀ base outer h₀) (F : Fr h₀ L s.heap m) (X : (Mine.hd.heap_39 w.params).In h₀) (T : Top p loose mean mg mb h₀) (hk : cs.kind = .function) (N : News h₀ L s.heap news) (hsub : ∀ q ∈ args, q ∈ news) (hd : dp + sz < recursionLimit) (hu : un + 8 * sz < cLine) (C : PC w f sz vs args (fun tl r => ∃ y oy, r = .ref y ∧ tl = [(y, oy)] ∧ NameObj oy n))
    (k : ∀ h' tk' y t1 t2 t3 c, Fr h₀ L h' m → News h₀ L h' ((y, { cls := .type "tuple", data := .seq #[.float n.h t1, .float n.s t2, .float n.v t3] c }) :: news) → (∀ q ∈ news, q.1 ≠ y) → Q (.ref y) { s with heap := h', toks := tk' }) :
    wpAny (model PG w) (ktrTop dp un gd cn cs L a ccd cl outer) (call (.ref f) vs) Q E s :=
  pc_useR B F X T hk N hsub hd hu C fun h' tk' y oy F' N' hne _ _ hP => by
    obtain ⟨t1, t2, t3, c, rfl⟩ := hP
    exact k h' tk' y t1 t2 t3 c F' N' hne
end Mine
end
section
open PySem PySem.W PySem.Spec PySem.Calls PyProof.Rows
set_option maxRecDepth 100000
namespace Mine
set_option maxHeartbeats 8000000
theorem fill_back : (PySem.Challenge.rw_kl0415_01 = PySem.Challenge.rw_kl0415_01) ∧ (Mine.hd.heap_39 = Mine.hd.heap_39) := by w_top off; k_fill; exact ⟨rfl, rfl⟩


noncomputable def toI (f : UInt64) : Int := Flt.toInt Float64.truncOf (Float64.add (Float64.mul (Float64.ofInt 8192) f) 4602678819172646912)
noncomputable def fl3 (r : UInt64 × UInt64 × UInt64) : List UInt64 := [r.1, r.2.1, r.2.2]
theorem fin_nan {x : UInt64} (h1 : Float64.isFinite x = true) (h2 : Float64.isNaN x = true) : False := by
  unfold Float64.isNaN at h2; unfold Float64.isFinite at h1
  revert h1 h2; cases Float64.decode x <;> simp
theorem fin_inf {x : UInt64} (h1 : Float64.isFinite x = true) (h2 : Float64.isInf x = true) : False := by
  unfold Float64.isInf at h2; unfold Float64.isFinite at h1
  revert h1 h2; cases Float64.decode x <;> simp
theorem paint_of_ints {ys : List Value} {a b d : Int} {c : Nat} (h : IntsAre ys [a, b, d]) : PaintObj (W.listOf ys.toArray c) a b d := by
  obtain ⟨t1, r1, rfl, h1⟩ := h.cons_inv
  obtain ⟨t2, r2, rfl, h2⟩ := h1.cons_inv
  obtain ⟨t3, r3, rfl, h3⟩ := h2.cons_inv
  rw [h3.nil_inv]
  exact ⟨t1, t2, t3, c, rfl⟩
theorem pc_back (w : World) (x : Addr) (o : Obj) (n : Name) (ho : NameObj o n) (hz : HsvOk n.h n.s) (hfin : ∀ f ∈ fl3 (backF n.h n.s n.v), Float64.isFinite (Float64.add (Float64.mul (Float64.ofInt 8192) f) 4602678819172646912) = true) :
    PC w 83 2 [.ref x] [(x, o)] (fun tl v => ∃ y oy, v = .ref y ∧ tl = [(y, oy)] ∧ PaintObj oy (toI (backF n.h n.s n.v).1) (toI (backF n.h n.s n.v).2.1) (toI (backF n.h n.s n.v).2.2)) := by
  k_with_none
  k_with "call ref" => (k_here; (with_reducible show wpAny _ _ (call (Value.ref 28) _) _ _ _); refine pc_useR (by assumption) (by assumption) (by assumption) (by assumption) (by rfl) (by assumption) (by exact List.forall_mem_nil _) (lim_d1 hd (by decide)) (lim_u3 hu (by decide)) (pc_hsv _ _ _ _ _ _ _ (by assumption)) ?_; intro h' tk' a' o' F' N' hne' kp' tn' ho')
  k_with "eval ListComp" => (refine comp_F (by with_reducible assumption) (by with_unfolding_all rfl) (by decide) (by with_unfolding_all rfl) (by decide) (by with_unfolding_all rfl) ?_ (by intro _; with_unfolding_all rfl))
  k_with "eval Name" => (refine nameCX (by assumption) (by k_mem) (by assumption) (by assumption) ?_ (by rfl) (by rfl) (by decide))
  obtain ⟨th, ts, tv, c, rfl⟩ := ho
  refine' pc_plain (f := 83) (binds := [(Str.ofString "name", .ref x)]) ?k6 ?k7 ?k9 ?kB ?_ ?c2 ?c3 ?c4 ?c5 ?c6
  (case k6 => k_is); (case k7 => k_is); (case k9 => intro s; exact BindsTo.of_eq rfl); (case c5 => decide); (case kB => exact locs rfl); (case c2 => exact rfl); (case c3 => exact rfl); (case c4 => exact rfl); (case c6 => decide)
  intro p loose mean mg mb dp un gd env outer A₀ base g L' h₁ s F N B X T hs hd hu
  (try dsimp only)
  (try k_unmd); (try k_fold)
  k_steps
  rename RgbObj _ _ => ho1
  rename Fr _ _ _ _ => F1
  rename News _ _ _ _ => N1
  obtain ⟨t1, t2, t3, c1, e⟩ := ho1
  subst e
  unfold Leaf
  refine comp_vals (iter_tuple (items := #[.float (backF n.h n.s n.v).1 t1, .float (backF n.h n.s n.v).2.1 t2, .float (backF n.h n.s n.v).2.2 t3]) rfl ⟨_, N1.get (.head _), rfl, _, rfl⟩) (by decide : 3 ≤ sizeLine) F1 N1 (fun i ys => IntsAre ys (((fl3 (backF n.h n.s n.v)).map toI).take i)) .nil ?_ ?_
  · intro C i v h₃ tk₃ oC mm ys E' hi hP hR hNC hm F2 N2
    obtain ⟨f, t, rfl, hf⟩ : ∃ f t, v = .float f t ∧ (fl3 (backF n.h n.s n.v))[i]? = some f := by
      match i, hi with
      | 0, _ => exact ⟨_, _, (Option.some.inj hP).symm, rfl⟩
      | 1, _ => exact ⟨_, _, (Option.some.inj hP).symm, rfl⟩
      | 2, _ => exact ⟨_, _, (Option.some.inj hP).symm, rfl⟩
    clear N1 F1
    k_fold
    k_steps
    all_goals first
      | exact (fin_nan (hfin f (List.mem_of_getElem? hf)) (by assumption)).elim
      | exact (fin_inf (hfin f (List.mem_of_getElem? hf)) (by assumption)).elim
      | (refine val_end rfl (fun _ _ e => e) ?_
         show IntsAre _ _
         rw [List.take_succ, List.getElem?_map, hf]
         exact hR.append (.cons _ _ .nil))
  · intro D h4 tk4 ys c4 hR F4 N4 hne
    have hp := paint_of_ints (c := c4) (show IntsAre ys [toI (backF n.h n.s n.v).1, toI (backF n.h n.s n.v).2.1, toI (backF n.h n.s n.v).2.2] from hR)
    k_steps
    refine pend1 F4 (pickN N4 (by (repeat (refine sub_cons (by k_mem) ?_)); exact List.forall_mem_nil _)) (fun hm => ?_) ⟨D, _, rfl, rfl, hp⟩
    exact hne _ (.tail _ (.head _)) (List.mem_singleton.mp hm).symm
end Mine
end
section
open PySem PySem.W PySem.Spec PySem.Calls PyProof.Rows
set_option maxRecDepth 100000
namespace Mine
set_option maxHeartbeats 8000000
theorem fill_area : (PySem.Challenge.rw_kl0415_01 = PySem.Challenge.rw_kl0415_01) ∧ (Mine.hd.heap_39 = Mine.hd.heap_39) := by w_top off; k_fill; exact ⟨rfl, rfl⟩

structure P3 where
  a : Int
  b : Int
  c : Int
structure P3.Ok (p : P3) : Prop where
  a0 : 0 ≤ p.a
  b0 : 0 ≤ p.b
  c0 : 0 ≤ p.c
  a1 : p.a ≤ 12
  b1 : p.b ≤ 12
  c1 : p.c ≤ 12
noncomputable def P3.Obj (p : P3) (o : PySem.Obj) : Prop := PaintObj o p.a p.b p.c
noncomputable def area (p q : P3) : Int := (p.a - p.c) * (q.b - q.c) - (p.b - p.c) * (q.a - q.c)
noncomputable def along (p q : P3) : Int := (p.a - p.c) * (q.a - q.c) + (p.b - p.c) * (q.b - q.c)
noncomputable def across (p q : P3) : Bool := decide (area p q = 0) && decide (along p q < 0)

theorem mulD {x c d : Int} (c0 : 0 ≤ c) (c1 : c ≤ 12) (d0 : 0 ≤ d) (d1 : d ≤ 12) : IntMulOk x (c - d) := IntMulOk.of_right (intBits_le_64 (by omega) (by omega))
theorem pc_area (w : World) (x y : Addr) (p q : P3) (ox oy : Obj) (hp : p.Ok) (hq : q.Ok) (hx : p.Obj ox) (hy : q.Obj oy) :
    PC w 90 1 [.ref x, .ref y] [(x, ox), (y, oy)] (fun tl v => tl = [] ∧ ∃ t, v = .int (area p q) t) := by
  k_with_none
  k_with "subscriptTail Name Constant ref int" => ((with_reducible show wpAny _ _ (subscriptTail _ _ (Value.ref _) (Value.int _ _)) _ _ _); k_dflt (refine my_item (by assumption) (by k_mem) (by with_unfolding_all rfl) (by decide) (by decide) ?_ (by with_unfolding_all rfl)))
  k_with "binaryOp Mult int int" => (refine PyProof.Rows.mul_int ?_ (by exact mulD (by assumption) (by assumption) (by assumption) (by assumption)))
  obtain ⟨a, b, c⟩ := p
  obtain ⟨d, e, f⟩ := q
  obtain ⟨a0, b0, c0, a1, b1, c1⟩ := hp
  obtain ⟨d0, e0, f0, d1, e1, f1⟩ := hq
  obtain ⟨ta, tb, tc, n, rfl⟩ := hx
  obtain ⟨td, te, tf, n', rfl⟩ := hy
  dsimp only at *
  refine' pc_plain (f := 90) (binds := [(Str.ofString "one", .ref x), (Str.ofString "two", .ref y)]) ?k6 ?k7 ?k9 ?kB ?_ ?c2 ?c3 ?c4 ?c5 ?c6
  (case k6 => k_is); (case k7 => k_is); (case k9 => intro s; exact BindsTo.of_eq rfl); (case c5 => decide); (case kB => exact locs rfl); (case c2 => exact rfl); (case c3 => exact rfl); (case c4 => exact rfl); (case c6 => decide)
  intro p loose mean mg mb dp un gd env outer A₀ base g L' h₁ s F N B X T hs hd hu
  (try dsimp only)
  (try k_unmd); (try k_fold)
  k_steps
  all_goals exact pend0 (by assumption) (by assumption) ⟨rfl, _, rfl⟩


theorem across_1 {p q : P3} {x : Int} (h : area p q = 0) (hx : x = along p q) : Value.bool (decide (x < 0)) = Value.bool (across p q) := by
  unfold across; rw [h, hx]; simp
theorem across_2 {p q : P3} (h : area p q ≠ 0) : Value.bool (area p q == 0) = Value.bool (across p q) := by
  unfold across
  have e1 : (area p q == 0) = false := by simpa using h
  have e2 : decide (area p q = 0) = false := by simpa using h
  rw [e1, e2]; rfl

theorem pc_across (w : World) (x y : Addr) (p q : P3) (ox oy : Obj) (hp : p.Ok) (hq : q.Ok) (hx : p.Obj ox) (hy : q.Obj oy) :
    PC w 97 2 [.ref x, .ref y] [(x, ox), (y, oy)] (fun tl v => tl = [] ∧ v = .bool (across p q)) := by
  k_with_none
  k_with "subscriptTail Name Constant ref int" => ((with_reducible show wpAny _ _ (subscriptTail _ _ (Value.ref _) (Value.int _ _)) _ _ _); k_dflt (refine my_item (by assumption) (by k_mem) (by with_unfolding_all rfl) (by decide) (by decide) ?_ (by with_unfolding_all rfl)))
  k_with "binaryOp Mult int int" => (refine PyProof.Rows.mul_int ?_ (by exact mulD (by assumption) (by assumption) (by assumption) (by assumption)))
  k_with "call ref" => (k_here; (with_reducible show wpAny _ _ (call (Value.ref 90) _) _ _ _); refine pc_useE (by assumption) (by assumption) (by assumption) (by assumption) (by rfl) (by assumption) (by (repeat (refine sub_cons (by k_mem) ?_)); exact List.forall_mem_nil _) (lim_d1 hd (by decide)) (lim_u3 hu (by decide)) (pc_area _ _ _ _ _ _ _ ?_ ?_ (by assumption) (by assumption)) ?_; (· assumption); (· assumption); intro h' tk' t1' F' N' kp')
  have hp' := hp; have hq' := hq; have hx' := hx; have hy' := hy
  obtain ⟨ta, tb, tc, n, ex⟩ := hx
  obtain ⟨td, te, tf, n', ey⟩ := hy
  obtain ⟨a0, b0, c0, a1, b1, c1⟩ := hp
  obtain ⟨d0, e0, f0, d1, e1, f1⟩ := hq
  subst ex
  subst ey
  refine' pc_plain (f := 97) (binds := [(Str.ofString "one", .ref x), (Str.ofString "two", .ref y)]) ?k6 ?k7 ?k9 ?kB ?_ ?c2 ?c3 ?c4 ?c5 ?c6
  (case k6 => k_is); (case k7 => k_is); (case k9 => intro s; exact BindsTo.of_eq rfl); (case c5 => decide); (case kB => exact locs rfl); (case c2 => exact rfl); (case c3 => exact rfl); (case c4 => exact rfl); (case c6 => decide)
  intro p loose mean mg mb dp un gd env outer A₀ base g L' h₁ s F N B X T hs hd hu
  (try dsimp only)
  (try k_unmd); (try k_fold)
  k_steps
  all_goals first
    | exact pend0 (by assumption) (by assumption) ⟨rfl, across_2 (by assumption)⟩
    | exact pend0 (by assumption) (by assumption) ⟨rfl, across_1 (by assumption) rfl⟩
end Mine
end
section
open PySem PySem.W PySem.Spec PySem.Calls PyProof.Rows
set_option maxRecDepth 100000
namespace Mine
set_option maxHeartbeats 8000000
theorem fill_greys : (PySem.Challenge.rw_kl0415_01 = PySem.Challenge.rw_kl0415_01) ∧ (Mine.hd.heap_39 = Mine.hd.heap_39) := by w_top off; k_fill; exact ⟨rfl, rfl⟩

noncomputable def P3.grey (p : P3) : Bool := decide (p.a = p.b) && decide (p.b = p.c)
noncomputable def greysOf (ps : List P3) : Int := ((ps.filter P3.grey).length : Nat)
theorem filt_snoc {α β : Type} (f : α → β) (p : α → Bool) {l : List α} {i : Nat} {a : α} {ys : List β} (h : l[i]? = some a) (hy : ys = ((l.take i).filter p).map f) (hp : p a = true) : ys ++ [f a] = ((l.take (i + 1)).filter p).map f := by
  rw [List.take_succ, h, hy, List.filter_append, List.map_append]; simp [hp]
theorem filt_skip {α β : Type} (f : α → β) (p : α → Bool) {l : List α} {i : Nat} {a : α} {ys : List β} (h : l[i]? = some a) (hy : ys = ((l.take i).filter p).map f) (hp : p a = false) : ys = ((l.take (i + 1)).filter p).map f := by
  rw [List.take_succ, h, hy, List.filter_append, List.map_append]; simp [hp]
theorem grey_yes {p : P3} (h1 : p.a = p.b) (h2 : p.b = p.c) : p.grey = true := by unfold P3.grey; simp [h1, h2]
theorem grey_no1 {p : P3} (h1 : p.a ≠ p.b) : p.grey = false := by unfold P3.grey; simp [h1]
theorem grey_no2 {p : P3} (h2 : p.b ≠ p.c) : p.grey = false := by unfold P3.grey; simp [h2]

theorem greys_len {x1 x2 x3 : Addr} {p1 p2 p3 : P3} : (((((([(x1, p1), (x2, p2), (x3, p3)].take 3).filter (fun q => q.2.grey)).map (fun q => Value.ref q.1)).length : Nat) : Int) = greysOf [p1, p2, p3]) ∧ ((([(x1, p1), (x2, p2), (x3, p3)].take 3).filter (fun q => q.2.grey)).map (fun q => Value.ref q.1)).length ≤ 3 := by
  unfold greysOf
  cases h1 : p1.grey <;> cases h2 : p2.grey <;> cases h3 : p3.grey <;> simp [List.filter, h1, h2, h3]

theorem pc_greys (w : World) (l : Addr) (n : Nat) (x1 x2 x3 : Addr) (o1 o2 o3 : Obj) (p1 p2 p3 : P3) (h1 : p1.Obj o1) (h2 : p2.Obj o2) (h3 : p3.Obj o3) :
    PC w 107 1 [.ref l] [(l, W.listOf #[.ref x1, .ref x2, .ref x3] n), (x1, o1), (x2, o2), (x3, o3)] (fun tl v => tl = [] ∧ ∃ t, v = .int (greysOf [p1, p2, p3]) t) := by
  k_with_none
  k_with "subscriptTail Name Constant ref int" => ((with_reducible show wpAny _ _ (subscriptTail _ _ (Value.ref _) (Value.int _ _)) _ _ _); k_dflt (refine my_item (by assumption) (by k_mem) (by with_unfolding_all rfl) (by decide) (by decide) ?_ (by with_unfolding_all rfl)))
  k_with "eval ListComp" => (refine comp_F (by with_reducible assumption) (by with_unfolding_all rfl) (by decide) (by with_unfolding_all rfl) (by decide) (by with_unfolding_all rfl) ?_ (by intro _; with_unfolding_all rfl))
  k_with "eval Name" => (refine nameCX (by assumption) (by k_mem) (by assumption) (by assumption) ?_ (by rfl) (by rfl) (by decide))
  refine' pc_plain (f := 107) (binds := [(Str.ofString "pick", .ref l)]) ?k6 ?k7 ?k9 ?kB ?_ ?c2 ?c3 ?c4 ?c5 ?c6
  (case k6 => k_is); (case k7 => k_is); (case k9 => intro s; exact BindsTo.of_eq rfl); (case c5 => decide); (case kB => exact locs rfl); (case c2 => exact rfl); (case c3 => exact rfl); (case c4 => exact rfl); (case c6 => decide)
  intro p loose mean mg mb dp un gd env outer A₀ base g L' h₁ s F N B X T hs hd hu
  (try dsimp only)
  (try k_unmd); (try k_fold)
  k_steps
  unfold Leaf
  refine comp_go (iter_list (items := #[.ref x1, .ref x2, .ref x3]) rfl ⟨_, N.get (.head _), rfl, _, rfl⟩) (by decide : 3 ≤ sizeLine) F N (fun i ys os => os = [] ∧ ys = (([(x1, p1), (x2, p2), (x3, p3)].take i).filter (fun q => q.2.grey)).map (fun q => .ref q.1)) ⟨rfl, rfl⟩ ?_ ?_
  · intro C i v h₃ tk₃ oC mm ys os E' hi hP hR hNC hm F2 N2 k2
    obtain ⟨rfl, hR⟩ := hR
    obtain ⟨y, oy, py, rfl, hf, ho, hmem⟩ : ∃ y oy py, v = .ref y ∧ [(x1, p1), (x2, p2), (x3, p3)][i]? = some (y, py) ∧ py.Obj oy ∧ (y, oy) ∈ [(l, W.listOf #[.ref x1, .ref x2, .ref x3] n), (x1, o1), (x2, o2), (x3, o3)] := by
      match i, hi with
      | 0, _ => exact ⟨_, o1, _, (Option.some.inj hP).symm, rfl, h1, .tail _ (.head _)⟩
      | 1, _ => exact ⟨_, o2, _, (Option.some.inj hP).symm, rfl, h2, .tail _ (.tail _ (.head _))⟩
      | 2, _ => exact ⟨_, o3, _, (Option.some.inj hP).symm, rfl, h3, .tail _ (.tail _ (.tail _ (.head _)))⟩
    obtain ⟨ta, tb, tc, n', rfl⟩ := ho
    have N3 : News g L' h₃ [(C, oC), (y, W.listOf #[.int py.a ta, .int py.b tb, .int py.c tc] n')] := fun q hq => by
      rcases List.mem_cons.mp hq with rfl | hq
      · exact N2 _ (.head _)
      · rw [List.mem_singleton.mp hq]; exact N2 _ (.tail _ hmem)
    clear N2 hmem N
    k_steps
    all_goals first
      | exact ⟨_, _, rfl, fun _ _ e => e⟩
      | exact ⟨⟨_, _, rfl, fun _ _ e => e⟩, [], fun _ h => (nomatch h), rfl, filt_snoc (fun q : Addr × P3 => Value.ref q.1) (fun q => q.2.grey) hf hR (grey_yes (by assumption) (by assumption))⟩
      | exact filt_skip (fun q : Addr × P3 => Value.ref q.1) (fun q => q.2.grey) hf hR (grey_no1 (by assumption))
      | exact filt_skip (fun q : Addr × P3 => Value.ref q.1) (fun q => q.2.grey) hf hR (grey_no2 (by assumption))
      | trace_state
  · intro D h4 tk4 ys os c4 hR F4 N4 hne hne2 k4
    obtain ⟨rfl, hR⟩ := hR
    have e := greys_len (x1 := x1) (x2 := x2) (x3 := x3) (p1 := p1) (p2 := p2) (p3 := p3)
    have e2 : ys.toArray.size = ys.length := List.size_toArray ..
    have e3 : (ys.length : Int) = greysOf [p1, p2, p3] := by rw [hR]; exact e.1
    have e4 : ys.length ≤ 3 := by rw [hR]; exact e.2
    k_steps
    rw [e3]
    exact pend0 F4 (fun q hq => N4 q (.tail _ hq)) ⟨rfl, _, rfl⟩
end Mine
end
section
open PySem PySem.W PySem.Spec PySem.Calls PyProof.Rows
set_option maxRecDepth 100000
namespace Mine
set_option maxHeartbeats 8000000
theorem fill_due : (PySem.Challenge.rw_kl0415_01 = PySem.Challenge.rw_kl0415_01) ∧ (Mine.hd.heap_39 = Mine.hd.heap_39) := by w_top off; k_fill; exact ⟨rfl, rfl⟩

noncomputable def due (p1 p2 p3 : P3) : Bool := decide (0 < greysOf [p1, p2, p3]) || (across p1 p2 || across p2 p3 || across p3 p1) || (decide (0 < area p2 p3 ∧ 0 < area p3 p1 ∧ 0 < area p1 p2) || decide (area p2 p3 < 0 ∧ area p3 p1 < 0 ∧ area p1 p2 < 0))
section
variable {p1 p2 p3 : P3} {M M' : Int}
theorem due_1 (h : 0 < greysOf [p1, p2, p3]) : Value.bool true = Value.bool (due p1 p2 p3) := by unfold due; simp [h]
theorem due_2 (h : across p1 p2 = true) : Value.bool true = Value.bool (due p1 p2 p3) := by unfold due; simp [h]
theorem due_3 (h : across p2 p3 = true) : Value.bool true = Value.bool (due p1 p2 p3) := by unfold due; simp [h]
theorem due_4 (h : across p3 p1 = true) : Value.bool true = Value.bool (due p1 p2 p3) := by unfold due; simp [h]
theorem due_5 (b : M ≤ area p2 p3 ∧ M ≤ area p3 p1 ∧ M ≤ area p1 p2) (h : 0 < M) : Value.bool (decide (0 < M)) = Value.bool (due p1 p2 p3) := by
  unfold due
  have e : decide (0 < area p2 p3 ∧ 0 < area p3 p1 ∧ 0 < area p1 p2) = true := decide_eq_true (by omega)
  rw [e, decide_eq_true h]; simp
theorem due_6 (g : ¬ 0 < greysOf [p1, p2, p3]) (c1 : across p1 p2 = false) (c2 : across p2 p3 = false) (c3 : across p3 p1 = false) (h : ¬ 0 < M) (a : M = area p2 p3 ∨ M = area p3 p1 ∨ M = area p1 p2)
    (a' : M' = area p2 p3 ∨ M' = area p3 p1 ∨ M' = area p1 p2) (b' : area p2 p3 ≤ M' ∧ area p3 p1 ≤ M' ∧ area p1 p2 ≤ M') : Value.bool (decide (M' < 0)) = Value.bool (due p1 p2 p3) := by
  unfold due
  have e : decide (0 < area p2 p3 ∧ 0 < area p3 p1 ∧ 0 < area p1 p2) = false := decide_eq_false (by omega)
  have e2 : decide (area p2 p3 < 0 ∧ area p3 p1 < 0 ∧ area p1 p2 < 0) = decide (M' < 0) := decide_eq_decide.mpr (by omega)
  rw [e, e2, c1, c2, c3, decide_eq_false g]; simp
end
theorem pc_due (w : World) (l : Addr) (n : Nat) (x1 x2 x3 : Addr) (o1 o2 o3 : Obj) (p1 p2 p3 : P3) (h1 : p1.Obj o1) (h2 : p2.Obj o2) (h3 : p3.Obj o3) (k1 : p1.Ok) (k2 : p2.Ok) (k3 : p3.Ok) :
    PC w 114 3 [.ref l] [(l, W.listOf #[.ref x1, .ref x2, .ref x3] n), (x1, o1), (x2, o2), (x3, o3)] (fun tl v => tl = [] ∧ v = .bool (due p1 p2 p3)) := by
  k_with_none
  k_with "subscriptTail Name Constant ref int" => ((with_reducible show wpAny _ _ (subscriptTail _ _ (Value.ref _) (Value.int _ _)) _ _ _); k_dflt (refine my_item (by assumption) (by k_mem) (by with_unfolding_all rfl) (by decide) (by decide) ?_ (by with_unfolding_all rfl)))
  k_with "call ref" => (k_here; (with_reducible show wpAny _ _ (call (Value.ref 90) _) _ _ _); refine pc_useE (by assumption) (by assumption) (by assumption) (by assumption) (by rfl) (by assumption) (by (repeat (refine sub_cons (by k_mem) ?_)); exact List.forall_mem_nil _) (lim_d1 hd (by decide)) (lim_u3 hu (by decide)) (pc_area _ _ _ _ _ _ _ ?_ ?_ (by assumption) (by assumption)) ?_; (· assumption); (· assumption); intro h' tk' t1' F' N' kp'; clear kp')
  k_with "call ref" => (k_here; (with_reducible show wpAny _ _ (call (Value.ref 97) _) _ _ _); refine pc_useV (by assumption) (by assumption) (by assumption) (by assumption) (by rfl) (by assumption) (by (repeat (refine sub_cons (by k_mem) ?_)); exact List.forall_mem_nil _) (lim_d1 hd (by decide)) (lim_u3 hu (by decide)) (pc_across _ _ _ _ _ _ _ ?_ ?_ (by assumption) (by assumption)) ?_; (· assumption); (· assumption); intro h' tk' F' N' kp'; clear kp')
  k_with "call ref" => (k_here; (with_reducible show wpAny _ _ (call (Value.ref 107) _) _ _ _); refine pc_useE (by assumption) (by assumption) (by assumption) (by assumption) (by rfl) (by assumption) (by (repeat (refine sub_cons (by k_mem) ?_)); exact List.forall_mem_nil _) (lim_d1 hd (by decide)) (lim_u3 hu (by decide)) (pc_greys _ _ _ _ _ _ _ _ _ _ _ _ (by assumption) (by assumption) (by assumption)) ?_; intro h' tk' t1' F' N' kp'; clear kp')
  refine' pc_plain (f := 114) (binds := [(Str.ofString "pick", .ref l)]) ?k6 ?k7 ?k9 ?kB ?_ ?c2 ?c3 ?c4 ?c5 ?c6
  (case k6 => k_is); (case k7 => k_is); (case k9 => intro s; exact BindsTo.of_eq rfl); (case c5 => decide); (case kB => exact locs rfl); (case c2 => exact rfl); (case c3 => exact rfl); (case c4 => exact rfl); (case c6 => decide)
  intro p loose mean mg mb dp un gd env outer A₀ base g L' h₁ s F N B X T hs hd hu
  (try dsimp only)
  (try k_unmd); (try k_fold)
  k_steps
  all_goals first
    | exact pend0 (by assumption) (by assumption) ⟨rfl, due_1 (by assumption)⟩
    | exact pend0 (by assumption) (by assumption) ⟨rfl, due_5 (by assumption) (by assumption)⟩
    | exact pend0 (by assumption) (by assumption) ⟨rfl, due_6 (by assumption) (by assumption) (by assumption) (by assumption) (by assumption) (by assumption) (by assumption) (by assumption)⟩
    | exact pend0t (by assumption) (by assumption) ⟨rfl, due_2 (by assumption)⟩
    | exact pend0t (by assumption) (by assumption) ⟨rfl, due_3 (by assumption)⟩
    | exact pend0t (by assumption) (by assumption) ⟨rfl, due_4 (by assumption)⟩
    | exact pend0t (by assumption) (by assumption) ⟨rfl, due_5 (by assumption) (by assumption)⟩
    | exact pend0t (by assumption) (by assumption) ⟨rfl, due_6 (by assumption) (by assumption) (by assumption) (by assumption) (by assumption) (by assumption) (by assumption) (by assumption)⟩
    | trace_state
end Mine
end
section
open PySem PySem.W PySem.Spec PySem.Calls PyProof.Rows
set_option maxRecDepth 100000
namespace Mine
set_option maxHeartbeats 2000000
theorem fill_stirred : (PySem.Challenge.rw_kl0415_01 = PySem.Challenge.rw_kl0415_01) ∧ (Mine.hd.heap_39 = Mine.hd.heap_39) := by w_top off; k_fill; exact ⟨rfl, rfl⟩
local macro_rules | `(tactic| k_ne) => `(tactic| k_extra "ne")
local macro_rules | `(tactic| k_lt $h:ident) => `(tactic| skip)


noncomputable def absArea (p q : P3) : Int := if area p q < 0 then -area p q else area p q
noncomputable def mix (p1 p2 p3 : P3) : P3 := ⟨absArea p2 p3 * p1.a + absArea p3 p1 * p2.a + absArea p1 p2 * p3.a, absArea p2 p3 * p1.b + absArea p3 p1 * p2.b + absArea p1 p2 * p3.b, absArea p2 p3 * p1.c + absArea p3 p1 * p2.c + absArea p1 p2 * p3.c⟩
theorem mul_bound {x y : Int} (h1 : -12 ≤ x) (h2 : x ≤ 12) (h3 : -12 ≤ y) (h4 : y ≤ 12) : -144 ≤ x * y ∧ x * y ≤ 144 := by
  have e : (x * y).natAbs ≤ 144 := by
    rw [Int.natAbs_mul]
    exact Nat.le_trans (Nat.mul_le_mul (show x.natAbs ≤ 12 by omega) (show y.natAbs ≤ 12 by omega)) (by decide)
  omega
theorem area_bound {p q : P3} (hp : p.Ok) (hq : q.Ok) : -288 ≤ area p q ∧ area p q ≤ 288 := by
  obtain ⟨a0, b0, c0, a1, b1, c1⟩ := hp
  obtain ⟨d0, e0, f0, d1, e1, f1⟩ := hq
  have x := mul_bound (x := p.a - p.c) (y := q.b - q.c) (by omega) (by omega) (by omega) (by omega)
  have y := mul_bound (x := p.b - p.c) (y := q.a - q.c) (by omega) (by omega) (by omega) (by omega)
  unfold area; omega
theorem absArea_bound {p q : P3} (hp : p.Ok) (hq : q.Ok) : 0 ≤ absArea p q ∧ absArea p q ≤ 288 := by
  have := area_bound hp hq
  unfold absArea; split <;> omega

theorem mulR {a b : Int} (h0 : 0 ≤ b) (h1 : b ≤ 12) : IntMulOk a b := IntMulOk.of_right (intBits_le_64 (by omega) (by omega))
theorem pc_stirred (w : World) (l : Addr) (n : Nat) (x1 x2 x3 : Addr) (o1 o2 o3 : Obj) (p1 p2 p3 : P3) (h1 : p1.Obj o1) (h2 : p2.Obj o2) (h3 : p3.Obj o3) (k1 : p1.Ok) (k2 : p2.Ok) (k3 : p3.Ok)
    (hm : Small (mix p1 p2 p3).a (mix p1 p2 p3).b (mix p1 p2 p3).c) (hg : Parted (fl (mix p1 p2 p3).a) (fl (mix p1 p2 p3).b) (fl (mix p1 p2 p3).c)) :
    PC w 119 4 [.ref l] [(l, W.listOf #[.ref x1, .ref x2, .ref x3] n), (x1, o1), (x2, o2), (x3, o3)] (fun tl v => tl = [] ∧ ∃ t, v = .float (tell (mix p1 p2 p3).a (mix p1 p2 p3).b (mix p1 p2 p3).c).s t) := by
  k_with_none
  k_with "subscriptTail Name Constant ref int" => ((with_reducible show wpAny _ _ (subscriptTail _ _ (Value.ref _) (Value.int _ _)) _ _ _); k_dflt (refine my_item (by assumption) (by k_mem) (by with_unfolding_all rfl) (by decide) (by decide) ?_ (by with_unfolding_all rfl)))
  k_with "subscriptTail Name Name ref int" => ((with_reducible show wpAny _ _ (subscriptTail _ _ (Value.ref _) (Value.int _ _)) _ _ _); k_dflt (refine my_item (by assumption) (by k_mem) (by with_unfolding_all rfl) (by decide) (by decide) ?_ (by with_unfolding_all rfl)))
  k_with "ne" => (refine neN ?_; first | exact Mine.sk1 | exact Mine.sk2 | exact Mine.sk3 | exact Mine.sk4 | exact Ne.symm Mine.sk1 | exact Ne.symm Mine.sk2 | exact Ne.symm Mine.sk3 | exact Ne.symm Mine.sk4 | exact Mine.n4a (by assumption) | exact Mine.n4b (by assumption) | exact Mine.n4c (by assumption) | exact Mine.n4d (by assumption) | exact Mine.ne_by (by assumption) (by k_mem) | exact Ne.symm (Mine.n4a (by assumption)) | exact Ne.symm (Mine.n4b (by assumption)) | exact Ne.symm (Mine.n4c (by assumption)) | exact Ne.symm (Mine.n4d (by assumption)) | exact Ne.symm (Mine.ne_by (by assumption) (by k_mem)) | exact Mine.ne_lt (by assumption) (by k_mem) | exact Ne.symm (Mine.ne_lt (by assumption) (by k_mem)) | exact Mine.nl1 (by assumption) (by k_mem) | exact Mine.nl2 (by assumption) (by k_mem) | exact Mine.nl3 (by assumption) (by k_mem) | exact Mine.nl4 (by assumption) (by k_mem))
  k_with "call ref" => (k_here; (with_reducible show wpAny _ _ (call (Value.ref 90) _) _ _ _); refine pc_useE (by assumption) (by assumption) (by assumption) (by assumption) (by rfl) (by assumption) (by (repeat (refine sub_cons (by k_mem) ?_)); exact List.forall_mem_nil _) (lim_d1 hd (by decide)) (lim_u3 hu (by decide)) (pc_area _ _ _ _ _ _ _ ?_ ?_ (by assumption) (by assumption)) ?_; (· assumption); (· assumption); intro h' tk' t1' F' N' kp'; clear kp')
  k_with "call ref" => (k_here; (with_reducible show wpAny _ _ (call (Value.ref 78) _) _ _ _); refine pc_useN (by assumption) (by assumption) (by assumption) (by assumption) (by rfl) (by assumption) (by (repeat (refine sub_cons (by k_mem) ?_)); exact List.forall_mem_nil _) (lim_d1 hd (by decide)) (lim_u3 hu (by decide)) (pc_told _ _ _ _ _ _ ?_ (by first | assumption | exact ⟨_, _, _, _, rfl⟩) (by assumption)) ?_; (· assumption); intro h' tk' y' q1 q2 q3 q4 F' N' hne')
  k_with "exec Assign cons ListComp" => (refine comp_FA (by with_reducible assumption) (by with_unfolding_all rfl) (by with_unfolding_all rfl) (by decide) (by with_unfolding_all rfl) (by decide) (by with_unfolding_all rfl) (by with_unfolding_all rfl) (by with_unfolding_all rfl) ?_ (by intro _; with_unfolding_all rfl))
  k_with "eval Name" => (refine nameCX (by assumption) (by k_mem) (by assumption) (by assumption) ?_ (by rfl) (by rfl) (by decide))
  k_with "eval Name" => (refine nameCC (by assumption) (by rfl) (by k_mem) (by assumption) ?_ (by rfl) (by rfl) (by decide))
  k_with "binaryOp Mult int int" => (refine PyProof.Rows.mul_int ?_ (by exact mulR (by assumption) (by assumption)))
  have h1' := h1; have h2' := h2; have h3' := h3
  obtain ⟨ta, tb, tc, n1, e1⟩ := h1
  obtain ⟨td, te, tf, n2, e2⟩ := h2
  obtain ⟨tg, th, ti, n3, e3⟩ := h3
  subst e1; subst e2; subst e3
  refine' pc_cells (f := 119) (binds := [(Str.ofString "pick", .ref l)]) ?k6 ?k7 ?k9 ?kB ?kD ?_ ?c2 ?c3 ?c4 ?c6
  (case k6 => k_is); (case k7 => k_is); (case k9 => intro s; exact BindsTo.of_eq rfl); (case kB => exact rfl); (case kD => decide +kernel); (case c2 => exact rfl); (case c3 => exact rfl); (case c4 => exact rfl); (case c6 => decide)
  intro p loose mean mg mb dp un gd env outer A₀ base g L' h₁ s tk cells F N Y B X T hs hl hd hu
  (try k_lt hl); k_cells Y; (try simp only [List.cons_append, List.nil_append] at N)
  (try dsimp only)
  (try k_unmd); (try k_fold)
  k_steps
  rename IsRange _ _ _ _ _ _ _ _ => hr
  rename Fr _ _ _ _ => F1
  rename News _ _ _ _ => N1
  have b1 := absArea_bound k2 k3
  have b2 := absArea_bound k3 k1
  have b3 := absArea_bound k1 k2
  have u1 := k1.a0
  have u2 := k1.b0
  have u3 := k1.c0
  have u4 := k1.a1
  have u5 := k1.b1
  have u6 := k1.c1
  have v1 := k2.a0
  have v2 := k2.b0
  have v3 := k2.c0
  have v4 := k2.a1
  have v5 := k2.b1
  have v6 := k2.c1
  have w1 := k3.a0
  have w2 := k3.b0
  have w3 := k3.c0
  have w4 := k3.a1
  have w5 := k3.b1
  have w6 := k3.c1
  have z1 := b1.1
  have z2 := b1.2
  have z3 := b2.1
  have z4 := b2.2
  have z5 := b3.1
  have z6 := b3.2
  clear k1 k2 k3 b1 b2 b3
  unfold Leaf
  refine ⟨3, _, _, iter_range rfl hr (by decide) (by decide), (by decide : 3 ≤ sizeLine), F1, N1, fun i ys os => os = [] ∧ IntsAre ys ([(mix p1 p2 p3).a, (mix p1 p2 p3).b, (mix p1 p2 p3).c].take i), ⟨rfl, .nil⟩, ?_, ?_⟩
  · intro C i v h₃ tk₃ oC mm ys os E' hi hP hR hNC hm F2 N2 k2
    obtain ⟨rfl, hR⟩ := hR
    obtain ⟨t, rfl⟩ := hP
    clear N1 F1 h1' h2' h3'
    refine step_plain ?_
    dsimp only at *
    simp only [List.nil_append] at N2
    match i, hi with
    | 0, _ =>
      replace hm : mm (Str.ofString "j") = some (.int 0 t) := hm
      (try k_unmd); (try k_fold)
      k_steps
      exact ⟨⟨_, _, rfl, fun _ _ e => e⟩, [], fun _ h => (nomatch h), rfl, hR.append (.cons _ _ .nil)⟩
    | 1, _ =>
      replace hm : mm (Str.ofString "j") = some (.int 1 t) := hm
      (try k_unmd); (try k_fold)
      k_steps
      exact ⟨⟨_, _, rfl, fun _ _ e => e⟩, [], fun _ h => (nomatch h), rfl, hR.append (.cons _ _ .nil)⟩
    | 2, _ =>
      replace hm : mm (Str.ofString "j") = some (.int 2 t) := hm
      (try k_unmd); (try k_fold)
      k_steps
      exact ⟨⟨_, _, rfl, fun _ _ e => e⟩, [], fun _ h => (nomatch h), rfl, hR.append (.cons _ _ .nil)⟩
  · intro D h4 tk4 ys os c4 hR F4 N4 hne hne2
    obtain ⟨rfl, hR⟩ := hR
    have hp := paint_of_ints (c := c4) (show IntsAre ys [(mix p1 p2 p3).a, (mix p1 p2 p3).b, (mix p1 p2 p3).c] from hR)
    clear N1 F1
    simp only [List.nil_append] at N4
    k_steps
    rename News _ _ _ _ => N5
    rename Fr _ _ _ _ => F5
    exact pend0 F5 (pickN N5 (by (repeat (refine sub_cons (by k_mem) ?_)); exact List.forall_mem_nil _)) ⟨rfl, _, rfl⟩
end Mine
end
section
open PySem PySem.W PySem.Spec PySem.Calls PyProof.Rows
set_option maxRecDepth 100000
namespace Mine

inductive FloatsAre : List Value → List UInt64 → Prop
  | nil : FloatsAre [] []
  | cons (x : UInt64) (t : Tok) {vs : List Value} {xs : List UInt64} : FloatsAre vs xs → FloatsAre (.float x t :: vs) (x :: xs)
theorem FloatsAre.append : ∀ {vs ws : List Value} {xs ys : List UInt64}, FloatsAre vs xs → FloatsAre ws ys → FloatsAre (vs ++ ws) (xs ++ ys)
  | _, _, _, _, .nil, h => h
  | _, _, _, _, .cons x t h', h => .cons x t (h'.append h)
theorem FloatsAre.length : ∀ {vs : List Value} {xs : List UInt64}, FloatsAre vs xs → vs.length = xs.length
  | _, _, .nil => rfl
  | _, _, .cons _ _ h => by rw [List.length_cons, List.length_cons, h.length]
theorem FloatsAre.three {vs : List Value} {a b c : UInt64} (h : FloatsAre vs [a, b, c]) : ∃ t u v, vs = [.float a t, .float b u, .float c v] := by
  cases h with | cons _ t h => cases h with | cons _ u h => cases h with | cons _ v h => cases h with | nil => exact ⟨t, u, v, rfl⟩
noncomputable def fltOf : Value → UInt64
  | .float x _ => x
  | _ => 0
theorem FloatsAre.all : ∀ {vs : List Value} {xs : List UInt64}, FloatsAre vs xs → ∀ v ∈ vs, ∃ x t, v = .float x t ∧ x ∈ xs
  | _, _, .nil, v, hv => by simp at hv
  | _, _, .cons x t h, v, hv => by
    rcases List.mem_cons.mp hv with rfl | hv
    · exact ⟨x, t, rfl, List.mem_cons_self⟩
    · obtain ⟨y, u, e, hy⟩ := h.all v hv
      exact ⟨y, u, e, List.mem_cons_of_mem _ hy⟩
theorem FloatsAre.flts : ∀ {vs : List Value} {xs : List UInt64}, FloatsAre vs xs → vs.map fltOf = xs
  | _, _, .nil => rfl
  | _, _, .cons x t h => by rw [List.map_cons, h.flts]; rfl
theorem floatsAre_map : ∀ (vs : List Value), (∀ v, v ∈ vs → ∃ x t, v = .float x t) → FloatsAre vs (vs.map fltOf)
  | [], _ => .nil
  | v :: vs, h => by
    obtain ⟨x, t, rfl⟩ := h v List.mem_cons_self
    exact .cons x t (floatsAre_map vs fun u hu => h u (List.mem_cons_of_mem _ hu))

abbrev fltKind : KeyKind where
  α := Int
  blt a b := decide (a < b)
  irrefl a := by simp
  trans a b c h1 h2 := by simp only [decide_eq_true_eq] at *; omega
  negTrans a b c h := by simp only [decide_eq_true_eq] at *; omega
  total a b h1 h2 := by simp only [decide_eq_false_iff_not] at *; omega
  keyOf v := match v with | .float x _ => if Float64.isFinite x = true then some (Float64.val x) else none | _ => none
  dflt := 0

theorem fin_decode {x : UInt64} (h : Float64.isFinite x = true) : ∃ a m e, Float64.decode x = .fin a m e := by
  unfold Float64.isFinite at h
  revert h; cases Float64.decode x <;> simp
theorem cmp_val {x y : UInt64} (hx : Float64.isFinite x = true) (hy : Float64.isFinite y = true) : Float64.cmp x y = some (compare (Float64.val x) (Float64.val y)) := by
  obtain ⟨a, m, e, h1⟩ := fin_decode hx
  obtain ⟨b, k, f, h2⟩ := fin_decode hy
  exact Float64.cmp_right h1 h2
theorem lt_val {x y : UInt64} (hx : Float64.isFinite x = true) (hy : Float64.isFinite y = true) : (Float64.cmp x y == some .lt) = decide (Float64.val x < Float64.val y) := by
  rw [cmp_val hx hy]
  by_cases h : Float64.val x < Float64.val y
  · rw [decide_eq_true h, Int.compare_eq_lt.mpr h]; rfl
  · rw [decide_eq_false h]
    cases e : compare (Float64.val x) (Float64.val y) with
    | lt => exact absurd (Int.compare_eq_lt.mp e) h
    | eq => rfl
    | gt => rfl

section
variable {prog : Program} {w : World} {A : Around} {E : Value → Shared → Prop} {s : Shared}
theorem call_float_lt {a b : UInt64} {t u : Tok} {Q : Value → Shared → Prop} (h : Q (.bool (Float64.cmp a b == some .lt)) s) :
    wpAny (model prog w) A (call (.builtin "float.__lt__") [.float a t, .float b u]) Q E s :=
  call_gives F.slot_float_lt (AutoFloatOps.typeIs_float s a t) F.entry_float_lt (F.args_float_lt_2 _ _) (AutoFloatG5.float___lt___float_float_0 a t b u) h
theorem oneLt_float {a b : UInt64} {t u : Tok} {Q : Bool → Shared → Prop} (h : Q (Float64.cmp a b == some .lt) s) : wpAny (model prog w) A (oneLt' true (.float a t) (.float b u)) Q E s := by
  rw [oneLt'_eq]
  simp only [if_true]
  refine wpAny_bind (wpAny_cRoomFor_byValue rfl ?_)
  refine wpAny_bind (wpAny_callSpecialIfBound?_slot (AutoFloatOps.typeIs_float s a t) F.slot_float_lt (call_float_lt ?_))
  exact wpAny_truthy_bool h
end
theorem fltKind_oneLt : fltKind.OneLt := by
  intro prog w A E s x y a b Q ha hb h
  cases x <;> simp only [fltKind, reduceCtorEq] at ha
  cases y <;> simp only [fltKind, reduceCtorEq] at hb
  rename_i x t y u
  by_cases hx : Float64.isFinite x = true
  · by_cases hy : Float64.isFinite y = true
    · rw [if_pos hx] at ha; rw [if_pos hy] at hb
      cases ha; cases hb
      refine oneLt_float ?_
      rw [lt_val hx hy]; exact h
    · rw [if_neg hy] at hb; cases hb
  · rw [if_neg hx] at ha; cases ha

theorem FloatsAre.keysOf {vs : List Value} {xs : List UInt64} (hS : FloatsAre vs xs) (hf : ∀ x ∈ xs, Float64.isFinite x = true) : KeysOf fltKind (pairsOf vs) := by
  intro p hp
  rw [pairsOf_toList] at hp
  obtain ⟨x, t, e, hx⟩ := hS.all _ (mem_zip_self hp).2
  exact ⟨Float64.val x, by rw [e]; exact if_pos (hf x hx)⟩
theorem KK_flt {xs : Array Keyed} {i : Nat} (hi : i < xs.size) {x : UInt64} {t : Tok} {q : Value} (hf : Float64.isFinite x = true) (hx : xs[i] = (.float x t, q)) : KK fltKind xs i = Float64.val x := by
  unfold KK; rw [getElem?_pos xs i hi, hx]
  show Option.getD (if Float64.isFinite x = true then some (Float64.val x) else none) _ = _
  rw [if_pos hf]; rfl
theorem firstOfTuple'_flt (x : UInt64) (t : Tok) : firstOfTuple' (.float x t) = pure none := rfl
theorem mapM_first_flts : ∀ {vs : List Value} {xs : List UInt64}, FloatsAre vs xs → vs.mapM firstOfTuple' = pure (vs.map fun _ => none)
  | _, _, .nil => by simp
  | _, _, .cons x t h => by rw [List.mapM_cons, firstOfTuple'_flt, mapM_first_flts h]; simp
theorem mapM_typeOf_flts : ∀ {vs : List Value} {xs : List UInt64}, FloatsAre vs xs → vs.mapM typeOf = pure (vs.map fun _ => Value.type "float")
  | _, _, .nil => by simp
  | _, _, .cons x t h => by
    rw [List.mapM_cons, mapM_typeOf_flts h]
    show (pure (Value.type "float") >>= fun b => pure _ >>= fun bs => pure (b :: bs)) = _
    simp
theorem keyKind_flts {v₁ v₂ : Value} {vs : List Value} {xs : List UInt64} (hS : FloatsAre (v₁ :: v₂ :: vs) xs) : keyKind' (v₁ :: v₂ :: vs).toArray = pure oneType' := by
  rw [keyKind'_eq, List.mapM_toArray, mapM_first_flts hS]
  simp only [map_pure, pure_bind]
  rw [if_neg (by simp), if_neg (by simp)]
  rw [oneTypeOnly'_eq, List.mapM_toArray, mapM_typeOf_flts hS]
  simp only [map_pure, pure_bind]
  have hall : ((List.map (fun _ => Value.type "float") (v₁ :: v₂ :: vs)).toArray.all fun x => x == Value.type "float") = true := by
    simp only [List.all_toArray, List.all_map, List.all_eq_true]
    intro _ _
    rfl
  have h0 : (List.map (fun _ => Value.type "float") (v₁ :: v₂ :: vs)).toArray[0]? = some (Value.type "float") := by simp
  rw [h0]
  simp only [hall, if_true, pure_bind, Option.isSome_some]

theorem sorted_out_flt {vs : List Value} {xs : List UInt64} (hS : FloatsAre vs xs) (hf : ∀ x ∈ xs, Float64.isFinite x = true) {ks : Array Keyed} (hp : ks.Perm (pairsOf vs)) (hs : SortedToK fltKind ks (pairsOf vs).size) :
    ∃ xs', FloatsAre (ks.map (·.2)).toList xs' ∧ xs'.Perm xs ∧ xs'.Pairwise (fun a b => Float64.val a ≤ Float64.val b) := by
  have hl : ks.toList.Perm (vs.zip vs) := by rw [← pairsOf_toList]; exact Array.perm_iff_toList_perm.mp hp
  have hmem : ∀ p, p ∈ ks.toList → p.1 = p.2 ∧ p.1 ∈ vs := fun p hp' => mem_zip_self (hl.mem_iff.mp hp')
  refine ⟨ks.toList.map (fun p => fltOf p.1), ?_, ?_, ?_⟩
  · have e : (ks.map (·.2)).toList = ks.toList.map (·.1) := by
      rw [Array.toList_map]; exact List.map_congr_left fun p hp' => (hmem p hp').1.symm
    rw [e]
    have h1 := floatsAre_map (ks.toList.map (·.1)) (by
      intro v hv
      obtain ⟨p, hp', rfl⟩ := List.mem_map.mp hv
      obtain ⟨x, t, e, _⟩ := hS.all _ (hmem p hp').2
      exact ⟨x, t, e⟩)
    rwa [List.map_map] at h1
  · have h1 := hl.map (fun p => fltOf p.1)
    have e2 : (vs.zip vs).map (fun p => fltOf p.1) = xs := by
      have : (vs.zip vs).map (fun p => fltOf p.1) = ((vs.zip vs).map Prod.fst).map fltOf := by rw [List.map_map]; rfl
      rw [this, List.map_fst_zip (Nat.le_refl _), hS.flts]
    rwa [e2] at h1
  · rw [List.pairwise_iff_getElem]
    intro i j hi hj hij
    have hi' : i < ks.size := by simpa using hi
    have hj' : j < ks.size := by simpa using hj
    have h1 := hs i j (Nat.le_of_lt hij) (by rw [← hp.size_eq]; exact hj')
    obtain ⟨x, t, ex, mx⟩ := hS.all _ (hmem ks[i] (by simp)).2
    obtain ⟨y, u, ey, my⟩ := hS.all _ (hmem ks[j] (by simp)).2
    rw [KK_flt hi' (x := x) (t := t) (q := ks[i].2) (hf x mx) (Prod.ext ex rfl), KK_flt hj' (x := y) (t := u) (q := ks[j].2) (hf y my) (Prod.ext ey rfl)] at h1
    change decide (Float64.val y < Float64.val x) = false at h1
    simp only [List.getElem_map, Array.getElem_toList]
    rw [show fltOf ks[i].1 = x by rw [ex]; rfl, show fltOf ks[j].1 = y by rw [ey]; rfl]
    have := of_decide_eq_false h1
    omega

section
variable {prog : Program} {w : World} {A : Around} {E : Value → Shared → Prop} {s : Shared}
theorem sorted_F {h₀ : Heap} {L : Addr} {m : Str → Option Value} {news : List (Addr × Obj)} {l : Addr} {vs : List Value} {xs : List UInt64} {Q : Value → Shared → Prop}
    (F : Fr h₀ L s.heap m) (N : News h₀ L s.heap news) (hl : s.heap.IsList l vs.toArray) (hS : FloatsAre vs xs) (hf : ∀ x ∈ xs, Float64.isFinite x = true) (h64 : vs.length < 64)
    (h : ∀ (h' : Heap) (D : Addr) (vs' : List Value) (xs' : List UInt64) (e : Nat), Fr h₀ L h' m → News h₀ L h' ((D, W.listOf vs'.toArray e) :: news) →
      FloatsAre vs' xs' → xs'.Perm xs → xs'.Pairwise (fun a b => Float64.val a ≤ Float64.val b) → Q (.ref D) { s with heap := h' }) :
    wpAny (model prog w) A (call (.builtin "sorted") [.ref l]) Q E s := by
  refine sortedK fltKind_oneLt hl (hS.keysOf hf) (fun v₁ v₂ rest e => keyKind_flts (by rw [← e]; exact hS)) h64 fun st' hp hs => ?_
  obtain ⟨xs', h1, h2, h3⟩ := sorted_out_flt hS hf hp hs
  obtain ⟨e, he⟩ := sortedAll_at s.heap vs ((arrOf st').map (·.2))
  exact h _ _ ((arrOf st').map (·.2)).toList xs' e (F.kept fun _ _ => sortedAll_old) (N.kept_cons F (fun _ _ => sortedAll_old) (Nat.le_succ _) (by rw [Array.toArray_toList]; exact he)) h1 h2 h3
end
end Mine
end
section
open PySem PySem.W PySem.Spec PySem.Calls PyProof.Rows
set_option maxRecDepth 100000
namespace Mine
set_option maxHeartbeats 4000000
theorem fill_seen : (PySem.Challenge.rw_kl0415_01 = PySem.Challenge.rw_kl0415_01) ∧ (Mine.hd.heap_39 = Mine.hd.heap_39) := by w_top off; k_fill; exact ⟨rfl, rfl⟩

noncomputable def zeroS (n : Name) : Bool := Float64.cmp n.s 0 == some .eq

noncomputable def anyZ (n1 n2 n3 : Name) : Bool := zeroS n1 || zeroS n2 || zeroS n3
theorem zeros_len {x1 x2 x3 : Addr} {n1 n2 n3 : Name} : ((([(x1, n1), (x2, n2), (x3, n3)].take 3).filter (fun q => zeroS q.2)).map (fun q => Value.ref q.1)).length ≤ 3 ∧ (anyZ n1 n2 n3 = true → 0 < ((([(x1, n1), (x2, n2), (x3, n3)].take 3).filter (fun q => zeroS q.2)).map (fun q => Value.ref q.1)).length) ∧ (anyZ n1 n2 n3 = false → ((([(x1, n1), (x2, n2), (x3, n3)].take 3).filter (fun q => zeroS q.2)).map (fun q => Value.ref q.1)).length = 0) := by
  unfold anyZ
  cases h1 : zeroS n1 <;> cases h2 : zeroS n2 <;> cases h3 : zeroS n3 <;> simp [List.filter, h1, h2, h3]
noncomputable def gapT : UInt64 := Float64.add 4602678819172646912 (Float64.ofFrac false 1 (2 ^ 40))
noncomputable def gapMax (a b c : UInt64) : UInt64 := fmax (fmax (Float64.sub b a) (Float64.sub c b)) (Float64.sub (Float64.add a 4607182418800017408) c)
noncomputable def SeenOut (n1 n2 n3 : Name) (b : Bool) : Prop :=
  (anyZ n1 n2 n3 = true ∧ b = true) ∨ (anyZ n1 n2 n3 = false ∧ ∃ x y z, [x, y, z].Perm [n1.h, n2.h, n3.h] ∧ [x, y, z].Pairwise (fun a b => Float64.val a ≤ Float64.val b) ∧ b = (Float64.cmp (gapMax x y z) gapT == some .lt))
theorem pc_seen (w : World) (l : Addr) (n : Nat) (x1 x2 x3 : Addr) (o1 o2 o3 : Obj) (n1 n2 n3 : Name) (h1 : NameObj o1 n1) (h2 : NameObj o2 n2) (h3 : NameObj o3 n3)
    (f1 : Float64.isFinite n1.h = true) (f2 : Float64.isFinite n2.h = true) (f3 : Float64.isFinite n3.h = true) :
    PC w 102 1 [.ref l] [(l, W.listOf #[.ref x1, .ref x2, .ref x3] n), (x1, o1), (x2, o2), (x3, o3)] (fun tl v => tl = [] ∧ ∃ b, v = .bool b ∧ SeenOut n1 n2 n3 b) := by
  k_with_none
  k_with "call builtin:max" => ((with_reducible show wpAny _ _ (call _ [Value.float _ _, Value.float _ _, Value.float _ _]) _ _ _); refine max_three_ff rfl (by assumption) (by assumption) ?_; intro h' tk' r' F' N')
  k_with "eval ListComp" => (refine comp_F (by with_reducible assumption) (by with_unfolding_all rfl) (by decide) (by with_unfolding_all rfl) (by decide) (by with_unfolding_all rfl) ?_ (by intro _; with_unfolding_all rfl))
  k_with "eval Name" => (refine nameCX (by assumption) (by k_mem) (by assumption) (by assumption) ?_ (by rfl) (by rfl) (by decide))
  refine' pc_plain (f := 102) (binds := [(Str.ofString "names", .ref l)]) ?k6 ?k7 ?k9 ?kB ?_ ?c2 ?c3 ?c4 ?c5 ?c6
  (case k6 => k_is); (case k7 => k_is); (case k9 => intro s; exact BindsTo.of_eq rfl); (case c5 => decide); (case kB => exact locs rfl); (case c2 => exact rfl); (case c3 => exact rfl); (case c4 => exact rfl); (case c6 => decide)
  intro p loose mean mg mb dp un gd env outer A₀ base g L' h₁ s F N B X T hs hd hu
  (try dsimp only)
  (try k_unmd); (try k_fold)
  k_steps
  unfold Leaf
  refine comp_go (iter_list (items := #[.ref x1, .ref x2, .ref x3]) rfl ⟨_, N.get (.head _), rfl, _, rfl⟩) (by decide : 3 ≤ sizeLine) F N (fun i ys os => os = [] ∧ ys = (([(x1, n1), (x2, n2), (x3, n3)].take i).filter (fun q => zeroS q.2)).map (fun q => .ref q.1)) ⟨rfl, rfl⟩ ?_ ?_
  · intro C i v h₃ tk₃ oC mm ys os E' hi hP hR hNC hm F2 N2 k2
    obtain ⟨rfl, hR⟩ := hR
    obtain ⟨y, oy, py, rfl, hf, ho, hmem⟩ : ∃ y oy py, v = .ref y ∧ [(x1, n1), (x2, n2), (x3, n3)][i]? = some (y, py) ∧ NameObj oy py ∧ (y, oy) ∈ [(l, W.listOf #[.ref x1, .ref x2, .ref x3] n), (x1, o1), (x2, o2), (x3, o3)] := by
      match i, hi with
      | 0, _ => exact ⟨_, o1, _, (Option.some.inj hP).symm, rfl, h1, .tail _ (.head _)⟩
      | 1, _ => exact ⟨_, o2, _, (Option.some.inj hP).symm, rfl, h2, .tail _ (.tail _ (.head _))⟩
      | 2, _ => exact ⟨_, o3, _, (Option.some.inj hP).symm, rfl, h3, .tail _ (.tail _ (.tail _ (.head _)))⟩
    obtain ⟨ta, tb, tc, n', rfl⟩ := ho
    have N3 : News g L' h₃ [(C, oC), (y, { cls := .type "tuple", data := .seq #[.float py.h ta, .float py.s tb, .float py.v tc] n' })] := fun q hq => by
      rcases List.mem_cons.mp hq with rfl | hq
      · exact N2 _ (.head _)
      · rw [List.mem_singleton.mp hq]; exact N2 _ (.tail _ hmem)
    clear N2 hmem N
    k_steps
    all_goals first
      | exact ⟨_, _, rfl, fun _ _ e => e⟩
      | exact ⟨⟨_, _, rfl, fun _ _ e => e⟩, [], fun _ h => (nomatch h), rfl, filt_snoc (fun q : Addr × Name => Value.ref q.1) (fun q => zeroS q.2) hf hR (by assumption)⟩
      | exact filt_skip (fun q : Addr × Name => Value.ref q.1) (fun q => zeroS q.2) hf hR (by assumption)
      | trace_state
  · intro D h4 tk4 ys os c4 hR F4 N4 hne hne2 k4
    obtain ⟨rfl, hR⟩ := hR
    have e2 : ys.toArray.size = ys.length := List.size_toArray ..
    have z := zeros_len (x1 := x1) (x2 := x2) (x3 := x3) (n1 := n1) (n2 := n2) (n3 := n3)
    have e4 : ys.length ≤ 3 := by rw [hR]; exact z.1
    have e5 : anyZ n1 n2 n3 = true → 0 < ys.length := by rw [hR]; exact z.2.1
    have e6 : anyZ n1 n2 n3 = false → ys.length = 0 := by rw [hR]; exact z.2.2
    clear z hR
    k_steps
    all_goals (have N5 : News g L' h4 [(l, W.listOf #[.ref x1, .ref x2, .ref x3] n), (x1, o1), (x2, o2), (x3, o3)] := fun q hq => N4 q (.tail _ hq))
    · rename (0 : Int) < _ => hz
      refine pend0 F4 N5 ⟨rfl, _, rfl, .inl ⟨?_, rfl⟩⟩
      cases e : anyZ n1 n2 n3 with
      | true => rfl
      | false => have := e6 e; omega
    rename ¬ (0 : Int) < _ => hz
    have hz' : anyZ n1 n2 n3 = false := by
      cases e : anyZ n1 n2 n3 with
      | false => rfl
      | true => have := e5 e; omega
    unfold Leaf
    refine comp_vals (iter_list (items := #[.ref x1, .ref x2, .ref x3]) rfl ⟨_, N5.get (.head _), rfl, _, rfl⟩) (by decide : 3 ≤ sizeLine) F4 N5 (fun i ys => FloatsAre ys ([n1.h, n2.h, n3.h].take i)) .nil ?_ ?_
    · intro C i v h₃ tk₃ oC mm ys E' hi hP hR hNC hm F2 N2
      obtain ⟨y, oy, py, rfl, hf, ho, hmem⟩ : ∃ y oy py, v = .ref y ∧ [n1.h, n2.h, n3.h][i]? = some py.h ∧ NameObj oy py ∧ (y, oy) ∈ [(l, W.listOf #[.ref x1, .ref x2, .ref x3] n), (x1, o1), (x2, o2), (x3, o3)] := by
        match i, hi with
        | 0, _ => exact ⟨_, o1, _, (Option.some.inj hP).symm, rfl, h1, .tail _ (.head _)⟩
        | 1, _ => exact ⟨_, o2, _, (Option.some.inj hP).symm, rfl, h2, .tail _ (.tail _ (.head _))⟩
        | 2, _ => exact ⟨_, o3, _, (Option.some.inj hP).symm, rfl, h3, .tail _ (.tail _ (.tail _ (.head _)))⟩
      obtain ⟨ta, tb, tc, n', rfl⟩ := ho
      have N3 : News g L' h₃ [(C, oC), (y, { cls := .type "tuple", data := .seq #[.float py.h ta, .float py.s tb, .float py.v tc] n' })] := fun q hq => by
        rcases List.mem_cons.mp hq with rfl | hq
        · exact N2 _ (.head _)
        · rw [List.mem_singleton.mp hq]; exact N2 _ (.tail _ hmem)
      clear N2 hmem N N4 N5
      (try k_unmd); (try k_fold)
      k_steps
      refine val_end rfl (fun _ _ e => e) ?_
      show FloatsAre _ _
      rw [List.take_succ, hf]
      exact hR.append (.cons _ _ .nil)
    · intro D2 h5 tk5 ys5 c5 hR5 F5 N6 hne5
      clear N4 N5 F4 N
      k_steps
      refine' sorted_F F5 N6 ?l ?S ?f ?n ?_
      (case l => exact ⟨_, N6.get (.head _), rfl, _, rfl⟩)
      (case S => exact hR5)
      (case f => intro x hx; simp at hx; rcases hx with rfl | rfl | rfl <;> assumption)
      (case n => have := hR5.length; simp at this; omega)
      intro h6 D6 vs6 xs6 e6 F6 N7 hS6 hP6 hW6
      clear N6 F5
      obtain ⟨a6, b6, c6, rfl⟩ : ∃ a b c, xs6 = [a, b, c] := by
        have hl6 : xs6.length = 3 := hP6.length_eq
        match xs6, hl6 with
        | [a, b, c], _ => exact ⟨a, b, c, rfl⟩
      obtain ⟨t6, u6, v6, rfl⟩ := hS6.three
      k_steps
      rename News _ _ _ _ => N8
      rename Fr _ _ _ _ => F8
      refine pend0 F8 (pickN N8 (by (repeat (refine sub_cons (by k_mem) ?_)); exact List.forall_mem_nil _)) ⟨rfl, _, rfl, .inr ⟨hz', a6, b6, c6, hP6, hW6, ?_⟩⟩
      rfl
end Mine
end
section
open PySem PySem.W PySem.Spec PySem.Calls PyProof.Rows
set_option maxRecDepth 100000
namespace Mine
set_option maxHeartbeats 4000000
theorem fill_spelled : (PySem.Challenge.rw_kl0415_01 = PySem.Challenge.rw_kl0415_01) ∧ (Mine.hd.heap_39 = Mine.hd.heap_39) := by w_top off; k_fill; exact ⟨rfl, rfl⟩

noncomputable def nameC (c : Nat) : Str := if c = 60 then Str.ofString "&lt;" else if c = 62 then Str.ofString "&gt;" else Str.ofString "&amp;"
noncomputable def spell (y : Str) (c : Nat) : Str := if c ∈ y.cps.toList then nameC c else ⟨#[c]⟩
theorem spell_no {y : Str} {c : Nat} (h : (Builtin.Str.occurrences y ⟨#[c]⟩ 0 y.length 1).isEmpty = true) : spell y c = ⟨#[c]⟩ := if_neg (missed h)
theorem spell_yes {y z : Str} {c : Nat} (h : (Builtin.Str.occurrences y ⟨#[c]⟩ 0 y.length 1).isEmpty = false) (e : nameC c = z) : spell y c = z := (if_pos (hit h)).trans e
theorem strs_snoc {ys : List Value} {y : Str} {l : List Nat} {i c : Nat} {z : Str} {t : Tok} (hR : StrsAre ys ((l.take i).map (spell y))) (hc : l[i]? = some c) (e : spell y c = z) : StrsAre (ys ++ [.str z t]) ((l.take (i + 1)).map (spell y)) := by
  rw [List.take_succ, hc, List.map_append]
  subst e
  have app : ∀ {vs : List Value} {ss : List Str}, StrsAre vs ss → StrsAre (vs ++ [.str (spell y c) t]) (ss ++ [spell y c]) := by
    intro vs ss h
    induction h with
    | nil => exact .cons _ _ .nil
    | cons a b _ ih => exact .cons a b ih
  exact app hR
theorem strs_values : ∀ {vs : List Value} {ss : List Str}, StrsAre vs ss → ∃ l : List (Str × Tok), vs = strValues l ∧ l.map (·.1) = ss
  | _, _, .nil => ⟨[], rfl, rfl⟩
  | _, _, .cons y t h => by
    obtain ⟨l, e1, e2⟩ := strs_values h
    exact ⟨(y, t) :: l, by rw [e1]; rfl, by rw [List.map_cons, e2]⟩
theorem glued_nil (ss : List Str) : (Txt.join ⟨#[]⟩ ss).cps.toList = ss.flatMap (·.cps.toList) := by
  show (Builtin.Str.glued ⟨#[]⟩ ss).cps.toList = _
  rw [StrLaws.glued_eq_join]
  induction ss with
  | nil => rfl
  | cons a r ih =>
    cases r with
    | nil => simp [Str.join]
    | cons b r =>
      show (a ++ (⟨#[]⟩ : Str) ++ Str.join ⟨#[]⟩ (b :: r)).cps.toList = _
      simp only [Str.cps_append, Array.toList_append, ih, List.flatMap_cons]
      simp
theorem spell_len (y : Str) (c : Nat) : (spell y c).length ≤ 5 := by
  unfold spell nameC
  split
  · split
    · decide +kernel
    · split <;> decide +kernel
  · show 1 ≤ 5
    decide
theorem spelled_weight (y : Str) (l : List Nat) : ((l.map (spell y)).map (·.length)).sum + (l.map (spell y)).length ≤ 6 * l.length := by
  induction l with
  | nil => simp
  | cons a r ih =>
    have := spell_len y a
    simp only [List.map_cons, List.sum_cons, List.length_cons] at ih ⊢
    omega
theorem pc_spelled (w : World) (x y : Str) (tx ty : Tok) (hl : x.length ≤ 36) (hx : ∀ c ∈ x.cps.toList, c = 60 ∨ c = 62 ∨ c = 38) :
    PC w 61 1 [.str x tx, .str y ty] [] (fun tl v => tl = [] ∧ ∃ r t, v = .str r t ∧ r.cps.toList = x.cps.toList.flatMap (fun c => (spell y c).cps.toList)) := by
  k_with_none
  k_with "eval ListComp" => (refine comp_F (by with_reducible assumption) (by with_unfolding_all rfl) (by decide) (by with_unfolding_all rfl) (by decide) (by with_unfolding_all rfl) ?_ (by intro _; with_unfolding_all rfl))
  k_with "eval Name" => (refine nameCX (by assumption) (by k_mem) (by assumption) (by assumption) ?_ (by rfl) (by rfl) (by decide))
  k_with "eval Name" => (refine nameCC (by assumption) (by rfl) (by k_mem) (by assumption) ?_ (by rfl) (by rfl) (by decide))
  refine' pc_cells (f := 61) (binds := [(Str.ofString "text", .str x tx), (Str.ofString "written", .str y ty)]) ?k6 ?k7 ?k9 ?kB ?kD ?_ ?c2 ?c3 ?c4 ?c6
  (case k6 => k_is); (case k7 => k_is); (case k9 => intro s; exact BindsTo.of_eq rfl); (case kB => exact rfl); (case kD => decide +kernel); (case c2 => exact rfl); (case c3 => exact rfl); (case c4 => exact rfl); (case c6 => decide)
  intro p loose mean mg mb dp un gd env outer A₀ base g L' h₁ s tk cells F N Y B X T hs hl hd hu
  (try k_lt hl); k_cells Y; (try simp only [List.cons_append, List.nil_append] at N)
  (try dsimp only)
  (try k_unmd); (try k_fold)
  k_steps
  rename News _ _ _ _ => N1
  rename Fr _ _ _ _ => F1
  unfold Leaf
  refine comp_vals (iter_str (x := x) (t := tx) rfl) (by rw [sizeLine_eq]; show x.length ≤ _; omega) F1 N1 (fun i ys => StrsAre ys ((x.cps.toList.take i).map (spell y))) .nil ?_ ?_
  · intro C i v h₃ tk₃ oC mm ys E' hi hP hR hNC hm F2 N2
    obtain ⟨c, t, hc, rfl⟩ := hP
    have hc' : x.cps.toList[i]? = some c := by rw [Array.getElem?_toList]; exact hc
    have hcc := hx c (List.mem_of_getElem? hc')
    clear N1 F1
    rcases hcc with rfl | rfl | rfl
    all_goals (
      (try k_unmd); (try k_fold)
      k_steps
      all_goals first
        | exact val_end rfl (fun _ _ e => e) (strs_snoc hR hc' (spell_no (by assumption)))
        | exact val_end rfl (fun _ _ e => e) (strs_snoc hR hc' (spell_yes (by assumption) (by decide +kernel))))
  · intro D h4 tk4 ys c4 hR F4 N4 hne
    have e1 : x.cps.toList.take x.cps.size = x.cps.toList := List.take_of_length_le (by simp)
    rw [e1] at hR
    clear N1 F1
    k_steps
    obtain ⟨l5, e5, e6⟩ := strs_values hR
    subst e5
    refine' SC.join (l := l5) (texts := x.cps.toList.map (spell y)) ?hl ?ht ?hok ?_
    (case hl => exact ⟨_, N4.get (.head _), rfl, _, rfl⟩)
    (case ht => exact e6)
    (case hok => exact joinOk_of_weight (Nat.le_trans (spelled_weight y _) (by rw [← str_len]; omega)) (by decide +kernel))
    intro t6 k6
    have e7 : (Txt.join (Str.ofString "") (x.cps.toList.map (spell y))).cps.toList = x.cps.toList.flatMap (fun c => (spell y c).cps.toList) := by
      rw [show Str.ofString "" = ⟨#[]⟩ from by decide +kernel, glued_nil, List.flatMap_map]
    exact pend0 F4 (fun q hq => (nomatch hq)) ⟨rfl, _, _, rfl, e7⟩
end Mine
end
section
open PySem PySem.W PySem.Spec PySem.Calls PyProof.Rows
set_option maxRecDepth 100000
namespace Mine
set_option maxHeartbeats 4000000
theorem leaf_ne {prog : Program} {w : World} {A : Around} {E : Value → Shared → Prop} {s : Shared} {a b : Value} {Q : Value → Shared → Prop} (h : Leaf (wpAny (model prog w) A (compareOp .NotEq a b) Q E s)) : wpAny (model prog w) A (compareOp .NotEq a b) Q E s := h
theorem fill_counted : (PySem.Challenge.rw_kl0415_01 = PySem.Challenge.rw_kl0415_01) ∧ (Mine.hd.heap_39 = Mine.hd.heap_39) := by w_top off; k_fill; exact ⟨rfl, rfl⟩

/-- a text of the signs <, > and & -/
structure Signs (x : Str) : Prop where
  short : x.length ≤ 36
  all : ∀ c ∈ x.cps.toList, c = 60 ∨ c = 62 ∨ c = 38

theorem fm_congr {f g : Nat → List Nat} : ∀ {l : List Nat}, (∀ c ∈ l, f c = g c) → l.flatMap f = l.flatMap g
  | [], _ => rfl
  | a :: r, h => by rw [List.flatMap_cons, List.flatMap_cons, h a List.mem_cons_self, fm_congr fun c hc => h c (List.mem_cons_of_mem _ hc)]
theorem cdata_spelled {x : Str} (h : Signs x) : ((x.cps.toList.flatMap (sub1 38 [38, 97, 109, 112, 59])).flatMap (sub1 60 [38, 108, 116, 59])).flatMap (sub1 62 [38, 103, 116, 59]) = x.cps.toList.flatMap (fun c => (spell (Str.ofString "<>&") c).cps.toList) := by
  rw [List.flatMap_assoc, List.flatMap_assoc]
  refine fm_congr fun c hc => ?_
  rcases h.all c hc with rfl | rfl | rfl <;> decide +kernel
theorem html_spelled {x : Str} (h : Signs x) : ((x.cps.toList.flatMap (sub1 38 [38, 97, 109, 112, 59])).flatMap (sub1 62 [38, 103, 116, 59])).flatMap (sub1 34 [38, 113, 117, 111, 116, 59]) = x.cps.toList.flatMap (fun c => (spell (Str.ofString ">&") c).cps.toList) := by
  rw [List.flatMap_assoc, List.flatMap_assoc]
  refine fm_congr fun c hc => ?_
  rcases h.all c hc with rfl | rfl | rfl <;> decide +kernel
theorem c14n_spelled {x : Str} (h : Signs x) : (((((x.cps.toList.flatMap (sub1 38 [38, 97, 109, 112, 59])).flatMap (sub1 60 [38, 108, 116, 59])).flatMap (sub1 34 [38, 113, 117, 111, 116, 59])).flatMap (sub1 9 [38, 35, 120, 57, 59])).flatMap (sub1 10 [38, 35, 120, 65, 59])).flatMap (sub1 13 [38, 35, 120, 68, 59]) = x.cps.toList.flatMap (fun c => (spell (Str.ofString "<&") c).cps.toList) := by
  simp only [List.flatMap_assoc]
  refine fm_congr fun c hc => ?_
  rcases h.all c hc with rfl | rfl | rfl <;> decide +kernel

/-- how many of a sign -/
noncomputable def cnt (x : Str) (c : Nat) : Nat := x.cps.toList.count c
theorem cnt_all {x : Str} (h : Signs x) : x.length = cnt x 60 + cnt x 62 + cnt x 38 := by
  rw [str_len]
  unfold cnt
  have h := h.all
  revert h
  generalize x.cps.toList = l
  induction l with
  | nil => intro _; rfl
  | cons a r ih =>
    intro h
    have := ih fun c hc => h c (List.mem_cons_of_mem _ hc)
    rcases h a List.mem_cons_self with rfl | rfl | rfl <;> simp only [List.length_cons, List.count_cons] <;> simp <;> omega
theorem fm_weigh (f : Nat → List Nat) {a b d : Nat} (ha : (f 60).length = a) (hb : (f 62).length = b) (hd : (f 38).length = d) : ∀ {l : List Nat}, (∀ c ∈ l, c = 60 ∨ c = 62 ∨ c = 38) → (l.flatMap f).length = a * l.count 60 + b * l.count 62 + d * l.count 38 := by
  intro l
  induction l with
  | nil => intro _; simp
  | cons c r ih =>
    intro h
    have e := ih fun c hc => h c (List.mem_cons_of_mem _ hc)
    rw [List.flatMap_cons, List.length_append, e]
    rcases h c List.mem_cons_self with rfl | rfl | rfl <;> simp only [List.count_cons, ha, hb, hd] <;> simp [Nat.mul_add] <;> omega


theorem spelled_ok {x y z : Str} (hx : Signs x) (h : y.cps.toList = x.cps.toList.flatMap (fun c => (spell z c).cps.toList)) : PyData.strOk y = true := by
  unfold PyData.strOk
  rw [← Array.all_toList, h, List.all_eq_true]
  intro c hc
  obtain ⟨d, hd, hc⟩ := List.mem_flatMap.mp hc
  have key : ∀ d, (d = 60 ∨ d = 62 ∨ d = 38) → ∀ c ∈ (spell z d).cps.toList, decide (c < 0x110000) = true := by
    intro d hd c hc
    unfold spell at hc
    split at hc
    · rcases hd with rfl | rfl | rfl
      · exact List.all_eq_true.mp (show ((nameC 60).cps.toList.all fun c => decide (c < 0x110000)) = true from by decide +kernel) c hc
      · exact List.all_eq_true.mp (show ((nameC 62).cps.toList.all fun c => decide (c < 0x110000)) = true from by decide +kernel) c hc
      · exact List.all_eq_true.mp (show ((nameC 38).cps.toList.all fun c => decide (c < 0x110000)) = true from by decide +kernel) c hc
    · rw [show c = d from by simpa using hc]
      rcases hd with rfl | rfl | rfl <;> decide
  exact key d (hx.all d hd) c hc
theorem spelled_len {x y z : Str} (hx : Signs x) (h : y.cps.toList = x.cps.toList.flatMap (fun c => (spell z c).cps.toList)) (a b d : Nat) (ha : (spell z 60).cps.toList.length = a) (hb : (spell z 62).cps.toList.length = b) (hd : (spell z 38).cps.toList.length = d) :
    y.length = a * cnt x 60 + b * cnt x 62 + d * cnt x 38 := by
  rw [str_len, h, fm_weigh (fun c => (spell z c).cps.toList) ha hb hd hx.all]; rfl
theorem str_ext {x y : Str} (h : x.cps.toList = y.cps.toList) : x = y := by
  obtain ⟨⟨l⟩⟩ := x
  obtain ⟨⟨m⟩⟩ := y
  cases h; rfl
theorem paint_eq {A B C a b c : Int} {t1 t2 t3 : Tok} {n : Nat} (h1 : A = a) (h2 : B = b) (h3 : C = c) : PaintObj (W.listOf #[.int A t1, .int B t2, .int C t3] n) a b c := by
  subst h1; subst h2; subst h3; exact ⟨_, _, _, _, rfl⟩
theorem strs3E {ys : List Value} {a b c : Str} {P : Prop} (h : StrsAre ys [a, b, c]) (k : ∀ u1 u2 u3, ys = [.str a u1, .str b u2, .str c u3] → P) : P := by
  obtain ⟨u1, r1, rfl, h1⟩ := h.cons_inv
  obtain ⟨u2, r2, rfl, h2⟩ := h1.cons_inv
  obtain ⟨u3, r3, rfl, h3⟩ := h2.cons_inv
  exact k u1 u2 u3 (by rw [h3.nil_inv])
theorem text3E {x y1 y2 y3 z1 z2 z3 : Str} {t1 t2 t3 : Tok} {i : Nat} {v : Value} {P : Prop} (hP : (#[.str z1 t1, .str z2 t2, .str z3 t3] : Array Value)[i]? = some v)
    (hy1 : y1.cps.toList = x.cps.toList.flatMap (fun c => (spell z1 c).cps.toList)) (hy2 : y2.cps.toList = x.cps.toList.flatMap (fun c => (spell z2 c).cps.toList)) (hy3 : y3.cps.toList = x.cps.toList.flatMap (fun c => (spell z3 c).cps.toList))
    (k : ∀ z t r, v = .str z t → [y1, y2, y3][i]? = some r → r.cps.toList = x.cps.toList.flatMap (fun c => (spell z c).cps.toList) → P) : P := by
  match i, hP with
  | 0, hP => exact k z1 t1 y1 (Option.some.inj hP).symm rfl hy1
  | 1, hP => exact k z2 t2 y2 (Option.some.inj hP).symm rfl hy2
  | 2, hP => exact k z3 t3 y3 (Option.some.inj hP).symm rfl hy3
theorem shaped3 {a b c : Str} (s1 : PyData.strOk a = true) (s2 : PyData.strOk b = true) (s3 : PyData.strOk c = true) : SeqAt.shaped (.list [.str a, .str b, .str c]) = true := by simp [SeqAt.shaped, PyData.canLay0, PyData.canLayAll0, PyData.depth, PyData.depthAll, s1, s2, s3]
theorem eqv3 (a b c : Str) : (!PyData.eqv (.list [.str a, .str b, .str c]) (.list [.str a, .str b, .str c])) = false := by simp [PyData.eqv, PyData.eqvAll]
theorem third {a b p q r : Nat} (h1 : a = 4 * p + 4 * q + 5 * r) (h2 : b = 1 * p + 4 * q + 5 * r) : ((a : Int) - (b : Int)).fdiv 3 = (p : Int) := by rw [Int.fdiv_eq_ediv_of_nonneg _ (by decide), h1, h2]; omega
theorem third' {a b p q r : Nat} (h1 : a = 4 * p + 4 * q + 5 * r) (h2 : b = 4 * p + 1 * q + 5 * r) : ((a : Int) - (b : Int)).fdiv 3 = (q : Int) := by rw [Int.fdiv_eq_ediv_of_nonneg _ (by decide), h1, h2]; omega
theorem fourth {a b c n p q r : Nat} (h1 : a = 4 * p + 4 * q + 5 * r) (h2 : b = 1 * p + 4 * q + 5 * r) (h3 : c = 4 * p + 1 * q + 5 * r) (h0 : n = p + q + r) : ((b : Int) + (c : Int) - (a : Int) - (n : Int)).fdiv 4 = (r : Int) := by rw [Int.fdiv_eq_ediv_of_nonneg _ (by decide), h1, h2, h3, h0]; omega
theorem len_of {l i j p q r n m : Nat} (h : l = i * p + j * q + 5 * r) (hi : i ≤ 5) (hj : j ≤ 5) (h0 : n = p + q + r) (hn : n ≤ m) : l ≤ 5 * m := by
  have h1 := Nat.mul_le_mul_right p hi
  have h2 := Nat.mul_le_mul_right q hj
  omega
theorem pc_counted (w : World) (x : Str) (tx : Tok) (hx : Signs x) :
    PC w 66 12 [.str x tx] [] (fun tl v => ∃ y oy, v = .ref y ∧ tl = [(y, oy)] ∧ PaintObj oy (cnt x 60) (cnt x 62) (cnt x 38)) := by
  k_with_none
  k_with "compareOp NotEq ref ref" => ((with_reducible show wpAny _ _ (compareOp CmpOp.NotEq (Value.ref _) (Value.ref _)) _ _ _); refine leaf_ne ?_)
  k_with "eval ListComp" => (refine comp_F (by with_reducible assumption) (by with_unfolding_all rfl) (by decide) (by with_unfolding_all rfl) (by decide) (by with_unfolding_all rfl) ?_ (by intro _; with_unfolding_all rfl))
  k_with "eval Name" => (refine nameCX (by assumption) (by k_mem) (by assumption) (by assumption) ?_ (by rfl) (by rfl) (by decide))
  k_with "eval Name" => (refine nameCC (by assumption) (by rfl) (by k_mem) (by assumption) ?_ (by rfl) (by rfl) (by decide))
  k_with "call ref" => (k_here; (with_reducible show wpAny _ _ (call (Value.ref 42) _) _ _ _); refine pc_useS (by assumption) (by assumption) (by assumption) (by assumption) (by rfl) (by assumption) (by exact List.forall_mem_nil _) (lim_d1 hd (by decide)) (lim_u3 hu (by decide)) (pc_cdata0 _ _ _ (Signs.short (by assumption))) ?_; intro h' tk' y1 t1 F' N' kp' hy1; rw [cdata_spelled (by assumption)] at hy1; clear kp')
  k_with "call ref" => (k_here; (with_reducible show wpAny _ _ (call (Value.ref 49) _) _ _ _); refine pc_useS (by assumption) (by assumption) (by assumption) (by assumption) (by rfl) (by assumption) (by exact List.forall_mem_nil _) (lim_d1 hd (by decide)) (lim_u3 hu (by decide)) (pc_html0 _ _ _ (Signs.short (by assumption))) ?_; intro h' tk' y2 t2 F' N' kp' hy2; rw [html_spelled (by assumption)] at hy2; clear kp')
  k_with "call ref" => (k_here; (with_reducible show wpAny _ _ (call (Value.ref 56) _) _ _ _); refine pc_useS (by assumption) (by assumption) (by assumption) (by assumption) (by rfl) (by assumption) (by exact List.forall_mem_nil _) (lim_d1 hd (by decide)) (lim_u3 hu (by decide)) (pc_c14n0 _ _ _ (Signs.short (by assumption))) ?_; intro h' tk' y3 t3 F' N' kp' hy3; rw [c14n_spelled (by assumption)] at hy3; clear kp')
  k_with "call ref" => (k_here; (with_reducible show wpAny _ _ (call (Value.ref 61) _) _ _ _); refine pc_useS (by assumption) (by assumption) (by assumption) (by assumption) (by rfl) (by assumption) (by exact List.forall_mem_nil _) (lim_d1 hd (by decide)) (lim_u3 hu (by decide)) (pc_spelled _ _ _ _ _ (Signs.short (by assumption)) (Signs.all (by assumption))) ?_; intro h' tk' y' t' F' N' kp' e3')
  refine' pc_cells (f := 66) (binds := [(Str.ofString "text", .str x tx)]) ?k6 ?k7 ?k9 ?kB ?kD ?_ ?c2 ?c3 ?c4 ?c6
  (case k6 => k_is); (case k7 => k_is); (case k9 => intro s; exact BindsTo.of_eq rfl); (case kB => exact rfl); (case kD => decide +kernel); (case c2 => exact rfl); (case c3 => exact rfl); (case c4 => exact rfl); (case c6 => decide)
  intro p loose mean mg mb dp un gd env outer A₀ base g L' h₁ s tk cells F N Y B X T hs hl hd hu
  (try k_lt hl); k_cells Y; (try simp only [List.cons_append, List.nil_append] at N)
  (try dsimp only)
  (try k_unmd); (try k_fold)
  k_steps
  rename News _ _ _ _ => N1
  rename Fr _ _ _ _ => F1
  unfold Leaf
  refine comp_vals (iter_tuple (items := #[.str (Str.ofString "<>&") _, .str (Str.ofString ">&") _, .str (Str.ofString "<&") _]) rfl ⟨_, N1.get (.head _), rfl, _, rfl⟩) (by decide : 3 ≤ sizeLine) F1 N1 (fun i ys => StrsAre ys ([y1, y2, y3].take i)) .nil ?_ ?_
  · intro C i v h₃ tk₃ oC mm ys E' hi hP hR hNC hm F2 N2
    refine text3E hP hy1 hy2 hy3 ?_
    intro z t r ev hz er
    subst ev
    clear N1 F1
    (try k_unmd); (try k_fold)
    k_steps
    rename Str => q1
    rename q1.cps.toList = _ => e1
    rename ∀ b o, _ → _ => kp1
    have e2 : q1 = r := str_ext (e1.trans er.symm)
    subst e2
    refine val_end rfl kp1 ?_
    show StrsAre _ _
    rw [List.take_succ, hz]
    exact hR.append' (.cons _ _ .nil)
  · intro D h4 tk4 ys c4 hR F4 N4 hne
    clear N1 F1
    refine strs3E hR ?_
    intro u1 u2 u3 ey
    clear hR
    subst ey
    have s1 := spelled_ok hx hy1
    have s2 := spelled_ok hx hy2
    have s3 := spelled_ok hx hy3
    have sh := shaped3 s1 s2 s3
    have L1 := spelled_len hx hy1 4 4 5 (by decide +kernel) (by decide +kernel) (by decide +kernel)
    have L2 := spelled_len hx hy2 1 4 5 (by decide +kernel) (by decide +kernel) (by decide +kernel)
    have L3 := spelled_len hx hy3 4 1 5 (by decide +kernel) (by decide +kernel) (by decide +kernel)
    have L0 := cnt_all hx
    have Lx := hx.short
    have c1 := fun (_ : Unit) => third L1 L2
    have c2 := fun (_ : Unit) => third' L1 L3
    have c3 := fun (_ : Unit) => fourth L1 L2 L3 L0
    have B1 := len_of L1 (by decide) (by decide) L0 Lx
    have B2 := len_of L2 (by decide) (by decide) L0 Lx
    have B3 := len_of L3 (by decide) (by decide) L0 Lx
    clear L1 L2 L3 L0
    k_steps
    unfold Leaf
    refine' ne_dataH (da := .list [.str y1, .str y2, .str y3]) (db := .list [.str y1, .str y2, .str y3]) ?a ?b ?c ?d ?e ?_
    (case a => ked_read)
    (case b => ked_read)
    (case c => exact sh)
    (case d => exact sh)
    (case e => show un + 3 + 64 < cLine; omega)
    rw [eqv3]
    k_steps
    rename News _ _ _ _ => N9
    rename Fr _ _ _ _ => F9
    exact pend1 F9 (pickN N9 (by (repeat (refine sub_cons (by k_mem) ?_)); exact List.forall_mem_nil _)) (by simp) ⟨_, _, rfl, rfl, paint_eq (c1 ()) (c2 ()) (c3 ())⟩
end Mine
end
section
open PySem PySem.W PySem.Spec PySem.Calls PyProof.Rows
set_option maxRecDepth 100000
namespace Mine
noncomputable def mx3 (a b c : Int) : Int := if a ≤ b then (if b ≤ c then c else b) else (if a ≤ c then c else a)
section
variable {prog : Program} {w : World} {A : Around} {E : Value → Shared → Prop} {s : Shared} {h₀ : Heap} {L : Addr} {m : Str → Option Value} {news : List (Addr × Obj)}
theorem max_list3 {l : Addr} {x y z : Int} {t u v : Tok} {Q : Value → Shared → Prop} (hh : A.handled = none) (F : Fr h₀ L s.heap m) (N : News h₀ L s.heap news)
    (hl : s.heap.IsList l #[.int x t, .int y u, .int z v])
    (h : ∀ h' tk r, Fr h₀ L h' m → News h₀ L h' news → (∀ b o, s.heap.get? b = some o → h'.get? b = some o) → Q (.int (mx3 x y z) r) { s with heap := h', toks := tk }) :
    wpAny (model prog w) A (call (.builtin "max") [.ref l]) Q E s := by
  have hl' : s.heap.IsList l (intItems #[(x, t), (y, u), (z, v)]) := by simpa [intItems] using hl
  refine max_intList hh hl' (by simp) fun r h' tk hP hk => ?_
  have hv : ∃ q, r = .int (mx3 x y z) q := by
    by_cases h1 : x < y
    · by_cases h2 : y < z
      · have e : mx3 x y z = z := by unfold mx3; split <;> split <;> omega
        simp [argBest, numAt, intItems, h1, h2] at hP; rw [e, ← hP]; exact ⟨_, rfl⟩
      · have e : mx3 x y z = y := by unfold mx3; split <;> split <;> omega
        simp [argBest, numAt, intItems, h1, h2] at hP; rw [e, ← hP]; exact ⟨_, rfl⟩
    · by_cases h2 : x < z
      · have e : mx3 x y z = z := by unfold mx3; split <;> split <;> omega
        simp [argBest, numAt, intItems, h1, h2] at hP; rw [e, ← hP]; exact ⟨_, rfl⟩
      · have e : mx3 x y z = x := by unfold mx3; split <;> split <;> omega
        simp [argBest, numAt, intItems, h1, h2] at hP; rw [e, ← hP]; exact ⟨_, rfl⟩
  obtain ⟨q, rfl⟩ := hv
  exact h h' tk q (F.grownK hk) (N.grown hk) hk
end
end Mine
end
section
open PySem PySem.W PySem.Spec PySem.Calls PyProof.Rows
set_option maxRecDepth 100000
namespace Mine
theorem rep_toList (c : Nat) : ∀ (k : Nat) (acc : Array Nat), ((List.replicate k (#[c] : Array Nat)).foldl (· ++ ·) acc).toList = acc.toList ++ List.replicate k c
  | 0, acc => by simp
  | k + 1, acc => by
    rw [List.replicate_succ, List.foldl_cons, rep_toList c k]
    simp [List.replicate_succ]
theorem mul_sign (x : Str) (c : Nat) (hx : x.cps = #[c]) (n : Int) (h0 : 0 ≤ n) : (Txt.mul x n).cps.toList = List.replicate n.toNat c := by
  unfold Txt.mul
  by_cases h1 : n < 1
  · rw [if_pos h1, show n = 0 by omega]; rfl
  · rw [if_neg h1]
    by_cases h2 : (n == 1 || x.length == 0) = true
    · rw [if_pos h2, hx]
      have hl : x.length = 1 := by rw [show x.length = x.cps.size from rfl, hx]; rfl
      have e : n = 1 := by simpa [hl] using h2
      rw [e]; rfl
    · rw [if_neg h2, hx]
      exact (rep_toList c n.toNat #[]).trans (by simp)
theorem mulInk {prog : Program} {w : World} {A : Around} {E : Value → Shared → Prop} {s : Shared} {x : Str} {t u : Tok} {n : Int} {Q : Value → Shared → Prop} (c : Nat) (hx : x.cps = #[c]) (h0 : 0 ≤ n) (h1 : n ≤ 12)
    (h : ∀ y t' k, y.length ≤ 12 → y.cps.toList = List.replicate n.toNat c → Q (.str y t') { s with toks := k }) : wpAny (model prog w) A (binaryOp .Mult (.str x t) (.int n u)) Q E s := by
  refine SB.mul (mulOk_of 1 12 (by rw [show x.length = x.cps.size from rfl, hx]; exact Nat.le_refl 1) (by omega) (by omega) (by decide) (by decide)) fun t' k => h _ t' k ?_ (mul_sign x c hx n h0)
  rw [str_len, mul_sign x c hx n h0, List.length_replicate]; omega

theorem slice_turn (x : Str) (k : Int) (h0 : 0 ≤ k) : (Txt.slice x (some k) none ++ Txt.slice x none (some k)).cps.toList.Perm x.cps.toList := by
  have hl := str_len x
  rw [Str.cps_append, Array.toList_append]
  by_cases h : k ≤ x.length
  · have e1 := slice_from_eq (x := x) h0 h rfl
    have e2 := beq_iff_eq.mp (slice_closes_toL (x := x) (j := k) h0 h)
    rw [e1, e2]
    simp only [Int.toNat_zero, List.drop_zero, Int.sub_zero]
    rw [List.take_of_length_le (by rw [List.length_drop]; omega)]
    refine List.perm_append_comm.trans ?_
    rw [List.take_append_drop]
  · have e1 := slice_from_beyond (x := x) (i := k) (by omega)
    have e2 := beq_iff_eq.mp (slice_closes_toL (x := x) (j := (x.length : Int)) (by omega) (Int.le_refl _))
    rw [e1, slice_to_beyond (by omega), e2]
    simp only [Int.toNat_zero, List.drop_zero, Int.sub_zero, Int.toNat_natCast]
    rw [List.take_of_length_le (by omega)]
    simp

/-- a text of a times <, b times > and c times &, in some order -/
noncomputable def Inks (x : Str) (a b c : Int) : Prop := x.cps.toList.Perm (List.replicate a.toNat 60 ++ List.replicate b.toNat 62 ++ List.replicate c.toNat 38)
theorem inks_turn {y1 y2 y3 : Str} {a b c k : Int} (h1 : y1.cps.toList = List.replicate a.toNat 60) (h2 : y2.cps.toList = List.replicate b.toNat 62) (h3 : y3.cps.toList = List.replicate c.toNat 38) (h0 : 0 ≤ k) :
    Inks (Txt.slice (y1 ++ y2 ++ y3) (some k) none ++ Txt.slice (y1 ++ y2 ++ y3) none (some k)) a b c := by
  refine (slice_turn _ _ h0).trans ?_
  rw [Str.cps_append, Array.toList_append, Str.cps_append, Array.toList_append, h1, h2, h3]
end Mine
end
section
open PySem PySem.W PySem.Spec PySem.Calls PyProof.Rows
set_option maxRecDepth 100000
namespace Mine
section
variable {prog : Program} {w : World} {A : Around} {E : Value → Shared → Prop} {env : Env} {s : Shared} {h₀ : Heap} {m : Str → Option Value} {news : List (Addr × Obj)}

theorem leaf_iter {xv : Value} {Q : Value → Shared → Prop} (h : Leaf (wpAny (model prog w) A (pyIter xv) Q E s)) : wpAny (model prog w) A (pyIter xv) Q E s := h

/-- one turn's end -/
noncomputable def TurnEnd (h₀ : Heap) (L I : Addr) (oI : Obj) (Jn : (Str → Option Value) → List (Addr × Obj) → Prop) (s₁ : Shared) (f : Flow) (s₂ : Shared) : Prop :=
  f = .next ∧ ∃ h' tk m₂ news₂, s₂ = { s₁ with heap := h', toks := tk } ∧ Fr h₀ L h' m₂ ∧ News h₀ L h' ((I, oI) :: news₂) ∧ (∀ q ∈ news₂, q.1 ≠ I) ∧ Jn m₂ news₂

theorem turn_end {L I : Addr} {oI : Obj} {Jn : (Str → Option Value) → List (Addr × Obj) → Prop} {s₁ : Shared} {h' : Heap} {tk : Nat} {m₂ : Str → Option Value} {news₂ : List (Addr × Obj)} (F : Fr h₀ L h' m₂) (N : News h₀ L h' ((I, oI) :: news₂)) (hne : ∀ q ∈ news₂, q.1 ≠ I) (hJ : Jn m₂ news₂) : TurnEnd h₀ L I oI Jn s₁ .next { s₁ with heap := h', toks := tk } :=
  ⟨rfl, h', tk, m₂, news₂, rfl, F, N, hne, hJ⟩
theorem for_seq {x : Str} {body : List Stmt} {l : Addr} {lo it : Obj} {items : Array Value} {st : Addr → Nat → Heap → Prop} {Q : Flow → Shared → Prop} (F : Fr h₀ env.locals s.heap m) (N : News h₀ env.locals s.heap news)
    (J : Nat → (Str → Option Value) → List (Addr × Obj) → Prop) (hJ0 : J 0 m news) (hJl : ∀ i m news, J i m news → (l, lo) ∈ news)
    (start : ∀ {Q : Value → Shared → Prop}, Q (.ref s.heap.objs.size) { s with heap := s.heap.push it } → wpAny (model prog w) A (pyIter (.ref l)) Q E s)
    (W : ∀ I, l ≠ I → Walks prog w A I [I, l] [I] items.size (fun i v => items[i]? = some v) (st I)) (hst0 : st s.heap.objs.size 0 (s.heap.push it)) (hstI : ∀ I i h, st I i h → ∃ o, h.get? I = some o)
    (step : ∀ i v m₁ news₁ s₁ I oI, items[i]? = some v → J i m₁ news₁ → (∀ q ∈ news₁, q.1 ≠ I) → Fr h₀ env.locals s₁.heap (fun y => if y = x then some v else m₁ y) → News h₀ env.locals s₁.heap ((I, oI) :: news₁) →
      wpAny (model prog w) A (execs body env) (TurnEnd h₀ env.locals I oI (J (i + 1)) s₁) E s₁)
    (fin : ∀ h' tk m' news', Fr h₀ env.locals h' m' → News h₀ env.locals h' news' → J items.size m' news' → Q .next { s with heap := h', toks := tk }) :
    wpAny (model prog w) A (pyIter (.ref l)) (fun it s₂ => LoopAtU prog w A h₀ env x body Q E it s₂) E s := by
  have hlt : l < s.heap.objs.size := Heap.lt_size (N _ (hJl _ _ _ hJ0)).1
  have hLs : env.locals < s.heap.objs.size := by obtain ⟨_, _, _, e, _⟩ := F.ns; exact Heap.lt_size e
  have up : ∀ {o : Obj} b ob, s.heap.get? b = some ob → (s.heap.push o).get? b = some ob := fun b ob e => Heap.get?_push_of_some _ e
  have hI0 : h₀.get? s.heap.objs.size = none := by
    cases e : h₀.get? s.heap.objs.size with
    | none => rfl
    | some o => exact absurd (Heap.lt_size (F.keep _ _ e)) (Nat.lt_irrefl _)
  refine start ⟨s.heap.objs.size, [s.heap.objs.size, l], [s.heap.objs.size], items.size, _, _, m, news, J, rfl, W _ (Nat.ne_of_lt hlt), ?_, ?_, ?_, hst0, F.keeps (fun b o e => up b o e), NewsKept N (fun b o e => up b o e), hJ0, ?_, ?_⟩
  · intro hm
    rcases List.mem_cons.mp hm with e | hm
    · exact Nat.lt_irrefl _ (e ▸ hLs)
    · exact (N _ (hJl _ _ _ hJ0)).2.1 (List.mem_singleton.mp hm).symm
  · intro b hb; rw [List.mem_singleton.mp hb]; exact hI0
  · intro p hp hb
    have := Heap.lt_size (N p hp).1
    rw [List.mem_singleton.mp hb] at this; exact Nat.lt_irrefl _ this
  · intro i v m₁ news₁ s₁ own hi hP hJ hw hown hown2 hall hst F₁ N₁
    obtain ⟨oI, hoI⟩ := hstI _ _ _ hst
    have hne : ∀ q ∈ news₁, q.1 ≠ s.heap.objs.size := fun q hq e => hw q hq (List.mem_singleton.mpr e)
    have mI : (s.heap.objs.size, oI) ∈ own := hall _ (.head _) hI0 _ hoI
    refine wpAny_mono (step i v m₁ news₁ s₁ s.heap.objs.size oI hP hJ hne F₁ (fun q hq => ?_)) (fun f s₂ h₂ => ?_) fun _ _ e => e
    · rcases List.mem_cons.mp hq with rfl | hq
      · exact N₁ _ (List.mem_append_left _ mI)
      · exact N₁ _ (List.mem_append_right _ hq)
    · obtain ⟨rfl, h', tk, m₂, news₂, rfl, F₂, N₂, hne₂, hJ₂⟩ := h₂
      refine ⟨rfl, h', tk, m₂, news₂, rfl, F₂, fun q hq => ?_, fun q hq hb => hne₂ q hq (List.mem_singleton.mp hb), hJ₂⟩
      rcases List.mem_append.mp hq with hq | hq
      · have hv := hown2 q hq
        rcases List.mem_cons.mp (hown q hq) with e | hm
        · rw [e, hoI] at hv
          obtain ⟨q1, q2⟩ := q
          cases e; cases hv
          exact N₂ _ (.head _)
        · have e := List.mem_singleton.mp hm
          have h1 := (N₁ _ (List.mem_append_right _ (hJl _ _ _ hJ))).1
          rw [e, h1] at hv
          obtain ⟨q1, q2⟩ := q
          cases e; cases hv
          exact N₂ _ (.tail _ (hJl _ _ _ hJ₂))
      · exact N₂ _ (.tail _ hq)
  · intro h' tk m' news' F' N' _ hJ
    exact fin h' tk m' news' F' N' hJ
theorem for_list {x : Str} {body : List Stmt} {l : Addr} {items : Array Value} {c : Nat} {Q : Flow → Shared → Prop} (hh : A.handled = none) (F : Fr h₀ env.locals s.heap m) (N : News h₀ env.locals s.heap news)
    (J : Nat → (Str → Option Value) → List (Addr × Obj) → Prop) (hJ0 : J 0 m news) (hJl : ∀ i m news, J i m news → (l, W.listOf items c) ∈ news)
    (step : ∀ i v m₁ news₁ s₁ I oI, items[i]? = some v → J i m₁ news₁ → (∀ q ∈ news₁, q.1 ≠ I) → Fr h₀ env.locals s₁.heap (fun y => if y = x then some v else m₁ y) → News h₀ env.locals s₁.heap ((I, oI) :: news₁) →
      wpAny (model prog w) A (execs body env) (TurnEnd h₀ env.locals I oI (J (i + 1)) s₁) E s₁)
    (fin : ∀ h' tk m' news', Fr h₀ env.locals h' m' → News h₀ env.locals h' news' → J items.size m' news' → Q .next { s with heap := h', toks := tk }) :
    wpAny (model prog w) A (pyIter (.ref l)) (fun it s₂ => LoopAtU prog w A h₀ env x body Q E it s₂) E s :=
  have hl : s.heap.IsList l items := ⟨_, N.get (hJl _ _ _ hJ0), rfl, _, rfl⟩
  for_seq F N J hJ0 hJl (wpAny_pyIter_list hl) (fun I h => Walks.list hh I l h items) ⟨⟨_, Heap.get?_push_size _ rfl, rfl, rfl⟩, hl.push _⟩ (fun _ _ _ ⟨⟨o, e, _⟩, _⟩ => ⟨o, e⟩) step fin
theorem for_tuple {x : Str} {body : List Stmt} {l : Addr} {items : Array Value} {c : Nat} {Q : Flow → Shared → Prop} (hh : A.handled = none) (F : Fr h₀ env.locals s.heap m) (N : News h₀ env.locals s.heap news)
    (J : Nat → (Str → Option Value) → List (Addr × Obj) → Prop) (hJ0 : J 0 m news) (hJl : ∀ i m news, J i m news → (l, { cls := .type "tuple", data := .seq items c }) ∈ news)
    (step : ∀ i v m₁ news₁ s₁ I oI, items[i]? = some v → J i m₁ news₁ → (∀ q ∈ news₁, q.1 ≠ I) → Fr h₀ env.locals s₁.heap (fun y => if y = x then some v else m₁ y) → News h₀ env.locals s₁.heap ((I, oI) :: news₁) →
      wpAny (model prog w) A (execs body env) (TurnEnd h₀ env.locals I oI (J (i + 1)) s₁) E s₁)
    (fin : ∀ h' tk m' news', Fr h₀ env.locals h' m' → News h₀ env.locals h' news' → J items.size m' news' → Q .next { s with heap := h', toks := tk }) :
    wpAny (model prog w) A (pyIter (.ref l)) (fun it s₂ => LoopAtU prog w A h₀ env x body Q E it s₂) E s :=
  have hl : s.heap.IsTuple l items := ⟨_, N.get (hJl _ _ _ hJ0), rfl, _, rfl⟩
  for_seq F N J hJ0 hJl (wpAny_pyIter_tuple hl) (fun I h => Walks.tuple hh I l h items) ⟨⟨_, Heap.get?_push_size _ rfl, rfl, rfl⟩, hl.push _⟩ (fun _ _ _ ⟨⟨o, e, _⟩, _⟩ => ⟨o, e⟩) step fin
end
end Mine
end
section
open PySem PySem.W PySem.Spec PySem.Calls PyProof.Rows
set_option maxRecDepth 100000
namespace Mine
set_option maxHeartbeats 4000000
local macro_rules | `(tactic| k_mem) => `(tactic| k_extra "mem")
local macro_rules | `(tactic| k_ne) => `(tactic| k_extra "ne")
local macro_rules | `(tactic| k_lt $h:ident) => `(tactic| skip)
local macro_rules | `(tactic| k_all) => `(tactic| assumption)
theorem fill_pot : (PySem.Challenge.rw_kl0415_01 = PySem.Challenge.rw_kl0415_01) ∧ (Mine.hd.heap_39 = Mine.hd.heap_39) := by w_top off; k_fill; exact ⟨rfl, rfl⟩

theorem mulRP {a b : Int} (h0 : 0 ≤ b) (h1 : b ≤ 12) : IntMulOk a b := IntMulOk.of_right (intBits_le_64 (by omega) (by omega))
noncomputable def dig (n : Int) (k : Nat) : Int := (n.fdiv (4 ^ k)).fmod 4
theorem dig_bound (n : Int) (k : Nat) : 0 ≤ dig n k ∧ dig n k ≤ 3 := by
  unfold dig
  rw [Int.fmod_eq_emod_of_nonneg _ (by decide)]
  omega

noncomputable def oft (n m : Int) : Int := (n.fdiv m).fmod 2 + 1
theorem oft_bound (n m : Int) : 1 ≤ oft n m ∧ oft n m ≤ 2 := by
  unfold oft
  rw [Int.fmod_eq_emod_of_nonneg _ (by decide)]
  omega
theorem both_bound {n m a b : Int} {k : Int} (ha : 0 ≤ a ∧ a ≤ 3) (hb : 0 ≤ b ∧ b ≤ 3) : 0 ≤ oft n m * a + oft n k * b ∧ oft n m * a + oft n k * b ≤ 12 := by
  have h1 := oft_bound n m
  have h2 := oft_bound n k
  rcases (by omega : oft n m = 1 ∨ oft n m = 2) with e1 | e1 <;> rcases (by omega : oft n k = 1 ∨ oft n k = 2) with e2 | e2 <;> rw [e1, e2] <;> omega
theorem mx3_ge (a b c : Int) (ha : 0 ≤ a ∧ a ≤ 12) (hb : 0 ≤ b ∧ b ≤ 12) (hc : 0 ≤ c ∧ c ≤ 12) : a ≤ mx3 a b c ∧ b ≤ mx3 a b c ∧ c ≤ mx3 a b c ∧ mx3 a b c ≤ 12 := by
  unfold mx3; split <;> split <;> omega
theorem pendS {g : Heap} {L' : Addr} {m' : Str → Option Value} {s : Shared} {h' : Heap} {tk' : Nat} {v : Value} {tl full : List (Addr × Obj)} {Out : List (Addr × Obj) → Value → Prop} (F : Fr g L' h' m') (N : News g L' h' full) (hs : ∀ q ∈ tl, q ∈ full) (ho : Out tl v) : PEnd s g [] Out v { s with heap := h', toks := tk' } :=
  ⟨L', m', tl, h', tk', rfl, F, fun q hq => N q (hs q (by simpa using hq)), fun _ _ h => (nomatch h), ho⟩
noncomputable def potOne (n : Int) : P3 := ⟨dig n 0, dig n 1, dig n 2⟩
noncomputable def potTwo (n : Int) : P3 := ⟨dig n 3, dig n 4, dig n 5⟩
noncomputable def potB (n : Int) (j : Nat) : Int := oft n 4096 * dig n j + oft n 8192 * dig n (j + 3)
noncomputable def potMix (n : Int) : P3 := ⟨mx3 (potB n 0) (potB n 1) (potB n 2) - potB n 0, mx3 (potB n 0) (potB n 1) (potB n 2) - potB n 1, mx3 (potB n 0) (potB n 1) (potB n 2) - potB n 2⟩
noncomputable def PotOut (n : Int) (tl : List (Addr × Obj)) (v : Value) : Prop :=
  ∃ T A B C a b c cT cA cB cC oa ob oc x1 x2 x3 t1 t2 t3 t4 t5, v = .ref T ∧
    tl = [(T, { cls := .type "tuple", data := .seq #[.ref A, .ref B, .ref C] cT }), (A, W.listOf #[.ref a, .ref b, .ref c] cA), (B, W.listOf #[.str x1 t1, .str x2 t2, .str x3 t3] cB), (C, W.listOf #[.int (oft n 4096) t4, .int (oft n 8192) t5] cC), (a, oa), (b, ob), (c, oc)] ∧
    (potOne n).Obj oa ∧ (potTwo n).Obj ob ∧ (potMix n).Obj oc ∧
    Inks x1 (potOne n).a (potOne n).b (potOne n).c ∧ Inks x2 (potTwo n).a (potTwo n).b (potTwo n).c ∧ Inks x3 (potMix n).a (potMix n).b (potMix n).c
/-- the paints of a pot -/
noncomputable def potP (n : Int) (j : Nat) : P3 := if j = 0 then potOne n else if j = 1 then potTwo n else potMix n
theorem dig12 (n : Int) (k : Nat) : dig n k ≤ 12 := Int.le_trans (dig_bound n k).2 (by decide)
theorem sub_12 {M b : Int} (h : 0 ≤ b) (h' : M ≤ 12) : M - b ≤ 12 := by omega
theorem pot_ok (n : Int) (i : Nat) : (potP n i).Ok := by
  unfold potP; split
  · exact ⟨(dig_bound n 0).1, (dig_bound n 1).1, (dig_bound n 2).1, dig12 n 0, dig12 n 1, dig12 n 2⟩
  · split
    · exact ⟨(dig_bound n 3).1, (dig_bound n 4).1, (dig_bound n 5).1, dig12 n 3, dig12 n 4, dig12 n 5⟩
    · have b0 : 0 ≤ potB n 0 ∧ potB n 0 ≤ 12 := both_bound (dig_bound n 0) (dig_bound n 3)
      have b1 : 0 ≤ potB n 1 ∧ potB n 1 ≤ 12 := both_bound (dig_bound n 1) (dig_bound n 4)
      have b2 : 0 ≤ potB n 2 ∧ potB n 2 ≤ 12 := both_bound (dig_bound n 2) (dig_bound n 5)
      have hm := mx3_ge _ _ _ b0 b1 b2
      exact ⟨Int.sub_nonneg_of_le hm.1, Int.sub_nonneg_of_le hm.2.1, Int.sub_nonneg_of_le hm.2.2.1, sub_12 b0.1 hm.2.2.2, sub_12 b1.1 hm.2.2.2, sub_12 b2.1 hm.2.2.2⟩
/-- the texts of a pot, as they come -/
noncomputable def TR (n : Int) : Nat → List Value → Prop
  | 0, vs => vs = []
  | i + 1, vs => ∃ ws y t, vs = ws ++ [.str y t] ∧ TR n i ws ∧ Inks y (potP n i).a (potP n i).b (potP n i).c
theorem TR.len {n : Int} : ∀ {i : Nat} {vs : List Value}, TR n i vs → vs.length = i
  | 0, _, h => by rw [show _ = [] from h]; rfl
  | i + 1, _, ⟨ws, _, _, e, h, _⟩ => by rw [e, List.length_append, h.len]; rfl
theorem TR.push {n : Int} {i : Nat} {vs : Array Value} {y : Str} {t : Tok} (h : TR n i vs.toList) (hy : Inks y (potP n i).a (potP n i).b (potP n i).c) : TR n (i + 1) (vs.push (.str y t)).toList :=
  ⟨vs.toList, y, t, Array.toList_push, h, hy⟩
theorem TR.three {n : Int} {vs : Array Value} (h : TR n 3 vs.toList) : ∃ x1 x2 x3 t1 t2 t3, vs = #[.str x1 t1, .str x2 t2, .str x3 t3] ∧ Inks x1 (potOne n).a (potOne n).b (potOne n).c ∧ Inks x2 (potTwo n).a (potTwo n).b (potTwo n).c ∧ Inks x3 (potMix n).a (potMix n).b (potMix n).c := by
  obtain ⟨_, x3, t3, e3, ⟨_, x2, t2, rfl, ⟨_, x1, t1, rfl, rfl, i1⟩, i2⟩, i3⟩ := h
  exact ⟨x1, x2, x3, t1, t2, t3, Array.toList_inj.mp e3, i1, i2, i3⟩
/-- a paint that lies in the ledger -/
noncomputable def PaintAt (rest : List (Addr × Obj)) (p : P3) (v : Value) : Prop := ∃ D ta tb tc k, v = .ref D ∧ (D, W.listOf #[.int p.a ta, .int p.b tb, .int p.c tc] k) ∈ rest
theorem three_it {x y z v : Value} {i : Nat} {P : Nat → Value → Prop} (h : (#[x, y, z] : Array Value)[i]? = some v) (h0 : P 0 x) (h1 : P 1 y) (h2 : P 2 z) : P i v ∧ i < 3 := by
  match i, h with
  | 0, h => exact ⟨(Option.some.inj h) ▸ h0, by decide⟩
  | 1, h => exact ⟨(Option.some.inj h) ▸ h1, by decide⟩
  | 2, h => exact ⟨(Option.some.inj h) ▸ h2, by decide⟩
theorem ne_swap {a d : Addr} {o o' : Obj} {l : List (Addr × Obj)} (h : ∀ q ∈ (a, o) :: l, q.1 ≠ d) : ∀ q ∈ (a, o') :: l, q.1 ≠ d :=
  List.forall_mem_cons.mpr ⟨h (a, o) (.head _), fun q hq => h q (.tail _ hq)⟩
theorem slimN {h₀ h : Heap} {L : Addr} {x a b : Addr × Obj} {l : List (Addr × Obj)} (N : News h₀ L h (a :: b :: x :: l)) (ha : a.1 ≠ x.1) (hb : b.1 ≠ x.1) (hl : ∀ q ∈ l, q.1 < x.1) :
    ∃ r, (∀ q ∈ a :: b :: l, q ∈ r) ∧ r = a :: b :: l ∧ (∀ q ∈ r, q.1 ≠ x.1) ∧ News h₀ L h (x :: r) := by
  refine ⟨_, fun _ h => h, rfl, List.forall_mem_cons.mpr ⟨ha, List.forall_mem_cons.mpr ⟨hb, fun q hq => Nat.ne_of_lt (hl q hq)⟩⟩, fun q hq => ?_⟩
  rcases List.mem_cons.mp hq with rfl | hq
  · exact N _ ix2
  rcases List.mem_cons.mp hq with rfl | hq
  · exact N _ ix0
  rcases List.mem_cons.mp hq with rfl | hq
  · exact N _ ix1
  · exact N _ (.tail _ (.tail _ (.tail _ hq)))
theorem PotOut.mk {n : Int} {T A B C a b c : Addr} {cT cA cB cC : Nat} {oa ob oc : Obj} {x1 x2 x3 : Str} {t1 t2 t3 t4 t5 : Tok} {tl : List (Addr × Obj)} (e : tl = [(T, { cls := .type "tuple", data := .seq #[.ref A, .ref B, .ref C] cT }), (A, W.listOf #[.ref a, .ref b, .ref c] cA), (B, W.listOf #[.str x1 t1, .str x2 t2, .str x3 t3] cB), (C, W.listOf #[.int (oft n 4096) t4, .int (oft n 8192) t5] cC), (a, oa), (b, ob), (c, oc)])
    (ha : (potOne n).Obj oa) (hb : (potTwo n).Obj ob) (hc : (potMix n).Obj oc) (i1 : Inks x1 (potOne n).a (potOne n).b (potOne n).c) (i2 : Inks x2 (potTwo n).a (potTwo n).b (potTwo n).c) (i3 : Inks x3 (potMix n).a (potMix n).b (potMix n).c) : PotOut n tl (.ref T) :=
  ⟨T, A, B, C, a, b, c, cT, cA, cB, cC, oa, ob, oc, x1, x2, x3, t1, t2, t3, t4, t5, rfl, e, ha, hb, hc, i1, i2, i3⟩
theorem turn_pos (n : Int) : 0 ≤ (n.fdiv 16384).fmod 7 := by rw [Int.fmod_eq_emod_of_nonneg _ (by decide)]; exact Int.emod_nonneg _ (by decide)
theorem pc_pot (w : World) (n : Int) (t : Tok) :
    PC w 71 12 [.int n t] [] (PotOut n) := by
  k_with_none
  k_with "mem" => (first | (with_reducible apply List.mem_cons_self) | (with_reducible refine' List.mem_cons_of_mem _ ?_; k_mem) | (with_reducible assumption))
  k_with "ne" => (refine neN ?_; first | exact Mine.sk1 | exact Mine.sk2 | exact Mine.sk3 | exact Mine.sk4 | exact Ne.symm Mine.sk1 | exact Ne.symm Mine.sk2 | exact Ne.symm Mine.sk3 | exact Ne.symm Mine.sk4 | exact Mine.n4a (by assumption) | exact Mine.n4b (by assumption) | exact Mine.n4c (by assumption) | exact Mine.n4d (by assumption) | exact Mine.ne_by (by assumption) (by k_mem) | exact Ne.symm (Mine.n4a (by assumption)) | exact Ne.symm (Mine.n4b (by assumption)) | exact Ne.symm (Mine.n4c (by assumption)) | exact Ne.symm (Mine.n4d (by assumption)) | exact Ne.symm (Mine.ne_by (by assumption) (by k_mem)) | exact Mine.ne_lt (by assumption) (by k_mem) | exact Ne.symm (Mine.ne_lt (by assumption) (by k_mem)) | exact Mine.nl1 (by assumption) (by k_mem) | exact Mine.nl2 (by assumption) (by k_mem) | exact Mine.nl3 (by assumption) (by k_mem) | exact Mine.nl4 (by assumption) (by k_mem))
  k_with "eval ListComp" => (refine comp_F (by with_reducible assumption) (by with_unfolding_all rfl) (by decide) (by with_unfolding_all rfl) (by decide) (by with_unfolding_all rfl) ?_ (by intro _; with_unfolding_all rfl))
  k_with "eval Name" => (refine nameCX (by assumption) (by k_mem) (by assumption) (by assumption) ?_ (by rfl) (by rfl) (by decide))
  k_with "eval Name" => (refine nameCC (by assumption) (by rfl) (by k_mem) (by assumption) ?_ (by rfl) (by rfl) (by decide))
  k_with "binaryOp Mult int int" => (refine PyProof.Rows.mul_int ?_ (by exact mulRP (by assumption) (by assumption)))
  k_with "call builtin:max" => ((with_reducible show wpAny _ _ (call _ [Value.ref _]) _ _ _); refine max_list3 rfl (by assumption) (by assumption) (by assumption) ?_; intro h' tk' r' F' N' kmax)
  k_with "eval Name" => (refine nameX_L (by assumption) (by with_unfolding_all exact hT) ?_ (by rfl) (by rfl))
  k_with "subscriptTail Name Constant ref int" => ((with_reducible show wpAny _ _ (subscriptTail _ _ (Value.ref _) (Value.int _ _)) _ _ _); k_dflt (refine my_item (by assumption) (by k_mem) (by with_unfolding_all rfl) (by decide) (by decide) ?_ (by with_unfolding_all rfl)))
  k_with "subscriptTail Name Name ref int" => ((with_reducible show wpAny _ _ (subscriptTail _ _ (Value.ref _) (Value.int _ _)) _ _ _); k_dflt (refine my_item (by assumption) (by k_mem) (by with_unfolding_all rfl) (by decide) (by decide) ?_ (by with_unfolding_all rfl)))
  k_with "exec For Name Tuple cons nil" => ((with_reducible show wpAny _ _ (exec (Stmt.For (Expr.Name _ _) _ _ [] _) _) _ _ _); (rename Fr _ _ _ _ => F'); (with_unfolding_all refine For_invUF F' (by rfl) (by rfl) ?_))
  k_with "pyIter ref" => ((with_reducible show wpAny _ _ (pyIter (Value.ref _)) (fun it s₂ => LoopAtU _ _ _ _ _ _ _ _ _ it s₂) _ _); refine leaf_iter ?_)
  k_with "binaryOp Mult str int" => (refine mulInk 60 (by decide +kernel) (by first | exact P3.Ok.a0 (by assumption) | exact P3.Ok.b0 (by assumption) | exact P3.Ok.c0 (by assumption)) (by first | exact P3.Ok.a1 (by assumption) | exact P3.Ok.b1 (by assumption) | exact P3.Ok.c1 (by assumption)) ?_; intro y t k hy hz)
  k_with "binaryOp Mult str int" => (refine mulInk 62 (by decide +kernel) (by first | exact P3.Ok.a0 (by assumption) | exact P3.Ok.b0 (by assumption) | exact P3.Ok.c0 (by assumption)) (by first | exact P3.Ok.a1 (by assumption) | exact P3.Ok.b1 (by assumption) | exact P3.Ok.c1 (by assumption)) ?_; intro y t k hy hz)
  k_with "binaryOp Mult str int" => (refine mulInk 38 (by decide +kernel) (by first | exact P3.Ok.a0 (by assumption) | exact P3.Ok.b0 (by assumption) | exact P3.Ok.c0 (by assumption)) (by first | exact P3.Ok.a1 (by assumption) | exact P3.Ok.b1 (by assumption) | exact P3.Ok.c1 (by assumption)) ?_; intro y t k hy hz)
  refine' pc_cells (f := 71) (binds := [(Str.ofString "number", .int n t)]) ?k6 ?k7 ?k9 ?kB ?kD ?_ ?c2 ?c3 ?c4 ?c6
  (case k6 => k_is); (case k7 => k_is); (case k9 => intro s; exact BindsTo.of_eq rfl); (case kB => exact rfl); (case kD => decide +kernel); (case c2 => exact rfl); (case c3 => exact rfl); (case c4 => exact rfl); (case c6 => decide)
  intro p loose mean mg mb dp un gd env outer A₀ base g L' h₁ s tk cells F N Y B X T hs hl hd hu
  (try k_lt hl); k_cells Y; (try simp only [List.cons_append, List.nil_append] at N)
  (try dsimp only)
  (try k_unmd); (try k_fold)
  have d0 := dig_bound n 0
  have d1 := dig_bound n 1
  have d2 := dig_bound n 2
  have d3 := dig_bound n 3
  have d4 := dig_bound n 4
  have d5 := dig_bound n 5
  k_steps
  rename IsRange _ _ _ _ _ _ _ _ => hr
  rename Fr _ _ _ _ => F1
  rename News _ _ _ _ => N1
  unfold Leaf
  refine comp_ints (a0 := dig n 0) (a1 := dig n 1) (a2 := dig n 2) (iter_range3 rfl hr (by decide) (by decide)) F1 N1 ?_ ?_ ?_ ?_
  · intro C h₃ tk₃ oC mm E' t hNC hm F2 N2
    replace hm : mm (Str.ofString "j") = some (.int 0 t) := hm
    clear N1 F1 hr
    (try k_unmd); (try k_fold)
    k_steps
    exact int_end rfl fun _ _ e => e
  · intro C h₃ tk₃ oC mm E' t hNC hm F2 N2
    replace hm : mm (Str.ofString "j") = some (.int 1 t) := hm
    clear N1 F1 hr
    (try k_unmd); (try k_fold)
    k_steps
    exact int_end rfl fun _ _ e => e
  · intro C h₃ tk₃ oC mm E' t hNC hm F2 N2
    replace hm : mm (Str.ofString "j") = some (.int 2 t) := hm
    clear N1 F1 hr
    (try k_unmd); (try k_fold)
    k_steps
    exact int_end rfl fun _ _ e => e
  intro D1 h4 tk4 ta1 tb1 tc1 m1 F4 N4 hne
  clear N1 F1 hr
  k_steps
  rename IsRange _ _ _ _ _ _ _ _ => hr
  rename Fr _ _ _ _ => F1
  rename News _ _ _ _ => N1
  unfold Leaf
  refine comp_ints (a0 := dig n 3) (a1 := dig n 4) (a2 := dig n 5) (iter_range3 rfl hr (by decide) (by decide)) F1 N1 ?_ ?_ ?_ ?_
  · intro C h₃ tk₃ oC mm E' t hNC hm F2 N2
    replace hm : mm (Str.ofString "j") = some (.int 3 t) := hm
    clear N1 F1 hr
    (try k_unmd); (try k_fold)
    k_steps
    exact int_end rfl fun _ _ e => e
  · intro C h₃ tk₃ oC mm E' t hNC hm F2 N2
    replace hm : mm (Str.ofString "j") = some (.int 4 t) := hm
    clear N1 F1 hr
    (try k_unmd); (try k_fold)
    k_steps
    exact int_end rfl fun _ _ e => e
  · intro C h₃ tk₃ oC mm E' t hNC hm F2 N2
    replace hm : mm (Str.ofString "j") = some (.int 5 t) := hm
    clear N1 F1 hr
    (try k_unmd); (try k_fold)
    k_steps
    exact int_end rfl fun _ _ e => e
  intro D2 h4 tk4 ta2 tb2 tc2 m2 F4 N4 hne
  clear N1 F1 hr
  have p0 := dig12 n 0
  have p1 := dig12 n 1
  have p2 := dig12 n 2
  have p3 := dig12 n 3
  have p4 := dig12 n 4
  have p5 := dig12 n 5
  have z0 := d0.1
  have z1 := d1.1
  have z2 := d2.1
  have z3 := d3.1
  have z4 := d4.1
  have z5 := d5.1
  k_steps
  rename IsRange _ _ _ _ _ _ _ _ => hr
  rename Fr _ _ _ _ => F1
  rename News _ _ _ _ => N1
  unfold Leaf
  refine comp_ints (a0 := potB n 0) (a1 := potB n 1) (a2 := potB n 2) (iter_range3 rfl hr (by decide) (by decide)) F1 N1 ?_ ?_ ?_ ?_
  · intro C h₃ tk₃ oC mm E' t hNC hm F2 N2
    replace hm : mm (Str.ofString "j") = some (.int 0 t) := hm
    clear N1 F1 hr
    (try k_unmd); (try k_fold)
    k_steps
    exact int_end rfl fun _ _ e => e
  · intro C h₃ tk₃ oC mm E' t hNC hm F2 N2
    replace hm : mm (Str.ofString "j") = some (.int 1 t) := hm
    clear N1 F1 hr
    (try k_unmd); (try k_fold)
    k_steps
    exact int_end rfl fun _ _ e => e
  · intro C h₃ tk₃ oC mm E' t hNC hm F2 N2
    replace hm : mm (Str.ofString "j") = some (.int 2 t) := hm
    clear N1 F1 hr
    (try k_unmd); (try k_fold)
    k_steps
    exact int_end rfl fun _ _ e => e
  intro D3 h4 tk4 ta3 tb3 tc3 m3 F4 N4 hne
  clear N1 F1 hr
  have q0 : 0 ≤ potB n 0 ∧ potB n 0 ≤ 12 := both_bound d0 d3
  have q1 : 0 ≤ potB n 1 ∧ potB n 1 ≤ 12 := both_bound d1 d4
  have q2 : 0 ≤ potB n 2 ∧ potB n 2 ≤ 12 := both_bound d2 d5
  have u0 := mx3_ge _ _ _ q0 q1 q2
  k_steps
  rename Fr _ _ _ _ => F1
  rename News _ _ _ _ => N1
  unfold Leaf
  refine comp_intsF (f := fun b => mx3 (potB n 0) (potB n 1) (potB n 2) - b) (iter_list3 (l := D3) (a := (potB n 0)) (ta := ta3) (b := (potB n 1)) (tb := tb3) (c := (potB n 2)) (tc := tc3) rfl ⟨_, N1.get (by k_mem), rfl, _, rfl⟩) F1 N1 ?_ ?_
  · intro b C h₃ tk₃ oC mm E' t' hNC hm F2 N2
    clear N1 F1
    have HL : h₃.IsList D3 #[.int (potB n 0) ta3, .int (potB n 1) tb3, .int (potB n 2) tc3] := ⟨_, N2.get (by k_mem), rfl, _, rfl⟩
    (try k_unmd); (try k_fold)
    k_steps
    exact int_end rfl kmax
  intro D4 h4 tk4 ta4 tb4 tc4 m4 F4 N4 hne
  (try dsimp only at N4)
  clear N1 F1
  have uT := turn_pos n
  k_steps
  rename_i LT _ ltL _ D' _ F1 N1 ltD
  obtain ⟨rest, up, hrest, hr, N2⟩ := slimN N1 (Ne.symm (ne_lt ltD (by k_mem))) (Ne.symm (ne_by hne (by k_mem))) ltL
  have mT := up _ ix0
  have mN := up _ (.tail _ ix9)
  have P0 : PaintAt rest (potP n 0) (.ref D1) := ⟨_, _, _, _, _, rfl, up _ ix5⟩
  have P1 : PaintAt rest (potP n 1) (.ref D2) := ⟨_, _, _, _, _, rfl, up _ ix4⟩
  have P2 : PaintAt rest (potP n 2) (.ref D4) := ⟨_, _, _, _, _, rfl, up _ ix1⟩
  clear up
  unfold Leaf
  refine for_tuple (l := D') rfl F1 N2 (fun i m₁ news₁ => m₁ (Str.ofString "texts") = some (.ref LT) ∧ ∃ vs c, news₁ = (LT, W.listOf vs c) :: rest ∧ TR n i vs.toList) ⟨if_pos rfl, _, _, rfl, rfl⟩ (fun _ _ _ ⟨_, _, _, e, _⟩ => by rw [e]; exact .tail _ mT) ?step ?fin
  case step =>
    clear N1 N2 F1 hrest
    intro i v m₁ news₁ s₁ I oI hv hJ hI F3 N3
    obtain ⟨hT, vs, c, rfl, hR⟩ := hJ
    obtain ⟨⟨D, ta, tb, tc, k, rfl, mD⟩, hi⟩ := three_it (P := fun i v => PaintAt rest (potP n i) v) hv P0 P1 P2
    have ok := pot_ok n i
    have hvs : vs.size ≤ sizeLine := by rw [← Array.length_toList, hR.len]; exact Nat.le_trans (Nat.le_of_lt hi) (by decide)
    clear P0 P1 P2 hv hi d0 d1 d2 d3 d4 d5 p0 p1 p2 p3 p4 p5 z0 z1 z2 z3 z4 z5 q0 q1 q2 u0 hne ltD ltL
    k_steps
    rename Fr _ _ _ _ => F9
    rename News _ _ _ _ => N9
    exact turn_end F9 N9 (ne_swap hI) ⟨(by with_unfolding_all exact hT), _, _, rfl, hR.push (inks_turn (by assumption) (by assumption) (by assumption) uT)⟩
  case fin =>
    clear mT mN P0 P1 P2 N1 N2 F1
    intro h9 tk9 m9 news9 F9 N9 hJ
    obtain ⟨hT, vs, c, rfl, hR⟩ := hJ
    obtain ⟨x1, x2, x3, t1, t2, t3, rfl, I1, I2, I3⟩ := TR.three hR
    subst hrest
    clear hr hR
    k_steps
    rename Fr _ _ _ _ => F1
    rename News _ _ _ _ => N1
    unfold Leaf
    refine comp_intsF (f := fun b => mx3 (potB n 0) (potB n 1) (potB n 2) - b) (iter_list3 (l := D3) (a := (potB n 0)) (ta := ta3) (b := (potB n 1)) (tb := tb3) (c := (potB n 2)) (tc := tc3) rfl ⟨_, N1.get (by k_mem), rfl, _, rfl⟩) F1 N1 ?_ ?_
    · intro b C h₃ tk₃ oC mm E' t' hNC hm F2 N2
      clear N1 F1
      have HL : h₃.IsList D3 #[.int (potB n 0) ta3, .int (potB n 1) tb3, .int (potB n 2) tc3] := ⟨_, N2.get (by k_mem), rfl, _, rfl⟩
      (try k_unmd); (try k_fold)
      k_steps
      exact int_end rfl kmax
    intro D5 h4 tk4 ta5 tb5 tc5 m5 F4 N4 hne
    (try dsimp only at N4)
    clear N1 F1
    k_steps
    rename News _ _ _ _ => N9
    rename Fr _ _ _ _ => F9
    refine pendS (tl := [_, _, _, _, _, _, _]) F9 N9 (List.forall_mem_cons.mpr ⟨ix0, List.forall_mem_cons.mpr ⟨ix1, List.forall_mem_cons.mpr ⟨ix3, List.forall_mem_cons.mpr ⟨ix7, List.forall_mem_cons.mpr ⟨ix9, List.forall_mem_cons.mpr ⟨ix8, List.forall_mem_cons.mpr ⟨ix2, List.forall_mem_nil _⟩⟩⟩⟩⟩⟩⟩) ?out
    case out =>
      exact PotOut.mk rfl ⟨_, _, _, _, rfl⟩ ⟨_, _, _, _, rfl⟩ ⟨_, _, _, _, rfl⟩ I1 I2 I3
end Mine
end
section
namespace Mine
/-- the hue's place on a wheel of 166320 marks, as a point of the hexagon -/
noncomputable def Ux (X : Int) : Int := if X ≤ 27720 then 27720 else if X ≤ 83160 then 55440 - X else if X ≤ 110880 then -27720 else X - 138600
noncomputable def Uy (X : Int) : Int := if X ≤ 27720 then X else if X ≤ 55440 then 27720 else if X ≤ 110880 then 83160 - X else if X ≤ 138600 then -27720 else X - 166320
noncomputable def AU (X Y : Int) : Int := Ux X * Uy Y - Uy X * Ux Y
theorem AU_anti (X Y : Int) : AU Y X = -AU X Y := by unfold AU; grind
theorem U_half {X : Int} (h0 : 0 ≤ X) (h1 : X < 83160) : Ux (X + 83160) = -Ux X ∧ Uy (X + 83160) = -Uy X := by
  unfold Ux Uy
  constructor <;> (repeat' split) <;> omega
theorem AU_up {X Y : Int} (h0 : 0 ≤ X) (h : X < Y) (h1 : Y < 83160) : 0 < AU X Y := by
  unfold AU Ux Uy
  by_cases a1 : X ≤ 27720
  · by_cases a2 : Y ≤ 27720
    · rw [if_pos a1, if_pos a1, if_pos a2, if_pos a2]; omega
    · by_cases a3 : Y ≤ 55440
      · rw [if_pos a1, if_pos a1, if_neg a2, if_pos a3, if_neg a2, if_pos (by omega)]
        have := Int.mul_le_mul_of_nonneg_right a1 (show 0 ≤ 55440 - Y by omega)
        omega
      · rw [if_pos a1, if_pos a1, if_neg a2, if_neg a3, if_pos (by omega), if_neg a2, if_pos (by omega)]
        have := Int.mul_nonneg h0 (show 0 ≤ Y - 55440 by omega)
        grind
  · by_cases a3 : Y ≤ 55440
    · rw [if_neg a1, if_pos (by omega), if_neg (by omega), if_pos a3, if_neg a1, if_pos (by omega), if_neg (by omega), if_pos (by omega)]
      omega
    · by_cases a4 : X ≤ 55440
      · rw [if_neg a1, if_pos (by omega), if_neg (by omega), if_neg a3, if_pos (by omega), if_neg a1, if_pos a4, if_neg (by omega), if_pos (by omega)]
        have := Int.mul_nonneg (show 0 ≤ 55440 - X by omega) (show 0 ≤ 83160 - Y by omega)
        omega
      · rw [if_neg a1, if_pos (by omega), if_neg (by omega), if_neg a3, if_pos (by omega), if_neg a1, if_neg a4, if_pos (by omega), if_neg (by omega), if_pos (by omega)]
        grind
theorem AU_self (X : Int) : AU X X = 0 := by unfold AU; grind
/-- the half of a mark, and its sign -/
theorem AU_half {X Y : Int} (h0 : 0 ≤ X) (h1 : X < 83160) : AU (X + 83160) Y = -AU X Y ∧ AU Y (X + 83160) = -AU Y X := by
  unfold AU
  rw [(U_half h0 h1).1, (U_half h0 h1).2]
  constructor <;> grind
theorem AU_sgn {X Y : Int} (h0 : 0 ≤ X) (h1 : X < 83160) (k0 : 0 ≤ Y) (k1 : Y < 83160) : (0 < AU X Y ↔ X < Y) ∧ (AU X Y < 0 ↔ Y < X) := by
  rcases Int.lt_trichotomy X Y with h | h | h
  · have := AU_up h0 h k1; omega
  · subst h; have := AU_self X; omega
  · have := AU_up k0 h h1; have := AU_anti X Y; omega
theorem neg_sgn (A : Int) : (0 < -A ↔ A < 0) ∧ (-A < 0 ↔ 0 < A) := by omega
theorem near_sgn {d : Int} (h0 : -83160 < d) (h1 : d < 83160) : (0 < d ↔ (0 < d ∧ d < 83160) ∨ d < -83160) ∧ (d < 0 ↔ (-83160 < d ∧ d < 0) ∨ 83160 < d) := by omega
theorem far_up {d : Int} (h0 : 0 < d) (h1 : d < 166320) : (d < 83160 ↔ (0 < d ∧ d < 83160) ∨ d < -83160) ∧ (83160 < d ↔ (-83160 < d ∧ d < 0) ∨ 83160 < d) := by omega
theorem far_dn {d : Int} (h0 : d < 0) (h1 : -166320 < d) : (d < -83160 ↔ (0 < d ∧ d < 83160) ∨ d < -83160) ∧ (-83160 < d ↔ (-83160 < d ∧ d < 0) ∨ 83160 < d) := by omega
theorem lt_sub0 {X Y : Int} : (X < Y ↔ 0 < Y - X) ∧ (Y < X ↔ Y - X < 0) := by omega
theorem lt_subH {X Y : Int} : (Y - 83160 < X ↔ Y - X < 83160) ∧ (X < Y - 83160 ↔ 83160 < Y - X) := by omega
theorem lt_subL {X Y : Int} : (Y < X - 83160 ↔ Y - X < -83160) ∧ (X - 83160 < Y ↔ -83160 < Y - X) := by omega
theorem in_hi {X : Int} (h0 : ¬X < 83160) (h1 : X < 166320) : 0 ≤ X - 83160 ∧ X - 83160 < 83160 := by omega
theorem AU_sign {X Y : Int} (h0 : 0 ≤ X) (h1 : X < 166320) (k0 : 0 ≤ Y) (k1 : Y < 166320) :
    (0 < AU X Y ↔ (0 < Y - X ∧ Y - X < 83160) ∨ Y - X < -83160) ∧ (AU X Y < 0 ↔ (-83160 < Y - X ∧ Y - X < 0) ∨ 83160 < Y - X) := by
  by_cases a : X < 83160
  · by_cases b : Y < 83160
    · have s := AU_sgn h0 a k0 b
      have n := near_sgn (d := Y - X) (by omega) (by omega)
      exact ⟨s.1.trans (lt_sub0.1.trans n.1), s.2.trans (lt_sub0.2.trans n.2)⟩
    · obtain ⟨p, q⟩ := in_hi b k1
      have s := AU_sgn h0 a p q
      have e := (AU_half (X := Y - 83160) (Y := X) p q).2
      rw [Int.sub_add_cancel] at e
      have n := far_up (d := Y - X) (by omega) (by omega)
      rw [e]
      exact ⟨(neg_sgn _).1.trans (s.2.trans (lt_subH.1.trans n.1)), (neg_sgn _).2.trans (s.1.trans (lt_subH.2.trans n.2))⟩
  · obtain ⟨p, q⟩ := in_hi a h1
    by_cases b : Y < 83160
    · have s := AU_sgn p q k0 b
      have e := (AU_half (X := X - 83160) (Y := Y) p q).1
      rw [Int.sub_add_cancel] at e
      have n := far_dn (d := Y - X) (by omega) (by omega)
      rw [e]
      exact ⟨(neg_sgn _).1.trans (s.2.trans (lt_subL.1.trans n.1)), (neg_sgn _).2.trans (s.1.trans (lt_subL.2.trans n.2))⟩
    · obtain ⟨p', q'⟩ := in_hi b k1
      have s := AU_sgn p q p' q'
      have e1 := (AU_half (X := X - 83160) (Y := Y) p q).1
      have e2 := (AU_half (X := Y - 83160) (Y := X - 83160) p' q').2
      rw [Int.sub_add_cancel] at e1 e2
      have n := near_sgn (d := Y - X) (by omega) (by omega)
      rw [e1, e2, Int.neg_neg]
      have u : Y - 83160 - (X - 83160) = Y - X := by omega
      have l := lt_sub0 (X := X - 83160) (Y := Y - 83160)
      rw [u] at l
      exact ⟨s.1.trans (l.1.trans n.1), s.2.trans (l.2.trans n.2)⟩
theorem sq_pos {a : Int} (h : a ≠ 0) : 0 < a * a := by
  rcases Int.lt_or_gt_of_ne h with h | h
  · exact Int.mul_pos_of_neg_of_neg h h
  · exact Int.mul_pos h h
theorem sq_nonneg (a : Int) : 0 ≤ a * a := by
  by_cases h : a = 0
  · rw [h]; decide
  · exact Int.le_of_lt (sq_pos h)
theorem U_dot {X : Int} (h0 : 0 ≤ X) (h1 : X < 166320) : 0 < Ux X * Ux X + Uy X * Uy X := by
  have hx : Ux X ≠ 0 ∨ Uy X ≠ 0 := by
    unfold Ux Uy; repeat' split
    all_goals omega
  have a := sq_nonneg (Ux X)
  have b := sq_nonneg (Uy X)
  rcases hx with h | h
  · have := sq_pos h; omega
  · have := sq_pos h; omega

/-- a paint that is not grey: its place on the wheel, its distance from grey -/
structure At (p : P3) (X d : Int) : Prop where
  d0 : 0 < d
  x0 : 0 ≤ X
  x1 : X < 166320
  hx : 27720 * (p.a - p.c) = d * Ux X
  hy : 27720 * (p.b - p.c) = d * Uy X
theorem pos_of_mul {k a : Int} (hk : 0 < k) : (0 < k * a ↔ 0 < a) ∧ (k * a < 0 ↔ a < 0) := by
  rcases Int.lt_trichotomy a 0 with h | h | h
  · have := Int.mul_neg_of_pos_of_neg hk h; omega
  · subst h; simp
  · have := Int.mul_pos hk h; omega
theorem At.area {p q : P3} {X Y d e : Int} (h : At p X d) (k : At q Y e) :
    (0 < area p q ↔ (0 < Y - X ∧ Y - X < 83160) ∨ Y - X < -83160) ∧ (area p q < 0 ↔ (-83160 < Y - X ∧ Y - X < 0) ∨ 83160 < Y - X) := by
  obtain ⟨d0, x0, x1, hx, hy⟩ := h
  obtain ⟨e0, y0, y1, kx, ky⟩ := k
  have e1 : (27720 * 27720) * Mine.area p q = d * e * AU X Y := by
    unfold Mine.area AU
    have : (27720 * 27720) * ((p.a - p.c) * (q.b - q.c) - (p.b - p.c) * (q.a - q.c)) = (27720 * (p.a - p.c)) * (27720 * (q.b - q.c)) - (27720 * (p.b - p.c)) * (27720 * (q.a - q.c)) := by grind
    rw [this, hx, hy, kx, ky]
    grind
  have s := AU_sign x0 x1 y0 y1
  have a1 := pos_of_mul (k := 27720 * 27720) (a := Mine.area p q) (by decide)
  have a2 := pos_of_mul (k := d * e) (a := AU X Y) (Int.mul_pos d0 e0)
  rw [e1] at a1
  exact ⟨a1.1.symm.trans (a2.1.trans s.1), a1.2.symm.trans (a2.2.trans s.2)⟩
theorem same_or_opp {X Y : Int} (x0 : 0 ≤ X) (x1 : X < 166320) (y0 : 0 ≤ Y) (y1 : Y < 166320) (h : ¬((0 < Y - X ∧ Y - X < 83160) ∨ Y - X < -83160)) (k : ¬((-83160 < Y - X ∧ Y - X < 0) ∨ 83160 < Y - X)) : X = Y ∨ X = Y + 83160 ∨ Y = X + 83160 := by omega
theorem At.along {p q : P3} {X Y d e : Int} (h : At p X d) (k : At q Y e) (h0 : Mine.area p q = 0) : Mine.along p q < 0 ↔ X - Y = 83160 ∨ Y - X = 83160 := by
  have ha := h.area k
  obtain ⟨d0, x0, x1, hx, hy⟩ := h
  obtain ⟨e0, y0, y1, kx, ky⟩ := k
  have e1 : (27720 * 27720) * Mine.along p q = d * e * (Ux X * Ux Y + Uy X * Uy Y) := by
    unfold Mine.along
    have : (27720 * 27720) * ((p.a - p.c) * (q.a - q.c) + (p.b - p.c) * (q.b - q.c)) = (27720 * (p.a - p.c)) * (27720 * (q.a - q.c)) + (27720 * (p.b - p.c)) * (27720 * (q.b - q.c)) := by grind
    rw [this, hx, hy, kx, ky]
    grind
  have a1 := pos_of_mul (k := 27720 * 27720) (a := Mine.along p q) (by decide)
  have a2 := pos_of_mul (k := d * e) (a := Ux X * Ux Y + Uy X * Uy Y) (Int.mul_pos d0 e0)
  rw [e1] at a1
  refine (a1.2.symm.trans a2.2).trans ?_
  have n1 := fun c => Int.lt_irrefl 0 (h0 ▸ ha.1.mpr c)
  have n2 := fun c => Int.lt_irrefl 0 (h0 ▸ ha.2.mpr c)
  clear a1 a2 e1 ha hx hy kx ky
  rcases same_or_opp x0 x1 y0 y1 n1 n2 with h | h | h
  · have := U_dot x0 x1
    subst h
    exact ⟨fun c => absurd (Int.lt_trans this c) (Int.lt_irrefl 0), fun c => by omega⟩
  · have := U_dot y0 y1
    have z := U_half (X := Y) y0 (by omega)
    rw [← h] at z
    rw [z.1, z.2]
    have : -Ux Y * Ux Y + -Uy Y * Uy Y < 0 := by rw [Int.neg_mul, Int.neg_mul]; omega
    exact ⟨fun _ => .inl (by omega), fun _ => this⟩
  · have := U_dot x0 x1
    have z := U_half (X := X) x0 (by omega)
    rw [← h] at z
    rw [z.1, z.2]
    have : Ux X * -Ux X + Uy X * -Uy X < 0 := by rw [Int.mul_neg, Int.mul_neg]; omega
    exact ⟨fun _ => .inr (by omega), fun _ => this⟩
theorem At.across {p q : P3} {X Y d e : Int} (h : At p X d) (k : At q Y e) : Mine.across p q = true ↔ X - Y = 83160 ∨ Y - X = 83160 := by
  unfold Mine.across
  rw [Bool.and_eq_true, decide_eq_true_iff, decide_eq_true_iff]
  have ha := h.area k
  have := h.x0; have := h.x1; have := k.x0; have := k.x1
  constructor
  · rintro ⟨h1, h2⟩; exact (h.along k h1).mp h2
  · intro h3
    have h1 : Mine.area p q = 0 := Int.le_antisymm (Int.not_lt.mp fun c => by have := ha.1.mp c; clear ha; omega) (Int.not_lt.mp fun c => by have := ha.2.mp c; clear ha; omega)
    exact ⟨h1, (h.along k h1).mpr h3⟩
/-- no gap of the wheel between the three is wider than half a turn -/
noncomputable def Ring3 (x y z : Int) : Prop := ∃ a b c, [a, b, c].Perm [x, y, z] ∧ a ≤ b ∧ b ≤ c ∧ b - a ≤ 83160 ∧ c - b ≤ 83160 ∧ a + 166320 - c ≤ 83160
/-- the same, said by the numbers -/
noncomputable def Ok3 (x y z : Int) : Prop :=
  (x - y = 83160 ∨ y - x = 83160) ∨ (y - z = 83160 ∨ z - y = 83160) ∨ (z - x = 83160 ∨ x - z = 83160) ∨
  ((0 < z - y ∧ z - y < 83160 ∨ z - y < -83160) ∧ (0 < x - z ∧ x - z < 83160 ∨ x - z < -83160) ∧ (0 < y - x ∧ y - x < 83160 ∨ y - x < -83160)) ∨
  ((-83160 < z - y ∧ z - y < 0 ∨ 83160 < z - y) ∧ (-83160 < x - z ∧ x - z < 0 ∨ 83160 < x - z) ∧ (-83160 < y - x ∧ y - x < 0 ∨ 83160 < y - x))
theorem At.due {p q r : P3} {X Y Z d e f : Int} (h : At p X d) (k : At q Y e) (l : At r Z f) : due p q r = true ↔ 0 < greysOf [p, q, r] ∨ Ok3 X Y Z := by
  unfold Mine.due
  simp only [Bool.or_eq_true, decide_eq_true_iff, h.across k, k.across l, l.across h]
  have a1 := k.area l
  have a2 := l.area h
  have a3 := h.area k
  rw [a1.1, a1.2, a2.1, a2.2, a3.1, a3.2]
  unfold Ok3
  constructor
  · rintro ((h | (h | h) | h) | h | h)
    · exact .inl h
    · exact .inr (.inl h)
    · exact .inr (.inr (.inl h))
    · exact .inr (.inr (.inr (.inl h)))
    · exact .inr (.inr (.inr (.inr (.inl h))))
    · exact .inr (.inr (.inr (.inr (.inr h))))
  · rintro (h | h | h | h | h | h)
    · exact .inl (.inl h)
    · exact .inl (.inr (.inl (.inl h)))
    · exact .inl (.inr (.inl (.inr h)))
    · exact .inl (.inr (.inr h))
    · exact .inr (.inl h)
    · exact .inr (.inr h)
end Mine
end
section
namespace Mine
theorem perm3 {α : Type} {a b c x y z : α} (h : [a, b, c].Perm [x, y, z]) : (a = x ∧ b = y ∧ c = z) ∨ (a = x ∧ b = z ∧ c = y) ∨ (a = y ∧ b = x ∧ c = z) ∨ (a = y ∧ b = z ∧ c = x) ∨ (a = z ∧ b = x ∧ c = y) ∨ (a = z ∧ b = y ∧ c = x) := by
  have two : ∀ {b c y z : α}, [b, c].Perm [y, z] → (b = y ∧ c = z) ∨ (b = z ∧ c = y) := by
    intro b c y z h
    have hm : b ∈ [y, z] := h.mem_iff.mp (by simp)
    simp only [List.mem_cons, List.not_mem_nil, or_false] at hm
    rcases hm with rfl | rfl
    · have := h.cons_inv; simp at this; exact .inl ⟨rfl, this⟩
    · have := (h.trans (List.Perm.swap _ _ _)).cons_inv; simp at this; exact .inr ⟨rfl, this⟩
  have hm : a ∈ [x, y, z] := h.mem_iff.mp (by simp)
  simp only [List.mem_cons, List.not_mem_nil, or_false] at hm
  rcases hm with rfl | rfl | rfl
  · rcases two h.cons_inv with ⟨h1, h2⟩ | ⟨h1, h2⟩
    · exact .inl ⟨rfl, h1, h2⟩
    · exact .inr (.inl ⟨rfl, h1, h2⟩)
  · rcases two (h.trans (List.Perm.swap _ _ _)).cons_inv with ⟨h1, h2⟩ | ⟨h1, h2⟩
    · exact .inr (.inr (.inl ⟨rfl, h1, h2⟩))
    · exact .inr (.inr (.inr (.inl ⟨rfl, h1, h2⟩)))
  · have h2 : [x, y, a].Perm [a, x, y] := by
      exact (List.perm_append_comm (l₁ := [x, y]) (l₂ := [a]))
    rcases two (h.trans h2).cons_inv with ⟨h1, h2⟩ | ⟨h1, h2⟩
    · exact .inr (.inr (.inr (.inr (.inl ⟨rfl, h1, h2⟩))))
    · exact .inr (.inr (.inr (.inr (.inr ⟨rfl, h1, h2⟩))))
theorem flipP {a b : Int} (h : 0 < a - b ∧ a - b < 83160 ∨ a - b < -83160) : -83160 < b - a ∧ b - a < 0 ∨ 83160 < b - a := by omega
theorem flipN {a b : Int} (h : -83160 < a - b ∧ a - b < 0 ∨ 83160 < a - b) : 0 < b - a ∧ b - a < 83160 ∨ b - a < -83160 := by omega
theorem Ok3.swap23 {x y z : Int} (h : Ok3 x y z) : Ok3 x z y := by
  unfold Ok3 at *
  rcases h with h | h | h | ⟨h1, h2, h3⟩ | ⟨h1, h2, h3⟩
  · exact .inr (.inr (.inl h.symm))
  · exact .inr (.inl h.symm)
  · exact .inl h.symm
  · exact .inr (.inr (.inr (.inr ⟨flipP h1, flipP h3, flipP h2⟩)))
  · exact .inr (.inr (.inr (.inl ⟨flipN h1, flipN h3, flipN h2⟩)))
theorem Ok3.swap12 {x y z : Int} (h : Ok3 x y z) : Ok3 y x z := by
  unfold Ok3 at *
  rcases h with h | h | h | ⟨h1, h2, h3⟩ | ⟨h1, h2, h3⟩
  · exact .inl h.symm
  · exact .inr (.inr (.inl h.symm))
  · exact .inr (.inl h.symm)
  · exact .inr (.inr (.inr (.inr ⟨flipP h2, flipP h1, flipP h3⟩)))
  · exact .inr (.inr (.inr (.inl ⟨flipN h2, flipN h1, flipN h3⟩)))


noncomputable def Po (d : Int) : Prop := 0 < d ∧ d < 83160 ∨ d < -83160
noncomputable def Ng (d : Int) : Prop := -83160 < d ∧ d < 0 ∨ 83160 < d
theorem Po.sm {d : Int} (h : Po d) (h0 : 0 ≤ d) : 0 < d ∧ d < 83160 := by rcases h with h | h <;> omega
theorem Po.bg {d : Int} (h : Po d) (h0 : d ≤ 0) : d < -83160 := by rcases h with h | h <;> omega
theorem Ng.bg {d : Int} (h : Ng d) (h0 : 0 ≤ d) : 83160 < d := by rcases h with h | h <;> omega
theorem ring1 {a b c : Int} (a0 : 0 ≤ a) (c1 : c < 166320) (hab : a ≤ b) (hbc : b ≤ c) (h1 : b - a ≤ 83160) (h2 : c - b ≤ 83160) (h3 : a + 166320 - c ≤ 83160) : Ok3 a b c := by
  by_cases e1 : b - a = 83160
  · exact .inl (.inr e1)
  by_cases e2 : c - b = 83160
  · exact .inr (.inl (.inr e2))
  by_cases e3 : c - a = 83160
  · exact .inr (.inr (.inl (.inl e3)))
  exact .inr (.inr (.inr (.inl ⟨.inl ⟨by omega, by omega⟩, .inr (by omega), .inl ⟨by omega, by omega⟩⟩)))
theorem ring2 {a b c : Int} (a0 : 0 ≤ a) (c1 : c < 166320) (hab : a ≤ b) (hbc : b ≤ c) (h : Ok3 a b c) : b - a ≤ 83160 ∧ c - b ≤ 83160 ∧ a + 166320 - c ≤ 83160 := by
  rcases h with h | h | h | ⟨h1, h2, h3⟩ | ⟨h1, _, h3⟩
  · omega
  · omega
  · omega
  · obtain ⟨u1, v1⟩ := Po.sm h1 (Int.sub_nonneg_of_le hbc)
    have u2 := Po.bg h2 (Int.sub_nonpos_of_le (Int.le_trans hab hbc))
    obtain ⟨u3, v3⟩ := Po.sm h3 (Int.sub_nonneg_of_le hab)
    exact ⟨Int.le_of_lt v3, Int.le_of_lt v1, by clear h1 h2 h3 u1 v1 u3 v3 a0 c1 hab hbc; omega⟩
  · have u1 := Ng.bg h1 (Int.sub_nonneg_of_le hbc)
    have u3 := Ng.bg h3 (Int.sub_nonneg_of_le hab)
    clear h1 h3 hab hbc; omega
theorem ring_ok {x y z a b c : Int} (x0 : 0 ≤ x) (x1 : x < 166320) (y0 : 0 ≤ y) (y1 : y < 166320) (z0 : 0 ≤ z) (z1 : z < 166320) (h : [a, b, c].Perm [x, y, z]) (hab : a ≤ b) (hbc : b ≤ c) :
    (b - a ≤ 83160 ∧ c - b ≤ 83160 ∧ a + 166320 - c ≤ 83160) ↔ Ok3 x y z := by
  have key : 0 ≤ a → c < 166320 → ((b - a ≤ 83160 ∧ c - b ≤ 83160 ∧ a + 166320 - c ≤ 83160) ↔ Ok3 a b c) := fun a0 c1 => ⟨fun h => ring1 a0 c1 hab hbc h.1 h.2.1 h.2.2, ring2 a0 c1 hab hbc⟩
  rcases perm3 h with h | h | h | h | h | h <;> obtain ⟨rfl, rfl, rfl⟩ := h
  · exact key x0 z1
  · exact (key x0 y1).trans ⟨Ok3.swap23, Ok3.swap23⟩
  · exact (key y0 z1).trans ⟨Ok3.swap12, Ok3.swap12⟩
  · exact (key y0 x1).trans ⟨fun h => h.swap23.swap12, fun h => h.swap12.swap23⟩
  · exact (key z0 y1).trans ⟨fun h => h.swap12.swap23, fun h => h.swap23.swap12⟩
  · exact (key z0 x1).trans ⟨fun h => h.swap12.swap23.swap12, fun h => h.swap12.swap23.swap12⟩
/-- forward from one mark to another -/
noncomputable def fwd (x y : Int) : Int := if x ≤ y then y - x else y - x + 166320
noncomputable def InW (S : Int → Prop) : Prop := ∀ x, S x → 0 ≤ x ∧ x < 166320
noncomputable def Whole (S : Int → Prop) : Prop := ∃ x y z, S x ∧ S y ∧ S z ∧ Ok3 x y z
theorem fwd_is (x y : Int) : fwd x y = y - x ∧ x ≤ y ∨ fwd x y = y - x + 166320 ∧ y < x := by
  unfold fwd; split
  · exact .inl ⟨rfl, by omega⟩
  · exact .inr ⟨rfl, by omega⟩
theorem fwd_bd {x y : Int} (hx : 0 ≤ x ∧ x < 166320) (hy : 0 ≤ y ∧ y < 166320) : 0 ≤ fwd x y ∧ fwd x y < 166320 := by
  rcases fwd_is x y with ⟨e, h⟩ | ⟨e, h⟩ <;> rw [e] <;> omega
theorem fwd_back {x y : Int} (h : x ≠ y) : fwd y x = 166320 - fwd x y := by
  rcases fwd_is x y with ⟨e, _⟩ | ⟨e, _⟩ <;> rcases fwd_is y x with ⟨e', _⟩ | ⟨e', _⟩ <;> rw [e, e'] <;> omega
theorem fwd_sub {p q s : Int} (hp : 0 ≤ p ∧ p < 166320) (hq : 0 ≤ q ∧ q < 166320) (hs : 0 ≤ s ∧ s < 166320) (h : fwd p q ≤ fwd p s) : fwd q s = fwd p s - fwd p q := by
  rcases fwd_is p q with ⟨e, _⟩ | ⟨e, _⟩ <;> rcases fwd_is p s with ⟨e', _⟩ | ⟨e', _⟩ <;> rcases fwd_is q s with ⟨e2, _⟩ | ⟨e2, _⟩ <;> rw [e, e'] at h <;> rw [e, e', e2] <;> omega
theorem fwd_opp {x y : Int} (h : fwd x y = 83160) : x - y = 83160 ∨ y - x = 83160 := by
  rcases fwd_is x y with ⟨e, _⟩ | ⟨e, _⟩ <;> rw [e] at h <;> omega
theorem fwd_po {x y : Int} (h0 : 0 < fwd x y) (h : fwd x y < 83160) : Po (y - x) := by
  rcases fwd_is x y with ⟨e, _⟩ | ⟨e, _⟩ <;> rw [e] at h h0
  · exact .inl ⟨by omega, by omega⟩
  · exact .inr (by omega)
theorem lift_far {p w x : Int} (hn : ¬(w + 83160 ≤ 2 * fwd p x ∧ 2 * fwd p x ≤ w + 249480)) (hp : 0 ≤ p ∧ p < 166320) (hx : 0 ≤ x ∧ x < 166320) (w0 : 0 ≤ w) (w1 : w < 83160) : ∃ e k : Int, e = x - p + 166320 * k ∧ w - 83160 < 2 * e ∧ 2 * e < w + 83160 := by
  obtain ⟨b0, b1⟩ := fwd_bd hp hx
  have hk : ∃ k : Int, fwd p x = x - p + 166320 * k := by
    rcases fwd_is p x with ⟨e, _⟩ | ⟨e, _⟩
    · exact ⟨0, by omega⟩
    · exact ⟨1, by omega⟩
  obtain ⟨k, hk⟩ := hk
  by_cases c : 2 * fwd p x < w + 83160
  · exact ⟨fwd p x, k, hk, by omega, c⟩
  · exact ⟨fwd p x - 166320, k - 1, by omega, by omega, by omega⟩
theorem near_no {x y e k : Int} (h : e = (y - x) + 166320 * k) (l : -83160 < e) (r : e < 83160) (c : x - y = 83160 ∨ y - x = 83160) : False := by omega
theorem lift_diff {x y p ex ey kx ky : Int} (hx : ex = x - p + 166320 * kx) (hy : ey = y - p + 166320 * ky) : ey - ex = (y - x) + 166320 * (ky - kx) := by omega
theorem lift_near {w ex ey : Int} (lx : w - 83160 < 2 * ex) (rx : 2 * ex < w + 83160) (ly : w - 83160 < 2 * ey) (ry : 2 * ey < w + 83160) : -83160 < ey - ex ∧ ey - ex < 83160 := by omega
theorem in_two {x y : Int} (hx : 0 ≤ x ∧ x < 166320) (hy : 0 ≤ y ∧ y < 166320) : -166320 < y - x ∧ y - x < 166320 := by omega
theorem up_round {x y z : Int} (h1 : 0 < z - y) (h2 : 0 < x - z) (h3 : 0 < y - x) : False := by omega
theorem dn_round {x y z : Int} (h1 : z - y < 0) (h2 : x - z < 0) (h3 : y - x < 0) : False := by omega
theorem near_po {d e k : Int} (h : e = d + 166320 * k) (l : -83160 < e) (r : e < 83160) (d0 : -166320 < d) (hd : Po d) : 0 < e := by
  rcases hd with hd | hd <;> omega
theorem near_ng {d e k : Int} (h : e = d + 166320 * k) (l : -83160 < e) (r : e < 83160) (d0 : d < 166320) (hd : Ng d) : e < 0 := by
  rcases hd with hd | hd <;> omega
theorem far_one {S : Int → Prop} (hS : InW S) (h : Whole S) {p w : Int} (p0 : 0 ≤ p) (p1 : p < 166320) (w0 : 0 ≤ w) (w1 : w < 83160) : ∃ s, S s ∧ w + 83160 ≤ 2 * fwd p s ∧ 2 * fwd p s ≤ w + 249480 := by
  obtain ⟨x, y, z, hx, hy, hz, ok⟩ := h
  have bx := hS x hx; have bY := hS y hy; have bz := hS z hz
  by_cases a1 : w + 83160 ≤ 2 * fwd p x ∧ 2 * fwd p x ≤ w + 249480
  · exact ⟨x, hx, a1⟩
  by_cases a2 : w + 83160 ≤ 2 * fwd p y ∧ 2 * fwd p y ≤ w + 249480
  · exact ⟨y, hy, a2⟩
  by_cases a3 : w + 83160 ≤ 2 * fwd p z ∧ 2 * fwd p z ≤ w + 249480
  · exact ⟨z, hz, a3⟩
  exfalso
  obtain ⟨ex, kx, hex, lx, rx⟩ := lift_far a1 ⟨p0, p1⟩ bx w0 w1
  obtain ⟨ey, ky, hey, ly, ry⟩ := lift_far a2 ⟨p0, p1⟩ bY w0 w1
  obtain ⟨ez, kz, hez, lz, rz⟩ := lift_far a3 ⟨p0, p1⟩ bz w0 w1
  clear a1 a2 a3 hx hy hz hS p0 p1 w0 w1
  have dxy := lift_diff hex hey
  have dyz := lift_diff hey hez
  have dzx := lift_diff hez hex
  obtain ⟨lxy, rxy⟩ := lift_near lx rx ly ry
  obtain ⟨lyz, ryz⟩ := lift_near ly ry lz rz
  obtain ⟨lzx, rzx⟩ := lift_near lz rz lx rx
  clear hex hey hez lx rx ly ry lz rz
  rcases ok with h | h | h | ⟨h1, h2, h3⟩ | ⟨h1, h2, h3⟩
  · exact near_no dxy lxy rxy h
  · exact near_no dyz lyz ryz h
  · exact near_no dzx lzx rzx h
  · exact up_round (near_po dyz lyz ryz (in_two bY bz).1 h1) (near_po dzx lzx rzx (in_two bz bx).1 h2) (near_po dxy lxy rxy (in_two bx bY).1 h3)
  · exact dn_round (near_ng dyz lyz ryz (in_two bY bz).2 h1) (near_ng dzx lzx rzx (in_two bz bx).2 h2) (near_ng dxy lxy rxy (in_two bx bY).2 h3)
theorem pick_here {p q s : Int} (bp : 0 ≤ p ∧ p < 166320) (bq : 0 ≤ q ∧ q < 166320) (bs : 0 ≤ s ∧ s < 166320) (h1 : fwd p q < 83160) (c1 : ¬fwd p s < 83160) (c2 : fwd p s ≤ 83160 + fwd p q) : Ok3 p q s := by
  have w0 := (fwd_bd bp bq).1
  have u := (fwd_bd bp bs).2
  by_cases e1 : fwd p s = 83160
  · exact .inr (.inr (.inl ((fwd_opp e1).symm)))
  have g := fwd_sub bp bq bs (by omega)
  by_cases e2 : fwd q s = 83160
  · exact .inr (.inl (fwd_opp e2))
  have hn : p ≠ s := fun e => by
    subst e; rcases fwd_is p p with ⟨e, _⟩ | ⟨e, _⟩ <;> omega
  have b := fwd_back hn
  exact .inr (.inr (.inr (.inl ⟨fwd_po (by omega) (by omega), fwd_po (by omega) (by omega), fwd_po (by omega) h1⟩)))
theorem swap_pick : ∀ (n : Nat) (A B C : Int → Prop), InW A → InW B → InW C → Whole A → Whole B → Whole C → ∀ p q, A p → B q → fwd p q < 83160 → 83160 - fwd p q ≤ n → ∃ a b c, A a ∧ B b ∧ C c ∧ Ok3 a b c := by
  intro n
  induction n with
  | zero => intro A B C _ _ _ _ _ _ p q _ _ h1 h2; omega
  | succ n ih =>
    intro A B C iA iB iC wA wB wC p q hp hq h1 h2
    have bp := iA p hp; have bq := iB q hq
    obtain ⟨s, hs, s1, s2⟩ := far_one iC wC bp.1 bp.2 (fwd_bd bp bq).1 h1
    have bs := iC s hs
    by_cases c1 : fwd p s < 83160
    · obtain ⟨a, b, c, ha, hb, hc, ok⟩ := ih A C B iA iC iB wA wC wB p s hp hs c1 (by omega)
      exact ⟨a, c, b, ha, hc, hb, ok.swap23⟩
    · by_cases c2 : fwd p s ≤ 83160 + fwd p q
      · exact ⟨p, q, s, hp, hq, hs, pick_here bp bq bs h1 c1 c2⟩
      · have e := fwd_sub bp bq bs (by omega)
        have hn : q ≠ s := fun e' => by subst e'; omega
        have b := fwd_back hn
        clear bp bq bs
        obtain ⟨a, b, c, ha, hb, hc, ok⟩ := ih C B A iC iB iA wC wB wA s q hs hq (by omega) (by omega)
        exact ⟨c, b, a, hc, hb, ha, (ok.swap12.swap23).swap12⟩
theorem rainbow {A B C : Int → Prop} (iA : InW A) (iB : InW B) (iC : InW C) (wA : Whole A) (wB : Whole B) (wC : Whole C) : ∃ a b c, A a ∧ B b ∧ C c ∧ Ok3 a b c := by
  obtain ⟨p, _, _, hp, _⟩ := id wA
  obtain ⟨q, _, _, hq, _⟩ := id wB
  obtain ⟨r, _, _, hr, _⟩ := id wC
  have bp := iA p hp; have bq := iB q hq
  have u := (fwd_bd bp bq).1
  have v := (fwd_bd bq bp).1
  by_cases h1 : fwd p q < 83160
  · exact swap_pick 83160 A B C iA iB iC wA wB wC p q hp hq h1 (by omega)
  by_cases h2 : fwd q p < 83160
  · obtain ⟨a, b, c, ha, hb, hc, ok⟩ := swap_pick 83160 B A C iB iA iC wB wA wC q p hq hp h2 (by omega)
    exact ⟨b, a, c, hb, ha, hc, ok.swap12⟩
  refine ⟨p, q, r, hp, hq, hr, .inl (fwd_opp ?_)⟩
  have hn : p ≠ q := fun e => by subst e; rcases fwd_is p p with ⟨e, _⟩ | ⟨e, _⟩ <;> omega
  have b := fwd_back hn
  omega
end Mine
end
section
open PySem PySem.W PySem.Spec PySem.Calls PyProof.Rows
set_option maxRecDepth 100000
namespace Mine
/-- the mark of a paint on the wheel, and its distance from grey -/
noncomputable def markOf (a b c : Int) : Int × Int :=
  let x := a - c
  let y := b - c
  if 0 ≤ y ∧ y ≤ x then (27720 * y / x, x)
  else if 0 ≤ x ∧ 0 ≤ y then (55440 - 27720 * x / y, y)
  else if 0 ≤ y then (55440 + 27720 * (-x) / (y - x), y - x)
  else if x ≤ y then (83160 + 27720 * (-y) / (-x), -x)
  else if x ≤ 0 then (138600 - 27720 * (-x) / (-y), -y)
  else (138600 + 27720 * x / (x - y), x - y)
noncomputable def close (v X : Int) : Bool := decide ((v * 166320 - X * 2 ^ 1074).natAbs ≤ 2 ^ 1041)
noncomputable def goodMark (a b c X d : Int) : Bool := decide (0 < d) && decide (0 ≤ X) && decide (X < 166320) && decide (27720 * (a - c) = d * Ux X) && decide (27720 * (b - c) = d * Uy X)
noncomputable def goodHue (h : UInt64) (X : Int) : Bool := Float64.isFinite h && close (Float64.val h) X && Float64.isFinite (Float64.add h 4607182418800017408) && close (Float64.val (Float64.add h 4607182418800017408)) (X + 166320)
noncomputable def goodBack (h s v : UInt64) (a b c : Int) : Bool :=
  let r := backF h s v
  !(Float64.cmp s 0 == some .eq) && Float64.isFinite (Float64.mul h 4618441417868443648) && decide ((sixI h).natAbs < 8) &&
  (Float64.isFinite (Float64.add (Float64.mul (Float64.ofInt 8192) r.1) 4602678819172646912) && Float64.isFinite (Float64.add (Float64.mul (Float64.ofInt 8192) r.2.1) 4602678819172646912) && Float64.isFinite (Float64.add (Float64.mul (Float64.ofInt 8192) r.2.2) 4602678819172646912)) &&
  (decide (toI r.1 = a) && decide (toI r.2.1 = b) && decide (toI r.2.2 = c))
noncomputable def good (a b c : Int) : Bool :=
  if a = b ∧ b = c then true else
  !greyF (fl a) (fl b) (fl c) && !Float64.isZero (fmx (fl a) (fl b) (fl c)) && !Float64.isZero (Float64.sub (fmx (fl a) (fl b) (fl c)) (fmn (fl a) (fl b) (fl c))) &&
  goodMark a b c (markOf a b c).1 (markOf a b c).2 && goodHue (tell a b c).h (markOf a b c).1 && goodBack (tell a b c).h (tell a b c).s (tell a b c).v a b c
/-- of the paints with a nought those that can come -/
noncomputable def Reach (a b c : Int) : Prop := (a ≤ 9 ∧ b ≤ 9 ∧ c ≤ 9) ∨ (a % 2 = 0 ∧ b % 2 = 0 ∧ c % 2 = 0)
noncomputable def gd (a b c : Int) : Bool := cond ((decide (a ≤ 9) && (decide (b ≤ 9) && decide (c ≤ 9))) || (decide (a % 2 = 0) && (decide (b % 2 = 0) && decide (c % 2 = 0)))) (good a b c) true
theorem gd_good {a b c : Int} (h : gd a b c = true) (r : Reach a b c) : good a b c = true := by
  unfold gd at h
  have e : ((decide (a ≤ 9) && (decide (b ≤ 9) && decide (c ≤ 9))) || (decide (a % 2 = 0) && (decide (b % 2 = 0) && decide (c % 2 = 0)))) = true := by
    simp only [Bool.or_eq_true, Bool.and_eq_true, decide_eq_true_iff]; exact r
  rw [e] at h; exact h
noncomputable def upTo (n : Nat) (p : Int → Bool) : Bool := (List.range n).all fun k => p k
theorem upTo_at {n : Nat} {p : Int → Bool} (h : upTo n p = true) {k : Int} (h0 : 0 ≤ k) (h1 : k < n) : p k = true := by
  have := List.all_eq_true.mp h k.toNat (by simp; omega)
  simpa [Int.toNat_of_nonneg h0] using this
theorem row_c0 : upTo 13 (fun k => gd 0 k 0) = true := by decide +kernel
theorem row_c1 : upTo 13 (fun k => gd 1 k 0) = true := by decide +kernel
theorem row_c2 : upTo 13 (fun k => gd 2 k 0) = true := by decide +kernel
theorem row_c3 : upTo 13 (fun k => gd 3 k 0) = true := by decide +kernel
theorem row_c4 : upTo 13 (fun k => gd 4 k 0) = true := by decide +kernel
theorem row_c5 : upTo 13 (fun k => gd 5 k 0) = true := by decide +kernel
theorem row_c6 : upTo 13 (fun k => gd 6 k 0) = true := by decide +kernel
theorem row_c7 : upTo 13 (fun k => gd 7 k 0) = true := by decide +kernel
theorem row_c8 : upTo 13 (fun k => gd 8 k 0) = true := by decide +kernel
theorem row_c9 : upTo 13 (fun k => gd 9 k 0) = true := by decide +kernel
theorem row_c10 : upTo 13 (fun k => gd 10 k 0) = true := by decide +kernel
theorem row_c11 : upTo 13 (fun k => gd 11 k 0) = true := by decide +kernel
theorem row_c12 : upTo 13 (fun k => gd 12 k 0) = true := by decide +kernel
theorem row_b0 : upTo 13 (fun k => gd 0 0 k) = true := by decide +kernel
theorem row_b1 : upTo 13 (fun k => gd 1 0 k) = true := by decide +kernel
theorem row_b2 : upTo 13 (fun k => gd 2 0 k) = true := by decide +kernel
theorem row_b3 : upTo 13 (fun k => gd 3 0 k) = true := by decide +kernel
theorem row_b4 : upTo 13 (fun k => gd 4 0 k) = true := by decide +kernel
theorem row_b5 : upTo 13 (fun k => gd 5 0 k) = true := by decide +kernel
theorem row_b6 : upTo 13 (fun k => gd 6 0 k) = true := by decide +kernel
theorem row_b7 : upTo 13 (fun k => gd 7 0 k) = true := by decide +kernel
theorem row_b8 : upTo 13 (fun k => gd 8 0 k) = true := by decide +kernel
theorem row_b9 : upTo 13 (fun k => gd 9 0 k) = true := by decide +kernel
theorem row_b10 : upTo 13 (fun k => gd 10 0 k) = true := by decide +kernel
theorem row_b11 : upTo 13 (fun k => gd 11 0 k) = true := by decide +kernel
theorem row_b12 : upTo 13 (fun k => gd 12 0 k) = true := by decide +kernel
theorem row_a0 : upTo 13 (fun k => gd 0 0 k) = true := by decide +kernel
theorem row_a1 : upTo 13 (fun k => gd 0 1 k) = true := by decide +kernel
theorem row_a2 : upTo 13 (fun k => gd 0 2 k) = true := by decide +kernel
theorem row_a3 : upTo 13 (fun k => gd 0 3 k) = true := by decide +kernel
theorem row_a4 : upTo 13 (fun k => gd 0 4 k) = true := by decide +kernel
theorem row_a5 : upTo 13 (fun k => gd 0 5 k) = true := by decide +kernel
theorem row_a6 : upTo 13 (fun k => gd 0 6 k) = true := by decide +kernel
theorem row_a7 : upTo 13 (fun k => gd 0 7 k) = true := by decide +kernel
theorem row_a8 : upTo 13 (fun k => gd 0 8 k) = true := by decide +kernel
theorem row_a9 : upTo 13 (fun k => gd 0 9 k) = true := by decide +kernel
theorem row_a10 : upTo 13 (fun k => gd 0 10 k) = true := by decide +kernel
theorem row_a11 : upTo 13 (fun k => gd 0 11 k) = true := by decide +kernel
theorem row_a12 : upTo 13 (fun k => gd 0 12 k) = true := by decide +kernel
theorem low_11 : upTo 4 (fun k => good 1 1 k) = true := by decide +kernel
theorem low_12 : upTo 4 (fun k => good 1 2 k) = true := by decide +kernel
theorem low_13 : upTo 4 (fun k => good 1 3 k) = true := by decide +kernel
theorem low_21 : upTo 4 (fun k => good 2 1 k) = true := by decide +kernel
theorem low_22 : upTo 4 (fun k => good 2 2 k) = true := by decide +kernel
theorem low_23 : upTo 4 (fun k => good 2 3 k) = true := by decide +kernel
theorem low_31 : upTo 4 (fun k => good 3 1 k) = true := by decide +kernel
theorem low_32 : upTo 4 (fun k => good 3 2 k) = true := by decide +kernel
theorem low_33 : upTo 4 (fun k => good 3 3 k) = true := by decide +kernel
theorem pick13 {P : Int → Prop} (h0 : P 0) (h1 : P 1) (h2 : P 2) (h3 : P 3) (h4 : P 4) (h5 : P 5) (h6 : P 6) (h7 : P 7) (h8 : P 8) (h9 : P 9) (h10 : P 10) (h11 : P 11) (h12 : P 12) {k : Int} (k0 : 0 ≤ k) (k1 : k ≤ 12) : P k := by
  have st : ∀ {m : Int}, k ≤ m + 1 → P (m + 1) → (k ≤ m → P k) → P k := fun {m} h p f => (Int.lt_or_eq_of_le h).elim (fun l => f (Int.lt_add_one_iff.mp l)) fun e => e ▸ p
  exact st (m := 11) k1 h12 fun k1 => st (m := 10) k1 h11 fun k1 => st (m := 9) k1 h10 fun k1 => st (m := 8) k1 h9 fun k1 => st (m := 7) k1 h8 fun k1 => st (m := 6) k1 h7 fun k1 => st (m := 5) k1 h6 fun k1 => st (m := 4) k1 h5 fun k1 => st (m := 3) k1 h4 fun k1 => st (m := 2) k1 h3 fun k1 => st (m := 1) k1 h2 fun k1 => st (m := 0) k1 h1 fun k1 => (Int.le_antisymm k1 k0) ▸ h0
theorem plane_c {i k : Int} (i0 : 0 ≤ i) (i1 : i ≤ 12) (k0 : 0 ≤ k) (k1 : k ≤ 12) (r : Reach i k 0) : good i k 0 = true :=
  gd_good (upTo_at (p := fun k => gd i k 0) (pick13 (P := fun i => upTo 13 (fun k => gd i k 0) = true) row_c0 row_c1 row_c2 row_c3 row_c4 row_c5 row_c6 row_c7 row_c8 row_c9 row_c10 row_c11 row_c12 i0 i1) k0 (by omega)) r
theorem plane_b {i k : Int} (i0 : 0 ≤ i) (i1 : i ≤ 12) (k0 : 0 ≤ k) (k1 : k ≤ 12) (r : Reach i 0 k) : good i 0 k = true :=
  gd_good (upTo_at (p := fun k => gd i 0 k) (pick13 (P := fun i => upTo 13 (fun k => gd i 0 k) = true) row_b0 row_b1 row_b2 row_b3 row_b4 row_b5 row_b6 row_b7 row_b8 row_b9 row_b10 row_b11 row_b12 i0 i1) k0 (by omega)) r
theorem plane_a {i k : Int} (i0 : 0 ≤ i) (i1 : i ≤ 12) (k0 : 0 ≤ k) (k1 : k ≤ 12) (r : Reach 0 i k) : good 0 i k = true :=
  gd_good (upTo_at (p := fun k => gd 0 i k) (pick13 (P := fun i => upTo 13 (fun k => gd 0 i k) = true) row_a0 row_a1 row_a2 row_a3 row_a4 row_a5 row_a6 row_a7 row_a8 row_a9 row_a10 row_a11 row_a12 i0 i1) k0 (by omega)) r
theorem plane_low {i j k : Int} (i0 : 1 ≤ i) (i1 : i ≤ 3) (j0 : 1 ≤ j) (j1 : j ≤ 3) (k0 : 0 ≤ k) (k1 : k ≤ 3) : good i j k = true := by
  refine upTo_at (n := 4) (p := fun k => good i j k) ?_ k0 (by omega)
  rcases (by omega : i = 1 ∨ i = 2 ∨ i = 3) with rfl | rfl | rfl <;> rcases (by omega : j = 1 ∨ j = 2 ∨ j = 3) with rfl | rfl | rfl
  · exact low_11
  · exact low_12
  · exact low_13
  · exact low_21
  · exact low_22
  · exact low_23
  · exact low_31
  · exact low_32
  · exact low_33
end Mine
end
section
open PySem PySem.W PySem.Spec PySem.Calls PyProof.Rows
set_option maxRecDepth 100000
namespace Mine
theorem fin_pack (neg : Bool) {t : Nat} (h : t < Float64.infMag) : Float64.isFinite (Float64.pack neg t) = true := by
  obtain ⟨m, e, hd, _⟩ := Float64.decode_pack neg h
  unfold Float64.isFinite; rw [hd]
theorem small_fin {W : Nat} (h : W ≤ 2 ^ 1100) : ¬ (1 * ((2 ^ 54 - 1) * 2 ^ 2045) ≤ 2 * W) := by
  intro q
  have h1 : (2 : Nat) ^ 1102 < 1 * ((2 ^ 54 - 1) * 2 ^ 2045) := by decide +kernel
  have h2 : 2 * W ≤ 2 * 2 ^ 1100 := Nat.mul_le_mul_left 2 h
  have h3 : (2 : Nat) * 2 ^ 1100 < 2 ^ 1102 := by decide +kernel
  exact absurd (Nat.lt_of_lt_of_le h1 (Nat.le_trans q h2)) (Nat.lt_asymm h3)
theorem right_near {r : UInt64} {neg : Bool} {W : Nat} (h : Float64.Right r neg W 1) (hW : W ≤ 2 ^ 1100) :
    ∃ t, r = Float64.pack neg t ∧ t < Float64.infMag ∧ ∀ k, (W ≤ Float64.V k → Float64.V t ≤ Float64.V k) ∧ (Float64.V k ≤ W → Float64.V k ≤ Float64.V t) := by
  obtain ⟨t, e, ht, hi, hn⟩ := h
  have hlt : t < Float64.infMag := by
    rcases Nat.lt_or_ge t Float64.infMag with q | q
    · exact q
    · exact absurd (hi.mp (by omega)) (small_fin hW)
  refine ⟨t, e, hlt, fun k => ?_⟩
  have := (hn hlt k).1
  rw [Nat.one_mul, Nat.one_mul] at this
  unfold Float64.dist at this
  omega
theorem fin_decode' {x : UInt64} (h : Float64.isFinite x = true) : ∃ a m e, Float64.decode x = .fin a m e := fin_decode h
theorem sub_near {x y : UInt64} (hx : Float64.isFinite x = true) (hy : Float64.isFinite y = true) (h0 : 0 ≤ Float64.val x - Float64.val y) (h1 : Float64.val x - Float64.val y ≤ ((2 ^ 1100 : Nat) : Int)) :
    Float64.isFinite (Float64.sub x y) = true ∧ ∀ k : Nat, (Float64.val x - Float64.val y ≤ ((Float64.V k : Nat) : Int) → Float64.val (Float64.sub x y) ≤ ((Float64.V k : Nat) : Int)) ∧ (((Float64.V k : Nat) : Int) ≤ Float64.val x - Float64.val y → ((Float64.V k : Nat) : Int) ≤ Float64.val (Float64.sub x y)) := by
  obtain ⟨a, m, e, dx⟩ := fin_decode hx
  obtain ⟨b, k, f, dy⟩ := fin_decode hy
  have R := Float64.sub_right dx dy
  by_cases z : Float64.val x - Float64.val y = 0
  · rw [R.1 z]
    have hz : (0 : Nat) < Float64.infMag := by decide
    unfold Float64.zero
    refine ⟨fin_pack _ hz, fun k => ?_⟩
    rw [Float64.val_pack _ hz, z]
    have hV : Float64.V 0 = 0 := by decide
    rw [hV]
    have : Float64.sgn (a && !b) 0 = 0 := by unfold Float64.sgn; split <;> simp
    rw [this]; simp
  · have R2 := R.2 z
    generalize hD : Float64.val x - Float64.val y = D at *
    rw [decide_eq_false (by omega)] at R2
    obtain ⟨t, er, ht, hn⟩ := right_near R2 (by omega)
    rw [er]
    refine ⟨fin_pack _ ht, fun k => ?_⟩
    rw [Float64.val_pack _ ht]
    have := hn k
    unfold Float64.sgn
    simp only [Bool.false_eq_true, if_false]
    omega
theorem gapT_val : Float64.isFinite gapT = true ∧ Float64.val gapT = ((Float64.V (1021 * 2 ^ 52 + 2 ^ 52 + 2 ^ 13) : Nat) : Int) := by decide +kernel
theorem V_hi : ((Float64.V (1021 * 2 ^ 52 + 2 ^ 52 + 2 ^ 13) : Nat) : Int) = 8796093022208 * (2 : Int) ^ 1030 + 16 * (2 : Int) ^ 1030 := by decide +kernel
theorem V_lo : ((Float64.V (1021 * 2 ^ 52 + 2 ^ 52 + 2 ^ 9) : Nat) : Int) = 8796093022208 * (2 : Int) ^ 1030 + (2 : Int) ^ 1030 := by decide +kernel
theorem K_pos : (0 : Int) < (2 : Int) ^ 1030 := by decide +kernel
theorem K_1074 : (2 : Int) ^ 1074 = 17592186044416 * (2 : Int) ^ 1030 := by decide +kernel
theorem K_1041 : (((2 : Nat) ^ 1041 : Nat) : Int) = 2048 * (2 : Int) ^ 1030 := by decide +kernel
theorem K_1100 : (((2 : Nat) ^ 1100 : Nat) : Int) = 1180591620717411303424 * (2 : Int) ^ 1030 := by decide +kernel
/-- a number that lies close to a mark -/
noncomputable def Near (K v X : Int) : Prop := -(2048 * K) ≤ v * 166320 - 17592186044416 * (X * K) ∧ v * 166320 - 17592186044416 * (X * K) ≤ 2048 * K
theorem near_of {v X : Int} (h : close v X = true) : Near ((2 : Int) ^ 1030) v X := by
  have h1 := of_decide_eq_true h
  have h2 : ((v * 166320 - X * 2 ^ 1074).natAbs : Int) ≤ (((2 : Nat) ^ 1041 : Nat) : Int) := Int.ofNat_le.mpr h1
  rw [K_1041, K_1074] at h2
  unfold Near
  generalize (2 : Int) ^ 1030 = K at *
  have : X * (17592186044416 * K) = 17592186044416 * (X * K) := by grind
  rw [this] at h2
  omega
theorem near_gap {K a b A B : Int} (hK : 0 < K) (ha : Near K a A) (hb : Near K b B) : (B - A ≤ 83160 → b - a ≤ 8796093022208 * K + K) ∧ (83161 ≤ B - A → 8796093022208 * K + 16 * K ≤ b - a) ∧ (a ≤ b → A ≤ B) ∧ (1 ≤ B - A → 0 ≤ b - a) ∧ (B - A ≤ 400000 → b - a ≤ 1180591620717411303424 * K) := by
  unfold Near at *
  refine ⟨fun h => ?_, fun h => ?_, fun h => ?_, fun h => ?_, fun h => ?_⟩
  · have := Int.mul_le_mul_of_nonneg_right h (Int.le_of_lt hK)
    rw [Int.sub_mul] at this
    omega
  · have := Int.mul_le_mul_of_nonneg_right h (Int.le_of_lt hK)
    rw [Int.sub_mul] at this
    omega
  · by_cases q : A ≤ B
    · exact q
    · have := Int.mul_le_mul_of_nonneg_right (show 1 ≤ A - B by omega) (Int.le_of_lt hK)
      rw [Int.sub_mul] at this
      omega
  · have := Int.mul_le_mul_of_nonneg_right h (Int.le_of_lt hK)
    rw [Int.sub_mul] at this
    omega
  · have := Int.mul_le_mul_of_nonneg_right h (Int.le_of_lt hK)
    rw [Int.sub_mul] at this
    omega
/-- a gap between two marks, and what the floats tell of it -/
theorem gap_one {x y : UInt64} {A B : Int} (hx : Float64.isFinite x = true) (hy : Float64.isFinite y = true) (nx : Near ((2 : Int) ^ 1030) (Float64.val x) A) (ny : Near ((2 : Int) ^ 1030) (Float64.val y) B) (h0 : 0 ≤ Float64.val x - Float64.val y) (h9 : A - B ≤ 400000) :
    Float64.isFinite (Float64.sub x y) = true ∧ (Float64.val (Float64.sub x y) < Float64.val gapT ↔ A - B ≤ 83160) := by
  have g := near_gap K_pos ny nx
  have h1 : Float64.val x - Float64.val y ≤ ((2 ^ 1100 : Nat) : Int) := by rw [K_1100]; exact g.2.2.2.2 h9
  have s := sub_near hx hy h0 h1
  refine ⟨s.1, ?_⟩
  have lo := (s.2 (1021 * 2 ^ 52 + 2 ^ 52 + 2 ^ 9)).1
  have hi := (s.2 (1021 * 2 ^ 52 + 2 ^ 52 + 2 ^ 13)).2
  rw [V_lo] at lo
  rw [V_hi] at hi
  rw [gapT_val.2, V_hi]
  have kp := K_pos
  generalize (2 : Int) ^ 1030 = K at *
  constructor
  · intro q
    by_cases c : A - B ≤ 83160
    · exact c
    · have := hi (g.2.1 (by omega)); omega
  · intro q
    have := lo (g.1 q); omega
theorem fmax_val {x y : UInt64} (hx : Float64.isFinite x = true) (hy : Float64.isFinite y = true) : Float64.isFinite (fmax x y) = true ∧ ∀ c, (Float64.val (fmax x y) < c ↔ Float64.val x < c ∧ Float64.val y < c) := by
  unfold fmax
  rw [lt_val hx hy]
  by_cases h : Float64.val x < Float64.val y
  · rw [if_pos (by simpa using h)]; exact ⟨hy, fun c => by omega⟩
  · rw [if_neg (by simpa using h)]; exact ⟨hx, fun c => by omega⟩
/-- what is known of a hue -/
structure Hue (x : UInt64) (A : Int) : Prop where
  f : Float64.isFinite x = true
  n : Near ((2 : Int) ^ 1030) (Float64.val x) A
  f1 : Float64.isFinite (Float64.add x 4607182418800017408) = true
  n1 : Near ((2 : Int) ^ 1030) (Float64.val (Float64.add x 4607182418800017408)) (A + 166320)
  a0 : 0 ≤ A
  a1 : A < 166320
theorem seen_core {x y z : UInt64} {A B C : Int} (hx : Hue x A) (hy : Hue y B) (hz : Hue z C) (h1 : Float64.val x ≤ Float64.val y) (h2 : Float64.val y ≤ Float64.val z) :
    A ≤ B ∧ B ≤ C ∧ ((Float64.cmp (gapMax x y z) gapT == some .lt) = true ↔ B - A ≤ 83160 ∧ C - B ≤ 83160 ∧ A + 166320 - C ≤ 83160) := by
  have o1 := (near_gap K_pos hx.n hy.n).2.2.1 h1
  have o2 := (near_gap K_pos hy.n hz.n).2.2.1 h2
  have := hx.a0; have := hx.a1; have := hz.a0; have := hz.a1
  have g1 := gap_one hy.f hx.f hy.n hx.n (by omega) (by omega)
  have g2 := gap_one hz.f hy.f hz.n hy.n (by omega) (by omega)
  have g3 := gap_one hx.f1 hz.f hx.n1 hz.n ((near_gap K_pos hz.n hx.n1).2.2.2.1 (by omega)) (by omega)
  refine ⟨o1, o2, ?_⟩
  have m1 := fmax_val g1.1 g2.1
  have m2 := fmax_val m1.1 g3.1
  unfold gapMax
  rw [lt_val m2.1 gapT_val.1, decide_eq_true_iff, m2.2, m1.2, g1.2, g2.2, g3.2, and_assoc]
end Mine
end
section
open PySem PySem.W PySem.Spec PySem.Calls PyProof.Rows
set_option maxRecDepth 100000
namespace Mine
/-- the paints that can come: 0..12, and one of them 0 or all of them at most 3 -/
structure P3.Fit (p : P3) : Prop where
  ok : p.Ok
  low : (p.a ≤ 3 ∧ p.b ≤ 3 ∧ p.c ≤ 3) ∨ (p.a = 0 ∨ p.b = 0 ∨ p.c = 0) ∧ Reach p.a p.b p.c
noncomputable def tellP (p : P3) : Name := tell p.a p.b p.c
theorem fit_one (n : Int) : (potOne n).Fit := by
  have h0 := dig_bound n 0; have h1 := dig_bound n 1; have h2 := dig_bound n 2
  exact ⟨⟨h0.1, h1.1, h2.1, by show dig n 0 ≤ 12; omega, by show dig n 1 ≤ 12; omega, by show dig n 2 ≤ 12; omega⟩, .inl ⟨h0.2, h1.2, h2.2⟩⟩
theorem fit_two (n : Int) : (potTwo n).Fit := by
  have h0 := dig_bound n 3; have h1 := dig_bound n 4; have h2 := dig_bound n 5
  exact ⟨⟨h0.1, h1.1, h2.1, by show dig n 3 ≤ 12; omega, by show dig n 4 ≤ 12; omega, by show dig n 5 ≤ 12; omega⟩, .inl ⟨h0.2, h1.2, h2.2⟩⟩
theorem mx3_one (a b c : Int) : mx3 a b c = a ∨ mx3 a b c = b ∨ mx3 a b c = c := by
  unfold mx3; repeat' split
  all_goals simp
theorem b_le9 {p q x y : Int} (hp : p = 1 ∨ p = 2) (hq : q = 1 ∨ q = 2) (h : p = 1 ∨ q = 1) (hx : 0 ≤ x ∧ x ≤ 3) (hy : 0 ≤ y ∧ y ≤ 3) : p * x + q * y ≤ 9 := by
  rcases hp with rfl | rfl <;> rcases hq with rfl | rfl <;> omega
theorem b_even {x y : Int} : (2 * x + 2 * y) % 2 = 0 := by omega
theorem sub12 {M b : Int} (h : 0 ≤ b) (h' : M ≤ 12) : M - b ≤ 12 := by omega
theorem sub9 {M b : Int} (h : 0 ≤ b) (h' : M ≤ 9) : M - b ≤ 9 := by omega
theorem sub_even {M b : Int} (h : b % 2 = 0) (h' : M % 2 = 0) : (M - b) % 2 = 0 := by omega
theorem one_two {x : Int} (h : 1 ≤ x ∧ x ≤ 2) : x = 1 ∨ x = 2 := by omega
theorem fit_sub {M a b c : Int} (ha : 0 ≤ a) (hb : 0 ≤ b) (hc : 0 ≤ c) (hm : a ≤ M ∧ b ≤ M ∧ c ≤ M ∧ M ≤ 12) (ho : M = a ∨ M = b ∨ M = c) (hr : Reach (M - a) (M - b) (M - c)) : P3.Fit ⟨M - a, M - b, M - c⟩ :=
  ⟨⟨Int.sub_nonneg_of_le hm.1, Int.sub_nonneg_of_le hm.2.1, Int.sub_nonneg_of_le hm.2.2.1, sub12 ha hm.2.2.2, sub12 hb hm.2.2.2, sub12 hc hm.2.2.2⟩,
    .inr ⟨ho.imp (fun e => by subst e; exact Int.sub_self _) (Or.imp (fun e => by subst e; exact Int.sub_self _) fun e => by subst e; exact Int.sub_self _), hr⟩⟩
theorem fit_mix (n : Int) : (potMix n).Fit := by
  have b0 : 0 ≤ potB n 0 ∧ potB n 0 ≤ 12 := both_bound (dig_bound n 0) (dig_bound n 3)
  have b1 : 0 ≤ potB n 1 ∧ potB n 1 ≤ 12 := both_bound (dig_bound n 1) (dig_bound n 4)
  have b2 : 0 ≤ potB n 2 ∧ potB n 2 ≤ 12 := both_bound (dig_bound n 2) (dig_bound n 5)
  have hm := mx3_ge _ _ _ b0 b1 b2
  have ho := mx3_one (potB n 0) (potB n 1) (potB n 2)
  refine fit_sub b0.1 b1.1 b2.1 hm ho ?_
  have all : ∀ {P : Int → Prop}, P (potB n 0) → P (potB n 1) → P (potB n 2) → P (mx3 (potB n 0) (potB n 1) (potB n 2)) := fun h0 h1 h2 => by
    rcases ho with e | e | e <;> rw [e] <;> assumption
  rcases one_two (oft_bound n 4096) with e1 | e1
  · have l9 : ∀ i, potB n i ≤ 9 := fun i => b_le9 (.inl e1) (one_two (oft_bound n 8192)) (.inl e1) (dig_bound n i) (dig_bound n (i + 3))
    have m9 := all (P := (· ≤ 9)) (l9 0) (l9 1) (l9 2)
    exact .inl ⟨sub9 b0.1 m9, sub9 b1.1 m9, sub9 b2.1 m9⟩
  rcases one_two (oft_bound n 8192) with e2 | e2
  · have l9 : ∀ i, potB n i ≤ 9 := fun i => b_le9 (.inr e1) (.inl e2) (.inr e2) (dig_bound n i) (dig_bound n (i + 3))
    have m9 := all (P := (· ≤ 9)) (l9 0) (l9 1) (l9 2)
    exact .inl ⟨sub9 b0.1 m9, sub9 b1.1 m9, sub9 b2.1 m9⟩
  · have ev : ∀ i, potB n i % 2 = 0 := fun i => by unfold potB; rw [e1, e2]; exact b_even
    have me := all (P := (· % 2 = 0)) (ev 0) (ev 1) (ev 2)
    exact .inr ⟨sub_even (ev 0) me, sub_even (ev 1) me, sub_even (ev 2) me⟩
theorem fit_good {p : P3} (h : p.Fit) : good p.a p.b p.c = true := by
  obtain ⟨⟨a0, b0, c0, a1, b1, c1⟩, hl⟩ := h
  have hr : p.a ≤ 9 ∧ p.b ≤ 9 ∧ p.c ≤ 9 ∨ p.a % 2 = 0 ∧ p.b % 2 = 0 ∧ p.c % 2 = 0 := by
    rcases hl with q | q
    · exact .inl ⟨by omega, by omega, by omega⟩
    · exact q.2
  have hl : (p.a ≤ 3 ∧ p.b ≤ 3 ∧ p.c ≤ 3) ∨ p.a = 0 ∨ p.b = 0 ∨ p.c = 0 := hl.imp id And.left
  by_cases ha : p.a = 0
  · rw [ha] at hr ⊢; exact plane_a b0 b1 c0 c1 hr
  by_cases hb : p.b = 0
  · rw [hb] at hr ⊢; exact plane_b a0 a1 c0 c1 hr
  by_cases hc : p.c = 0
  · rw [hc] at hr ⊢; exact plane_c a0 a1 b0 b1 hr
  exact plane_low (by omega) (by omega) (by omega) (by omega) c0 (by omega)
theorem good_facts {a b c : Int} (h : good a b c = true) (hn : ¬ (a = b ∧ b = c)) :
    greyF (fl a) (fl b) (fl c) = false ∧ Float64.isZero (fmx (fl a) (fl b) (fl c)) = false ∧ Float64.isZero (Float64.sub (fmx (fl a) (fl b) (fl c)) (fmn (fl a) (fl b) (fl c))) = false ∧
    goodMark a b c (markOf a b c).1 (markOf a b c).2 = true ∧ goodHue (tell a b c).h (markOf a b c).1 = true ∧ goodBack (tell a b c).h (tell a b c).s (tell a b c).v a b c = true := by
  unfold good at h
  rw [if_neg hn] at h
  simp only [Bool.and_eq_true, Bool.not_eq_true'] at h
  obtain ⟨⟨⟨⟨⟨h1, h2⟩, h3⟩, h4⟩, h5⟩, h6⟩ := h
  exact ⟨h1, h2, h3, h4, h5, h6⟩
noncomputable def P3.Gr (p : P3) : Prop := p.a = p.b ∧ p.b = p.c
theorem grey_iff (p : P3) : p.grey = true ↔ p.Gr := by unfold P3.grey P3.Gr; simp
theorem fl_fin {a : Int} (h0 : 0 ≤ a) (h1 : a ≤ 20000) : Float64.isFinite (fl a) = true := by
  have h := fl_notInf h0 h1
  unfold fl Float64.ofFrac at *
  have hm : Float64.roundMag a.natAbs (Int.natAbs 8192) ≤ Float64.infMag := by rw [Float64.roundMag_min]; omega
  rcases Nat.lt_or_ge (Float64.roundMag a.natAbs (Int.natAbs 8192)) Float64.infMag with q | q
  · exact fin_pack _ q
  · exfalso
    have e : Float64.roundMag a.natAbs (Int.natAbs 8192) = Float64.infMag := by omega
    rw [e] at h
    apply h
    generalize (decide (a < 0) != decide ((8192 : Int) < 0)) = s
    cases s <;> decide +kernel
theorem fmax_self (x : UInt64) : fmax x x = x := by unfold fmax; split <;> rfl
theorem fmin_self (x : UInt64) : fmin x x = x := by unfold fmin; split <;> rfl
theorem grey_tell {a : Int} (h0 : 0 ≤ a) (h1 : a ≤ 20000) : tell a a a = ⟨0, 0, fl a⟩ ∧ Parted (fl a) (fl a) (fl a) := by
  have e1 : fmx (fl a) (fl a) (fl a) = fl a := by unfold fmx; rw [fmax_self, fmax_self]
  have e2 : fmn (fl a) (fl a) (fl a) = fl a := by unfold fmn; rw [fmin_self, fmin_self]
  have g : greyF (fl a) (fl a) (fl a) = true := by
    unfold greyF
    rw [e1, e2, cmp_val (fl_fin h0 h1) (fl_fin h0 h1)]
    simp
  refine ⟨?_, fun h => by rw [g] at h; cases h⟩
  unfold tell tellF
  rw [if_pos g, e1]
theorem fit_gr {p : P3} (h : p.Fit) (g : p.Gr) : tellP p = ⟨0, 0, fl p.a⟩ ∧ Parted (fl p.a) (fl p.b) (fl p.c) ∧ 0 ≤ p.a ∧ p.a ≤ 3 := by
  have q := grey_tell h.ok.a0 (show p.a ≤ 20000 by have := h.ok.a1; omega)
  unfold tellP
  rw [← g.2, ← g.1]
  have hl : (p.a ≤ 3 ∧ p.b ≤ 3 ∧ p.c ≤ 3) ∨ p.a = 0 ∨ p.b = 0 ∨ p.c = 0 := h.low.imp id And.left
  have e1 := g.1; have e2 := g.2; have := h.ok.a0
  exact ⟨q.1, q.2, this, by omega⟩
theorem fit_parted {p : P3} (h : p.Fit) : Parted (fl p.a) (fl p.b) (fl p.c) := by
  by_cases g : p.Gr
  · exact (fit_gr h g).2.1
  · have f := good_facts (fit_good h) g
    exact fun _ => ⟨f.2.1, f.2.2.1⟩
theorem back_facts {h s v : UInt64} {a b c : Int} (q : goodBack h s v a b c = true) :
    (Float64.cmp s 0 == some .eq) = false ∧ Float64.isFinite (Float64.mul h 4618441417868443648) = true ∧ (sixI h).natAbs < 8 ∧
    (∀ f ∈ fl3 (backF h s v), Float64.isFinite (Float64.add (Float64.mul (Float64.ofInt 8192) f) 4602678819172646912) = true) ∧ toI (backF h s v).1 = a ∧ toI (backF h s v).2.1 = b ∧ toI (backF h s v).2.2 = c := by
  unfold goodBack at q
  simp only [Bool.and_eq_true, Bool.not_eq_true', decide_eq_true_iff] at q
  obtain ⟨⟨⟨⟨h1, h2⟩, h3⟩, ⟨h4, h5⟩, h6⟩, ⟨h7, h8⟩, h9⟩ := q
  refine ⟨h1, h2, h3, fun f hf => ?_, h7, h8, h9⟩
  unfold fl3 at hf
  simp only [List.mem_cons, List.not_mem_nil, or_false] at hf
  rcases hf with rfl | rfl | rfl <;> assumption
theorem cmp00 : (Float64.cmp 0 0 == some .eq) = true := by decide +kernel
theorem fit_hsv {p : P3} (h : p.Fit) : HsvOk (tellP p).h (tellP p).s := by
  by_cases g : p.Gr
  · rw [(fit_gr h g).1]
    intro q
    rw [cmp00] at q; cases q
  · have f := back_facts (good_facts (fit_good h) g).2.2.2.2.2
    exact fun _ => ⟨f.2.1, Nat.lt_of_lt_of_le f.2.2.1 (by decide +kernel)⟩
theorem back_grey (v : UInt64) : backF 0 0 v = (v, v, v) := by unfold backF; rw [if_pos cmp00]
theorem grey_small {a : Int} (h0 : 0 ≤ a) (h1 : a ≤ 3) : Float64.isFinite (Float64.add (Float64.mul (Float64.ofInt 8192) (fl a)) 4602678819172646912) = true ∧ toI (fl a) = a := by
  rcases (by omega : a = 0 ∨ a = 1 ∨ a = 2 ∨ a = 3) with rfl | rfl | rfl | rfl <;> decide +kernel
theorem fit_hfin {p : P3} (h : p.Fit) : ∀ f ∈ fl3 (backF (tellP p).h (tellP p).s (tellP p).v), Float64.isFinite (Float64.add (Float64.mul (Float64.ofInt 8192) f) 4602678819172646912) = true := by
  by_cases g : p.Gr
  · have q := fit_gr h g
    rw [q.1]
    intro f hf
    dsimp only at hf
    rw [back_grey] at hf
    unfold fl3 at hf
    simp only [List.mem_cons, List.not_mem_nil, or_false, or_self] at hf
    subst hf
    exact (grey_small q.2.2.1 q.2.2.2).1
  · exact (back_facts (good_facts (fit_good h) g).2.2.2.2.2).2.2.2.1
theorem fit_back {p : P3} (h : p.Fit) : toI (backF (tellP p).h (tellP p).s (tellP p).v).1 = p.a ∧ toI (backF (tellP p).h (tellP p).s (tellP p).v).2.1 = p.b ∧ toI (backF (tellP p).h (tellP p).s (tellP p).v).2.2 = p.c := by
  by_cases g : p.Gr
  · have q := fit_gr h g
    rw [q.1]
    dsimp only
    rw [back_grey]
    have e := (grey_small q.2.2.1 q.2.2.2).2
    exact ⟨e, e.trans g.1, e.trans (g.1.trans g.2)⟩
  · exact (back_facts (good_facts (fit_good h) g).2.2.2.2.2).2.2.2.2
theorem hue_facts {h : UInt64} {X : Int} (q : goodHue h X = true) (h0 : 0 ≤ X) (h1 : X < 166320) : Hue h X := by
  unfold goodHue at q
  simp only [Bool.and_eq_true] at q
  obtain ⟨⟨⟨q1, q2⟩, q3⟩, q4⟩ := q
  exact ⟨q1, near_of q2, q3, near_of q4, h0, h1⟩
noncomputable def markP (p : P3) : Int := (markOf p.a p.b p.c).1
theorem fit_at {p : P3} (h : p.Fit) (g : ¬ p.Gr) : At p (markP p) (markOf p.a p.b p.c).2 := by
  have f := (good_facts (fit_good h) g).2.2.2.1
  unfold goodMark at f
  simp only [Bool.and_eq_true, decide_eq_true_iff] at f
  obtain ⟨⟨⟨⟨f1, f2⟩, f3⟩, f4⟩, f5⟩ := f
  exact ⟨f1, f2, f3, f4, f5⟩
theorem fit_hue {p : P3} (h : p.Fit) (g : ¬ p.Gr) : Hue (tellP p).h (markP p) :=
  hue_facts (good_facts (fit_good h) g).2.2.2.2.1 (fit_at h g).x0 (fit_at h g).x1
theorem fit_fin {p : P3} (h : p.Fit) : Float64.isFinite (tellP p).h = true := by
  by_cases g : p.Gr
  · rw [(fit_gr h g).1]
    show Float64.isFinite 0 = true
    decide +kernel
  · exact (fit_hue h g).f
theorem fit_zero {p : P3} (h : p.Fit) : zeroS (tellP p) = p.grey := by
  by_cases g : p.Gr
  · rw [(grey_iff p).mpr g]
    unfold zeroS
    rw [(fit_gr h g).1]; exact cmp00
  · have e : p.grey = false := by
      cases q : p.grey with
      | false => rfl
      | true => exact absurd ((grey_iff p).mp q) g
    rw [e]
    exact (back_facts (good_facts (fit_good h) g).2.2.2.2.2).1
theorem greys_any (p1 p2 p3 : P3) : (0 < greysOf [p1, p2, p3] ↔ (p1.grey || p2.grey || p3.grey) = true) ∧ (greysOf [p1, p2, p3] = 0 ↔ (p1.grey || p2.grey || p3.grey) = false) := by
  unfold greysOf
  cases h1 : p1.grey <;> cases h2 : p2.grey <;> cases h3 : p3.grey <;> simp [List.filter, h1, h2, h3]
theorem not_grey {p1 p2 p3 : P3} (h : (p1.grey || p2.grey || p3.grey) = false) : ¬ p1.Gr ∧ ¬ p2.Gr ∧ ¬ p3.Gr := by
  simp only [Bool.or_eq_false_iff] at h
  rw [← grey_iff, ← grey_iff, ← grey_iff]
  simp [h]
theorem perm_marks {x y z h1 h2 h3 : UInt64} {A B C : Int} (hA : Hue h1 A) (hB : Hue h2 B) (hC : Hue h3 C) (h : [x, y, z].Perm [h1, h2, h3]) : ∃ a b c, Hue x a ∧ Hue y b ∧ Hue z c ∧ [a, b, c].Perm [A, B, C] := by
  rcases perm3 h with ⟨rfl, rfl, rfl⟩ | ⟨rfl, rfl, rfl⟩ | ⟨rfl, rfl, rfl⟩ | ⟨rfl, rfl, rfl⟩ | ⟨rfl, rfl, rfl⟩ | ⟨rfl, rfl, rfl⟩
  · exact ⟨A, B, C, hA, hB, hC, .refl _⟩
  · exact ⟨A, C, B, hA, hC, hB, .cons _ (.swap _ _ _)⟩
  · exact ⟨B, A, C, hB, hA, hC, .swap _ _ _⟩
  · exact ⟨B, C, A, hB, hC, hA, List.perm_append_comm (l₁ := [B, C]) (l₂ := [A])⟩
  · exact ⟨C, A, B, hC, hA, hB, List.perm_append_comm (l₁ := [C]) (l₂ := [A, B])⟩
  · exact ⟨C, B, A, hC, hB, hA, (List.Perm.swap _ _ _).trans ((List.perm_append_comm (l₁ := [B]) (l₂ := [C, A])).trans ((List.Perm.swap _ _ _).trans (.cons _ (.swap _ _ _))))⟩
theorem fit_seen {p1 p2 p3 : P3} (h1 : p1.Fit) (h2 : p2.Fit) (h3 : p3.Fit) {b : Bool} (h : SeenOut (tellP p1) (tellP p2) (tellP p3) b) : b = due p1 p2 p3 := by
  have za : anyZ (tellP p1) (tellP p2) (tellP p3) = (p1.grey || p2.grey || p3.grey) := by unfold anyZ; rw [fit_zero h1, fit_zero h2, fit_zero h3]
  unfold SeenOut at h
  rw [za] at h
  rcases h with ⟨hz, rfl⟩ | ⟨hz, x, y, z, hp, hs, hb⟩
  · have := (greys_any p1 p2 p3).1.mpr hz
    unfold due
    rw [decide_eq_true this]; rfl
  · obtain ⟨g1, g2, g3⟩ := not_grey hz
    obtain ⟨A, B, C, hA, hB, hC, hP⟩ := perm_marks (fit_hue h1 g1) (fit_hue h2 g2) (fit_hue h3 g3) hp
    rw [List.pairwise_cons, List.pairwise_cons] at hs
    have v1 := hs.1 y (by simp)
    have v2 := hs.2.1 z (by simp)
    obtain ⟨o1, o2, o3⟩ := seen_core hA hB hC v1 v2
    have a1 := fit_at h1 g1
    have a2 := fit_at h2 g2
    have a3 := fit_at h3 g3
    have r := ring_ok a1.x0 a1.x1 a2.x0 a2.x1 a3.x0 a3.x1 hP o1 o2
    have dd := a1.due a2 a3
    have g0 : ¬ 0 < greysOf [p1, p2, p3] := by
      have := (greys_any p1 p2 p3).2.mpr hz
      omega
    rw [hb]
    apply Bool.eq_iff_iff.mpr
    rw [o3, r, dd]
    simp [g0]
theorem due_pot (n : Int) : due (potOne n) (potTwo n) (potMix n) = true := by
  have o1 := oft_bound n 4096
  have o2 := oft_bound n 8192
  have ea : (potMix n).a - (potMix n).c = -(oft n 4096 * ((potOne n).a - (potOne n).c) + oft n 8192 * ((potTwo n).a - (potTwo n).c)) := by
    unfold potMix potOne potTwo potB; dsimp only; grind
  have eb : (potMix n).b - (potMix n).c = -(oft n 4096 * ((potOne n).b - (potOne n).c) + oft n 8192 * ((potTwo n).b - (potTwo n).c)) := by
    unfold potMix potOne potTwo potB; dsimp only; grind
  generalize potMix n = r at *
  generalize potOne n = p at *
  generalize potTwo n = q at *
  generalize oft n 4096 = s at *
  generalize oft n 8192 = t at *
  have a1 : area q r = s * area p q := by
    unfold area; rw [ea, eb]; grind
  have a2 : area r p = t * area p q := by
    unfold area; rw [ea, eb]; grind
  have a3 : along r p = -(s * ((p.a - p.c) * (p.a - p.c) + (p.b - p.c) * (p.b - p.c)) + t * along p q) := by
    unfold along; rw [ea, eb]; grind
  unfold due
  by_cases g : 0 < greysOf [p, q, r]
  · rw [decide_eq_true g]; rfl
  have g0 : (p.grey || q.grey || r.grey) = false := by
    have := (greys_any p q r).1
    cases z : (p.grey || q.grey || r.grey) with
    | false => rfl
    | true => exact absurd (this.mpr z) g
  have gp := (not_grey g0).1
  have p1 := pos_of_mul (k := s) (a := area p q) (by omega)
  have p2 := pos_of_mul (k := t) (a := area p q) (by omega)
  rw [← a1] at p1
  rw [← a2] at p2
  simp only [Bool.or_eq_true, decide_eq_true_iff, across, Bool.and_eq_true]
  rcases Int.lt_trichotomy (area p q) 0 with z | z | z
  · exact .inr (.inr ⟨p1.2.mpr z, p2.2.mpr z, z⟩)
  · by_cases w : along p q < 0
    · exact .inl (.inr (.inl (.inl ⟨z, w⟩)))
    · refine .inl (.inr (.inr ⟨?_, ?_⟩))
      · rw [a2, z, Int.mul_zero]
      · rw [a3]
        have sx := sq_nonneg (p.a - p.c)
        have sy := sq_nonneg (p.b - p.c)
        have hs : 0 < (p.a - p.c) * (p.a - p.c) + (p.b - p.c) * (p.b - p.c) := by
          by_cases e1 : p.a - p.c = 0
          · have e2 : p.b - p.c ≠ 0 := fun e2 => gp ⟨by omega, by omega⟩
            have := sq_pos e2; omega
          · have := sq_pos e1; omega
        have m1 := Int.mul_pos (show 0 < s by omega) hs
        have m2 := Int.mul_nonneg (show 0 ≤ t by omega) (show 0 ≤ along p q by omega)
        omega
  · exact .inr (.inl ⟨p1.1.mpr z, p2.1.mpr z, z⟩)
theorem mul_small {x y : Int} (h0 : 0 ≤ x) (h1 : x ≤ 288) (h2 : 0 ≤ y) (h3 : y ≤ 12) : 0 ≤ x * y ∧ x * y ≤ 3456 :=
  ⟨Int.mul_nonneg h0 h2, Int.le_trans (Int.mul_le_mul h1 h3 h2 (by decide)) (by decide)⟩
theorem Po.not {d : Int} (h : d = 83160 ∨ d = -83160) : ¬Po d ∧ ¬Ng d := by unfold Po Ng; omega
theorem pair_no {d e : Int} (h : d + e = 83160 ∨ d + e = -83160) (d0 : -166320 < d) (d1 : d < 166320) (e0 : -166320 < e) (e1 : e < 166320) (hd : Po d) (he : Ng e) : False := by
  rcases hd with q | q <;> rcases he with r | r <;> omega
theorem sg_pair {d e A B : Int} (h : d + e = 83160 ∨ d + e = -83160) (d0 : -166320 < d ∧ d < 166320) (e0 : -166320 < e ∧ e < 166320) (sA : (0 < A ↔ Po d) ∧ (A < 0 ↔ Ng d)) (sB : (0 < B ↔ Po e) ∧ (B < 0 ↔ Ng e)) : (0 ≤ A ∧ 0 ≤ B) ∨ (A ≤ 0 ∧ B ≤ 0) := by
  rcases Int.lt_or_le 0 A with a | a
  · exact .inl ⟨Int.le_of_lt a, Int.not_lt.mp fun b => pair_no h d0.1 d0.2 e0.1 e0.2 (sA.1.mp a) (sB.2.mp b)⟩
  rcases Int.lt_or_le 0 B with b | b
  · exact .inl ⟨Int.not_lt.mp fun c => pair_no (by rw [Int.add_comm]; exact h) e0.1 e0.2 d0.1 d0.2 (sB.1.mp b) (sA.2.mp c), Int.le_of_lt b⟩
  exact .inr ⟨a, b⟩
theorem sg_zero {d A : Int} (h : d = 83160 ∨ d = -83160) (sA : (0 < A ↔ Po d) ∧ (A < 0 ↔ Ng d)) : 0 ≤ A ∧ A ≤ 0 :=
  ⟨Int.not_lt.mp fun a => (Po.not h).2 (sA.2.mp a), Int.not_lt.mp fun a => (Po.not h).1 (sA.1.mp a)⟩
theorem two_in {x y : Int} (hx : 0 ≤ x ∧ x < 166320) (hy : 0 ≤ y ∧ y < 166320) : -166320 < x - y ∧ x - y < 166320 := by omega
theorem opp_sub {x y : Int} (h : x - y = 83160 ∨ y - x = 83160) : y - x = 83160 ∨ y - x = -83160 := by omega
theorem opp_sum {x y z : Int} (h : x - y = 83160 ∨ y - x = 83160) : (z - y) + (x - z) = 83160 ∨ (z - y) + (x - z) = -83160 := by omega
theorem sg_of {X Y Z A B C : Int} (hx : 0 ≤ X ∧ X < 166320) (hy : 0 ≤ Y ∧ Y < 166320) (hz : 0 ≤ Z ∧ Z < 166320) (ok : Ok3 X Y Z) (sA : (0 < A ↔ Po (Z - Y)) ∧ (A < 0 ↔ Ng (Z - Y))) (sB : (0 < B ↔ Po (X - Z)) ∧ (B < 0 ↔ Ng (X - Z))) (sC : (0 < C ↔ Po (Y - X)) ∧ (C < 0 ↔ Ng (Y - X))) :
    (0 ≤ A ∧ 0 ≤ B ∧ 0 ≤ C) ∨ (A ≤ 0 ∧ B ≤ 0 ∧ C ≤ 0) := by
  rcases ok with h | h | h | ⟨h1, h2, h3⟩ | ⟨h1, h2, h3⟩
  · obtain ⟨c1, c2⟩ := sg_zero (opp_sub h) sC
    exact (sg_pair (opp_sum h) (two_in hz hy) (two_in hx hz) sA sB).imp (fun q => ⟨q.1, q.2, c1⟩) fun q => ⟨q.1, q.2, c2⟩
  · obtain ⟨a1, a2⟩ := sg_zero (opp_sub h) sA
    exact (sg_pair (opp_sum h) (two_in hx hz) (two_in hy hx) sB sC).imp (fun q => ⟨a1, q.1, q.2⟩) fun q => ⟨a2, q.1, q.2⟩
  · obtain ⟨b1, b2⟩ := sg_zero (opp_sub h) sB
    exact (sg_pair (opp_sum h) (two_in hy hx) (two_in hz hy) sC sA).imp (fun q => ⟨q.2, b1, q.1⟩) fun q => ⟨q.2, b2, q.1⟩
  · exact .inl ⟨Int.le_of_lt (sA.1.mpr h1), Int.le_of_lt (sB.1.mpr h2), Int.le_of_lt (sC.1.mpr h3)⟩
  · exact .inr ⟨Int.le_of_lt (sA.2.mpr h1), Int.le_of_lt (sB.2.mpr h2), Int.le_of_lt (sC.2.mpr h3)⟩
theorem abs_pos {p q : P3} (h : 0 ≤ area p q) : absArea p q = 1 * area p q := by unfold absArea; rw [if_neg (Int.not_lt.mpr h), Int.one_mul]
theorem abs_neg {p q : P3} (h : area p q ≤ 0) : absArea p q = -1 * area p q := by
  unfold absArea; split
  · exact (Int.neg_one_mul _).symm
  · omega
theorem abs_three {p q r : P3} (sg : (0 ≤ area q r ∧ 0 ≤ area r p ∧ 0 ≤ area p q) ∨ (area q r ≤ 0 ∧ area r p ≤ 0 ∧ area p q ≤ 0)) : ∃ k : Int, absArea q r = k * area q r ∧ absArea r p = k * area r p ∧ absArea p q = k * area p q :=
  sg.elim (fun h => ⟨1, abs_pos h.1, abs_pos h.2.1, abs_pos h.2.2⟩) fun h => ⟨-1, abs_neg h.1, abs_neg h.2.1, abs_neg h.2.2⟩
theorem sum3_lo {a b c : Int} (h1 : 0 ≤ a) (h2 : 0 ≤ b) (h3 : 0 ≤ c) : 0 ≤ a + b + c := by omega
theorem sum3_hi {a b c : Int} (h1 : a ≤ 3456) (h2 : b ≤ 3456) (h3 : c ≤ 3456) : a + b + c ≤ 20000 := by omega
theorem all_one {m : P3} (h1 : m.a - m.c = 0) (h2 : m.b - m.c = 0) : m = ⟨m.c, m.c, m.c⟩ := by
  obtain ⟨a, b, c⟩ := m
  have e1 : a = c := Int.sub_eq_zero.mp h1
  have e2 : b = c := Int.sub_eq_zero.mp h2
  rw [e1, e2]
theorem mix_grey {p1 p2 p3 : P3} (h1 : p1.Fit) (h2 : p2.Fit) (h3 : p3.Fit) (hd : due p1 p2 p3 = true) (hg : greysOf [p1, p2, p3] = 0) : ∃ a, 0 ≤ a ∧ a ≤ 20000 ∧ mix p1 p2 p3 = ⟨a, a, a⟩ := by
  obtain ⟨g1, g2, g3⟩ := not_grey ((greys_any p1 p2 p3).2.mp hg)
  have a1 := fit_at h1 g1
  have a2 := fit_at h2 g2
  have a3 := fit_at h3 g3
  have ok : Ok3 (markP p1) (markP p2) (markP p3) := by
    rcases (a1.due a2 a3).mp hd with q | q
    · omega
    · exact q
  have s1 := a2.area a3
  have s2 := a3.area a1
  have s3 := a1.area a2
  have sg : (0 ≤ area p2 p3 ∧ 0 ≤ area p3 p1 ∧ 0 ≤ area p1 p2) ∨ (area p2 p3 ≤ 0 ∧ area p3 p1 ≤ 0 ∧ area p1 p2 ≤ 0) := by
    exact sg_of ⟨a1.x0, a1.x1⟩ ⟨a2.x0, a2.x1⟩ ⟨a3.x0, a3.x1⟩ ok s1 s2 s3
  clear s1 s2 s3 ok a1 a2 a3 hd hg g1 g2 g3
  have b1 := absArea_bound h2.ok h3.ok
  have b2 := absArea_bound h3.ok h1.ok
  have b3 := absArea_bound h1.ok h2.ok
  have ia : area p2 p3 * (p1.a - p1.c) + area p3 p1 * (p2.a - p2.c) + area p1 p2 * (p3.a - p3.c) = 0 := by unfold area; grind
  have ib : area p2 p3 * (p1.b - p1.c) + area p3 p1 * (p2.b - p2.c) + area p1 p2 * (p3.b - p3.c) = 0 := by unfold area; grind
  have e := abs_three sg
  obtain ⟨k, e1, e2, e3⟩ := e
  have ea : (mix p1 p2 p3).a - (mix p1 p2 p3).c = 0 := by
    unfold mix; dsimp only; rw [e1, e2, e3]
    have : k * area p2 p3 * p1.a + k * area p3 p1 * p2.a + k * area p1 p2 * p3.a - (k * area p2 p3 * p1.c + k * area p3 p1 * p2.c + k * area p1 p2 * p3.c) = k * (area p2 p3 * (p1.a - p1.c) + area p3 p1 * (p2.a - p2.c) + area p1 p2 * (p3.a - p3.c)) := by grind
    rw [this, ia, Int.mul_zero]
  have eb : (mix p1 p2 p3).b - (mix p1 p2 p3).c = 0 := by
    unfold mix; dsimp only; rw [e1, e2, e3]
    have : k * area p2 p3 * p1.b + k * area p3 p1 * p2.b + k * area p1 p2 * p3.b - (k * area p2 p3 * p1.c + k * area p3 p1 * p2.c + k * area p1 p2 * p3.c) = k * (area p2 p3 * (p1.b - p1.c) + area p3 p1 * (p2.b - p2.c) + area p1 p2 * (p3.b - p3.c)) := by grind
    rw [this, ib, Int.mul_zero]
  have m1 := mul_small b1.1 b1.2 h1.ok.c0 h1.ok.c1
  have m2 := mul_small b2.1 b2.2 h2.ok.c0 h2.ok.c1
  have m3 := mul_small b3.1 b3.2 h3.ok.c0 h3.ok.c1
  clear e1 e2 e3 ia ib b1 b2 b3 sg
  refine ⟨(mix p1 p2 p3).c, sum3_lo m1.1 m2.1 m3.1, sum3_hi m1.2 m2.2 m3.2, ?_⟩
  exact all_one ea eb
theorem fit_potP (n : Int) (i : Nat) : (potP n i).Fit := by
  unfold potP; split
  · exact fit_one n
  · split
    · exact fit_two n
    · exact fit_mix n
theorem due_grey {p1 p2 p3 : P3} (h : (p1.grey || p2.grey || p3.grey) = true) : due p1 p2 p3 = true := by
  unfold due; rw [decide_eq_true ((greys_any p1 p2 p3).1.mpr h)]; rfl
noncomputable def marks (n : Int) (X : Int) : Prop := ∃ j, j < 3 ∧ X = markP (potP n j)
theorem marks_in {n : Int} (h : ∀ j, j < 3 → ¬ (potP n j).Gr) : InW (marks n) := by
  rintro X ⟨j, hj, rfl⟩
  have a := fit_at (fit_potP n j) (h j hj)
  exact ⟨a.x0, a.x1⟩
theorem marks_whole {n : Int} (h : ∀ j, j < 3 → ¬ (potP n j).Gr) : Whole (marks n) := by
  refine ⟨_, _, _, ⟨0, by decide, rfl⟩, ⟨1, by decide, rfl⟩, ⟨2, by decide, rfl⟩, ?_⟩
  have d := due_pot n
  rcases ((fit_at (fit_potP n 0) (h 0 (by decide))).due (fit_at (fit_potP n 1) (h 1 (by decide))) (fit_at (fit_potP n 2) (h 2 (by decide)))).mp d with q | q
  · exfalso
    have := (greys_any _ _ _).1.mp q
    simp only [Bool.or_eq_true, grey_iff] at this
    rcases this with (z | z) | z
    · exact h 0 (by decide) z
    · exact h 1 (by decide) z
    · exact h 2 (by decide) z
  · exact q
theorem some_pick (n1 n2 n3 : Int) : ∃ i j k, i < 3 ∧ j < 3 ∧ k < 3 ∧ due (potP n1 i) (potP n2 j) (potP n3 k) = true := by
  by_cases h1 : ∃ j, j < 3 ∧ (potP n1 j).Gr
  · obtain ⟨j, hj, g⟩ := h1
    exact ⟨j, 0, 0, hj, by decide, by decide, due_grey (by rw [(grey_iff _).mpr g]; rfl)⟩
  by_cases h2 : ∃ j, j < 3 ∧ (potP n2 j).Gr
  · obtain ⟨j, hj, g⟩ := h2
    exact ⟨0, j, 0, by decide, hj, by decide, due_grey (by rw [(grey_iff _).mpr g]; simp)⟩
  by_cases h3 : ∃ j, j < 3 ∧ (potP n3 j).Gr
  · obtain ⟨j, hj, g⟩ := h3
    exact ⟨0, 0, j, by decide, by decide, hj, due_grey (by rw [(grey_iff _).mpr g]; simp)⟩
  have k1 : ∀ j, j < 3 → ¬ (potP n1 j).Gr := fun j hj g => h1 ⟨j, hj, g⟩
  have k2 : ∀ j, j < 3 → ¬ (potP n2 j).Gr := fun j hj g => h2 ⟨j, hj, g⟩
  have k3 : ∀ j, j < 3 → ¬ (potP n3 j).Gr := fun j hj g => h3 ⟨j, hj, g⟩
  obtain ⟨a, b, c, ⟨i, hi, rfl⟩, ⟨j, hj, rfl⟩, ⟨k, hk, rfl⟩, ok⟩ := rainbow (marks_in k1) (marks_in k2) (marks_in k3) (marks_whole k1) (marks_whole k2) (marks_whole k3)
  exact ⟨i, j, k, hi, hj, hk, ((fit_at (fit_potP n1 i) (k1 i hi)).due (fit_at (fit_potP n2 j) (k2 j hj)) (fit_at (fit_potP n3 k) (k3 k hk))).mpr (.inr ok)⟩
end Mine
end
section
open PySem PySem.W PySem.Spec PySem.Calls PyProof.Rows
set_option maxRecDepth 100000
namespace Mine
theorem Fit.small {p : P3} (h : p.Fit) : Small p.a p.b p.c := by
  obtain ⟨⟨a0, b0, c0, a1, b1, c1⟩, _⟩ := h
  exact ⟨a0, b0, c0, by omega, by omega, by omega⟩
theorem PC.mono {w : World} {f : Addr} {sz : Nat} {vs : List Value} {args : List (Addr × Obj)} {O O' : List (Addr × Obj) → Value → Prop} (h : PC w f sz vs args O) (k : ∀ tl v, O tl v → O' tl v) : PC w f sz vs args O' :=
  fun p loose mean mg mb dp un gd cn cs a ccd cl outer A₀ base h₀ L m s Q E B F X T hk N hd hu q => h p loose mean mg mb dp un gd cn cs a ccd cl outer A₀ base h₀ L m s Q E B F X T hk N hd hu fun r h' tk' tl a b c => q r h' tk' tl a b (k _ _ c)
theorem pc_toldP (w : World) (x : Addr) (o : Obj) (p : P3) (hp : p.Fit) (ho : p.Obj o) : PC w 78 2 [.ref x] [(x, o)] (fun tl v => ∃ y oy, v = .ref y ∧ tl = [(y, oy)] ∧ NameObj oy (tellP p)) :=
  pc_told w x o p.a p.b p.c (Fit.small hp) ho (fit_parted hp)
theorem pc_toldG (w : World) (x : Addr) (o : Obj) (a : Int) (h0 : 0 ≤ a) (h1 : a ≤ 20000) (ho : PaintObj o a a a) : PC w 78 2 [.ref x] [(x, o)] (fun tl v => ∃ y oy, v = .ref y ∧ tl = [(y, oy)] ∧ NameObj oy ⟨0, 0, fl a⟩) := by
  have h := pc_told w x o a a a ⟨h0, h0, h0, h1, h1, h1⟩ ho (grey_tell h0 h1).2
  rw [(grey_tell h0 h1).1] at h; exact h
theorem pc_backP (w : World) (x : Addr) (o : Obj) (p : P3) (hp : p.Fit) (ho : NameObj o (tellP p)) : PC w 83 2 [.ref x] [(x, o)] (fun tl v => ∃ y oy, v = .ref y ∧ tl = [(y, oy)] ∧ p.Obj oy) := by
  have h := pc_back w x o (tellP p) ho (fit_hsv hp) (fit_hfin hp)
  rw [(fit_back hp).1, (fit_back hp).2.1, (fit_back hp).2.2] at h; exact h
theorem pc_seenP (w : World) (l : Addr) (n : Nat) (x1 x2 x3 : Addr) (o1 o2 o3 : Obj) (p1 p2 p3 : P3) (k1 : p1.Fit) (k2 : p2.Fit) (k3 : p3.Fit) (h1 : NameObj o1 (tellP p1)) (h2 : NameObj o2 (tellP p2)) (h3 : NameObj o3 (tellP p3)) :
    PC w 102 1 [.ref l] [(l, W.listOf #[.ref x1, .ref x2, .ref x3] n), (x1, o1), (x2, o2), (x3, o3)] (fun tl v => tl = [] ∧ v = .bool (due p1 p2 p3)) :=
  (pc_seen w l n x1 x2 x3 o1 o2 o3 _ _ _ h1 h2 h3 (fit_fin k1) (fit_fin k2) (fit_fin k3)).mono fun tl v ⟨e, b, e2, hb⟩ => ⟨e, by rw [e2, fit_seen k1 k2 k3 hb]⟩
theorem pc_stirredP (w : World) (l : Addr) (n : Nat) (x1 x2 x3 : Addr) (o1 o2 o3 : Obj) (p1 p2 p3 : P3) (k1 : p1.Fit) (k2 : p2.Fit) (k3 : p3.Fit) (hd : due p1 p2 p3 = true) (hg : greysOf [p1, p2, p3] = 0) (h1 : p1.Obj o1) (h2 : p2.Obj o2) (h3 : p3.Obj o3) :
    PC w 119 4 [.ref l] [(l, W.listOf #[.ref x1, .ref x2, .ref x3] n), (x1, o1), (x2, o2), (x3, o3)] (fun tl v => tl = [] ∧ ∃ t, v = .float 0 t) := by
  obtain ⟨a, h0, h9, e⟩ := mix_grey k1 k2 k3 hd hg
  have h := pc_stirred w l n x1 x2 x3 o1 o2 o3 p1 p2 p3 h1 h2 h3 k1.ok k2.ok k3.ok (by rw [e]; exact ⟨h0, h0, h0, h9, h9, h9⟩) (by rw [e]; exact (grey_tell h0 h9).2)
  rw [e] at h
  refine h.mono fun tl v ⟨e1, t, e2⟩ => ⟨e1, t, ?_⟩
  rw [e2]; show Value.float (tell a a a).s t = _; rw [(grey_tell h0 h9).1]

theorem Inks.signs {x : Str} {a b c : Int} (h : Inks x a b c) (ha : 0 ≤ a) (hb : 0 ≤ b) (hc : 0 ≤ c) (hs : a + b + c ≤ 36) : Signs x := by
  refine ⟨?_, fun d hd => ?_⟩
  · rw [str_len, h.length_eq]; simp; omega
  · have := h.mem_iff.mp hd
    simp [List.mem_replicate] at this; omega
theorem Inks.counts {x : Str} {a b c : Int} (h : Inks x a b c) (ha : 0 ≤ a) (hb : 0 ≤ b) (hc : 0 ≤ c) : (cnt x 60 : Int) = a ∧ (cnt x 62 : Int) = b ∧ (cnt x 38 : Int) = c := by
  unfold cnt
  rw [h.count_eq, h.count_eq, h.count_eq]
  simp [List.count_replicate]; omega
theorem Inks.len {x : Str} {a b c : Int} (h : Inks x a b c) (ha : 0 ≤ a) (hb : 0 ≤ b) (hc : 0 ≤ c) : (x.length : Int) = a + b + c := by
  rw [str_len, h.length_eq]; simp; omega
theorem Inks.add {x y : Str} {a b c d e f : Int} (h : Inks x a b c) (k : Inks y d e f) (ha : 0 ≤ a) (hb : 0 ≤ b) (hc : 0 ≤ c) (hd : 0 ≤ d) (he : 0 ≤ e) (hf : 0 ≤ f) : Inks (x ++ y) (a + d) (b + e) (c + f) := by
  unfold Inks
  rw [Str.cps_append, Array.toList_append]
  refine (List.Perm.append h k).trans ?_
  rw [List.perm_iff_count]
  intro q
  simp only [List.count_append, List.count_replicate]
  rw [Int.toNat_add ha hd, Int.toNat_add hb he, Int.toNat_add hc hf]
  split <;> split <;> split <;> omega
theorem Inks.mul {x : Str} {a b c n : Int} (h : Inks x a b c) (ha : 0 ≤ a) (hb : 0 ≤ b) (hc : 0 ≤ c) (h1 : 1 ≤ n) (h2 : n ≤ 2) : Inks (Txt.mul x n) (n * a) (n * b) (n * c) := by
  rcases (by omega : n = 1 ∨ n = 2) with rfl | rfl
  · simpa [Txt.mul] using h
  · unfold Txt.mul
    by_cases hl : x.length = 0
    · have := h.len ha hb hc
      simp [hl]
      have e1 : a = 0 := by omega
      have e2 : b = 0 := by omega
      have e3 : c = 0 := by omega
      subst e1; subst e2; subst e3; exact h
    · have h4 := Inks.add h h ha hb hc ha hb hc
      rw [if_neg (by decide), if_neg (by simp [hl])]
      have e : (⟨(List.replicate (2 : Int).toNat x.cps).foldl (· ++ ·) #[]⟩ : Str) = x ++ x := by
        refine str_ext ?_
        rw [Str.cps_append]
        show ((#[] ++ x.cps) ++ x.cps).toList = _
        simp
      rw [e]
      rw [Int.two_mul, Int.two_mul, Int.two_mul]
      exact h4
theorem mulTwo {prog : Program} {w : World} {A : Around} {E : Value → Shared → Prop} {s : Shared} {x : Str} {t u : Tok} {n a b c : Int} {Q : Value → Shared → Prop} (hI : Inks x a b c) (ha : 0 ≤ a) (hb : 0 ≤ b) (hc : 0 ≤ c) (hs : a + b + c ≤ 36) (h1 : 1 ≤ n) (h2 : n ≤ 2)
    (h : ∀ y t' k, y.length ≤ 72 → Inks y (n * a) (n * b) (n * c) → Q (.str y t') { s with toks := k }) : wpAny (model prog w) A (binaryOp .Mult (.str x t) (.int n u)) Q E s := by
  have hl := hI.len ha hb hc
  refine SB.mul (mulOk_of 36 2 (by omega) (by omega) (by omega) (by decide) (by decide)) fun t' k => h _ t' k ?_ (hI.mul ha hb hc h1 h2)
  have h3 := (hI.mul ha hb hc h1 h2).len (by rcases (by omega : n = 1 ∨ n = 2) with rfl | rfl <;> omega) (by rcases (by omega : n = 1 ∨ n = 2) with rfl | rfl <;> omega) (by rcases (by omega : n = 1 ∨ n = 2) with rfl | rfl <;> omega)
  rcases (by omega : n = 1 ∨ n = 2) with rfl | rfl <;> omega
theorem pc_countedI (w : World) (x : Str) (tx : Tok) (a b c : Int) (hI : Inks x a b c) (ha : 0 ≤ a) (hb : 0 ≤ b) (hc : 0 ≤ c) (hs : a + b + c ≤ 36) :
    PC w 66 12 [.str x tx] [] (fun tl v => ∃ y oy, v = .ref y ∧ tl = [(y, oy)] ∧ PaintObj oy a b c) := by
  have h := pc_counted w x tx (hI.signs ha hb hc hs)
  rw [(hI.counts ha hb hc).1, (hI.counts ha hb hc).2.1, (hI.counts ha hb hc).2.2] at h; exact h
theorem pc_countedP (w : World) (x : Str) (tx : Tok) (p : P3) (hp : p.Fit) (hI : Inks x p.a p.b p.c) :
    PC w 66 12 [.str x tx] [] (fun tl v => ∃ y oy, v = .ref y ∧ tl = [(y, oy)] ∧ p.Obj oy) := by
  obtain ⟨⟨a0, b0, c0, a1, b1, c1⟩, _⟩ := hp
  exact pc_countedI w x tx p.a p.b p.c hI a0 b0 c0 (by omega)
noncomputable def potM (n : Int) : Int := mx3 (potB n 0) (potB n 1) (potB n 2)
theorem potB_bound (n : Int) : (0 ≤ potB n 0 ∧ potB n 0 ≤ 12) ∧ (0 ≤ potB n 1 ∧ potB n 1 ≤ 12) ∧ (0 ≤ potB n 2 ∧ potB n 2 ≤ 12) :=
  ⟨both_bound (dig_bound n 0) (dig_bound n 3), both_bound (dig_bound n 1) (dig_bound n 4), both_bound (dig_bound n 2) (dig_bound n 5)⟩
theorem inks_whole {n : Int} {y1 y2 x3 : Str} (h1 : Inks y1 (oft n 4096 * (potOne n).a) (oft n 4096 * (potOne n).b) (oft n 4096 * (potOne n).c)) (h2 : Inks y2 (oft n 8192 * (potTwo n).a) (oft n 8192 * (potTwo n).b) (oft n 8192 * (potTwo n).c)) (h3 : Inks x3 (potMix n).a (potMix n).b (potMix n).c) :
    Inks (y1 ++ y2 ++ x3) (potM n) (potM n) (potM n) := by
  have o1 := oft_bound n 4096
  have o2 := oft_bound n 8192
  obtain ⟨b0, b1, b2⟩ := potB_bound n
  have hm := mx3_ge (potB n 0) (potB n 1) (potB n 2) b0 b1 b2
  have p0 : ∀ j, 0 ≤ oft n 4096 * dig n j := fun j => Int.mul_nonneg (by omega) (dig_bound n j).1
  have q0 : ∀ j, 0 ≤ oft n 8192 * dig n j := fun j => Int.mul_nonneg (by omega) (dig_bound n j).1
  have h := Inks.add (Inks.add h1 h2 (p0 0) (p0 1) (p0 2) (q0 3) (q0 4) (q0 5)) h3 (Int.add_nonneg (p0 0) (q0 3)) (Int.add_nonneg (p0 1) (q0 4)) (Int.add_nonneg (p0 2) (q0 5)) (Int.sub_nonneg_of_le hm.1) (Int.sub_nonneg_of_le hm.2.1) (Int.sub_nonneg_of_le hm.2.2.1)
  have z : ∀ a b : Int, a + (b - a) = b := fun a b => by omega
  have e0 : oft n 4096 * (potOne n).a + oft n 8192 * (potTwo n).a + (potMix n).a = potM n := z (potB n 0) (potM n)
  have e1 : oft n 4096 * (potOne n).b + oft n 8192 * (potTwo n).b + (potMix n).b = potM n := z (potB n 1) (potM n)
  have e2 : oft n 4096 * (potOne n).c + oft n 8192 * (potTwo n).c + (potMix n).c = potM n := z (potB n 2) (potM n)
  rw [e0, e1, e2] at h; exact h
theorem potM_bound (n : Int) : 0 ≤ potM n ∧ potM n ≤ 12 := by
  obtain ⟨b0, b1, b2⟩ := potB_bound n
  have hm := mx3_ge (potB n 0) (potB n 1) (potB n 2) b0 b1 b2
  exact ⟨Int.le_trans b0.1 hm.1, hm.2.2.2⟩

/-- the made objects of a comprehension, each told -/
noncomputable def Rows (P : Nat → Obj → Prop) (i : Nat) (ys : List Value) (os : List (Addr × Obj)) : Prop := ∃ as : List (Addr × Obj), os = as.reverse ∧ ys = as.map (fun q => .ref q.1) ∧ as.length = i ∧ ∀ j q, as[j]? = some q → P j q.2
theorem Rows.zero {P : Nat → Obj → Prop} : Rows P 0 [] [] := ⟨[], rfl, rfl, rfl, fun _ _ h => by simp at h⟩
theorem Rows.snoc {P : Nat → Obj → Prop} {i : Nat} {ys : List Value} {os : List (Addr × Obj)} (h : Rows P i ys os) {a : Addr} {o : Obj} (ho : P i o) : Rows P (i + 1) (ys ++ [.ref a]) ([(a, o)] ++ os) := by
  obtain ⟨as, rfl, rfl, rfl, hP⟩ := h
  refine ⟨as ++ [(a, o)], by simp, by simp, by simp, fun j q hq => ?_⟩
  by_cases hj : j < as.length
  · rw [List.getElem?_append_left hj] at hq; exact hP j q hq
  · rw [List.getElem?_append_right (by omega)] at hq
    have : j = as.length := by
      have := (List.getElem?_eq_some_iff.mp hq).1
      simp at this; omega
    subst this
    simp at hq; subst hq; exact ho
theorem Rows.three {P : Nat → Obj → Prop} {ys : List Value} {os : List (Addr × Obj)} (h : Rows P 3 ys os) : ∃ a b c oa ob oc, os = [(c, oc), (b, ob), (a, oa)] ∧ ys = [.ref a, .ref b, .ref c] ∧ P 0 oa ∧ P 1 ob ∧ P 2 oc := by
  obtain ⟨as, rfl, rfl, hl, hP⟩ := h
  rcases as with _ | ⟨⟨a, oa⟩, _ | ⟨⟨b, ob⟩, _ | ⟨⟨c, oc⟩, _ | ⟨_, _⟩⟩⟩⟩
  · exact absurd hl (by simp)
  · exact absurd hl (by simp)
  · exact absurd hl (by simp)
  · exact ⟨a, b, c, oa, ob, oc, by simp, by simp, hP 0 (a, oa) (by simp), hP 1 (b, ob) (by simp), hP 2 (c, oc) (by simp)⟩
  · exact absurd hl (by simp)
/-- a comprehension of three turns, each of which makes an object -/
theorem comp_rows {prog : Program} {w : World} {A : Around} {E : Value → Shared → Prop} {env : Env} {s₁ : Shared} {h₀ : Heap} {L : Addr} {m : Str → Option Value} {elt : Expr} {x : Str} {scope : Scope} {cl : List (Str × Addr)} {Q : Value → Shared → Prop} {xv : Value} {P : Nat → Value → Prop} {news : List (Addr × Obj)}
    (hI : IterOf prog w A E s₁ xv 3 P) (F : Fr h₀ L s₁.heap m) (N : News h₀ L s₁.heap news) (R : Nat → Obj → Prop)
    (step : ∀ C i v h₃ tk₃ oC mm ys os E', i < 3 → P i v → Rows R i ys os → NsObj oC mm → mm x = some v → Fr h₀ L h₃ m → News h₀ L h₃ ((C, oC) :: (os ++ news)) →
      wpAny (model prog w) A (eval elt (compEnvC scope cl C env)) (EltPost (Rows R) i ys os { s₁ with heap := h₃, toks := tk₃ }) E' { s₁ with heap := h₃, toks := tk₃ })
    (fin : ∀ D h' tk a b c oa ob oc k, R 0 oa → R 1 ob → R 2 oc → Fr h₀ L h' m → News h₀ L h' ((D, W.listOf #[.ref a, .ref b, .ref c] k) :: (c, oc) :: (b, ob) :: (a, oa) :: news) → (∀ q ∈ (c, oc) :: (b, ob) :: (a, oa) :: news, q.1 ≠ D) → (∀ q ∈ news, q.1 ≠ a) → (∀ q ∈ news, q.1 ≠ b) → (∀ q ∈ news, q.1 ≠ c) → Q (.ref D) { s₁ with heap := h', toks := tk }) :
    CompAsk prog w A E env h₀ L m elt x [] scope cl Q xv s₁ :=
  comp_go hI (by decide) F N (Rows R) Rows.zero (fun C i v h₃ tk₃ oC mm ys os E' hi hP hR hNC hm F2 N2 _ => step_plain (step C i v h₃ tk₃ oC mm ys os E' hi hP hR hNC hm F2 N2)) fun D h' tk ys os c hR F2 N2 hne hne2 _ => by
    obtain ⟨a, b, d, oa, ob, oc, rfl, rfl, h0, h1, h2⟩ := hR.three
    exact fin D h' tk a b d oa ob oc c h0 h1 h2 F2 N2 hne (hne2 _ (.tail _ (.tail _ (.head _)))) (hne2 _ (.tail _ (.head _))) (hne2 _ (.head _))
end Mine
end
section
open PySem PySem.W PySem.Spec PySem.Calls PyProof.Rows
set_option maxRecDepth 100000
namespace Mine
/-- what a body does from its entry on, wherever it is entered -/
noncomputable def RunAt (w : World) (f : Addr) (binds : List (Str × Value)) (Pre : Heap → Prop) (ret : Value) : Prop :=
  ∀ {name qual : Str} {params : Arguments} {body : List Stmt} {scope : Scope} {dV kV doc pm cdv ct oc : Value} {an od : Option Addr} {osl : Array (Option Value)},
    (Mine.hd.heap_39 w.params).lookup f = some ⟨oc, od, .func (fnOf name qual params body scope dV kV doc pm an cdv ct), osl⟩ →
  ∀ (p : Program) (loose : List Str) (mean : ExcName → Option Value) (mg mb : Str → Option Value) (dp un : Nat) (gd : Option (List Code)) (outer : List Env) (A₀ : Around) (base g : Heap) (L' fa : Addr) (ccd : Value) (h₁ : Heap) (s : Shared) (tk : Nat) (cells : List (Addr × Obj)) (Q : Flow → Shared → Prop),
      Below A₀ base outer g → Fr g L' h₁ (bindL (envOfC qual scope L' fa ccd).kindOf binds fun _ => none) → News g L' h₁ cells →
      CellsAre (bindC (envOfC qual scope L' fa ccd).kindOf binds fun _ => none) (cellsFrom (L' + 1) scope.names []) cells → (Mine.hd.heap_39 w.params).In g → Top p loose mean mg mb g → dp + 40 < recursionLimit → un + 400 < cLine → Pre g →
      (∀ h' tk' m', Fr g L' h' m' → Q (.ret ret) { s with heap := h', toks := tk' }) →
      wpAny (model PG w) (ktrTop dp un gd qual scope L' fa ccd (cellsFrom (L' + 1) scope.names []) outer) (execs body (envX qual scope L' fa ccd (cellsFrom (L' + 1) scope.names []))) Q (fun _ _ => False) { s with heap := h₁, toks := tk }

theorem run_of {w : World} {f : Addr} {binds : List (Str × Value)} {Pre : Heap → Prop} {ret : Value} {name qual : Str} {params : Arguments} {body : List Stmt} {scope : Scope} {dV kV doc pm cdv ct oc : Value} {an od : Option Addr} {osl : Array (Option Value)}
    (ho : (Mine.hd.heap_39 w.params).lookup f = some ⟨oc, od, .func (fnOf name qual params body scope dV kV doc pm an cdv ct), osl⟩)
    (H : ∀ (p : Program) (loose : List Str) (mean : ExcName → Option Value) (mg mb : Str → Option Value) (dp un : Nat) (gd : Option (List Code)) (outer : List Env) (A₀ : Around) (base g : Heap) (L' fa : Addr) (ccd : Value) (h₁ : Heap) (s : Shared) (tk : Nat) (cells : List (Addr × Obj)) (Q : Flow → Shared → Prop),
      Below A₀ base outer g → Fr g L' h₁ (bindL (envOfC qual scope L' fa ccd).kindOf binds fun _ => none) → News g L' h₁ cells →
      CellsAre (bindC (envOfC qual scope L' fa ccd).kindOf binds fun _ => none) (cellsFrom (L' + 1) scope.names []) cells → (Mine.hd.heap_39 w.params).In g → Top p loose mean mg mb g → dp + 40 < recursionLimit → un + 400 < cLine → Pre g →
      (∀ h' tk' m', Fr g L' h' m' → Q (.ret ret) { s with heap := h', toks := tk' }) →
      wpAny (model PG w) (ktrTop dp un gd qual scope L' fa ccd (cellsFrom (L' + 1) scope.names []) outer) (execs body (envX qual scope L' fa ccd (cellsFrom (L' + 1) scope.names []))) Q (fun _ _ => False) { s with heap := h₁, toks := tk }) : RunAt w f binds Pre ret := by
  intro name' qual' params' body' scope' dV' kV' doc' pm' cdv' ct' oc' an' od' osl' ho'
  rw [ho] at ho'
  cases ho'
  exact H

/-- two lists of the same three paints -/
noncomputable def pd3 (p q r : P3) : PyData := .list [.list [.int p.a, .int p.b, .int p.c], .list [.int q.a, .int q.b, .int q.c], .list [.int r.a, .int r.b, .int r.c]]
theorem pd3_shaped (p q r : P3) : SeqAt.shaped (pd3 p q r) = true := by simp [pd3, SeqAt.shaped, PyData.canLay0, PyData.canLayAll0, PyData.depth, PyData.depthAll]
section
variable {prog : Program} {w : World} {A : Around} {E : Value → Shared → Prop} {s : Shared} {h₀ : Heap} {L : Addr} {news : List (Addr × Obj)} {Q : Value → Shared → Prop}
theorem reads_paint (N : News h₀ L s.heap news) {a : Addr} {o : Obj} {p : P3} (h : (a, o) ∈ news) (hp : p.Obj o) : ∃ as, Reads s.heap (.ref a) (.list [.int p.a, .int p.b, .int p.c]) as := by
  obtain ⟨ta, tb, tc, n, rfl⟩ := hp
  exact ⟨_, reads_list_at (N.get h) rfl rfl (.cons (Reads.int _ _) (.cons (Reads.int _ _) (.cons (Reads.int _ _) .nil)))⟩
theorem reads_three (N : News h₀ L s.heap news) {l a1 a2 a3 : Addr} {o1 o2 o3 : Obj} {c : Nat} {p q r : P3} (hl : (l, W.listOf #[.ref a1, .ref a2, .ref a3] c) ∈ news) (h1 : (a1, o1) ∈ news) (h2 : (a2, o2) ∈ news) (h3 : (a3, o3) ∈ news)
    (k1 : p.Obj o1) (k2 : q.Obj o2) (k3 : r.Obj o3) : ∃ as, Reads s.heap (.ref l) (pd3 p q r) as := by
  obtain ⟨_, r1⟩ := reads_paint N h1 k1
  obtain ⟨_, r2⟩ := reads_paint N h2 k2
  obtain ⟨_, r3⟩ := reads_paint N h3 k3
  exact ⟨_, reads_list_at (N.get hl) rfl rfl (.cons r1 (.cons r2 (.cons r3 .nil)))⟩
theorem ne_paints (N : News h₀ L s.heap news) {l a1 a2 a3 : Addr} {o1 o2 o3 : Obj} {c : Nat} {p q r : P3} (hl : (l, W.listOf #[.ref a1, .ref a2, .ref a3] c) ∈ news) (h1 : (a1, o1) ∈ news) (h2 : (a2, o2) ∈ news) (h3 : (a3, o3) ∈ news)
    {l' b1 b2 b3 : Addr} {u1 u2 u3 : Obj} {c' : Nat} (hl' : (l', W.listOf #[.ref b1, .ref b2, .ref b3] c') ∈ news) (g1 : (b1, u1) ∈ news) (g2 : (b2, u2) ∈ news) (g3 : (b3, u3) ∈ news)
    (k1 : p.Obj o1) (k2 : q.Obj o2) (k3 : r.Obj o3) (j1 : p.Obj u1) (j2 : q.Obj u2) (j3 : r.Obj u3) (hu : A.units + 64 < cLine) (h : Q (.bool false) s) :
    wpAny (model prog w) A (compareOp .NotEq (.ref l) (.ref l')) Q E s := by
  obtain ⟨_, r1⟩ := reads_three N hl h1 h2 h3 k1 k2 k3
  obtain ⟨_, r2⟩ := reads_three N hl' g1 g2 g3 j1 j2 j3
  refine ne_dataH r1 r2 (pd3_shaped _ _ _) (pd3_shaped _ _ _) hu ?_
  rw [show PyData.eqv (pd3 p q r) (pd3 p q r) = true from by simp [pd3, PyData.eqv, PyData.eqvAll]]
  exact h
theorem eq_nil (N : News h₀ L s.heap news) {l l' : Addr} {o : Obj} {c' : Nat} {a b d : Int} (hl : (l, o) ∈ news) (hp : PaintObj o a b d) (hl' : (l', W.listOf #[] c') ∈ news) (hu : A.units + 64 < cLine) (h : Q (.bool false) s) :
    wpAny (model prog w) A (compareOp .Eq (.ref l) (.ref l')) Q E s := by
  obtain ⟨ta, tb, tc, n, rfl⟩ := hp
  refine eq_dataH (da := .list [.int a, .int b, .int d]) (db := .list []) (reads_list_at (N.get hl) rfl rfl (.cons (Reads.int _ _) (.cons (Reads.int _ _) (.cons (Reads.int _ _) .nil)))) (reads_list_at (N.get hl') rfl rfl .nil) (by simp [SeqAt.shaped, PyData.canLay0, PyData.canLayAll0, PyData.depth, PyData.depthAll]) (by simp [SeqAt.shaped, PyData.canLay0, PyData.canLayAll0, PyData.depth, PyData.depthAll]) hu ?_
  rw [show PyData.eqv (.list [.int a, .int b, .int d]) (.list []) = false from by simp [PyData.eqv, PyData.eqvAll]]
  exact h
end
end Mine
end
section
open PySem PySem.W PySem.Spec PySem.Calls PyProof.Rows
set_option maxRecDepth 100000
namespace Mine
set_option maxHeartbeats 8000000
theorem fill_law : (PySem.Challenge.rw_kl0415_01 = PySem.Challenge.rw_kl0415_01) ∧ (Mine.hd.heap_39 = Mine.hd.heap_39) := by w_top off; k_fill; exact ⟨rfl, rfl⟩
theorem inks_le {p : P3} (hp : p.Fit) {x : Str} (h : Inks x p.a p.b p.c) : x.length ≤ 36 := by
  obtain ⟨⟨a0, b0, c0, a1, b1, c1⟩, _⟩ := hp
  have := h.len a0 b0 c0
  omega
theorem elt_one {P : Nat → Obj → Prop} {i : Nat} {ys : List Value} {os l : List (Addr × Obj)} {s : Shared} {h₀ h' : Heap} {L a : Addr} {o : Obj} {tk' : Nat} (kp : ∀ b ob, s.heap.get? b = some ob → h'.get? b = some ob) (N : News h₀ L h' ((a, o) :: l)) (tn : ∀ q ∈ [(a, o)], s.heap.get? q.1 = none) (hR : Rows P i ys os) (hP : P i o) :
    EltPost (Rows P) i ys os s (.ref a) { s with heap := h', toks := tk' } :=
  ⟨⟨_, _, rfl, kp⟩, [(a, o)], fun q hq => ⟨(N q (by rw [List.mem_singleton.mp hq]; exact ix0)).1, tn q hq⟩, hR.snoc hP⟩
theorem all_cons1 {a lp : Addr} {o : Obj} {l : List (Addr × Obj)} (h : ∀ q ∈ l, q.1 ≠ lp) (h1 : a ≠ lp) : ∀ q ∈ (a, o) :: l, q.1 ≠ lp := fun q hq => by
  rcases List.mem_cons.mp hq with rfl | hq
  · exact h1
  · exact h q hq
theorem fit_36 {p : P3} (h : p.Fit) : p.a + p.b + p.c ≤ 36 := by obtain ⟨⟨_, _, _, _, _, _⟩, _⟩ := h; omega
theorem nm_0 {h₀ h : Heap} {L : Addr} {D : Addr} {o : Obj} {r : List (Addr × Obj)} (N : News h₀ L h ((D, o) :: r)) {P : Prop} (k : ∀ x, x = D → P) : P := k D rfl
theorem nm_4 {h₀ h : Heap} {L : Addr} {D : Addr} {o : Obj} {e0 e1 e2 e3 : Addr × Obj} {r : List (Addr × Obj)} (N : News h₀ L h (e0 :: e1 :: e2 :: e3 :: (D, o) :: r)) {P : Prop} (k : ∀ x, x = D → P) : P := k D rfl
theorem items3 {n1 n2 n3 : Int} {t1 t2 t3 : Tok} {i : Nat} {v : Value} (h : (#[.int n1 t1, .int n2 t2, .int n3 t3] : Array Value)[i]? = some v) : ∃ n t, v = .int n t ∧ [n1, n2, n3].take (i + 1) = [n1, n2, n3].take i ++ [n] := by
  match i, h with
  | 0, h => exact ⟨_, _, (Option.some.inj h).symm, rfl⟩
  | 1, h => exact ⟨_, _, (Option.some.inj h).symm, rfl⟩
  | 2, h => exact ⟨_, _, (Option.some.inj h).symm, rfl⟩
  | (k + 3), h => simp at h
noncomputable def PotAt (LED : List (Addr × Obj)) (n : Int) (ts : Array Value) : Prop := ∀ (i : Nat) (v : Value), ts[i]? = some v → ∃ t k x y ox oy, v = .ref t ∧ (t, ({ cls := .type "tuple", data := .seq #[.ref x, .ref y] k } : Obj)) ∈ LED ∧ (x, ox) ∈ LED ∧ (y, oy) ∈ LED ∧ (potP n i).Obj ox ∧ NameObj oy (tellP (potP n i))
/-- a pot as it lies in the ledger -/
noncomputable def PotL (LED : List (Addr × Obj)) (n : Int) (l : Addr) : Prop := ∃ (ts : Array Value) (c : Nat), (l, W.listOf ts c) ∈ LED ∧ ts.size = 3 ∧
  PotAt LED n ts
noncomputable def PotR (rest : List (Addr × Obj)) (n : Int) (v : Value) : Prop := ∃ l, v = .ref l ∧ PotL rest n l
inductive PotsR (rest : List (Addr × Obj)) : List Int → List Value → Prop
  | nil : PotsR rest [] []
  | snoc {ns vs n v} : PotsR rest ns vs → PotR rest n v → PotsR rest (ns ++ [n]) (vs ++ [v])
noncomputable def JT (L D lp : Addr) (oD : Obj) (m0 : Str → Option Value) (ns : List Int) (i : Nat) (m : Str → Option Value) (news : List (Addr × Obj)) : Prop :=
  (∀ y, y ≠ Str.ofString "number" → y ≠ Str.ofString "texts" → y ≠ Str.ofString "often" → y ≠ Str.ofString "whole" → m y = m0 y) ∧
  ∃ vs c o1 o2 v1 v2 rest, news = (lp, W.listOf vs c) :: (L + 1, o1) :: (L + 1 + 1, o2) :: (D, oD) :: rest ∧ o1.data = .cell v1 ∧ o2.data = .cell v2 ∧ (∀ q ∈ rest, q.1 ≠ lp) ∧ (∀ q ∈ rest, q.1 ≠ L + 1) ∧ (∀ q ∈ rest, q.1 ≠ L + 1 + 1) ∧ PotsR rest (ns.take i) vs.toList
theorem JT.mem {L D lp : Addr} {oD : Obj} {m0 : Str → Option Value} {ns : List Int} {i : Nat} {m : Str → Option Value} {news : List (Addr × Obj)} (h : JT L D lp oD m0 ns i m news) : (D, oD) ∈ news := by
  obtain ⟨_, vs, c, o1, o2, v1, v2, rest, rfl, _⟩ := h
  exact ix3
theorem shape4 {m m0 : Str → Option Value} {a b c d : Str} (h : ∀ y, y ≠ a → y ≠ b → y ≠ c → y ≠ d → m y = m0 y) : ∃ va vb vc vd, m = fun y => if y = a then va else if y = b then vb else if y = c then vc else if y = d then vd else m0 y := by
  refine ⟨m a, m b, m c, m d, funext fun y => ?_⟩
  by_cases h1 : y = a
  · rw [if_pos h1, h1]
  by_cases h2 : y = b
  · rw [if_neg h1, if_pos h2, h2]
  by_cases h3 : y = c
  · rw [if_neg h1, if_neg h2, if_pos h3, h3]
  by_cases h4 : y = d
  · rw [if_neg h1, if_neg h2, if_neg h3, if_pos h4, h4]
  rw [if_neg h1, if_neg h2, if_neg h3, if_neg h4, h y h1 h2 h3 h4]
local macro_rules | `(tactic| k_mem) => `(tactic| k_extra "mem")
local macro_rules | `(tactic| k_ne) => `(tactic| k_extra "ne")
local macro_rules | `(tactic| k_lt $h:ident) => `(tactic| skip)
local macro_rules | `(tactic| k_all) => `(tactic| assumption)
local macro_rules | `(tactic| kmk_nums) => `(tactic| first
  | ((with_reducible refine' kmk_from ?gi ?gx); (case gi => l_ints); (case gx => kmk_sign))
  | ((with_reducible refine' kmk_upto ?gi ?gx); (case gi => l_ints); (case gx => kmk_sign)))
theorem ne_zero {prog : Program} {w : World} {A : Around} {E : Value → Shared → Prop} {s : Shared} {Q : Value → Shared → Prop} {t u : Tok} (h : Q (.bool false) s) : wpAny (model prog w) A (compareOp .NotEq (.float 0 t) (.float 0 u)) Q E s := by
  refine AutoFloatOps.ne_0 ?_
  rw [show (Float64.cmp 0 0 != some .eq) = false from by decide +kernel]
  exact h
theorem three_of (ns : List Int) : ∃ a b c, ns.take 3 ++ [1555, 6221, 8884].drop ((ns.length : Nat) : Int).toNat = [a, b, c] := by
  match ns with
  | [] => exact ⟨_, _, _, rfl⟩
  | [a] => exact ⟨_, _, _, rfl⟩
  | [a, b] => exact ⟨_, _, _, rfl⟩
  | a :: b :: c :: r => exact ⟨a, b, c, by simp; omega⟩
theorem items_of {ws : List Value} {a b c : Int} (h : IntsAre ws [a, b, c]) : ∃ t1 t2 t3, ws = [.int a t1, .int b t2, .int c t3] := by
  obtain ⟨t1, r1, rfl, h1⟩ := h.cons_inv
  obtain ⟨t2, r2, rfl, h2⟩ := h1.cons_inv
  obtain ⟨t3, r3, rfl, h3⟩ := h2.cons_inv
  rw [h3.nil_inv]
  exact ⟨_, _, _, rfl⟩
theorem fit_pot (n : Int) (i : Nat) : (potP n i).Fit := by
  unfold potP; split
  · exact fit_one n
  · split
    · exact fit_two n
    · exact fit_mix n
theorem texts3 {n : Int} {x1 x2 x3 : Str} {t1 t2 t3 : Tok} (I1 : Inks x1 (potOne n).a (potOne n).b (potOne n).c) (I2 : Inks x2 (potTwo n).a (potTwo n).b (potTwo n).c) (I3 : Inks x3 (potMix n).a (potMix n).b (potMix n).c) {i : Nat} {v : Value} (h : (#[.str x1 t1, .str x2 t2, .str x3 t3] : Array Value)[i]? = some v) :
    ∃ x t, v = .str x t ∧ Inks x (potP n i).a (potP n i).b (potP n i).c := by
  match i, h with
  | 0, h => exact ⟨_, _, (Option.some.inj h).symm, I1⟩
  | 1, h => exact ⟨_, _, (Option.some.inj h).symm, I2⟩
  | 2, h => exact ⟨_, _, (Option.some.inj h).symm, I3⟩
  | (k + 3), h => simp at h
theorem ne4 {l : List (Addr × Obj)} {d a b c e : Addr} {oa ob oc oe : Obj} (h : ∀ q ∈ l, q.1 ≠ d) (h1 : (a, oa) ∈ l) (h2 : (b, ob) ∈ l) (h3 : (c, oc) ∈ l) (h4 : (e, oe) ∈ l) : NeA a d ∧ NeA b d ∧ NeA c d ∧ NeA e d := ⟨h _ h1, h _ h2, h _ h3, h _ h4⟩
theorem pc_seenB (w : World) (l : Addr) (n : Nat) (x1 x2 x3 : Addr) (o1 o2 o3 : Obj) (p1 p2 p3 : P3) (b : Bool) (k1 : p1.Fit) (k2 : p2.Fit) (k3 : p3.Fit) (h1 : NameObj o1 (tellP p1)) (h2 : NameObj o2 (tellP p2)) (h3 : NameObj o3 (tellP p3)) (hb : due p1 p2 p3 = b) :
    PC w 102 1 [.ref l] [(l, W.listOf #[.ref x1, .ref x2, .ref x3] n), (x1, o1), (x2, o2), (x3, o3)] (fun tl v => tl = [] ∧ v = .bool b) := by
  subst hb
  exact pc_seenP w l n x1 x2 x3 o1 o2 o3 p1 p2 p3 k1 k2 k3 h1 h2 h3
theorem pickC {h₀ h : Heap} {L : Addr} {k news os : List (Addr × Obj)} {c : Addr × Obj} (N : News h₀ L h news) (hs : ∀ q ∈ k, q ∈ news) : ∀ q ∈ k, q ∈ c :: (os ++ news) := fun q hq => List.mem_cons_of_mem _ (List.mem_append_right _ (hs q hq))
/-- the j-th tuple of a paint and a name -/
noncomputable def TupP (as bs : List Addr) (j : Nat) (o : Obj) : Prop := ∃ a b c, as[j]? = some a ∧ bs[j]? = some b ∧ o = { cls := .type "tuple", data := .seq #[.ref a, .ref b] c }
theorem elt_tup {P : Nat → Obj → Prop} {i : Nat} {ys : List Value} {os : List (Addr × Obj)} {s : Shared} {a b : Value} {tk : Nat} (hR : Rows P i ys os) (hP : P i { cls := .type "tuple", data := .seq #[a, b] }) :
    EltPost (Rows P) i ys os s (.ref s.heap.objs.size) { s with heap := s.heap.push { cls := .type "tuple", data := .seq #[a, b] }, toks := tk } :=
  ⟨⟨_, _, rfl, fun _ _ e => Heap.get?_push_of_some _ e⟩, [(s.heap.objs.size, _)], fun q hq => by
    rw [List.mem_singleton.mp hq]
    refine ⟨Heap.get?_push_size _ rfl, ?_⟩
    cases e : s.heap.get? s.heap.objs.size with
    | none => rfl
    | some o' => exact absurd (Heap.lt_size e) (Nat.lt_irrefl _), hR.snoc hP⟩
theorem newTuple_raw {M : Model} {A : Around} {E : Value → Shared → Prop} {s : Shared} {Q : Value → Shared → Prop} {a b : Value} (h : Q (.ref s.heap.objs.size) { s with heap := s.heap.push { cls := .type "tuple", data := .seq #[a, b] } }) :
    wpAny M A (newTuple [a, b]) Q E s := wpAny_newObj_type h (show 2 ≤ sizeLine by decide)
theorem PotsR.length {rest : List (Addr × Obj)} : ∀ {ns : List Int} {vs : List Value}, PotsR rest ns vs → vs.length = ns.length
  | _, _, .nil => rfl
  | _, _, .snoc h _ => by rw [List.length_append, List.length_append, h.length]; rfl
theorem PotsR.size {rest : List (Addr × Obj)} {a b c : Int} {i : Nat} {vs : Array Value} (h : PotsR rest ([a, b, c].take i) vs.toList) : vs.size ≤ 3 := by
  have := h.length
  rw [List.length_take] at this
  simp at this; omega
theorem PotAt.mono {rest rest' : List (Addr × Obj)} {n : Int} {ts : Array Value} (h : PotAt rest n ts) (k : ∀ q ∈ rest, q ∈ rest') : PotAt rest' n ts := fun i v hv => by
  obtain ⟨t, c, x, y, ox, oy, e, mt, mx, my, r⟩ := h i v hv
  exact ⟨t, c, x, y, ox, oy, e, k _ mt, k _ mx, k _ my, r⟩
theorem PotR.mono {rest rest' : List (Addr × Obj)} {n : Int} {v : Value} (h : PotR rest n v) (k : ∀ q ∈ rest, q ∈ rest') : PotR rest' n v := by
  obtain ⟨l, e, ts, c, hm, z, p⟩ := h
  exact ⟨l, e, ts, c, k _ hm, z, p.mono k⟩
theorem PotsR.mono {rest rest' : List (Addr × Obj)} (k : ∀ q ∈ rest, q ∈ rest') : ∀ {ns : List Int} {vs : List Value}, PotsR rest ns vs → PotsR rest' ns vs
  | _, _, .nil => .nil
  | _, _, .snoc h hv => .snoc (h.mono k) (hv.mono k)
theorem potR_of {n : Int} {D u1 u2 u3 a b c y1 y2 y3 : Addr} {k : Nat} {ou1 ou2 ou3 oa ob oc oy1 oy2 oy3 : Obj} {rest : List (Addr × Obj)} (U1 : TupP [a, b, c] [y1, y2, y3] 0 ou1) (U2 : TupP [a, b, c] [y1, y2, y3] 1 ou2) (U3 : TupP [a, b, c] [y1, y2, y3] 2 ou3)
    (P1 : (potOne n).Obj oa) (P2 : (potTwo n).Obj ob) (P3 : (potMix n).Obj oc) (Y1 : NameObj oy1 (tellP (potP n 0))) (Y2 : NameObj oy2 (tellP (potP n 1))) (Y3 : NameObj oy3 (tellP (potP n 2))) :
    PotR ((D, W.listOf #[.ref u1, .ref u2, .ref u3] k) :: (u1, ou1) :: (u2, ou2) :: (u3, ou3) :: (a, oa) :: (b, ob) :: (c, oc) :: (y1, oy1) :: (y2, oy2) :: (y3, oy3) :: rest) n (.ref D) := by
  obtain ⟨_, _, k1, e1, e1', rfl⟩ := U1
  obtain ⟨_, _, k2, e2, e2', rfl⟩ := U2
  obtain ⟨_, _, k3, e3, e3', rfl⟩ := U3
  cases e1; cases e1'; cases e2; cases e2'; cases e3; cases e3'
  refine ⟨D, rfl, _, k, ix0, rfl, fun i v hv => ?_⟩
  match i, hv with
  | 0, hv => exact ⟨_, _, _, _, _, _, (Option.some.inj hv).symm, ix1, ix4, ix7, P1, Y1⟩
  | 1, hv => exact ⟨_, _, _, _, _, _, (Option.some.inj hv).symm, ix2, ix5, ix8, P2, Y2⟩
  | 2, hv => exact ⟨_, _, _, _, _, _, (Option.some.inj hv).symm, ix3, ix6, ix9, P3, Y3⟩
theorem tail10 {a0 a1 a2 a3 a4 a5 a6 a7 a8 a9 : Addr × Obj} {rest : List (Addr × Obj)} : ∀ q ∈ rest, q ∈ a0 :: a1 :: a2 :: a3 :: a4 :: a5 :: a6 :: a7 :: a8 :: a9 :: rest := fun _ h => .tail _ (.tail _ (.tail _ (.tail _ (.tail _ (.tail _ (.tail _ (.tail _ (.tail _ (.tail _ h)))))))))
theorem PotsR.at {rest : List (Addr × Obj)} : ∀ {ns : List Int} {vs : List Value}, PotsR rest ns vs → ∀ (i : Nat) (n : Int), ns[i]? = some n → ∃ v, vs[i]? = some v ∧ PotR rest n v
  | _, _, .nil, (i : Nat), n, h => by simp at h
  | _, _, .snoc (ns := ns) (vs := vs) (n := k) (v := v) h hv, i, n, hi => by
    by_cases c : i < ns.length
    · rw [List.getElem?_append_left c] at hi
      obtain ⟨u, hu, r⟩ := h.at i n hi
      rw [List.getElem?_append_left (by rw [h.length]; exact c)]
      exact ⟨u, hu, r⟩
    · rw [List.getElem?_append_right (by omega)] at hi
      have e : i = ns.length := by
        have := (List.getElem?_eq_some_iff.mp hi).1
        simp at this; omega
      subst e
      simp at hi; subst hi
      rw [← h.length]
      exact ⟨v, by simp, hv⟩
theorem list3 {α : Type} {l : List α} {a b c : α} (hl : l.length = 3) (h0 : l[0]? = some a) (h1 : l[1]? = some b) (h2 : l[2]? = some c) : l = [a, b, c] := by
  refine List.ext_getElem? fun i => ?_
  by_cases e0 : i = 0
  · subst e0; exact h0
  by_cases e1 : i = 1
  · subst e1; exact h1
  by_cases e2 : i = 2
  · subst e2; exact h2
  have h3 : 3 ≤ i := by omega
  rw [List.getElem?_eq_none (hl ▸ h3), List.getElem?_eq_none h3]
theorem PotsR.three {rest : List (Addr × Obj)} {a b c : Int} {vs : Array Value} (h : PotsR rest [a, b, c] vs.toList) : ∃ l1 l2 l3, vs = #[.ref l1, .ref l2, .ref l3] ∧ PotL rest a l1 ∧ PotL rest b l2 ∧ PotL rest c l3 := by
  obtain ⟨v1, h1, l1, rfl, k1⟩ := h.at 0 a rfl
  obtain ⟨v2, h2, l2, rfl, k2⟩ := h.at 1 b rfl
  obtain ⟨v3, h3, l3, rfl, k3⟩ := h.at 2 c rfl
  exact ⟨l1, l2, l3, Array.toList_inj.mp (list3 h.length h1 h2 h3), k1, k2, k3⟩
/-- what has been found so far -/
noncomputable def Got (n1 n2 n3 : Int) (i j k : Nat) (f : Int) : Prop := 0 ≤ f ∧ f ≤ 9 * i + 3 * j + k ∧ ∀ a b c, b < 3 → c < 3 → (a < i ∨ a = i ∧ (b < j ∨ b = j ∧ c < k)) → due (potP n1 a) (potP n2 b) (potP n3 c) = true → 0 < f
theorem Got.zero {n1 n2 n3 : Int} : Got n1 n2 n3 0 0 0 0 := ⟨Int.le_refl _, by simp, fun a b c _ _ h => by omega⟩
theorem Got.skip {n1 n2 n3 : Int} {i j k : Nat} {f : Int} (h : Got n1 n2 n3 i j k f) (hd : due (potP n1 i) (potP n2 j) (potP n3 k) = false) : Got n1 n2 n3 i j (k + 1) f := by
  refine ⟨h.1, by have := h.2.1; omega, fun a b c hb hc ho hq => ?_⟩
  by_cases e : a = i ∧ b = j ∧ c = k
  · obtain ⟨rfl, rfl, rfl⟩ := e; rw [hd] at hq; cases hq
  · exact h.2.2 a b c hb hc (by omega) hq
theorem Got.hit {n1 n2 n3 : Int} {i j k : Nat} {f : Int} (h : Got n1 n2 n3 i j k f) : Got n1 n2 n3 i j (k + 1) (f + 1) :=
  ⟨by have := h.1; omega, by have := h.2.1; omega, fun _ _ _ _ _ _ _ => by have := h.1; omega⟩
theorem Got.row {n1 n2 n3 : Int} {i j : Nat} {f : Int} (h : Got n1 n2 n3 i j 3 f) : Got n1 n2 n3 i (j + 1) 0 f :=
  ⟨h.1, by have := h.2.1; omega, fun a b c hb hc ho hq => h.2.2 a b c hb hc (by omega) hq⟩
theorem Got.page {n1 n2 n3 : Int} {i : Nat} {f : Int} (h : Got n1 n2 n3 i 3 0 f) : Got n1 n2 n3 (i + 1) 0 0 f :=
  ⟨h.1, by have := h.2.1; omega, fun a b c hb hc ho hq => h.2.2 a b c hb hc (by omega) hq⟩
theorem Got.le27 {n1 n2 n3 : Int} {i j k : Nat} {f : Int} (h : Got n1 n2 n3 i j k f) (hi : i < 3) (hj : j < 3) (hk : k < 3) : f ≤ 27 := by have := h.2.1; omega
theorem Got.all {n1 n2 n3 : Int} {f : Int} (h : Got n1 n2 n3 3 0 0 f) : 0 < f := by
  obtain ⟨i, j, k, hi, hj, hk, hd⟩ := some_pick n1 n2 n3
  exact h.2.2 i j k hj hk (by omega) hd
/-- between the turns of the three loops -/
noncomputable def JA (LED : List (Addr × Obj)) (m0 : Str → Option Value) (G : Int → Prop) (m : Str → Option Value) (news : List (Addr × Obj)) : Prop :=
  news = LED ∧ (∀ y, y ≠ Str.ofString "one" → y ≠ Str.ofString "two" → y ≠ Str.ofString "three" → y ≠ Str.ofString "pick" → y ≠ Str.ofString "seen" → y ≠ Str.ofString "found" → m y = m0 y) ∧ ∃ f t, m (Str.ofString "found") = some (.int f t) ∧ G f
theorem shapeA {m m0 : Str → Option Value} {a b c d e g : Str} {v : Option Value} (h : ∀ y, y ≠ a → y ≠ b → y ≠ c → y ≠ d → y ≠ e → y ≠ g → m y = m0 y) (hg : m g = v) :
    ∃ va vb vc vd ve, m = (fun y => if y = g then v else if y = a then va else if y = b then vb else if y = c then vc else if y = d then vd else if y = e then ve else m0 y) ∧ va = m a ∧ vb = m b := by
  refine ⟨m a, m b, m c, m d, m e, funext fun y => ?_, rfl, rfl⟩
  by_cases h6 : y = g
  · rw [if_pos h6, h6, hg]
  by_cases h1 : y = a
  · rw [if_neg h6, if_pos h1, h1]
  by_cases h2 : y = b
  · rw [if_neg h6, if_neg h1, if_pos h2, h2]
  by_cases h3 : y = c
  · rw [if_neg h6, if_neg h1, if_neg h2, if_pos h3, h3]
  by_cases h4 : y = d
  · rw [if_neg h6, if_neg h1, if_neg h2, if_neg h3, if_pos h4, h4]
  by_cases h5 : y = e
  · rw [if_neg h6, if_neg h1, if_neg h2, if_neg h3, if_neg h4, if_pos h5, h5]
  rw [if_neg h6, if_neg h1, if_neg h2, if_neg h3, if_neg h4, if_neg h5, h y h1 h2 h3 h4 h5 h6]
theorem nine {a b c d e f g h i : Addr × Obj} {l : List (Addr × Obj)} (h1 : a ∈ l) (h2 : b ∈ l) (h3 : c ∈ l) (h4 : d ∈ l) (h5 : e ∈ l) (h6 : f ∈ l) (h7 : g ∈ l) (h8 : h ∈ l) (h9 : i ∈ l) : ∀ q ∈ [a, b, c, d, e, f, g, h, i], q ∈ l :=
  List.forall_mem_cons.mpr ⟨h1, List.forall_mem_cons.mpr ⟨h2, List.forall_mem_cons.mpr ⟨h3, List.forall_mem_cons.mpr ⟨h4, List.forall_mem_cons.mpr ⟨h5, List.forall_mem_cons.mpr ⟨h6, List.forall_mem_cons.mpr ⟨h7, List.forall_mem_cons.mpr ⟨h8, List.forall_mem_cons.mpr ⟨h9, List.forall_mem_nil _⟩⟩⟩⟩⟩⟩⟩⟩⟩
theorem up4 {a b c d q : Addr × Obj} {l : List (Addr × Obj)} (h : q ∈ l) : q ∈ a :: b :: c :: d :: l := .tail _ (.tail _ (.tail _ (.tail _ h)))
theorem pc_dueB (w : World) (l : Addr) (n : Nat) (x1 x2 x3 : Addr) (o1 o2 o3 : Obj) (p1 p2 p3 : P3) (b : Bool) (k1 : p1.Fit) (k2 : p2.Fit) (k3 : p3.Fit) (h1 : p1.Obj o1) (h2 : p2.Obj o2) (h3 : p3.Obj o3) (hb : due p1 p2 p3 = b) :
    PC w 114 3 [.ref l] [(l, W.listOf #[.ref x1, .ref x2, .ref x3] n), (x1, o1), (x2, o2), (x3, o3)] (fun tl v => tl = [] ∧ v = .bool b) := by
  subst hb
  exact pc_due w l n x1 x2 x3 o1 o2 o3 p1 p2 p3 h1 h2 h3 k1.ok k2.ok k3.ok
theorem my_titem {prog : Program} {w : World} {A : Around} {E : Value → Shared → Prop} {s : Shared} {h₀ : Heap} {L : Addr} {news : List (Addr × Obj)} {value slice : PySem.Expr} {l : Addr} {vs : Array Value} {c : Nat} {k : Int} {u : Tok} {v : Value} {Q : Value → Shared → Prop}
    (N : News h₀ L s.heap news) (hm : (l, ({ cls := .type "tuple", data := .seq vs c } : Obj)) ∈ news) (hx : nthL vs.toList k.toNat = some v) (h0 : 0 ≤ k) (hhi : k < 2 ^ 63) (h : Q v s)
    (hs : subscripted slice false (.ref l) (.int k u) = operate [.ref l, .int k u] (getItem (.ref l) (.int k u))) :
    wpAny (model prog w) A (subscriptTail value slice (.ref l) (.int k u)) Q E s := by
  have hl : s.heap.IsTuple l vs := ⟨_, N.get hm, rfl, _, rfl⟩
  rw [nthL_eq] at hx
  have hk : k.toNat < vs.size := by
    have := (List.getElem?_eq_some_iff.mp hx).1
    simpa using this
  exact tail_any hl.typeIs slot_tuple_getitem.lookup (getItem_tuple hl (by omega) hhi (seqIndex_of h0 (by omega)) (by simpa using hx) h) hs
theorem loadX_L {M : Model} {A : Around} {E : Value → Shared → Prop} {s : Shared} {h₀ : Heap} {L a : Addr} {m : Str → Option Value} {cn : Str} {cs : Scope} {ccd : Value} {cl : List (Str × Addr)} {x : Str} {v : Value} {Q : Value → Shared → Prop} (F : Fr h₀ L s.heap m) (hv : m x = some v) (h : Q v s)
    (hk : cs.kind = .function) (hx : (envX cn cs L a ccd cl).kindOf x = some .local) : wpAny M A (loadName (envX cn cs L a ccd cl) x) Q E s := wpAny_loadName_local hk hx F.ns hv h
theorem nm_F {h₀ h : Heap} {L : Addr} {m : Str → Option Value} (F : Fr h₀ L h m) {P : Prop} (k : ∀ M, M = m → P) : P := k m rfl
theorem pickT {h₀ h : Heap} {L : Addr} {keep rest l : List (Addr × Obj)} (N : News h₀ L h l) (hs : ∀ q ∈ keep, q ∈ l) (ht : ∀ q ∈ rest, q ∈ l) : News h₀ L h (keep ++ rest) := fun q hq => by
  rcases List.mem_append.mp hq with hq | hq
  · exact N q (hs q hq)
  · exact N q (ht q hq)
theorem items3E {n1 n2 n3 : Int} {t1 t2 t3 : Tok} {i : Nat} {v : Value} {P : Prop} (h : (#[.int n1 t1, .int n2 t2, .int n3 t3] : Array Value)[i]? = some v) (k : ∀ n t, v = .int n t → [n1, n2, n3].take (i + 1) = [n1, n2, n3].take i ++ [n] → P) : P := by
  obtain ⟨n, t, e, hn⟩ := items3 h
  exact k n t e hn
theorem JT.elim {L D lp : Addr} {oD : Obj} {m0 : Str → Option Value} {ns : List Int} {i : Nat} {m : Str → Option Value} {news : List (Addr × Obj)} {P : Prop} (h : JT L D lp oD m0 ns i m news)
    (k : ∀ va vb vc vd vs c o1 o2 v1 v2 rest, m = (fun y => if y = Str.ofString "number" then va else if y = Str.ofString "texts" then vb else if y = Str.ofString "often" then vc else if y = Str.ofString "whole" then vd else m0 y) → news = ((lp, W.listOf vs c) :: (L + 1, o1) :: (L + 1 + 1, o2) :: (D, oD) :: rest) → o1.data = .cell v1 → o2.data = .cell v2 → (∀ q ∈ rest, q.1 ≠ lp) → (∀ q ∈ rest, q.1 ≠ L + 1) → (∀ q ∈ rest, q.1 ≠ L + 1 + 1) → PotsR rest (ns.take i) vs.toList → P) : P := by
  obtain ⟨hm, vs, c, o1, o2, v1, v2, rest, rfl, d1, d2, r0, r1, r2, hR⟩ := h
  obtain ⟨va, vb, vc, vd, rfl⟩ := shape4 hm
  exact k va vb vc vd vs c o1 o2 v1 v2 rest rfl rfl d1 d2 r0 r1 r2 hR
theorem JT.mk {L D lp : Addr} {oD : Obj} {m0 : Str → Option Value} {ns : List Int} {i : Nat} {m : Str → Option Value} {vs : Array Value} {c : Nat} {o1 o2 : Obj} {v1 v2 : Option Value} {rest : List (Addr × Obj)}
    (hm : ∀ y, y ≠ Str.ofString "number" → y ≠ Str.ofString "texts" → y ≠ Str.ofString "often" → y ≠ Str.ofString "whole" → m y = m0 y) (d1 : o1.data = .cell v1) (d2 : o2.data = .cell v2) (r0 : ∀ q ∈ rest, q.1 ≠ lp) (r1 : ∀ q ∈ rest, q.1 ≠ L + 1) (r2 : ∀ q ∈ rest, q.1 ≠ L + 1 + 1) (hR : PotsR rest (ns.take i) vs.toList) :
    JT L D lp oD m0 ns i m ((lp, W.listOf vs c) :: (L + 1, o1) :: (L + 1 + 1, o2) :: (D, oD) :: rest) := ⟨hm, vs, c, o1, o2, v1, v2, rest, rfl, d1, d2, r0, r1, r2, hR⟩
theorem startE {ns : List Int} {ws : List Value} {P : Prop} (h : IntsAre ws (ns.take 3 ++ [1555, 6221, 8884].drop ((ns.length : Nat) : Int).toNat)) (k : ∀ n1 n2 n3 t1 t2 t3, ws = [.int n1 t1, .int n2 t2, .int n3 t3] → P) : P := by
  obtain ⟨n1, n2, n3, e⟩ := three_of ns
  rw [e] at h
  obtain ⟨t1, t2, t3, rfl⟩ := items_of h
  exact k n1 n2 n3 t1 t2 t3 rfl
theorem texts3E {n : Int} {x1 x2 x3 : Str} {t1 t2 t3 : Tok} (I1 : Inks x1 (potOne n).a (potOne n).b (potOne n).c) (I2 : Inks x2 (potTwo n).a (potTwo n).b (potTwo n).c) (I3 : Inks x3 (potMix n).a (potMix n).b (potMix n).c) {i : Nat} {v : Value} {P : Prop} (h : (#[.str x1 t1, .str x2 t2, .str x3 t3] : Array Value)[i]? = some v)
    (k : ∀ x t, v = .str x t → Inks x (potP n i).a (potP n i).b (potP n i).c → P) : P := by
  obtain ⟨x, t, e, hx⟩ := texts3 I1 I2 I3 h
  exact k x t e hx
/-- one of three, with its ledger line -/
theorem three3E {a b c : Addr} {oa ob oc : Obj} {P : Nat → Obj → Prop} (h1 : P 0 oa) (h2 : P 1 ob) (h3 : P 2 oc) {i : Nat} {v : Value} {h₀ h : Heap} {L : Addr} {c0 : Addr × Obj} {os l : List (Addr × Obj)} {R : Prop} (N : News h₀ L h (c0 :: (os ++ l))) (m1 : (a, oa) ∈ l) (m2 : (b, ob) ∈ l) (m3 : (c, oc) ∈ l) (h : (#[.ref a, .ref b, .ref c] : Array Value)[i]? = some v)
    (k : ∀ x ox, v = .ref x → P i ox → (x, ox) ∈ c0 :: (os ++ l) → R) : R := by
  match i, h with
  | 0, h => exact k _ _ (Option.some.inj h).symm h1 (.tail _ (List.mem_append_right _ m1))
  | 1, h => exact k _ _ (Option.some.inj h).symm h2 (.tail _ (List.mem_append_right _ m2))
  | 2, h => exact k _ _ (Option.some.inj h).symm h3 (.tail _ (List.mem_append_right _ m3))
  | (k + 3), h => simp at h
theorem pot_use {w : World} {p : Program} {loose : List Str} {mean : ExcName → Option Value} {mg mb : Str → Option Value} {dp un : Nat} {gd : Option (List Code)} {cn : Str} {cs : Scope} {a : Addr} {ccd : Value} {cl : List (Str × Addr)} {outer : List Env} {A₀ : Around} {base h₀ : Heap} {L : Addr} {m : Str → Option Value} {s : Shared} {news : List (Addr × Obj)} {Q E : Value → Shared → Prop} {n : Int} {t : Tok}
    (B : Below A₀ base outer h₀) (F : Fr h₀ L s.heap m) (X : (Mine.hd.heap_39 w.params).In h₀) (T : Top p loose mean mg mb h₀) (hk : cs.kind = .function) (N : News h₀ L s.heap news) (hd : dp + 12 < recursionLimit) (hu : un + 8 * 12 < cLine)
    (k : ∀ h' tk' T' A' B' C' a' b' c' cT cA cB cC oa ob oc x1 x2 x3 t1 t2 t3 t4 t5, Fr h₀ L h' m → News h₀ L h' ((T', { cls := .type "tuple", data := .seq #[.ref A', .ref B', .ref C'] cT }) :: (A', W.listOf #[.ref a', .ref b', .ref c'] cA) :: (B', W.listOf #[.str x1 t1, .str x2 t2, .str x3 t3] cB) :: (C', W.listOf #[.int (oft n 4096) t4, .int (oft n 8192) t5] cC) :: (a', oa) :: (b', ob) :: (c', oc) :: news) →
      (∀ q ∈ news, q.1 ≠ T') → (∀ q ∈ news, q.1 ≠ A') → (∀ q ∈ news, q.1 ≠ B') → (∀ q ∈ news, q.1 ≠ C') → (∀ q ∈ news, q.1 ≠ a') → (∀ q ∈ news, q.1 ≠ b') → (∀ q ∈ news, q.1 ≠ c') →
      (potOne n).Obj oa → (potTwo n).Obj ob → (potMix n).Obj oc → Inks x1 (potOne n).a (potOne n).b (potOne n).c → Inks x2 (potTwo n).a (potTwo n).b (potTwo n).c → Inks x3 (potMix n).a (potMix n).b (potMix n).c → x3.length ≤ 36 → Q (.ref T') { s with heap := h', toks := tk' }) :
    wpAny (model PG w) (ktrTop dp un gd cn cs L a ccd cl outer) (call (.ref 71) [.int n t]) Q E s :=
  pc_use (pc_pot w n t) B F X T hk N (List.forall_mem_nil _) hd hu fun r h' tk' tl F' N' hne _ _ ho => by
    obtain ⟨T', A', B', C', a', b', c', cT, cA, cB, cC, oa, ob, oc, x1, x2, x3, t1, t2, t3, t4, t5, rfl, rfl, P1, P2, P3, I1, I2, I3⟩ := ho
    exact k h' tk' T' A' B' C' a' b' c' cT cA cB cC oa ob oc x1 x2 x3 t1 t2 t3 t4 t5 F' N' (hne _ ix0) (hne _ ix1) (hne _ ix2) (hne _ ix3) (hne _ ix4) (hne _ ix5) (hne _ ix6) P1 P2 P3 I1 I2 I3 (inks_le (fit_mix _) I3)
theorem PotsR.threeE {rest : List (Addr × Obj)} {a b c : Int} {vs : Array Value} {P : Prop} (h : PotsR rest [a, b, c] vs.toList)
    (k : ∀ l1 l2 l3 ts1 ts2 ts3 c1 c2 c3, vs = #[.ref l1, .ref l2, .ref l3] → (l1, W.listOf ts1 c1) ∈ rest → (l2, W.listOf ts2 c2) ∈ rest → (l3, W.listOf ts3 c3) ∈ rest → ts1.size = 3 → ts2.size = 3 → ts3.size = 3 → PotAt rest a ts1 → PotAt rest b ts2 → PotAt rest c ts3 → P) : P := by
  obtain ⟨l1, l2, l3, rfl, ⟨ts1, c1, m1, z1, p1⟩, ⟨ts2, c2, m2, z2, p2⟩, ⟨ts3, c3, m3, z3, p3⟩⟩ := h.three
  exact k l1 l2 l3 ts1 ts2 ts3 c1 c2 c3 rfl m1 m2 m3 z1 z2 z3 p1 p2 p3
theorem PotAt.elim {LED : List (Addr × Obj)} {n : Int} {ts : Array Value} {i : Nat} {v : Value} {P : Prop} (h : PotAt LED n ts) (hv : ts[i]? = some v)
    (k : ∀ t c x y ox oy, v = .ref t → (t, ({ cls := .type "tuple", data := .seq #[.ref x, .ref y] c } : Obj)) ∈ LED → (x, ox) ∈ LED → (y, oy) ∈ LED → (potP n i).Obj ox → NameObj oy (tellP (potP n i)) → P) : P := by
  obtain ⟨t, c, x, y, ox, oy, e, mt, mx, my, po, no⟩ := h _ _ hv
  exact k t c x y ox oy e mt mx my po no
theorem opq {h₀ h : Heap} {L : Addr} {m : Str → Option Value} {P : Prop} (F : Fr h₀ L h m) (C : (Str → Option Value) → Prop) (hc : C m) (k : ∀ M, C M → Fr h₀ L h M → P) : P := k m hc F
section
variable {LED : List (Addr × Obj)} {m0 : Str → Option Value} {Gf : Int → Prop} {m : Str → Option Value} {news : List (Addr × Obj)} {P : Prop}
theorem JA.mk {f : Int} {t : Tok} (hm : ∀ y, y ≠ Str.ofString "one" → y ≠ Str.ofString "two" → y ≠ Str.ofString "three" → y ≠ Str.ofString "pick" → y ≠ Str.ofString "seen" → y ≠ Str.ofString "found" → m y = m0 y) (hf : m (Str.ofString "found") = some (.int f t)) (hG : Gf f) : JA LED m0 Gf m LED := ⟨rfl, hm, f, t, hf, hG⟩
theorem JA.elim (h : JA LED m0 Gf m news)
    (k : ∀ va vb vc vd ve f t, m = (fun y => if y = Str.ofString "found" then some (.int f t) else if y = Str.ofString "one" then va else if y = Str.ofString "two" then vb else if y = Str.ofString "three" then vc else if y = Str.ofString "pick" then vd else if y = Str.ofString "seen" then ve else m0 y) → news = LED → Gf f → P) : P := by
  obtain ⟨rfl, hm, f, t, hf, hG⟩ := h
  obtain ⟨va, vb, vc, vd, ve, rfl, -, -⟩ := shapeA hm hf
  exact k va vb vc vd ve f t rfl rfl hG
theorem JA.elim2 {x : Value} (h : JA LED m0 Gf m news ∧ m (Str.ofString "one") = some x)
    (k : ∀ vb vc vd ve f t, m = (fun y => if y = Str.ofString "found" then some (.int f t) else if y = Str.ofString "one" then some x else if y = Str.ofString "two" then vb else if y = Str.ofString "three" then vc else if y = Str.ofString "pick" then vd else if y = Str.ofString "seen" then ve else m0 y) → news = LED → Gf f → P) : P := by
  obtain ⟨⟨rfl, hm, f, t, hf, hG⟩, h1⟩ := h
  obtain ⟨va, vb, vc, vd, ve, e, ea, -⟩ := shapeA hm hf
  obtain rfl := ea.trans h1
  exact k vb vc vd ve f t e rfl hG
theorem JA.elim3 {x z : Value} (h : (JA LED m0 Gf m news ∧ m (Str.ofString "one") = some x) ∧ m (Str.ofString "two") = some z)
    (k : ∀ vc vd ve f t, m = (fun y => if y = Str.ofString "found" then some (.int f t) else if y = Str.ofString "one" then some x else if y = Str.ofString "two" then some z else if y = Str.ofString "three" then vc else if y = Str.ofString "pick" then vd else if y = Str.ofString "seen" then ve else m0 y) → news = LED → Gf f → P) : P := by
  obtain ⟨⟨⟨rfl, hm, f, t, hf, hG⟩, h1⟩, h2⟩ := h
  obtain ⟨va, vb, vc, vd, ve, e, ea, eb⟩ := shapeA hm hf
  obtain rfl := ea.trans h1
  obtain rfl := eb.trans h2
  exact k vc vd ve f t e rfl hG
end
/-- what the loops leave of the names -/
noncomputable def Same (M m : Str → Option Value) : Prop := ∀ y, y ≠ Str.ofString "one" → y ≠ Str.ofString "two" → y ≠ Str.ofString "three" → y ≠ Str.ofString "pick" → y ≠ Str.ofString "seen" → y ≠ Str.ofString "found" → M y = m y
theorem law_run (w : World) (l : Addr) (vs : List Value) (ns : List Int) (hI : IntsAre vs ns) (h63 : ns.length ≤ 63) :
    RunAt w 124 [(Str.ofString "script", .ref l)] (fun g => g.IsList l vs.toArray) (.bool true) := by
  k_with_none
  k_with "mem" => (first | (with_reducible apply List.mem_cons_self) | (with_reducible refine' List.mem_cons_of_mem _ ?_; k_mem))
  k_with "ne" => (refine neN ?_; first | exact Mine.sk1 | exact Mine.sk2 | exact Mine.sk3 | exact Mine.sk4 | exact Ne.symm Mine.sk1 | exact Ne.symm Mine.sk2 | exact Ne.symm Mine.sk3 | exact Ne.symm Mine.sk4 | exact Mine.n4a (by assumption) | exact Mine.n4b (by assumption) | exact Mine.n4c (by assumption) | exact Mine.n4d (by assumption) | exact Mine.ne_by (by assumption) (by k_mem) | exact Ne.symm (Mine.n4a (by assumption)) | exact Ne.symm (Mine.n4b (by assumption)) | exact Ne.symm (Mine.n4c (by assumption)) | exact Ne.symm (Mine.n4d (by assumption)) | exact Ne.symm (Mine.ne_by (by assumption) (by k_mem)) | exact Mine.ne_lt (by assumption) (by k_mem) | exact Ne.symm (Mine.ne_lt (by assumption) (by k_mem)) | exact Mine.nl1 (by assumption) (by k_mem) | exact Mine.nl2 (by assumption) (by k_mem) | exact Mine.nl3 (by assumption) (by k_mem) | exact Mine.nl4 (by assumption) (by k_mem))
  k_with "eval Name" => (refine nameX_L (by assumption) (by with_unfolding_all exact hP) ?_ (by rfl) (by rfl))
  k_with "exec For" => ((with_reducible show wpAny _ _ (exec (Stmt.For (Expr.Name _ _) _ _ [] _) _) _ _ _); (rename Fr _ _ _ _ => F'); (with_unfolding_all refine For_invUF F' (by rfl) (by rfl) ?_))
  k_with "exec For Name Subscript cons nil" => ((with_reducible show wpAny _ _ (exec (Stmt.For (Expr.Name _ _) _ _ [] _) _) _ _ _); (rename Fr _ _ _ _ => F'); (with_unfolding_all refine For_invUF F' (by rfl) (by rfl) ?_))
  k_with "pyIter ref" => ((with_reducible show wpAny _ _ (pyIter (Value.ref _)) (fun it s₂ => LoopAtU _ _ _ _ _ _ _ _ _ it s₂) _ _); refine leaf_iter ?_)
  k_with "eval ListComp" => (refine comp_F (by with_reducible assumption) (by with_unfolding_all rfl) (by decide) (by with_unfolding_all rfl) (by decide) (by with_unfolding_all rfl) ?_ (by intro _; with_unfolding_all rfl))
  k_with "eval Name" => (refine nameCX (by assumption) (by k_mem) (by assumption) (by assumption) ?_ (by rfl) (by rfl) (by decide))
  k_with "eval Name" => (refine nameCC (by assumption) (by rfl) (by k_mem) (by assumption) ?_ (by rfl) (by rfl) (by decide))
  k_with "subscriptTail" => ((with_reducible show wpAny _ _ (subscriptTail _ _ (Value.ref _) (Value.int _ _)) _ _ _); k_dflt (refine my_item (by assumption) (by k_mem) (by with_unfolding_all rfl) (by decide) (by decide) ?_ (by with_unfolding_all rfl)))
  k_with "subscriptTail Name Constant ref int" => ((with_reducible show wpAny _ _ (subscriptTail _ _ (Value.ref _) (Value.int _ _)) _ _ _); k_dflt (refine my_item (by assumption) (by k_mem) (by with_unfolding_all rfl) (by decide) (by decide) ?_ (by with_unfolding_all rfl)))
  k_with "call ref" => (k_here; (with_reducible show wpAny _ _ (call (Value.ref 71) _) _ _ _); refine pot_use (by assumption) (by assumption) (by assumption) (by assumption) (by rfl) (by assumption) (lim_d hd (by decide)) (lim_d hu (by decide)) ?_; intro h' tk' T' A' B' C' a' b' c' _ _ _ _ oa' ob' oc' x1' x2' x3' _ _ _ _ _ F' N' g1' g2' g3' g4' g5' g6' g7' P1' P2' P3' I1' I2' I3' lx3')
  k_with "call ref" => (k_here; (with_reducible show wpAny _ _ (call (Value.ref 66) _) _ _ _); refine pc_useR (by assumption) (by assumption) (by assumption) (by assumption) (by rfl) (by assumption) (by exact List.forall_mem_nil _) (lim_d hd (by decide)) (lim_d hu (by decide)) (pc_countedI _ _ _ _ _ _ (by exact inks_whole (by assumption) (by assumption) (by assumption)) (by exact (potM_bound _).1) (by exact (potM_bound _).1) (by exact (potM_bound _).1) (by (have := potM_bound ‹Int›); omega)) ?_; intro h' tk' yw' ow' F' N' hne' kp' tn' Pw'; clear tn')
  k_with "call ref" => (k_here; (with_reducible show wpAny _ _ (call (Value.ref 66) _) _ _ _); refine pc_useR (by assumption) (by assumption) (by assumption) (by assumption) (by rfl) (by assumption) (by exact List.forall_mem_nil _) (lim_d hd (by decide)) (lim_d hu (by decide)) (pc_countedP _ _ _ _ ?_ (by assumption)) ?_; (· assumption); intro h' tk' yc' oc' F' N' hne' kp' tn' Pc')
  k_with "call ref" => (k_here; (with_reducible show wpAny _ _ (call (Value.ref 78) _) _ _ _); refine pc_useN (by assumption) (by assumption) (by assumption) (by assumption) (by rfl) (by assumption) (by (repeat (refine sub_cons (by k_mem) ?_)); exact List.forall_mem_nil _) (lim_d hd (by decide)) (lim_d hu (by decide)) (pc_toldG _ _ _ _ ?_ ?_ (by assumption)) ?_; (· exact (potM_bound _).1); (· (have := potM_bound ‹Int›); omega); intro h' tk' yg' _ _ _ _ F' N' hne'; clear hne')
  k_with "call ref" => (k_here; (with_reducible show wpAny _ _ (call (Value.ref 78) _) _ _ _); refine pc_useR (by assumption) (by assumption) (by assumption) (by assumption) (by rfl) (by assumption) (by (repeat (refine sub_cons (by k_mem) ?_)); exact List.forall_mem_nil _) (lim_d hd (by decide)) (lim_d hu (by decide)) (pc_toldP _ _ _ _ ?_ (by assumption)) ?_; (· assumption); intro h' tk' yt' ot' F' N' hne' kp' tn' Pt')
  k_with "call ref" => (k_here; (with_reducible show wpAny _ _ (call (Value.ref 83) _) _ _ _); refine pc_useR (by assumption) (by assumption) (by assumption) (by assumption) (by rfl) (by assumption) (by (repeat (refine sub_cons (by k_mem) ?_)); exact List.forall_mem_nil _) (lim_d hd (by decide)) (lim_d hu (by decide)) (pc_backP _ _ _ _ ?_ (by assumption)) ?_; (· assumption); intro h' tk' yb' ob' F' N' hne' kp' tn' Pb')
  k_with "binaryOp Mult str int" => (refine mulTwo (by assumption) (by exact P3.Ok.a0 (P3.Fit.ok (by assumption))) (by exact P3.Ok.b0 (P3.Fit.ok (by assumption))) (by exact P3.Ok.c0 (P3.Fit.ok (by assumption))) (by exact fit_36 (by assumption)) (by exact (oft_bound _ _).1) (by exact (oft_bound _ _).2) ?_; intro ym tm km hlm hIm)
  k_with "compareOp NotEq ref ref" => (k_here; (with_reducible show wpAny _ _ (compareOp CmpOp.NotEq (Value.ref _) (Value.ref _)) _ _ _); k_dflt (refine ne_paints (by assumption) (by k_mem) (by k_mem) (by k_mem) (by k_mem) (by k_mem) (by k_mem) (by k_mem) (by k_mem) (by assumption) (by assumption) (by assumption) (by assumption) (by assumption) (by assumption) (by ke_room) ?_))
  k_with "compareOp Eq ref ref" => (k_here; (with_reducible show wpAny _ _ (compareOp CmpOp.Eq (Value.ref _) (Value.ref _)) _ _ _); k_dflt (refine eq_nil (by assumption) (by k_mem) (by assumption) (by k_mem) (by ke_room) ?_))
  k_with "compareOp NotEq float float" => with_reducible refine ne_zero ?_
  k_with "newTuple" => refine newTuple_raw ?_
  k_with "subscriptTail Name Constant ref int" => ((with_reducible show wpAny _ _ (subscriptTail _ _ (Value.ref _) (Value.int _ _)) _ _ _); first | k_dflt (refine my_titem (by assumption) (by k_mem) (by with_unfolding_all rfl) (by decide) (by decide) ?_ (by with_unfolding_all rfl)) | k_dflt (refine my_item (by assumption) (by k_mem) (by with_unfolding_all rfl) (by decide) (by decide) ?_ (by with_unfolding_all rfl)))
  k_with "loadName" => (refine loadX_L (by assumption) (by with_unfolding_all rfl) ?_ (by rfl) (by rfl))
  k_with "call ref" => (k_here; (with_reducible show wpAny _ _ (call (Value.ref 102) _) _ _ _); refine pc_useV (by assumption) (by assumption) (by assumption) (by assumption) (by rfl) (by assumption) (by (repeat (refine sub_cons (by k_mem) ?_)); exact List.forall_mem_nil _) (lim_d hd (by decide)) (lim_d hu (by decide)) (pc_seenB _ _ _ _ _ _ _ _ _ _ _ _ _ ?_ ?_ ?_ (by assumption) (by assumption) (by assumption) (by assumption)) ?_; (· assumption); (· assumption); (· assumption); intro h' tk' F' N' kp'; clear kp')
  k_with "call ref" => (k_here; (with_reducible show wpAny _ _ (call (Value.ref 114) _) _ _ _); refine pc_useV (by assumption) (by assumption) (by assumption) (by assumption) (by rfl) (by assumption) (by (repeat (refine sub_cons (by k_mem) ?_)); exact List.forall_mem_nil _) (lim_d hd (by decide)) (lim_d hu (by decide)) (pc_dueB _ _ _ _ _ _ _ _ _ _ _ _ _ ?_ ?_ ?_ (by assumption) (by assumption) (by assumption) (by assumption)) ?_; (· assumption); (· assumption); (· assumption); intro h' tk' F' N' kp'; clear kp')
  k_with "call ref" => (k_here; (with_reducible show wpAny _ _ (call (Value.ref 107) _) _ _ _); refine pc_useE (by assumption) (by assumption) (by assumption) (by assumption) (by rfl) (by assumption) (by (repeat (refine sub_cons (by k_mem) ?_)); exact List.forall_mem_nil _) (lim_d hd (by decide)) (lim_d hu (by decide)) (pc_greys _ _ _ _ _ _ _ _ _ _ _ _ (by assumption) (by assumption) (by assumption)) ?_; intro h' tk' tg' F' N' kp'; clear kp')
  k_with "call ref" => (k_here; (with_reducible show wpAny _ _ (call (Value.ref 119) _) _ _ _); refine pc_useE (by assumption) (by assumption) (by assumption) (by assumption) (by rfl) (by assumption) (by (repeat (refine sub_cons (by k_mem) ?_)); exact List.forall_mem_nil _) (lim_d hd (by decide)) (lim_d hu (by decide)) (pc_stirredP _ _ _ _ _ _ _ _ _ _ _ _ ?_ ?_ ?_ ?_ ?_ (by assumption) (by assumption) (by assumption)) ?_; (· assumption); (· assumption); (· assumption); (· assumption); (· assumption); intro h' tk' ts' F' N' kp'; clear kp')
  refine' run_of (f := 124) ?k6 ?_
  (case k6 => k_is)
  intro p loose mean mg mb dp un gd outer A₀ base g L' fa ccd h₁ s tk cells Q B F N Y X T hd hu hL hret
  k_cells Y; (try simp only [List.cons_append, List.nil_append] at N)
  (try dsimp only)
  (try k_unmd); (try k_fold)
  k_steps
  rename Fr _ _ _ _ => F1
  rename News _ _ _ _ => N1
  rename IntsAre _ (List.take 3 _ ++ _) => hI3
  refine startE hI3 ?_
  intro n1 n2 n3 t1 t2 t3 ew
  subst ew
  clear hI3
  refine nm_0 N1 ?_
  intro D eD; subst eD
  refine nm_4 N1 ?_
  intro lp elp; subst elp
  have N2 := pickN N1 (List.forall_mem_cons.mpr ⟨ix4, List.forall_mem_cons.mpr ⟨ix6, List.forall_mem_cons.mpr ⟨ix5, List.forall_mem_cons.mpr ⟨ix0, List.forall_mem_nil _⟩⟩⟩⟩)
  unfold Leaf
  refine for_list (l := D) rfl F1 N2 (JT L' D lp _ _ [n1, n2, n3]) ⟨fun _ _ _ _ _ => rfl, _, _, _, _, _, _, [], rfl, by assumption, by assumption, List.forall_mem_nil _, List.forall_mem_nil _, List.forall_mem_nil _, .nil⟩ (fun _ _ _ h => JT.mem h) ?step ?fin
  case step =>
    intro i v m₁ news₁ s₁ I oI hv hJ hII F3 N3
    refine items3E hv ?_
    intro n t ev hn
    subst ev
    refine JT.elim hJ ?_
    intro va vb vc vd vs c o1 o2 v1 v2 rest em en d1 d2 r0 r1 r2 hRP
    clear hJ
    subst em; subst en
    have hvs : vs.size ≤ 3 := hRP.size
    have hvs2 : vs.size ≤ sizeLine := Nat.le_trans hvs (by decide)
    have f1 := fit_one n
    have f2 := fit_two n
    have f3 := fit_mix n
    clear N1 F1 N2 hv
    k_steps
    rename Fr _ _ _ _ => F1
    rename News _ _ _ _ => N1
    unfold Leaf
    refine comp_rows (iter_list (l := B') (items := #[.str x1' _, .str x2' _, .str x3' _]) rfl ⟨_, N1.get (by k_mem), rfl, _, rfl⟩) F1 N1 (fun j o => (potP n j).Obj o) ?_ ?_
    · intro C i v h₃ tk₃ oC mm ys os E' hi hP hR hNC hm F2 N2
      refine texts3E I1' I2' I3' hP ?_
      intro x tx ev hx
      subst ev
      have fx := fit_pot n i
      have lx := inks_le fx hx
      have N3 := pickN N2 (sub_cons ix0 (List.forall_mem_nil _))
      clear N1 F1 N2 hP I1' I2' I3'
      (try k_unmd); (try k_fold)
      k_steps
      exact elt_one kp' N' tn' hR Pc'
    intro D1 h4 tk4 d1' d2' d3' od1 od2 od3 c1 Q1 Q2 Q3 F4 N4 hne na nb nc
    clear N1 F1 hne na nb nc
    have Q1 : (potOne n).Obj od1 := Q1
    have Q2 : (potTwo n).Obj od2 := Q2
    have Q3 : (potMix n).Obj od3 := Q3
    k_steps
    rename Fr _ _ _ _ => F1
    rename News _ _ _ _ => N1
    clear Q1 Q2 Q3
    unfold Leaf
    refine comp_rows (iter_list (l := A') (items := #[.ref a', .ref b', .ref c']) rfl ⟨_, N1.get (by k_mem), rfl, _, rfl⟩) F1 N1 (fun j o => NameObj o (tellP (potP n j))) ?_ ?_
    · intro C i v h₃ tk₃ oC mm ys os E' hi hP hR hNC hm F2 N2
      have fx := fit_pot n i
      refine three3E (v := v) (P := fun i o => (potP n i).Obj o) (a := a') (b := b') (c := c') P1' P2' P3' N2 (by k_mem) (by k_mem) (by k_mem) hP ?_
      intro x ox ev px hx3
      subst ev
      have px : (potP n i).Obj ox := px
      have N3 := pickN N2 (sub_cons ix0 (sub_cons hx3 (List.forall_mem_nil _)))
      clear N1 F1 N2 hP hx3
      (try k_unmd); (try k_fold)
      k_steps
      exact elt_one kp' N' tn' hR Pt'
    intro D2 h5 tk5 y1' y2' y3' oy1 oy2 oy3 c2 Y1 Y2 Y3 F5 N5 hne na nb nc
    have e1 := ne4 (a := lp) (b := L' + 1) (c := L' + 1 + 1) (e := I) hne (by k_mem) (by k_mem) (by k_mem) (by k_mem)
    have e2 := ne4 (a := lp) (b := L' + 1) (c := L' + 1 + 1) (e := I) na (by k_mem) (by k_mem) (by k_mem) (by k_mem)
    have e3 := ne4 (a := lp) (b := L' + 1) (c := L' + 1 + 1) (e := I) nb (by k_mem) (by k_mem) (by k_mem) (by k_mem)
    have e4 := ne4 (a := lp) (b := L' + 1) (c := L' + 1 + 1) (e := I) nc (by k_mem) (by k_mem) (by k_mem) (by k_mem)
    have N6 := pickT (keep := [(D2, W.listOf #[.ref y1', .ref y2', .ref y3'] c2), (y3', oy3), (y2', oy2), (y1', oy1), (A', _), (a', oa'), (b', ob'), (c', oc'), (I, oI), (lp, W.listOf vs c), (L' + 1, _), (L' + 1 + 1, _), (D, _)]) (rest := rest) N5 ((by (repeat (refine sub_cons (by k_mem) ?_)); exact List.forall_mem_nil _)) (fun q hq => by (repeat (refine List.mem_cons_of_mem _ ?_)); exact hq)
    simp only [List.cons_append, List.nil_append] at N6
    clear N1 F1 hne na nb nc N5
    k_steps
    rename Fr _ _ _ _ => F1
    rename News _ _ _ _ => N1
    unfold Leaf
    refine comp_rows (iter_list (l := D2) (items := #[.ref y1', .ref y2', .ref y3']) rfl ⟨_, N1.get (by k_mem), rfl, _, rfl⟩) F1 N1 (fun j o => (potP n j).Obj o) ?_ ?_
    · intro C i v h₃ tk₃ oC mm ys os E' hi hP hR hNC hm F2 N2
      have fx := fit_pot n i
      refine three3E (v := v) (P := fun i o => NameObj o (tellP (potP n i))) (a := y1') (b := y2') (c := y3') Y1 Y2 Y3 N2 (by k_mem) (by k_mem) (by k_mem) hP ?_
      intro x ox ev px hx3
      subst ev
      have px : NameObj ox (tellP (potP n i)) := px
      have N3 := pickN N2 (sub_cons ix0 (sub_cons hx3 (List.forall_mem_nil _)))
      clear N1 F1 N2 hP hx3
      (try k_unmd); (try k_fold)
      k_steps
      exact elt_one kp' N' tn' hR Pb'
    intro D3 h6 tk6 z1' z2' z3' oz1 oz2 oz3 c3 Z1 Z2 Z3 F6 N6 hne na nb nc
    clear N1 F1 hne na nb nc
    have Z1 : (potOne n).Obj oz1 := Z1
    have Z2 : (potTwo n).Obj oz2 := Z2
    have Z3 : (potMix n).Obj oz3 := Z3
    have hdue : due (potP n 0) (potP n 1) (potP n 2) = true := due_pot n
    have g0 := fit_pot n 0
    have g1 := fit_pot n 1
    have g2 := fit_pot n 2
    k_steps
    rename IsRange _ _ _ _ _ _ _ _ => hr
    rename Fr _ _ _ _ => F1
    rename News _ _ _ _ => N1
    have N7 := pickT (keep := [(D2, W.listOf #[.ref y1', .ref y2', .ref y3'] c2), (y3', oy3), (y2', oy2), (y1', oy1), (A', W.listOf #[.ref a', .ref b', .ref c'] _), (a', oa'), (b', ob'), (c', oc'), (I, oI), (lp, W.listOf vs c), (L' + 1, _), (L' + 1 + 1, _), (D, _)]) (rest := rest) N1 ((by (repeat (refine sub_cons (by k_mem) ?_)); exact List.forall_mem_nil _)) (fun q hq => by (repeat (refine List.mem_cons_of_mem _ ?_)); exact hq)
    simp only [List.cons_append, List.nil_append] at N7
    clear N1
    unfold Leaf
    refine comp_rows (iter_range rfl hr (by decide) (by decide)) F1 N7 (TupP [a', b', c'] [y1', y2', y3']) ?_ ?_
    · intro C i v h₃ tk₃ oC mm ys os E' hi hP hR hNC hm F2 N2
      obtain ⟨tj, rfl⟩ := hP
      have N3 := pickN N2 (List.forall_mem_cons.mpr ⟨ix0, pickC N7 (k := [(D2, _), (A', _), (L' + 1, _), (L' + 1 + 1, _)]) ((by (repeat (refine sub_cons (by k_mem) ?_)); exact List.forall_mem_nil _))⟩)
      clear N7 F1 N2
      match i, hi with
      | 0, _ =>
        replace hm : mm (Str.ofString "j") = some (.int 0 tj) := hm
        (try k_unmd); (try k_fold)
        k_steps
        exact elt_tup hR ⟨_, _, _, rfl, rfl, rfl⟩
      | 1, _ =>
        replace hm : mm (Str.ofString "j") = some (.int 1 tj) := hm
        (try k_unmd); (try k_fold)
        k_steps
        exact elt_tup hR ⟨_, _, _, rfl, rfl, rfl⟩
      | 2, _ =>
        replace hm : mm (Str.ofString "j") = some (.int 2 tj) := hm
        (try k_unmd); (try k_fold)
        k_steps
        exact elt_tup hR ⟨_, _, _, rfl, rfl, rfl⟩
    intro D4 h7 tk7 u1' u2' u3' ou1 ou2 ou3 c4 U1 U2 U3 F7 N8 hne na nb nc
    have i1 := ne4 (a := lp) (b := L' + 1) (c := L' + 1 + 1) (e := I) hne (by k_mem) (by k_mem) (by k_mem) (by k_mem)
    have i2 := ne4 (a := lp) (b := L' + 1) (c := L' + 1 + 1) (e := I) na (by k_mem) (by k_mem) (by k_mem) (by k_mem)
    have i3 := ne4 (a := lp) (b := L' + 1) (c := L' + 1 + 1) (e := I) nb (by k_mem) (by k_mem) (by k_mem) (by k_mem)
    have i4 := ne4 (a := lp) (b := L' + 1) (c := L' + 1 + 1) (e := I) nc (by k_mem) (by k_mem) (by k_mem) (by k_mem)
    clear N7 F1 hne na nb nc N6
    k_steps
    rename Fr _ _ _ _ => F9
    rename News _ _ _ _ => N9
    have N10 := pickT (keep := [(I, oI), (lp, W.listOf (vs.push (.ref D4)) (c + 1)), (L' + 1, _), (L' + 1 + 1, _), (D, W.listOf #[.int n1 t1, .int n2 t2, .int n3 t3] 0), (D4, W.listOf #[.ref u1', .ref u2', .ref u3'] c4), (u1', ou1), (u2', ou2), (u3', ou3), (a', oa'), (b', ob'), (c', oc'), (y1', oy1), (y2', oy2), (y3', oy3)]) (rest := rest) N9 ((by (repeat (refine sub_cons (by k_mem) ?_)); exact List.forall_mem_nil _)) (fun q hq => by (repeat (refine List.mem_cons_of_mem _ ?_)); exact hq)
    simp only [List.cons_append, List.nil_append] at N10
    refine turn_end F9 N10 ?ne (JT.mk ?hm (by assumption) (by assumption) ?r0 ?r1 ?r2 ?hR)
    case hm => (intro y q1 q2 q3 q4; (repeat (refine (if_neg (by assumption)).trans ?_)); rfl)
    case ne => ((repeat (refine all_cons1 ?_ (by k_ne))); exact fun q hq => hII q (.tail _ (.tail _ (.tail _ (.tail _ hq)))))
    case r0 => ((repeat (refine all_cons1 ?_ (by k_ne))); exact r0)
    case r1 => ((repeat (refine all_cons1 ?_ (by k_ne))); exact r1)
    case r2 => ((repeat (refine all_cons1 ?_ (by k_ne))); exact r2)
    case hR => (rw [hn, Array.toList_push]; exact .snoc (hRP.mono tail10) (potR_of U1 U2 U3 P1' P2' P3' Y1 Y2 Y3))
  case fin =>
    intro h9 tk9 m9 news9 F9 N9 hJ9
    refine JT.elim hJ9 ?_
    intro va vb vc vd vs c o1 o2 v1 v2 rest em en d1 d2 r0 r1 r2 hRP
    clear hJ9
    subst em; subst en
    refine PotsR.threeE hRP ?_
    intro l1 l2 l3 ts1 ts2 ts3 cc1 cc2 cc3 ev hl1 hl2 hl3 hz1 hz2 hz3 hi1 hi2 hi3
    clear hRP
    subst ev
    have N0 := pickN (k := (lp, W.listOf #[.ref l1, .ref l2, .ref l3] c) :: rest) N9 (sub_cons ix0 fun q hq => .tail _ (.tail _ (.tail _ (.tail _ hq))))
    clear N1 F1 N2 N9 d1 d2 r0 r1 r2
    k_steps
    rename Fr _ _ _ _ => F1
    rename News _ _ _ _ => N1
    unfold Leaf
    refine opq F1 (fun M => M (Str.ofString "pots") = some (.ref lp) ∧ ∃ t, M (Str.ofString "found") = some (.int 0 t)) ⟨by with_unfolding_all rfl, _, if_pos rfl⟩ ?_
    intro M1 hM1 F1
    have hP := hM1.1
    refine for_list (l := l1) (items := ts1) (c := cc1) rfl F1 N1 (fun i => JA ((lp, W.listOf #[.ref l1, .ref l2, .ref l3] c) :: rest) M1 (Got n1 n2 n3 i 0 0)) (hM1.2.elim fun t e => JA.mk (fun y _ _ _ _ _ _ => rfl) e Got.zero) (fun i m news h => by rw [h.1]; exact .tail _ hl1) ?s1 ?f1
    case s1 =>
      intro i1 v1 m₁ news₁ s₁ I1 oI1 hv1 hJ hI1 F3 N3
      have hj1 : i1 < 3 := by rw [← hz1]; exact (Array.getElem?_eq_some_iff.mp hv1).1
      refine hi1.elim hv1 ?_
      intro t1 k1 x1 y1 ox1 oy1 ev mt1 mx1 my1 po1 no1
      subst ev
      refine JA.elim hJ ?_
      intro va' vb' vc' vd' ve' f tf em en hG
      clear hJ
      subst em; subst en
      clear N1 F1 hv1 hM1
      k_steps
      rename Fr _ _ _ _ => F1
      rename News _ _ _ _ => N1
      unfold Leaf
      refine opq F1 (fun M => M (Str.ofString "pots") = some (.ref lp) ∧ Same M M1 ∧ M (Str.ofString "found") = some (.int f tf) ∧ M (Str.ofString "one") = some (.ref t1)) ⟨by with_unfolding_all exact hP, fun y _ _ _ _ _ _ => by (repeat (refine (if_neg (by assumption)).trans ?_)); rfl, by with_unfolding_all rfl, by with_unfolding_all rfl⟩ ?_
      intro M2 hM2 F1
      (try clear F3); (try clear N3); clear hP
      have hP := hM2.1
      refine for_list (l := l2) (items := ts2) (c := cc2) rfl F1 N1 (fun j m news => JA ((I1, oI1) :: (lp, W.listOf #[.ref l1, .ref l2, .ref l3] c) :: rest) M2 (Got n1 n2 n3 i1 j 0) m news ∧ m (Str.ofString "one") = some (.ref t1)) ⟨JA.mk (fun y _ _ _ _ _ _ => rfl) hM2.2.2.1 hG, hM2.2.2.2⟩ (fun i m news h => by rw [h.1.1]; exact .tail _ (.tail _ hl2)) ?s2 ?f2
      case s2 =>
        intro i2 v2 m₂ news₂ s₂ I2 oI2 hv2 hJ2 hI2 F4 N4
        have hj2 : i2 < 3 := by rw [← hz2]; exact (Array.getElem?_eq_some_iff.mp hv2).1
        refine hi2.elim hv2 ?_
        intro t2 k2 x2 y2 ox2 oy2 ev mt2 mx2 my2 po2 no2
        subst ev
        refine JA.elim2 hJ2 ?_
        intro vb2 vc2 vd2 ve2 f2 tf2 em en hG2
        clear hJ2
        subst em; subst en
        clear N1 F1 hv2 hM2 hG
        k_steps
        rename Fr _ _ _ _ => F1
        rename News _ _ _ _ => N1
        unfold Leaf
        refine opq F1 (fun M => Same M M2 ∧ M (Str.ofString "found") = some (.int f2 tf2) ∧ M (Str.ofString "one") = some (.ref t1) ∧ M (Str.ofString "two") = some (.ref t2)) ⟨fun y _ _ _ _ _ _ => by (repeat (refine (if_neg (by assumption)).trans ?_)); rfl, by with_unfolding_all rfl, by with_unfolding_all rfl, by with_unfolding_all rfl⟩ ?_
        intro M3 hM3 F1
        (try clear F4); (try clear N4)
        refine for_list (l := l3) (items := ts3) (c := cc3) rfl F1 N1 (fun k m news => (JA ((I2, oI2) :: (I1, oI1) :: (lp, W.listOf #[.ref l1, .ref l2, .ref l3] c) :: rest) M3 (Got n1 n2 n3 i1 i2 k) m news ∧ m (Str.ofString "one") = some (.ref t1)) ∧ m (Str.ofString "two") = some (.ref t2)) ⟨⟨JA.mk (fun y _ _ _ _ _ _ => rfl) hM3.2.1 hG2, hM3.2.2.1⟩, hM3.2.2.2⟩ (fun i m news h => by rw [h.1.1.1]; exact .tail _ (.tail _ (.tail _ hl3))) ?s3 ?f3
        case s3 =>
          intro i3 v3 m₃ news₃ s₃ I3 oI3 hv3 hJ3 hI3 F5 N5
          have hj3 : i3 < 3 := by rw [← hz3]; exact (Array.getElem?_eq_some_iff.mp hv3).1
          refine hi3.elim hv3 ?_
          intro t3 k3 x3 y3 ox3 oy3 ev mt3 mx3 my3 po3 no3
          subst ev
          refine JA.elim3 hJ3 ?_
          intro vc3 vd3 ve3 f3 tf3 em en hG3
          clear hJ3
          subst em; subst en
          have N6 := pickT (keep := [(t1, _), (t2, _), (t3, _), (x1, ox1), (x2, ox2), (x3, ox3), (y1, oy1), (y2, oy2), (y3, oy3)]) N5 (nine (up4 mt1) (up4 mt2) (up4 mt3) (up4 mx1) (up4 mx2) (up4 mx3) (up4 my1) (up4 my2) (up4 my3)) (fun q hq => hq)
          simp only [List.cons_append, List.nil_append] at N6
          have g1 := fit_pot n1 i1
          have g2 := fit_pot n2 i2
          have g3 := fit_pot n3 i3
          have hf0 := hG3.1
          have hf9 : f3 ≤ 27 := Got.le27 hG3 hj1 hj2 hj3
          clear N1 F1 N5 hl1 hl2 hl3 mt1 mt2 mt3 mx1 mx2 mx3 my1 my2 my3 hM3 hv3 hI1 hI2 hi1 hi2 hi3 hj2 hj3 hG2 hP
          cases hb : due (potP n1 i1) (potP n2 i2) (potP n3 i3) with
          | false =>
            k_steps
            rename Fr _ _ _ _ => F7
            rename News _ _ _ _ => N7
            exact turn_end F7 (fun q hq => N7 q (by (repeat (first | with_reducible assumption | refine List.mem_cons_of_mem _ ?_)))) hI3 ⟨⟨JA.mk (fun y _ _ _ _ _ _ => by (repeat (refine (if_neg (by assumption)).trans ?_)); rfl) (by with_unfolding_all rfl) (hG3.skip hb), by with_unfolding_all rfl⟩, by with_unfolding_all rfl⟩
          | true =>
            k_steps
            all_goals
              rename Fr _ _ _ _ => F7
              rename News _ _ _ _ => N7
              exact turn_end F7 (fun q hq => N7 q (by (repeat (first | with_reducible assumption | refine List.mem_cons_of_mem _ ?_)))) hI3 ⟨⟨JA.mk (fun y _ _ _ _ _ _ => by (repeat (refine (if_neg (by assumption)).trans ?_)); rfl) (by with_unfolding_all rfl) hG3.hit, by with_unfolding_all rfl⟩, by with_unfolding_all rfl⟩
        case f3 =>
          intro h8 tk8 m8 news8 F8 N8 hJ8
          rw [hz3] at hJ8
          obtain ⟨⟨⟨rfl, hm8, f8, tf8, hf8, hG8⟩, hone8⟩, -⟩ := hJ8
          k_steps
          exact turn_end F8 N8 hI2 ⟨JA.mk (fun y q1 q2 q3 q4 q5 q6 => (hm8 y q1 q2 q3 q4 q5 q6).trans (hM3.1 y q1 q2 q3 q4 q5 q6)) hf8 hG8.row, hone8⟩
      case f2 =>
        intro h8 tk8 m8 news8 F8 N8 hJ8
        rw [hz2] at hJ8
        obtain ⟨⟨rfl, hm8, f8, tf8, hf8, hG8⟩, -⟩ := hJ8
        k_steps
        exact turn_end F8 N8 hI1 (JA.mk (fun y q1 q2 q3 q4 q5 q6 => (hm8 y q1 q2 q3 q4 q5 q6).trans (hM2.2.1 y q1 q2 q3 q4 q5 q6)) hf8 hG8.page)
    case f1 =>
      intro h8 tk8 m8 news8 F8 N8 hJ8
      rw [hz1] at hJ8
      refine JA.elim hJ8 ?_
      intro va8 vb8 vc8 vd8 ve8 f8 tf8 em en hG8
      clear hJ8
      subst em; subst en
      have hpos := hG8.all
      have hle := hG8.2.1
      clear N1 F1
      k_steps
      show Q (.ret (.bool (decide (0 < f8)))) _
      rw [decide_eq_true hpos]
      exact hret _ _ _ (by assumption)
end Mine
end
section
open PySem PySem.W PySem.Spec PySem.Calls PyProof.Rows
set_option maxRecDepth 100000
set_option maxHeartbeats 2000000
namespace Mine
theorem fill_top : (PySem.Challenge.rw_kl0415_01 = PySem.Challenge.rw_kl0415_01) ∧ (Mine.hd.heap_39 = Mine.hd.heap_39) := by w_top off; k_fill; exact ⟨rfl, rfl⟩
theorem top : PySem.Challenge.rw_kl0415_01.Holds := Mine.hd (by
  k_with_none
  k_go0
  all_goals try k_fold
  rename Shared => s1
  refine wpAny_mono (law_run _ _ _ _ (by assumption) (by omega) (by k_is) _ _ _ _ _ _ _ _ _ _ _ _ _ _ _ _ _ _ _ (fun fl s' => ∃ h' tk' L2 m', Fr s1.heap L2 h' m' ∧ fl = Flow.ret (.bool true) ∧ s' = { s1 with heap := h', toks := tk' }) (by assumption) (by assumption) (by assumption) (by assumption) (by assumption) (by assumption) ?hd ?hu (by assumption) (fun h' tk' m' F' => ⟨h', tk', _, m', F', rfl, rfl⟩)) ?_ (fun _ _ h => h.elim)
  case hd => decide
  case hu => decide
  rintro _ _ ⟨h', tk', L2, m', F', rfl, rfl⟩
  k_steps)
end Mine
end
set_option maxRecDepth 100000 in
set_option maxHeartbeats 8000000 in
theorem PySem.Challenge.cw_kl0415_01_holds : PySem.Challenge.rw_kl0415_01.Holds := by
  exact Mine.top
