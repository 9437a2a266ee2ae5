import PyProof.Rows.All
import Wide.All
import OpenK.AllK
import Wide.FinOn
import PySem.Challenge.RW_wk0011_01
open PySem PySem.W PyProof.Rows
set_option Elab.async false
namespace Mine
noncomputable def q : Program := view PySem.Challenge.pw_wk0011_01 [1, 2, 4, 6, 7, 8, 9, 11, 12, 13, 14, 15, 16, 17, 18, 19]
local macro_rules | `(tactic| o_law) => `(tactic| refine holds_law (by decide +kernel) fun said => ?_)
local macro_rules | `(tactic| o_head $H) => `(tactic| (refine holds_open (q := q) (loose := []) (Xt := fun s => xlAt q [] s && recOk (RowW.records _) s) (XP := XL q []) (Yf := Hook.obs $H) (Ya := Hook.val $H) (YP := Hook.says $H) (N := 1778) ?hl (Hook.of $H) (Hook.keeps $H) (fun s e => xl_of s (Bool.and_eq_true_iff.mp e).1) XL.keeps (by rfl) (by rfl) (by rfl) (fun s e => recFacts_of (Bool.and_eq_true_iff.mp e).2) (by rfl) (by first | assumption | decide +kernel) (by decide +kernel) ⟨rfl, rfl, rfl, rfl, rfl, by decide +kernel⟩ ?hw ?hc; (case hl => (intro w; kernel_rfl))))
set_option maxRecDepth 100000 in
set_option maxHeartbeats 8000000 in
open_top hd for PySem.Challenge.rw_wk0011_01
end Mine
set_option maxRecDepth 100000
set_option linter.unusedVariables false
set_option compiler.extract_closed false
open PySem.Spec PySem.Calls
namespace Mine

noncomputable abbrev NoE : Value → Shared → Prop := fun _ _ => False
noncomputable abbrev PS := List (PySem.Str × Value)
noncomputable abbrev LG := List (Addr × Obj)
/-- what is known of a frame's locals -/
noncomputable def Loc (ps : List (PySem.Str × Value)) (m : PySem.Str → Option Value) : Prop := ∀ x v, ps.lookup x = some v → m x = some v

/-- the frame at L over base g: its locals, and the ledger of objects made since -/
structure Sx (g : Heap) (L : Addr) (ps : List (PySem.Str × Value)) (nw : List (Addr × Obj)) (h : Heap) : Prop where
  fr : ∃ m, Fr g L h m ∧ Loc ps m
  led : News g L h nw
  nd : (nw.map (·.1)).Nodup

theorem Loc.put {ps m} {x : PySem.Str} {v : Value} (l : Loc ps m) : Loc ((x, v) :: ps) (fun y => if y = x then some v else m y) := by
  intro y u e
  rw [List.lookup_cons] at e
  by_cases hy : y = x
  · subst hy; simpa using e
  · have : (y == x) = false := by simpa using hy
    rw [this] at e
    simp only [if_neg hy]
    exact l y u e

section
variable {g h h' : Heap} {L : Addr} {ps : List (PySem.Str × Value)} {nw : List (Addr × Obj)}

theorem Sx.get (H : Sx g L ps nw h) {a : Addr} {o : Obj} (hm : (a, o) ∈ nw) : h.get? a = some o := (H.led _ hm).1
theorem Sx.old (H : Sx g L ps nw h) {a : Addr} {o : Obj} (e : g.get? a = some o) : h.get? a = some o := by
  obtain ⟨m, F, _⟩ := H.fr
  exact F.keep a o e
theorem Sx.lt (H : Sx g L ps nw h) : L < h.objs.size := by
  obtain ⟨m, F, _⟩ := H.fr
  exact F.ns.lt
theorem Sx.lts (H : Sx g L ps nw h) : ∀ p ∈ nw, p.1 < h.objs.size := fun p hp => Heap.lt_size (H.led p hp).1
theorem Sx.ltg (H : Sx g L ps nw h) : g.objs.size ≤ h.objs.size := by
  obtain ⟨m, F, _⟩ := H.fr
  exact Nat.le_trans F.above (Nat.le_of_lt F.ns.lt)

theorem Sx.sub {nw' : List (Addr × Obj)} (H : Sx g L ps nw h) (hs : nw'.Sublist nw) : Sx g L ps nw' h :=
  ⟨H.fr, fun p hp => H.led p (hs.subset hp), (hs.map _).nodup H.nd⟩
theorem Sx.perm {nw' : List (Addr × Obj)} (H : Sx g L ps nw h) (hs : nw.Perm nw') : Sx g L ps nw' h :=
  ⟨H.fr, fun p hp => H.led p (hs.symm.subset hp), (hs.map _).nodup_iff.mp H.nd⟩
theorem Sx.locs {ps' : List (PySem.Str × Value)} (H : Sx g L ps nw h) (hl : ∀ x v, ps'.lookup x = some v → ps.lookup x = some v) : Sx g L ps' nw h := by
  obtain ⟨m, F, l⟩ := H.fr
  exact ⟨⟨m, F, fun x v e => l x v (hl x v e)⟩, H.led, H.nd⟩

theorem Sx.push (H : Sx g L ps nw h) (o : Obj) (hf : o.isFreed = false) : Sx g L ps ((h.objs.size, o) :: nw) (h.push o) := by
  obtain ⟨m, F, l⟩ := H.fr
  refine ⟨⟨m, F.push o, l⟩, H.led.push F o hf, ?_⟩
  rw [List.map_cons, List.nodup_cons]
  refine ⟨fun hm => ?_, H.nd⟩
  obtain ⟨p, hp, e⟩ := List.mem_map.mp hm
  exact Nat.lt_irrefl _ (e ▸ H.lts p hp)

theorem Sx.set {m' : PySem.Str → Option Value} {ps' : List (PySem.Str × Value)} (H : Sx g L ps nw h) (hn : h'.Ns L m') (hs : Heap.SameBut L h h') (hl : Loc ps' m') : Sx g L ps' nw h' := by
  obtain ⟨m, F, _⟩ := H.fr
  exact ⟨⟨m', F.set hn hs, hl⟩, H.led.set hs, H.nd⟩

/-- one object of the ledger is changed -/
theorem Sx.change (H : Sx g L ps nw h) {a : Addr} {o o' : Obj} {i : Nat} (hi : nw[i]? = some (a, o)) (hs : Heap.SameBut a h h') (ho : h'.get? a = some o') : Sx g L ps (nw.set i (a, o')) h' := by
  obtain ⟨m, F, l⟩ := H.fr
  have ha := H.led (a, o) (List.mem_of_getElem? hi)
  have hkeys : (nw.set i (a, o')).map (·.1) = nw.map (·.1) := by
    rw [List.map_set]
    apply List.ext_getElem?
    intro j
    rw [List.getElem?_set]
    by_cases hj : i = j
    · subst hj
      obtain ⟨hlt, he⟩ := List.getElem?_eq_some_iff.mp hi
      simp [hlt, he]
    · simp [hj]
  refine ⟨⟨m, F.change hs ha.2.1 ha.2.2, l⟩, fun p hp => ?_, hkeys ▸ H.nd⟩
  obtain ⟨j, hj, e⟩ := List.mem_iff_getElem.mp hp
  rw [List.length_set] at hj
  rw [List.getElem_set] at e
  by_cases hij : i = j
  · rw [if_pos hij] at e
    subst e
    exact ⟨ho, ha.2⟩
  · rw [if_neg hij] at e
    subst e
    have hp' := H.led nw[j] (List.getElem_mem hj)
    refine ⟨(hs.2 _ ?_).trans hp'.1, hp'.2⟩
    intro e
    obtain ⟨hlt, he⟩ := List.getElem?_eq_some_iff.mp hi
    have q := (List.pairwise_iff_getElem.mp H.nd)
    have e1 : (nw.map (·.1))[i]'(by simpa using hlt) = (nw.map (·.1))[j]'(by simpa using hj) := by
      simp only [List.getElem_map]
      rw [he, e]
    rcases Nat.lt_or_gt_of_ne hij with hlt' | hlt'
    · exact q i j (by simpa using hlt) (by simpa using hj) hlt' e1
    · exact q j i (by simpa using hj) (by simpa using hlt) hlt' e1.symm
end

/-- what a frame knows of the world below it -/
structure Cal (w : World) (n : Nat) (A : Around) (env : Env) (g : Heap) : Prop where
  top : ∃ p loose mean mg mb, Top p loose mean mg mb g
  kin : (hd.heap_1 w.params).In g
  stk : 0 < n → ∃ A₀ base outer, Below A₀ base outer g ∧ A.frames = some (env :: outer)
  frm : 0 < n → env.frame = some env.locals
  kind : env.scope.kind = .function
  depth : A.depth + n ≤ 900
  units : A.units + 20 * n ≤ 9000
  handled : A.handled = none

section
variable {w : World} {n : Nat} {A : Around} {env : Env} {g : Heap}
theorem Cal.less {k : Nat} (C : Cal w n A env g) (h : k ≤ n) : Cal w k A env g :=
  { C with stk := fun h0 => C.stk (Nat.lt_of_lt_of_le h0 h), frm := fun h0 => C.frm (Nat.lt_of_lt_of_le h0 h), depth := Nat.le_trans (Nat.add_le_add_left h _) C.depth, units := Nat.le_trans (Nat.add_le_add_left (Nat.mul_le_mul_left _ h) _) C.units }
theorem Cal.room (C : Cal w n A env g) : A.depth < recursionLimit := Nat.lt_of_le_of_lt (Nat.le_trans (Nat.le_add_right _ _) C.depth) (by decide)
theorem Cal.unit (C : Cal w n A env g) : A.units < cLine := Nat.lt_of_le_of_lt (Nat.le_trans (Nat.le_add_right _ _) C.units) (by decide)
end

/-- a def of the text is called: the ledger's part mu is handed to it, all else stands below it -/
theorem codeP {prog : Program} {w : World} {n : Nat} {A : Around} {env : Env} {g : Heap} {ps : List (PySem.Str × Value)} {mu fz nw : List (Addr × Obj)} {s : Shared} {R : Result → Shared → Prop}
    {name qual : PySem.Str} {params : Arguments} {body : List Stmt} {scope : Scope} {cl : List (PySem.Str × Addr)} {dV kV doc pm cdv ct : Value} {an : Option Addr} {fo : Obj} {f : Addr} {args : List Value} {binds : List (PySem.Str × Value)}
    (C : Cal w (n + 1) A env g) (H : Sx g env.locals ps nw s.heap) (hp : nw.Perm (mu ++ fz))
    (ho : s.heap.get? f = some fo) (hd : fo.data = .func (fnX name qual params body scope cl dV kV doc pm an cdv ct)) (hcd : s.heap.CodeRec cdv qual)
    (hbind : BindsTo s (fnX name qual params body scope cl dV kV doc pm an cdv ct) ⟨args, []⟩ binds) (hloc : ∀ y ∈ binds, scope.names.lookup y.1 = some .local)
    (h : ∀ g' L' h₁ tk A', s.toks ≤ tk → Cal w n A' (envX qual scope L' f cdv cl) g' → Sx g' L' binds.reverse mu h₁ → (∀ b o, s.heap.get? b = some o → b ∉ mu.map (·.1) → g'.get? b = some o) →
      wpAny (model prog w) A' (execs body (envX qual scope L' f cdv cl))
        (fun fl s' => ∃ h' tk ps' mu', s' = { s with heap := h', toks := tk } ∧ Sx g' L' ps' mu' h' ∧ (Sx g env.locals ps (mu' ++ fz) h' → R (.ok (.ret (match fl with | .ret v => v | _ => .none))) { s with heap := h', toks := tk }))
        (fun _ _ => False) { s with heap := h₁, toks := tk })
    (hcell : ∀ x ∈ scope.names, x.2 ≠ .cell) (hco : scope.isCoroutine = false := by rfl) (hgen : scope.isGenerator = false := by rfl) (hk : scope.kind = .function := by rfl) :
    codeAny (model prog w) A (.call (.ref f) ⟨args, []⟩) R s := by
  obtain ⟨p, loose, mean, mg, mb, T⟩ := C.top
  obtain ⟨A₀, base, outer, B, hA⟩ := C.stk (Nat.succ_pos n)
  have H' := H.perm hp
  obtain ⟨m, F, hl⟩ := H'.fr
  have hsm : mu.Sublist (mu ++ fz) := List.sublist_append_left _ _
  have Hm := H'.sub hsm
  -- the ground that the callee stands on
  obtain ⟨FG, BG, st, _⟩ := groundX (R := fun _ _ => True) B F Hm.led hA (C.frm (Nat.succ_pos n)) C.kind
  have keepG : ∀ b o, s.heap.get? b = some o → b ∉ mu.map (·.1) → (hideAll s.heap (mu.map (·.1))).get? b = some o := fun b o e hb => hideAll_get _ e hb
  refine codeAny_call_def (fd := fnX name qual params body scope cl dV kV doc pm an cdv ct) (body := body) (binds := binds) C.room ho hd (T.nolimit.keeps F.keep) hcd rfl hbind hcell hloc (fun h₁ hns hk₁ => ?_) hco hgen hk
  have hC : Cal w n (A.deeper (envX qual scope s.heap.objs.size f cdv cl)) (envX qual scope s.heap.objs.size f cdv cl) (hideAll s.heap (mu.map (·.1))) := by
    refine ⟨⟨p, loose, mean, mg, mb, T.keeps st⟩, C.kin.keeps st, fun _ => ⟨A, base, env :: outer, BG, ?_⟩, fun _ => rfl, hk, ?_, ?_, C.handled⟩
    · show A.frames.map _ = _
      rw [hA]; rfl
    · have := C.depth
      show A.depth + 1 + n ≤ 900
      omega
    · have := C.units
      show A.units + 3 + 20 * n ≤ 9000
      omega
  have hS : Sx (hideAll s.heap (mu.map (·.1))) s.heap.objs.size binds.reverse mu h₁ := by
    refine ⟨⟨_, ⟨hns, fun b o e => hk₁ b o (of_hideAll _ e), Nat.le_of_eq (hideAll_size _ _)⟩, fun x v e => e⟩, fun p hp => ⟨hk₁ _ _ (Hm.led p hp).1, Nat.ne_of_lt (Heap.lt_size (Hm.led p hp).1), hideAll_none _ (List.mem_map_of_mem hp)⟩, Hm.nd⟩
  refine wpAny_mono (h _ s.heap.objs.size h₁ _ _ (Nat.le_add_right _ _) hC hS keepG) (fun fl s' hh => ?_) fun _ _ x => x.elim
  obtain ⟨h', tk, ps', mu', rfl, S', k⟩ := hh
  refine k ?_
  obtain ⟨m', F', _⟩ := S'.fr
  obtain ⟨oL, es, ep, hL, r⟩ := F.ns
  have nL : env.locals ∉ mu.map (·.1) := fun q => by
    obtain ⟨p, hp, e⟩ := List.mem_map.mp q
    exact (Hm.led p hp).2.1 e
  have hLg := keepG _ _ hL nL
  have fzg : ∀ p ∈ fz, (hideAll s.heap (mu.map (·.1))).get? p.1 = some p.2 := fun p hp => by
    refine keepG _ _ (H'.led p (List.mem_append_right _ hp)).1 fun q => ?_
    have nd := H'.nd
    rw [List.map_append, List.nodup_append] at nd
    exact nd.2.2 _ q _ (List.mem_map_of_mem hp) rfl
  refine ⟨⟨m, ⟨⟨oL, es, ep, F'.keep _ _ hLg, r⟩, fun b o e => F'.keep b o (st b o e), F.above⟩, hl⟩, fun p hp => ?_, ?_⟩
  · rcases List.mem_append.mp hp with hp | hp
    · refine ⟨(S'.led p hp).1, fun q => ?_, ?_⟩
      · have := (S'.led p hp).2.2
        rw [q, hLg] at this; cases this
      · cases q : g.get? p.1 with
        | none => rfl
        | some o => have := (S'.led p hp).2.2; rw [st _ _ q] at this; cases this
    · exact ⟨F'.keep _ _ (fzg p hp), (H'.led p (List.mem_append_right _ hp)).2⟩
  · rw [List.map_append, List.nodup_append]
    have nd := H'.nd
    rw [List.map_append, List.nodup_append] at nd
    refine ⟨S'.nd, nd.2.1, fun a ha b hb e => ?_⟩
    subst e
    obtain ⟨p, hp, rfl⟩ := List.mem_map.mp ha
    obtain ⟨q, hq, e⟩ := List.mem_map.mp hb
    have h1 := (S'.led p hp).2.2
    have h2 := fzg q hq
    rw [e, h1] at h2
    cases h2

theorem callP' {prog : Program} {w : World} {n : Nat} {A : Around} {env : Env} {g : Heap} {ps : List (PySem.Str × Value)} {mu fz nw : List (Addr × Obj)} {s : Shared} {Q : Value → Shared → Prop} {E : Value → Shared → Prop}
    {name qual : PySem.Str} {params : Arguments} {body : List Stmt} {scope : Scope} {cl : List (PySem.Str × Addr)} {dV kV doc pm cdv ct : Value} {an : Option Addr} {fo : Obj} {f : Addr} {args : List Value} {binds : List (PySem.Str × Value)}
    (C : Cal w (n + 1) A env g) (H : Sx g env.locals ps nw s.heap) (hp : nw.Perm (mu ++ fz))
    (ho : s.heap.get? f = some fo) (hd : fo.data = .func (fnX name qual params body scope cl dV kV doc pm an cdv ct)) (hcd : s.heap.CodeRec cdv qual)
    (hbind : BindsTo s (fnX name qual params body scope cl dV kV doc pm an cdv ct) ⟨args, []⟩ binds) (hloc : ∀ y ∈ binds, scope.names.lookup y.1 = some .local)
    (h : ∀ g' L' h₁ tk A', s.toks ≤ tk → Cal w n A' (envX qual scope L' f cdv cl) g' → Sx g' L' binds.reverse mu h₁ → (∀ b o, s.heap.get? b = some o → b ∉ mu.map (·.1) → g'.get? b = some o) →
      wpAny (model prog w) A' (execs body (envX qual scope L' f cdv cl))
        (fun fl s' => ∃ h' tk ps' mu', s' = { s with heap := h', toks := tk } ∧ Sx g' L' ps' mu' h' ∧ (Sx g env.locals ps (mu' ++ fz) h' → Q (match fl with | .ret v => v | _ => .none) { s with heap := h', toks := tk }))
        (fun _ _ => False) { s with heap := h₁, toks := tk })
    (hcell : ∀ x ∈ scope.names, x.2 ≠ .cell) (hco : scope.isCoroutine = false := by rfl) (hgen : scope.isGenerator = false := by rfl) (hk : scope.kind = .function := by rfl) :
    wpAny (model prog w) A (call (.ref f) args []) Q E s :=
  wpAny_call (codeP C H hp ho hd hcd hbind hloc h hcell hco hgen hk)

theorem callK {prog : Program} {w : World} {n : Nat} {A : Around} {env : Env} {g : Heap} {ps : List (PySem.Str × Value)} {mu fz nw : List (Addr × Obj)} {h : Heap} {G : Array GenState} {D : Drawn} {tk₀ : Nat} {O : OsState} {Q : Value → Shared → Prop} {E : Value → Shared → Prop}
    {name qual : PySem.Str} {params : Arguments} {body : List Stmt} {scope : Scope} {dV kV doc pm cdv ct oc : Value} {an od : Option Addr} {osl : Array (Option Value)} {f : Addr} {args : List Value} {binds : List (PySem.Str × Value)}
    (C : Cal w (n + 1) A env g) (H : Sx g env.locals ps nw h) (hp : nw.Perm (mu ++ fz))
    (ho : (hd.heap_1 w.params).lookup f = some ⟨oc, od, .func (fnOf name qual params body scope dV kV doc pm an cdv ct), osl⟩) (hcd : codeIn (hd.heap_1 w.params) cdv qual = true)
    (hbind : BindsTo ⟨h, G, D, tk₀, O⟩ (fnOf name qual params body scope dV kV doc pm an cdv ct) ⟨args, []⟩ binds) (hloc : ∀ y ∈ binds, scope.names.lookup y.1 = some .local)
    (hcell : ∀ x ∈ scope.names, x.2 ≠ .cell) (hco : scope.isCoroutine = false) (hgen : scope.isGenerator = false) (hk : scope.kind = .function)
    (hh : ∀ g' L' h₁ tk A', tk₀ ≤ tk → Cal w n A' (envX qual scope L' f cdv []) g' → Sx g' L' binds.reverse mu h₁ → (∀ b o, h.get? b = some o → b ∉ mu.map (·.1) → g'.get? b = some o) →
      wpAny (model prog w) A' (execs body (envX qual scope L' f cdv []))
        (fun fl s' => ∃ h' tk ps' mu', s' = ⟨h', G, D, tk, O⟩ ∧ Sx g' L' ps' mu' h' ∧ (Sx g env.locals ps (mu' ++ fz) h' → Q (match fl with | .ret v => v | _ => .none) ⟨h', G, D, tk, O⟩))
        NoE ⟨h₁, G, D, tk, O⟩) :
    wpAny (model prog w) A (call (.ref f) args []) Q E ⟨h, G, D, tk₀, O⟩ :=
  callP' (cl := []) C H hp (H.old (C.kin _ _ ho)) rfl (codeRec_of (C.kin.keeps fun _ _ e => H.old e) hcd) hbind hloc (fun g' L' h₁ tk A' htk C' H' k => hh g' L' h₁ tk A' htk C' H' k) hcell hco hgen hk

theorem callK0 {prog : Program} {w : World} {n : Nat} {A : Around} {env : Env} {g : Heap} {ps : List (PySem.Str × Value)} {nw : List (Addr × Obj)} {h : Heap} {G : Array GenState} {D : Drawn} {tk₀ : Nat} {O : OsState} {Q : Value → Shared → Prop} {E : Value → Shared → Prop}
    {name qual : PySem.Str} {params : Arguments} {body : List Stmt} {scope : Scope} {dV kV doc pm cdv ct oc : Value} {an od : Option Addr} {osl : Array (Option Value)} {f : Addr} {args : List Value} {binds : List (PySem.Str × Value)}
    (C : Cal w (n + 1) A env g) (H : Sx g env.locals ps nw h)
    (ho : (hd.heap_1 w.params).lookup f = some ⟨oc, od, .func (fnOf name qual params body scope dV kV doc pm an cdv ct), osl⟩) (hcd : codeIn (hd.heap_1 w.params) cdv qual = true)
    (hbind : BindsTo ⟨h, G, D, tk₀, O⟩ (fnOf name qual params body scope dV kV doc pm an cdv ct) ⟨args, []⟩ binds) (hloc : ∀ y ∈ binds, scope.names.lookup y.1 = some .local)
    (hcell : ∀ x ∈ scope.names, x.2 ≠ .cell) (hco : scope.isCoroutine = false) (hgen : scope.isGenerator = false) (hk : scope.kind = .function)
    (hh : ∀ g' L' h₁ tk A', tk₀ ≤ tk → Cal w n A' (envX qual scope L' f cdv []) g' → Sx g' L' binds.reverse [] h₁ → (∀ b o, h.get? b = some o → g'.get? b = some o) →
      wpAny (model prog w) A' (execs body (envX qual scope L' f cdv []))
        (fun fl s' => ∃ h' tk ps' mu', s' = ⟨h', G, D, tk, O⟩ ∧ Sx g' L' ps' mu' h' ∧ (Sx g env.locals ps (mu' ++ nw) h' → Q (match fl with | .ret v => v | _ => .none) ⟨h', G, D, tk, O⟩))
        NoE ⟨h₁, G, D, tk, O⟩) :
    wpAny (model prog w) A (call (.ref f) args []) Q E ⟨h, G, D, tk₀, O⟩ :=
  callK (mu := []) (fz := nw) C H (List.Perm.refl _) ho hcd hbind hloc hcell hco hgen hk (fun g' L' h₁ tk A' htk C' H' k => hh g' L' h₁ tk A' htk C' H' fun b o e => k b o e (fun hb => nomatch hb))

section
variable {M : Model} {A : Around} {E : Value → Shared → Prop} {s : Shared} {w : World} {n : Nat} {env : Env} {g : Heap} {ps : List (PySem.Str × Value)} {nw : List (Addr × Obj)}

theorem p_ld {x : PySem.Str} {v : Value} {Q : Value → Shared → Prop} (C : Cal w n A env g) (H : Sx g env.locals ps nw s.heap) (hx : env.kindOf x = some .local) (hv : ps.lookup x = some v) (k : Q v s) :
    wpAny M A (loadName env x) Q E s := by
  obtain ⟨m, F, l⟩ := H.fr
  exact wpAny_loadName_local C.kind hx F.ns (l _ _ hv) k
theorem p_loc {x : PySem.Str} {pos : Pos} {v : Value} {Q : Value → Shared → Prop} (C : Cal w n A env g) (H : Sx g env.locals ps nw s.heap) (hx : env.kindOf x = some .local) (hv : ps.lookup x = some v) (k : Q v s) (hd : (x == ("__debug__" : PySem.Str)) = false) :
    wpAny M A (eval (.Name x pos) env) Q E s := wpAny_Name (p_ld C H hx hv k) hd
theorem p_glob {x : PySem.Str} {pos : Pos} {v : Value} {Q : Value → Shared → Prop} (C : Cal w n A env g) (H : Sx g env.locals ps nw s.heap) (hx : env.kindOf x = some .globalImplicit) (hg : env.globals = mainGlobals)
    (e : nsIn (hd.heap_1 w.params) mainGlobals x = some (some v)) (k : Q v s) (hd : (x == ("__debug__" : PySem.Str)) = false) :
    wpAny M A (eval (.Name x pos) env) Q E s := by
  obtain ⟨p, loose, mean, mg, mb, T⟩ := C.top
  obtain ⟨m, F, l⟩ := H.fr
  exact Name_function_global C.kind hx (loadGlobal_global (by rw [hg]; exact T.g.keeps F.keep) (mg_of C.kin T.g e) k) hd
theorem p_boot {x : PySem.Str} {pos : Pos} {v : Value} {Q : Value → Shared → Prop} (C : Cal w n A env g) (H : Sx g env.locals ps nw s.heap) (hx : env.kindOf x = some .globalImplicit) (hg : env.globals = mainGlobals) (hb : env.builtins = builtinsNs)
    (e : nsIn (hd.heap_1 w.params) mainGlobals x = some none) (hv : bootBuiltins x = some v) (hn : x ≠ "__name__") (k : Q v s) (hd : (x == ("__debug__" : PySem.Str)) = false) :
    wpAny M A (eval (.Name x pos) env) Q E s := by
  obtain ⟨p, loose, mean, mg, mb, T⟩ := C.top
  obtain ⟨m, F, l⟩ := H.fr
  exact Name_function_global C.kind hx (loadGlobal_builtin (by rw [hg]; exact T.g.keeps F.keep) (mg_none_of C.kin T.g e) (by rw [hb]; exact T.b.keeps F.keep) ((T.builtins x hn).trans hv) k) hd
theorem p_st {x : PySem.Str} {v : Value} {L : Addr} {h : Heap} {G : Array GenState} {D : Drawn} {tk : Nat} {O : OsState} {Q : Unit → Shared → Prop} (C : Cal w n A env g) (H : Sx g L ps nw h) (hL : env.locals = L) (hx : env.kindOf x = some .local)
    (k : ∀ h', Sx g L ((x, v) :: ps) nw h' → Q () ⟨h', G, D, tk + 1, O⟩) : wpAny M A (storeName env x v) Q E ⟨h, G, D, tk, O⟩ := by
  subst hL
  obtain ⟨m, F, l⟩ := H.fr
  refine wpAny_storeName_local hx F.ns (fun h' hn hs => k h' (H.set hn hs l.put)) ?_
  rw [C.kind]; rfl

theorem p_callWith {pos : Pos} {f : Value} {first : List Value} {e : PySem.Expr} {rest : List PySem.Expr} {Q : Value → Shared → Prop} (C : Cal w n A env g) (hk : keepIn (hd.heap_1 w.params) f = true)
    (h : wpAny M A (spliced (backTo pos (starEach (e :: rest) env))) (fun vs s₁ => (∃ ps nw, Sx g env.locals ps nw s₁.heap) ∧ wpAny M A (call f (first ++ vs)) Q E s₁) E s)
    (he : starEach (e :: rest) env = (false, eval e env) :: starEach rest env) (hplain : (backTo pos (starEach rest env)).any (·.1) = false) :
    wpAny M A (callWith pos f first (backTo pos (starEach (e :: rest) env)) []) Q E s :=
  callWith_K C.kin hk (wpAny_mono h (fun vs s₁ ⟨⟨ps, nw, H⟩, k⟩ => ⟨C.kin.keeps fun _ _ e => H.old e, k⟩) fun _ _ x => x) he hplain
theorem p_callWith0 {pos : Pos} {f : Value} {first : List Value} {Q : Value → Shared → Prop} (C : Cal w n A env g) (H : Sx g env.locals ps nw s.heap) (hk : keepIn (hd.heap_1 w.params) f = true)
    (h : wpAny M A (call f (first ++ [])) Q E s) : wpAny M A (callWith pos f first (backTo pos (starEach [] env)) []) Q E s :=
  callWith_K0 (C.kin.keeps fun _ _ e => H.old e) hk h
end

/-- a step that keeps every object keeps what is known -/
theorem Sx.ext {g h h' : Heap} {L : Addr} {ps : List (PySem.Str × Value)} {nw : List (Addr × Obj)} (H : Sx g L ps nw h) (hk : ∀ b o, h.get? b = some o → h'.get? b = some o) : Sx g L ps nw h' := by
  obtain ⟨m, F, l⟩ := H.fr
  obtain ⟨oL, es, ep, hL, r⟩ := F.ns
  exact ⟨⟨m, ⟨⟨oL, es, ep, hk _ _ hL, r⟩, fun b o e => hk b o (F.keep b o e), F.above⟩, l⟩, fun p hp => ⟨hk _ _ (H.led p hp).1, (H.led p hp).2⟩, H.nd⟩
/-- all but one object is kept; that one leaves the ledger -/
theorem Sx.extBut {g h h' : Heap} {L a : Addr} {o : Obj} {ps : List (PySem.Str × Value)} {nw : List (Addr × Obj)} (H : Sx g L ps ((a, o) :: nw) h) (hk : ∀ b o, b ≠ a → h.get? b = some o → h'.get? b = some o) : Sx g L ps nw h' := by
  obtain ⟨m, F, l⟩ := H.fr
  obtain ⟨oL, es, ep, hL, r⟩ := F.ns
  have ha := H.led (a, o) (.head _)
  refine ⟨⟨m, ⟨⟨oL, es, ep, hk _ _ (Ne.symm ha.2.1) hL, r⟩, fun b o e => hk b o (fun q => ?_) (F.keep b o e), F.above⟩, l⟩, fun p hp => ⟨hk _ _ (fun q => ?_) (H.led p (.tail _ hp)).1, (H.led p (.tail _ hp)).2⟩, (List.nodup_cons.mp H.nd).2⟩
  · rw [q, ha.2.2] at e; cases e
  · exact (List.nodup_cons.mp H.nd).1 (List.mem_map.mpr ⟨p, hp, q⟩)

theorem locs_of {ps now : List (PySem.Str × Value)} (h : ∀ p ∈ ps, now.lookup p.1 = some p.2) : ∀ x v, ps.lookup x = some v → now.lookup x = some v := by
  intro x v e
  have : (x, v) ∈ ps := by
    induction ps with
    | nil => cases e
    | cons p r ih =>
      rw [List.lookup_cons] at e
      cases q : x == p.1 with
      | true => rw [q] at e; cases e; rw [beq_iff_eq.mp q]; exact .head _
      | false => rw [q] at e; exact .tail _ (ih (fun p hp => h p (.tail _ hp)) e)
  exact h _ this
end Mine
namespace Mine

/-- a while: whatever its turn keeps -/
theorem p_while {prog : Program} {w : World} {A : Around} {E : Value → Shared → Prop} {env : Env} {test : PySem.Expr} {body : List Stmt} {pos : Pos} {Q : Flow → Shared → Prop} {s : Shared} (I : Nat → Shared → Prop) (n : Nat) (h : I n s)
    (turn : ∀ n s, I n s → wpAny (model prog w) A (PySem.isTrue test env (eval test env)) (fun b s₂ => if b = true then wpAny (model prog w) A (execs body env) (fun f s₃ => match f with
        | .next => ∃ m, m < n ∧ I m s₃
        | .cont => ∃ m, m < n ∧ I m s₃
        | .brk => Q .next s₃
        | .ret v => Q (.ret v) s₃) NoE s₂ else Q .next s₂) NoE s) :
    wpAny (model prog w) A (exec (.While test body [] pos) env) Q E s := by
  refine wpAny_While (codeAny_whileLoop I (fun n s hI => wpAny_mono (turn n s hI) (fun b s₂ h₂ => ?_) fun _ _ x => x.elim) n h)
  split
  · rename_i hb
    rw [if_pos hb] at h₂
    refine wpAny_mono h₂ (fun f s₃ h₃ => ?_) fun _ _ x => x.elim
    cases f <;> exact h₃
  · rename_i hb
    rw [if_neg hb] at h₂
    exact wpAny_execs_nil h₂

noncomputable def ForPost (I : Nat → Shared → Prop) (n : Nat) (Q : Flow → Shared → Prop) (f : Flow) (s₃ : Shared) : Prop := match f with
  | .next => ∃ m, m < n ∧ I m s₃
  | .cont => ∃ m, m < n ∧ I m s₃
  | .brk => Q .next s₃
  | .ret v => Q (.ret v) s₃
/-- a for over any iterator -/
theorem p_forG {prog : Program} {w : World} {A : Around} {E : Value → Shared → Prop} {env : Env} {target : PySem.Expr} {it : Value} {body : List Stmt} {Q : Flow → Shared → Prop} {s : Shared} (I : Nat → Shared → Prop) (n : Nat) (h : I n s)
    (turn : ∀ n s, I n s → wpAny (model prog w) A (pyNext it) (fun r s₁ => match r with
      | none => Q .next s₁
      | some v => wpAny (model prog w) A (letOwnedTupleGo target it v) (fun _ s₁' => wpAny (model prog w) A (assign target env v) (fun _ s₂ => wpAny (model prog w) A (execs body env) (ForPost I n Q) NoE s₂) NoE s₁') NoE s₁) NoE s) :
    codeAny (model prog w) A (.forLoop target it body [] env) (fun r s' => match r with | .ok f => Q f s' | .error e => cameBackBy (model prog w) A env E e s') s := by
  refine codeAny_forLoop_any I (fun n s hI => wpAny_mono (turn n s hI) (fun r s₁ h₁ => ?_) fun _ _ x => x.elim) n h
  cases r with
  | none => exact wpAny_execs_nil h₁
  | some v =>
    refine wpAny_mono h₁ (fun _ s₂ h₂ => ?_) fun _ _ x => x.elim
    refine wpAny_mono h₂ (fun _ s₃ h₃ => ?_) fun _ _ x => x.elim
    refine wpAny_mono h₃ (fun f s₄ h₄ => ?_) fun _ _ x => x.elim
    cases f <;> exact h₄
end Mine
namespace Mine
theorem iteT {b : Bool} {P Q : Prop} (h : b = true) (k : P) : if b = true then P else Q := by rw [if_pos h]; exact k
theorem iteF {b : Bool} {P Q : Prop} (h : b = false) (k : Q) : if b = true then P else Q := by subst h; exact k
theorem iteD {b : Bool} {P Q : Prop} (k1 : b = true → P) (k2 : b = false → Q) : if b = true then P else Q := by
  cases b with
  | true => exact k1 rfl
  | false => exact k2 rfl
theorem fitsN {k : Nat} (h : k ≤ 1000000000) : fitsSsize (k : Int) = true := fitsSsize_of (N := 9223372036854775808) (by omega) (by omega) (Int.le_refl _)
end Mine

namespace Mine
/-- a text by its signs' numbers -/
noncomputable def S (l : List Nat) : PySem.Str := ⟨l.toArray⟩
/-- a word: blanks, two signs, blanks -/
noncomputable def wd (a b c d : Nat) : List Nat := List.replicate a 32 ++ c :: d :: List.replicate b 32
noncomputable def fullStop : PySem.Str := S [46]

theorem S_length (l : List Nat) : (S l).length = l.length := by simp [S, PySem.Str.length]
theorem S_inj {l m : List Nat} : S l = S m ↔ l = m := by
  constructor
  · intro h
    have := congrArg (fun x : PySem.Str => x.cps.toList) h
    simpa [S] using this
  · intro h; rw [h]
theorem S_beq (l m : List Nat) : (S l == S m) = (l == m) := by
  rw [Bool.eq_iff_iff, beq_iff_eq, beq_iff_eq, S_inj]
theorem blank_is : PySem.Str.ofString " " = S [32] := by decide +kernel
theorem stop_is : PySem.Str.ofString "." = S [46] := by decide +kernel
theorem S_item {l : List Nat} {k : Nat} {c : Nat} (h : l[k]? = some c) : Txt.item (S l) (k : Int) = S [c] := by
  have := PyProof.Rows.item_meets (x := S l) (i := (k : Int)) (n := c) (by omega) (by simpa [S] using h)
  rw [this]; rfl
theorem S_item_blank {l : List Nat} {k : Nat} (h : k < l.length) : (Txt.item (S l) (k : Int) == PySem.Str.ofString " ") = (l.getD k 0 == 32) := by
  have e : l[k]? = some (l.getD k 0) := by simp [h]
  rw [S_item e, blank_is, S_beq]
  by_cases q : l.getD k 0 = 32 <;> simp [q]
theorem S_slice {l : List Nat} {a b : Nat} (hab : a ≤ b) (hb : b ≤ l.length) : Txt.slice (S l) (some (a : Int)) (some (b : Int)) = S ((l.drop a).take (b - a)) := by
  have hs := StrLaws.sliced_plain (S l) hab (by rw [S_length]; exact hb)
  have hi := StrLaws.strSliceIndices_plain (len := (S l).length) hab (by rw [S_length]; exact hb)
  unfold Txt.slice
  split
  · rename_i hc
    rw [hi] at hc
    simp only [List.length_map, List.length_range, S_length, Bool.and_eq_true, beq_iff_eq] at hc
    have h0 : a = 0 := by omega
    have h1 : b = l.length := by omega
    subst h0 h1
    simp
  · show (⟨_⟩ : PySem.Str) = ⟨_⟩
    rw [hs]
    rfl

theorem wd_length (a b c d : Nat) : (wd a b c d).length = a + 2 + b := by simp [wd]; omega
theorem wd_left {a b c d k : Nat} (h : k < a) : (wd a b c d).getD k 0 = 32 := by
  unfold wd
  rw [List.getD_eq_getElem?_getD, List.getElem?_append_left (by simpa using h)]
  simp [h]
theorem wd_mid (a b c d : Nat) : (wd a b c d).getD a 0 = c := by
  unfold wd
  rw [List.getD_eq_getElem?_getD, List.getElem?_append_right (by simp)]
  simp
theorem wd_mid' (a b c d : Nat) : (wd a b c d).getD (a + 1) 0 = d := by
  unfold wd
  rw [List.getD_eq_getElem?_getD, List.getElem?_append_right (by simp)]
  simp
theorem wd_right {a b c d k : Nat} (h1 : a + 2 ≤ k) (h2 : k < a + 2 + b) : (wd a b c d).getD k 0 = 32 := by
  unfold wd
  rw [List.getD_eq_getElem?_getD, List.getElem?_append_right (by simp; omega)]
  simp only [List.length_replicate]
  obtain ⟨j, hj⟩ : ∃ j, k - a = j + 2 := ⟨k - a - 2, by omega⟩
  rw [hj]
  simp only [List.getElem?_cons_succ]
  rw [List.getElem?_replicate]
  split
  · rfl
  · omega
theorem wd_cut {a b c d lo n : Nat} (h1 : lo ≤ a) (h2 : n ≤ a - lo + 2 + b) (h3 : a - lo + 2 ≤ n) : ((wd a b c d).drop lo).take n = wd (a - lo) (n - (a - lo + 2)) c d := by
  unfold wd
  rw [List.drop_append_of_le_length (by simpa using h1), List.drop_replicate, List.take_append]
  have e1 : List.take n (List.replicate (a - lo) 32) = List.replicate (a - lo) 32 := by rw [List.take_of_length_le (by simp; omega)]
  rw [e1, List.length_replicate]
  obtain ⟨j, hj⟩ : ∃ j, n - (a - lo) = j + 2 := ⟨n - (a - lo) - 2, by omega⟩
  rw [hj]
  simp only [List.take_succ_cons, List.take_replicate]
  have e2 : n - (a - lo + 2) = j := by omega
  have e3 : min j b = j := by omega
  rw [e2, e3]
end Mine

/- the everyday steps, the state written out -/
namespace Mine
section
variable {prog : Program} {w : World} {A : Around} {E : Value → Shared → Prop} {env : Env} {h : Heap} {G : Array GenState} {D : Drawn} {tk : Nat} {O : OsState} {Q : Value → Shared → Prop} {a b : Int} {t u : Nat}
theorem c_int {i : Int} {k : Nat} {pos : Pos} (x : Q (.int i tk) ⟨h, G, D, tk + 1, O⟩) : wpAny (model prog w) A (eval (.Constant (.int i) k pos) env) Q E ⟨h, G, D, tk, O⟩ := wpAny_Constant_int x
theorem c_str {i : PySem.Str} {k : Nat} {pos : Pos} (x : Q (.str i tk) ⟨h, G, D, tk + 1, O⟩) : wpAny (model prog w) A (eval (.Constant (.str i) k pos) env) Q E ⟨h, G, D, tk, O⟩ := Calls.Constant_str x
theorem c_add (x : Q (.int (a + b) tk) ⟨h, G, D, tk + 1, O⟩) : wpAny (model prog w) A (binaryOp .Add (.int a t) (.int b u)) Q E ⟨h, G, D, tk, O⟩ := add_int x
theorem c_sub (x : Q (.int (a - b) tk) ⟨h, G, D, tk + 1, O⟩) : wpAny (model prog w) A (binaryOp .Sub (.int a t) (.int b u)) Q E ⟨h, G, D, tk, O⟩ := sub_int x
theorem c_subb {p q : Bool} (x : Q (.int (b2i p - b2i q) tk) ⟨h, G, D, tk + 1, O⟩) : wpAny (model prog w) A (binaryOp .Sub (.bool p) (.bool q)) Q E ⟨h, G, D, tk, O⟩ := sub_bool x
theorem c_mod (hb : b ≠ 0) (x : Q (.int (a.fmod b) tk) ⟨h, G, D, tk + 1, O⟩) : wpAny (model prog w) A (binaryOp .Mod (.int a t) (.int b u)) Q E ⟨h, G, D, tk, O⟩ := mod_int hb x
theorem c_iadd (x : Q (.int (a + b) tk) ⟨h, G, D, tk + 1, O⟩) : wpAny (model prog w) A (inplaceOp .Add (.int a t) (.int b u)) Q E ⟨h, G, D, tk, O⟩ := iadd_int x
theorem c_isub (x : Q (.int (a - b) tk) ⟨h, G, D, tk + 1, O⟩) : wpAny (model prog w) A (inplaceOp .Sub (.int a t) (.int b u)) Q E ⟨h, G, D, tk, O⟩ := isub_int x
theorem c_lens {x : PySem.Str} (hx : x.length ≤ 1000000) (k : Q (.int (x.length : Int) (tk + 1)) ⟨h, G, D, tk + 1 + 1, O⟩) : wpAny (model prog w) A (call (.builtin "len") [.str x t]) Q E ⟨h, G, D, tk, O⟩ := SBL.len (by omega) k
/-- a sign of a text -/
theorem c_sign {value slice : PySem.Expr} {l : List Nat} {i : Int} (h0 : 0 ≤ i) (hi : i < (l.length : Int)) (hl : l.length ≤ 1000000) (k : Q (.str (S [l.getD i.toNat 0]) tk) ⟨h, G, D, tk + 1, O⟩)
    (hs : subscripted slice false (.str (S l) t) (.int i u) = operate [.str (S l) t, .int i u] (getItem (.str (S l) t) (.int i u))) (hl' : ∀ r, letTemporaryGo value (.str (S l) t) r = pure ()) :
    wpAny (model prog w) A (subscriptTail value slice (.str (S l) t) (.int i u)) Q E ⟨h, G, D, tk, O⟩ := by
  obtain ⟨j, rfl⟩ := Int.eq_ofNat_of_zero_le h0
  have hlt : j < l.length := by omega
  refine item_str (fitsN (by omega)) (by omega) (by rw [S_length]; omega) (fun _ => ?_) hs hl'
  rw [S_item (c := l.getD j 0) (by simp [hlt])]
  exact k
theorem c_slice {g : Heap} {L : Addr} {ps : List (PySem.Str × Value)} {nw : List (Addr × Obj)} {value slice : PySem.Expr} {l : List Nat} {i j : Int} (H : Sx g L ps nw h) (h0 : 0 ≤ i) (hij : i ≤ j) (hj : j ≤ (l.length : Int)) (hl : l.length ≤ 1000000)
    (k : ∀ h' t' tk', Sx g L ps nw h' → Q (.str (S ((l.drop i.toNat).take (j.toNat - i.toNat))) t') ⟨h', G, D, tk', O⟩)
    (hs : subscripted slice false (.str (S l) t) (.ref h.objs.size) = operate [.ref h.objs.size, .str (S l) t] (getItem (.str (S l) t) (.ref h.objs.size))) (hl' : ∀ r, letTemporaryGo value (.str (S l) t) r = pure ()) {ui uj : Nat} :
    wpAny (model prog w) A (subscriptTail value slice (.str (S l) t) (.ref h.objs.size)) Q E ⟨h.push { cls := .type "slice", data := .fields #[.int i ui, .int j uj, .none] }, G, D, tk, O⟩ := by
  obtain ⟨m, F, lm⟩ := H.fr
  obtain ⟨a, rfl⟩ := Int.eq_ofNat_of_zero_le h0
  obtain ⟨b, rfl⟩ := Int.eq_ofNat_of_zero_le (show 0 ≤ j by omega)
  refine slice_strN_ss (s := ⟨h, G, D, tk, O⟩) F H.led (fun h' t' tk' F' N' => ?_) hs hl' (by rw [S_length, sizeLine_eq]; omega)
  rw [S_slice (by omega) (by omega)]
  exact k h' t' tk' ⟨⟨m, F', lm⟩, N', H.nd⟩
end
end Mine
namespace Mine
/-- a while that ends by its test, where P holds -/
theorem p_whileP {prog : Program} {w : World} {A : Around} {E : Value → Shared → Prop} {env : Env} {test : PySem.Expr} {body : List Stmt} {pos : Pos} {Q : Flow → Shared → Prop} {s : Shared} (I : Nat → Shared → Prop) (P : Shared → Prop) (n : Nat) (h : I n s) (k : ∀ s', P s' → Q .next s')
    (turn : ∀ n s, I n s → wpAny (model prog w) A (PySem.isTrue test env (eval test env)) (fun b s₂ => if b = true then wpAny (model prog w) A (execs body env) (fun f s₃ => match f with
        | .next => ∃ m, m < n ∧ I m s₃
        | .cont => ∃ m, m < n ∧ I m s₃
        | .brk => P s₃
        | .ret v => Q (.ret v) s₃) NoE s₂ else P s₂) NoE s) :
    wpAny (model prog w) A (exec (.While test body [] pos) env) Q E s := by
  refine p_while I n h fun n s hI => wpAny_mono (turn n s hI) (fun b s₂ h₂ => ?_) fun _ _ x => x
  cases b with
  | true =>
    rw [if_pos rfl] at h₂ ⊢
    refine wpAny_mono h₂ (fun f s₃ h₃ => ?_) fun _ _ x => x
    cases f with
    | brk => exact k _ h₃
    | _ => exact h₃
  | false => exact k _ h₂
end Mine
namespace Mine
theorem lk_int {now : List (PySem.Str × Value)} {x : PySem.Str} {a b : Int} {t : Nat} (e : now.lookup x = some (.int a t)) (h : a = b) : now.lookup x = some (.int b t) := h ▸ e
theorem lk_cons {now : List (PySem.Str × Value)} {x : PySem.Str} {v : Value} {r : List (PySem.Str × Value)} (e : now.lookup x = some v) (h : ∀ p ∈ r, now.lookup p.1 = some p.2) : ∀ p ∈ (x, v) :: r, now.lookup p.1 = some p.2 :=
  List.forall_mem_cons.mpr ⟨e, h⟩
theorem lk_nil {now : List (PySem.Str × Value)} : ∀ p ∈ ([] : List (PySem.Str × Value)), now.lookup p.1 = some p.2 := fun _ hp => nomatch hp
end Mine

namespace Mine
/-- what a turn's end must show: the iterator kept, the next word true -/
noncomputable def TurnK (g : Heap) (L : Addr) (io : Addr × Obj) (J : List (PySem.Str × Value) → List (Addr × Obj) → Prop) (G : Array GenState) (D : Drawn) (O : OsState) (Q : Flow → Shared → Prop) (f : Flow) (s₃ : Shared) : Prop := match f with
  | .next => ∃ h₃ tk₃ ps₃ nw₃, s₃ = ⟨h₃, G, D, tk₃, O⟩ ∧ Sx g L ps₃ (io :: nw₃) h₃ ∧ J ps₃ nw₃
  | .cont => ∃ h₃ tk₃ ps₃ nw₃, s₃ = ⟨h₃, G, D, tk₃, O⟩ ∧ Sx g L ps₃ (io :: nw₃) h₃ ∧ J ps₃ nw₃
  | .brk => Q .next s₃
  | .ret v => Q (.ret v) s₃

section
variable {prog : Program} {w : World} {n : Nat} {A : Around} {E : Value → Shared → Prop} {env : Env} {g : Heap} {L : Addr} {ps : List (PySem.Str × Value)} {nw : List (Addr × Obj)} {h : Heap} {G : Array GenState} {D : Drawn} {tk₀ : Nat} {O : OsState}

/-- a for over an iterator of the ledger's, whatever its target: the draw and the store are one step -/
theorem p_loopG {target : PySem.Expr} {body : List Stmt} {Q : Flow → Shared → Prop} {I : Addr} {o₀ : Obj} {N : Nat} {StO : Nat → Obj → Prop} {bnd : Nat → Nat → List (PySem.Str × Value) → List (PySem.Str × Value) → Prop}
    (J : Nat → List (PySem.Str × Value) → List (Addr × Obj) → Prop)
    (H : Sx g L ps ((I, o₀) :: nw) h) (h0 : StO 0 o₀) (hJ : J 0 ps nw)
    (draw : ∀ i ps' nw' h' tk' o (Q' : Unit → Shared → Prop), i < N → J i ps' nw' → tk₀ ≤ tk' → Sx g L ps' ((I, o) :: nw') h' → StO i o →
      (∀ h'' tk'' o' ps'', tk₀ ≤ tk'' → StO (i + 1) o' → bnd i tk'' ps' ps'' → Sx g L ps'' ((I, o') :: nw') h'' → Q' () ⟨h'', G, D, tk'', O⟩) →
      wpAny (model prog w) A (pyNext (.ref I)) (fun r s₁ => match r with
        | none => False
        | some v => wpAny (model prog w) A (letOwnedTupleGo target (.ref I) v) (fun _ s₁' => wpAny (model prog w) A (assign target env v) Q' NoE s₁') NoE s₁) NoE ⟨h', G, D, tk', O⟩)
    (fin : ∀ ps' nw' h' tk' o (Q' : Shared → Prop), J N ps' nw' → Sx g L ps' ((I, o) :: nw') h' → StO N o → (∀ h'' tk'', Sx g L ps' nw' h'' → Q' ⟨h'', G, D, tk'', O⟩) →
      wpAny (model prog w) A (pyNext (.ref I)) (fun r s₁ => match r with | none => Q' s₁ | some _ => False) NoE ⟨h', G, D, tk', O⟩)
    (turn : ∀ i ps' ps'' nw' h' tk' o, i < N → J i ps' nw' → tk₀ ≤ tk' → StO (i + 1) o → bnd i tk' ps' ps'' → Sx g L ps'' ((I, o) :: nw') h' →
      wpAny (model prog w) A (execs body env) (TurnK g L (I, o) (J (i + 1)) G D O Q) NoE ⟨h', G, D, tk', O⟩)
    (done : ∀ ps' nw' h' tk', J N ps' nw' → Sx g L ps' nw' h' → Q .next ⟨h', G, D, tk', O⟩) :
    codeAny (model prog w) A (.forLoop target (.ref I) body [] env) (fun r s' => match r with | .ok f => Q f s' | .error e => cameBackBy (model prog w) A env E e s') ⟨h, G, D, tk₀, O⟩ := by
  let Inv : Nat → Shared → Prop := fun k s' => ∃ i h' tk' o ps' nw', s' = (⟨h', G, D, tk', O⟩ : Shared) ∧ k = N - i ∧ i ≤ N ∧ tk₀ ≤ tk' ∧ Sx g L ps' ((I, o) :: nw') h' ∧ StO i o ∧ J i ps' nw'
  refine p_forG Inv N ⟨0, h, tk₀, o₀, ps, nw, rfl, rfl, Nat.zero_le _, Nat.le_refl _, H, h0, hJ⟩ ?_
  rintro k s' ⟨i, h', tk', o, ps', nw', rfl, rfl, hi, htk, H', hst, hJ'⟩
  by_cases hlt : i < N
  · refine wpAny_mono (draw i ps' nw' h' tk' o (fun _ s₂ => wpAny (model prog w) A (execs body env) (ForPost Inv (N - i) Q) NoE s₂) hlt hJ' htk H' hst ?_) (fun r s₁ h₁ => ?_) fun _ _ x => x
    · intro h'' tk'' o' ps'' htk'' hst' hb H''
      refine wpAny_mono (wpAny_toks_of (n := tk₀) htk'' (turn i ps' ps'' nw' h'' tk'' o' hlt hJ' htk'' hst' hb H'')) (fun f s₃ h₃ => ?_) fun _ _ x => x.2
      obtain ⟨htk₃, h₃⟩ := h₃
      cases f with
      | brk => exact h₃
      | ret v => exact h₃
      | next =>
        obtain ⟨h₃', tk₃, ps₃, nw₃, rfl, H₃, hJ₃⟩ := h₃
        exact ⟨N - (i + 1), by omega, i + 1, h₃', tk₃, o', ps₃, nw₃, rfl, rfl, hlt, htk₃, H₃, hst', hJ₃⟩
      | cont =>
        obtain ⟨h₃', tk₃, ps₃, nw₃, rfl, H₃, hJ₃⟩ := h₃
        exact ⟨N - (i + 1), by omega, i + 1, h₃', tk₃, o', ps₃, nw₃, rfl, rfl, hlt, htk₃, H₃, hst', hJ₃⟩
    · cases r with
      | none => exact h₁.elim
      | some v => exact h₁
  · have : i = N := by omega
    subst this
    refine wpAny_mono (fin ps' nw' h' tk' o (Q .next) hJ' H' hst fun h'' tk'' H'' => done ps' nw' h'' tk'' hJ' H'') (fun r s₁ h₁ => ?_) fun _ _ x => x
    cases r with
    | none => exact h₁
    | some v => exact h₁.elim

/-- a Name as the target -/
theorem draw_name {I : Addr} {x : PySem.Str} {px : Pos} {o : Obj} {h' : Heap} {tk' : Nat} {v : Value} {Q' : Unit → Shared → Prop} (C : Cal w n A env g) (hL : env.locals = L) (hx : env.kindOf x = some .local) (H : Sx g L ps ((I, o) :: nw) h')
    (k : ∀ h'', Sx g L ((x, v) :: ps) ((I, o) :: nw) h'' → Q' () ⟨h'', G, D, tk' + 1, O⟩) :
    wpAny (model prog w) A (letOwnedTupleGo (.Name x px) (.ref I) v) (fun _ s₁' => wpAny (model prog w) A (assign (.Name x px) env v) Q' NoE s₁') NoE ⟨h', G, D, tk', O⟩ :=
  wpAny_of_eq (rfl : letOwnedTupleGo (.Name x px) (.ref I) v = pure ()) (wpAny_assign_Name (p_st C H hL hx k))

/-- the iterator's own change, told to the ledger -/
theorem Sx.next {h' : Heap} {I : Addr} {o o' : Obj} (H : Sx g L ps ((I, o) :: nw) h) (hs : Heap.SameBut I h h') (ho : h'.get? I = some o') : Sx g L ps ((I, o') :: nw) h' := H.change (i := 0) rfl hs ho

noncomputable def rangeObj (a b : Int) (t u v : Nat) : Obj := { cls := .type "range", data := .fields #[.int a t, .int b u, .int 1 v] }
noncomputable def tupObj (vs : List Value) : Obj := { cls := .type "tuple", data := .seq vs.toArray }
noncomputable def lstObj (vs : List Value) (n : Nat) : Obj := { cls := .type "list", data := .seq vs.toArray n }

theorem p_range1 {m : Int} {t : Nat} {Q : Value → Shared → Prop} (H : Sx g L ps nw h) (k : ∀ h' r t1 t2, Sx g L ps ((r, rangeObj 0 m t1 t t2) :: nw) h' → Q (.ref r) ⟨h', G, D, tk₀ + 1 + 1, O⟩) :
    wpAny (model prog w) A (call (.type "range") [.int m t]) Q E ⟨h, G, D, tk₀, O⟩ :=
  call_range_1 (k _ _ _ _ (H.push _ rfl))
theorem p_range2 {a b : Int} {t u : Nat} {Q : Value → Shared → Prop} (H : Sx g L ps nw h) (k : ∀ h' r t2, Sx g L ps ((r, rangeObj a b t u t2) :: nw) h' → Q (.ref r) ⟨h', G, D, tk₀ + 1, O⟩) :
    wpAny (model prog w) A (call (.type "range") [.int a t, .int b u]) Q E ⟨h, G, D, tk₀, O⟩ :=
  call_range_2 (k _ _ _ (H.push _ rfl))

/-- for x in a text of plain signs -/
theorem p_for_str {x : PySem.Str} {px : Pos} {body : List Stmt} {Q : Flow → Shared → Prop} {l : List Nat} {t : Nat} (J : Nat → List (PySem.Str × Value) → List (Addr × Obj) → Prop)
    (C : Cal w n A env g) (hL : env.locals = L) (H : Sx g L ps nw h) (hx : env.kindOf x = some .local) (hl : l.all (· < 128) = true) (hJ : J 0 ps nw)
    (turn : ∀ i c u ps' nw' h' tk' io, l[i]? = some c → tk₀ ≤ u → u < tk' → J i ps' nw' → Sx g L ((x, .str (S [c]) u) :: ps') (io :: nw') h' →
      wpAny (model prog w) A (execs body env) (TurnK g L io (J (i + 1)) G D O Q) NoE ⟨h', G, D, tk', O⟩)
    (done : ∀ ps' nw' h' tk', J l.length ps' nw' → Sx g L ps' nw' h' → Q .next ⟨h', G, D, tk', O⟩) :
    wpAny (model prog w) A (pyIter (.str (S l) t)) (fun it s₂ => codeAny (model prog w) A (.forLoop (.Name x px) it body [] env) (fun r s' => match r with | .ok f => Q f s' | .error e => cameBackBy (model prog w) A env E e s') s₂) E ⟨h, G, D, tk₀, O⟩ := by
  refine wpAny_pyIter_ascii (by simpa [S] using hl) ?_
  have H' := H.push { cls := .type "str_ascii_iterator", data := .fields #[.str (S l) t, .int 0 0] } rfl
  refine p_loopG (G := G) (D := D) (tk₀ := tk₀) (O := O) (N := l.length) (StO := fun i o => o.cls = .type "str_ascii_iterator" ∧ o.data = .fields #[.str (S l) t, .int (i : Nat) 0])
    (bnd := fun i tk a b => ∃ c u, l[i]? = some c ∧ tk₀ ≤ u ∧ u < tk ∧ b = (x, .str (S [c]) u) :: a) J H' ⟨rfl, rfl⟩ hJ ?_ ?_ ?_ done
  · intro i ps' nw' h' tk' o Q' hi hJ' htk Hc hst k
    have hc : l[i]? = some (l[i]'hi) := List.getElem?_eq_getElem hi
    refine wpAny_pyNext_ascii_item (s := ⟨h', G, D, tk', O⟩) ⟨o, Hc.get (.head _), hst.1, hst.2⟩ (c := l[i]'hi) (by simpa [S] using hc) fun h'' hit hs => ?_
    obtain ⟨o', ho', hc', hd'⟩ := hit
    refine draw_name C hL hx (Hc.next hs ho') fun h₃ H₃ => k h₃ _ o' _ (by show tk₀ ≤ tk' + 1 + 1; omega) ⟨hc', hd'⟩ ⟨_, _, hc, htk, by show tk' < tk' + 1 + 1; omega, rfl⟩ H₃
  · intro ps' nw' h' tk' o Q' hJ' Hc hst k
    exact wpAny_pyNext_ascii_end (s := ⟨h', G, D, tk', O⟩) C.handled ⟨o, Hc.get (.head _), hst.1, hst.2⟩ (by simp [S]) fun h'' hb => k h'' tk' (Hc.extBut fun b o e => hb b o e)
  · rintro i ps' ps'' nw' h' tk' o hi hJ' htk hst ⟨c, u, hc, hu, hu', rfl⟩ Hc
    exact turn i c u ps' nw' h' tk' _ hc hu hu' hJ' Hc

/-- for x in a list that stands still -/
theorem p_for_list {x : PySem.Str} {px : Pos} {body : List Stmt} {Q : Flow → Shared → Prop} {l : Addr} {items : List Value} (J : Nat → List (PySem.Str × Value) → List (Addr × Obj) → Prop)
    (C : Cal w n A env g) (hL : env.locals = L) (H : Sx g L ps nw h) (hx : env.kindOf x = some .local) (hJ : J 0 ps nw)
    (hl : ∀ i ps' nw' (h' : Heap), J i ps' nw' → (∀ p ∈ nw', h'.get? p.1 = some p.2) → (∀ b o, g.get? b = some o → h'.get? b = some o) → h'.IsList l items.toArray)
    (turn : ∀ i v ps' nw' h' tk' io, items[i]? = some v → J i ps' nw' → Sx g L ((x, v) :: ps') (io :: nw') h' →
      wpAny (model prog w) A (execs body env) (TurnK g L io (J (i + 1)) G D O Q) NoE ⟨h', G, D, tk', O⟩)
    (done : ∀ ps' nw' h' tk', J items.length ps' nw' → Sx g L ps' nw' h' → Q .next ⟨h', G, D, tk', O⟩) :
    wpAny (model prog w) A (pyIter (.ref l)) (fun it s₂ => codeAny (model prog w) A (.forLoop (.Name x px) it body [] env) (fun r s' => match r with | .ok f => Q f s' | .error e => cameBackBy (model prog w) A env E e s') s₂) E ⟨h, G, D, tk₀, O⟩ := by
  refine wpAny_pyIter_list (s := ⟨h, G, D, tk₀, O⟩) (hl 0 ps nw h hJ (fun p hp => (H.led p hp).1) fun b o e => H.old e) ?_
  have H' := H.push { cls := .type "list_iterator", data := .fields #[.ref l, .int 0 0] } rfl
  refine p_loopG (G := G) (D := D) (tk₀ := tk₀) (O := O) (N := items.length) (StO := fun i o => o.cls = .type "list_iterator" ∧ o.data = .fields #[.ref l, .int (i : Nat) 0])
    (bnd := fun i tk a b => ∃ v, items[i]? = some v ∧ b = (x, v) :: a) J H' ⟨rfl, rfl⟩ hJ ?_ ?_ ?_ done
  · intro i ps' nw' h' tk' o Q' hi hJ' htk Hc hst k
    have hc : items[i]? = some (items[i]'hi) := List.getElem?_eq_getElem hi
    refine wpAny_pyNext_list_item (s := ⟨h', G, D, tk', O⟩) ⟨o, Hc.get (.head _), hst.1, hst.2⟩ (hl i ps' nw' h' hJ' (fun p hp => (Hc.led p (.tail _ hp)).1) fun b o e => Hc.old e) (x := items[i]'hi) (by simp [hi]) fun h'' hit hs => ?_
    obtain ⟨o', ho', hc', hd'⟩ := hit
    exact draw_name C hL hx (Hc.next hs ho') fun h₃ H₃ => k h₃ _ o' _ (Nat.le_succ_of_le htk) ⟨hc', hd'⟩ ⟨_, hc, rfl⟩ H₃
  · intro ps' nw' h' tk' o Q' hJ' Hc hst k
    exact wpAny_pyNext_list_end (s := ⟨h', G, D, tk', O⟩) C.handled ⟨o, Hc.get (.head _), hst.1, hst.2⟩ (hl _ ps' nw' h' hJ' (fun p hp => (Hc.led p (.tail _ hp)).1) fun b o e => Hc.old e) (by simp) fun h'' hb => k h'' tk' (Hc.extBut fun b o e => hb b o e)
  · rintro i ps' ps'' nw' h' tk' o hi hJ' htk hst ⟨v, hc, rfl⟩ Hc
    exact turn i v ps' nw' h' tk' _ hc hJ' Hc

/-- for x in range(a, a + m) -/
theorem p_for_range {x : PySem.Str} {px : Pos} {body : List Stmt} {Q : Flow → Shared → Prop} {r : Addr} {a b : Int} {t u v : Nat} {m : Nat} (J : Nat → List (PySem.Str × Value) → List (Addr × Obj) → Prop)
    (C : Cal w n A env g) (hL : env.locals = L) (H : Sx g L ps ((r, rangeObj a b t u v) :: nw) h) (hx : env.kindOf x = some .local) (hm : (m : Int) = if a < b then b - a else 0) (ha : -1000000000 ≤ a) (hb : b ≤ 1000000000) (ha' : a ≤ 1000000000) (hb' : -1000000000 ≤ b) (hJ : J 0 ps nw)
    (turn : ∀ i t ps' nw' h' tk' io, i < m → J i ps' nw' → Sx g L ((x, .int (a + (i : Nat)) t) :: ps') (io :: nw') h' →
      wpAny (model prog w) A (execs body env) (TurnK g L io (J (i + 1)) G D O Q) NoE ⟨h', G, D, tk', O⟩)
    (done : ∀ ps' nw' h' tk', J m ps' nw' → Sx g L ps' nw' h' → Q .next ⟨h', G, D, tk', O⟩) :
    wpAny (model prog w) A (pyIter (.ref r)) (fun it s₂ => codeAny (model prog w) A (.forLoop (.Name x px) it body [] env) (fun r s' => match r with | .ok f => Q f s' | .error e => cameBackBy (model prog w) A env E e s') s₂) E ⟨h, G, D, tk₀, O⟩ := by
  refine wpAny_pyIter_range (s := ⟨h, G, D, tk₀, O⟩) (a := a) (b := b) (c := 1) (t := t) (u := u) (v := v) (H.get (.head _)) (small_one (by omega) (by omega) (by omega) (by omega)) ?_
  rw [rangeSize_one, ← hm]
  have H' := (H.sub (List.sublist_cons_self _ _)).push { cls := .type "range_iterator", data := .fields #[rawInt a, rawInt (m : Int), rawInt 1] } rfl
  refine p_loopG (G := G) (D := D) (tk₀ := tk₀) (O := O) (N := m) (StO := fun i o => o = { cls := .type "range_iterator", dict := none, data := .fields #[rawInt (a + (i : Nat)), rawInt ((m : Int) - (i : Nat)), rawInt 1], slots := #[] })
    (bnd := fun i tk c d => ∃ t, d = (x, .int (a + (i : Nat)) t) :: c) J H' (by simp) hJ ?_ ?_ ?_ done
  · rintro i ps' nw' h' tk' o Q' hi hJ' htk Hc rfl k
    refine wpAny_pyNext_range_item (s := ⟨h', G, D, tk', O⟩) (Hc.get (.head _)) (by omega) fun h'' hit hs => ?_
    refine draw_name C hL hx (Hc.next hs hit) fun h₃ H₃ => k h₃ _ _ _ (by show tk₀ ≤ tk' + 1 + 1; omega) ?_ ⟨_, rfl⟩ H₃
    have e1 : a + ((i + 1 : Nat) : Int) = a + (i : Int) + 1 := by omega
    have e2 : (m : Int) - ((i + 1 : Nat) : Int) = (m : Int) - (i : Int) - 1 := by omega
    rw [e1, e2]
  · rintro ps' nw' h' tk' o Q' hJ' Hc rfl k
    exact wpAny_pyNext_range_end (s := ⟨h', G, D, tk', O⟩) C.handled (Hc.get (.head _)) (by omega) fun h'' hb => k h'' tk' (Hc.extBut fun b o e => hb b o e)
  · rintro i ps' ps'' nw' h' tk' o hi hJ' htk hst ⟨t, rfl⟩ Hc
    exact turn i t ps' nw' h' tk' _ hi hJ' Hc
end
end Mine

namespace Mine
section
variable {prog : Program} {w : World} {n : Nat} {A : Around} {E : Value → Shared → Prop} {env : Env} {g : Heap} {L : Addr} {ps : List (PySem.Str × Value)} {nw : List (Addr × Obj)} {h : Heap} {G : Array GenState} {D : Drawn} {tk₀ : Nat} {O : OsState}
theorem statics_ok (w : World) : nsOkIn (hd.heap_1 w.params) cStatics = true := by kernel_rfl
theorem statics_none (w : World) : nsIn (hd.heap_1 w.params) cStatics sharingNotToldKey = some none := by kernel_rfl
theorem none_booked (C : Cal w n A env g) (H : Sx g L ps nw h) : NoneBooked h := by
  have X : (hd.heap_1 w.params).In h := C.kin.keeps fun _ _ e => H.old e
  exact ⟨_, .of_isNs (isNs_of_in X (statics_ok w)), nsMap_none_of_in X (statics_ok w) (statics_none w)⟩
theorem c_is {x y : PySem.Str} {u v : Nat} {Q : Value → Shared → Prop} (C : Cal w n A env g) (H : Sx g L ps nw h) (hu : 0 < u) (hv : 0 < v) (huv : u ≠ v) (k : ∀ b : Bool, (b = true → x = y) → Q (.bool b) ⟨h, G, D, tk₀, O⟩) :
    wpAny (model prog w) A (compareOp .Is (.str x u) (.str y v)) Q E ⟨h, G, D, tk₀, O⟩ := by
  have h0 : (u == 0 || v == 0) = false := by
    have h1 : (u == 0) = false := beq_false_of_ne (Nat.ne_of_gt hu)
    have h2 : (v == 0) = false := beq_false_of_ne (Nat.ne_of_gt hv)
    rw [h1, h2]; rfl
  show wpAny _ _ ((isSame (.str x u) (.str y v)) >>= fun b => pure (Value.bool b)) _ _ _
  by_cases e : x = y
  · exact wpAny_bind (wpAny_isSame_str h0 (none_booked C H) fun b => wpAny_pure (k b fun _ => e))
  · rw [PySem.isSame_str_other x y u v h0 (by simpa using huv) (by simpa using e)]
    exact wpAny_bind (wpAny_pure (wpAny_pure (k false fun q => by cases q)))
end
end Mine

/- lists and tuples of the ledger -/
namespace Mine
inductive Up (d : Addr) (o : Obj) : LG → (Obj → LG) → Prop
  | head {r : LG} : Up d o ((d, o) :: r) (fun o' => (d, o') :: r)
  | tail {p : Addr × Obj} {r : LG} {f : Obj → LG} : Up d o r f → Up d o (p :: r) (fun o' => p :: f o')
theorem Up.split {d : Addr} {o : Obj} {nw : LG} {f : Obj → LG} (U : Up d o nw f) : ∃ pre post, nw = pre ++ (d, o) :: post ∧ ∀ o', f o' = pre ++ (d, o') :: post := by
  induction U with
  | head => exact ⟨[], _, rfl, fun _ => rfl⟩
  | tail _ ih =>
    obtain ⟨pre, post, rfl, e⟩ := ih
    exact ⟨_ :: pre, post, rfl, fun o' => by show _ :: _ = _; rw [e o']; rfl⟩
section
variable {g h h' : Heap} {L d : Addr} {ps : PS} {nw : LG} {o o' : Obj} {f : Obj → LG}
theorem Up.mem (U : Up d o nw f) : (d, o) ∈ nw := by
  obtain ⟨pre, post, rfl, _⟩ := U.split
  exact List.mem_append_right _ (.head _)
theorem Sx.up (H : Sx g L ps nw h) (U : Up d o nw f) (hs : Heap.SameBut d h h') (ho : h'.get? d = some o') : Sx g L ps (f o') h' := by
  obtain ⟨pre, post, rfl, e⟩ := U.split
  have hi : (pre ++ (d, o) :: post)[pre.length]? = some (d, o) := by simp
  have := H.change hi hs ho
  rw [e o']
  simpa [List.set_append] using this
end
theorem lst_is {h : Heap} {l : Addr} {vs : List Value} {n : Nat} (hl : h.get? l = some (lstObj vs n)) : h.IsList l vs.toArray := ⟨_, hl, rfl, n, rfl⟩
theorem tup_is {h : Heap} {l : Addr} {vs : List Value} (hl : h.get? l = some (tupObj vs)) : IsTup h l vs.toArray := ⟨_, hl, rfl, _, rfl⟩
theorem lst_mod {h : Heap} {l : Addr} {vs vs' : List Value} {n : Nat} (hl : h.get? l = some (lstObj vs n)) (f : Array Value → Array Value) (e : f vs.toArray = vs'.toArray) : ∃ n', (h.update l (Obj.mapSeq f)).get? l = some (lstObj vs' n') := by
  have q := PySem.IsL.update (h := h) (l := l) (items := vs.toArray) (n := n) hl f
  rw [e] at q
  exact ⟨_, q⟩
theorem lst_len {n : Nat} (h : n ≤ 1000000) : n ≤ sizeLine := by rw [sizeLine_eq]; omega
section
variable {prog : Program} {w : World} {n : Nat} {A : Around} {E : Value → Shared → Prop} {env : Env} {g : Heap} {L : Addr} {ps : PS} {nw : LG} {h : Heap} {G : Array GenState} {D : Drawn} {tk : Nat} {O : OsState}
  {l : Addr} {vs : List Value} {c : Nat} {i : Int} {u : Nat} {x : Value} {f : Obj → LG}

theorem c_getItem {Q : Value → Shared → Prop} (hl : h.get? l = some (lstObj vs c)) (h0 : 0 ≤ i) (hx : vs[i.toNat]? = some x) (hn : vs.length ≤ 1000000) (k : Q x ⟨h, G, D, tk, O⟩) : wpAny (model prog w) A (getItem (.ref l) (.int i u)) Q E ⟨h, G, D, tk, O⟩ := by
  have hlt : i.toNat < vs.length := by
    rcases Nat.lt_or_ge i.toNat vs.length with h1 | h1
    · exact h1
    · rw [List.getElem?_eq_none h1] at hx; cases hx
  exact wpAny_getItem_list (lst_is hl) h0 (by omega) (by simpa using hx) k
theorem c_item {Q : Value → Shared → Prop} {value slice : PySem.Expr} (hl : h.get? l = some (lstObj vs c)) (h0 : 0 ≤ i) (hx : vs[i.toNat]? = some x) (hn : vs.length ≤ 1000000) (k : Q x ⟨h, G, D, tk, O⟩)
    (hs : subscripted slice false (.ref l) (.int i u) = operate [.ref l, .int i u] (getItem (.ref l) (.int i u))) : wpAny (model prog w) A (subscriptTail value slice (.ref l) (.int i u)) Q E ⟨h, G, D, tk, O⟩ :=
  tail_any (lst_is hl).typeIs slot_list_getitem.lookup (c_getItem hl h0 hx hn k) hs
theorem c_titem {Q : Value → Shared → Prop} {value slice : PySem.Expr} (hl : h.get? l = some (tupObj vs)) (h0 : 0 ≤ i) (hx : vs[i.toNat]? = some x) (hn : vs.length ≤ 1000000) (k : Q x ⟨h, G, D, tk, O⟩)
    (hs : subscripted slice false (.ref l) (.int i u) = operate [.ref l, .int i u] (getItem (.ref l) (.int i u))) : wpAny (model prog w) A (subscriptTail value slice (.ref l) (.int i u)) Q E ⟨h, G, D, tk, O⟩ := by
  have hlt : i.toNat < vs.length := by
    rcases Nat.lt_or_ge i.toNat vs.length with h1 | h1
    · exact h1
    · rw [List.getElem?_eq_none h1] at hx; cases hx
  exact item_tupleT (tup_is hl) (by omega) (by omega) (seqIndex_of h0 (by omega)) hx k hs
theorem c_setItem {Q : Unit → Shared → Prop} (H : Sx g L ps nw h) (U : Up l (lstObj vs c) nw f) (h0 : 0 ≤ i) (hi : i < vs.length) (hn : vs.length ≤ 1000000)
    (k : ∀ h' c', Sx g L ps (f (lstObj (vs.set i.toNat x) c')) h' → Q () ⟨h', G, D, tk, O⟩) : wpAny (model prog w) A (setItem (.ref l) (.int i u) x) Q E ⟨h, G, D, tk, O⟩ := by
  have hl := H.get U.mem
  obtain ⟨c', e⟩ := lst_mod (vs' := vs.set i.toNat x) hl (·.setIfInBounds i.toNat x) (by apply Array.toList_inj.mp; simp)
  exact ki_setAt (s := ⟨h, G, D, tk, O⟩) hl h0 (by omega) (by simpa using hi) (k _ c' (H.up U (Heap.SameBut.update ..) e))
theorem c_delItem {Q : Unit → Shared → Prop} (H : Sx g L ps nw h) (U : Up l (lstObj vs c) nw f) (h0 : 0 ≤ i) (hi : i < vs.length) (hn : vs.length ≤ 1000000)
    (k : ∀ h' c', Sx g L ps (f (lstObj (vs.eraseIdx i.toNat) c')) h' → Q () ⟨h', G, D, tk, O⟩) : wpAny (model prog w) A (delItem (.ref l) (.int i u)) Q E ⟨h, G, D, tk, O⟩ := by
  have hl := H.get U.mem
  refine delItem_at (s := ⟨h, G, D, tk, O⟩) hl ?_ (seqIndex_of h0 (by simpa using hi)) (fun h' hs e => k h' _ (H.up U hs e)) (lst_len (by simpa using hn))
  unfold Builtin.List.listFitsIndex
  simp
  omega
theorem c_append {Q : Value → Shared → Prop} (H : Sx g L ps nw h) (U : Up l (lstObj vs c) nw f) (hn : vs.length ≤ 1000000)
    (k : ∀ h' c', Sx g L ps (f (lstObj (vs ++ [x]) c')) h' → Q .none ⟨h', G, D, tk, O⟩) : wpAny (model prog w) A (call (.builtin "list.append") [.ref l, x]) Q E ⟨h, G, D, tk, O⟩ := by
  refine wpAny_list_append_plain (s := ⟨h, G, D, tk, O⟩) ⟨c, H.get U.mem⟩ (fun h' hl hs => ?_) (lst_len (by simpa using hn))
  obtain ⟨c', e⟩ := hl
  rw [List.push_toArray] at e
  exact k h' c' (H.up U hs e)
theorem c_meth {name : PySem.Str} {id : String} {pl : Sem Bool} {Q : Value × List Value → Shared → Prop} (hl : h.get? l = some (lstObj vs c)) (slot : Slot "list" name id) (hty : typeOf (.builtin id) = pure (.type "method_descriptor"))
    (k : Q (.builtin id, [.ref l]) ⟨h, G, D, tk, O⟩) : wpAny (model prog w) A (getMethod (.ref l) name pl) Q E ⟨h, G, D, tk, O⟩ :=
  getMethod_builtin ⟨_, hl, rfl⟩ PySem.F.plainAttrs_list slot hty (fun a e => by cases e; exact ⟨_, hl, rfl⟩) k
theorem c_mappend {pl : Sem Bool} {Q : Value × List Value → Shared → Prop} (hl : h.get? l = some (lstObj vs c)) (k : Q (.builtin "list.append", [.ref l]) ⟨h, G, D, tk, O⟩) : wpAny (model prog w) A (getMethod (.ref l) (PySem.Str.ofString "append") pl) Q E ⟨h, G, D, tk, O⟩ :=
  getMethod_list_append hl rfl rfl k
theorem c_pop0 {Q : Value → Shared → Prop} (H : Sx g L ps nw h) (U : Up l (lstObj (x :: vs) c) nw f) (hn : vs.length ≤ 100000)
    (k : ∀ h' c', Sx g L ps (f (lstObj vs c')) h' → Q x ⟨h', G, D, tk, O⟩) : wpAny (model prog w) A (call (.builtin "list.pop") [.ref l, .int 0 u]) Q E ⟨h, G, D, tk, O⟩ := by
  have hl := H.get U.mem
  obtain ⟨c', e⟩ := lst_mod (vs' := vs) hl (·.eraseIdxIfInBounds 0) (by apply Array.toList_inj.mp; simp)
  refine call_meets PySem.F.slot_list_pop ⟨_, hl, rfl⟩ PySem.F.entry_list_pop (PySem.F.args_list_pop_2 _ _) (PySem.MeetsSeq.list_pop_at l _ c 0 u 0 x rfl (seqIndex_of (by omega) (by simp)) (by simp) (lst_len (by simp; omega))) ⟨hl, k _ c' (H.up U (Heap.SameBut.update ..) e)⟩
theorem c_extend {Q : Value → Shared → Prop} {b : Addr} {ws : List Value} {cb : Nat} (H : Sx g L ps nw h) (U : Up l (lstObj vs c) nw f) (hb : h.get? b = some (lstObj ws cb)) (hn : vs.length ≤ 100000) (hm : ws.length ≤ 100000)
    (k : ∀ h' c', Sx g L ps (f (lstObj (vs ++ ws) c')) h' → Q .none ⟨h', G, D, tk, O⟩) : wpAny (model prog w) A (call (.builtin "list.extend") [.ref l, .ref b]) Q E ⟨h, G, D, tk, O⟩ := by
  have hl := H.get U.mem
  obtain ⟨c', e⟩ := lst_mod (vs' := vs ++ ws) hl (· ++ ws.toArray) (by simp)
  refine call_meets PySem.F.slot_list_extend ⟨_, hl, rfl⟩ PySem.F.entry_list_extend (PySem.F.args_list_extend_2 _ _) (PySem.AutoSeq1.list_extend_list_list_0 l _ c b _ cb ?_ (lst_len (by simp; omega)) (Nat.le_succ_of_le (lst_len (by simp; omega)))) ⟨hl, hb, k _ c' (H.up U (Heap.SameBut.update ..) e)⟩
  have : Builtin.List.listTooLong (vs.toArray.size + ws.toArray.size) = false := by
    unfold Builtin.List.listTooLong
    have := lst_len (n := vs.length + ws.length) (by omega)
    simp
    omega
  rw [this]
  simp
theorem c_len {Q : Value → Shared → Prop} (hl : h.get? l = some (lstObj vs c)) (hn : vs.length ≤ 1000000) (k : Q (.int (vs.length : Nat) (tk + 1)) ⟨h, G, D, tk + 1 + 1, O⟩) : wpAny (model prog w) A (call (.builtin "len") [.ref l]) Q E ⟨h, G, D, tk, O⟩ :=
  call_len_list (lst_is hl) (by simp; omega) (by simpa using k)
theorem c_truth {Q : Bool → Shared → Prop} (hl : h.get? l = some (lstObj vs c)) (hn : vs.length ≤ 1000000) (k : Q (!vs.isEmpty) ⟨h, G, D, tk + 1 + 1, O⟩) : wpAny (model prog w) A (truthy (.ref l)) Q E ⟨h, G, D, tk, O⟩ :=
  wpAny_truthy_list (lst_is hl) (by simp; omega) (by simpa using k)
theorem c_newList {Q : Value → Shared → Prop} (H : Sx g L ps nw h) (hn : vs.length ≤ 1000000) (k : ∀ h' l, Sx g L ps ((l, lstObj vs 0) :: nw) h' → Q (.ref l) ⟨h', G, D, tk, O⟩) : wpAny (model prog w) A (newList vs) Q E ⟨h, G, D, tk, O⟩ := by
  obtain ⟨m, F, lm⟩ := H.fr
  refine newList_N (s := ⟨h, G, D, tk, O⟩) F H.led (fun h' F' N' => k h' _ ⟨⟨m, F', lm⟩, N', ?_⟩) (lst_len hn)
  rw [List.map_cons, List.nodup_cons]
  refine ⟨fun hm => ?_, H.nd⟩
  obtain ⟨p, hp, e⟩ := List.mem_map.mp hm
  exact Nat.lt_irrefl _ (e ▸ H.lts p hp)
theorem c_newTuple {Q : Value → Shared → Prop} (H : Sx g L ps nw h) (hn : vs.length ≤ 1000000) (k : ∀ h' l, Sx g L ps ((l, tupObj vs) :: nw) h' → Q (.ref l) ⟨h', G, D, tk, O⟩) : wpAny (model prog w) A (newTuple vs) Q E ⟨h, G, D, tk, O⟩ := by
  obtain ⟨m, F, lm⟩ := H.fr
  refine newTuple_N (s := ⟨h, G, D, tk, O⟩) F H.led (fun h' F' N' => k h' _ ⟨⟨m, F', lm⟩, N', ?_⟩) (lst_len hn)
  rw [List.map_cons, List.nodup_cons]
  refine ⟨fun hm => ?_, H.nd⟩
  obtain ⟨p, hp, e⟩ := List.mem_map.mp hm
  exact Nat.lt_irrefl _ (e ▸ H.lts p hp)
end
end Mine

/- cells, instances, classes -/
namespace Mine
theorem cellsAre_map {cm : PySem.Str → Option Value} {cs : List (PySem.Str × Addr)} {cells : List (Addr × Obj)} (Y : CellsAre cm cs cells) : cells.map (·.1) = cs.map (·.2) := by
  induction Y with
  | nil => rfl
  | cons _ _ ih => simp [ih]
theorem mem_of_lookupPS : ∀ {ps : PS} {x : PySem.Str} {v : Value}, ps.lookup x = some v → (x, v) ∈ ps
  | [], _, _, e => nomatch e
  | p :: r, x, v, e => by
    rw [List.lookup_cons] at e
    cases q : x == p.1 with
    | true => rw [q] at e; cases e; rw [beq_iff_eq.mp q]; exact .head _
    | false => rw [q] at e; exact .tail _ (mem_of_lookupPS e)
theorem pl_nil {f : PySem.Str → Option Value} : ∀ p ∈ ([] : PS), f p.1 = some p.2 := fun _ hp => nomatch hp
theorem pl_cons {f : PySem.Str → Option Value} {x : PySem.Str} {v : Value} {r : PS} (e : f x = some v) (h : ∀ p ∈ r, f p.1 = some p.2) : ∀ p ∈ (x, v) :: r, f p.1 = some p.2 := List.forall_mem_cons.mpr ⟨e, h⟩
theorem codeC {prog : Program} {w : World} {n : Nat} {A : Around} {env : Env} {g : Heap} {ps : List (PySem.Str × Value)} {mu fz nw : List (Addr × Obj)} {s : Shared} {R : Result → Shared → Prop}
    {name qual : PySem.Str} {params : Arguments} {body : List Stmt} {scope : Scope} {dV kV doc pm cdv ct oc : Value} {an od : Option Addr} {osl : Array (Option Value)} {f : Addr} {args : List Value} {binds : List (PySem.Str × Value)}
    (C : Cal w (n + 1) A env g) (H : Sx g env.locals ps nw s.heap) (hp : nw.Perm (mu ++ fz))
    (ho : (hd.heap_1 w.params).lookup f = some ⟨oc, od, .func (fnOf name qual params body scope dV kV doc pm an cdv ct), osl⟩) (hcd : codeIn (hd.heap_1 w.params) cdv qual = true)
    (hbind : BindsTo s (fnOf name qual params body scope dV kV doc pm an cdv ct) ⟨args, []⟩ binds)
    (hkind : (binds.all fun y => scope.names.lookup y.1 == some .local || scope.names.lookup y.1 == some .cell) = true)
    (hnd : ((cellsFrom 0 scope.names []).map (·.1)).Nodup) {psL : PS} (hpl : ∀ p ∈ psL, bindL (fun n => scope.names.lookup n) binds (fun _ => none) p.1 = some p.2)
    (h : ∀ g' L' h₁ tk A' cells, Cal w n A' (envX qual scope L' f cdv (cellsFrom (L' + 1) scope.names [])) g' →
      CellsAre (bindC (envX qual scope L' f cdv (cellsFrom (L' + 1) scope.names [])).kindOf binds fun _ => none) (cellsFrom (L' + 1) scope.names []) cells →
      Sx g' L' psL (cells ++ mu) h₁ → (∀ b o, s.heap.get? b = some o → b ∉ mu.map (·.1) → g'.get? b = some o) →
      wpAny (model prog w) A' (execs body (envX qual scope L' f cdv (cellsFrom (L' + 1) scope.names [])))
        (fun fl s' => ∃ h' tk ps' mu', s' = { s with heap := h', toks := tk } ∧ Sx g' L' ps' mu' h' ∧ (Sx g env.locals ps (mu' ++ fz) h' → R (.ok (.ret (match fl with | .ret v => v | _ => .none))) { s with heap := h', toks := tk }))
        (fun _ _ => False) { s with heap := h₁, toks := tk })
    (hco : scope.isCoroutine = false := by rfl) (hgen : scope.isGenerator = false := by rfl) (hk : scope.kind = .function := by rfl) :
    codeAny (model prog w) A (.call (.ref f) ⟨args, []⟩) R s := by
  obtain ⟨p, loose, mean, mg, mb, T⟩ := C.top
  obtain ⟨A₀, base, outer, B, hA⟩ := C.stk (Nat.succ_pos n)
  have H' := H.perm hp
  obtain ⟨m, F, hl⟩ := H'.fr
  have hsm : mu.Sublist (mu ++ fz) := List.sublist_append_left _ _
  have Hm := H'.sub hsm
  obtain ⟨FG, BG, st, _⟩ := groundX (R := fun _ _ => True) B F Hm.led hA (C.frm (Nat.succ_pos n)) C.kind
  have keepG : ∀ b o, s.heap.get? b = some o → b ∉ mu.map (·.1) → (hideAll s.heap (mu.map (·.1))).get? b = some o := fun b o e hb => hideAll_get _ e hb
  have X : (hd.heap_1 w.params).In s.heap := C.kin.keeps F.keep
  refine codeAny_call_function C.room (X _ _ ho) rfl hco hgen rfl (codeRec_of X hcd) (hbind _ _ _ _ ?_)
  refine wpAny_newFunctionEnv_cells hk (kindsX hkind _) fun env' he s' x => ?_
  subst he
  refine ⟨(T.nolimit.keeps F.keep).keeps x.toInCall.keep, codeAny_func ?_⟩
  obtain ⟨h₁, tk, rfl⟩ := x.toInCall.same
  have hk₁ := x.toInCall.keep
  obtain ⟨cells, NC, Y⟩ := Cl.news (h₀ := s.heap) (Nat.le_refl _) fun n c hm => ⟨x.cell n c (lookup_of_mem_nodup (cellsFrom_names scope.names 0 (s.heap.objs.size + 1) [] [] rfl ▸ hnd) hm), x.above n c hm⟩
  have hC : Cal w n (A.deeper (envOfC qual scope s.heap.objs.size f cdv)) (envOfC qual scope s.heap.objs.size f cdv) (hideAll s.heap (mu.map (·.1))) := by
    refine ⟨⟨p, loose, mean, mg, mb, T.keeps st⟩, C.kin.keeps st, fun _ => ⟨A, base, env :: outer, BG, ?_⟩, fun _ => rfl, hk, ?_, ?_, C.handled⟩
    · show A.frames.map _ = _
      rw [hA]; rfl
    · have := C.depth
      show A.depth + 1 + n ≤ 900
      omega
    · have := C.units
      show A.units + 3 + 20 * n ≤ 9000
      omega
  have hap : (cells.map (·.1)).Nodup := by
    have e := cellsAre_map Y
    rw [e, List.Nodup, List.pairwise_map]
    exact x.apart
  have hS : Sx (hideAll s.heap (mu.map (·.1))) s.heap.objs.size psL (cells ++ mu) h₁ := by
    refine ⟨⟨_, ⟨x.toInCall.ns, fun b o e => hk₁ b o (of_hideAll _ e), Nat.le_of_eq (hideAll_size _ _)⟩, fun y v e => hpl (y, v) (mem_of_lookupPS e)⟩, fun p hp => ?_, ?_⟩
    · rcases List.mem_append.mp hp with hp | hp
      · refine ⟨(NC p hp).1, (NC p hp).2.1, ?_⟩
        cases q : (hideAll s.heap (mu.map (·.1))).get? p.1 with
        | none => rfl
        | some o => have := of_hideAll _ q; rw [(NC p hp).2.2] at this; cases this
      · exact ⟨hk₁ _ _ (Hm.led p hp).1, Nat.ne_of_lt (Heap.lt_size (Hm.led p hp).1), hideAll_none _ (List.mem_map_of_mem hp)⟩
    · rw [List.map_append, List.nodup_append]
      refine ⟨hap, Hm.nd, fun a ha b hb e => ?_⟩
      subst e
      obtain ⟨p, hp, rfl⟩ := List.mem_map.mp ha
      obtain ⟨q, hq, e⟩ := List.mem_map.mp hb
      have h1 := (NC p hp).2.2
      have h2 := (Hm.led q hq).1
      rw [e, h1] at h2
      cases h2
  refine wpAny_mono (h _ s.heap.objs.size h₁ _ _ cells hC Y hS keepG) (fun fl s' hh => ?_) fun _ _ x => x.elim
  obtain ⟨h', tk, ps', mu', rfl, S', k⟩ := hh
  refine k ?_
  obtain ⟨m', F', _⟩ := S'.fr
  obtain ⟨oL, es, ep, hL, r⟩ := F.ns
  have nL : env.locals ∉ mu.map (·.1) := fun q => by
    obtain ⟨p, hp, e⟩ := List.mem_map.mp q
    exact (Hm.led p hp).2.1 e
  have hLg := keepG _ _ hL nL
  have fzg : ∀ p ∈ fz, (hideAll s.heap (mu.map (·.1))).get? p.1 = some p.2 := fun p hp => by
    refine keepG _ _ (H'.led p (List.mem_append_right _ hp)).1 fun q => ?_
    have nd := H'.nd
    rw [List.map_append, List.nodup_append] at nd
    exact nd.2.2 _ q _ (List.mem_map_of_mem hp) rfl
  refine ⟨⟨m, ⟨⟨oL, es, ep, F'.keep _ _ hLg, r⟩, fun b o e => F'.keep b o (st b o e), F.above⟩, hl⟩, fun p hp => ?_, ?_⟩
  · rcases List.mem_append.mp hp with hp | hp
    · refine ⟨(S'.led p hp).1, fun q => ?_, ?_⟩
      · have := (S'.led p hp).2.2
        rw [q, hLg] at this; cases this
      · cases q : g.get? p.1 with
        | none => rfl
        | some o => have := (S'.led p hp).2.2; rw [st _ _ q] at this; cases this
    · exact ⟨F'.keep _ _ (fzg p hp), (H'.led p (List.mem_append_right _ hp)).2⟩
  · rw [List.map_append, List.nodup_append]
    have nd := H'.nd
    rw [List.map_append, List.nodup_append] at nd
    refine ⟨S'.nd, nd.2.1, fun a ha b hb e => ?_⟩
    subst e
    obtain ⟨p, hp, rfl⟩ := List.mem_map.mp ha
    obtain ⟨q, hq, e⟩ := List.mem_map.mp hb
    have h1 := (S'.led p hp).2.2
    have h2 := fzg q hq
    rw [e, h1] at h2
    cases h2

theorem Cal.under {w : World} {n : Nat} {A : Around} {env : Env} {g : Heap} (C : Cal w (n + 1) A env g) {c : Addr} {pos : List Value} {kw : List (PySem.Str × Value)} : Cal w n (A.under (.builtin "type.__call__" ⟨.ref c :: pos, kw⟩)) env g := by
  obtain ⟨A₀, base, outer, B, hA⟩ := C.stk (Nat.succ_pos n)
  refine ⟨C.top, C.kin, fun _ => ⟨A₀, base, outer, B, ?_⟩, fun _ => C.frm (Nat.succ_pos n), C.kind, ?_, ?_, C.handled⟩
  · unfold Around.under
    simp only [hA]
    rfl
  · have := C.depth
    show A.depth + Code.weight _ + n ≤ 900
    have e : Code.weight (.builtin "type.__call__" ⟨.ref c :: pos, kw⟩) = 1 := by rfl
    omega
  · have := C.units
    show A.units + Code.cUnits _ + 20 * n ≤ 9000
    have e : Code.cUnits (.builtin "type.__call__" ⟨.ref c :: pos, kw⟩) = 1 := by rfl
    omega
theorem Cal.in1 {w : World} {n : Nat} {A : Around} {env : Env} {g : Heap} (C : Cal w (n + 1) A env g) : Cal w n A.in1 env g := by
  obtain ⟨A₀, base, outer, B, hA⟩ := C.stk (Nat.succ_pos n)
  refine ⟨C.top, C.kin, fun _ => ⟨A₀, base, outer, B, hA⟩, fun _ => C.frm (Nat.succ_pos n), C.kind, ?_, ?_, C.handled⟩
  · have := C.depth
    show A.depth + n ≤ 900
    omega
  · have := C.units
    show A.units + 1 + 20 * n ≤ 9000
    omega
end Mine
namespace Mine
/-- the entries of a dict by text names -/
inductive EsAre : PS → List DictEntry → Prop
  | nil : EsAre [] []
  | cons (x : PySem.Str) (v : Value) (hsh : Int) (t : Nat) {r : PS} {es : List DictEntry} : EsAre r es → EsAre ((x, v) :: r) (⟨hsh, .str x t, v⟩ :: es)
theorem isStr_eq (x y : PySem.Str) (t : Nat) : (Value.str x t).isStr y = (x == y) := rfl
theorem EsAre.noRef {kv : PS} {es : List DictEntry} (X : EsAre kv es) : es.any (·.refKey) = false := by
  induction X with
  | nil => rfl
  | cons x v hsh t _ ih => rw [List.any_cons, ih]; rfl
theorem EsAre.length {kv : PS} {es : List DictEntry} (X : EsAre kv es) : es.length = kv.length := by
  induction X with
  | nil => rfl
  | cons x v hsh t _ ih => simp [ih]
theorem EsAre.get {kv : PS} {es : List DictEntry} (X : EsAre kv es) (name : PySem.Str) : getL name es = some (kv.lookup name) := by
  have hr := X.noRef
  unfold getL
  rw [hr]
  clear hr
  induction X with
  | nil => rfl
  | cons x v hsh t _ ih =>
    rw [List.find?_cons, List.lookup_cons]
    have e0 : (Value.str x t).isStr name = (x == name) := rfl
    rw [e0]
    by_cases q : x = name
    · subst q; simp
    · have h1 : (x == name) = false := by simpa using q
      have h2 : (name == x) = false := by simpa using fun e => q e.symm
      rw [h1, h2]
      exact ih
noncomputable def putK (name : PySem.Str) (v : Value) : PS → PS
  | [] => [(name, v)]
  | p :: r => if p.1 == name then (p.1, v) :: r else p :: putK name v r
theorem EsAre.put {kv : PS} {es : List DictEntry} (X : EsAre kv es) (name : PySem.Str) (v : Value) (hsh : Int) (t : Nat) : EsAre (putK name v kv) (putL name hsh (.str name t) v es) := by
  induction X with
  | nil => exact .cons _ _ _ _ .nil
  | cons x u hs tt X ih =>
    unfold putL putK
    show EsAre _ (if (x == name) = true then _ else _)
    by_cases q : (x == name) = true
    · rw [if_pos q, if_pos q]; exact .cons _ _ _ _ X
    · rw [if_neg q, if_neg q]; exact .cons _ _ _ _ ih
theorem Up.keys {d : Addr} {o o' : Obj} {nw : LG} {f : Obj → LG} (U : Up d o nw f) : (f o').map (·.1) = nw.map (·.1) := by
  obtain ⟨pre, post, rfl, e⟩ := U.split
  rw [e o']; simp
theorem Up.upd {d : Addr} {o : Obj} (o' : Obj) {nw : LG} {f : Obj → LG} (U : Up d o nw f) (nd : (nw.map (·.1)).Nodup) : Upd d o o' nw (f o') := by
  induction U with
  | head =>
    rw [List.map_cons, List.nodup_cons] at nd
    exact .head fun p hp e => nd.1 (List.mem_map.mpr ⟨p, hp, e⟩)
  | tail U ih =>
    rw [List.map_cons, List.nodup_cons] at nd
    refine .tail (fun e => nd.1 ?_) (ih nd.2)
    exact List.mem_map.mpr ⟨_, U.mem, e.symm⟩
theorem Up.updF {d : Addr} {o : Obj} {nw : LG} {f : Obj → LG} (U : Up d o nw f) (nd : (nw.map (·.1)).Nodup) : UpdF d o nw f := by
  induction U with
  | head =>
    rw [List.map_cons, List.nodup_cons] at nd
    exact .head fun p hp e => nd.1 (List.mem_map.mpr ⟨p, hp, e⟩)
  | tail U ih =>
    rw [List.map_cons, List.nodup_cons] at nd
    refine .tail (fun e => nd.1 ?_) (ih nd.2)
    exact List.mem_map.mpr ⟨_, U.mem, e.symm⟩
section
variable {prog : Program} {w : World} {n : Nat} {A : Around} {E : Value → Shared → Prop} {env : Env} {g : Heap} {ps : PS} {nw : LG} {h : Heap} {G : Array GenState} {D : Drawn} {tk : Nat} {O : OsState}
  {x dx c : Addr} {kv : PS} {es : List DictEntry} {m : Nat} {name : PySem.Str} {v : Value} {f : Obj → LG}
theorem inst_at (hx : h.get? x = some (instObj c dx)) (hd : h.get? dx = some (dictOf es m)) : W.InstAt h x (instObj c dx) c (some (dictOf es m)) := ⟨hx, rfl, rfl, hd⟩
theorem c_attr {expr : Bool} {attr : Option Value} {Q : Value → Shared → Prop} (C : Cal w n A env g) (H : Sx g env.locals ps nw h) (hx : h.get? x = some (instObj c dx)) (hdx : h.get? dx = some (dictOf es m)) (he : EsAre kv es)
    (hv : kv.lookup name = some v) (hg : plainGet (hd.heap_1 w.params) c name = true) (hh : hasDictIn (hd.heap_1 w.params) c = true) (ha : findIn (hd.heap_1 w.params) (.ref c) name = some attr) (hn : noGet (hd.heap_1 w.params) attr = true)
    (hi : handedIn v = true) (k : Q v ⟨h, G, D, tk + 1, O⟩) : wpAny (model prog w) A (getAttr (.ref x) name expr) Q E ⟨h, G, D, tk, O⟩ := by
  obtain ⟨mm, F, l⟩ := H.fr
  exact get_own (s := ⟨h, G, D, tk, O⟩) F C.kin (inst_at hx hdx) hg hh ha hn (by rw [he.get, hv]) hi k
theorem c_setattr {Q : Unit → Shared → Prop} (C : Cal w n A env g) (H : Sx g env.locals ps nw h) (hx : h.get? x = some (instObj c dx)) (U : Up dx (dictOf es m) nw f) (he : EsAre kv es) (hl : kv.length ≤ 100)
    (hs : findIn (hd.heap_1 w.params) (.ref c) "__setattr__" = some (some (.builtin "object.__setattr__"))) (hp : plainOver (hd.heap_1 w.params) c = true) (ht : takerIn (hd.heap_1 w.params) c name = some none) (hh : hasDictIn (hd.heap_1 w.params) c = true)
    (k : ∀ h' tk' es' m', EsAre (putK name v kv) es' → Sx g env.locals ps (f (dictOf es' m')) h' → Q () ⟨h', G, D, tk', O⟩) :
    wpAny (model prog w) A (setAttr (.ref x) name v) Q E ⟨h, G, D, tk, O⟩ := by
  obtain ⟨mm, F, l⟩ := H.fr
  have hd := H.get U.mem
  have hput := he.put name v (PyData.keyHash w.params name) (tk + 1)
  refine set_dict (s := ⟨h, G, D, tk, O⟩) F C.kin H.led (inst_at hx hd) rfl hs hp ht hh (by rw [he.get]; rfl) rfl (U.upd _ H.nd) ?_ fun h' F' N' => k h' _ _ _ hput ⟨⟨mm, F', l⟩, N', by rw [U.keys]; exact H.nd⟩
  rw [hput.length]
  have : ∀ kv : PS, (putK name v kv).length ≤ kv.length + 1 := by
    intro kv
    induction kv with
    | nil => exact Nat.le_refl _
    | cons p r ih =>
      unfold putK
      split
      · simp
      · simpa using ih
  have := this kv
  omega
theorem c_imeth {pl : Sem Bool} {Q : Value × List Value → Shared → Prop} {fa : Addr} (C : Cal w n A env g) (H : Sx g env.locals ps nw h) (hx : h.get? x = some (instObj c dx)) (hdx : h.get? dx = some (dictOf es m)) (he : EsAre kv es)
    (hv : kv.lookup name = none) (hg : plainGet (hd.heap_1 w.params) c name = true) (hf : findIn (hd.heap_1 w.params) (.ref c) name = some (some (.ref fa))) (ht : isFn (hd.heap_1 w.params) (.ref fa) = true)
    (k : Q (.ref fa, [.ref x]) ⟨h, G, D, tk, O⟩) : wpAny (model prog w) A (getMethod (.ref x) name pl) Q E ⟨h, G, D, tk, O⟩ := by
  obtain ⟨mm, F, l⟩ := H.fr
  exact method_inst (s := ⟨h, G, D, tk, O⟩) F C.kin (inst_at hx hdx) hg hf ht (by rw [he.get, hv]) k
/-- a class of the text is called -/
theorem c_cls {Q : Value → Shared → Prop} {pos : List Value} {fI : Addr} (C : Cal w (n + 1) A env g) (H : Sx g env.locals ps nw h) (hm : makesIn (hd.heap_1 w.params) c = true) (hi : findIn (hd.heap_1 w.params) (.ref c) "__init__" = some (some (.ref fI))) (hf : isFn (hd.heap_1 w.params) (.ref fI) = true)
    (k : ∀ x dx h' A', Cal w n A' env g → Sx g env.locals ps ((x, instObj c dx) :: (dx, dictOf [] 0) :: nw) h' →
      codeAny (model prog w) A' (.call (.ref fI) ⟨.ref x :: pos, []⟩) (InitBack x fun r s' => match r with | .ok (.ret v) => Q v s' | .ok _ => False | .error e => E e s') ⟨h', G, D, tk, O⟩) :
    wpAny (model prog w) A (call (.ref c) pos []) Q E ⟨h, G, D, tk, O⟩ := by
  obtain ⟨mm, F, l⟩ := H.fr
  refine call_cls (s := ⟨h, G, D, tk, O⟩) F C.kin H.led hm hi hf fun x dx h' F' N' l1 l2 => k x dx h' _ C.under ⟨⟨mm, F', l⟩, N', ?_⟩
  rw [List.map_cons, List.nodup_cons, List.map_cons, List.nodup_cons]
  refine ⟨fun hmem => ?_, fun hmem => ?_, H.nd⟩
  · rcases List.mem_cons.mp hmem with e | hmem
    · have e' : x = dx := e
      rw [e'] at l2
      exact Nat.lt_irrefl _ l2
    · obtain ⟨p, hp, e⟩ := List.mem_map.mp hmem
      have := l1 p hp
      have l2' : (dx : Nat) < x := l2
      rw [e] at this
      exact Nat.lt_irrefl _ (Nat.lt_trans l2' this)
  · obtain ⟨p, hp, e⟩ := List.mem_map.mp hmem
    have := l1 p hp
    rw [e] at this
    exact Nat.lt_irrefl _ this
/-- a name of a cell -/
theorem p_stc {cc : Addr} {o : Obj} {v₀ : Option Value} {Q : Unit → Shared → Prop} {L : Addr} {xn : PySem.Str} {M : Model} (C : Cal w n A env g) (H : Sx g L ps nw h) (hx : env.kindOf xn = some .cell) (hc : env.cells.lookup xn = some cc) (U : Up cc o nw f) (hd : o.data = .cell v₀)
    (k : ∀ h' o', o'.data = .cell (some v) → Sx g L ps (f o') h' → Q () ⟨h', G, D, tk, O⟩) : wpAny M A (storeName env xn v) Q E ⟨h, G, D, tk, O⟩ := by
  refine wpAny_storeName_cell (s := ⟨h, G, D, tk, O⟩) C.kind hx hc ⟨o, H.get U.mem, hd⟩ fun h' hv hs => ?_
  obtain ⟨o', ho', hd'⟩ := hv
  exact k h' o' hd' (H.up U hs ho')
theorem p_free {cc : Addr} {o : Obj} {xn : PySem.Str} {pos : Pos} {M : Model} {Q : Value → Shared → Prop} (C : Cal w n A env g) (hx : env.kindOf xn = some .free) (hc : env.cells.lookup xn = some cc) (ho : h.get? cc = some o) (hd : o.data = .cell (some v))
    (k : Q v ⟨h, G, D, tk, O⟩) (hd1 : (xn == ("__debug__" : PySem.Str)) = false) (hd2 : (xn == PySem.Str.ofString "__classdict__") = false) : wpAny M A (eval (.Name xn pos) env) Q E ⟨h, G, D, tk, O⟩ :=
  wpAny_Name (wpAny_loadName_free (s := ⟨h, G, D, tk, O⟩) C.kind hx hc ⟨o, ho, hd⟩ k hd2) hd1
end
end Mine
namespace Mine
theorem codeK {prog : Program} {w : World} {n : Nat} {A : Around} {env : Env} {g : Heap} {ps : List (PySem.Str × Value)} {mu fz nw : List (Addr × Obj)} {h : Heap} {G : Array GenState} {D : Drawn} {tk₀ : Nat} {O : OsState} {R : Result → Shared → Prop}
    {name qual : PySem.Str} {params : Arguments} {body : List Stmt} {scope : Scope} {dV kV doc pm cdv ct oc : Value} {an od : Option Addr} {osl : Array (Option Value)} {f : Addr} {args : List Value} {binds : List (PySem.Str × Value)}
    (C : Cal w (n + 1) A env g) (H : Sx g env.locals ps nw h) (hp : nw.Perm (mu ++ fz))
    (ho : (hd.heap_1 w.params).lookup f = some ⟨oc, od, .func (fnOf name qual params body scope dV kV doc pm an cdv ct), osl⟩) (hcd : codeIn (hd.heap_1 w.params) cdv qual = true)
    (hbind : BindsTo ⟨h, G, D, tk₀, O⟩ (fnOf name qual params body scope dV kV doc pm an cdv ct) ⟨args, []⟩ binds) (hloc : ∀ y ∈ binds, scope.names.lookup y.1 = some .local)
    (hcell : ∀ x ∈ scope.names, x.2 ≠ .cell) (hco : scope.isCoroutine = false) (hgen : scope.isGenerator = false) (hk : scope.kind = .function)
    (hh : ∀ g' L' h₁ tk A', tk₀ ≤ tk → Cal w n A' (envX qual scope L' f cdv []) g' → Sx g' L' binds.reverse mu h₁ → (∀ b o, h.get? b = some o → b ∉ mu.map (·.1) → g'.get? b = some o) →
      wpAny (model prog w) A' (execs body (envX qual scope L' f cdv []))
        (fun fl s' => ∃ h' tk ps' mu', s' = ⟨h', G, D, tk, O⟩ ∧ Sx g' L' ps' mu' h' ∧ (Sx g env.locals ps (mu' ++ fz) h' → R (.ok (.ret (match fl with | .ret v => v | _ => .none))) ⟨h', G, D, tk, O⟩))
        NoE ⟨h₁, G, D, tk, O⟩) :
    codeAny (model prog w) A (.call (.ref f) ⟨args, []⟩) R ⟨h, G, D, tk₀, O⟩ :=
  codeP (s := ⟨h, G, D, tk₀, O⟩) (cl := []) C H hp (H.old (C.kin _ _ ho)) rfl (codeRec_of (C.kin.keeps fun _ _ e => H.old e) hcd) hbind hloc (fun g' L' h₁ tk A' htk C' H' k => hh g' L' h₁ tk A' htk C' H' k) hcell hco hgen hk
end Mine

/- attributes of a def -/
namespace Mine
open Builtin Builtin.ObjectAttr
theorem fn_ga : Slot "function" "__getattribute__" "object.__getattribute__" :=
  .of (owner := "object") (n := "__getattribute__") (by rw [typeLookup_type, builtinLookup_eq_fast]; kernel_rfl) (by decide +kernel) (by decide +kernel) (by decide +kernel)
    (by first | exact .inl (by decide +kernel) | exact .inr (by decide +kernel)) (by rw [isSubtype_type]; kernel_rfl)
theorem fn_sa : Slot "function" "__setattr__" "object.__setattr__" :=
  .of (owner := "object") (n := "__setattr__") (by rw [typeLookup_type, builtinLookup_eq_fast]; kernel_rfl) (by decide +kernel) (by decide +kernel) (by decide +kernel)
    (by first | exact .inl (by decide +kernel) | exact .inr (by decide +kernel)) (by rw [isSubtype_type]; kernel_rfl)
theorem fn_noga : typeLookup (.type "function") "__getattr__" = pure none := by rw [typeLookup_type, builtinLookup_eq_fast]; kernel_rfl
theorem fn_noread : typeLookup (.type "function") "read" = pure none := by rw [typeLookup_type, builtinLookup_eq_fast]; kernel_rfl
theorem ga_entry : entryFor table "object.__getattribute__" = some Builtin.«object.__getattribute__» := entryFor_of_tree (by kernel_rfl)
theorem sa_entry : entryFor table "object.__setattr__" = some Builtin.«object.__setattr__» := entryFor_of_tree (by kernel_rfl)
theorem ga_args (a b : Value) : argsOk "object.__getattribute__" ⟨[a, b], []⟩ := by unfold argsOk; kernel_rfl
theorem sa_args (a b c : Value) : argsOk "object.__setattr__" ⟨[a, b, c], []⟩ := by unfold argsOk; kernel_rfl
theorem ga_canon : (Manifest.canonical "object.__getattribute__" != "object.__getattribute__") = false := by decide +kernel
theorem fn_mro : mroOf (.type "function") = pure [.type "function", .type "object"] := by kernel_rfl
theorem fn_refuse (self : Value) : refuseLoop self "__setattr__" [.type "function", .type "object"] = pure () := by kernel_rfl
section
variable {prog : Program} {w : World} {A : Around} {E : Value → Shared → Prop} {h : Heap} {G : Array GenState} {D : Drawn} {tk : Nat} {O : OsState}

theorem fn_body_get {st ds : Addr} {o : Obj} {fd : FuncData} {m : PySem.Str → Option Value} {v : Value} {t : Nat} {Q : Fin → Shared → Prop} (ho : h.get? st = some o) (hc : o.cls = .type "function") (hd : o.dict = some ds) (hf : o.data = .func fd) (hn : h.Ns ds m) (hv : m "read" = some v)
    (k : Q (.done (.ret v)) ⟨h, G, D, tk, O⟩) : wpAny (model prog w) A (Builtin.«object.__getattribute__» ⟨[.ref st, .str "read" t], []⟩) Q E ⟨h, G, D, tk, O⟩ := by
  have hT : (⟨h, G, D, tk, O⟩ : Shared).TypeIs (.ref st) "function" := ⟨_, ho, hc⟩
  unfold Builtin.«object.__getattribute__» find getOf dataDescriptor? ownThenClass inOwnDict ObjectAttr.ownDict inDict
  repeat (first
    | (with_reducible refine wpAny_typeOf hT ?_)
    | (with_reducible refine wpAny_of_eq fn_noread ?_)
    | (with_reducible refine wpAny_nsGet hn ?_; rw [hv])
    | (with_reducible refine wpAny_loadPart ho ?_)
    | (simp only [hc, hd, hf])
    | wp_step
    | dsimp only)
  all_goals exact k

theorem c_fmeth {st ds : Addr} {o : Obj} {fd : FuncData} {m : PySem.Str → Option Value} {v : Value} {pl : Sem Bool} {Q : Value × List Value → Shared → Prop} (ho : h.get? st = some o) (hc : o.cls = .type "function") (hd : o.dict = some ds) (hf : o.data = .func fd) (hn : h.Ns ds m) (hv : m "read" = some v) (hi : handedIn v = true)
    (k : Q (v, []) ⟨h, G, D, tk + 1, O⟩) : wpAny (model prog w) A (getMethod (.ref st) "read" pl) Q E ⟨h, G, D, tk, O⟩ := by
  have hT : ∀ tk, (⟨h, G, D, tk, O⟩ : Shared).TypeIs (.ref st) "function" := fun _ => ⟨_, ho, hc⟩
  unfold getMethod
  refine wpAny_bind (wpAny_specialOf (hT _) fn_ga.lookup ?_)
  show wpAny _ _ (if (Manifest.canonical "object.__getattribute__" != "object.__getattribute__") = true then _ else _) _ _ _
  rw [ga_canon, if_neg Bool.false_ne_true]
  refine wpAny_bind (wpAny_specialOf (hT _) fn_noga ?_)
  refine wpAny_bind (wpAny_specialOf (hT _) fn_noread ?_)
  unfold getAttr getAttrBy
  refine wpAny_bind (wpAny_bind (wpAny_mkText (wpAny_holding (wpAny_bind (wpAny_typeOf (hT _) (wpAny_bind (wpAny_of_eq fn_ga.lookup ?_)))))))
  show wpAny _ _ (getAttrByItsOwn (.ref st) (.str "read" tk) (.type "function") (.builtin "object.__getattribute__") true false) _ _ _
  unfold getAttrByItsOwn hookBefore callGetattribute boundAndCalled
  refine wpAny_bind (wpAny_of_eq (show (if onTheHeap (.type "function") then typeLookup (.type "function") "__getattr__" else pure none) = pure none from rfl) ?_)
  refine wpAny_bind (wpAny_attempt (wpAny_holding ?_))
  show wpAny _ _ (bindSpecial (.builtin "object.__getattribute__") (.ref st) >>= _) _ _ _
  refine wpAny_bind (wpAny_of_eq (fn_ga.bind _) ?_)
  refine wpAny_mono (Q := fun v' s' => v' = v ∧ s' = ⟨h, G, D, tk + 1, O⟩) (E := fun _ _ => False)
    (wpAny_call_entry fn_ga (hT _) ga_entry (fn_body_get ho hc hd hf hn hv ⟨_, rfl, rfl, rfl⟩) (ga_args _ _)) (fun v' s' hv => ?_) fun _ _ z => z.elim
  obtain ⟨rfl, rfl⟩ := hv
  show wpAny _ _ (handedOut v') _ _ _
  rw [handedOut_of hi]
  exact wpAny_pure (wpAny_pure k)

set_option maxHeartbeats 4000000 in
theorem fn_body_set {st : Addr} {o : Obj} {fd : FuncData} {v : Value} {t : Nat} {Q : Fin → Shared → Prop} (ho : h.get? st = some o) (hc : o.cls = .type "function") (hd : o.dict = none) (hf : o.data = .func fd)
    (k : ∀ h' tk' ds, h.objs.size = ds → h'.get? st = some ⟨o.cls, some ds, o.data, o.slots⟩ → h'.Ns1 ds (fun y => if y = "read" then some v else none) → (∀ b ob, b ≠ st → h.get? b = some ob → h'.get? b = some ob) → Q (.done (.ret .none)) ⟨h', G, D, tk', O⟩) :
    wpAny (model prog w) A (Builtin.«object.__setattr__» ⟨[.ref st, .str "read" t, v], []⟩) Q E ⟨h, G, D, tk, O⟩ := by
  have hT : (⟨h, G, D, tk, O⟩ : Shared).TypeIs (.ref st) "function" := ⟨_, ho, hc⟩
  have hpass := fn_refuse (.ref st)
  have hx₁ : (h.push { cls := .type "dict", data := .dict #[] }).get? st = some o := Heap.get?_push_of_some _ ho
  have hxs : st ≠ h.objs.size := Nat.ne_of_lt (Heap.lt_size ho)
  have hgd : ((h.push { cls := .type "dict", data := .dict #[] }).update st fun o => { cls := o.cls, dict := some h.objs.size, data := o.data, slots := o.slots }).get? h.objs.size
      = some { cls := .type "dict", data := .dict #[] } :=
    (Heap.get?_update_ne _ _ _ _ hxs.symm).trans (Heap.get?_push_at rfl rfl)
  have hnd : ((h.push { cls := .type "dict", data := .dict #[] }).update st fun o => { cls := o.cls, dict := some h.objs.size, data := o.data, slots := o.slots }).Ns h.objs.size (fun _ => none) :=
    ⟨_, #[], _, hgd, rfl, fun e he => absurd he (by simp), fun _ => rfl⟩
  unfold Builtin.«object.__setattr__»
  repeat (first
    | rw [refuse_eq]
    | rw [hpass]
    | (with_reducible refine wpAny_typeOf hT ?_)
    | (with_reducible refine wpAny_of_eq fn_mro ?_)
    | (with_reducible refine wpAny_of_eq fn_noread ?_)
    | (with_reducible refine wpAny_loadPart ho ?_)
    | wp_step)
  rw [hc, hd, hf]
  refine wpAny_bind (wpAny_alloc' ?_)
  refine wpAny_bind (wpAny_update' hx₁ ?_)
  refine wpAny_pure ?_
  show wpAny _ _ (storeInDict h.objs.size (.str "read" t) "read" v) _ _ _
  unfold storeInDict newKeyGuard
  refine wpAny_bind (wpAny_pure (wpAny_bind (wpAny_nsSet1 (Heap.Ns1.of_empty hnd) fun h' hn' hs => ?_)))
  obtain ⟨oD, esD, epD, hoD, hdD, hcD⟩ := hn'.count (Within.cons (PySem.Str.ofString "read") v Within.nil)
  refine wpAny_bind (wpAny_lookBehind hoD (by rw [hdD]; exact pastItsLine_dict (Nat.le_trans hcD (by rw [List.length_cons, List.length_nil, sizeLine_eq]; omega))) ?_)
  have hx' : h'.get? st = some { cls := o.cls, dict := some h.objs.size, data := o.data, slots := o.slots } := by
    refine (hs.2 st hxs).trans (Heap.get?_update_self _ hx₁ ?_)
    have hfr := (Heap.get?_some_iff.mp ho).2
    obtain ⟨oc, od, odt, osl⟩ := o
    cases odt <;> first | rfl | exact hfr
  refine wpAny_pure (k h' _ _ rfl hx' hn' fun b ob hbx hb => ?_)
  exact (hs.2 b (Nat.ne_of_lt (Heap.lt_size hb))).trans ((Heap.get?_update_ne _ _ _ _ hbx).trans (Heap.get?_push_of_some _ hb))

theorem fn_setattr {st : Addr} {o : Obj} {fd : FuncData} {v : Value} {Q : Unit → Shared → Prop} (ho : h.get? st = some o) (hc : o.cls = .type "function") (hd : o.dict = none) (hf : o.data = .func fd)
    (k : ∀ h' tk' ds, h.objs.size = ds → h'.get? st = some ⟨o.cls, some ds, o.data, o.slots⟩ → h'.Ns1 ds (fun y => if y = "read" then some v else none) → (∀ b ob, b ≠ st → h.get? b = some ob → h'.get? b = some ob) → Q () ⟨h', G, D, tk', O⟩) :
    wpAny (model prog w) A (setAttr (.ref st) "read" v) Q E ⟨h, G, D, tk, O⟩ := by
  have hT : ∀ tk, (⟨h, G, D, tk, O⟩ : Shared).TypeIs (.ref st) "function" := fun _ => ⟨_, ho, hc⟩
  unfold setAttr
  refine wpAny_bind (wpAny_mkText (wpAny_bind (wpAny_callSpecial?_slot (name := PySem.Str.ofString "__setattr__") (hT _) fn_sa (wpAny_call_entry fn_sa (hT _) sa_entry (fn_body_set ho hc hd hf fun h' tk' ds e1 e2 e3 e4 => ⟨_, rfl, ?_⟩) (sa_args _ _ _)))))
  exact wpAny_pure (k h' tk' ds e1 e2 e3 e4)
end
end Mine

/- iter(bound method, mark) -/
namespace Mine
theorem wpAny_borrowed {M : Model} {A : Around} {E : Value → Shared → Prop} {s : Shared} {f : Value} {pos : List Value} {Q : Value → Shared → Prop}
    (hc : codeAny M A (.call f ⟨pos, []⟩) (fun r s' => match r with | .ok (.ret v) => Q v s' | .ok _ => False | .error e => E e s') s) : wpAny M A (callBorrowed f pos) Q E s := fun Γ p hΓ => by
  refine wpCode_mono (fun r s' h => ?_) (hc _ p rfl (hΓ.enter _ none p (by intro x; cases x)))
  rcases r with e | (v | _ | _ | _) <;> exact h
noncomputable def citObj (m : Addr) (x : PySem.Str) (t : Nat) : Obj := { cls := .type "callable_iterator", data := .fields #[.ref m, .str x t, .bool false] }
theorem ci_iter : Slot "callable_iterator" "__iter__" "callable_iterator.__iter__" :=
  .of (owner := "callable_iterator") (n := "__iter__") (by rw [typeLookup_type, builtinLookup_eq_fast]; kernel_rfl) (by decide +kernel) (by decide +kernel) (by decide +kernel)
    (by first | exact .inl (by decide +kernel) | exact .inr (by decide +kernel)) (by rw [isSubtype_type]; kernel_rfl)
theorem ci_next : Slot "callable_iterator" "__next__" "callable_iterator.__next__" :=
  .of (owner := "callable_iterator") (n := "__next__") (by rw [typeLookup_type, builtinLookup_eq_fast]; kernel_rfl) (by decide +kernel) (by decide +kernel) (by decide +kernel)
    (by first | exact .inl (by decide +kernel) | exact .inr (by decide +kernel)) (by rw [isSubtype_type]; kernel_rfl)
theorem ci_entry_iter : entryFor table "callable_iterator.__iter__" = some Builtin.«dict_keyiterator.__iter__» :=
  entryFor_alias (id' := "dict_keyiterator.__iter__") (by kernel_rfl) rfl (by decide +kernel) (by kernel_rfl)
theorem ci_entry_next : entryFor table "callable_iterator.__next__" = some Builtin.«callable_iterator.__next__» := entryFor_of_tree (by kernel_rfl)
theorem ci_args_iter (a : Value) : argsOk "callable_iterator.__iter__" ⟨[a], []⟩ := by unfold argsOk; kernel_rfl
theorem ci_args_next (a : Value) : argsOk "callable_iterator.__next__" ⟨[a], []⟩ := by unfold argsOk; kernel_rfl
theorem iter_args2 (a b : Value) : argsOk "iter" ⟨[a, b], []⟩ := by unfold argsOk; kernel_rfl
theorem meth_call : typeLookup (.type "method") "__call__" = pure (some (.builtin "method.__call__")) := by rw [typeLookup_type, builtinLookup_eq_fast]; kernel_rfl
section
variable {prog : Program} {w : World} {A : Around} {E : Value → Shared → Prop} {g : Heap} {L : Addr} {ps : PS} {nw : LG} {h : Heap} {G : Array GenState} {D : Drawn} {tk : Nat} {O : OsState} {m it : Addr} {x : PySem.Str} {t : Nat} {f self : Value}
theorem c_iter2 {Q : Value → Shared → Prop} (H : Sx g L ps nw h) (hm : h.get? m = some (methodObj f self)) (k : ∀ h' it, Sx g L ps ((it, citObj m x t) :: nw) h' → Q (.ref it) ⟨h', G, D, tk, O⟩) :
    wpAny (model prog w) A (call (.builtin "iter") [.ref m, .str x t] []) Q E ⟨h, G, D, tk, O⟩ := by
  have hT : (⟨h, G, D, tk, O⟩ : Shared).TypeIs (.ref m) "method" := ⟨_, hm, rfl⟩
  refine call_function_entry (by decide +kernel) (by decide +kernel) kdk_entry_iter (iter_args2 _ _) ?_
  unfold Builtin.«iter»
  refine wpAny_bind (m := someArgs "iter" 1 2 _) (wpAny_pure ?_)
  dsimp only
  refine wpAny_bind (wpAny_specialOf hT meth_call ?_)
  dsimp only [Option.isNone]
  repeat (first | with_reducible refine wpAny_rule ?_ | refine wpAny_bind (wpAny_rule ?_) | (with_reducible refine wpAny_pure ?_) | rw [if_neg Bool.false_ne_true])
  exact wpAny_bind (wpAny_newObj_type (wpAny_pure ⟨_, rfl, k _ _ (H.push _ rfl)⟩))
theorem c_itercit {Q : Value → Shared → Prop} (hi : h.get? it = some (citObj m x t)) (k : Q (.ref it) ⟨h, G, D, tk, O⟩) : wpAny (model prog w) A (pyIter (.ref it)) Q E ⟨h, G, D, tk, O⟩ := by
  have hT : (⟨h, G, D, tk, O⟩ : Shared).TypeIs (.ref it) "callable_iterator" := ⟨_, hi, rfl⟩
  refine wpAny_pyIter_slot hT ci_iter (wpAny_call_entry ci_iter hT ci_entry_iter ?_ (ci_args_iter _))
  exact wpAny_pure ⟨_, rfl, "callable_iterator", _, hT, ci_next.lookup, k⟩
theorem c_nextcit {Q : Option Value → Shared → Prop} {fa : Addr} {fo : Obj} {fd : FuncData} (hi : h.get? it = some (citObj m x t)) (hm : h.get? m = some (methodObj (.ref fa) self)) (hf : h.get? fa = some fo) (hd : fo.data = .func fd)
    (k : codeAny (model prog w) A.in1 (.call (.ref fa) ⟨[self], []⟩) (fun r s' => match r with | .ok (.ret v) => ∃ y u, v = .str y u ∧ x ≠ y ∧ s'.heap.get? it = some (citObj m x t) ∧ Q (some v) s' | _ => False) ⟨h, G, D, tk, O⟩) :
    wpAny (model prog w) A (pyNext (.ref it)) Q E ⟨h, G, D, tk, O⟩ := by
  have hT : (⟨h, G, D, tk, O⟩ : Shared).TypeIs (.ref it) "callable_iterator" := ⟨_, hi, rfl⟩
  have hdt : (citObj m x t).data = .fields #[.ref m, .str x t, .bool false] := rfl
  have f0 : (#[.ref m, .str x t, .bool false] : Array Value)[0]? = some (.ref m) := rfl
  have f1 : (#[.ref m, .str x t, .bool false] : Array Value)[1]? = some (.str x t) := rfl
  have f2 : (#[.ref m, .str x t, .bool false] : Array Value)[2]? = some (.bool false) := rfl
  unfold pyNext
  refine wpAny_bind (wpAny_attempt (wpAny_callSpecial?_slot (name := PySem.Str.ofString "__next__") hT ci_next (wpAny_call_entry ci_next hT ci_entry_next ?_ (ci_args_next _))))
  unfold Builtin.«callable_iterator.__next__»
  refine wpAny_bind (m := slotArgs "__next__" 0 _) (wpAny_pure ?_)
  dsimp only
  refine wpAny_bind (wpAny_field hi hdt f2 ?_)
  rw [if_neg (show ¬ ((Value.bool false == .bool true) = true) by decide)]
  refine wpAny_bind (wpAny_field hi hdt f0 ?_)
  refine wpAny_bind (wpAny_attempt ?_)
  unfold callOutOfASlot borrowsExactly
  refine wpAny_bind (wpAny_bind (wpAny_load hm ?_))
  dsimp only [methodObj]
  rw [if_pos (show ((Value.type "method" == Value.type "method") = true) by decide)]
  show wpAny _ _ (load fa >>= _) _ _ _
  refine wpAny_bind (wpAny_load hf ?_)
  rw [hd]
  refine wpAny_pure ?_
  rw [if_pos rfl]
  refine wpAny_borrowed (method_call (s := ⟨h, G, D, tk, O⟩) hm (codeAny_mono k fun r s' hk => ?_))
  rcases r with e | (v | _ | _ | _) <;> try exact hk.elim
  obtain ⟨y, u, rfl, hy, hi', q⟩ := hk
  refine wpAny_bind (wpAny_field hi' hdt f2 ?_)
  rw [if_neg (show ¬ ((Value.bool false == .bool true) = true) by decide)]
  refine wpAny_bind (wpAny_field hi' hdt f1 ?_)
  refine wpAny_bind (wpAny_holding (wpAny_eqBool_str ?_))
  rw [decide_eq_false hy]
  rw [if_pos (show (!false) = true from rfl)]
  exact wpAny_pure ⟨_, rfl, wpAny_pure q⟩
end
end Mine

/- a bound method -/
namespace Mine
theorem c_bound {prog : Program} {w : World} {n : Nat} {A : Around} {E : Value → Shared → Prop} {env : Env} {g : Heap} {ps : PS} {nw : LG} {h : Heap} {G : Array GenState} {D : Drawn} {tk : Nat} {O : OsState} {x dx c f : Addr} {kv : PS} {es : List DictEntry} {m : Nat} {name : PySem.Str}
    {expr : Bool} {Q : Value → Shared → Prop} (C : Cal w n A env g) (H : Sx g env.locals ps nw h) (hx : h.get? x = some (instObj c dx)) (hdx : h.get? dx = some (dictOf es m)) (he : EsAre kv es)
    (hv : kv.lookup name = none) (hg : plainGet (hd.heap_1 w.params) c name = true) (hh : hasDictIn (hd.heap_1 w.params) c = true) (ha : findIn (hd.heap_1 w.params) (.ref c) name = some (some (.ref f))) (hf : isFn (hd.heap_1 w.params) (.ref f) = true)
    (hgf : specialIn (hd.heap_1 w.params) (.ref f) "__get__" = some (some (.builtin "function.__get__"))) (ht : takesIn (hd.heap_1 w.params) (.ref f) = some false) (hc : copiedNames.contains name = false)
    (k : ∀ q h', Sx g env.locals ps ((q, methodObj (.ref f) (.ref x)) :: nw) h' → Q (.ref q) ⟨h', G, D, tk + 1, O⟩) : wpAny (model prog w) A (getAttr (.ref x) name expr) Q E ⟨h, G, D, tk, O⟩ := by
  obtain ⟨mm, F, l⟩ := H.fr
  refine kbm_bound (s := ⟨h, G, D, tk, O⟩) F C.kin H.led (inst_at hx hdx) hg hh ha hf hgf ht hc (by rw [he.get, hv]) fun q h' F' N' l1 => k q h' ⟨⟨mm, F', l⟩, N', ?_⟩
  rw [List.map_cons, List.nodup_cons]
  refine ⟨fun hm => ?_, H.nd⟩
  obtain ⟨p, hp, e⟩ := List.mem_map.mp hm
  have := l1 p hp
  rw [e] at this
  exact Nat.lt_irrefl _ this
end Mine
/- the lexer's objects -/
namespace Mine
structure Lx where
  (x dx pb at_ st ds fr ca cp cc : Addr)
  (stO dsO frO caO cpO ccO tbO : Obj)
noncomputable def Lx.fix (X : Lx) : LG := [(X.x, instObj 66 X.dx), (X.st, X.stO), (X.ds, X.dsO), (X.fr, X.frO), (X.ca, X.caO), (X.cp, X.cpO), (X.cc, X.ccO), (100, X.tbO)]
noncomputable def Lx.In (X : Lx) (h : Heap) : Prop := ∀ p ∈ X.fix, h.get? p.1 = some p.2
noncomputable def lexKv (X : Lx) (ln : Nat) (t u : Nat) : PS := [("lineno", .int (ln : Nat) t), ("instream", .ref X.st), ("whitespace", .str (S [10, 9, 13, 32]) u), ("pushback", .ref X.pb)]
noncomputable def ReadsAt (w : World) (fr ca cp cc at_ : Addr) (frO caO cpO ccO : Obj) (page : List Nat) : Prop :=
  ∀ {n : Nat} {A : Around} {env : Env} {g : Heap} {ps : PS} {nw fz : LG} {h : Heap} {G : Array GenState} {D : Drawn} {tk : Nat} {O : OsState} {Q E : Value → Shared → Prop} {p c t u : Nat},
    Cal w (n + 1) A env g → Sx g env.locals ps nw h → nw.Perm ([(at_, lstObj [.int (p : Nat) t] c)] ++ fz) → h.get? fr = some frO → h.get? ca = some caO → h.get? cp = some cpO → h.get? cc = some ccO → at_ ≠ ca → at_ ≠ cp → p < page.length →
    (∀ h' tk' t' u' c', Sx g env.locals ps ((at_, lstObj [.int ((p + 1 : Nat) : Int) t'] c') :: fz) h' → Q (.str (S [page.getD p 0]) u') ⟨h', G, D, tk', O⟩) →
    wpAny (model PySem.Challenge.rw_wk0011_01.row.prog w) A (call (.ref fr) [.int 1 u] []) Q E ⟨h, G, D, tk, O⟩
noncomputable def ReadsOn (w : World) (X : Lx) (page : List Nat) : Prop :=
  ∀ {n : Nat} {A : Around} {env : Env} {g : Heap} {ps : PS} {nw fz : LG} {h : Heap} {G : Array GenState} {D : Drawn} {tk : Nat} {O : OsState} {Q E : Value → Shared → Prop} {p c t u : Nat},
    Cal w (n + 1) A env g → Sx g env.locals ps nw h → nw.Perm ([(X.at_, lstObj [.int (p : Nat) t] c)] ++ fz) → X.In h → p < page.length →
    (∀ h' tk' t' u' c', Sx g env.locals ps ((X.at_, lstObj [.int ((p + 1 : Nat) : Int) t'] c') :: fz) h' → Q (.str (S [page.getD p 0]) u') ⟨h', G, D, tk', O⟩) →
    wpAny (model PySem.Challenge.rw_wk0011_01.row.prog w) A (call (.ref X.fr) [.int 1 u] []) Q E ⟨h, G, D, tk, O⟩
structure Lx.Ok (w : World) (X : Lx) (page : List Nat) : Prop where
  apart : ∀ p ∈ X.fix, p.1 ∉ [X.dx, X.pb, X.at_]
  cls : X.stO.cls = .type "function"
  dict : X.stO.dict = some X.ds
  fn : ∃ fd, X.stO.data = .func fd
  ns : ∀ h : Heap, h.get? X.ds = some X.dsO → ∃ m, h.Ns X.ds m ∧ m "read" = some (.ref X.fr)
  frF : ∃ fd, X.frO.data = .func fd
  reads : ReadsOn w X page
  tb : ∃ ps, X.tbO = tabObj ps
theorem Lx.In.down {w : World} {X : Lx} {page : List Nat} {h g' : Heap} {mu : LG} (hi : X.In h) (ok : X.Ok w page) (keep : ∀ b o, h.get? b = some o → b ∉ mu.map (·.1) → g'.get? b = some o) (hm : ∀ a ∈ mu.map (·.1), a ∈ [X.dx, X.pb, X.at_]) : X.In g' :=
  fun p hp => keep _ _ (hi p hp) fun hq => ok.apart p hp (hm _ hq)
theorem Lx.In.up {X : Lx} {g h : Heap} {L : Addr} {ps : PS} {nw : LG} (hi : X.In g) (H : Sx g L ps nw h) : X.In h := fun p hp => H.old (hi p hp)
section
variable {X : Lx} {h : Heap} (hi : X.In h)
include hi
theorem Lx.In.x : h.get? X.x = some (instObj 66 X.dx) := hi _ (.head _)
theorem Lx.In.st : h.get? X.st = some X.stO := hi _ (.tail _ (.head _))
theorem Lx.In.ds : h.get? X.ds = some X.dsO := hi _ (.tail _ (.tail _ (.head _)))
theorem Lx.In.fr : h.get? X.fr = some X.frO := hi _ (.tail _ (.tail _ (.tail _ (.head _))))
theorem Lx.In.ca : h.get? X.ca = some X.caO := hi _ (.tail _ (.tail _ (.tail _ (.tail _ (.head _)))))
theorem Lx.In.cp : h.get? X.cp = some X.cpO := hi _ (.tail _ (.tail _ (.tail _ (.tail _ (.tail _ (.head _))))))
theorem Lx.In.cc : h.get? X.cc = some X.ccO := hi _ (.tail _ (.tail _ (.tail _ (.tail _ (.tail _ (.tail _ (.head _)))))))
end
end Mine
/- picking entries out of a ledger -/
namespace Mine
theorem pkTail {a b : Addr × Obj} {l l' : LG} (h : l.Perm (a :: l')) : (b :: l).Perm (a :: b :: l') := (h.cons b).trans (List.Perm.swap _ _ _)
theorem pk1 {a : Addr × Obj} {l l1 : LG} (h1 : l.Perm (a :: l1)) : l.Perm ([a] ++ l1) := h1
theorem pk2 {a b : Addr × Obj} {l l1 l2 : LG} (h1 : l.Perm (a :: l1)) (h2 : l1.Perm (b :: l2)) : l.Perm ([a, b] ++ l2) := h1.trans (h2.cons a)
theorem pk3 {a b c : Addr × Obj} {l l1 l2 l3 : LG} (h1 : l.Perm (a :: l1)) (h2 : l1.Perm (b :: l2)) (h3 : l2.Perm (c :: l3)) : l.Perm ([a, b, c] ++ l3) := h1.trans ((h2.trans (h3.cons b)).cons a)
end Mine
/- texts joined -/
namespace Mine
theorem S_append (l m : List Nat) : S l ++ S m = S (l ++ m) := by
  show (⟨_⟩ : PySem.Str) = ⟨_⟩
  simp [S]
section
variable {prog : Program} {w : World} {A : Around} {E : Value → Shared → Prop} {h : Heap} {G : Array GenState} {D : Drawn} {tk : Nat} {O : OsState} {Q : Value → Shared → Prop} {l m : List Nat} {t u : Nat}
theorem c_siadd (hl : l.length + m.length ≤ 100000) (k : ∀ t' tk', Q (.str (S (l ++ m)) t') ⟨h, G, D, tk', O⟩) : wpAny (model prog w) A (inplaceOp .Add (.str (S l) t) (.str (S m) u)) Q E ⟨h, G, D, tk, O⟩ :=
  PyProof.Rows.iadd_str (fun t' tk' => by rw [S_append]; exact k t' tk') (by rw [S_length, S_length, sizeLine_eq]; omega)
theorem c_sadd (hl : l.length + m.length ≤ 100000) (k : ∀ t' tk', Q (.str (S (l ++ m)) t') ⟨h, G, D, tk', O⟩) : wpAny (model prog w) A (binaryOp .Add (.str (S l) t) (.str (S m) u)) Q E ⟨h, G, D, tk, O⟩ :=
  PyProof.Rows.add_str (fun t' tk' => by rw [S_append]; exact k t' tk') (by rw [S_length, S_length, sizeLine_eq]; omega)
end
end Mine

/- defs within defs -/
namespace Mine
section
variable {M : Model} {w : World} {n : Nat} {A : Around} {E : Value → Shared → Prop} {env : Env} {g : Heap} {ps : PS} {nw : LG} {h : Heap} {G : Array GenState} {D : Drawn} {tk : Nat} {O : OsState}
  {L a c P : Addr} {cn : PySem.Str} {cs : Scope} {ccd : Value} {cl : List (PySem.Str × Addr)} {f : Obj → LG} {name qual : PySem.Str} {params : Arguments} {scope : Scope} {ta : Array Value} {pos : Pos} {firstLine : Nat} {clos : List (PySem.Str × Addr)}
theorem nd2 {h : Heap} {c' fa : Addr} {oc of : Obj} {nw nw' : LG} (nd : (nw.map (·.1)).Nodup) (e : nw'.map (·.1) = nw.map (·.1)) (l1 : ∀ q ∈ nw, q.1 < c') (l2 : c' < fa) : (((fa, of) :: (c', oc) :: nw').map (·.1)).Nodup := by
  rw [List.map_cons, List.nodup_cons, List.map_cons, List.nodup_cons, e]
  refine ⟨fun hm => ?_, fun hm => ?_, nd⟩
  · rcases List.mem_cons.mp hm with q | hm
    · have q' : fa = c' := q
      rw [q'] at l2; exact Nat.lt_irrefl _ l2
    · obtain ⟨p, hp, e⟩ := List.mem_map.mp hm
      have := l1 p hp
      have e' : p.1 = fa := e
      rw [e'] at this
      exact Nat.lt_irrefl _ (Nat.lt_trans l2 this)
  · obtain ⟨p, hp, e⟩ := List.mem_map.mp hm
    have := l1 p hp
    have e' : p.1 = c' := e
    rw [e'] at this
    exact Nat.lt_irrefl _ this
theorem c_nest {Q : Value → Shared → Prop} {body : List Stmt} (C : Cal w n A env g) (H : Sx g L ps nw h) (hC : CodeHd g c P) (U : Up P (tabObj ta) nw f) (ht : TriplesOk ta.toList) (hnf : codeAmong pos ta.toList = none)
    (hcl : closureFor scope (envX cn cs L a (.ref c) cl) = pure clos)
    (k : ∀ fa c' oc vs t ctv doc pm h' tk, Sx g L ps ((fa, fnMade name qual params body scope clos doc pm c' ctv) :: (c', oc) :: f (tabObj (ta ++ #[rawInt pos.line, rawInt pos.col, .ref c']))) h' → oc.data = .fields vs → vs[1]? = some (.str qual t) → Q (.ref fa) ⟨h', G, D, tk, O⟩) :
    wpAny M A (makeFunction name qual params (.stmts body) scope (envX cn cs L a (.ref c) cl) [] [] [] pos firstLine) Q E ⟨h, G, D, tk, O⟩ := by
  obtain ⟨p, loose, mean, mg, mb, T⟩ := C.top
  obtain ⟨m, F, l⟩ := H.fr
  exact nest_K (s := ⟨h, G, D, tk, O⟩) F H.led T hC rfl (U.updF H.nd) ht hnf hcl fun fa c' oc vs t ctv doc h' tk F' N' d1 d2 l1 l2 => k fa c' oc vs t ctv doc _ h' tk ⟨⟨m, F', l⟩, N', nd2 (h := h) H.nd U.keys l1 l2⟩ d1 d2
theorem c_lam {Q : Value → Shared → Prop} {body : PySem.Expr} (C : Cal w n A env g) (H : Sx g L ps nw h) (hC : CodeHd g c P) (U : Up P (tabObj ta) nw f) (ht : TriplesOk ta.toList) (hnf : codeAmong pos ta.toList = none)
    (hcl : closureFor scope (envX cn cs L a (.ref c) cl) = pure clos)
    (k : ∀ fa c' oc ctv pm h' tk, Sx g L ps ((fa, kla_obj name qual params body scope clos pm c' ctv) :: (c', oc) :: f (tabObj (ta ++ #[rawInt pos.line, rawInt pos.col, .ref c']))) h' → Q (.ref fa) ⟨h', G, D, tk, O⟩) :
    wpAny M A (makeFunction name qual params (.expr body) scope (envX cn cs L a (.ref c) cl) [] [] [] pos firstLine) Q E ⟨h, G, D, tk, O⟩ := by
  obtain ⟨p, loose, mean, mg, mb, T⟩ := C.top
  obtain ⟨m, F, l⟩ := H.fr
  exact kla_nest (s := ⟨h, G, D, tk, O⟩) F H.led T hC rfl (U.updF H.nd) ht hnf hcl fun fa c' oc vs t ctv h' tk F' N' d1 d2 l1 l2 => k fa c' oc ctv _ h' tk ⟨⟨m, F', l⟩, N', nd2 (h := h) H.nd U.keys l1 l2⟩
/-- a def's first attribute -/
theorem c_fset {prog : Program} {Q : Unit → Shared → Prop} {st : Addr} {o : Obj} {fd : FuncData} {v : Value} (H : Sx g L ps nw h) (U : Up st o nw f) (hc : o.cls = .type "function") (hd : o.dict = none) (hf : o.data = .func fd)
    (k : ∀ h' tk' ds od, (∀ h : Heap, h.get? ds = some od → ∃ m, h.Ns ds m ∧ m "read" = some v) → Sx g L ps ((ds, od) :: f ⟨o.cls, some ds, o.data, o.slots⟩) h' → Q () ⟨h', G, D, tk', O⟩) :
    wpAny (model prog w) A (setAttr (.ref st) "read" v) Q E ⟨h, G, D, tk, O⟩ := by
  refine fn_setattr (H.get U.mem) hc hd hf fun h' tk' ds e1 e2 e3 e4 => ?_
  obtain ⟨m, F, l⟩ := H.fr
  obtain ⟨oL, es, ep, hL, r⟩ := F.ns
  have hst := H.led _ U.mem
  obtain ⟨pre, post, rfl, ef⟩ := U.split
  obtain ⟨od, hod, hrest⟩ : ∃ od, h'.get? ds = some od ∧ ∀ h : Heap, h.get? ds = some od → ∃ m, h.Ns ds m ∧ m "read" = some v := by
    obtain ⟨od, es', ep', a1, a2, a3, a4, a5⟩ := e3
    exact ⟨od, a1, fun h hh => ⟨_, ⟨od, es', ep', hh, a2, a3, a5⟩, by simp⟩⟩
  have hnd := H.nd
  have hlts := H.lts
  have hne : ∀ q ∈ pre ++ post, q.1 ≠ st := by
    intro q hq e
    rw [List.map_append, List.map_cons, List.nodup_append, List.nodup_cons] at hnd
    rcases List.mem_append.mp hq with hq | hq
    · exact hnd.2.2 _ (List.mem_map_of_mem hq) _ (.head _) e
    · exact hnd.2.1.1 (List.mem_map.mpr ⟨q, hq, e⟩)
  refine k h' tk' ds od hrest ⟨⟨m, ⟨⟨oL, es, ep, e4 _ _ (Ne.symm hst.2.1) hL, r⟩, fun b o e => e4 b o (fun q => ?_) (F.keep b o e), F.above⟩, l⟩, ?_, ?_⟩
  · rw [q, hst.2.2] at e; cases e
  · intro q hq
    rw [ef] at hq
    rcases List.mem_cons.mp hq with rfl | hq
    · refine ⟨hod, ?_, Heap.get?_none_of_le (Nat.le_trans F.above (Nat.le_of_lt (e1 ▸ F.ns.lt)))⟩
      intro e
      have : (L : Nat) < h.objs.size := F.ns.lt
      have e' : ds = L := e
      rw [← e', ← e1] at this
      exact Nat.lt_irrefl _ this
    · rcases List.mem_append.mp hq with hq | hq
      · have n := H.led q (List.mem_append_left _ hq)
        exact ⟨e4 _ _ (hne q (List.mem_append_left _ hq)) n.1, n.2⟩
      · rcases List.mem_cons.mp hq with rfl | hq
        · exact ⟨e2, hst.2⟩
        · have n := H.led q (List.mem_append_right _ (.tail _ hq))
          exact ⟨e4 _ _ (hne q (List.mem_append_right _ hq)) n.1, n.2⟩
  · rw [ef, List.map_cons, List.nodup_cons]
    have e0 : (pre ++ (st, (⟨o.cls, some ds, o.data, o.slots⟩ : Obj)) :: post).map (·.1) = (pre ++ (st, o) :: post).map (·.1) := by simp
    rw [e0]
    refine ⟨fun hm => ?_, hnd⟩
    obtain ⟨q, hq, e⟩ := List.mem_map.mp hm
    have := hlts q hq
    have e' : q.1 = ds := e
    rw [e', ← e1] at this
    exact Nat.lt_irrefl _ this
end
end Mine
namespace Mine
theorem callN {prog : Program} {w : World} {n : Nat} {A : Around} {env : Env} {g : Heap} {ps : List (PySem.Str × Value)} {mu fz nw : List (Addr × Obj)} {h : Heap} {G : Array GenState} {D : Drawn} {tk₀ : Nat} {O : OsState} {Q : Value → Shared → Prop} {E : Value → Shared → Prop}
    {name qual : PySem.Str} {params : Arguments} {body : List Stmt} {scope : Scope} {doc pm ctv : Value} {cl : List (PySem.Str × Addr)} {c' : Addr} {f : Addr} {args : List Value} {binds : List (PySem.Str × Value)}
    (C : Cal w (n + 1) A env g) (H : Sx g env.locals ps nw h) (hp : nw.Perm (mu ++ fz))
    (ho : h.get? f = some (fnMade name qual params body scope cl doc pm c' ctv)) (hcd : h.CodeRec (.ref c') qual)
    (hbind : BindsTo ⟨h, G, D, tk₀, O⟩ (fnX name qual params body scope cl .none .none doc pm none (.ref c') ctv) ⟨args, []⟩ binds) (hloc : ∀ y ∈ binds, scope.names.lookup y.1 = some .local)
    (hcell : ∀ x ∈ scope.names, x.2 ≠ .cell) (hco : scope.isCoroutine = false) (hgen : scope.isGenerator = false) (hk : scope.kind = .function)
    (hh : ∀ g' L' h₁ tk A', tk₀ ≤ tk → Cal w n A' (envX qual scope L' f (.ref c') cl) g' → Sx g' L' binds.reverse mu h₁ → (∀ b o, h.get? b = some o → b ∉ mu.map (·.1) → g'.get? b = some o) →
      wpAny (model prog w) A' (execs body (envX qual scope L' f (.ref c') cl))
        (fun fl s' => ∃ h' tk ps' mu', s' = ⟨h', G, D, tk, O⟩ ∧ Sx g' L' ps' mu' h' ∧ (Sx g env.locals ps (mu' ++ fz) h' → Q (match fl with | .ret v => v | _ => .none) ⟨h', G, D, tk, O⟩))
        NoE ⟨h₁, G, D, tk, O⟩) :
    wpAny (model prog w) A (call (.ref f) args []) Q E ⟨h, G, D, tk₀, O⟩ :=
  callP' (s := ⟨h, G, D, tk₀, O⟩) (cl := cl) C H hp ho rfl hcd hbind hloc (fun g' L' h₁ tk A' htk C' H' k => hh g' L' h₁ tk A' htk C' H' k) hcell hco hgen hk
end Mine
namespace Mine
theorem pkc {a : Addr × Obj} {l l' r : LG} (h1 : l.Perm (a :: l')) (h2 : l'.Perm r) : l.Perm (a :: r) := h1.trans (h2.cons a)
theorem Lx.In.of_led {X : Lx} {g h : Heap} {L : Addr} {ps : PS} {nw : LG} (H : Sx g L ps nw h) (hm : ∀ p ∈ X.fix, p ∈ nw) : X.In h := fun p hp => H.get (o := p.2) (hm p hp)
end Mine

/- works; for over them -/
namespace Mine
structure Wk where
  (come kind a b c d : Nat)
noncomputable def Wk.n (w : Wk) : Nat := w.a + w.b
noncomputable def Wk.form (w : Wk) (j : Nat) : List Nat := wd (w.a - j) (min w.b (w.a + w.b - j)) w.c w.d
noncomputable def Wk.forms (w : Wk) : List (List Nat) := (List.range w.n).map w.form
inductive WorkP (P : Addr → Obj → Prop) : Value → Wk → Prop
  | mk {t fa : Addr} {c t1 t2 : Nat} {vs : List Value} {w : Wk} : P t (tupObj [.int (w.come : Nat) t1, .int (w.kind : Nat) t2, .ref fa]) → P fa (lstObj vs c) → StrsAre vs (w.forms.map S) → WorkP P (.ref t) w
inductive WsP (P : Addr → Obj → Prop) : List Value → List Wk → Prop
  | nil : WsP P [] []
  | cons {v : Value} {w : Wk} {vs : List Value} {ws : List Wk} : WorkP P v w → WsP P vs ws → WsP P (v :: vs) (w :: ws)
noncomputable def WorksP (P : Addr → Obj → Prop) (l : Addr) (ws : List Wk) : Prop := ∃ ts c, P l (lstObj ts c) ∧ WsP P ts ws
noncomputable abbrev At (h : Heap) : Addr → Obj → Prop := fun a o => h.get? a = some o
section
variable {P P' : Addr → Obj → Prop}
noncomputable def SeqO (o : Obj) : Prop := ∃ xs n, o.data = .seq xs n
theorem WorkP.mono (hp : ∀ a o, SeqO o → P a o → P' a o) {v : Value} {w : Wk} (x : WorkP P v w) : WorkP P' v w := by
  cases x with | mk a b c => exact .mk (hp _ _ ⟨_, _, rfl⟩ a) (hp _ _ ⟨_, _, rfl⟩ b) c
theorem WsP.mono (hp : ∀ a o, SeqO o → P a o → P' a o) {vs : List Value} {ws : List Wk} (x : WsP P vs ws) : WsP P' vs ws := by
  induction x with
  | nil => exact .nil
  | cons a _ ih => exact .cons (a.mono hp) ih
theorem WorksP.mono (hp : ∀ a o, SeqO o → P a o → P' a o) {l : Addr} {ws : List Wk} (x : WorksP P l ws) : WorksP P' l ws := by
  obtain ⟨ts, c, a, b⟩ := x
  exact ⟨ts, c, hp _ _ ⟨_, _, rfl⟩ a, b.mono hp⟩
theorem WsP.length {vs : List Value} {ws : List Wk} (x : WsP P vs ws) : vs.length = ws.length := by
  induction x with
  | nil => rfl
  | cons _ _ ih => simp [ih]
theorem WsP.at {vs : List Value} {ws : List Wk} (x : WsP P vs ws) : ∀ {i : Nat} {v : Value}, vs[i]? = some v → ∃ w, ws[i]? = some w ∧ WorkP P v w := by
  induction x with
  | nil => intro i v e; simp at e
  | cons a _ ih =>
    intro i v e
    cases i with
    | zero => simp at e; subst e; exact ⟨_, rfl, a⟩
    | succ i => simpa using ih (by simpa using e)
theorem WsP.get {vs : List Value} {ws : List Wk} (x : WsP P vs ws) : ∀ {i : Nat} {w : Wk}, ws[i]? = some w → ∃ v, vs[i]? = some v ∧ WorkP P v w := by
  induction x with
  | nil => intro i v e; simp at e
  | cons a _ ih =>
    intro i v e
    cases i with
    | zero => simp at e; subst e; exact ⟨_, rfl, a⟩
    | succ i => simpa using ih (by simpa using e)
theorem WorksP.up {g h : Heap} {L l : Addr} {ps : PS} {nw : LG} {ws : List Wk} (x : WorksP (At g) l ws) (H : Sx g L ps nw h) : WorksP (At h) l ws := x.mono fun _ _ _ e => H.old e
end
section
variable {prog : Program} {w : World} {n : Nat} {A : Around} {E : Value → Shared → Prop} {env : Env} {g : Heap} {L : Addr} {ps : PS} {nw : LG} {h : Heap} {G : Array GenState} {D : Drawn} {tk₀ : Nat} {O : OsState}
theorem c_max {a b : Int} {t u : Nat} {Q : Value → Shared → Prop} (C : Cal w n A env g) (H : Sx g L ps nw h) (k : ∀ h' tk v, Sx g L ps nw h' → Q (.int (max a b) v) ⟨h', G, D, tk, O⟩) : wpAny (model prog w) A (call (.builtin "max") [.int a t, .int b u]) Q E ⟨h, G, D, tk₀, O⟩ := by
  refine max_two_ints C.handled fun h' tk hk => ?_
  have H' := H.ext hk
  by_cases e : b > a
  · rw [if_pos e]; have := k h' tk u H'; rwa [Int.max_eq_right (by omega)] at this
  · rw [if_neg e]; have := k h' tk t H'; rwa [Int.max_eq_left (by omega)] at this
theorem c_min {a b : Int} {t u : Nat} {Q : Value → Shared → Prop} (C : Cal w n A env g) (H : Sx g L ps nw h) (k : ∀ h' tk v, Sx g L ps nw h' → Q (.int (min a b) v) ⟨h', G, D, tk, O⟩) : wpAny (model prog w) A (call (.builtin "min") [.int a t, .int b u]) Q E ⟨h, G, D, tk₀, O⟩ := by
  refine min_two_ints C.handled fun h' tk hk => ?_
  have H' := H.ext hk
  by_cases e : b < a
  · rw [if_pos e]; have := k h' tk u H'; rwa [Int.min_eq_right (by omega)] at this
  · rw [if_neg e]; have := k h' tk t H'; rwa [Int.min_eq_left (by omega)] at this
theorem draw_tup3 {I l t : Addr} {i : Nat} {x y z : PySem.Str} {px py pz pos : Pos} {m : Nat} {o : Obj} {h' : Heap} {tk' : Nat} {v1 v2 v3 : Value} {Q' : Unit → Shared → Prop} (C : Cal w n A env g) (hL : env.locals = L) (hx : env.kindOf x = some .local) (hy : env.kindOf y = some .local) (hz : env.kindOf z = some .local)
    (H : Sx g L ps ((I, o) :: nw) h') (hI : h'.IsListIter I l i) (ht : h'.get? t = some (tupObj [v1, v2, v3])) (k : ∀ h'', Sx g L ((z, v3) :: (y, v2) :: (x, v1) :: ps) ((I, o) :: nw) h'' → Q' () ⟨h'', G, D, tk' + 1 + 1 + 1, O⟩) :
    wpAny (model prog w) A (letOwnedTupleGo (.Tuple [.Name x px, .Name y py, .Name z pz] m pos) (.ref I) (.ref t)) (fun _ s₁' => wpAny (model prog w) A (assign (.Tuple [.Name x px, .Name y py, .Name z pz] m pos) env (.ref t)) Q' NoE s₁') NoE ⟨h', G, D, tk', O⟩ := by
  refine wpAny_letOwnedTupleGo_listiter (s := ⟨h', G, D, tk', O⟩) hI ?_
  refine wpAny_assign_Tuple (s := ⟨h', G, D, tk', O⟩) (items := [v1, v2, v3].toArray) C.handled ⟨_, ht, rfl, _, rfl⟩ rfl rfl fun h₂ hk => ?_
  have H₂ : Sx g L ps ((I, o) :: nw) h₂ := H.ext fun b ob e => hk b ob (Nat.ne_of_lt (Heap.lt_size e)) e
  refine wpAny_assignInOrder_more (wpAny_assign_Name (p_st C H₂ hL hx fun h₃ H₃ => ?_))
  refine wpAny_assignInOrder_more (wpAny_assign_Name (p_st C H₃ hL hy fun h₄ H₄ => ?_))
  refine wpAny_assignInOrder_more (wpAny_assign_Name (p_st C H₄ hL hz fun h₅ H₅ => ?_))
  exact wpAny_pure (k h₅ H₅)
/-- for come, kind, forms in works -/
theorem p_for_works {x y z : PySem.Str} {px py pz pos : Pos} {m : Nat} {body : List Stmt} {Q : Flow → Shared → Prop} {l : Addr} {ws : List Wk} (J : Nat → PS → LG → Prop)
    (C : Cal w n A env g) (hL : env.locals = L) (H : Sx g L ps nw h) (hx : env.kindOf x = some .local) (hy : env.kindOf y = some .local) (hz : env.kindOf z = some .local) (hw : WorksP (At g) l ws) (hJ : J 0 ps nw)
    (turn : ∀ i (wk : Wk) t1 t2 fa vs c ps' nw' h' tk' io, ws[i]? = some wk → g.get? fa = some (lstObj vs c) → StrsAre vs (wk.forms.map S) → J i ps' nw' → Sx g L ((z, .ref fa) :: (y, .int (wk.kind : Nat) t2) :: (x, .int (wk.come : Nat) t1) :: ps') (io :: nw') h' →
      wpAny (model prog w) A (execs body env) (TurnK g L io (J (i + 1)) G D O Q) NoE ⟨h', G, D, tk', O⟩)
    (done : ∀ ps' nw' h' tk', J ws.length ps' nw' → Sx g L ps' nw' h' → Q .next ⟨h', G, D, tk', O⟩) :
    wpAny (model prog w) A (pyIter (.ref l)) (fun it s₂ => codeAny (model prog w) A (.forLoop (.Tuple [.Name x px, .Name y py, .Name z pz] m pos) it body [] env) (fun r s' => match r with | .ok f => Q f s' | .error e => cameBackBy (model prog w) A env E e s') s₂) E ⟨h, G, D, tk₀, O⟩ := by
  obtain ⟨ts, c, hl, hws⟩ := hw
  refine wpAny_pyIter_list (s := ⟨h, G, D, tk₀, O⟩) (lst_is (H.old hl)) ?_
  have H' := H.push { cls := .type "list_iterator", data := .fields #[.ref l, .int 0 0] } rfl
  refine p_loopG (G := G) (D := D) (tk₀ := tk₀) (O := O) (N := ws.length) (StO := fun i o => o.cls = .type "list_iterator" ∧ o.data = .fields #[.ref l, .int (i : Nat) 0])
    (bnd := fun i tk a b => ∃ wk t1 t2 fa vs c, ws[i]? = some wk ∧ g.get? fa = some (lstObj vs c) ∧ StrsAre vs (wk.forms.map S) ∧ b = (z, .ref fa) :: (y, .int (wk.kind : Nat) t2) :: (x, .int (wk.come : Nat) t1) :: a) J H' ⟨rfl, rfl⟩ hJ ?_ ?_ ?_ done
  · intro i ps' nw' h' tk' o Q' hi hJ' htk Hc hst k
    obtain ⟨v, hv, hwk⟩ := hws.get (List.getElem?_eq_getElem hi)
    generalize hwkk : ws[i] = wk at hwk
    have hwi : ws[i]? = some wk := by rw [List.getElem?_eq_getElem hi, hwkk]
    cases hwk with
    | mk ht hf hs =>
    rename_i t fa c' t1 t2 vs'
    refine wpAny_pyNext_list_item (s := ⟨h', G, D, tk', O⟩) ⟨o, Hc.get (.head _), hst.1, hst.2⟩ (lst_is (Hc.old hl)) (x := .ref t) (by simpa using hv) fun h'' hit hs' => ?_
    obtain ⟨o', ho', hc', hd'⟩ := id hit
    have Hn := Hc.next hs' ho'
    exact draw_tup3 C hL hx hy hz Hn hit (Hn.old ht) fun h₃ H₃ => k h₃ _ o' _ (by show tk₀ ≤ tk' + 1 + 1 + 1; omega) ⟨hc', hd'⟩ ⟨_, _, _, _, _, _, hwi, hf, hs, rfl⟩ H₃
  · intro ps' nw' h' tk' o Q' hJ' Hc hst k
    exact wpAny_pyNext_list_end (s := ⟨h', G, D, tk', O⟩) C.handled ⟨o, Hc.get (.head _), hst.1, hst.2⟩ (lst_is (Hc.old hl)) (by simp [hws.length]) fun h'' hb => k h'' tk' (Hc.extBut fun b o e => hb b o e)
  · rintro i ps' ps'' nw' h' tk' o hi hJ' htk hst ⟨wk, t1, t2, fa, vs, c, hc, hf, hs, rfl⟩ Hc
    exact turn i wk t1 t2 fa vs c ps' nw' h' tk' _ hc hf hs hJ' Hc
end
end Mine

/- lists of texts; the run, as a plain machine -/
namespace Mine
noncomputable def Txs (vs : List Value) (ls : List (List Nat)) : Prop := StrsAre vs (ls.map S)
theorem Txs.nil : Txs [] [] := StrsAre.nil
theorem Txs.len {vs : List Value} {ls : List (List Nat)} (x : Txs vs ls) : vs.length = ls.length := by rw [StrsAre.len_eq x, List.length_map]
theorem Txs.at {vs : List Value} {ls : List (List Nat)} (x : Txs vs ls) {j : Nat} {l : List Nat} (e : ls[j]? = some l) : ∃ t, vs[j]? = some (.str (S l) t) := StrsAre.at x (by simp [e])
theorem Txs.snoc {vs : List Value} {ls : List (List Nat)} (x : Txs vs ls) (l : List Nat) (t : Nat) : Txs (vs ++ [.str (S l) t]) (ls ++ [l]) := by
  unfold Txs at *
  rw [List.map_append]
  generalize ls.map S = ys at x
  induction x with
  | nil => exact .cons _ _ .nil
  | cons y u _ ih => exact .cons y u ih
theorem Txs.set {vs : List Value} {ls : List (List Nat)} (x : Txs vs ls) (i : Nat) (l : List Nat) (t : Nat) : Txs (vs.set i (.str (S l) t)) (ls.set i l) := by
  unfold Txs at *
  rw [List.map_set]
  generalize ls.map S = ys at x
  induction x generalizing i with
  | nil => exact .nil
  | cons y u x ih =>
    cases i with
    | zero => exact .cons _ _ x
    | succ i => exact .cons y u (ih i)
theorem Txs.erase {vs : List Value} {ls : List (List Nat)} (x : Txs vs ls) (i : Nat) : Txs (vs.eraseIdx i) (ls.eraseIdx i) := by
  unfold Txs at *
  have e : ∀ (l : List (List Nat)) (i : Nat), (l.eraseIdx i).map S = (l.map S).eraseIdx i := by
    intro l
    induction l with
    | nil => intro i; rfl
    | cons a r ih => intro i; cases i with
      | zero => rfl
      | succ i => simp [ih i]
  rw [e]
  generalize ls.map S = ys at x
  induction x generalizing i with
  | nil => exact .nil
  | cons y u x ih =>
    cases i with
    | zero => exact x
    | succ i => exact .cons y u (ih i)
theorem Txs.uncons {vs : List Value} {l : List Nat} {ls : List (List Nat)} (x : Txs vs (l :: ls)) : ∃ t vs', vs = .str (S l) t :: vs' ∧ Txs vs' ls := by
  unfold Txs at *
  rw [List.map_cons] at x
  cases x with | cons y t h => exact ⟨t, _, rfl, h⟩
theorem Txs.nil_inv {vs : List Value} (x : Txs vs []) : vs = [] := by
  unfold Txs at x
  cases x; rfl

/- the machine -/
noncomputable abbrev It := Nat × Nat
structure Rs where
  (queue : List It) (idle : Nat) (turns : List (Option It)) (shelf : List It) (ranks : List (Option It))
noncomputable def wk (ws : List Wk) (i : Nat) : Wk := ws.getD i ⟨0, 0, 0, 1, 34, 97⟩
noncomputable def tx (ws : List Wk) (x : It) : List Nat := (wk ws x.1).form x.2
noncomputable def txo (ws : List Wk) : Option It → List Nat
  | none => [46]
  | some x => tx ws x
noncomputable def nm (ws : List Wk) (x : It) : List Nat := [(wk ws x.1).c, (wk ws x.1).d]
noncomputable def arr (ws : List Wk) (t k : Nat) : List It := ((List.range k).filter fun i => (wk ws i).come == t).map fun i => (i, 0)
/-- what is left of an item after its unit -/
noncomputable def nxt (ws : List Wk) (x : It) : List It := if x.2 + 1 < (wk ws x.1).n then [(x.1, x.2 + 1)] else []
noncomputable def bestTo (ws : List Wk) (s : List It) (k : Nat) : Nat := (List.range k).foldl (fun b p => if nm ws (s.getD (p + 1) (0, 0)) < nm ws (s.getD b (0, 0)) then p + 1 else b) 0
noncomputable def best (ws : List Wk) (s : List It) : Nat := bestTo ws s (s.length - 1)
noncomputable def serve (ws : List Wk) (s : List It) : Option It × List It :=
  match s with
  | [] => (none, [])
  | _ :: _ => let b := best ws s; let x := s.getD b (0, 0); (some x, if x.2 + 1 < (wk ws x.1).n then s.set b (x.1, x.2 + 1) else s.eraseIdx b)
noncomputable def fetch (ws : List Wk) (q : List It) (idle : Nat) : Option It × List It × Nat :=
  match q with
  | [] => (none, [], idle + 1)
  | x :: r => (some x, r ++ nxt ws x, idle)
noncomputable def step (ws : List Wk) (t : Nat) (st : Rs) : Rs :=
  let f := fetch ws (st.queue ++ arr ws t ws.length) st.idle
  let r := serve ws (st.shelf ++ arr ws t ws.length)
  ⟨f.2.1, f.2.2, st.turns ++ [f.1], r.2, st.ranks ++ [r.1]⟩
noncomputable def runN (ws : List Wk) : Nat → Rs
  | 0 => ⟨[], 0, [], [], []⟩
  | t + 1 => step ws t (runN ws t)
noncomputable def posAt (k : Nat) : Nat := 9 * (k / 3) + [0, 2, 5].getD (k % 3) 0
noncomputable def lnAt (k : Nat) : Nat := 1 + (k + 2) / 3 + k / 3
theorem pos_next (k : Nat) : 9 * (k / 3) + [2, 5, 9].getD (k % 3) 0 = posAt (k + 1) := by
  unfold posAt
  have h : k % 3 = 0 ∨ k % 3 = 1 ∨ k % 3 = 2 := by omega
  rcases h with h | h | h
  · have h1 : (k + 1) % 3 = 1 := by omega
    have h2 : (k + 1) / 3 = k / 3 := by omega
    rw [h, h1, h2]; rfl
  · have h1 : (k + 1) % 3 = 2 := by omega
    have h2 : (k + 1) / 3 = k / 3 := by omega
    rw [h, h1, h2]; rfl
  · have h1 : (k + 1) % 3 = 0 := by omega
    have h2 : (k + 1) / 3 = k / 3 + 1 := by omega
    rw [h, h1, h2]; show 9 * (k / 3) + 9 = 9 * (k / 3 + 1) + 0; omega
theorem ln_next (k : Nat) : lnAt k + [1, 0, 1].getD (k % 3) 0 = lnAt (k + 1) := by
  unfold lnAt
  have h : k % 3 = 0 ∨ k % 3 = 1 ∨ k % 3 = 2 := by omega
  rcases h with h | h | h <;> rw [h]
  · show _ + 1 = _; omega
  · show _ + 0 = _; omega
  · show _ + 1 = _; omega
theorem arr_succ (ws : List Wk) (t k : Nat) : arr ws t (k + 1) = arr ws t k ++ (if (wk ws k).come = t then [(k, 0)] else []) := by
  unfold arr
  rw [List.range_succ, List.filter_append, List.map_append]
  by_cases h : (wk ws k).come = t <;> simp [h]
theorem bestTo_succ (ws : List Wk) (s : List It) (k : Nat) : bestTo ws s (k + 1) = if nm ws (s.getD (k + 1) (0, 0)) < nm ws (s.getD (bestTo ws s k) (0, 0)) then k + 1 else bestTo ws s k := by
  unfold bestTo
  rw [List.range_succ, List.foldl_append]
  rfl
theorem bestTo_le (ws : List Wk) (s : List It) (k : Nat) : bestTo ws s k ≤ k := by
  induction k with
  | zero => exact Nat.le_refl _
  | succ k ih => rw [bestTo_succ]; split <;> omega
theorem best_lt {ws : List Wk} {s : List It} (h : s ≠ []) : best ws s < s.length := by
  have := bestTo_le ws s (s.length - 1)
  have : 0 < s.length := List.length_pos_iff.mpr h
  unfold best
  omega
/-- the works that the run takes -/
structure WsOk (ws : List Wk) : Prop where
  few : ws.length ≤ 100
  ok : ∀ w ∈ ws, w.c ≠ 32 ∧ w.d ≠ 32 ∧ w.c < 128 ∧ w.d < 128 ∧ w.a + w.b ≤ 9 ∧ 1 ≤ w.b
theorem min_cut {a b j : Nat} (h : j + 1 < a + b) : min b (a + b - j) - (1 - (a - j)) = min b (a + b - (j + 1)) := by
  rcases Nat.lt_or_ge j a with q | q
  · have q0 : 1 - (a - j) = 0 := by omega
    rw [q0, Nat.min_eq_left (by omega), Nat.min_eq_left (by omega), Nat.sub_zero]
  · have q0 : a - j = 0 := Nat.sub_eq_zero_of_le q
    rw [q0, Nat.min_eq_right (by omega), Nat.min_eq_right (by omega)]
    rfl
theorem min_sum {a b j : Nat} : a - j + min b (a + b - j) = a + b - j := by
  rcases Nat.le_total j a with q | q
  · rw [Nat.min_eq_left (by omega)]; omega
  · rw [Nat.min_eq_right (by omega), Nat.sub_eq_zero_of_le q, Nat.zero_add]
theorem form_cut (w : Wk) {j : Nat} (h : j + 1 < w.n) : wd (w.a - j - 1) (min w.b (w.a + w.b - j) - (1 - (w.a - j))) w.c w.d = w.form (j + 1) := by
  unfold Wk.form Wk.n at *
  have e1 : w.a - j - 1 = w.a - (j + 1) := by omega
  rw [e1, min_cut h]
theorem form_blanks (w : Wk) {j : Nat} (hc : w.c ≠ 32) (hd : w.d ≠ 32) : (w.form j).countP (· == 32) = w.n - j := by
  unfold Wk.form Wk.n wd
  rw [List.countP_append, List.countP_cons, List.countP_cons]
  have h1 : (w.c == 32) = false := by simpa using hc
  have h2 : (w.d == 32) = false := by simpa using hd
  rw [h1, h2, List.countP_replicate, List.countP_replicate]
  simp
  exact min_sum
theorem form_small (w : Wk) {j : Nat} (hc : w.c < 128) (hd : w.d < 128) : (w.form j).all (· < 128) = true := by
  unfold Wk.form wd
  simp [hc, hd]
theorem form_zero (w : Wk) : w.form 0 = wd w.a w.b w.c w.d := by
  unfold Wk.form
  have : min w.b (w.a + w.b - 0) = w.b := by omega
  rw [this]; rfl
theorem forms_get (w : Wk) {j : Nat} (h : j < w.n) : w.forms[j]? = some (w.form j) := by
  unfold Wk.forms
  simp [h]
end Mine

namespace Mine
section
variable {prog : Program} {w : World} {n : Nat} {A : Around} {E : Value → Shared → Prop} {env : Env} {g : Heap} {L : Addr} {ps : List (PySem.Str × Value)} {nw : List (Addr × Obj)} {h : Heap} {G : Array GenState} {D : Drawn} {tk₀ : Nat} {O : OsState}
/-- for x in range(a, a + m) -/
theorem p_for_range0 {x : PySem.Str} {px : Pos} {body : List Stmt} {Q : Flow → Shared → Prop} {r : Addr} {a b : Int} {t u v : Nat} {m : Nat} (J : Nat → List (PySem.Str × Value) → List (Addr × Obj) → Prop)
    (C : Cal w n A env g) (hL : env.locals = L) (H : Sx g L ps ((r, rangeObj a b t u v) :: nw) h) (hx : env.kindOf x = some .local) (hm : (m : Int) = if a < b then b - a else 0) (ha : -1000000000 ≤ a) (hb : b ≤ 1000000000) (ha' : a ≤ 1000000000) (hb' : -1000000000 ≤ b) (hJ : J 0 ps nw)
    (turn : ∀ i t ps' nw' h' tk' io, i < m → 0 < tk' → J i ps' nw' → Sx g L ((x, .int (a + (i : Nat)) t) :: ps') (io :: nw') h' →
      wpAny (model prog w) A (execs body env) (TurnK g L io (J (i + 1)) G D O Q) NoE ⟨h', G, D, tk', O⟩)
    (done : ∀ ps' nw' h' tk', J m ps' nw' → Sx g L ps' nw' h' → Q .next ⟨h', G, D, tk', O⟩) :
    wpAny (model prog w) A (pyIter (.ref r)) (fun it s₂ => codeAny (model prog w) A (.forLoop (.Name x px) it body [] env) (fun r s' => match r with | .ok f => Q f s' | .error e => cameBackBy (model prog w) A env E e s') s₂) E ⟨h, G, D, tk₀, O⟩ := by
  refine wpAny_pyIter_range (s := ⟨h, G, D, tk₀, O⟩) (a := a) (b := b) (c := 1) (t := t) (u := u) (v := v) (H.get (.head _)) (small_one (by omega) (by omega) (by omega) (by omega)) ?_
  rw [rangeSize_one, ← hm]
  have H' := (H.sub (List.sublist_cons_self _ _)).push { cls := .type "range_iterator", data := .fields #[rawInt a, rawInt (m : Int), rawInt 1] } rfl
  refine p_loopG (G := G) (D := D) (tk₀ := tk₀) (O := O) (N := m) (StO := fun i o => o = { cls := .type "range_iterator", dict := none, data := .fields #[rawInt (a + (i : Nat)), rawInt ((m : Int) - (i : Nat)), rawInt 1], slots := #[] })
    (bnd := fun i tk c d => 0 < tk ∧ ∃ t, d = (x, .int (a + (i : Nat)) t) :: c) J H' (by simp) hJ ?_ ?_ ?_ done
  · rintro i ps' nw' h' tk' o Q' hi hJ' htk Hc rfl k
    refine wpAny_pyNext_range_item (s := ⟨h', G, D, tk', O⟩) (Hc.get (.head _)) (by omega) fun h'' hit hs => ?_
    refine draw_name C hL hx (Hc.next hs hit) fun h₃ H₃ => k h₃ _ _ _ (by show tk₀ ≤ tk' + 1 + 1; omega) ?_ ⟨by show 0 < tk' + 1 + 1; omega, _, rfl⟩ H₃
    have e1 : a + ((i + 1 : Nat) : Int) = a + (i : Int) + 1 := by omega
    have e2 : (m : Int) - ((i + 1 : Nat) : Int) = (m : Int) - (i : Int) - 1 := by omega
    rw [e1, e2]
  · rintro ps' nw' h' tk' o Q' hJ' Hc rfl k
    exact wpAny_pyNext_range_end (s := ⟨h', G, D, tk', O⟩) C.handled (Hc.get (.head _)) (by omega) fun h'' hb => k h'' tk' (Hc.extBut fun b o e => hb b o e)
  · rintro i ps' ps'' nw' h' tk' o hi hJ' htk hst ⟨h0, t, rfl⟩ Hc
    exact turn i t ps' nw' h' tk' _ hi h0 hJ' Hc
end
/-- what the pushback and the page give -/
noncomputable def fet (q : List It) (idle : Nat) : Option It × List It × Nat :=
  match q with
  | [] => (none, [], idle + 1)
  | x :: r => (some x, r, idle)
noncomputable def nxo (ws : List Wk) : Option It → List It
  | none => []
  | some x => nxt ws x
theorem fetch_fet (ws : List Wk) (q : List It) (idle : Nat) : fetch ws q idle = ((fet q idle).1, (fet q idle).2.1 ++ nxo ws (fet q idle).1, (fet q idle).2.2) := by
  cases q <;> rfl
end Mine

/- plain facts of the machine: lengths, places, reads -/
namespace Mine
noncomputable def ItOk (ws : List Wk) (x : It) : Prop := x.1 < ws.length ∧ x.2 < (wk ws x.1).n
theorem wk_mem {ws : List Wk} {i : Nat} (h : i < ws.length) : wk ws i ∈ ws := by
  unfold wk
  rw [List.getD_eq_getElem?_getD, List.getElem?_eq_getElem h]
  exact List.getElem_mem h
theorem wk_at {ws : List Wk} {i : Nat} {w : Wk} (h : ws[i]? = some w) : wk ws i = w := by
  unfold wk
  rw [List.getD_eq_getElem?_getD, h]; rfl
theorem WsOk.n_pos {ws : List Wk} (ok : WsOk ws) {i : Nat} (h : i < ws.length) : 0 < (wk ws i).n := by
  have := ok.ok _ (wk_mem h)
  unfold Wk.n
  omega
theorem arr_len (ws : List Wk) (t k : Nat) : (arr ws t k).length ≤ k := by
  unfold arr
  rw [List.length_map]
  exact Nat.le_trans (List.length_filter_le _ _) (by simp)
theorem arr_ok {ws : List Wk} (ok : WsOk ws) {t k : Nat} (hk : k ≤ ws.length) : ∀ x ∈ arr ws t k, ItOk ws x := by
  intro x hx
  unfold arr at hx
  obtain ⟨i, hi, rfl⟩ := List.mem_map.mp hx
  have := List.mem_range.mp (List.mem_filter.mp hi).1
  exact ⟨by show i < _; omega, ok.n_pos (by omega)⟩
theorem nxt_ok {ws : List Wk} {x : It} (h : ItOk ws x) : ∀ y ∈ nxt ws x, ItOk ws y := by
  intro y hy
  unfold nxt at hy
  split at hy
  · rename_i hlt
    simp at hy; subst hy
    exact ⟨h.1, hlt⟩
  · cases hy
theorem nxt_len (ws : List Wk) (x : It) : (nxt ws x).length ≤ 1 := by unfold nxt; split <;> simp
theorem fetch_ok {ws : List Wk} {q : List It} {k : Nat} (h : ∀ x ∈ q, ItOk ws x) : (∀ x ∈ (fetch ws q k).2.1, ItOk ws x) ∧ (fetch ws q k).2.1.length ≤ q.length := by
  cases q with
  | nil => exact ⟨fun _ hx => (nomatch hx), Nat.le_refl _⟩
  | cons x r =>
    refine ⟨fun y hy => ?_, ?_⟩
    · rcases List.mem_append.mp hy with hy | hy
      · exact h y (.tail _ hy)
      · exact nxt_ok (h x (.head _)) y hy
    · show (r ++ nxt ws x).length ≤ _
      have := nxt_len ws x
      simp; omega
theorem getD_mem {s : List It} {b : Nat} (h : b < s.length) : s.getD b (0, 0) ∈ s := by
  rw [List.getD_eq_getElem?_getD, List.getElem?_eq_getElem h]; exact List.getElem_mem h
theorem serve_ok {ws : List Wk} {s : List It} (h : ∀ x ∈ s, ItOk ws x) : (∀ x ∈ (serve ws s).2, ItOk ws x) ∧ (serve ws s).2.length ≤ s.length := by
  cases s with
  | nil => exact ⟨fun _ hx => (nomatch hx), Nat.le_refl _⟩
  | cons y r =>
    have hb : best ws (y :: r) < (y :: r).length := best_lt (by simp)
    have hm := h _ (getD_mem hb)
    unfold serve
    dsimp only
    split
    · rename_i hlt
      refine ⟨fun x hx => ?_, by simp⟩
      rcases List.mem_or_eq_of_mem_set hx with hx | rfl
      · exact h x hx
      · exact ⟨hm.1, hlt⟩
    · refine ⟨fun x hx => h x (List.mem_of_mem_eraseIdx hx), ?_⟩
      rw [List.length_eraseIdx]
      split <;> omega
theorem run_ok {ws : List Wk} (ok : WsOk ws) (h4 : ws.length ≤ 4) : ∀ t, (∀ x ∈ (runN ws t).queue, ItOk ws x) ∧ (∀ x ∈ (runN ws t).shelf, ItOk ws x) ∧ (runN ws t).queue.length ≤ 4 * t ∧ (runN ws t).shelf.length ≤ 4 * t ∧ (runN ws t).turns.length = t ∧ (runN ws t).ranks.length = t
  | 0 => ⟨fun _ hx => (nomatch hx), fun _ hx => (nomatch hx), Nat.le_refl _, Nat.le_refl _, rfl, rfl⟩
  | t + 1 => by
    obtain ⟨h1, h2, h3, h4', h5, h6⟩ := run_ok ok h4 t
    have ha := arr_ok ok (t := t) (Nat.le_refl ws.length)
    have hal := arr_len ws t ws.length
    have hq : ∀ x ∈ (runN ws t).queue ++ arr ws t ws.length, ItOk ws x := fun x hx => (List.mem_append.mp hx).elim (h1 x) (ha x)
    have hs : ∀ x ∈ (runN ws t).shelf ++ arr ws t ws.length, ItOk ws x := fun x hx => (List.mem_append.mp hx).elim (h2 x) (ha x)
    have f := fetch_ok (k := (runN ws t).idle) hq
    have r := serve_ok hs
    simp only [List.length_append] at f r
    refine ⟨f.1, r.1, ?_, ?_, ?_, ?_⟩
    · show (fetch ws _ _).2.1.length ≤ _
      omega
    · show (serve ws _).2.length ≤ _
      omega
    · show ((runN ws t).turns ++ [_]).length = _
      simp [h5]
    · show ((runN ws t).ranks ++ [_]).length = _
      simp [h6]
theorem idle_step (ws : List Wk) (t : Nat) : (runN ws t).idle ≤ (runN ws (t + 1)).idle := by
  show _ ≤ (fetch ws _ (runN ws t).idle).2.2
  unfold fetch
  split
  · exact Nat.le_succ _
  · exact Nat.le_refl _
theorem idle_mono (ws : List Wk) {s t : Nat} (h : s ≤ t) : (runN ws s).idle ≤ (runN ws t).idle := by
  induction h with
  | refl => exact Nat.le_refl _
  | step _ ih => exact Nat.le_trans ih (idle_step ws _)
theorem idle_lt {ws : List Wk} {t last k : Nat} (h : t < last) (hl : (runN ws last).idle ≤ k) (hq : (runN ws t).queue ++ arr ws t ws.length = []) : (runN ws t).idle < k := by
  have h1 := idle_mono ws (show t + 1 ≤ last from h)
  have h2 : (runN ws (t + 1)).idle = (runN ws t).idle + 1 := by
    show (fetch ws _ _).2.2 = _
    rw [hq]; rfl
  omega
end Mine
namespace Mine
theorem nm_set {ws : List Wk} {s : List It} {b : Nat} (hb : b < s.length) (j : Nat) : (s.set b ((s.getD b (0, 0)).1, j)).map (nm ws) = s.map (nm ws) := by
  apply List.ext_getElem?
  intro i
  rw [List.map_set, List.getElem?_set]
  by_cases h : b = i
  · subst h
    have e : (s.map (nm ws))[b]? = some (nm ws (s.getD b (0, 0))) := by simp [hb]
    rw [e]
    simp [hb, nm]
  · simp [h]
theorem strcoll_two {x y : List Nat} : (b2i (decide (y < x)) - b2i (decide (x < y)) - (b2i (decide (x < y)) - b2i (decide (y < x))) == (2 : Int)) = decide (y < x) := by
  by_cases h1 : y < x
  · have h2 : ¬ x < y := fun h => List.lt_asymm h1 h
    simp [h1, h2, b2i]
  · by_cases h2 : x < y <;> simp [h1, h2, b2i]
theorem serve_nil (ws : List Wk) : serve ws [] = (none, []) := rfl
theorem serve_go {ws : List Wk} {s : List It} (hs : s ≠ []) (hlt : (s.getD (best ws s) (0, 0)).2 + 1 < (wk ws (s.getD (best ws s) (0, 0)).1).n) :
    serve ws s = (some (s.getD (best ws s) (0, 0)), s.set (best ws s) ((s.getD (best ws s) (0, 0)).1, (s.getD (best ws s) (0, 0)).2 + 1)) := by
  cases s with
  | nil => exact absurd rfl hs
  | cons a r => unfold serve; dsimp only; rw [if_pos hlt]
theorem serve_off {ws : List Wk} {s : List It} (hs : s ≠ []) (hlt : ¬ (s.getD (best ws s) (0, 0)).2 + 1 < (wk ws (s.getD (best ws s) (0, 0)).1).n) :
    serve ws s = (some (s.getD (best ws s) (0, 0)), s.eraseIdx (best ws s)) := by
  cases s with
  | nil => exact absurd rfl hs
  | cons a r => unfold serve; dsimp only; rw [if_neg hlt]
theorem map_erase {α β : Type} (f : α → β) : ∀ (l : List α) (i : Nat), (l.map f).eraseIdx i = (l.eraseIdx i).map f
  | [], _ => rfl
  | _ :: _, 0 => rfl
  | a :: r, i + 1 => by simp [map_erase f r i]
theorem getD_get {s : List It} {b : Nat} (hb : b < s.length) : s[b]? = some (s.getD b (0, 0)) := by simp [hb]
theorem Txs.at' {vs : List Value} {s : List It} {f : It → List Nat} (x : Txs vs (s.map f)) {b : Nat} (hb : b < s.length) : ∃ t, vs[b]? = some (.str (S (f (s.getD b (0, 0)))) t) :=
  x.at (by rw [List.getElem?_map, getD_get hb]; rfl)
end Mine

/- comprehensions -/
namespace Mine
/-- the frame of a comprehension -/
noncomputable abbrev cE (scope : Scope) (cl : List (PySem.Str × Addr)) (Cc : Addr) (env : Env) : Env :=
  { scope := relabel scope env, locals := Cc, globals := env.globals, cells := cl, qual := env.qual, func := none, code := env.code, frame := env.frame, builtins := env.builtins }
/-- what a loop draws from, while K holds of the heap -/
structure SrcK (prog : Program) (w : World) (A : Around) (K : Heap → Prop) (x : Value) (N : Nat) (P : Nat → Value → Prop) (o₀ : Obj) (StO : Nat → Obj → Prop) : Prop where
  free : o₀.isFreed = false
  start : StO 0 o₀
  made : ∀ {h : Heap} {G D tk O} {Q : Value → Shared → Prop} {E : Value → Shared → Prop}, K h → Q (.ref h.objs.size) ⟨h.push o₀, G, D, tk, O⟩ → wpAny (model prog w) A (pyIter x) Q E ⟨h, G, D, tk, O⟩
  item : ∀ {I : Addr} {i : Nat} {h : Heap} {G D tk O} {o : Obj} {Q : Option Value → Shared → Prop} {E : Value → Shared → Prop}, i < N → K h → h.get? I = some o → StO i o →
    (∀ h' tk' o' v, Heap.SameBut I h h' → h'.get? I = some o' → StO (i + 1) o' → P i v → Q (some v) ⟨h', G, D, tk', O⟩) → wpAny (model prog w) A (pyNext (.ref I)) Q E ⟨h, G, D, tk, O⟩
  stop : ∀ {I : Addr} {h : Heap} {G D tk O} {o : Obj} {Q : Option Value → Shared → Prop} {E : Value → Shared → Prop}, K h → h.get? I = some o → StO N o →
    (∀ h' tk', (∀ b ob, b ≠ I → h.get? b = some ob → h'.get? b = some ob) → Q none ⟨h', G, D, tk', O⟩) → wpAny (model prog w) A (pyNext (.ref I)) Q E ⟨h, G, D, tk, O⟩
  self : ∀ {I : Addr} {i : Nat} {h : Heap} {G D tk O} {o : Obj} {Q : Value → Shared → Prop} {E : Value → Shared → Prop}, h.get? I = some o → StO i o → Q (.ref I) ⟨h, G, D, tk, O⟩ → wpAny (model prog w) A (pyIter (.ref I)) Q E ⟨h, G, D, tk, O⟩
theorem SrcK.mono {prog : Program} {w : World} {A : Around} {K K' : Heap → Prop} {x : Value} {N : Nat} {P : Nat → Value → Prop} {o₀ : Obj} {StO : Nat → Obj → Prop} (S : SrcK prog w A K x N P o₀ StO) (hk : ∀ h, K' h → K h) : SrcK prog w A K' x N P o₀ StO where
  free := S.free
  start := S.start
  made := fun k q => S.made (hk _ k) q
  item := fun hi k ho hst q => S.item hi (hk _ k) ho hst q
  stop := fun k ho hst q => S.stop (hk _ k) ho hst q
  self := fun ho hst q => S.self ho hst q
noncomputable abbrev Src (prog : Program) (w : World) (A : Around) (g : Heap) (x : Value) (N : Nat) (P : Nat → Value → Prop) (o₀ : Obj) (StO : Nat → Obj → Prop) : Prop := SrcK prog w A (fun h => ∀ b ob, g.get? b = some ob → h.get? b = some ob) x N P o₀ StO
noncomputable def lstStO (l : Addr) (i : Nat) (o : Obj) : Prop := o.cls = .type "list_iterator" ∧ o.data = .fields #[.ref l, .int (i : Nat) 0]
theorem SrcK.list {prog : Program} {w : World} {A : Around} {l : Addr} {vs : List Value} {c : Nat} (hh : A.handled = none) :
    SrcK prog w A (fun h => h.get? l = some (lstObj vs c)) (.ref l) vs.length (fun i v => vs[i]? = some v) { cls := .type "list_iterator", data := .fields #[.ref l, .int 0 0] } (lstStO l) where
  free := rfl
  start := ⟨rfl, rfl⟩
  made := fun {h G D tk O Q E} hl k => wpAny_pyIter_list (s := ⟨h, G, D, tk, O⟩) (lst_is hl) k
  item := fun {I i h G D tk O o Q E} hi hl ho hst k => by
    refine wpAny_pyNext_list_item (s := ⟨h, G, D, tk, O⟩) ⟨o, ho, hst.1, hst.2⟩ (lst_is hl) (x := vs[i]'hi) (by simp [hi]) fun h'' hit hs => ?_
    obtain ⟨o', ho', hc', hd'⟩ := hit
    exact k h'' tk o' _ hs ho' ⟨hc', hd'⟩ (List.getElem?_eq_getElem hi)
  stop := fun {I h G D tk O o Q E} hl ho hst k => wpAny_pyNext_list_end (s := ⟨h, G, D, tk, O⟩) hh ⟨o, ho, hst.1, hst.2⟩ (lst_is hl) (by simp) fun h'' hb => k h'' tk fun b ob hbI e => hb b ob hbI e
  self := fun {I i h G D tk O o Q E} ho hst k => wpAny_pyIter_listiter (s := ⟨h, G, D, tk, O⟩) (i := i) ⟨o, ho, hst.1, hst.2⟩ k
theorem Src.list {prog : Program} {w : World} {A : Around} {g : Heap} {l : Addr} {vs : List Value} {c : Nat} (hh : A.handled = none) (hl : g.get? l = some (lstObj vs c)) :
    Src prog w A g (.ref l) vs.length (fun i v => vs[i]? = some v) { cls := .type "list_iterator", data := .fields #[.ref l, .int 0 0] } (lstStO l) := (SrcK.list hh).mono fun _ hk => hk _ _ hl
noncomputable def tupStO (l : Addr) (i : Nat) (o : Obj) : Prop := o.cls = .type "tuple_iterator" ∧ o.data = .fields #[.ref l, .int (i : Nat) 0]
theorem SrcK.tup {prog : Program} {w : World} {A : Around} {l : Addr} {vs : List Value} (hh : A.handled = none) :
    SrcK prog w A (fun h => h.get? l = some (tupObj vs)) (.ref l) vs.length (fun i v => vs[i]? = some v) { cls := .type "tuple_iterator", data := .fields #[.ref l, .int 0 0] } (tupStO l) where
  free := rfl
  start := ⟨rfl, rfl⟩
  made := fun {h G D tk O Q E} hl k => wpAny_pyIter_tuple (s := ⟨h, G, D, tk, O⟩) (items := vs.toArray) ⟨_, hl, rfl, _, rfl⟩ k
  item := fun {I i h G D tk O o Q E} hi hl ho hst k => by
    refine wpAny_pyNext_tuple_item (s := ⟨h, G, D, tk, O⟩) (items := vs.toArray) ⟨o, ho, hst.1, hst.2⟩ ⟨_, hl, rfl, _, rfl⟩ (x := vs[i]'hi) (by simp [hi]) fun h'' hit hs => ?_
    obtain ⟨o', ho', hc', hd'⟩ := hit
    exact k h'' tk o' _ hs ho' ⟨hc', hd'⟩ (List.getElem?_eq_getElem hi)
  stop := fun {I h G D tk O o Q E} hl ho hst k => wpAny_pyNext_tuple_end (s := ⟨h, G, D, tk, O⟩) (items := vs.toArray) hh ⟨o, ho, hst.1, hst.2⟩ ⟨_, hl, rfl, _, rfl⟩ (by simp) fun h'' hb => k h'' tk fun b ob hbI e => hb b ob hbI e
  self := fun {I i h G D tk O o Q E} ho hst k => wpAny_pyIter_tupleiter (s := ⟨h, G, D, tk, O⟩) (i := i) ⟨o, ho, hst.1, hst.2⟩ k
noncomputable def rngStO (m : Nat) (i : Nat) (o : Obj) : Prop := o = { cls := .type "range_iterator", dict := none, data := .fields #[rawInt ((i : Nat) : Int), rawInt ((m : Int) - (i : Nat)), rawInt 1], slots := #[] }
theorem SrcK.range {prog : Program} {w : World} {A : Around} {r : Addr} {m t u v : Nat} (hh : A.handled = none) (hm : m ≤ 1000000) :
    SrcK prog w A (fun h => h.get? r = some (rangeObj 0 (m : Nat) t u v)) (.ref r) m (fun i x => ∃ t, x = .int ((i : Nat) : Int) t) { cls := .type "range_iterator", data := .fields #[rawInt 0, rawInt (m : Int), rawInt 1] } (rngStO m) where
  free := rfl
  start := by show _ = _; simp
  made := fun {h G D tk O Q E} hr k => by
    refine wpAny_pyIter_range (s := ⟨h, G, D, tk, O⟩) (a := 0) (b := (m : Int)) (c := 1) (t := t) (u := u) (v := v) hr (small_one (by omega) (by omega) (by omega) (by omega)) ?_
    rw [rangeSize_one]
    have e : (if (0 : Int) < (m : Int) then (m : Int) - 0 else 0) = (m : Int) := by split <;> omega
    rw [e]
    exact k
  item := fun {I i h G D tk O o Q E} hi hk ho hst k => by
    cases hst
    refine wpAny_pyNext_range_item (s := ⟨h, G, D, tk, O⟩) ho (by omega) fun h'' hit hs => ?_
    refine k h'' _ _ _ hs hit ?_ ⟨_, rfl⟩
    have e1 : ((i + 1 : Nat) : Int) = (i : Int) + 1 := by omega
    have e2 : (m : Int) - ((i + 1 : Nat) : Int) = (m : Int) - (i : Int) - 1 := by omega
    show _ = _
    rw [e1, ← e2]
    congr 4
  stop := fun {I h G D tk O o Q E} hk ho hst k => by
    cases hst
    exact wpAny_pyNext_range_end (s := ⟨h, G, D, tk, O⟩) hh ho (by omega) fun h'' hb => k h'' tk fun b ob hbI e => hb b ob hbI e
  self := fun {I i h G D tk O o Q E} ho hst k => by
    cases hst
    exact wpAny_pyIter_rangeiter (s := ⟨h, G, D, tk, O⟩) ho k
theorem Src.range {prog : Program} {w : World} {A : Around} {g : Heap} {r : Addr} {m t u v : Nat} (hh : A.handled = none) (hr : g.get? r = some (rangeObj 0 (m : Nat) t u v)) (hm : m ≤ 1000000) :
    Src prog w A g (.ref r) m (fun i x => ∃ t, x = .int ((i : Nat) : Int) t) { cls := .type "range_iterator", data := .fields #[rawInt 0, rawInt (m : Int), rawInt 1] } (rngStO m) := (SrcK.range hh hm).mono fun _ hk => hk _ _ hr
end Mine
namespace Mine
noncomputable abbrev testsOf (ifs : List PySem.Expr) (env : Env) : Sem Bool := forIn ifs true fun c r => if r = true then do let ok ← isTrue c env (eval c env); pure (ForInStep.yield ok) else pure (ForInStep.yield r)
section
variable {M : Model} {A : Around} {E : Value → Shared → Prop} {s : Shared} {env : Env} {Q : Bool → Shared → Prop}
theorem tests_nil (k : Q true s) : wpAny M A (testsOf [] env) Q E s := by
  unfold testsOf
  rw [List.forIn_nil]; exact wpAny_pure k
theorem tests_one {c : PySem.Expr} (k : wpAny M A (PySem.isTrue c env (eval c env)) Q E s) : wpAny M A (testsOf [c] env) Q E s := by
  unfold testsOf
  rw [List.forIn_cons, if_pos rfl]
  refine wpAny_bind (wpAny_bind (wpAny_mono k (fun b s' h => wpAny_pure ?_) fun _ _ x => x))
  show wpAny _ _ (forIn [] b _) _ _ _
  rw [List.forIn_nil]; exact wpAny_pure h
end
theorem Cal.comp {w : World} {n : Nat} {A : Around} {env : Env} {g : Heap} {ps : PS} {nw : LG} {h : Heap} {scope : Scope} {cl : List (PySem.Str × Addr)} {Cc : Addr} (C : Cal w n A env g) (H : Sx g env.locals ps nw h) (hk : scope.kind = .function) : Cal w 0 A (cE scope cl Cc env) h := by
  obtain ⟨p, loose, mean, mg, mb, T⟩ := C.top
  exact ⟨⟨p, loose, mean, mg, mb, T.keeps fun _ _ e => H.old e⟩, C.kin.keeps fun _ _ e => H.old e, fun h0 => absurd h0 (Nat.lt_irrefl _), fun h0 => absurd h0 (Nat.lt_irrefl _), hk, Nat.le_trans (Nat.add_le_add_left (Nat.zero_le _) _) C.depth,
    Nat.le_trans (Nat.add_le_add_left (Nat.mul_le_mul_left _ (Nat.zero_le _)) _) C.units, C.handled⟩
/-- what a turn of a comprehension must show -/
noncomputable def CTurn (h : Heap) (Cc : Addr) (it acc : Addr × Obj) (G : Array GenState) (D : Drawn) (O : OsState) (J : LG → Prop) (s : Shared) : Prop :=
  ∃ h' tk ps nw, s = ⟨h', G, D, tk, O⟩ ∧ Sx h Cc ps (it :: acc :: nw) h' ∧ J nw
section
variable {prog : Program} {w : World} {n : Nat} {A : Around} {E : Value → Shared → Prop} {env : Env} {g : Heap} {ps : PS} {nw : LG} {h : Heap} {G : Array GenState} {D : Drawn} {tk₀ : Nat} {O : OsState}
/-- the loop of a comprehension -/
theorem p_compLoop {elt target iter : PySem.Expr} {ifs : List PySem.Expr} {scope : Scope} {pos : Pos} {g₂ : Heap} {cenv : Env} {I L₂ : Addr} {o₀ : Obj} {N : Nat} {P : Nat → Value → Prop} {StO : Nat → Obj → Prop} {x : Value} {R : Result → Shared → Prop} {h : Heap} {nw₀ : LG}
    (J : Nat → List Value → LG → Prop) (hN : N ≤ 100000) (S : Src prog w A g₂ x N P o₀ StO) (H : Sx g₂ cenv.locals [] ((I, o₀) :: (L₂, lstObj [] 0) :: nw₀) h) (hJ : J 0 [] nw₀)
    (turn : ∀ i v ys c o ps' nw' h' tk', i < N → P i v → J i ys nw' → Sx g₂ cenv.locals ps' ((I, o) :: (L₂, lstObj ys c) :: nw') h' →
      wpAny (model prog w) A (assign target cenv v) (fun _ s₂ => wpAny (model prog w) A (testsOf ifs cenv) (fun ok s₃ => if ok = true then wpAny (model prog w) A (eval elt cenv) (fun y s₄ => CTurn g₂ cenv.locals (I, o) (L₂, lstObj ys c) G D O (J (i + 1) (ys ++ [y])) s₄) NoE s₃
        else CTurn g₂ cenv.locals (I, o) (L₂, lstObj ys c) G D O (J (i + 1) ys) s₃) NoE s₂) NoE ⟨h', G, D, tk', O⟩)
    (done : ∀ ps' ys c nw' h' tk', J N ys nw' → Sx g₂ cenv.locals ps' ((L₂, lstObj ys c) :: nw') h' → R (.ok .next) ⟨h', G, D, tk', O⟩) (ht : ∀ v, letOwnedTupleGo target (.ref I) v = pure ()) :
    codeAny (model prog w) A (.compStart (.ListComp elt [⟨target, iter, ifs, 0⟩] scope pos) 0 (.ref I) (.ref L₂) cenv) R ⟨h, G, D, tk₀, O⟩ := by
  have loop : codeAny (model prog w) A (.compLoop (.ListComp elt [⟨target, iter, ifs, 0⟩] scope pos) 0 (.ref I) (.ref L₂) cenv) R ⟨h, G, D, tk₀, O⟩ := by
    refine codeAny_compLoop_tests (fun k s' => ∃ i h' tk' o ps' ys c nw', s' = (⟨h', G, D, tk', O⟩ : Shared) ∧ k = N - i ∧ i ≤ N ∧ ys.length ≤ i ∧ Sx g₂ cenv.locals ps' ((I, o) :: (L₂, lstObj ys c) :: nw') h' ∧ StO i o ∧ J i ys nw') ?_ N
      ⟨0, h, tk₀, o₀, [], [], 0, nw₀, rfl, rfl, Nat.zero_le _, Nat.le_refl _, H, S.start, hJ⟩ ht
    rintro k s' ⟨i, h', tk', o, ps', ys, c, nw', rfl, rfl, hi, hl, H', hst, hJ'⟩
    by_cases hlt : i < N
    · refine S.item hlt (fun b ob e => H'.old e) (H'.get (.head _)) hst fun h₁ tk₁ o₁ v hs ho hst' hv => ?_
      have H₁ := H'.change (i := 0) rfl hs ho
      refine wpAny_mono (turn i v ys c o₁ ps' nw' h₁ tk₁ hlt hv hJ' H₁) (fun _ s₂ h₂ => wpAny_mono h₂ (fun ok s₃ h₃ => ?_) fun _ _ x => x.elim) fun _ _ x => x.elim
      cases ok with
      | false =>
        obtain ⟨h₄, tk₄, ps₄, nw₄, rfl, H₄, hJ₄⟩ := h₃
        exact ⟨N - (i + 1), by omega, i + 1, h₄, tk₄, o₁, ps₄, ys, c, nw₄, rfl, rfl, hlt, by omega, H₄, hst', hJ₄⟩
      | true =>
        refine wpAny_mono h₃ (fun y s₄ h₄ => ?_) fun _ _ x => x.elim
        obtain ⟨h₄', tk₄, ps₄, nw₄, rfl, H₄, hJ₄⟩ := h₄
        refine c_append (f := fun o' => (I, o₁) :: (L₂, o') :: nw₄) H₄ (.tail .head) (by omega) fun h₅ c' H₅ => ?_
        exact ⟨N - (i + 1), by omega, i + 1, h₅, tk₄, o₁, ps₄, _, c', nw₄, rfl, rfl, hlt, by rw [List.length_append, List.length_singleton]; omega, H₅, hst', hJ₄⟩
    · have : i = N := by omega
      subst this
      exact S.stop (fun b ob e => H'.old e) (H'.get (.head _)) hst fun h₁ tk₁ hb => done ps' ys c nw' h₁ tk₁ hJ' (H'.extBut hb)
  exact codeAny_compStart_list loop (S.self (H.get (.head _)) S.start loop)
end
end Mine

/- a comprehension as a step of its frame -/
namespace Mine
theorem newEnv_around {M : Model} {A : Around} {E : Value → Shared → Prop} {s : Shared} {scope : Scope} {globals : Addr} {cl : List (PySem.Str × Addr)} {qual : PySem.Str} {env : Env} {Q : Env → Shared → Prop}
    (k : Q { scope := scope, locals := s.heap.objs.size, globals := globals, cells := cellsFrom (s.heap.objs.size + 1) scope.names cl, qual := qual, func := none, code := env.code, frame := env.frame, builtins := env.builtins }
      { s with heap := pushCells (s.heap.push { cls := .type "dict", data := .dict #[] }) scope.names }) :
    wpAny M A (newFunctionEnv scope globals cl [] qual none .none (some env)) Q E s := by
  simp only [newFunctionEnv, Option.isSome_some, if_true]
  refine wpAny_bind (wpAny_alloc ?_)
  refine wpAny_bind (wpAny_layCells _ (fun name kind cells => by cases hkc : kind == NameKind.cell <;> simp [hkc]) _ _ _ _ ?_)
  rw [show ({ s with heap := s.heap.push { cls := .type "dict", data := .dict #[] } } : Shared).heap.objs.size = s.heap.objs.size + 1 from Heap.size_push ..]
  refine wpAny_bind ?_
  rw [List.forIn_nil]
  exact wpAny_pure (wpAny_pure k)
theorem comp_back {g g₂ h' : Heap} {L Cc : Addr} {ps ps' : PS} {nw nw' : LG} (H : Sx g L ps nw g₂) (H' : Sx g₂ Cc ps' nw' h') : ∃ oC, (∀ h : Heap, h.get? Cc = some oC → ∃ m, h.Ns Cc m) ∧ Sx g L ps ((Cc, oC) :: (nw' ++ nw)) h' := by
  obtain ⟨m, F, l⟩ := H.fr
  obtain ⟨m', F', l'⟩ := H'.fr
  obtain ⟨oL, es, ep, hL, r⟩ := F.ns
  obtain ⟨oC, esC, epC, hC, rC⟩ := F'.ns
  have gC : g₂.get? Cc = none := Heap.get?_none_of_le F'.above
  have old : ∀ {b o}, g.get? b = some o → g₂.get? b = some o := fun e => F.keep _ _ e
  have none_g : ∀ {b}, g₂.get? b = none → g.get? b = none := fun {b} e => by
    cases q : g.get? b with
    | none => rfl
    | some o => rw [old q] at e; cases e
  have ne_L : ∀ {b}, g₂.get? b = none → b ≠ L := fun e q => by rw [q, hL] at e; cases e
  refine ⟨oC, fun h e => ⟨_, oC, esC, epC, e, rC⟩, ⟨m, ⟨⟨oL, es, ep, F'.keep _ _ hL, r⟩, fun b o e => F'.keep _ _ (old e), F.above⟩, l⟩, fun p hp => ?_, ?_⟩
  · rcases List.mem_cons.mp hp with rfl | hp
    · exact ⟨hC, ne_L gC, none_g gC⟩
    · rcases List.mem_append.mp hp with hp | hp
      · have q := H'.led p hp
        exact ⟨q.1, ne_L q.2.2, none_g q.2.2⟩
      · have q := H.led p hp
        exact ⟨F'.keep _ _ q.1, q.2⟩
  · rw [List.map_cons, List.nodup_cons, List.map_append, List.nodup_append]
    refine ⟨fun hm => ?_, H'.nd, H.nd, fun a ha b hb e => ?_⟩
    · rcases List.mem_append.mp hm with hm | hm
      · obtain ⟨p, hp, e⟩ := List.mem_map.mp hm
        exact (H'.led p hp).2.1 e
      · obtain ⟨p, hp, e⟩ := List.mem_map.mp hm
        have q := (H.led p hp).1
        have e' : p.1 = Cc := e
        rw [e', gC] at q; cases q
    · subst e
      obtain ⟨p, hp, rfl⟩ := List.mem_map.mp ha
      obtain ⟨q, hq, e⟩ := List.mem_map.mp hb
      have h1 := (H'.led p hp).2.2
      have h2 := (H.led q hq).1
      have e' : q.1 = p.1 := e
      rw [e', h1] at h2; cases h2
noncomputable def cellNone : Obj := { cls := .type "cell", data := .cell none }
noncomputable def dictNone : Obj := { cls := .type "dict", data := .dict #[] }
/-- the three new objects, and a cell or none -/
theorem comp_new {g : Heap} {o₀ : Obj} (hf : o₀.isFreed = false) : Sx g (g.objs.size + 2) [] [(g.objs.size, o₀), (g.objs.size + 1, lstObj [] 0)] (((g.push o₀).push (lstObj [] 0)).push dictNone) := by
  have e1 : (g.push o₀).objs.size = g.objs.size + 1 := Heap.size_push ..
  have e2 : ((g.push o₀).push (lstObj [] 0)).objs.size = g.objs.size + 2 := by rw [Heap.size_push, e1]
  have a1 : (g.push o₀).get? g.objs.size = some o₀ := Heap.get?_push_size _ hf
  have a2 : ((g.push o₀).push (lstObj [] 0)).get? (g.objs.size + 1) = some (lstObj [] 0) := by rw [← e1]; exact Heap.get?_push_size _ rfl
  refine ⟨⟨fun _ => none, ⟨?_, fun b o e => Heap.get?_push_of_some _ (Heap.get?_push_of_some _ (Heap.get?_push_of_some _ e)), Nat.le_add_right _ _⟩, fun x v e => nomatch e⟩, fun p hp => ?_, ?_⟩
  · rw [← e2]; exact Heap.Ns.new ..
  · simp only [List.mem_cons, List.not_mem_nil, or_false] at hp
    rcases hp with rfl | rfl
    · exact ⟨Heap.get?_push_of_some _ (Heap.get?_push_of_some _ a1), by show g.objs.size ≠ g.objs.size + 2; omega, Heap.get?_none_of_le (Nat.le_refl _)⟩
    · exact ⟨Heap.get?_push_of_some _ a2, by show g.objs.size + 1 ≠ g.objs.size + 2; omega, Heap.get?_none_of_le (Nat.le_succ _)⟩
  · simp
section
variable {prog : Program} {w : World} {n : Nat} {A : Around} {E : Value → Shared → Prop} {env : Env} {g : Heap} {ps : PS} {nw : LG} {h : Heap} {G : Array GenState} {D : Drawn} {tk₀ : Nat} {O : OsState}
  {elt iter : PySem.Expr} {x : PySem.Str} {px : Pos} {ifs : List PySem.Expr} {scope : Scope} {pos : Pos} {cl : List (PySem.Str × Addr)} {o₀ : Obj} {N : Nat} {P : Nat → Value → Prop} {StO : Nat → Obj → Prop} {xv : Value} {RR : Value → Addr → Result → Shared → Prop}
/-- a comprehension from its source on, RR what comes back -/
noncomputable def CompGo (prog : Program) (w : World) (A : Around) (E : Value → Shared → Prop) (env : Env) (e : PySem.Expr) (scope : Scope) (cl : List (PySem.Str × Addr)) (RR : Value → Addr → Result → Shared → Prop) (xv : Value) (s : Shared) : Prop :=
  wpAny (model prog w) A (pyIter xv) (fun it s₂ => wpAny (model prog w) A (newList []) (fun acc s₃ => wpAny (model prog w) A (newFunctionEnv scope env.globals cl [] env.qual none .none (some env)) (fun cenv s₄ =>
    codeAny (model prog w) A (.compStart e 0 it acc { cenv with scope := relabel scope env }) (RR acc cenv.locals) s₄) E s₃) E s₂) E s
/-- its target a local -/
theorem comp_go (J : Nat → List Value → LG → Prop) (S : Src prog w A h xv N P o₀ StO) (C : Cal w n A env g) (H : Sx g env.locals ps nw h) (hN : N ≤ 100000) (hkind : scope.kind = .function) (hx : scope.names.lookup x = some .local) (hcell : scope.names.all (·.2 != .cell) = true) (hJ : J 0 [] [])
    (turn : ∀ i v ys c I L₂ Cc o ps' nw' h' tk' (Z₁ : Value → Shared → Prop) (Z₂ : Shared → Prop), i < N → P i v → J i ys nw' → Cal w 0 A (cE scope cl Cc env) h → Sx h Cc ((x, v) :: ps') ((I, o) :: (L₂, lstObj ys c) :: nw') h' →
      (∀ y s, CTurn h Cc (I, o) (L₂, lstObj ys c) G D O (J (i + 1) (ys ++ [y])) s → Z₁ y s) → (∀ s, CTurn h Cc (I, o) (L₂, lstObj ys c) G D O (J (i + 1) ys) s → Z₂ s) →
      wpAny (model prog w) A (testsOf ifs (cE scope cl Cc env)) (fun ok s₃ => if ok = true then wpAny (model prog w) A (eval elt (cE scope cl Cc env)) Z₁ NoE s₃ else Z₂ s₃) NoE ⟨h', G, D, tk', O⟩)
    (done : ∀ Cc oC L₂ ys c nw' h' tk', (∀ h : Heap, h.get? Cc = some oC → ∃ m, h.Ns Cc m) → J N ys nw' → Sx g env.locals ps ((Cc, oC) :: (L₂, lstObj ys c) :: (nw' ++ nw)) h' → RR (.ref L₂) Cc (.ok .next) ⟨h', G, D, tk', O⟩) :
    CompGo prog w A E env (.ListComp elt [⟨.Name x px, iter, ifs, 0⟩] scope pos) scope cl RR xv ⟨h, G, D, tk₀, O⟩ := by
  unfold CompGo
  refine S.made (fun _ _ e => e) (wpAny_newObj_type (newEnv_around ?_))
  have e1 : (h.push o₀).objs.size = h.objs.size + 1 := Heap.size_push ..
  have e2 : ((h.push o₀).push (lstObj [] 0)).objs.size = h.objs.size + 2 := by rw [Heap.size_push, e1]
  have hno : ∀ names : List (PySem.Str × NameKind), names.all (·.2 != .cell) = true → (∀ hh : Heap, pushCells hh names = hh) ∧ ∀ a acc, cellsFrom a names acc = acc := by
    intro names
    induction names with
    | nil => exact fun _ => ⟨fun _ => rfl, fun _ _ => rfl⟩
    | cons p r ih =>
      intro hh
      obtain ⟨nm, k⟩ := p
      rw [List.all_cons, Bool.and_eq_true] at hh
      have hk : (k == NameKind.cell) = false := by simpa using hh.1
      have := ih hh.2
      refine ⟨fun hh => ?_, fun a acc => ?_⟩
      · unfold pushCells; rw [hk]; exact this.1 hh
      · unfold cellsFrom; rw [hk]; exact this.2 a acc
  obtain ⟨q1, q2⟩ := hno _ hcell
  dsimp only
  rw [q1, q2]
  have q3 : (Obj.mk (.type "list") none (.seq ([] : List Value).toArray 0) #[]) = lstObj [] 0 := rfl
  show codeAny _ _ (.compStart _ 0 (.ref h.objs.size) (.ref (h.push o₀).objs.size) (cE scope cl ((h.push o₀).push (lstObj [] 0)).objs.size env)) (RR (.ref (h.push o₀).objs.size) ((h.push o₀).push (lstObj [] 0)).objs.size) ⟨((h.push o₀).push (lstObj [] 0)).push dictNone, G, D, tk₀, O⟩
  rw [e2, e1]
  refine p_compLoop (cenv := cE scope cl (h.objs.size + 2) env) J hN S (comp_new S.free) hJ (fun i v ys c o ps' nw' h' tk' hi hv hJ' H' => ?_) (fun ps' ys c nw' h' tk' hJ' H' => ?_) (fun v => rfl)
  · have C' : Cal w 0 A (cE scope cl (h.objs.size + 2) env) h := C.comp H hkind
    exact wpAny_assign_Name (p_st C' H' rfl (lookup_relabel_local hx) fun h'' H'' => turn i v ys c _ _ _ o ps' nw' h'' _ _ _ hi hv hJ' C' H'' (fun _ _ x => x) fun _ x => x)
  · obtain ⟨oC, hns, H''⟩ := comp_back H H'
    exact done _ oC _ ys c nw' h' tk' hns hJ' H''
end
end Mine

/- a comprehension whose target is a cell; the expression, the assignment -/
namespace Mine
theorem comp_new1 {g : Heap} {o₀ : Obj} (hf : o₀.isFreed = false) : Sx g (g.objs.size + 2) [] [(g.objs.size, o₀), (g.objs.size + 1, lstObj [] 0), (g.objs.size + 3, cellNone)] ((((g.push o₀).push (lstObj [] 0)).push dictNone).push cellNone) := by
  have e3 : (((g.push o₀).push (lstObj [] 0)).push dictNone).objs.size = g.objs.size + 3 := by rw [Heap.size_push, Heap.size_push, Heap.size_push]
  have := (comp_new (g := g) hf).push cellNone rfl
  rw [e3] at this
  exact this.perm ((List.Perm.swap _ _ _).trans ((List.Perm.swap _ _ _).cons _))
section
variable {prog : Program} {w : World} {n : Nat} {A : Around} {E : Value → Shared → Prop} {env : Env} {g : Heap} {ps : PS} {nw : LG} {h : Heap} {G : Array GenState} {D : Drawn} {tk₀ : Nat} {O : OsState}
  {elt iter : PySem.Expr} {x y : PySem.Str} {px py : Pos} {ifs : List PySem.Expr} {scope : Scope} {pos spos : Pos} {cl : List (PySem.Str × Addr)} {o₀ : Obj} {N : Nat} {P : Nat → Value → Prop} {StO : Nat → Obj → Prop} {xv : Value} {RR : Value → Addr → Result → Shared → Prop}
theorem lookup_relabel_cell {env : Env} : ∀ {names : List (PySem.Str × NameKind)} {x : PySem.Str}, names.lookup x = some .cell →
    (names.map fun (n, k) => if (k == NameKind.free && env.scope.kind == .function && env.kindOf n == some .cell) then (n, NameKind.cell) else (n, k)).lookup x = some .cell
  | [], _, h => by simp at h
  | (n, k) :: r, x, h => by
    have ih := @lookup_relabel_cell env r x
    show List.lookup x ((if (k == NameKind.free && env.scope.kind == .function && env.kindOf n == some .cell) = true then (n, NameKind.cell) else (n, k)) :: _) = _
    cases hx : x == n with
    | true =>
      simp only [List.lookup_cons, hx] at h
      cases h
      simp [List.lookup_cons, hx]
    | false =>
      simp only [List.lookup_cons, hx] at h
      by_cases hc : (k == NameKind.free && env.scope.kind == .function && env.kindOf n == some .cell) = true
      · rw [if_pos hc]; simp only [List.lookup_cons, hx]; exact ih h
      · rw [if_neg hc]; simp only [List.lookup_cons, hx]; exact ih h
/-- its target a cell -/
theorem comp_goC (J : Nat → List Value → LG → Prop) (S : Src prog w A h xv N P o₀ StO) (C : Cal w n A env g) (H : Sx g env.locals ps nw h) (hN : N ≤ 100000) (hkind : scope.kind = .function) (hx : scope.names.lookup x = some .cell)
    (hpc : ∀ hh, pushCells hh scope.names = hh.push cellNone) (hcf : ∀ a, cellsFrom a scope.names cl = (x, a) :: cl) (hJ : J 0 [] [])
    (turn : ∀ i v ys c I L₂ Cc cc oc o ps' nw' h' tk', i < N → P i v → J i ys nw' → Cal w 0 A (cE scope ((x, cc) :: cl) Cc env) h → oc.data = .cell (some v) → Sx h Cc ps' ((I, o) :: (L₂, lstObj ys c) :: (cc, oc) :: nw') h' →
      wpAny (model prog w) A (testsOf ifs (cE scope ((x, cc) :: cl) Cc env)) (fun ok s₃ => if ok = true then wpAny (model prog w) A (eval elt (cE scope ((x, cc) :: cl) Cc env)) (fun y s₄ => CTurn h Cc (I, o) (L₂, lstObj ys c) G D O (fun nwf => ∃ nw', nwf = (cc, oc) :: nw' ∧ J (i + 1) (ys ++ [y]) nw') s₄) NoE s₃
        else CTurn h Cc (I, o) (L₂, lstObj ys c) G D O (fun nwf => ∃ nw', nwf = (cc, oc) :: nw' ∧ J (i + 1) ys nw') s₃) NoE ⟨h', G, D, tk', O⟩)
    (done : ∀ Cc oC L₂ ys c nw' h' tk', (∀ h : Heap, h.get? Cc = some oC → ∃ m, h.Ns Cc m) → J N ys nw' → Sx g env.locals ps ((Cc, oC) :: (L₂, lstObj ys c) :: (nw' ++ nw)) h' → RR (.ref L₂) Cc (.ok .next) ⟨h', G, D, tk', O⟩) :
    CompGo prog w A E env (.ListComp elt [⟨.Name x px, iter, ifs, 0⟩] scope pos) scope cl RR xv ⟨h, G, D, tk₀, O⟩ := by
  unfold CompGo
  refine S.made (fun _ _ e => e) (wpAny_newObj_type (newEnv_around ?_))
  have e1 : (h.push o₀).objs.size = h.objs.size + 1 := Heap.size_push ..
  have e2 : ((h.push o₀).push (lstObj [] 0)).objs.size = h.objs.size + 2 := by rw [Heap.size_push, e1]
  dsimp only
  rw [hpc, hcf]
  show codeAny _ _ (.compStart _ 0 (.ref h.objs.size) (.ref (h.push o₀).objs.size) (cE scope ((x, ((h.push o₀).push (lstObj [] 0)).objs.size + 1) :: cl) ((h.push o₀).push (lstObj [] 0)).objs.size env)) (RR (.ref (h.push o₀).objs.size) ((h.push o₀).push (lstObj [] 0)).objs.size) ⟨(((h.push o₀).push (lstObj [] 0)).push dictNone).push cellNone, G, D, tk₀, O⟩
  rw [e2, e1]
  have C' : Cal w 0 A (cE scope ((x, h.objs.size + 3) :: cl) (h.objs.size + 2) env) h := C.comp H hkind
  refine p_compLoop (cenv := cE scope ((x, h.objs.size + 3) :: cl) (h.objs.size + 2) env) (fun i ys nwf => ∃ oc nw', nwf = (h.objs.size + 3, oc) :: nw' ∧ (∃ v, oc.data = .cell v) ∧ J i ys nw') hN S (comp_new1 S.free) ⟨_, _, rfl, ⟨none, rfl⟩, hJ⟩ ?_ ?_ (fun v => rfl)
  · rintro i v ys c o ps' nw' h' tk' hi hv ⟨oc, nw'', rfl, ⟨v₀, hd⟩, hJ'⟩ H'
    refine wpAny_assign_Name (p_stc C' H' (lookup_relabel_cell hx) (by show List.lookup x ((x, _) :: cl) = _; simp) (.tail (.tail .head)) hd fun h'' oc' hd' H'' => ?_)
    refine wpAny_mono (turn i v ys c _ _ _ _ oc' o _ _ h'' _ hi hv hJ' C' hd' H'') (fun ok s₃ h₃ => ?_) fun _ _ x => x
    have hC : ∀ {J' : LG → Prop} {s}, CTurn h (h.objs.size + 2) (h.objs.size, o) (h.objs.size + 1, lstObj ys c) G D O (fun nwf => ∃ nw', nwf = (h.objs.size + 3, oc') :: nw' ∧ J' nw') s →
        CTurn h (h.objs.size + 2) (h.objs.size, o) (h.objs.size + 1, lstObj ys c) G D O (fun nwf => ∃ oc nw', nwf = (h.objs.size + 3, oc) :: nw' ∧ (∃ v, oc.data = .cell v) ∧ J' nw') s := by
      rintro J' s ⟨h₄, tk₄, ps₄, nw₄, rfl, H₄, nw₅, rfl, hJ₄⟩
      exact ⟨h₄, tk₄, ps₄, _, rfl, H₄, oc', nw₅, rfl, ⟨_, hd'⟩, hJ₄⟩
    cases ok with
    | true => exact wpAny_mono h₃ (fun y s₄ h₄ => hC h₄) fun _ _ x => x
    | false => exact hC h₃
  · rintro ps' ys c nwf h' tk' ⟨oc, nw', rfl, ⟨v₀, hd⟩, hJ'⟩ H'
    obtain ⟨oC, hns, H''⟩ := comp_back H H'
    refine done _ oC _ ys c nw' h' tk' hns hJ' (H''.sub ?_)
    exact .cons_cons _ (.cons_cons _ (List.sublist_cons_self _ _))
/-- what the frame gets -/
noncomputable def postVal (prog : Program) (w : World) (A : Around) (E : Value → Shared → Prop) (Q : Value → Shared → Prop) : Value → Addr → Result → Shared → Prop := fun acc Cc r s' => compPost (model prog w) A E none Q acc Cc r s'
theorem p_ListComp {s : Shared} {target : PySem.Expr} {Q : Value → Shared → Prop} (hclos : closureFor scope env = pure cl) (hkind : scope.kind = .function) (hnames : (scope.names.all fun y => y.2 != .local || scope.names.lookup y.1 == some .local) = true)
    (k : wpAny (model prog w) A (eval iter env) (CompGo prog w A E env (.ListComp elt [⟨target, iter, ifs, 0⟩] scope pos) scope cl (postVal prog w A E Q)) E s) (hs : ∀ x, foldedSetIterable iter env x = pure x) :
    wpAny (model prog w) A (eval (.ListComp elt [⟨target, iter, ifs, 0⟩] scope pos) env) Q E s := by
  rw [eval_ListComp]
  refine wpAny_comprehension_free (use := none) rfl hs hclos hkind (fun z hz hl => ?_) k
  have := List.all_eq_true.mp hnames z hz
  rw [hl] at this
  simpa using this
theorem post_val {Q : Value → Shared → Prop} {Cc L₂ : Addr} {oC : Obj} {ys : List Value} {c : Nat} {nw' : LG} {h' : Heap} {tk' : Nat} (hns : ∀ h : Heap, h.get? Cc = some oC → ∃ m, h.Ns Cc m) (H : Sx g env.locals ps ((Cc, oC) :: (L₂, lstObj ys c) :: (nw' ++ nw)) h')
    (k : ∀ h'', Sx g env.locals ps ((L₂, lstObj ys c) :: (nw' ++ nw)) h'' → Q (.ref L₂) ⟨h'', G, D, tk', O⟩) : postVal prog w A E Q (.ref L₂) Cc (.ok .next) ⟨h', G, D, tk', O⟩ := by
  obtain ⟨m, hm⟩ := hns h' (H.get (.head _))
  exact ⟨m, hm, fun h'' hs => k h'' (H.extBut fun b o hb e => (hs.2 b hb).trans e)⟩
noncomputable def postSet (prog : Program) (w : World) (A : Around) (E : Value → Shared → Prop) (y : PySem.Str) (py : Pos) (env : Env) (Q : Flow → Shared → Prop) : Value → Addr → Result → Shared → Prop := fun acc Cc r s' => compPost (model prog w) A E (some (assign (.Name y py) env)) (fun _ s => Q .next s) acc Cc r s'
theorem p_AssignListComp {s : Shared} {target : PySem.Expr} {Q : Flow → Shared → Prop} (hsw : swapsWith (.ListComp elt [⟨target, iter, ifs, 0⟩] scope pos) (some (.Name y py)) spos.line env = pure true) (hclos : closureFor scope env = pure cl) (hkind : scope.kind = .function) (hnames : (scope.names.all fun y => y.2 != .local || scope.names.lookup y.1 == some .local) = true)
    (k : wpAny (model prog w) A (eval iter env) (CompGo prog w A E env (.ListComp elt [⟨target, iter, ifs, 0⟩] scope pos) scope cl (postSet prog w A E y py env Q)) E s) (hs : ∀ x, foldedSetIterable iter env x = pure x) :
    wpAny (model prog w) A (exec (.Assign [.Name y py] (.ListComp elt [⟨target, iter, ifs, 0⟩] scope pos) spos) env) Q E s := by
  rw [exec_Assign_Name_used _ _ _ _ hsw]
  refine wpAny_bind (wpAny_standAt (wpAny_bind ?_))
  show wpAny _ A (do let _ ← comprehension (.ListComp elt [⟨target, iter, ifs, 0⟩] scope pos) scope env _ (newList []) false (eval iter env) (some (assign (.Name y py) env))) _ _ s
  refine wpAny_bind (wpAny_mono (wpAny_comprehension_free (use := some (assign (.Name y py) env)) (Q := fun _ s' => Q .next s') rfl hs hclos hkind (fun z hz hl => ?_) k) (fun _ s' hq => wpAny_pure (wpAny_pure hq)) fun _ _ e => e)
  have := List.all_eq_true.mp hnames z hz
  rw [hl] at this
  simpa using this
theorem post_set {Q : Flow → Shared → Prop} {Cc L₂ : Addr} {oC : Obj} {ys : List Value} {c : Nat} {nw' : LG} {h' : Heap} {tk' : Nat} (hns : ∀ h : Heap, h.get? Cc = some oC → ∃ m, h.Ns Cc m) (C : Cal w n A env g) (hy : env.kindOf y = some .local) (H : Sx g env.locals ps ((Cc, oC) :: (L₂, lstObj ys c) :: (nw' ++ nw)) h')
    (k : ∀ h'' tk, Sx g env.locals ((y, .ref L₂) :: ps) ((L₂, lstObj ys c) :: (nw' ++ nw)) h'' → Q .next ⟨h'', G, D, tk, O⟩) : postSet prog w A E y py env Q (.ref L₂) Cc (.ok .next) ⟨h', G, D, tk', O⟩ := by
  refine wpAny_assign_Name (p_st C H rfl hy fun h₁ H₁ => ?_)
  obtain ⟨m, hm⟩ := hns h₁ (H₁.get (.head _))
  exact ⟨m, hm, fun h'' hs => k h'' _ (H₁.extBut fun b o hb e => (hs.2 b hb).trans e)⟩
end
end Mine

/- more single steps -/
namespace Mine
section
variable {prog : Program} {w : World} {n : Nat} {A : Around} {E : Value → Shared → Prop} {env : Env} {g : Heap} {L : Addr} {ps : PS} {nw : LG} {h : Heap} {G : Array GenState} {D : Drawn} {tk : Nat} {O : OsState}
theorem p_cellr {v : Value} {cc : Addr} {o : Obj} {xn : PySem.Str} {pos : Pos} {M : Model} {Q : Value → Shared → Prop} (C : Cal w n A env g) (hx : env.kindOf xn = some .cell) (hc : env.cells.lookup xn = some cc) (ho : h.get? cc = some o) (hd : o.data = .cell (some v))
    (k : Q v ⟨h, G, D, tk, O⟩) (hd1 : (xn == ("__debug__" : PySem.Str)) = false) (hd2 : (xn == PySem.Str.ofString "__classdict__") = false) : wpAny M A (eval (.Name xn pos) env) Q E ⟨h, G, D, tk, O⟩ :=
  wpAny_Name (wpAny_loadName_cell (s := ⟨h, G, D, tk, O⟩) C.kind hx hc ⟨o, ho, hd⟩ k) hd1
/-- a text in a list of texts -/
theorem any_S (ls : List (List Nat)) (x : List Nat) : (ls.map S).any (· == S x) = ls.contains x := by
  induction ls with
  | nil => rfl
  | cons a r ih =>
    rw [List.map_cons, List.any_cons, ih, S_beq, List.contains_cons]
    congr 1
    exact BEq.comm
theorem c_in {l : Addr} {vs : List Value} {c t : Nat} {ls : List (List Nat)} {x : List Nat} {Q : Value → Shared → Prop} (hl : h.get? l = some (lstObj vs c)) (hi : Txs vs ls) (k : Q (.bool (ls.contains x)) ⟨h, G, D, tk, O⟩) :
    wpAny (model prog w) A (compareOp .In (.str (S x) t) (.ref l)) Q E ⟨h, G, D, tk, O⟩ :=
  in_list_strs (lst_is hl) hi (by rw [any_S]; exact k)
end
end Mine
/- lists of numbers; lists of such lists -/
namespace Mine
noncomputable def Nums (vs : List Value) (ns : List Nat) : Prop := IntsAre vs (ns.map fun n => ((n : Nat) : Int))
theorem Nums.nil : Nums [] [] := IntsAre.nil
theorem Nums.snoc {vs : List Value} {ns : List Nat} (x : Nums vs ns) (n t : Nat) : Nums (vs ++ [.int ((n : Nat) : Int) t]) (ns ++ [n]) := by
  unfold Nums at *
  rw [List.map_append]
  generalize ns.map (fun n => ((n : Nat) : Int)) = ys at x
  induction x with
  | nil => exact .cons _ _ .nil
  | cons y u _ ih => exact .cons y u ih
theorem Nums.len {vs : List Value} {ns : List Nat} (x : Nums vs ns) : vs.length = ns.length := by
  have := IntsAre.length x
  simpa using this
theorem Nums.at {vs : List Value} {ns : List Nat} (x : Nums vs ns) {j n : Nat} (e : ns[j]? = some n) : ∃ t, vs[j]? = some (.int ((n : Nat) : Int) t) := by
  unfold Nums at x
  generalize hm : ns.map (fun n => ((n : Nat) : Int)) = ms at x
  induction x generalizing j ns with
  | nil =>
    have := List.map_eq_nil_iff.mp hm
    subst this; simp at e
  | cons y u _ ih =>
    cases ns with
    | nil => cases hm
    | cons a r =>
      rw [List.map_cons] at hm
      injection hm with h1 h2
      cases j with
      | zero =>
        simp at e; subst e; subst h1
        exact ⟨u, rfl⟩
      | succ j => simpa using ih (by simpa using e) h2
inductive LsP (P : Addr → Obj → Prop) : List Value → List (List Nat) → Prop
  | nil : LsP P [] []
  | cons {a : Addr} {vs : List Value} {c : Nat} {ns : List Nat} {r : List Value} {rs : List (List Nat)} : P a (lstObj vs c) → Nums vs ns → LsP P r rs → LsP P (.ref a :: r) (ns :: rs)
theorem LsP.mono {P P' : Addr → Obj → Prop} (hp : ∀ a o, SeqO o → P a o → P' a o) {vs : List Value} {ls : List (List Nat)} (x : LsP P vs ls) : LsP P' vs ls := by
  induction x with
  | nil => exact .nil
  | cons a b _ ih => exact .cons (hp _ _ ⟨_, _, rfl⟩ a) b ih
theorem LsP.snoc {P : Addr → Obj → Prop} {vs : List Value} {ls : List (List Nat)} (x : LsP P vs ls) {a : Addr} {us : List Value} {c : Nat} {ns : List Nat} (h1 : P a (lstObj us c)) (h2 : Nums us ns) : LsP P (vs ++ [.ref a]) (ls ++ [ns]) := by
  induction x with
  | nil => exact .cons h1 h2 .nil
  | cons a b _ ih => exact .cons a b ih
theorem LsP.len {P : Addr → Obj → Prop} {vs : List Value} {ls : List (List Nat)} (x : LsP P vs ls) : vs.length = ls.length := by
  induction x with
  | nil => rfl
  | cons _ _ _ ih => simp [ih]
theorem LsP.at {P : Addr → Obj → Prop} {vs : List Value} {ls : List (List Nat)} (x : LsP P vs ls) : ∀ {i : Nat} {ns : List Nat}, ls[i]? = some ns → ∃ a us c, vs[i]? = some (.ref a) ∧ P a (lstObj us c) ∧ Nums us ns := by
  induction x with
  | nil => intro i ns e; simp at e
  | cons a b _ ih =>
    intro i ns e
    cases i with
    | zero => simp at e; subst e; exact ⟨_, _, _, rfl, a, b⟩
    | succ i => simpa using ih (by simpa using e)
/-- the places of a text -/
noncomputable def plc (ws : List Wk) (x : List Nat) : List Nat := (List.range 4).filter fun p => (wk ws p).forms.contains x
theorem WsP.work {P : Addr → Obj → Prop} {ts : List Value} {ws : List Wk} (x : WsP P ts ws) {i : Nat} (hi : i < ws.length) :
    ∃ t t1 t2 fa vs c, ts[((i : Nat) : Int).toNat]? = some (.ref t) ∧ P t (tupObj [.int ((wk ws i).come : Nat) t1, .int ((wk ws i).kind : Nat) t2, .ref fa]) ∧ P fa (lstObj vs c) ∧ Txs vs (wk ws i).forms := by
  have e : ws[i]? = some ws[i] := List.getElem?_eq_getElem hi
  obtain ⟨v, hv, hw⟩ := x.get e
  have ew := wk_at e
  rw [← ew] at hw
  cases hw with
  | mk a b d => exact ⟨_, _, _, _, _, _, hv, a, b, d⟩
end Mine
namespace Mine
theorem filter_range_succ (p : Nat → Bool) (j : Nat) : (List.range (j + 1)).filter p = (List.range j).filter p ++ (if p j = true then [j] else []) := by
  rw [List.range_succ, List.filter_append, List.filter_cons]
  split <;> rfl
end Mine

/- enumerate, slices of lists, index, remove, sum, max, min, lists compared -/
namespace Mine
theorem Sx.add {g h : Heap} {L : Addr} {ps : PS} {nw : LG} (H : Sx g L ps nw h) {a : Addr} {o : Obj} (ho : h.get? a = some o) (h1 : ∀ p ∈ nw, p.1 < a) (h2 : L < a) : Sx g L ps ((a, o) :: nw) h := by
  obtain ⟨m, F, l⟩ := H.fr
  refine ⟨⟨m, F, l⟩, fun p hp => ?_, ?_⟩
  · rcases List.mem_cons.mp hp with rfl | hp
    · exact ⟨ho, Nat.ne_of_gt h2, Heap.get?_none_of_le (Nat.le_trans F.above (Nat.le_of_lt h2))⟩
    · exact H.led p hp
  · rw [List.map_cons, List.nodup_cons]
    refine ⟨fun hm => ?_, H.nd⟩
    obtain ⟨p, hp, e⟩ := List.mem_map.mp hm
    have := h1 p hp
    rw [e] at this; exact Nat.lt_irrefl _ this
noncomputable def enumObj (it : Addr) (i : Int) (old : Value) : Obj := { cls := .type "enumerate", dict := none, data := .fields #[.none, .bool false, .ref it, rawInt i, .none, old], slots := #[] }
/-- what a turn over two iterators' objects must show -/
noncomputable def TurnK2 (g : Heap) (L : Addr) (e it : Addr × Obj) (J : List (PySem.Str × Value) → List (Addr × Obj) → Prop) (G : Array GenState) (D : Drawn) (O : OsState) (Q : Flow → Shared → Prop) (f : Flow) (s₃ : Shared) : Prop := match f with
  | .next => ∃ h₃ tk₃ ps₃ nw₃, s₃ = ⟨h₃, G, D, tk₃, O⟩ ∧ Sx g L ps₃ (e :: it :: nw₃) h₃ ∧ J ps₃ nw₃
  | .cont => ∃ h₃ tk₃ ps₃ nw₃, s₃ = ⟨h₃, G, D, tk₃, O⟩ ∧ Sx g L ps₃ (e :: it :: nw₃) h₃ ∧ J ps₃ nw₃
  | .brk => Q .next s₃
  | .ret v => Q (.ret v) s₃
section
variable {prog : Program} {w : World} {n : Nat} {A : Around} {E : Value → Shared → Prop} {env : Env} {g : Heap} {L : Addr} {ps : PS} {nw : LG} {h : Heap} {G : Array GenState} {D : Drawn} {tk : Nat} {O : OsState}
theorem c_enum {l : Addr} {vs : List Value} {c : Nat} {Q : Value → Shared → Prop} (H : Sx g L ps nw h) (hl : h.get? l = some (lstObj vs c))
    (k : ∀ h' e it o, lstStO l 0 o → Sx g L ps ((e, enumObj it 0 .none) :: (it, o) :: nw) h' → Q (.ref e) ⟨h', G, D, tk, O⟩) : wpAny (model prog w) A (call (.type "enumerate") [.ref l]) Q E ⟨h, G, D, tk, O⟩ := by
  refine call_enumerate_list (s := ⟨h, G, D, tk, O⟩) (lst_is hl) fun h' he hit hz hk => ?_
  obtain ⟨o, ho, hc, hd⟩ := hit
  have H₁ := (H.ext hk).add ho H.lts H.lt
  exact k h' _ _ o ⟨hc, hd⟩ (H₁.add he (fun p hp => by
    rcases List.mem_cons.mp hp with rfl | hp
    · exact Nat.lt_succ_self _
    · exact Nat.lt_succ_of_lt (H.lts p hp)) (Nat.lt_succ_of_lt H.lt))
/-- for x, y in enumerate(a list that stands still) -/
theorem p_for_enum {x y : PySem.Str} {px py pos : Pos} {m : Nat} {body : List Stmt} {Q : Flow → Shared → Prop} {l e it : Addr} {o₁ : Obj} {items : List Value} (J : Nat → PS → LG → Prop)
    (C : Cal w n A env g) (hL : env.locals = L) (H : Sx g L ps ((e, enumObj it 0 .none) :: (it, o₁) :: nw) h) (hst : lstStO l 0 o₁) (hx : env.kindOf x = some .local) (hy : env.kindOf y = some .local) (hJ : J 0 ps nw)
    (hl : ∀ i ps' nw' (h' : Heap), J i ps' nw' → (∀ p ∈ nw', h'.get? p.1 = some p.2) → (∀ b o, g.get? b = some o → h'.get? b = some o) → h'.IsList l items.toArray)
    (turn : ∀ i v t ps' nw' h' tk' io₁ io₂, items[i]? = some v → J i ps' nw' → Sx g L ((y, v) :: (x, .int ((i : Nat) : Int) t) :: ps') (io₁ :: io₂ :: nw') h' →
      wpAny (model prog w) A (execs body env) (TurnK2 g L io₁ io₂ (J (i + 1)) G D O Q) NoE ⟨h', G, D, tk', O⟩)
    (done : ∀ ps' nw' h' tk', J items.length ps' nw' → Sx g L ps' nw' h' → Q .next ⟨h', G, D, tk', O⟩) :
    wpAny (model prog w) A (pyIter (.ref e)) (fun it s₂ => codeAny (model prog w) A (.forLoop (.Tuple [.Name x px, .Name y py] m pos) it body [] env) (fun r s' => match r with | .ok f => Q f s' | .error e => cameBackBy (model prog w) A env E e s') s₂) E ⟨h, G, D, tk, O⟩ := by
  refine wpAny_pyIter_enum (s := ⟨h, G, D, tk, O⟩) (H.get (.head _)) ?_
  let Inv : Nat → Shared → Prop := fun k s' => ∃ i h' tk' old o ps' nw', s' = (⟨h', G, D, tk', O⟩ : Shared) ∧ k = items.length - i ∧ i ≤ items.length ∧ Sx g L ps' ((e, enumObj it ((i : Nat) : Int) old) :: (it, o) :: nw') h' ∧ lstStO l i o ∧ J i ps' nw'
  refine p_forG Inv items.length ⟨0, h, tk, .none, o₁, ps, nw, rfl, rfl, Nat.zero_le _, H, hst, hJ⟩ ?_
  rintro k s' ⟨i, h', tk', old, o, ps', nw', rfl, rfl, hi, H', hst', hJ'⟩
  have hei : e ≠ it := by
    have := H'.nd
    rw [List.map_cons, List.nodup_cons, List.map_cons] at this
    exact fun q => this.1 (q ▸ List.Mem.head _)
  have hlist := hl i ps' nw' h' hJ' (fun p hp => H'.get (.tail _ (.tail _ hp))) fun b ob q => H'.old q
  have hit : h'.IsListIter it l i := ⟨o, H'.get (.tail _ (.head _)), hst'.1, hst'.2⟩
  by_cases hlt : i < items.length
  · have hv : items[i]? = some items[i] := List.getElem?_eq_getElem hlt
    refine wpAny_pyNext_enum_item (s := ⟨h', G, D, tk', O⟩) (H'.get (.head _)) hit hlist (x := items[i]) (by simp [hlt]) hei fun h₁ heo hit₁ ht₁ hz₁ hk₁ => ?_
    refine wpAny_letOwnedTupleGo_enum (s := ⟨h₁, G, D, _, O⟩) heo fun h₂ he₂ hs₂ => ?_
    obtain ⟨o₂, ho₂, hc₂, hd₂⟩ := hit₁
    have heL := (H'.led _ (.head _)).2.1
    have hiL := (H'.led _ (.tail _ (.head _))).2.1
    have ht₂ : h₂.get? h'.objs.size = some { cls := .type "tuple", data := .seq #[.int i tk', items[i]] } := (hs₂.2 _ (Nat.ne_of_gt (Heap.lt_size (H'.get (.head _))))).trans ht₁
    -- the two objects leave the ledger and come back
    have H₂ : Sx g L ps' ((e, enumObj it (((i + 1 : Nat)) : Int) items[i]) :: (it, o₂) :: nw') h₂ := by
      obtain ⟨mm, F, lm⟩ := H'.fr
      obtain ⟨oL, es, ep, hL', r⟩ := F.ns
      have up : ∀ b ob, b ≠ e → b ≠ it → h'.get? b = some ob → h₂.get? b = some ob := fun b ob h1 h2 q => (hs₂.2 b h1).trans (hk₁ b ob h1 h2 q)
      have he' : h₂.get? e = some (enumObj it (((i + 1 : Nat)) : Int) items[i]) := he₂
      have hnd := H'.nd
      refine ⟨⟨mm, ⟨⟨oL, es, ep, up _ _ (Ne.symm heL) (Ne.symm hiL) hL', r⟩, fun b ob q => up b ob (fun z => ?_) (fun z => ?_) (F.keep b ob q), F.above⟩, lm⟩, fun p hp => ?_, hnd⟩
      · have := (H'.led _ (.head _)).2.2
        rw [← z, q] at this; cases this
      · have := (H'.led _ (.tail _ (.head _))).2.2
        rw [← z, q] at this; cases this
      · rcases List.mem_cons.mp hp with rfl | hp
        · exact ⟨he', (H'.led _ (.head _)).2⟩
        · rcases List.mem_cons.mp hp with rfl | hp
          · exact ⟨(hs₂.2 it (Ne.symm hei)).trans ho₂, (H'.led _ (.tail _ (.head _))).2⟩
          · have q := H'.led p (.tail _ (.tail _ hp))
            rw [List.map_cons, List.nodup_cons, List.map_cons, List.nodup_cons] at hnd
            refine ⟨up _ _ (fun z => hnd.1 (.tail _ (List.mem_map.mpr ⟨p, hp, z⟩))) (fun z => hnd.2.1 (List.mem_map.mpr ⟨p, hp, z⟩)) q.1, q.2⟩
    refine wpAny_assign_Tuple (s := ⟨h₂, G, D, _, O⟩) (items := [.int i tk', items[i]].toArray) C.handled ⟨_, ht₂, rfl, _, rfl⟩ rfl rfl fun h₃ hk => ?_
    have H₃ := H₂.ext fun b ob q => hk b ob (Nat.ne_of_lt (Heap.lt_size q)) q
    refine wpAny_assignInOrder_more (wpAny_assign_Name (p_st C H₃ hL hx fun h₄ H₄ => ?_))
    refine wpAny_assignInOrder_more (wpAny_assign_Name (p_st C H₄ hL hy fun h₅ H₅ => ?_))
    refine wpAny_pure (wpAny_mono (turn i _ _ ps' nw' h₅ _ _ _ hv hJ' H₅) (fun f s₃ h₃ => ?_) fun _ _ x => x)
    cases f with
    | brk => exact h₃
    | ret v => exact h₃
    | next =>
      obtain ⟨h₆, tk₆, ps₆, nw₆, rfl, H₆, hJ₆⟩ := h₃
      exact ⟨items.length - (i + 1), by omega, i + 1, h₆, tk₆, _, o₂, ps₆, nw₆, rfl, rfl, hlt, H₆, ⟨hc₂, hd₂⟩, hJ₆⟩
    | cont =>
      obtain ⟨h₆, tk₆, ps₆, nw₆, rfl, H₆, hJ₆⟩ := h₃
      exact ⟨items.length - (i + 1), by omega, i + 1, h₆, tk₆, _, o₂, ps₆, nw₆, rfl, rfl, hlt, H₆, ⟨hc₂, hd₂⟩, hJ₆⟩
  · have : i = items.length := by omega
    subst this
    refine wpAny_pyNext_enum_end (s := ⟨h', G, D, tk', O⟩) C.handled (H'.get (.head _)) hit hlist (by simp) fun h₁ he₁ => ?_
    exact done ps' nw' h₁ _ hJ' ((H'.sub (List.sublist_cons_self _ _)).extBut fun b ob hb q => he₁ b ob hb q)
end
end Mine

/- single steps on lists of the ledger -/
namespace Mine
section
variable {prog : Program} {w : World} {n : Nat} {A : Around} {E : Value → Shared → Prop} {env : Env} {g : Heap} {L : Addr} {ps : PS} {nw : LG} {h : Heap} {G : Array GenState} {D : Drawn} {tk : Nat} {O : OsState} {l : Addr} {vs : List Value} {c t : Nat} {f : Obj → LG}
theorem c_lslice {value slice : PySem.Expr} {vl vu : Value} {lo hi : Option Int} {Q : Value → Shared → Prop} (H : Sx g L ps nw h) (hl : h.get? l = some (lstObj vs c)) (pl : IsPart vl lo) (pu : IsPart vu hi) (hn : vs.length ≤ 1000000)
    (k : ∀ D' h', Sx g L ps ((D', lstObj (kms_pick vs lo hi) 0) :: nw) h' → Q (.ref D') ⟨h', G, D, tk, O⟩)
    (hs : subscripted slice false (.ref l) (.ref h.objs.size) = operate [.ref h.objs.size, .ref l] (getItem (.ref l) (.ref h.objs.size))) (ht : ∀ r, letTemporaryGo value (.ref l) r = pure ()) :
    wpAny (model prog w) A (subscriptTail value slice (.ref l) (.ref h.objs.size)) Q E ⟨h.push { cls := .type "slice", data := .fields #[vl, vu, .none] }, G, D, tk, O⟩ := by
  obtain ⟨m, F, lm⟩ := H.fr
  refine kms_slice_lit (s := ⟨h, G, D, tk, O⟩) F H.led (lst_is hl) pl pu rfl (fun D' h' F' N' l1 => k D' h' ⟨⟨m, F', lm⟩, N', ?_⟩) hs ht (by simpa using lst_len hn)
  rw [List.map_cons, List.nodup_cons]
  refine ⟨fun hm => ?_, H.nd⟩
  obtain ⟨p, hp, e⟩ := List.mem_map.mp hm
  exact Nat.lt_irrefl _ (e ▸ l1 p hp)
/-- the same upon any expression -/
theorem c_lsliceA {value slice : PySem.Expr} {vl vu : Value} {lo hi : Option Int} {Q : Value → Shared → Prop} (H : Sx g L ps nw h) (hl : h.get? l = some (lstObj vs c)) (pl : IsPart vl lo) (pu : IsPart vu hi) (hn : vs.length ≤ 1000000)
    (k : ∀ D' h', Sx g L ps ((D', lstObj (kms_pick vs lo hi) 0) :: nw) h' → Q (.ref D') ⟨h', G, D, tk, O⟩)
    (hs : subscripted slice false (.ref l) (.ref h.objs.size) = operate [.ref h.objs.size, .ref l] (getItem (.ref l) (.ref h.objs.size))) :
    wpAny (model prog w) A (subscriptTail value slice (.ref l) (.ref h.objs.size)) Q E ⟨h.push { cls := .type "slice", data := .fields #[vl, vu, .none] }, G, D, tk, O⟩ :=
  kba_turn (value' := .Name PySem.Str.empty ⟨0, 0, 0, 0⟩) (fun _ => rfl) (c_lslice H hl pl pu hn k hs fun _ => rfl)
theorem pick_from {k : Nat} (h : k ≤ vs.length) : kms_pick vs (some (k : Int)) none = vs.drop k := by
  have h0 : ¬ ((k : Int) < 0) := by omega
  unfold kms_pick kms_lo kms_hi
  simp only [if_neg h0]
  rw [List.take_of_length_le (by rw [List.length_drop]; omega)]
  congr 1
  omega
theorem pick_upto {k : Nat} : kms_pick vs none (some (k : Int)) = vs.take k := by
  have h0 : ¬ ((k : Int) < 0) := by omega
  unfold kms_pick kms_lo kms_hi
  simp only [if_neg h0, List.drop_zero, Nat.sub_zero]
  rw [show ((k : Int)).toNat = k from rfl]
  rcases Nat.le_total k vs.length with h1 | h1
  · rw [Nat.min_eq_left h1]
  · rw [Nat.min_eq_right h1, List.take_of_length_le (Nat.le_refl _), List.take_of_length_le h1]
theorem Txs.drop {ls : List (List Nat)} (x : Txs vs ls) (k : Nat) : Txs (vs.drop k) (ls.drop k) := by
  unfold Txs at *
  rw [List.map_drop]
  generalize ls.map S = ys at x
  induction x generalizing k with
  | nil => simp; exact .nil
  | cons y u x ih =>
    cases k with
    | zero => exact .cons _ _ x
    | succ k => exact ih k
theorem Txs.take {ls : List (List Nat)} (x : Txs vs ls) (k : Nat) : Txs (vs.take k) (ls.take k) := by
  unfold Txs at *
  rw [List.map_take]
  generalize ls.map S = ys at x
  induction x generalizing k with
  | nil => simp; exact .nil
  | cons y u x ih =>
    cases k with
    | zero => exact .nil
    | succ k => exact .cons _ _ (ih k)
theorem Txs.append {ls : List (List Nat)} {us : List Value} {ms : List (List Nat)} (x : Txs vs ls) (y : Txs us ms) : Txs (vs ++ us) (ls ++ ms) := by
  unfold Txs at *
  rw [List.map_append]
  exact strsAre_append x y
theorem Txs.item {ls : List (List Nat)} (x : Txs vs ls) {j : Nat} (hj : j < vs.length) : isStrOf (S (ls.getD j [])) vs[j] = true := by
  have hj' : j < ls.length := by rw [← x.len]; exact hj
  obtain ⟨u, hu⟩ := x.at (List.getElem?_eq_getElem hj')
  rw [List.getElem?_eq_getElem hj] at hu
  rw [Option.some.inj hu, List.getD_eq_getElem?_getD, List.getElem?_eq_getElem hj']
  simp [isStrOf]
theorem Txs.other {ls : List (List Nat)} (x : Txs vs ls) {j : Nat} (hj : j < vs.length) {y : List Nat} (hne : ls[j]? ≠ some y) : isStrOf (S y) vs[j] = false := by
  have hj' : j < ls.length := by rw [← x.len]; exact hj
  obtain ⟨u, hu⟩ := x.at (List.getElem?_eq_getElem hj')
  rw [List.getElem?_eq_getElem hj] at hu
  rw [Option.some.inj hu]
  show (S ls[j] == S y) = false
  rw [S_beq]
  rw [List.getElem?_eq_getElem hj'] at hne
  simpa using hne
/-- where a text stands in a list -/
theorem c_index {ls : List (List Nat)} {x : List Nat} {j : Nat} {Q : Value → Shared → Prop} (hl : h.get? l = some (lstObj vs c)) (hi : Txs vs ls) (hj : ls[j]? = some x) (hno : ∀ m, m < j → ls[m]? ≠ some x) (hn : vs.length ≤ 1000000)
    (k : Q (.int ((j : Nat) : Int) tk) ⟨h, G, D, tk + 1, O⟩) : wpAny (model prog w) A (call (.builtin "list.index") [.ref l, .str (S x) t]) Q E ⟨h, G, D, tk, O⟩ := by
  have hjl : j < ls.length := (List.getElem?_eq_some_iff.mp hj).1
  have hjv : j < vs.length := by rw [hi.len]; exact hjl
  have hit := hi.item hjv
  have e : ls.getD j [] = x := by rw [List.getD_eq_getElem?_getD, hj]; rfl
  rw [e] at hit
  exact call_meets PySem.F.slot_list_index ⟨_, hl, rfl⟩ PySem.F.entry_list_index (PySem.F.args_list_index_2 _ _)
    (PySem.MeetsSeq.list_index l vs.toArray c (.str (S x) t) (isStrOf (S x)) (fun y hy => eq_isStrOf (S x) t hi y (by simpa using hy)) j (by simpa using hjv) (by omega) (by simpa using hit) (fun m hm hlt => by
      have hm' : m < vs.length := by simpa using hm
      simpa using hi.other hm' (hno m hlt))) ⟨hl, k⟩
theorem Nums.cell {ns : List Nat} (x : Nums vs ns) {j : Nat} (hj : j < vs.length) (y : Nat) : isInt (y : Int) vs[j] = (ns[j]? == some y) := by
  have hj' : j < ns.length := by rw [← x.len]; exact hj
  obtain ⟨u, hu⟩ := x.at (List.getElem?_eq_getElem hj')
  rw [List.getElem?_eq_getElem hj] at hu
  rw [Option.some.inj hu, List.getElem?_eq_getElem hj']
  show (((ns[j] : Nat) : Int) == (y : Int)) = _
  rw [Bool.eq_iff_iff, beq_iff_eq, beq_iff_eq]
  exact ⟨fun q => by rw [Int.ofNat_inj.mp q], fun q => by rw [Option.some.inj q]⟩
theorem c_indexi {ns : List Nat} {x j : Nat} {Q : Value → Shared → Prop} (hl : h.get? l = some (lstObj vs c)) (hi : Nums vs ns) (hj : ns[j]? = some x) (hno : ∀ m, m < j → ns[m]? ≠ some x) (hn : vs.length ≤ 1000000)
    (k : Q (.int ((j : Nat) : Int) tk) ⟨h, G, D, tk + 1, O⟩) : wpAny (model prog w) A (call (.builtin "list.index") [.ref l, .int ((x : Nat) : Int) t]) Q E ⟨h, G, D, tk, O⟩ := by
  have hjl : j < ns.length := (List.getElem?_eq_some_iff.mp hj).1
  have hjv : j < vs.length := by rw [hi.len]; exact hjl
  exact call_meets PySem.F.slot_list_index ⟨_, hl, rfl⟩ PySem.F.entry_list_index (PySem.F.args_list_index_2 _ _)
    (PySem.MeetsSeq.list_index l vs.toArray c (.int ((x : Nat) : Int) t) (isInt ((x : Nat) : Int)) (fun y hy => eq_isInt _ t hi y (by simpa using hy)) j (by simpa using hjv) (by omega) (by
      have := hi.cell hjv x
      rw [hj] at this
      simpa using this) (fun m hm hlt => by
      have hm' : m < vs.length := by simpa using hm
      have := hi.cell hm' x
      rw [beq_false_of_ne (hno m hlt)] at this
      simpa using this)) ⟨hl, k⟩
theorem c_remove {ns : List Nat} {x j : Nat} {Q : Value → Shared → Prop} (H : Sx g L ps nw h) (U : Up l (lstObj vs c) nw f) (hi : Nums vs ns) (hj : ns[j]? = some x) (hno : ∀ m, m < j → ns[m]? ≠ some x) (hn : vs.length ≤ 1000000)
    (k : ∀ h' c', Sx g L ps (f (lstObj (vs.eraseIdx j) c')) h' → Q .none ⟨h', G, D, tk, O⟩) : wpAny (model prog w) A (call (.builtin "list.remove") [.ref l, .int ((x : Nat) : Int) t]) Q E ⟨h, G, D, tk, O⟩ := by
  have hl := H.get U.mem
  have hjl : j < ns.length := (List.getElem?_eq_some_iff.mp hj).1
  have hjv : j < vs.length := by rw [hi.len]; exact hjl
  obtain ⟨c', e⟩ := lst_mod (vs' := vs.eraseIdx j) hl (·.eraseIdxIfInBounds j) (by apply Array.toList_inj.mp; simp)
  exact call_meets PySem.F.slot_list_remove ⟨_, hl, rfl⟩ PySem.F.entry_list_remove (PySem.F.args_list_remove_2 _ _)
    (PySem.MeetsSeq.list_remove l vs.toArray c (.int ((x : Nat) : Int) t) (isInt ((x : Nat) : Int)) (fun y hy => eq_isInt _ t hi y (by simpa using hy)) j (by simpa using hjv) (by
      have := hi.cell hjv x
      rw [hj] at this
      simpa using this) (fun m hm hlt => by
      have hm' : m < vs.length := by simpa using hm
      have := hi.cell hm' x
      rw [beq_false_of_ne (hno m hlt)] at this
      simpa using this) (by simpa using lst_len hn)) ⟨hl, k _ c' (H.up U (Heap.SameBut.update ..) e)⟩
theorem c_maxl {ns : List Int} {Q : Value → Shared → Prop} (C : Cal w n A env g) (H : Sx g L ps nw h) (hl : h.get? l = some (lstObj vs c)) (hi : IntsAre vs ns) (hne : 0 < ns.length)
    (k : ∀ h' M t tk, M ∈ ns → (∀ a, a ∈ ns → a ≤ M) → Sx g L ps nw h' → Q (.int M t) ⟨h', G, D, tk, O⟩) : wpAny (model prog w) A (call (.builtin "max") [.ref l]) Q E ⟨h, G, D, tk, O⟩ := by
  obtain ⟨m, F, lm⟩ := H.fr
  exact max_list_N (s := ⟨h, G, D, tk, O⟩) C.handled F H.led (lst_is hl) hi hne fun h' M t tk F' N' a b => k h' M t tk a b ⟨⟨m, F', lm⟩, N', H.nd⟩
theorem c_minl {ns : List Int} {Q : Value → Shared → Prop} (C : Cal w n A env g) (H : Sx g L ps nw h) (hl : h.get? l = some (lstObj vs c)) (hi : IntsAre vs ns) (hne : 0 < ns.length)
    (k : ∀ h' M t tk, M ∈ ns → (∀ a, a ∈ ns → M ≤ a) → Sx g L ps nw h' → Q (.int M t) ⟨h', G, D, tk, O⟩) : wpAny (model prog w) A (call (.builtin "min") [.ref l]) Q E ⟨h, G, D, tk, O⟩ := by
  obtain ⟨m, F, lm⟩ := H.fr
  exact min_list_N (s := ⟨h, G, D, tk, O⟩) C.handled F H.led (lst_is hl) hi hne fun h' M t tk F' N' a b => k h' M t tk a b ⟨⟨m, F', lm⟩, N', H.nd⟩
theorem c_sum {ns : List Int} {Q : Value → Shared → Prop} (C : Cal w n A env g) (H : Sx g L ps nw h) (hl : h.get? l = some (lstObj vs c)) (hi : IntsAre vs ns)
    (k : ∀ h' t tk, Sx g L ps nw h' → Q (.int ns.sum t) ⟨h', G, D, tk, O⟩) : wpAny (model prog w) A (call (.builtin "sum") [.ref l]) Q E ⟨h, G, D, tk, O⟩ := by
  obtain ⟨xs, e⟩ := hi.allInts.items
  have hns : ns = xs.toList.map (·.1) := by rw [← hi.numsOf, ← nums_intItems, ← e]
  have hlist := lst_is hl
  rw [e] at hlist
  refine sum_intListG (s := ⟨h, G, D, tk, O⟩) C.handled hlist fun h' tk t' hk => ?_
  have := k h' t' tk (H.ext hk)
  rw [preSum_eq, List.take_of_length_le (by simp), ← hns]
  exact this
theorem c_fdiv {a b : Int} {u : Nat} {Q : Value → Shared → Prop} (hb : b ≠ 0) (ha : -1000000000 ≤ a ∧ a ≤ 1000000000) (hb2 : -1000000000 ≤ b ∧ b ≤ 1000000000) (k : Q (.int (a.fdiv b) tk) ⟨h, G, D, tk + 1, O⟩) : wpAny (model prog w) A (binaryOp .FloorDiv (.int a t) (.int b u)) Q E ⟨h, G, D, tk, O⟩ :=
  floordiv_int (s := ⟨h, G, D, tk, O⟩) hb k
theorem txs_shaped {ls : List (List Nat)} (hs : ∀ l ∈ ls, l.all (· < 128) = true) : PySem.SeqAt.shaped (.list ((ls.map S).map PyData.str)) = true := by
  have a : PyData.canLayAll0 ((ls.map S).map PyData.str) = true := by
    induction ls with
    | nil => rfl
    | cons x r ih =>
      have h1 : PyData.strOk (S x) = true := by
        have := hs x (.head _)
        show (S x).cps.all (· < 0x110000) = true
        simp only [S, List.all_toArray, List.all_eq_true, decide_eq_true_eq] at this ⊢
        intro y hy
        have := this y hy
        omega
      simp [PyData.canLayAll0, PyData.canLay0, h1, ih fun l hl => hs l (.tail _ hl), -List.map_map]
  have b : ∀ ns : List PySem.Str, PyData.depthAll (ns.map PyData.str) = 0 := by
    intro ns
    induction ns with
    | nil => rfl
    | cons _ r ih => simp [PyData.depthAll, PyData.depth, ih]
  simp [PySem.SeqAt.shaped, PyData.canLay0, PyData.depth, a, b, -List.map_map]
theorem txs_same : ∀ ns ms : List PySem.Str, PySem.Spec.sameAll (ns.map PyData.str) (ms.map PyData.str) = decide (ns = ms)
  | [], [] => by simp [PySem.Spec.sameAll]
  | [], _ :: _ => by simp [PySem.Spec.sameAll]
  | _ :: _, [] => by simp [PySem.Spec.sameAll]
  | a :: r, b :: t => by
    simp only [List.map_cons, PySem.Spec.sameAll, PySem.Spec.same, txs_same r t]
    by_cases h : a = b <;> by_cases h' : r = t <;> simp [h, h']
theorem txs_carried : ∀ {vs : List Value} {ns : List PySem.Str}, StrsAre vs ns → CarriedAll vs (ns.map PyData.str)
  | _, _, .nil => .nil
  | _, _, .cons _ t r => .cons (.str _ t) (txs_carried r)
theorem map_S_inj : ∀ {a b : List (List Nat)}, a.map S = b.map S → a = b
  | [], [], _ => rfl
  | [], _ :: _, h => by simp at h
  | _ :: _, [], h => by simp at h
  | x :: r, y :: t, h => by
    rw [List.map_cons, List.map_cons] at h
    injection h with h1 h2
    rw [S_inj.mp h1, map_S_inj h2]
theorem c_netx {b : Addr} {us : List Value} {c' : Nat} {ls ms : List (List Nat)} {Q : Value → Shared → Prop} (C : Cal w n A env g) (hl : h.get? l = some (lstObj vs c)) (hb : h.get? b = some (lstObj us c')) (hi : Txs vs ls) (hj : Txs us ms) (h1 : ∀ l ∈ ls, l.all (· < 128) = true) (h2 : ∀ l ∈ ms, l.all (· < 128) = true)
    (k : Q (.bool (!decide (ls = ms))) ⟨h, G, D, tk, O⟩) : wpAny (model prog w) A (compareOp .NotEq (.ref l) (.ref b)) Q E ⟨h, G, D, tk, O⟩ := by
  have e : decide (ls.map S = ms.map S) = decide (ls = ms) := by
    by_cases q : ls = ms
    · rw [q]; simp
    · rw [decide_eq_false q, decide_eq_false fun z => q (map_S_inj z)]
  refine ne_dataH_same (s := ⟨h, G, D, tk, O⟩) (reads_newData (lst_is hl) (txs_carried hi)) (reads_newData (lst_is hb) (txs_carried hj)) (txs_shaped h1) (txs_shaped h2) (by have := C.units; rw [show cLine = 9900 from rfl]; omega)
    (PySem.SeqAt.noMix_of_shape (.list .str) rfl _ _ (list_map_has fun _ => rfl) (list_map_has fun _ => rfl)) ?_
  rw [show PySem.Spec.same (.list ((ls.map S).map PyData.str)) (.list ((ms.map S).map PyData.str)) = decide (ls = ms) by
    simp only [PySem.Spec.same]; rw [txs_same, e]]
  exact k
theorem nums_inj {a b : List Nat} : (a.map fun n => ((n : Nat) : Int)) = (b.map fun n => ((n : Nat) : Int)) ↔ a = b := by
  constructor
  · intro h
    have := congrArg (List.map Int.toNat) h
    simpa [Function.comp_def] using this
  · intro h; rw [h]
theorem c_eqn {b : Addr} {us : List Value} {c' : Nat} {ls ms : List Nat} {Q : Value → Shared → Prop} (C : Cal w n A env g) (hl : h.get? l = some (lstObj vs c)) (hb : h.get? b = some (lstObj us c')) (hi : Nums vs ls) (hj : Nums us ms)
    (k : Q (.bool (decide (ls = ms))) ⟨h, G, D, tk, O⟩) : wpAny (model prog w) A (compareOp .Eq (.ref l) (.ref b)) Q E ⟨h, G, D, tk, O⟩ := by
  refine ke_eq_ints (s := ⟨h, G, D, tk, O⟩) (lst_is hl) (lst_is hb) hi hj (by have := C.units; rw [show cLine = 9900 from rfl]; omega) ?_
  rw [show decide ((ls.map fun n => ((n : Nat) : Int)) = ms.map fun n => ((n : Nat) : Int)) = decide (ls = ms) from decide_eq_decide.mpr nums_inj]
  exact k
theorem c_nen {b : Addr} {us : List Value} {c' : Nat} {ls ms : List Nat} {Q : Value → Shared → Prop} (C : Cal w n A env g) (hl : h.get? l = some (lstObj vs c)) (hb : h.get? b = some (lstObj us c')) (hi : Nums vs ls) (hj : Nums us ms)
    (k : Q (.bool (!decide (ls = ms))) ⟨h, G, D, tk, O⟩) : wpAny (model prog w) A (compareOp .NotEq (.ref l) (.ref b)) Q E ⟨h, G, D, tk, O⟩ := by
  refine ke_ne_ints (s := ⟨h, G, D, tk, O⟩) (lst_is hl) (lst_is hb) hi hj (by have := C.units; rw [show cLine = 9900 from rfl]; omega) ?_
  rw [show decide ((ls.map fun n => ((n : Nat) : Int)) = ms.map fun n => ((n : Nat) : Int)) = decide (ls = ms) from decide_eq_decide.mpr nums_inj]
  exact k
end
end Mine

/- for come, kind, forms in works, forms a cell -/
namespace Mine
section
variable {prog : Program} {w : World} {n : Nat} {A : Around} {E : Value → Shared → Prop} {env : Env} {g : Heap} {L : Addr} {ps : PS} {nw : LG} {h : Heap} {G : Array GenState} {D : Drawn} {tk₀ : Nat} {O : OsState}
theorem p_for_worksC {x y z : PySem.Str} {px py pz pos : Pos} {m : Nat} {body : List Stmt} {Q : Flow → Shared → Prop} {l cc : Addr} {oc₀ : Obj} {v₀ : Option Value} {ws : List Wk} (J : Nat → PS → LG → Prop)
    (C : Cal w n A env g) (hL : env.locals = L) (H : Sx g L ps ((cc, oc₀) :: nw) h) (hd₀ : oc₀.data = .cell v₀) (hx : env.kindOf x = some .local) (hy : env.kindOf y = some .local) (hz : env.kindOf z = some .cell) (hcc : env.cells.lookup z = some cc) (hw : WorksP (At g) l ws) (hJ : J 0 ps nw)
    (turn : ∀ i (wk : Wk) t1 t2 fa vs c ps' nw' h' tk' io oc, ws[i]? = some wk → g.get? fa = some (lstObj vs c) → StrsAre vs (wk.forms.map S) → J i ps' nw' → oc.data = .cell (some (.ref fa)) → Sx g L ((y, .int (wk.kind : Nat) t2) :: (x, .int (wk.come : Nat) t1) :: ps') (io :: (cc, oc) :: nw') h' →
      wpAny (model prog w) A (execs body env) (TurnK2 g L io (cc, oc) (J (i + 1)) G D O Q) NoE ⟨h', G, D, tk', O⟩)
    (done : ∀ ps' nw' oc v h' tk', oc.data = .cell v → J ws.length ps' nw' → Sx g L ps' ((cc, oc) :: nw') h' → Q .next ⟨h', G, D, tk', O⟩) :
    wpAny (model prog w) A (pyIter (.ref l)) (fun it s₂ => codeAny (model prog w) A (.forLoop (.Tuple [.Name x px, .Name y py, .Name z pz] m pos) it body [] env) (fun r s' => match r with | .ok f => Q f s' | .error e => cameBackBy (model prog w) A env E e s') s₂) E ⟨h, G, D, tk₀, O⟩ := by
  obtain ⟨ts, c, hl, hws⟩ := hw
  refine wpAny_pyIter_list (s := ⟨h, G, D, tk₀, O⟩) (lst_is (H.old hl)) ?_
  have H' := H.push { cls := .type "list_iterator", data := .fields #[.ref l, .int 0 0] } rfl
  generalize h.objs.size = I at H'
  let Inv : Nat → Shared → Prop := fun k s' => ∃ i h' tk' o oc v ps' nw', s' = (⟨h', G, D, tk', O⟩ : Shared) ∧ k = ws.length - i ∧ i ≤ ws.length ∧ Sx g L ps' ((I, o) :: (cc, oc) :: nw') h' ∧ lstStO l i o ∧ oc.data = .cell v ∧ J i ps' nw'
  refine p_forG Inv ws.length ⟨0, _, tk₀, _, oc₀, v₀, ps, nw, rfl, rfl, Nat.zero_le _, H', ⟨rfl, rfl⟩, hd₀, hJ⟩ ?_
  rintro k s' ⟨i, h', tk', o, oc, v, ps', nw', rfl, rfl, hi, Hc, hst, hd, hJ'⟩
  by_cases hlt : i < ws.length
  · obtain ⟨u, hv, hwk⟩ := hws.get (List.getElem?_eq_getElem hlt)
    generalize hwkk : ws[i] = wk at hwk
    have hwi : ws[i]? = some wk := by rw [List.getElem?_eq_getElem hlt, hwkk]
    cases hwk with
    | mk ht hf hs =>
    rename_i t fa c' t1 t2 vs'
    refine wpAny_pyNext_list_item (s := ⟨h', G, D, tk', O⟩) ⟨o, Hc.get (.head _), hst.1, hst.2⟩ (lst_is (Hc.old hl)) (x := .ref t) (by simpa using hv) fun h'' hit hs' => ?_
    obtain ⟨o', ho', hc', hd'⟩ := id hit
    have Hn := Hc.next hs' ho'
    refine wpAny_letOwnedTupleGo_listiter (s := ⟨h'', G, D, tk', O⟩) hit ?_
    refine wpAny_assign_Tuple (s := ⟨h'', G, D, tk', O⟩) (items := [.int (wk.come : Nat) t1, .int (wk.kind : Nat) t2, .ref fa].toArray) C.handled ⟨_, Hn.old ht, rfl, _, rfl⟩ rfl rfl fun h₂ hk => ?_
    have H₂ := Hn.ext fun b ob e => hk b ob (Nat.ne_of_lt (Heap.lt_size e)) e
    refine wpAny_assignInOrder_more (wpAny_assign_Name (p_st C H₂ hL hx fun h₃ H₃ => ?_))
    refine wpAny_assignInOrder_more (wpAny_assign_Name (p_st C H₃ hL hy fun h₄ H₄ => ?_))
    refine wpAny_assignInOrder_more (wpAny_assign_Name (p_stc (f := fun o2 => (I, o') :: (cc, o2) :: nw') C H₄ hz hcc (.tail .head) hd fun h₅ oc' hd₅ H₅ => ?_))
    refine wpAny_pure (wpAny_mono (turn i wk t1 t2 fa vs' c' ps' nw' h₅ _ _ oc' hwi hf hs hJ' hd₅ H₅) (fun f s₃ h₃ => ?_) fun _ _ x => x)
    cases f with
    | brk => exact h₃
    | ret v => exact h₃
    | next =>
      obtain ⟨h₆, tk₆, ps₆, nw₆, rfl, H₆, hJ₆⟩ := h₃
      exact ⟨ws.length - (i + 1), by omega, i + 1, h₆, tk₆, o', oc', _, ps₆, nw₆, rfl, rfl, hlt, H₆, ⟨hc', hd'⟩, hd₅, hJ₆⟩
    | cont =>
      obtain ⟨h₆, tk₆, ps₆, nw₆, rfl, H₆, hJ₆⟩ := h₃
      exact ⟨ws.length - (i + 1), by omega, i + 1, h₆, tk₆, o', oc', _, ps₆, nw₆, rfl, rfl, hlt, H₆, ⟨hc', hd'⟩, hd₅, hJ₆⟩
  · have : i = ws.length := by omega
    subst this
    refine wpAny_pyNext_list_end (s := ⟨h', G, D, tk', O⟩) C.handled ⟨o, Hc.get (.head _), hst.1, hst.2⟩ (lst_is (Hc.old hl)) (by simp [hws.length]) fun h'' hb => ?_
    exact done ps' nw' oc v h'' _ hd hJ' (Hc.extBut fun b o hb' e => hb b o hb' e)
end
end Mine

/- what _law_in_order asks, on texts -/
namespace Mine
noncomputable def comeOf (ws : List Wk) (t k : Nat) : List (List Nat) := (List.range k).flatMap fun i => if (wk ws i).come = t then [(wk ws i).form 0] else []
noncomputable def nextOf (ws : List Wk) (x : List Nat) (k : Nat) : List (List Nat) := (List.range k).flatMap fun i => if (wk ws i).forms.contains x then (((wk ws i).forms.drop ((wk ws i).forms.idxOf x + 1)).take 1) else []
noncomputable def pushTo (ws : List Wk) (T : List (List Nat)) : Nat → List (List Nat)
  | 0 => []
  | t + 1 => pushTo ws T t ++ comeOf ws t ws.length ++ nextOf ws (T.getD t []) ws.length
theorem comeOf_succ (ws : List Wk) (t k : Nat) : comeOf ws t (k + 1) = comeOf ws t k ++ (if (wk ws k).come = t then [(wk ws k).form 0] else []) := by
  unfold comeOf
  rw [List.range_succ, List.flatMap_append]
  simp
theorem nextOf_succ (ws : List Wk) (x : List Nat) (k : Nat) : nextOf ws x (k + 1) = nextOf ws x k ++ (if (wk ws k).forms.contains x then (((wk ws k).forms.drop ((wk ws k).forms.idxOf x + 1)).take 1) else []) := by
  unfold nextOf
  rw [List.range_succ, List.flatMap_append]
  simp
theorem idxOf_first {l : List (List Nat)} {x : List Nat} (h : l.contains x = true) : l[l.idxOf x]? = some x ∧ ∀ m, m < l.idxOf x → l[m]? ≠ some x := by
  have hx : x ∈ l := by simpa using h
  have hlt := List.idxOf_lt_length_iff.mpr hx
  refine ⟨by rw [List.getElem?_eq_getElem hlt, List.getElem_idxOf hlt], ?_⟩
  clear h hx hlt
  induction l with
  | nil => intro m hm; simp at hm
  | cons a r ih =>
    intro m hm e
    rw [List.idxOf_cons] at hm
    cases q : a == x with
    | true => rw [q] at hm; exact Nat.not_lt_zero _ hm
    | false =>
      rw [q] at hm
      cases m with
      | zero =>
        have : a = x := by simpa using e
        rw [this] at q; simp at q
      | succ m => exact ih m (Nat.lt_of_succ_lt_succ hm) (by simpa using e)
theorem filter_take_succ {p : List Nat → Bool} {l : List (List Nat)} {i : Nat} {x : List Nat} (h : l[i]? = some x) : (l.take (i + 1)).filter p = (l.take i).filter p ++ (if p x = true then [x] else []) := by
  rw [List.take_add_one, h, List.filter_append]
  show _ ++ List.filter p [x] = _
  rw [List.filter_cons]
  split <;> rfl
theorem formsN (w : Wk) : w.forms.length = w.n := by simp [Wk.forms]
theorem wk_get {ws : List Wk} {i : Nat} (h : i < ws.length) : ws[i]? = some (wk ws i) := by
  rw [List.getElem?_eq_getElem h, wk_at (List.getElem?_eq_getElem h)]
end Mine

/- a for with a cell as its target; rows; numbers in lists; lists in a tuple -/
namespace Mine
section
variable {prog : Program} {w : World} {n : Nat} {A : Around} {E : Value → Shared → Prop} {env : Env} {g : Heap} {L : Addr} {ps : PS} {nw : LG} {h : Heap} {G : Array GenState} {D : Drawn} {tk₀ : Nat} {O : OsState}
theorem p_for_srcC {x : PySem.Str} {px : Pos} {body : List Stmt} {Q : Flow → Shared → Prop} {xv : Value} {K : Heap → Prop} {N : Nat} {P : Nat → Value → Prop} {o₀ : Obj} {StO : Nat → Obj → Prop} {cc : Addr} {oc₀ : Obj} {v₀ : Option Value} (J : Nat → PS → LG → Prop)
    (S : SrcK prog w A K xv N P o₀ StO) (C : Cal w n A env g) (H : Sx g L ps ((cc, oc₀) :: nw) h) (hd₀ : oc₀.data = .cell v₀) (hx : env.kindOf x = some .cell) (hcc : env.cells.lookup x = some cc) (hJ : J 0 ps nw)
    (hK : ∀ i ps' nw' (h' : Heap), J i ps' nw' → (∀ p ∈ nw', h'.get? p.1 = some p.2) → (∀ b o, g.get? b = some o → h'.get? b = some o) → K h')
    (turn : ∀ i v ps' nw' h' tk' io oc (Z : Flow → Shared → Prop), i < N → P i v → J i ps' nw' → oc.data = .cell (some v) → Sx g L ps' (io :: (cc, oc) :: nw') h' → (∀ f s, TurnK2 g L io (cc, oc) (J (i + 1)) G D O Q f s → Z f s) →
      wpAny (model prog w) A (execs body env) Z NoE ⟨h', G, D, tk', O⟩)
    (done : ∀ ps' nw' oc v h' tk', oc.data = .cell v → J N ps' nw' → Sx g L ps' ((cc, oc) :: nw') h' → Q .next ⟨h', G, D, tk', O⟩) :
    wpAny (model prog w) A (pyIter xv) (fun it s₂ => codeAny (model prog w) A (.forLoop (.Name x px) it body [] env) (fun r s' => match r with | .ok f => Q f s' | .error e => cameBackBy (model prog w) A env E e s') s₂) E ⟨h, G, D, tk₀, O⟩ := by
  refine S.made (hK 0 ps nw h hJ (fun p hp => H.get (.tail _ hp)) fun b o e => H.old e) ?_
  have H' := H.push o₀ S.free
  generalize h.objs.size = I at H'
  let Inv : Nat → Shared → Prop := fun k s' => ∃ i h' tk' o oc v ps' nw', s' = (⟨h', G, D, tk', O⟩ : Shared) ∧ k = N - i ∧ i ≤ N ∧ Sx g L ps' ((I, o) :: (cc, oc) :: nw') h' ∧ StO i o ∧ oc.data = .cell v ∧ J i ps' nw'
  refine p_forG Inv N ⟨0, _, tk₀, o₀, oc₀, v₀, ps, nw, rfl, rfl, Nat.zero_le _, H', S.start, hd₀, hJ⟩ ?_
  rintro k s' ⟨i, h', tk', o, oc, v, ps', nw', rfl, rfl, hi, Hc, hst, hd, hJ'⟩
  have hk := hK i ps' nw' h' hJ' (fun p hp => Hc.get (.tail _ (.tail _ hp))) fun b ob e => Hc.old e
  by_cases hlt : i < N
  · refine S.item hlt hk (Hc.get (.head _)) hst fun h₁ tk₁ o₁ u hs ho hst' hu => ?_
    have Hn := Hc.next hs ho
    refine wpAny_of_eq (rfl : letOwnedTupleGo (.Name x px) (.ref I) u = pure ()) (wpAny_assign_Name (p_stc (f := fun o2 => (I, o₁) :: (cc, o2) :: nw') C Hn hx hcc (.tail .head) hd fun h₂ oc' hd₂ H₂ => ?_))
    refine wpAny_mono (turn i u ps' nw' h₂ _ _ oc' _ hlt hu hJ' hd₂ H₂ fun _ _ x => x) (fun f s₃ h₃ => ?_) fun _ _ x => x
    cases f with
    | brk => exact h₃
    | ret v => exact h₃
    | next =>
      obtain ⟨h₆, tk₆, ps₆, nw₆, rfl, H₆, hJ₆⟩ := h₃
      exact ⟨N - (i + 1), by omega, i + 1, h₆, tk₆, o₁, oc', _, ps₆, nw₆, rfl, rfl, hlt, H₆, hst', hd₂, hJ₆⟩
    | cont =>
      obtain ⟨h₆, tk₆, ps₆, nw₆, rfl, H₆, hJ₆⟩ := h₃
      exact ⟨N - (i + 1), by omega, i + 1, h₆, tk₆, o₁, oc', _, ps₆, nw₆, rfl, rfl, hlt, H₆, hst', hd₂, hJ₆⟩
  · have : i = N := by omega
    subst this
    exact S.stop hk (Hc.get (.head _)) hst fun h₁ tk₁ hb => done ps' nw' oc v h₁ tk₁ hd hJ' (Hc.extBut hb)
/-- rows of the ledger, one for each value -/
inductive LsL : List Value → LG → List (List Nat) → Prop
  | nil : LsL [] [] []
  | cons {a : Addr} {vs : List Value} {c : Nat} {ns : List Nat} {r : List Value} {l : LG} {rs : List (List Nat)} : Nums vs ns → LsL r l rs → LsL (.ref a :: r) ((a, lstObj vs c) :: l) (ns :: rs)
theorem LsL.snoc {vs : List Value} {l : LG} {rs : List (List Nat)} (x : LsL vs l rs) {a : Addr} {us : List Value} {c : Nat} {ns : List Nat} (h : Nums us ns) : LsL (vs ++ [.ref a]) (l ++ [(a, lstObj us c)]) (rs ++ [ns]) := by
  induction x with
  | nil => exact .cons h .nil
  | cons b _ ih => exact .cons b ih
theorem LsL.toP {vs : List Value} {l : LG} {rs : List (List Nat)} (x : LsL vs l rs) {P : Addr → Obj → Prop} (hp : ∀ p ∈ l, P p.1 p.2) : LsP P vs rs := by
  induction x with
  | nil => exact .nil
  | cons b _ ih => exact .cons (hp _ (.head _)) b (ih fun p h => hp p (.tail _ h))
theorem LsL.len {vs : List Value} {l : LG} {rs : List (List Nat)} (x : LsL vs l rs) : vs.length = rs.length := by
  induction x with
  | nil => rfl
  | cons _ _ ih => simp [ih]
theorem LsL.split {vs : List Value} {l : LG} {rs : List (List Nat)} (x : LsL vs l rs) : ∀ {i : Nat} {ns : List Nat}, rs[i]? = some ns → ∃ a us c l1 l2, l = l1 ++ (a, lstObj us c) :: l2 ∧ vs[i]? = some (.ref a) ∧ Nums us ns ∧
    ∀ us' c' ns', Nums us' ns' → LsL vs (l1 ++ (a, lstObj us' c') :: l2) (rs.set i ns') := by
  induction x with
  | nil => intro i ns e; simp at e
  | cons b y ih =>
    intro i ns e
    cases i with
    | zero =>
      simp at e; subst e
      exact ⟨_, _, _, [], _, rfl, rfl, b, fun us' c' ns' h => .cons h y⟩
    | succ i =>
      obtain ⟨a, us, c, l1, l2, rfl, e1, e2, e3⟩ := ih (by simpa using e)
      exact ⟨a, us, c, _ :: l1, l2, rfl, by simpa using e1, e2, fun us' c' ns' h => .cons b (e3 us' c' ns' h)⟩
theorem Nums.set {vs : List Value} {ns : List Nat} (x : Nums vs ns) (i n t : Nat) : Nums (vs.set i (.int ((n : Nat) : Int) t)) (ns.set i n) := by
  unfold Nums at *
  rw [List.map_set]
  generalize ns.map (fun n => ((n : Nat) : Int)) = ys at x
  induction x generalizing i with
  | nil => exact .nil
  | cons y u x ih =>
    cases i with
    | zero => exact .cons _ _ x
    | succ i => exact .cons y u (ih i)
theorem any_isInt (ns : List Nat) (k : Nat) : ∀ {vs : List Value}, Nums vs ns → vs.any (isInt ((k : Nat) : Int)) = ns.contains k := by
  induction ns with
  | nil => intro vs x; cases x; rfl
  | cons a r ih =>
    intro vs x
    unfold Nums at x
    rw [List.map_cons] at x
    cases x with
    | cons y u x =>
      rw [List.any_cons, ih x, List.contains_cons]
      congr 1
      show (((a : Nat) : Int) == (k : Int)) = _
      rw [Bool.eq_iff_iff, beq_iff_eq, beq_iff_eq]
      exact ⟨fun q => (Int.ofNat_inj.mp q).symm, fun q => by rw [q]⟩
/-- a number in a list of numbers -/
theorem c_ini {l : Addr} {vs : List Value} {c t k : Nat} {ns : List Nat} {Q : Value → Shared → Prop} (hl : h.get? l = some (lstObj vs c)) (hi : Nums vs ns) (q : Q (.bool (ns.contains k)) ⟨h, G, D, tk₀, O⟩) :
    wpAny (model prog w) A (compareOp .In (.int ((k : Nat) : Int) t) (.ref l)) Q E ⟨h, G, D, tk₀, O⟩ :=
  SeqInW.in_listW (s := ⟨h, G, D, tk₀, O⟩) (isInt ((k : Nat) : Int)) (fun y hy => eq_isInt _ t hi y (by simpa using hy)) (lst_is hl) (by rw [← Array.any_toList, show vs.toArray.toList = vs from rfl, any_isInt ns k hi]; exact q)
/-- a list of numbers in a tuple of such lists -/
theorem LsP.reads {h : Heap} {vs : List Value} {ls : List (List Nat)} (x : LsP (At h) vs ls) : ∃ as, ReadsAll h vs (ls.map fun ns => PyData.list (ns.map fun n => PyData.int ((n : Nat) : Int))) as := by
  induction x with
  | nil => exact ⟨_, .nil⟩
  | cons a b _ ih =>
    obtain ⟨as, ih⟩ := ih
    refine ⟨_, .cons (reads_newData (lst_is a) ?_) ih⟩
    have := ke_carried b
    rwa [List.map_map] at this
theorem eqv_nums : ∀ a b : List Nat, PyData.eqvAll (a.map fun n => PyData.int ((n : Nat) : Int)) (b.map fun n => PyData.int ((n : Nat) : Int)) = decide (a = b)
  | [], [] => by simp [PyData.eqvAll]
  | [], _ :: _ => by simp [PyData.eqvAll]
  | _ :: _, [] => by simp [PyData.eqvAll]
  | a :: r, b :: t => by
    simp only [List.map_cons, PyData.eqvAll, PyData.eqv, eqv_nums r t]
    by_cases h1 : a = b
    · subst h1; simp
    · have : (((a : Nat) : Int) == (b : Int)) = false := beq_false_of_ne fun e => h1 (Int.ofNat_inj.mp e)
      rw [this]; simp [h1]
theorem lay_nums : ∀ a : List Nat, PyData.canLayAll0 (a.map fun n => PyData.int ((n : Nat) : Int)) = true ∧ PyData.depthAll (a.map fun n => PyData.int ((n : Nat) : Int)) = 0
  | [] => ⟨rfl, rfl⟩
  | a :: r => by
    obtain ⟨h1, h2⟩ := lay_nums r
    simp only [List.map_cons, PyData.canLayAll0, PyData.canLay0, PyData.depthAll, PyData.depth, h1, h2]
    simp
theorem c_ingrp {l t : Addr} {vs us : List Value} {c : Nat} {ns : List Nat} {ls : List (List Nat)} {Q : Value → Shared → Prop} (C : Cal w n A env g) (hl : h.get? l = some (lstObj us c)) (hi : Nums us ns) (ht : h.get? t = some (tupObj vs)) (hv : LsP (At h) vs ls)
    (q : Q (.bool (ls.contains ns)) ⟨h, G, D, tk₀, O⟩) : wpAny (model prog w) A (compareOp .In (.ref l) (.ref t)) Q E ⟨h, G, D, tk₀, O⟩ := by
  obtain ⟨as, ra⟩ := hv.reads
  have r1 : Reads h (.ref l) (.list (ns.map fun n => PyData.int ((n : Nat) : Int))) [l] := by
    refine reads_newData (lst_is hl) ?_
    have := ke_carried hi
    rwa [List.map_map] at this
  have lay : PyData.canLayAll0 (ls.map fun ns => PyData.list (ns.map fun n => PyData.int ((n : Nat) : Int))) = true := by
    clear ra hv q
    induction ls with
    | nil => rfl
    | cons a r ih => simp only [List.map_cons, PyData.canLayAll0, PyData.canLay0, (lay_nums a).1, ih]; rfl
  refine PySem.SeqAt.in_tuple_reads (s := ⟨h, G, D, tk₀, O⟩) (.tuple ht rfl rfl (by simpa using ra)) r1 lay (by simp only [PyData.canLay0]; exact (lay_nums ns).1) ?_ ?_
  · have := C.units
    have e : (PyData.list (ns.map fun n => PyData.int ((n : Nat) : Int))).depth ≤ 1 := by simp only [PyData.depth, (lay_nums ns).2]; omega
    have := Nat.min_le_right (PyData.depthAll (ls.map fun ns => PyData.list (ns.map fun n => PyData.int ((n : Nat) : Int)))) (PyData.list (ns.map fun n => PyData.int ((n : Nat) : Int))).depth
    rw [show cLine = 9900 from rfl]
    omega
  · have e : (ls.map fun ns => PyData.list (ns.map fun n => PyData.int ((n : Nat) : Int))).any (fun y => PyData.eqv y (.list (ns.map fun n => PyData.int ((n : Nat) : Int)))) = ls.contains ns := by
      clear ra hv q lay
      induction ls with
      | nil => rfl
      | cons a r ih =>
        rw [List.map_cons, List.any_cons, ih, List.contains_cons]
        congr 1
        simp only [PyData.eqv, eqv_nums]
        rw [Bool.eq_iff_iff, decide_eq_true_eq, beq_iff_eq]
        exact eq_comm
    rw [e]; exact q
end
end Mine

/- what _law_owed asks -/
namespace Mine
noncomputable def unit (ws : List Wk) (k t c : Nat) : Nat := ((List.range k).map fun i => if (wk ws i).come = t ∧ (wk ws i).kind = c then (wk ws i).n else 0).sum
noncomputable def mat (ws : List Wk) (T k : Nat) : List (List Nat) := (List.range T).map fun t => [unit ws k t 0, unit ws k t 1, unit ws k t 2]
noncomputable def grps : List (List Nat) := [[0], [1], [2], [0, 1], [0, 2], [1, 2], [0, 1, 2]]
noncomputable def came (ws : List Wk) (g : List Nat) (t : Nat) : Int := (g.map fun c => ((unit ws ws.length t c : Nat) : Int)).sum
noncomputable def kof (ws : List Wk) (x : List Nat) : List Nat := (plc ws x).map fun p => (wk ws p).kind
noncomputable def hits (ws : List Wk) (g : List Nat) (x : List Nat) : Nat := ((kof ws x).filter fun k => g.contains k).length
structure Ow where
  (spare low one two : Int)
noncomputable def owe (ws : List Wk) (ts rs : List (List Nat)) (g : List Nat) : Nat → Ow
  | 0 => ⟨0, 0, 0, 0⟩
  | t + 1 => ⟨(owe ws ts rs g t).spare + (came ws g t - 1), min (owe ws ts rs g t).low ((owe ws ts rs g t).spare + (came ws g t - 1)),
      (owe ws ts rs g t).one + (came ws g t - (hits ws g (ts.getD t []) : Nat)), (owe ws ts rs g t).two + (came ws g t - (hits ws g (rs.getD t []) : Nat))⟩
theorem unit_succ (ws : List Wk) (k t c : Nat) : unit ws (k + 1) t c = unit ws k t c + (if (wk ws k).come = t ∧ (wk ws k).kind = c then (wk ws k).n else 0) := by
  unfold unit
  rw [List.range_succ, List.map_append, List.sum_append]
  simp
theorem mat_get {ws : List Wk} {T k t : Nat} (h : t < T) : (mat ws T k)[t]? = some [unit ws k t 0, unit ws k t 1, unit ws k t 2] := by
  unfold mat
  simp [h]
theorem mat_len (ws : List Wk) (T k : Nat) : (mat ws T k).length = T := by simp [mat]
theorem row_get {ws : List Wk} {k t c : Nat} (h : c < 3) : ([unit ws k t 0, unit ws k t 1, unit ws k t 2] : List Nat)[c]? = some (unit ws k t c) := by
  have : c = 0 ∨ c = 1 ∨ c = 2 := by omega
  rcases this with rfl | rfl | rfl <;> rfl
theorem mat_succ {ws : List Wk} {T k : Nat} (hc : (wk ws k).kind < 3) :
    (mat ws T k).set (wk ws k).come (([unit ws k (wk ws k).come 0, unit ws k (wk ws k).come 1, unit ws k (wk ws k).come 2] : List Nat).set (wk ws k).kind (unit ws k (wk ws k).come (wk ws k).kind + (wk ws k).n)) = mat ws T (k + 1) := by
  apply List.ext_getElem?
  intro t
  rw [List.getElem?_set]
  rcases Nat.lt_or_ge t T with ht | ht
  · rw [mat_get (k := k + 1) ht, mat_get (k := k) ht, mat_len]
    by_cases e : (wk ws k).come = t
    · subst e
      rw [if_pos rfl, if_pos ht]
      have : (wk ws k).kind = 0 ∨ (wk ws k).kind = 1 ∨ (wk ws k).kind = 2 := by omega
      rcases this with q | q | q <;> simp [unit_succ, q]
    · rw [if_neg e]
      have : ∀ c, unit ws (k + 1) t c = unit ws k t c := fun c => by
        rw [unit_succ, if_neg (fun h => e h.1)]; rfl
      rw [this, this, this]
  · have e1 : (mat ws T k)[t]? = none := List.getElem?_eq_none (by rw [mat_len]; exact ht)
    have e2 : (mat ws T (k + 1))[t]? = none := List.getElem?_eq_none (by rw [mat_len]; exact ht)
    rw [e1, e2, mat_len]
    by_cases e : (wk ws k).come = t
    · rw [if_pos e, if_neg (by omega)]
    · rw [if_neg e]
end Mine
namespace Mine
theorem pk_last {a b c : Addr × Obj} {l : LG} : (a :: b :: c :: l).Perm (b :: c :: (l ++ [a])) := (List.perm_append_singleton a (b :: c :: l)).symm
theorem mat_zero (ws : List Wk) (i : Nat) : mat ws (i + 1) 0 = mat ws i 0 ++ [[0, 0, 0]] := by
  unfold mat
  rw [List.range_succ, List.map_append]
  rfl
end Mine
namespace Mine
theorem plc_lt {ws : List Wk} {x : List Nat} {p : Nat} (h : p ∈ plc ws x) : p < 4 := List.mem_range.mp (List.mem_filter.mp h).1
theorem plc_len (ws : List Wk) (x : List Nat) : (plc ws x).length ≤ 4 := Nat.le_trans (List.length_filter_le _ _) (by simp)
theorem map_take_succ {α β : Type} {f : α → β} {l : List α} {i : Nat} {x : α} (h : l[i]? = some x) : (l.take (i + 1)).map f = (l.take i).map f ++ [f x] := by
  rw [List.take_add_one, h, List.map_append]; rfl
theorem Nums.ex {vs : List Value} {ns : List Nat} (x : Nums vs ns) {j : Nat} {v : Value} (h : vs[j]? = some v) : ∃ n t, ns[j]? = some n ∧ v = .int ((n : Nat) : Int) t := by
  have hj : j < vs.length := (List.getElem?_eq_some_iff.mp h).1
  have hj' : j < ns.length := by rw [← x.len]; exact hj
  obtain ⟨t, e⟩ := x.at (List.getElem?_eq_getElem hj')
  rw [h] at e
  exact ⟨_, t, List.getElem?_eq_getElem hj', Option.some.inj e⟩
theorem LsP.ex {P : Addr → Obj → Prop} {vs : List Value} {ls : List (List Nat)} (x : LsP P vs ls) {i : Nat} {v : Value} (h : vs[i]? = some v) : ∃ a us c ns, ls[i]? = some ns ∧ v = .ref a ∧ P a (lstObj us c) ∧ Nums us ns := by
  have hj : i < vs.length := (List.getElem?_eq_some_iff.mp h).1
  have hj' : i < ls.length := by rw [← x.len]; exact hj
  obtain ⟨a, us, c, e1, e2, e3⟩ := x.at (List.getElem?_eq_getElem hj')
  rw [h] at e1
  exact ⟨a, us, c, _, List.getElem?_eq_getElem hj', Option.some.inj e1, e2, e3⟩
end Mine
namespace Mine
theorem led_owed {f r m g u w U : Addr × Obj} {a b rows : LG} : (f :: (a ++ (r :: (b ++ (m :: g :: u :: w :: U :: rows))))).Perm ((m :: g :: u :: w :: U :: f :: (rows ++ a)) ++ (r :: b)) := by
  have h1 : (a ++ (r :: (b ++ (m :: g :: u :: w :: U :: rows)))).Perm ((m :: g :: u :: w :: U :: rows) ++ (a ++ (r :: b))) := by
    rw [show a ++ (r :: (b ++ (m :: g :: u :: w :: U :: rows))) = (a ++ (r :: b)) ++ (m :: g :: u :: w :: U :: rows) by simp]
    exact List.perm_append_comm
  refine (h1.cons f).trans ((List.perm_middle (l₁ := [m, g, u, w, U]) (a := f) (l₂ := rows ++ (a ++ (r :: b)))).symm.trans ?_)
  rw [show (m :: g :: u :: w :: U :: f :: (rows ++ a)) ++ (r :: b) = [m, g, u, w, U] ++ f :: (rows ++ (a ++ (r :: b))) by simp]
end Mine
namespace Mine
theorem nfilter_take_succ {p : Nat → Bool} {l : List Nat} {i x : Nat} (h : l[i]? = some x) : (l.take (i + 1)).filter p = (l.take i).filter p ++ (if p x = true then [x] else []) := by
  rw [List.take_add_one, h, List.filter_append]
  show _ ++ List.filter p [x] = _
  rw [List.filter_cons]
  split <;> rfl
theorem came_sum (ws : List Wk) (g : List Nat) (t : Nat) : ((g.map fun c => unit ws ws.length t c).map fun n => ((n : Nat) : Int)).sum = came ws g t := by
  unfold came
  rw [List.map_map]; rfl
theorem kof_len (ws : List Wk) (x : List Nat) : (kof ws x).length ≤ 4 := by
  unfold kof
  rw [List.length_map]; exact plc_len ws x
end Mine

/- what _law_whole needs -/
namespace Mine
section
variable {prog : Program} {w : World} {n : Nat} {A : Around} {E : Value → Shared → Prop} {env : Env} {g : Heap} {L : Addr} {ps : PS} {nw : LG} {h : Heap} {G : Array GenState} {D : Drawn} {tk : Nat} {O : OsState} {l b : Addr} {vs us : List Value} {c c' : Nat}
theorem c_addl {Q : Value → Shared → Prop} (H : Sx g L ps nw h) (hl : h.get? l = some (lstObj vs c)) (hb : h.get? b = some (lstObj us c')) (h1 : vs.length ≤ 100000) (h2 : us.length ≤ 100000)
    (k : ∀ h' D', Sx g L ps ((D', lstObj (vs ++ us) 0) :: nw) h' → Q (.ref D') ⟨h', G, D, tk, O⟩) : wpAny (model prog w) A (binaryOp .Add (.ref l) (.ref b)) Q E ⟨h, G, D, tk, O⟩ := by
  obtain ⟨m, F, lm⟩ := H.fr
  refine add_arrays (s := ⟨h, G, D, tk, O⟩) F H.led (lst_is hl) (lst_is hb) (fun h' F' N' => k h' _ ⟨⟨m, F', lm⟩, N', ?_⟩) (by simp [sizeLine_eq]; omega)
  rw [List.map_cons, List.nodup_cons]
  refine ⟨fun hm => ?_, H.nd⟩
  obtain ⟨p, hp, e⟩ := List.mem_map.mp hm
  exact Nat.lt_irrefl _ (e ▸ H.lts p hp)
end
theorem Nums.append {vs us : List Value} {ns ms : List Nat} (x : Nums vs ns) (y : Nums us ms) : Nums (vs ++ us) (ns ++ ms) := by
  unfold Nums at *
  rw [List.map_append]
  exact x.append y
theorem Nums.erase {vs : List Value} {ns : List Nat} (x : Nums vs ns) (i : Nat) : Nums (vs.eraseIdx i) (ns.eraseIdx i) := by
  unfold Nums at *
  rw [← map_erase]
  generalize ns.map (fun n => ((n : Nat) : Int)) = ys at x
  induction x generalizing i with
  | nil => exact .nil
  | cons y u x ih =>
    cases i with
    | zero => exact x
    | succ i => exact .cons y u (ih i)
theorem nidx_first {l : List Nat} {x : Nat} (h : x ∈ l) : l[l.idxOf x]? = some x ∧ ∀ m, m < l.idxOf x → l[m]? ≠ some x := by
  have hlt := List.idxOf_lt_length_iff.mpr h
  refine ⟨by rw [List.getElem?_eq_getElem hlt, List.getElem_idxOf hlt], ?_⟩
  clear h hlt
  induction l with
  | nil => intro m hm; simp at hm
  | cons a r ih =>
    intro m hm e
    rw [List.idxOf_cons] at hm
    cases q : a == x with
    | true => rw [q] at hm; exact Nat.not_lt_zero _ hm
    | false =>
      rw [q] at hm
      cases m with
      | zero =>
        have : a = x := by simpa using e
        rw [this] at q; simp at q
      | succ m => exact ih m (Nat.lt_of_succ_lt_succ hm) (by simpa using e)
theorem erase_idx {l : List Nat} {x : Nat} : l.eraseIdx (l.idxOf x) = l.erase x := by
  induction l with
  | nil => rfl
  | cons a r ih =>
    rw [List.idxOf_cons, List.erase_cons]
    cases q : a == x with
    | true => rfl
    | false => simp only [cond_false, List.eraseIdx_cons_succ, ih]; rfl
noncomputable def ownT (ws : List Wk) (ts : List (List Nat)) (p k : Nat) : List Nat := (List.range k).filter fun t => plc ws (ts.getD t []) == [p]
noncomputable def hereL (ws : List Wk) (left : List Nat) (clock : Nat) : List Nat := left.filter fun p => decide ((wk ws p).come ≤ clock)
noncomputable def longL (ws : List Wk) (en : Nat → Nat) (j : Nat) : List Nat := ((List.range 4).filter fun p => decide ((wk ws p).come < (wk ws j).come) && decide (en j < en p)).map fun p => (wk ws p).n
/-- what the third clerk's loop keeps -/
structure Good (ws : List Wk) (en : Nat → Nat) (P : List Nat → Nat → Prop) : Prop where
  start : P [0, 1, 2, 3] 0
  sub : ∀ {left clock}, P left clock → ∀ p ∈ left, p < 4
  idle : ∀ {left clock}, P left clock → left ≠ [] → hereL ws left clock = [] → P left (clock + 1)
  serve : ∀ {left clock} {j : Nat}, P left clock → j ∈ hereL ws left clock → (∀ p ∈ hereL ws left clock, en j ≤ en p) → P (left.erase j) (clock + (wk ws j).n)
  bound : ∀ {left clock} {j : Nat}, P left clock → j ∈ hereL ws left clock → (∀ p ∈ hereL ws left clock, en j ≤ en p) → ∀ M : Nat, (∀ a ∈ 2 :: longL ws en j, a ≤ M) → clock + (wk ws j).n + 1 ≤ en j + M
end Mine
namespace Mine
theorem ownT_succ (ws : List Wk) (ts : List (List Nat)) (p k : Nat) : ownT ws ts p (k + 1) = ownT ws ts p k ++ (if (plc ws (ts.getD k []) == [p]) = true then [k] else []) := filter_range_succ _ k
theorem ownT_mem {ws : List Wk} {ts : List (List Nat)} {p k t : Nat} : t ∈ ownT ws ts p k ↔ t < k ∧ plc ws (ts.getD t []) = [p] := by
  unfold ownT
  rw [List.mem_filter, List.mem_range, beq_iff_eq]
theorem nums_mem {ns : List Nat} {M : Int} (h : M ∈ ns.map fun n => ((n : Nat) : Int)) : ∃ m : Nat, M = ((m : Nat) : Int) ∧ m ∈ ns := by
  obtain ⟨m, hm, rfl⟩ := List.mem_map.mp h
  exact ⟨m, rfl, hm⟩
end Mine
namespace Mine
theorem p_ldc {w : World} {n : Nat} {A : Around} {E : Value → Shared → Prop} {env : Env} {g h : Heap} {G : Array GenState} {D : Drawn} {tk : Nat} {O : OsState} {v : Value} {cc : Addr} {o : Obj} {xn : PySem.Str} {M : Model} {Q : Value → Shared → Prop} (C : Cal w n A env g) (hx : env.kindOf xn = some .cell) (hc : env.cells.lookup xn = some cc) (ho : h.get? cc = some o) (hd : o.data = .cell (some v))
    (k : Q v ⟨h, G, D, tk, O⟩) : wpAny M A (loadName env xn) Q E ⟨h, G, D, tk, O⟩ := wpAny_loadName_cell (s := ⟨h, G, D, tk, O⟩) C.kind hx hc ⟨o, ho, hd⟩ k
end Mine
namespace Mine
theorem nf_take_succ {p : Nat → Bool} {l : List Nat} {i x : Nat} (h : l[i]? = some x) : (l.take (i + 1)).filter p = (l.take i).filter p ++ (if p x = true then [x] else []) := nfilter_take_succ h
end Mine
namespace Mine
theorem en_get {en : Nat → Nat} {p : Nat} (h : p < 4) : ((List.range 4).map en)[p]? = some (en p) := by
  rw [List.getElem?_map, List.getElem?_range h]; rfl
theorem here_none {ws : List Wk} {left : List Nat} {clock : Nat} (h0 : left ≠ []) (h : hereL ws left clock = []) : ∃ p ∈ left, clock < (wk ws p).come := by
  cases left with
  | nil => exact absurd rfl h0
  | cons p r =>
    refine ⟨p, .head _, ?_⟩
    have := List.filter_eq_nil_iff.mp h p (.head _)
    simpa using this
theorem here_mem {ws : List Wk} {left : List Nat} {clock p : Nat} : p ∈ hereL ws left clock ↔ p ∈ left ∧ (wk ws p).come ≤ clock := by
  unfold hereL
  rw [List.mem_filter, decide_eq_true_eq]
theorem longL_succ (ws : List Wk) (en : Nat → Nat) (j k : Nat) : (((List.range (k + 1)).filter fun p => decide ((wk ws p).come < (wk ws j).come) && decide (en j < en p)).map fun p => (wk ws p).n) =
    (((List.range k).filter fun p => decide ((wk ws p).come < (wk ws j).come) && decide (en j < en p)).map fun p => (wk ws p).n) ++ (if (decide ((wk ws k).come < (wk ws j).come) && decide (en j < en k)) = true then [(wk ws k).n] else []) := by
  rw [filter_range_succ, List.map_append]
  split <;> rfl
end Mine

/- what _law_works needs -/
namespace Mine
theorem mulOk_blank : ∀ k : Nat, k < 10 → MulOk (S [32]) (k : Int) ∧ Txt.mul (S [32]) (k : Int) = S (List.replicate k 32) := by
  unfold MulOk; decide +kernel
theorem blank_max {a d : Nat} : max (0 : Int) ((a : Nat) - (0 + (d : Nat))) = ((a - d : Nat) : Int) := by omega
theorem blank_min {a b d : Nat} (h : d < a + (1 + b)) : min (1 + ((b : Nat) : Int)) ((a : Nat) + (1 + (b : Nat)) - (0 + (d : Nat))) = ((min (1 + b) (a + (1 + b) - d) : Nat) : Int) := by omega
theorem fmod_nat (a b : Nat) : ((a : Nat) : Int).fmod ((b : Nat) : Int) = ((a % b : Nat) : Int) := by
  rw [Int.fmod_eq_emod_of_nonneg _ (by omega)]; rfl
theorem fdiv_nat (a b : Nat) : ((a : Nat) : Int).fdiv ((b : Nat) : Int) = ((a / b : Nat) : Int) := by
  rw [Int.fdiv_eq_ediv_of_nonneg _ (by omega)]; rfl
theorem fmod_pos (v : Int) : ∃ m : Nat, v.fmod 1000000 = ((m : Nat) : Int) ∧ m < 1000000 := by
  have h := Int.fmod_nonneg_of_pos v (b := 1000000) (by decide)
  have h2 := Int.fmod_lt_of_pos v (b := 1000000) (by decide)
  exact ⟨(v.fmod 1000000).toNat, by omega, by omega⟩
/-- the four works of four numbers -/
noncomputable def comeSum (xs : List Nat) : Nat → Nat
  | 0 => 0
  | i + 1 => comeSum xs i + xs.getD i 0 % 3
noncomputable def wkN (xs : List Nat) (i : Nat) : Wk :=
  ⟨comeSum xs (i + 1), xs.getD i 0 / 3 % 3, xs.getD i 0 / 9 % 3, 1 + xs.getD i 0 / 27 % 2, [34, 35, 77].getD (xs.getD i 0 / 3 % 3) 0, [97, 98, 99, 100].getD i 0⟩
noncomputable def wsN (xs : List Nat) : List Wk := (List.range 4).map (wkN xs)
theorem wsN_get {xs : List Nat} {i : Nat} (h : i < 4) : (wsN xs)[i]? = some (wkN xs i) := by
  unfold wsN
  rw [List.getElem?_map, List.getElem?_range h]; rfl
theorem WsP.snoc {P : Addr → Obj → Prop} {vs : List Value} {ws : List Wk} (x : WsP P vs ws) {v : Value} {w : Wk} (y : WorkP P v w) : WsP P (vs ++ [v]) (ws ++ [w]) := by
  induction x with
  | nil => exact .cons y .nil
  | cons a _ ih => exact .cons a ih
section
variable {prog : Program} {w : World} {n : Nat} {A : Around} {E : Value → Shared → Prop} {env : Env} {g : Heap} {L : Addr} {ps : PS} {nw : LG} {h : Heap} {G : Array GenState} {D : Drawn} {tk : Nat} {O : OsState} {l : Addr} {vs : List Value} {t u : Nat}
theorem c_mul {k : Nat} {Q : Value → Shared → Prop} (hk : k < 10) (q : ∀ t' tk', Q (.str (S (List.replicate k 32)) t') ⟨h, G, D, tk', O⟩) : wpAny (model prog w) A (binaryOp .Mult (.str (S [32]) t) (.int ((k : Nat) : Int) u)) Q E ⟨h, G, D, tk, O⟩ := by
  obtain ⟨h1, h2⟩ := mulOk_blank k hk
  refine SB.mul (s := ⟨h, G, D, tk, O⟩) h1 fun t' k' => ?_
  rw [h2]; exact q t' k'
/-- a list that came from outside is cut -/
theorem c_lsliceI {value slice : PySem.Expr} {vl vu : Value} {lo hi : Option Int} {Q : Value → Shared → Prop} (H : Sx g L ps nw h) (hl : h.IsList l vs.toArray) (pl : IsPart vl lo) (pu : IsPart vu hi) (hn : vs.length ≤ 1000000)
    (k : ∀ D' h', Sx g L ps ((D', lstObj (kms_pick vs lo hi) 0) :: nw) h' → Q (.ref D') ⟨h', G, D, tk, O⟩)
    (hs : subscripted slice false (.ref l) (.ref h.objs.size) = operate [.ref h.objs.size, .ref l] (getItem (.ref l) (.ref h.objs.size))) :
    wpAny (model prog w) A (subscriptTail value slice (.ref l) (.ref h.objs.size)) Q E ⟨h.push { cls := .type "slice", data := .fields #[vl, vu, .none] }, G, D, tk, O⟩ := by
  refine kba_turn (value' := .Name PySem.Str.empty ⟨0, 0, 0, 0⟩) (fun _ => rfl) ?_
  obtain ⟨m, F, lm⟩ := H.fr
  refine kms_slice_lit (s := ⟨h, G, D, tk, O⟩) F H.led hl pl pu rfl (fun D' h' F' N' l1 => k D' h' ⟨⟨m, F', lm⟩, N', ?_⟩) hs (fun _ => rfl) (by simpa using lst_len hn)
  rw [List.map_cons, List.nodup_cons]
  refine ⟨fun hm => ?_, H.nd⟩
  obtain ⟨p, hp, e⟩ := List.mem_map.mp hm
  exact Nat.lt_irrefl _ (e ▸ l1 p hp)
end
theorem IntsAre.ex {vs : List Value} {ns : List Int} (x : IntsAre vs ns) {j : Nat} {v : Value} (h : vs[j]? = some v) : ∃ n t, v = .int n t := by
  induction x generalizing j with
  | nil => simp at h
  | cons y u _ ih =>
    cases j with
    | zero => simp at h; exact ⟨_, _, h.symm⟩
    | succ j => exact ih (by simpa using h)
end Mine

/- what keeps the walks small: the rest of a walk under a name; many witnesses taken at once -/
namespace Mine
theorem genQ {α : Type} {M : Model} {A : Around} {T : Sem α} {E : Value → Shared → Prop} {s : Shared} {Q : α → Shared → Prop} (k : ∀ Z : α → Shared → Prop, (∀ v s', Q v s' → Z v s') → wpAny M A T Z E s) : wpAny M A T Q E s := k Q fun _ _ x => x
end Mine

namespace Mine
noncomputable def mark (_ : Program) (_ : Frag) : Prop := True
theorem filled (w : World) : mark PySem.Challenge.rw_wk0011_01.row.prog (hd.heap_1 w.params) := by
  k_fill
  trivial
end Mine
open Mine
local macro_rules | `(tactic| walk_at "asm") => `(tactic| with_reducible assumption)
local macro_rules | `(tactic| walk_at "mem") => `(tactic| first | exact List.Mem.head _ | (refine' List.Mem.tail _ ?memA; (case memA => walk_at "mem")))
local macro_rules | `(tactic| walk_at "up") => `(tactic| first | exact Up.head | (refine' Up.tail ?upA; (case upA => walk_at "up")))
local macro_rules | `(tactic| walk_at "pick") => `(tactic| first | exact List.Perm.refl _ | (refine' pkTail ?pickA; (case pickA => walk_at "pick")))
local macro_rules | `(tactic| walk_at "perm") => `(tactic| first
  | (refine' pk1 ?p1; (case p1 => walk_at "pick"))
  | (refine' pk2 ?p1 ?p2; (case p1 => walk_at "pick"); (case p2 => walk_at "pick"))
  | (refine' pk3 ?p1 ?p2 ?p3; (case p1 => walk_at "pick"); (case p2 => walk_at "pick"); (case p3 => walk_at "pick")))
local macro_rules | `(tactic| walk_at "got") => `(tactic| first | assumption | (refine' Sx.get ?H ?m; (case H => walk_at "asm"); (case m => walk_at "mem")) | (refine' Sx.old ?H ?e; (case H => walk_at "asm"); (case e => assumption)))
local macro_rules | `(tactic| walk_at "name") => `(tactic| first
  | (refine' p_loc ?C ?H ?x ?v ?_ ?d; (case C => walk_at "asm"); (case H => walk_at "asm"); (case x => exact rfl); (case v => exact rfl); (case d => decide))
  | (refine' p_glob ?C ?H ?x ?g ?e ?_ ?d; (case C => walk_at "asm"); (case H => walk_at "asm"); (case x => exact rfl); (case g => exact rfl); (case e => k_is); (case d => decide))
  | (refine' p_cellr ?C ?x ?c ?o ?d ?_ ?d1 ?d2; (case C => walk_at "asm"); (case x => exact rfl); (case c => exact rfl); (case o => walk_at "got"); (case d => walk_at "asm"); (case d1 => decide); (case d2 => decide))
  | (refine' p_free ?C ?x ?c ?o ?d ?_ ?d1 ?d2; (case C => walk_at "asm"); (case x => exact rfl); (case c => exact rfl); (case o => walk_at "got"); (case d => walk_at "asm"); (case d1 => decide); (case d2 => decide))
  | (refine' p_boot ?C ?H ?x ?g ?b ?e ?v ?n ?_ ?d; (case C => walk_at "asm"); (case H => walk_at "asm"); (case x => exact rfl); (case g => exact rfl); (case b => exact rfl); (case e => k_is); (case v => boot_fast); (case n => decide); (case d => decide)))
local macro_rules | `(tactic| walk_at "goE") => `(tactic| first
  | ((with_reducible show wpAny _ _ (eval (.ListComp _ _ _ _) _) _ _ _); refine' p_ListComp ?c ?k ?n ?_ ?s; (case c => exact rfl); (case k => exact rfl); (case n => exact rfl); (case s => intro _; exact rfl))
  | ((with_reducible show wpAny _ _ (eval (.Name _ _) _) _ _ _); walk_at "name")
  | with_reducible refine' wpAny_BinOp ?_
  | with_reducible refine' wpAny_Compare1 ?_
  | with_reducible refine' c_int ?_
  | with_reducible refine' c_str ?_
  | with_reducible refine' wpAny_Constant_bool ?_
  | ((with_reducible show wpAny _ _ (eval (.Call (.Attribute _ _ _) _ _ _) _) _ _ _); refine' MethodCall_ ?_)
  | ((with_reducible show wpAny _ _ (eval (.Call _ _ _ _) _) _ _ _); refine' Call_ ?_)
  | ((with_reducible show wpAny _ _ (eval (.Subscript _ _ _) _) _ _ _); refine' Subscript_ ?_)
  | ((with_reducible show wpAny _ _ (eval (.Attribute _ _ _) _) _ _ _); refine' Attribute_any_ ?_)
  | with_reducible refine' wpAny_Slice ?_
  | with_reducible refine' BoolOp_one ?_
  | with_reducible refine' BoolOp_and ?_
  | with_reducible refine' BoolOp_or ?_
  | with_reducible refine' UnaryOp_ ?_
  | ((with_reducible show wpAny _ _ (eval (.Tuple _ _ _) _) _ _ _); refine' Tuple_ ?_)
  | ((with_reducible show wpAny _ _ (eval (.List _ _) _) _ _ _); refine' List_ ?_))
local macro_rules | `(tactic| walk_at "goX") => `(tactic| first
  | ((with_reducible show wpAny _ _ (exec (.Assign [.Name _ _] (.ListComp _ _ _ _) _) _) _ _ _); refine' p_AssignListComp ?w ?c ?k ?n ?_ ?s; (case w => exact rfl); (case c => exact rfl); (case k => exact rfl); (case n => exact rfl); (case s => intro _; exact rfl))
  | with_reducible refine' wpAny_Return_some ?_
  | ((with_reducible show wpAny _ _ (exec (.Assign [.Name _ _] _ _) _) _ _ _); refine' wpAny_Assign_Name ?_)
  | ((with_reducible show wpAny _ _ (exec (.AugAssign (.Name _ _) _ _ _) _) _ _ _); refine' wpAny_AugAssign_Name ?_)
  | with_reducible refine' wpAny_If ?_
  | ((with_reducible show wpAny _ _ (exec (.For _ _ _ _ _) _) _ _ _); refine' wpAny_For ?_)
  | ((with_reducible show wpAny _ _ (exec (.Expr _ _) _) _ _ _); refine' wpAny_Expr_any ?_)
  | with_reducible refine' wpAny_Continue ?_
  | with_reducible refine' wpAny_Delete ?_
  | ((with_reducible show wpAny _ _ (exec (.Assign [.Subscript _ _ _] _ _) _) _ _ _); refine' wpAny_Assign_Subscript ?_)
  | ((with_reducible show wpAny _ _ (exec (.Assign [.Attribute _ _ _] _ _) _) _ _ _); refine' plainObj_wpAny_Assign_Attribute ?_)
  | ((with_reducible show wpAny _ _ (exec (.AugAssign (.Subscript _ _ _) _ _ _) _) _ _ _); refine' wpAny_AugAssign_SubscriptAny ?_)
  | ((with_reducible show wpAny _ _ (exec (.AugAssign (.Attribute _ _ _) _ _ _) _) _ _ _); refine' wpAny_AugAssign_AttributeAny ?_))
local macro_rules | `(tactic| walk_at "goT") => `(tactic| first
  | with_reducible refine' isTrue_and_nil ?_
  | with_reducible refine' isTrue_or_nil ?_
  | with_reducible refine' isTrue_and ?_
  | with_reducible refine' isTrue_or ?_
  | with_reducible refine' isTrue_not ?_
  | with_reducible refine' wpAny_isTrue_Compare1 ?_
  | refine' isTrue_plain ?_)
local macro_rules | `(tactic| walk_at "goO") => `(tactic| first
  | with_reducible refine' c_add ?_
  | with_reducible refine' c_sub ?_
  | with_reducible refine' c_subb ?_
  | with_reducible refine' c_iadd ?_
  | with_reducible refine' c_isub ?_
  | (with_reducible refine' c_siadd ?n ?_; (case n => walk_at "ar"); intro t' tk')
  | (with_reducible refine' c_sadd ?n ?_; (case n => walk_at "ar"); intro t' tk')
  | with_reducible refine' PyProof.Rows.in_str ?_
  | with_reducible refine' PySem.P.gt_str ?_
  | with_reducible refine' PyProof.Rows.lt_str ?_
  | with_reducible refine' PyProof.Rows.eq_str ?_
  | with_reducible refine' PyProof.Rows.ne_str ?_
  | with_reducible refine' PyProof.Rows.eq_int ?_
  | with_reducible refine' PyProof.Rows.ne_int ?_
  | with_reducible refine' PyProof.Rows.lt_int ?_
  | with_reducible refine' PyProof.Rows.le_int ?_
  | with_reducible refine' PyProof.Rows.gt_int ?_
  | (with_reducible refine' c_mod ?nz ?_; (case nz => decide))
  | (with_reducible refine' c_fdiv ?nz ?ra ?rb ?_; (case nz => decide); (case ra => exact ⟨by walk_at "ar", by walk_at "ar"⟩); (case rb => exact ⟨by decide, by decide⟩))
  | with_reducible refine' truthy_int ?_
  | with_reducible refine' wpAny_truthy_bool ?_)
local macro_rules | `(tactic| walk_at "lk1") => `(tactic| first | exact rfl | (refine' lk_int ?e ?h; (case e => exact rfl); (case h => walk_at "ar")))
local macro_rules | `(tactic| walk_at "lks") => `(tactic| first | exact lk_nil | (refine' lk_cons ?e ?r; (case e => walk_at "lk1"); (case r => walk_at "lks")))
local macro_rules | `(tactic| walk_at "lk") => `(tactic| (refine' locs_of ?_; walk_at "lks"))
local macro_rules | `(tactic| walk_at "ar") => `(tactic| first | omega | (simp only [wd_length, S_length, List.length_cons, List.length_nil, List.length_append, List.length_replicate] at *; omega))
local macro_rules | `(tactic| walk_at "goS") => `(tactic| first
  | ((with_reducible show wpAny _ _ (subscriptTail _ (.Slice _ _ _ _) (.ref _) (.ref _)) _ _ _); (try dsimp only); refine' c_lsliceA ?H ?hl ?pl ?pu ?n ?_ ?d; (case H => walk_at "asm"); (case hl => walk_at "got"); (case pl => (first | exact .none | exact .int _ _)); (case pu => (first | exact .none | exact .int _ _)); (case n => walk_at "ar"); (case d => exact rfl); intro l' h' H')
  | ((with_reducible show wpAny _ _ (compareOp .In (.str (S _) _) (.ref _)) _ _ _); refine' c_in ?hl ?hi ?_; (case hl => walk_at "got"); (case hi => walk_at "asm"))
  | ((with_reducible show wpAny _ _ (compareOp .In (.int _ _) (.ref _)) _ _ _); refine' c_ini ?hl ?hi ?_; (case hl => walk_at "got"); (case hi => walk_at "asm"))
  | ((with_reducible show wpAny _ _ (binaryOp .Add (.ref _) (.ref _)) _ _ _); refine' c_addl ?H ?hl ?hb ?n ?m ?_; (case H => walk_at "asm"); (case hl => walk_at "got"); (case hb => walk_at "got"); (case n => walk_at "ar"); (case m => walk_at "ar"); intro h' l' H')
  | ((with_reducible show wpAny _ _ (testsOf [] _) _ _ _); refine' tests_nil ?_)
  | ((with_reducible show wpAny _ _ (testsOf [_] _) _ _ _); refine' tests_one ?_)
  | ((with_reducible show wpAny _ _ (subscriptTail _ _ (.str (S _) _) (.int _ _)) _ _ _); refine' c_sign ?a ?b ?c ?_ ?d ?e; (case a => walk_at "ar"); (case b => walk_at "ar"); (case c => walk_at "ar"); (case d => exact rfl); (case e => intro _; exact rfl))
  | ((with_reducible show wpAny _ _ (subscriptTail _ (.Slice _ _ _ _) (.str (S _) _) (.ref _)) _ _ _); (try dsimp only); refine' c_slice ?H ?a ?b ?c ?l ?_ ?d ?e; (case H => walk_at "asm"); (case a => walk_at "ar"); (case b => walk_at "ar"); (case c => walk_at "ar"); (case l => walk_at "ar"); (case d => exact rfl); (case e => intro _; exact rfl); intro h' t' tk' H')
  | ((with_reducible show wpAny _ _ (subscriptTail _ _ (.ref _) (.int _ _)) _ _ _); first
      | (refine' c_item ?hl ?z ?i ?n ?_ ?s; (case hl => walk_at "got"); (case z => walk_at "ar"); (case i => walk_at "it"); (case n => walk_at "ar"); (case s => exact rfl))
      | (refine' c_titem ?hl ?z ?i ?n ?_ ?s; (case hl => walk_at "got"); (case z => walk_at "ar"); (case i => walk_at "it"); (case n => walk_at "ar"); (case s => exact rfl)))
  | ((with_reducible show wpAny _ _ (getItem (.ref _) (.int _ _)) _ _ _); refine' c_getItem ?hl ?z ?i ?n ?_; (case hl => walk_at "got"); (case z => walk_at "ar"); (case i => walk_at "it"); (case n => walk_at "ar"))
  | ((with_reducible show wpAny _ _ (call (.builtin "len") [.str _ _]) _ _ _); refine' c_lens ?a ?_; (case a => walk_at "ar")))
local macro_rules | `(tactic| walk_at "goA") => `(tactic| first
  | ((with_reducible show wpAny _ _ (getAttr (.ref _) _ _) _ _ _); refine' c_attr ?C ?H ?hx ?hd ?he ?hv ?g ?hh ?ha ?hn ?hi ?_; (case C => walk_at "asm"); (case H => walk_at "asm"); (case hx => walk_at "got"); (case hd => walk_at "got"); (case he => walk_at "asm"); (case hv => exact rfl); (case g => k_is); (case hh => k_is); (case ha => k_is); (case hn => k_is); (case hi => k_handed))
  | ((with_reducible show wpAny _ _ (getAttr (.ref _) _ _) _ _ _); refine' c_bound ?C ?H ?hx ?hd ?he ?hv ?g ?hh ?ha ?hf ?hgf ?ht ?hc ?_; (case C => walk_at "asm"); (case H => walk_at "asm"); (case hx => walk_at "got"); (case hd => walk_at "got"); (case he => walk_at "asm"); (case hv => exact rfl); (case g => k_is); (case hh => k_is); (case ha => k_is); (case hf => k_is); (case hgf => k_is); (case ht => k_is); (case hc => decide +kernel); intro q' h' H')
  | ((with_reducible show wpAny _ _ (pyIter (.ref _)) _ _ _); refine' c_itercit ?hi ?_; (case hi => walk_at "got"))
  | ((with_reducible show wpAny _ _ (call (.builtin "iter") [.ref _, .str _ _] _) _ _ _); refine' c_iter2 ?H ?hm ?_; (case H => walk_at "asm"); (case hm => walk_at "got"); intro h' it' H')
  | ((with_reducible show wpAny _ _ (setAttr (.ref _) _ _) _ _ _); refine' c_setattr ?C ?H ?hx ?U ?he ?hl ?hs ?hp ?ht ?hh ?_; (case C => walk_at "asm"); (case H => walk_at "asm"); (case hx => walk_at "got"); (case U => walk_at "up"); (case he => walk_at "asm"); (case hl => exact Nat.le_of_ble_eq_true rfl); (case hs => k_is); (case hp => k_is); (case ht => k_is); (case hh => k_is); intro h' tk' es' m' he' H'; (try dsimp only at H'))
  | ((with_reducible show wpAny _ _ (getMethod (.ref _) _ _) _ _ _); first
      | (refine' c_mappend ?hl ?_; (case hl => walk_at "got"))
      | (refine' c_meth ?hl PySem.F.slot_list_pop PySem.F.type_list_pop ?_; (case hl => walk_at "got"))
      | (refine' c_meth ?hl PySem.F.slot_list_extend PySem.F.type_list_extend ?_; (case hl => walk_at "got"))
      | (refine' c_meth ?hl PySem.F.slot_list_index PySem.F.type_list_index ?_; (case hl => walk_at "got"))
      | (refine' c_meth ?hl PySem.F.slot_list_remove PySem.F.type_list_remove ?_; (case hl => walk_at "got"))
      | (refine' c_imeth ?C ?H ?hx ?hd ?he ?hv ?g ?hf ?ht ?_; (case C => walk_at "asm"); (case H => walk_at "asm"); (case hx => walk_at "got"); (case hd => walk_at "got"); (case he => walk_at "asm"); (case hv => exact rfl); (case g => k_is); (case hf => k_is); (case ht => k_is))))
local macro_rules | `(tactic| walk_at "goL") => `(tactic| first
  | ((with_reducible show wpAny _ _ (call (.builtin "list.append") [.ref _, _] _) _ _ _); refine' c_append ?H ?U ?n ?_; (case H => walk_at "asm"); (case U => walk_at "up"); (case n => walk_at "ar"); intro h' c' H'; (try dsimp only at H'))
  | ((with_reducible show wpAny _ _ (call (.builtin "list.pop") [.ref _, .int 0 _] _) _ _ _); refine' c_pop0 ?H ?U ?n ?_; (case H => walk_at "asm"); (case U => walk_at "up"); (case n => walk_at "ar"); intro h' c' H'; (try dsimp only at H'))
  | ((with_reducible show wpAny _ _ (call (.builtin "list.extend") [.ref _, .ref _] _) _ _ _); refine' c_extend ?H ?U ?b ?n ?m ?_; (case H => walk_at "asm"); (case U => walk_at "up"); (case b => walk_at "got"); (case n => walk_at "ar"); (case m => walk_at "ar"); intro h' c' H'; (try dsimp only at H'))
  | ((with_reducible show wpAny _ _ (call (.builtin "max") [.int _ _, .int _ _] _) _ _ _); refine' c_max ?C ?H ?_; (case C => walk_at "asm"); (case H => walk_at "asm"); intro h' tk' v' H')
  | ((with_reducible show wpAny _ _ (call (.builtin "min") [.int _ _, .int _ _] _) _ _ _); refine' c_min ?C ?H ?_; (case C => walk_at "asm"); (case H => walk_at "asm"); intro h' tk' v' H')
  | ((with_reducible show wpAny _ _ (call (.builtin "len") [.ref _] _) _ _ _); refine' c_len ?hl ?n ?_; (case hl => walk_at "got"); (case n => walk_at "ar"))
  | ((with_reducible show wpAny _ _ (truthy (.ref _)) _ _ _); refine' c_truth ?hl ?n ?_; (case hl => walk_at "got"); (case n => walk_at "ar"))
  | ((with_reducible show wpAny _ _ (newList _) _ _ _); refine' c_newList ?H ?n ?_; (case H => walk_at "asm"); (case n => walk_at "ar"); intro h' l' H')
  | ((with_reducible show wpAny _ _ (newTuple _) _ _ _); refine' c_newTuple ?H ?n ?_; (case H => walk_at "asm"); (case n => walk_at "ar"); intro h' l' H')
  | ((with_reducible show wpAny _ _ (setItem (.ref _) (.int _ _) _) _ _ _); refine' c_setItem ?H ?U ?z ?i ?n ?_; (case H => walk_at "asm"); (case U => walk_at "up"); (case z => walk_at "ar"); (case i => walk_at "ar"); (case n => walk_at "ar"); intro h' c' H'; (try dsimp only at H'))
  | ((with_reducible show wpAny _ _ (delItem (.ref _) (.int _ _)) _ _ _); refine' c_delItem ?H ?U ?z ?i ?n ?_; (case H => walk_at "asm"); (case U => walk_at "up"); (case z => walk_at "ar"); (case i => walk_at "ar"); (case n => walk_at "ar"); intro h' c' H'; (try dsimp only at H')))
local macro_rules | `(tactic| walk_at "it") => `(tactic| first | exact rfl | assumption)
local macro_rules | `(tactic| walk_at "go") => `(tactic| first
  | ((with_reducible show wpAny _ _ (eval _ _) _ _ _); walk_at "goE")
  | ((with_reducible show wpAny _ _ (exec _ _) _ _ _); walk_at "goX")
  | ((with_reducible show wpAny _ _ (PySem.isTrue _ _ _) _ _ _); walk_at "goT")
  | with_reducible refine' wpAny_execs_cons ?_
  | with_reducible refine' wpAny_execs_nil ?_
  | with_reducible refine' wpAny_deleteEach_nil ?_
  | with_reducible refine' wpAny_deleteEach_cons ?_
  | ((with_reducible show wpAny _ _ (delete (.Subscript _ _ _) _) _ _ _); refine' delete_Subscript ?_)
  | with_reducible refine' spliced_none ?_
  | ((with_reducible show wpAny _ _ (spliced (backTo _ (starEach (_ :: _) _))) _ _ _); refine' spliced_more ?_)
  | ((with_reducible show wpAny _ _ (storeName _ _ _) _ _ _); refine' p_stc ?C ?H ?x ?c ?U ?d ?_; (case C => walk_at "asm"); (case H => walk_at "asm"); (case x => exact rfl); (case c => exact rfl); (case U => walk_at "up"); (case d => walk_at "asm"); intro h' o' d' H'; (try dsimp only at H'))
  | ((with_reducible show wpAny _ _ (storeName _ _ _) _ _ _); refine' p_st ?C ?H ?hL ?x ?_; (case C => walk_at "asm"); (case H => walk_at "asm"); (case hL => exact rfl); (case x => exact rfl); (intro h' H'))
  | ((with_reducible show wpAny _ _ (loadName _ _) _ _ _); refine' p_ldc ?C ?x ?c ?o ?d ?_; (case C => walk_at "asm"); (case x => exact rfl); (case c => exact rfl); (case o => walk_at "got"); (case d => walk_at "asm"))
  | ((with_reducible show wpAny _ _ (loadName _ _) _ _ _); refine' p_ld ?C ?H ?x ?v ?_; (case C => walk_at "asm"); (case H => walk_at "asm"); (case x => exact rfl); (case v => exact rfl))
  | ((with_reducible show wpAny _ _ (callWith _ (.ref _) _ _ _) _ _ _); first
      | (refine' p_callWith ?C ?k ?_ ?e ?p; (case C => walk_at "asm"); (case k => k_is); (case e => exact rfl); (case p => exact rfl))
      | (refine' p_callWith0 ?C ?H ?k ?_; (case C => walk_at "asm"); (case H => walk_at "asm"); (case k => k_is)))
  | ((with_reducible show wpAny _ _ (callWith _ (.builtin _) _ _ _) _ _ _); first | with_reducible refine' callWith_method0 ?_ | refine' PyProof.Rows.callWith_builtin1 ?_ | refine' callWith_method1 ?_)
  | ((with_reducible show wpAny _ _ (callWith _ (.type _) _ _ _) _ _ _); first | refine' PyProof.Rows.callWith_type1 ?_ | refine' callWith_type0 ?_)
  | with_reducible refine' evalPart_some_step ?_
  | with_reducible refine' evalPart_none_step ?_
  | ((with_reducible show (∃ ps nw, Sx _ _ ps nw _) ∧ _); refine' And.intro (Exists.intro _ (Exists.intro _ ?H)) ?_; (case H => walk_at "asm"); try dsimp only [List.nil_append, List.cons_append])
  | ((with_reducible show wpAny _ _ (call _ (_ ++ _) _) _ _ _); dsimp only [List.cons_append, List.nil_append])
  | walk_at "goS"
  | walk_at "goA"
  | walk_at "goL"
  | walk_at "goO"
  | with_reducible refine' ite_tt ?_
  | with_reducible refine' ite_ff ?_
  | dsimp only)
local macro_rules | `(tactic| walk_at "enter") => `(tactic| (refine' callK0 ?C ?H ?o ?c ?b ?l ?x ?x1 ?x2 ?x3 ?_; (case C => walk_at "asm"); (case H => walk_at "asm"); (case o => k_is); (case c => k_is); (case b => exact BindsTo.of_eq rfl); (case l => exact locs rfl); (case x => decide); (case x1 => rfl); (case x2 => rfl); (case x3 => rfl)))
local macro_rules | `(tactic| walk_at "enterM") => `(tactic| (refine' callK ?C ?H ?hp ?o ?c ?b ?l ?x ?x1 ?x2 ?x3 ?_; (case C => walk_at "asm"); (case H => walk_at "asm"); (case hp => assumption); (case o => k_is); (case c => k_is); (case b => exact BindsTo.of_eq rfl); (case l => exact locs rfl); (case x => decide); (case x1 => rfl); (case x2 => rfl); (case x3 => rfl)))
local macro_rules | `(tactic| walk_at "enterR") => `(tactic| (refine' codeK ?C ?H ?hp ?o ?c ?b ?l ?x ?x1 ?x2 ?x3 ?_; (case C => walk_at "asm"); (case H => walk_at "asm"); (case hp => assumption); (case o => k_is); (case c => k_is); (case b => exact BindsTo.of_eq rfl); (case l => exact locs rfl); (case x => decide); (case x1 => rfl); (case x2 => rfl); (case x3 => rfl)))
local macro_rules | `(tactic| walk_at "enterC") => `(tactic| (refine' wpAny_call (codeC ?C ?H ?hp ?o ?c ?b ?l ?nd (psL := []) pl_nil ?_ ?x1 ?x2 ?x3); (case C => walk_at "asm"); (case H => walk_at "asm"); (case hp => assumption); (case o => k_is); (case c => k_is); (case b => exact BindsTo.of_eq rfl); (case l => exact rfl); (case nd => decide +kernel); (case x1 => rfl); (case x2 => rfl); (case x3 => rfl)))
local macro_rules | `(tactic| walk_at "pl") => `(tactic| first | exact pl_nil | (refine' pl_cons ?plA ?plB; (case plA => exact rfl); (case plB => walk_at "pl")))
local macro_rules | `(tactic| walk_at "enterRp") => `(tactic| (refine' codeK ?C ?H ?hp ?o ?c ?b ?l ?x ?x1 ?x2 ?x3 ?_; (case C => walk_at "asm"); (case H => walk_at "asm"); (case hp => walk_at "perm"); (case o => k_is); (case c => k_is); (case b => exact BindsTo.of_eq rfl); (case l => exact locs rfl); (case x => decide); (case x1 => rfl); (case x2 => rfl); (case x3 => rfl)))
local macro_rules | `(tactic| walk_at "perms") => `(tactic| first | exact List.Perm.refl _ | (refine' pkc ?prA ?prB; (case prA => walk_at "pick"); (case prB => walk_at "perms")))
local macro_rules | `(tactic| walk_at "goI") => `(tactic| ((fail_if_success (with_reducible show wpAny _ _ (execs (Stmt.If _ _ _ _ :: _) _) _ _ _)); walk_at "go"))

namespace Mine
theorem strcoll_spec {w : World} {n : Nat} {A : Around} {env : Env} {g : Heap} {ps : List (PySem.Str × Value)} {nw : List (Addr × Obj)} {h : Heap} {G : Array GenState} {D : Drawn} {tk₀ : Nat} {O : OsState} {Q : Value → Shared → Prop} {E : Value → Shared → Prop} {x y : PySem.Str} {t u : Nat}
    (C : Cal w (n + 1) A env g) (H : Sx g env.locals ps nw h) (k : ∀ h' v t tk, v = (.int (b2i (decide (y.cps.toList < x.cps.toList)) - b2i (decide (x.cps.toList < y.cps.toList))) t : Value) → Sx g env.locals ps nw h' → Q v ⟨h', G, D, tk, O⟩) :
    wpAny (model PySem.Challenge.rw_wk0011_01.row.prog w) A (call (.ref 21) [.str x t, .str y u] []) Q E ⟨h, G, D, tk₀, O⟩ := by
  walk_at "enter"
  intro g' L' h₁ tk A' htk C' H' keep
  clear C H
  replace H' : Sx g' L' [("b", .str y u), ("a", .str x t)] [] h₁ := H'
  repeat' walk_at "go"
  exact ⟨_, _, _, _, rfl, H', fun H'' => k _ _ _ _ rfl H''⟩
end Mine

namespace Mine
theorem S1_blank (c : Nat) : (S [c] == PySem.Str.ofString " ") = (c == 32) := by
  rw [blank_is, S_beq]
  by_cases q : c = 32 <;> simp [q]
theorem strip_end {a b c d m k' k'' : Nat} (hk' : k' = min a m) (hk'' : k'' = min b (m - k')) :
    List.take ((((a + 2 + b : Nat) : Int) - 1 - (k'' : Nat) + 1).toNat - ((k' : Nat) : Int).toNat) (List.drop ((k' : Nat) : Int).toNat (wd a b c d)) = wd (a - m) (b - (m - a)) c d := by
  have e0 : (((a + 2 + b : Nat) : Int) - 1 - (k'' : Nat) + 1).toNat = a + 2 + b - k'' := by clear hk' hk''; omega
  rw [e0, Int.toNat_natCast]
  clear e0
  rcases Nat.le_total m a with h | h
  · rw [Nat.min_eq_right h] at hk'
    subst hk'
    rw [Nat.sub_self, Nat.min_zero] at hk''
    subst hk''
    rw [Nat.sub_eq_zero_of_le h, Nat.sub_zero, Nat.sub_zero, wd_cut h (by omega) (by omega)]
    have : a + 2 + b - k' - (a - k' + 2) = b := by omega
    rw [this]
  · rw [Nat.min_eq_left h] at hk'
    subst hk'
    have hb : k'' ≤ b := hk'' ▸ Nat.min_le_left _ _
    have e : b - (m - k') = b - k'' := by rw [hk'']; exact Nat.sub_eq_sub_min _ _
    rw [Nat.sub_eq_zero_of_le h, e]
    clear e hk'' h
    rw [wd_cut (Nat.le_refl _) (by omega) (by omega), Nat.sub_self]
    have : k' + 2 + b - k'' - k' - (0 + 2) = b - k'' := by omega
    rw [this]
theorem strip_spec {w : World} {n : Nat} {A : Around} {env : Env} {g : Heap} {ps : List (PySem.Str × Value)} {nw : List (Addr × Obj)} {h : Heap} {G : Array GenState} {D : Drawn} {tk₀ : Nat} {O : OsState} {Q : Value → Shared → Prop} {E : Value → Shared → Prop} {a b c d m : Nat} {t u : Nat}
    (C : Cal w (n + 1) A env g) (H : Sx g env.locals ps nw h) (hc : c ≠ 32) (hd : d ≠ 32) (hm : m ≤ 1000) (hab : a + b ≤ 1000)
    (k : ∀ h' t tk, Sx g env.locals ps nw h' → Q (.str (S (wd (a - m) (b - (m - a)) c d)) t) ⟨h', G, D, tk, O⟩) :
    wpAny (model PySem.Challenge.rw_wk0011_01.row.prog w) A (call (.ref 28) [.str (S (wd a b c d)) t, .int (m : Int) u] []) Q E ⟨h, G, D, tk₀, O⟩ := by
  walk_at "enter"
  intro g' L' h₁ tk A' htk C' H' keep
  clear C H
  replace H' : Sx g' L' [("amount", .int (m : Int) u), ("s", .str (S (wd a b c d)) t)] [] h₁ := H'
  have hlen := wd_length a b c d
  have hS := S_length (wd a b c d)
  refine' genQ ?_; intro Z hZ
  repeat' walk_at "go"
  rename_i h₂ H₂
  clear H'
  refine p_whileP (fun j s' => ∃ k h t1 t2 tk, s' = (⟨h, G, D, tk, O⟩ : Shared) ∧ Sx g' L' [("lpos", .int ((k : Nat) : Int) t1), ("amount", .int ((m : Int) - (k : Nat)) t2), ("s", .str (S (wd a b c d)) t)] [] h ∧ k ≤ a ∧ k ≤ m ∧ j = m - k)
    (fun s' => ∃ k h t1 t2 tk, s' = (⟨h, G, D, tk, O⟩ : Shared) ∧ Sx g' L' [("lpos", .int ((k : Nat) : Int) t1), ("amount", .int ((m : Int) - (k : Nat)) t2), ("s", .str (S (wd a b c d)) t)] [] h ∧ k = min a m)
    m ⟨0, h₂, _, u, _, rfl, by simpa using H₂, by omega, by omega, by omega⟩ ?_ ?_
  · clear H₂
    rintro s' ⟨k', h, t1, t2, tk', rfl, Hw, hk'⟩
    repeat' walk_at "go"
    rename_i h₃ H₃
    clear Hw
    refine p_whileP (fun j s' => ∃ k h t1 t2 t3 tk, s' = (⟨h, G, D, tk, O⟩ : Shared) ∧ Sx g' L' [("rpos", .int (((a + 2 + b : Nat) : Int) - 1 - (k : Nat)) t3), ("lpos", .int ((k' : Nat) : Int) t1), ("amount", .int (((m - k' : Nat) : Int) - (k : Nat)) t2), ("s", .str (S (wd a b c d)) t)] [] h ∧ k ≤ b ∧ k ≤ m - k' ∧ j = m - k' - k)
      (fun s' => ∃ k h t1 t2 t3 tk, s' = (⟨h, G, D, tk, O⟩ : Shared) ∧ Sx g' L' [("rpos", .int (((a + 2 + b : Nat) : Int) - 1 - (k : Nat)) t3), ("lpos", .int ((k' : Nat) : Int) t1), ("amount", .int (((m - k' : Nat) : Int) - (k : Nat)) t2), ("s", .str (S (wd a b c d)) t)] [] h ∧ k = min b (m - k'))
      (m - k') ⟨0, h₃, _, _, _, _, rfl, H₃.locs (by walk_at "lk"), by omega, by omega, by omega⟩ ?_ ?_
    · clear H₃
      rintro s' ⟨k'', h, t1, t2, t3, tk', rfl, Hw, hk''⟩
      repeat' walk_at "go"
      rename_i h₄ t₄ tk₄ H₄
      refine hZ _ _ ⟨_, _, _, _, rfl, H₄.sub (List.nil_sublist _), fun H'' => ?_⟩
      rw [strip_end hk' hk'']
      exact k _ _ _ H''
    · rintro j s' ⟨k'', h, t1, t2, t3, tk', rfl, Hw, hkb, hkm, rfl⟩
      repeat' walk_at "go"
      refine iteD (fun hb => ?_) (fun hb => ?_)
      · have hlt : k'' < m - k' := by simp at hb; omega
        repeat' walk_at "go"
        rw [S1_blank]
        have e : ((((a + 2 + b : Nat) : Int) - 1 - (k'' : Nat)).toNat) = a + 1 + b - k'' := by omega
        rw [e]
        refine iteD (fun hq => ?_) (fun hq => ?_)
        · have hlt2 : k'' < b := by
            rcases Nat.lt_or_ge k'' b with h1 | h1
            · exact h1
            · have : k'' = b := by omega
              subst this
              have : a + 1 + k'' - k'' = a + 1 := by omega
              rw [this, wd_mid'] at hq
              exact absurd (by simpa using hq) hd
          repeat' walk_at "go"
          rename_i H₄
          exact ⟨m - k' - (k'' + 1), by omega, k'' + 1, _, _, _, _, _, rfl, H₄.locs (by walk_at "lk"), by omega, by omega, rfl⟩
        · have hge : k'' = b := by
            rcases Nat.lt_or_ge k'' b with h1 | h1
            · rw [wd_right (by omega) (by omega)] at hq; simp at hq
            · omega
          exact ⟨k'', _, _, _, _, _, rfl, Hw, by omega⟩
      · exact ⟨k'', _, _, _, _, _, rfl, Hw, by simp at hb; omega⟩
  clear H₂
  rintro j s' ⟨k', h, t1, t2, tk', rfl, Hw, hka, hkm, rfl⟩
  repeat' walk_at "go"
  refine iteD (fun hb => ?_) (fun hb => ?_)
  · have hlt : k' < m := by simp at hb; omega
    repeat' walk_at "go"
    rw [S1_blank, Int.toNat_natCast]
    refine iteD (fun hq => ?_) (fun hq => ?_)
    · have hlt2 : k' < a := by
        rcases Nat.lt_or_ge k' a with h1 | h1
        · exact h1
        · have : k' = a := by omega
          subst this
          rw [wd_mid] at hq
          exact absurd (by simpa using hq) hc
      repeat' walk_at "go"
      rename_i H₄
      exact ⟨m - (k' + 1), by omega, k' + 1, _, _, _, _, rfl, H₄.locs (by walk_at "lk"), by omega, by omega, rfl⟩
    · have hge : k' = a := by
        rcases Nat.lt_or_ge k' a with h1 | h1
        · rw [wd_left h1] at hq; simp at hq
        · omega
      exact ⟨k', _, _, _, _, rfl, Hw, by omega⟩
  · exact ⟨k', _, _, _, _, rfl, Hw, by simp at hb; omega⟩
end Mine

namespace Mine
/-- how many of the signs are d -/
noncomputable def cnt (d : Nat) (l : List Nat) : Nat := l.countP (· == d)
theorem cnt_snoc (d : Nat) (l : List Nat) (c : Nat) : cnt d (l ++ [c]) = cnt d l + (if c = d then 1 else 0) := by
  simp [cnt, List.countP_append, List.countP_cons]
theorem count_spec {w : World} {n : Nat} {A : Around} {env : Env} {g : Heap} {ps : List (PySem.Str × Value)} {nw : List (Addr × Obj)} {h : Heap} {G : Array GenState} {D : Drawn} {tk₀ : Nat} {O : OsState} {Q : Value → Shared → Prop} {E : Value → Shared → Prop} {l : List Nat} {d : Nat} {t v : Nat}
    (C : Cal w (n + 1) A env g) (H : Sx g env.locals ps nw h) (hl : l.all (· < 128) = true) (hv : 0 < v) (hvt : v < tk₀)
    (k : ∀ h' t tk, Sx g env.locals ps nw h' → Q (.int (cnt d l : Nat) t) ⟨h', G, D, tk, O⟩) :
    wpAny (model PySem.Challenge.rw_wk0011_01.row.prog w) A (call (.ref 77) [.str (S l) t, .str (S [d]) v] []) Q E ⟨h, G, D, tk₀, O⟩ := by
  walk_at "enter"
  intro g' L' h₁ tk A' htk C' H' keep
  clear C H
  replace H' : Sx g' L' [("b", .str (S [d]) v), ("a", .str (S l) t)] [] h₁ := H'
  repeat' walk_at "go"
  rename_i h₂ H₂
  clear H'
  refine p_for_str (fun i (ps' : PS) (nw' : LG) => ∃ t1, ps' = ([("count", .int (cnt d (l.take i) : Nat) t1), ("b", .str (S [d]) v)] : PS) ∧ nw' = []) C' rfl (H₂.locs (ps' := [("count", .int 0 tk), ("b", .str (S [d]) v)]) (by walk_at "lk")) rfl hl ⟨_, rfl, rfl⟩ ?_ ?_
  · rintro i c u ps' nw' h' tk' io hc hu hu' ⟨t1, rfl, rfl⟩ Hw
    have hs : l.take (i + 1) = l.take i ++ [c] := by rw [List.take_add_one, hc]; rfl
    repeat' walk_at "go"
    refine c_is C' Hw (by omega) hv (by omega) fun b hb => ?_
    by_cases hcd : c = d
    · have e : cnt d (l.take (i + 1)) = cnt d (l.take i) + 1 := by rw [hs, cnt_snoc, if_pos hcd]
      refine wpAny_truthy_bool (iteD (fun hb' => ?_) (fun hb' => ?_))
      · repeat' walk_at "go"
        rename_i H₄
        exact ⟨_, _, _, [], rfl, H₄.locs (by walk_at "lk"), _, rfl, rfl⟩
      · repeat' walk_at "go"
        refine iteT (by rw [S_beq]; simp [hcd]) ?_
        repeat' walk_at "go"
        rename_i H₄
        exact ⟨_, _, _, [], rfl, H₄.locs (by walk_at "lk"), _, rfl, rfl⟩
    · have e : cnt d (l.take (i + 1)) = cnt d (l.take i) := by rw [hs, cnt_snoc, if_neg hcd]; rfl
      refine wpAny_truthy_bool (iteF ?_ ?_)
      · cases b with
        | false => rfl
        | true => exact absurd (by simpa using S_inj.mp (hb rfl)) hcd
      repeat' walk_at "go"
      refine iteF (by rw [S_beq]; simp [hcd]) ?_
      repeat' walk_at "go"
      exact ⟨_, _, _, [], rfl, Hw.locs (by walk_at "lk"), _, rfl, rfl⟩
  · rintro ps' nw' h' tk' ⟨t1, rfl, rfl⟩ Hw
    rw [List.take_length] at Hw
    repeat' walk_at "go"
    exact ⟨_, _, _, _, rfl, Hw, fun H'' => k _ _ _ H''⟩
end Mine

namespace Mine
section
variable {w : World} {n : Nat} {A : Around} {env : Env} {g : Heap} {ps : PS} {nw fz : LG} {h : Heap} {G : Array GenState} {D : Drawn} {tk₀ : Nat} {O : OsState} {Q : Value → Shared → Prop} {E : Value → Shared → Prop} {l : Addr} {vs : List Value} {c i u : Nat} {x : Value}
theorem getitem_spec (C : Cal w (n + 1) A env g) (H : Sx g env.locals ps nw h) (hl : h.get? l = some (lstObj vs c)) (hx : vs[i]? = some x) (hn : vs.length ≤ 1000)
    (k : ∀ h' tk, Sx g env.locals ps nw h' → Q x ⟨h', G, D, tk, O⟩) :
    wpAny (model PySem.Challenge.rw_wk0011_01.row.prog w) A (call (.ref 91) [.ref l, .int (i : Nat) u] []) Q E ⟨h, G, D, tk₀, O⟩ := by
  walk_at "enter"
  intro g' L' h₁ tk A' htk C' H' keep
  have hl' := keep _ _ hl
  replace H' : Sx g' L' [("b", .int (i : Nat) u), ("a", .ref l)] [] h₁ := H'
  have hx' : vs[(i : Int).toNat]? = some x := hx
  clear hl hx C H
  repeat' walk_at "go"
  exact ⟨_, _, _, _, rfl, H', fun H'' => k _ _ H''⟩
theorem setitem_spec (C : Cal w (n + 1) A env g) (H : Sx g env.locals ps nw h) (hp : nw.Perm ([(l, lstObj vs c)] ++ fz)) (hi : i < vs.length) (hn : vs.length ≤ 1000)
    (k : ∀ h' c' tk, Sx g env.locals ps ((l, lstObj (vs.set i x) c') :: fz) h' → Q .none ⟨h', G, D, tk, O⟩) :
    wpAny (model PySem.Challenge.rw_wk0011_01.row.prog w) A (call (.ref 98) [.ref l, .int (i : Nat) u, x] []) Q E ⟨h, G, D, tk₀, O⟩ := by
  walk_at "enterM"
  intro g' L' h₁ tk A' htk C' H' keep
  replace H' : Sx g' L' [("c", x), ("b", .int (i : Nat) u), ("a", .ref l)] [(l, lstObj vs c)] h₁ := H'
  clear C H keep
  repeat' walk_at "go"
  exact ⟨_, _, _, _, rfl, by assumption, fun H'' => k _ _ _ H''⟩
theorem delitem_spec (C : Cal w (n + 1) A env g) (H : Sx g env.locals ps nw h) (hp : nw.Perm ([(l, lstObj vs c)] ++ fz)) (hi : i < vs.length) (hn : vs.length ≤ 1000)
    (k : ∀ h' c' tk, Sx g env.locals ps ((l, lstObj (vs.eraseIdx i) c') :: fz) h' → Q .none ⟨h', G, D, tk, O⟩) :
    wpAny (model PySem.Challenge.rw_wk0011_01.row.prog w) A (call (.ref 84) [.ref l, .int (i : Nat) u] []) Q E ⟨h, G, D, tk₀, O⟩ := by
  walk_at "enterM"
  intro g' L' h₁ tk A' htk C' H' keep
  replace H' : Sx g' L' [("b", .int (i : Nat) u), ("a", .ref l)] [(l, lstObj vs c)] h₁ := H'
  clear C H keep
  repeat' walk_at "go"
  exact ⟨_, _, _, _, rfl, by assumption, fun H'' => k _ _ _ H''⟩
end
end Mine

namespace Mine
noncomputable def endAt (ws : List Wk) : Nat := ws.foldl (fun e w => max e w.come + w.n) 0
theorem forms_len (w : Wk) : w.forms.length = w.n := by simp [Wk.forms]
section
variable {w : World} {n : Nat} {A : Around} {env : Env} {g : Heap} {ps : PS} {nw fz : LG} {h : Heap} {G : Array GenState} {D : Drawn} {tk₀ : Nat} {O : OsState} {Q : Value → Shared → Prop} {E : Value → Shared → Prop} {wl : Addr} {ws : List Wk}
theorem end_spec (C : Cal w (n + 1) A env g) (H : Sx g env.locals ps nw h) (hw : WorksP (At h) wl ws) (hn : ∀ wk ∈ ws, wk.n ≤ 1000)
    (k : ∀ h' tk t, Sx g env.locals ps nw h' → Q (.int ((endAt ws + 1 : Nat) : Int) t) ⟨h', G, D, tk, O⟩) :
    wpAny (model PySem.Challenge.rw_wk0011_01.row.prog w) A (call (.ref 119) [.ref wl] []) Q E ⟨h, G, D, tk₀, O⟩ := by
  walk_at "enter"
  intro g' L' h₁ tk A' htk C' H' keep
  have hw' : WorksP (At g') wl ws := hw.mono fun a o _ e => keep _ _ e
  replace H' : Sx g' L' [("works", .ref wl)] [] h₁ := H'
  clear C H keep hw
  repeat' walk_at "go"
  rename_i h₂ H₂
  refine p_for_works (fun i (ps' : PS) (nw' : LG) => ∃ t1, ps' = ([("end", .int ((endAt (ws.take i) : Nat) : Int) t1), ("works", .ref wl)] : PS) ∧ nw' = []) C' rfl H₂ rfl rfl rfl hw' ⟨_, rfl, rfl⟩ ?_ ?_
  · rintro i wk t1 t2 fa vs c ps' nw' h' tk' io hwk hf hs ⟨t3, rfl, rfl⟩ Hw
    have hlen : vs.length = wk.n := by rw [hs.len_eq, List.length_map, forms_len]
    have hb := hn wk (List.mem_of_getElem? hwk)
    clear H' H₂
    repeat' walk_at "go"
    rename_i H₃
    have e : endAt (ws.take (i + 1)) = max (endAt (ws.take i)) wk.come + wk.n := by
      rw [List.take_add_one, hwk]; simp [endAt]
    exact ⟨_, _, _, [], rfl, H₃.locs (by walk_at "lk"), _, rfl, rfl⟩
  · rintro ps' nw' h' tk' ⟨t1, rfl, rfl⟩ Hw
    rw [List.take_length] at Hw
    repeat' walk_at "go"
    exact ⟨_, _, _, _, rfl, Hw, fun H'' => k _ _ _ H''⟩
end
end Mine

namespace Mine
section
variable {w : World} {n : Nat} {A : Around} {env : Env} {g : Heap} {ps : PS} {nw fz : LG} {h : Heap} {G : Array GenState} {D : Drawn} {tk₀ : Nat} {O : OsState} {R : Result → Shared → Prop} {X : Lx} {page : List Nat} {es : List DictEntry} {m c₂ t₂ p ln t u : Nat}
theorem read_char_code (ok : X.Ok w page) (C : Cal w (n + 2) A env g) (H : Sx g env.locals ps nw h) (hp : nw.Perm ([(X.dx, dictOf es m), (X.at_, lstObj [.int (p : Nat) t₂] c₂)] ++ fz)) (he : EsAre (lexKv X ln t u) es) (hi : X.In h) (hlt : p < page.length)
    (k : ∀ h' tk es' m' c' t' t₃ v, EsAre (lexKv X (if page.getD p 0 = 10 then ln + 1 else ln) t' u) es' → Sx g env.locals ps ((X.dx, dictOf es' m') :: (X.at_, lstObj [.int ((p + 1 : Nat) : Int) t₃] c') :: fz) h' → R (.ok (.ret (.str (S [page.getD p 0]) v))) ⟨h', G, D, tk, O⟩) :
    codeAny (model PySem.Challenge.rw_wk0011_01.row.prog w) A (.call (.ref 49) ⟨[.ref X.x], []⟩) R ⟨h, G, D, tk₀, O⟩ := by
  walk_at "enterR"
  intro g' L' h₁ tk A' htk C' H' keep
  have hi' : X.In g' := hi.down ok keep (by simp)
  replace H' : Sx g' L' [("self", .ref X.x)] [(X.dx, dictOf es m), (X.at_, lstObj [.int (p : Nat) t₂] c₂)] h₁ := H'
  clear C H keep hp hi
  have hx := hi'.x
  have he' : EsAre [("lineno", .int (ln : Nat) t), ("instream", .ref X.st), ("whitespace", .str (S [10, 9, 13, 32]) u), ("pushback", .ref X.pb)] es := he
  clear he
  repeat' walk_at "go"
  have hh := hi'.up H'
  obtain ⟨fd, hfd⟩ := ok.fn
  obtain ⟨mm, hns, hread⟩ := ok.ns h₁ hh.ds
  obtain ⟨fd', hfd'⟩ := ok.frF
  refine c_fmeth hh.st ok.cls ok.dict hfd hns hread rfl ?_
  dsimp only
  have hFn : FnAt X.fr h₁ := ⟨X.frO.cls, X.frO.dict, fd', X.frO.slots, by rw [← hfd']; exact hh.fr⟩
  refine callWith_F (s := ⟨h₁, G, D, _, O⟩) hFn ?_ rfl rfl
  repeat' walk_at "go"
  refine ⟨hFn, ?_⟩
  refine ok.reads C' H' (List.Perm.swap _ _ _) hh hlt fun h' tk' t' u' c' H' => ?_
  repeat' walk_at "go"
  rw [show PySem.Str.ofString "\n" = S [10] by decide +kernel, S_beq]
  by_cases hc : page.getD p 0 = 10
  · rw [if_pos hc] at k
    refine iteT (by rw [hc]; rfl) ?_
    repeat' walk_at "go"
    rename_i hE HE
    have hE' : EsAre (lexKv X (ln + 1) _ u) _ := hE
    exact ⟨_, _, _, [(X.dx, _), (X.at_, _)], rfl, HE.perm (List.Perm.swap _ _ _), fun H'' => k _ _ _ _ _ _ _ _ hE' H''⟩
  · rw [if_neg hc] at k
    refine iteF (by simpa using hc) ?_
    repeat' walk_at "go"
    rename_i HE
    exact ⟨_, _, _, [(X.dx, _), (X.at_, _)], rfl, HE.perm (List.Perm.swap _ _ _), fun H'' => k _ _ _ _ _ _ _ _ he' H''⟩
theorem read_char_spec {Q E : Value → Shared → Prop} (ok : X.Ok w page) (C : Cal w (n + 2) A env g) (H : Sx g env.locals ps nw h) (hp : nw.Perm ([(X.dx, dictOf es m), (X.at_, lstObj [.int (p : Nat) t₂] c₂)] ++ fz)) (he : EsAre (lexKv X ln t u) es) (hi : X.In h) (hlt : p < page.length)
    (k : ∀ h' tk es' m' c' t' t₃ v, EsAre (lexKv X (if page.getD p 0 = 10 then ln + 1 else ln) t' u) es' → Sx g env.locals ps ((X.dx, dictOf es' m') :: (X.at_, lstObj [.int ((p + 1 : Nat) : Int) t₃] c') :: fz) h' → Q (.str (S [page.getD p 0]) v) ⟨h', G, D, tk, O⟩) :
    wpAny (model PySem.Challenge.rw_wk0011_01.row.prog w) A (call (.ref 49) [.ref X.x] []) Q E ⟨h, G, D, tk₀, O⟩ :=
  wpAny_call (read_char_code ok C H hp he hi hlt k)
end
end Mine

namespace Mine
section
variable {w : World} {n : Nat} {A : Around} {env : Env} {g : Heap} {ps : PS} {nw fz : LG} {h : Heap} {G : Array GenState} {D : Drawn} {tk₀ : Nat} {O : OsState} {Q : Value → Shared → Prop} {E : Value → Shared → Prop} {X : Lx} {page : List Nat} {es : List DictEntry} {m c₁ c₂ t₂ p ln t u : Nat} {q : List Value} {v : Value} {ao : Obj}
theorem push_spec (ok : X.Ok w page) (C : Cal w (n + 2) A env g) (H : Sx g env.locals ps nw h) (hp : nw.Perm ([(X.dx, dictOf es m), (X.pb, lstObj q c₁), (X.at_, ao)] ++ fz)) (he : EsAre (lexKv X ln t u) es) (hi : X.In h) (hq : q.length ≤ 1000)
    (k : ∀ h' tk c', Sx g env.locals ps ((X.dx, dictOf es m) :: (X.pb, lstObj (q ++ [v]) c') :: (X.at_, ao) :: fz) h' → Q .none ⟨h', G, D, tk, O⟩) :
    wpAny (model PySem.Challenge.rw_wk0011_01.row.prog w) A (call (.ref 63) [.ref X.x, v] []) Q E ⟨h, G, D, tk₀, O⟩ := by
  walk_at "enterM"
  intro g' L' h₁ tk A' htk C' H' keep
  have hi' : X.In g' := hi.down ok keep (by simp)
  replace H' : Sx g' L' [("token", v), ("self", .ref X.x)] [(X.dx, dictOf es m), (X.pb, lstObj q c₁), (X.at_, ao)] h₁ := H'
  clear C H keep hp hi
  have hx := hi'.x
  have he' : EsAre [("lineno", .int (ln : Nat) t), ("instream", .ref X.st), ("whitespace", .str (S [10, 9, 13, 32]) u), ("pushback", .ref X.pb)] es := he
  clear he
  repeat' walk_at "go"
  rename_i HE
  exact ⟨_, _, _, _, rfl, HE, fun H'' => k _ _ _ H''⟩
theorem token_spec (ok : X.Ok w page) (C : Cal w (n + 2) A env g) (H : Sx g env.locals ps nw h) (hp : nw.Perm ([(X.dx, dictOf es m), (X.pb, lstObj (v :: q) c₁), (X.at_, ao)] ++ fz)) (he : EsAre (lexKv X ln t u) es) (hi : X.In h) (hq : q.length ≤ 1000)
    (k : ∀ h' tk c', Sx g env.locals ps ((X.dx, dictOf es m) :: (X.pb, lstObj q c') :: (X.at_, ao) :: fz) h' → Q v ⟨h', G, D, tk, O⟩) :
    wpAny (model PySem.Challenge.rw_wk0011_01.row.prog w) A (call (.ref 56) [.ref X.x] []) Q E ⟨h, G, D, tk₀, O⟩ := by
  walk_at "enterM"
  intro g' L' h₁ tk A' htk C' H' keep
  have hi' : X.In g' := hi.down ok keep (by simp)
  replace H' : Sx g' L' [("self", .ref X.x)] [(X.dx, dictOf es m), (X.pb, lstObj (v :: q) c₁), (X.at_, ao)] h₁ := H'
  clear C H keep hp hi
  have hx := hi'.x
  have he' : EsAre [("lineno", .int (ln : Nat) t), ("instream", .ref X.st), ("whitespace", .str (S [10, 9, 13, 32]) u), ("pushback", .ref X.pb)] es := he
  clear he
  repeat' walk_at "go"
  refine iteT rfl ?_
  repeat' walk_at "go"
  rename_i HE
  exact ⟨_, _, _, _, rfl, HE, fun H'' => k _ _ _ H''⟩
end
end Mine

namespace Mine
noncomputable def page9 : List Nat := [46, 10, 34, 46, 34, 32, 92, 46, 10]
noncomputable def page : List Nat := (List.replicate 4 page9).flatten
theorem page_at : ∀ i, i < 4 → ∀ j, j < 9 → page.getD (9 * i + j) 0 = page9.getD j 0 := by decide
theorem page_len : page.length = 36 := by decide
section
variable {w : World} {n : Nat} {A : Around} {env : Env} {g : Heap} {ps : PS} {nw fz : LG} {h : Heap} {G : Array GenState} {D : Drawn} {tk₀ : Nat} {O : OsState} {Q : Value → Shared → Prop} {E : Value → Shared → Prop} {X : Lx} {page : List Nat} {es : List DictEntry} {m c₁ c₂ t₂ p ln t u : Nat} {q : List Value} {v : Value} {ao : Obj}
theorem fn49 (C : Cal w n A env g) (H : Sx g env.locals ps nw h) : ∃ fo fd, h.get? 49 = some fo ∧ fo.data = .func fd := by
  have : ∀ {oc : Value} {od : Option Addr} {fd : FuncData} {osl : Array (Option Value)}, (hd.heap_1 w.params).lookup 49 = some ⟨oc, od, .func fd, osl⟩ → ∃ fo fd, h.get? 49 = some fo ∧ fo.data = .func fd := fun e => ⟨_, _, H.old (C.kin _ _ e), rfl⟩
  refine' this ?a
  case a => k_is
theorem lex_draw {x : PySem.Str} {px : Pos} {it mm : Addr} {t0 : Nat} {N : Shared → Prop} {K : Unit → Shared → Prop} (ok : X.Ok w page) (C : Cal w (n + 3) A env g) (hx : env.kindOf x = some .local) (H : Sx g env.locals ps nw h)
    (hp : nw.Perm ([(X.dx, dictOf es m), (X.at_, lstObj [.int (p : Nat) t₂] c₂)] ++ fz)) (hit : (it, citObj mm (S []) t0) ∈ fz) (hmm : (mm, methodObj (.ref 49) (.ref X.x)) ∈ fz) (he : EsAre (lexKv X ln t u) es) (hi : X.In h) (hlt : p < page.length)
    (k : ∀ h' tk es' m' c' t' t₃ v, EsAre (lexKv X (if page.getD p 0 = 10 then ln + 1 else ln) t' u) es' → Sx g env.locals ((x, .str (S [page.getD p 0]) v) :: ps) ((X.dx, dictOf es' m') :: (X.at_, lstObj [.int ((p + 1 : Nat) : Int) t₃] c') :: fz) h' → K () ⟨h', G, D, tk, O⟩) :
    wpAny (model PySem.Challenge.rw_wk0011_01.row.prog w) A (pyNext (.ref it)) (fun r s₁ => match r with
        | none => N s₁
        | some v => wpAny (model PySem.Challenge.rw_wk0011_01.row.prog w) A (letOwnedTupleGo (.Name x px) (.ref it) v) (fun _ s₁' => wpAny (model PySem.Challenge.rw_wk0011_01.row.prog w) A (assign (.Name x px) env v) K NoE s₁') NoE s₁) NoE ⟨h, G, D, tk₀, O⟩ := by
  obtain ⟨fo, fd, h49, hfd⟩ := fn49 C H
  have H' := H.perm hp
  refine c_nextcit (H'.get (List.mem_append_right _ hit)) (H'.get (List.mem_append_right _ hmm)) h49 hfd ?_
  refine read_char_code ok (Cal.in1 C) H hp he hi hlt fun h' tk es' m' c' t' t₃ v he' Hn => ?_
  refine ⟨_, _, rfl, (fun e => by rw [S_inj] at e; cases e), Hn.get (.tail _ (.tail _ hit)), ?_⟩
  exact wpAny_of_eq (rfl : letOwnedTupleGo (.Name x px) (.ref it) _ = pure ()) (wpAny_assign_Name (p_st C Hn rfl hx fun h'' H'' => k _ _ _ _ _ _ _ _ he' H''))

theorem fin_tok {L : Addr} {d a b e f : Addr} {o1 o2 o3 o4 o5 : Obj} (H : Sx g L ps ((d, o1) :: (a, o2) :: ([(b, o4), (e, o5), (f, o3)] : LG)) h) : Sx g L ps [(d, o1), (f, o3), (a, o2)] h :=
  (H.perm (nw' := [(d, o1), (f, o3), (a, o2)] ++ [(b, o4), (e, o5)]) (by walk_at "perm")).sub (List.sublist_append_left _ _)
set_option maxHeartbeats 2000000 in
theorem token_read {i r : Nat} (ok : X.Ok w Mine.page) (C : Cal w (n + 4) A env g) (H : Sx g env.locals ps nw h) (hi4 : i < 4) (hr : r < 3) (hpos : p = 9 * i + [0, 2, 5].getD r 0) (hp : nw.Perm ([(X.dx, dictOf es m), (X.pb, lstObj [] c₁), (X.at_, lstObj [.int (p : Nat) t₂] c₂)] ++ fz)) (he : EsAre (lexKv X ln t u) es) (hi : X.In h)
    (k : ∀ h' tk es' m' c' c'' t' t₃ v, EsAre (lexKv X (ln + [1, 0, 1].getD r 0) t' u) es' → Sx g env.locals ps ((X.dx, dictOf es' m') :: (X.pb, lstObj [] c'') :: (X.at_, lstObj [.int ((9 * i + [2, 5, 9].getD r 0 : Nat) : Int) t₃] c') :: fz) h' → Q (.str (S [46]) v) ⟨h', G, D, tk, O⟩) :
    wpAny (model PySem.Challenge.rw_wk0011_01.row.prog w) A (call (.ref 56) [.ref X.x] []) Q E ⟨h, G, D, tk₀, O⟩ := by
  have pa : ∀ j, j < 9 → Mine.page.getD (9 * i + j) 0 = page9.getD j 0 := page_at i hi4
  have pl := page_len
  walk_at "enterM"
  intro g' L' h₁ tk A' htk C' H' keep
  have hi' : X.In g' := hi.down ok keep (by simp)
  replace H' : Sx g' L' [("self", .ref X.x)] [(X.dx, dictOf es m), (X.pb, lstObj [] c₁), (X.at_, lstObj [.int (p : Nat) t₂] c₂)] h₁ := H'
  clear C H keep hp hi
  have hx := hi'.x
  have he' : EsAre [("lineno", .int (ln : Nat) t), ("instream", .ref X.st), ("whitespace", .str (S [10, 9, 13, 32]) u), ("pushback", .ref X.pb)] es := he
  refine' genQ ?_; intro Z hZ
  repeat' walk_at "go"
  refine iteF rfl ?_
  repeat' walk_at "go"
  rename_i qa _ _ _ it _ h₂ H₂
  have H₃ : Sx g' L' [("fiter", .ref it), ("token", .str (S []) (tk + 1 + 1 + 1)), ("self", .ref X.x)] [(it, citObj qa (S []) (tk + 1 + 1 + 1 + 1 + 1 + 1)), (qa, methodObj (.ref 49) (.ref X.x)), (X.dx, dictOf es m), (X.pb, lstObj [] c₁), (X.at_, lstObj [.int (p : Nat) t₂] c₂)] h₂ := H₂
  clear H₂ H'
  have H₄ := H₃.perm (nw' := (X.dx, dictOf es m) :: (X.at_, lstObj [.int (p : Nat) t₂] c₂) :: ([(it, citObj qa (S []) (tk + 1 + 1 + 1 + 1 + 1 + 1)), (qa, methodObj (.ref 49) (.ref X.x)), (X.pb, lstObj [] c₁)] : LG)) (by walk_at "perm")
  clear H₃ he'
  generalize tk + 1 + 1 + 1 + 1 + 1 + 1 = t0 at H₄
  generalize tk + 1 + 1 + 1 = tt at H₄
  generalize hfz : ([(it, citObj qa (S []) t0), (qa, methodObj (.ref 49) (.ref X.x)), (X.pb, lstObj [] c₁)] : LG) = fz' at H₄
  have m1 : (it, citObj qa (S []) t0) ∈ fz' := by rw [← hfz]; exact .head _
  have m2 : (qa, methodObj (.ref 49) (.ref X.x)) ∈ fz' := by rw [← hfz]; exact .tail _ (.head _)
  have hrr : r = 0 ∨ r = 1 ∨ r = 2 := by omega
  rcases hrr with rfl | rfl | rfl
  · replace hpos : p = 9 * i + 0 := hpos
    subst hpos
    refine p_forG (fun _ s' => ∃ tk', s' = ⟨h₂, G, D, tk', O⟩) 0 ⟨_, rfl⟩ ?_
    rintro n' s' ⟨tkk, rfl⟩
    refine lex_draw (page := Mine.page) (x := "ch") ok C' rfl H₄ (List.Perm.refl _) m1 m2 he (hi'.up H₄) (by rw [pl]; omega) ?_
    intro h5 tk5 es5 m5 c5 t5 a5 v5 he5 H5
    rw [show Mine.page.getD (9 * i + 0) 0 = 46 from pa 0 (by omega)] at H5 he5
    replace he5 : EsAre (lexKv X ln t5 u) es5 := he5
    have hE5 : EsAre [("lineno", .int ((ln : Nat) : Int) t5), ("instream", .ref X.st), ("whitespace", .str (S [10, 9, 13, 32]) u), ("pushback", .ref X.pb)] es5 := he5
    clear H₄
    repeat' walk_at "go"
    refine iteF (by decide +kernel) ?_
    repeat' walk_at "go"
    refine iteF (by decide +kernel) ?_
    repeat' walk_at "go"
    refine iteF (by decide +kernel) ?_
    repeat' walk_at "go"
    rename_i h6 H6
    refine c_itercit (H6.get (.tail _ (.tail _ m1))) ?_
    refine p_forG (fun _ s' => ∃ tk', s' = ⟨h6, G, D, tk', O⟩) 0 ⟨_, rfl⟩ ?_
    rintro n' s' ⟨tkk, rfl⟩
    refine lex_draw (page := Mine.page) (x := "ch") ok C' rfl H6 (List.Perm.refl _) m1 m2 he5 (hi'.up H6) (by rw [pl]; omega) ?_
    intro h7 tk7 es7 m7 c7 t7 a7 v7 he7 H7
    rw [show Mine.page.getD (9 * i + 0 + 1) 0 = 10 from pa 1 (by omega)] at H7 he7
    replace he7 : EsAre (lexKv X (ln + 1) t7 u) es7 := he7
    have hE7 : EsAre [("lineno", .int (((ln + 1) : Nat) : Int) t7), ("instream", .ref X.st), ("whitespace", .str (S [10, 9, 13, 32]) u), ("pushback", .ref X.pb)] es7 := he7
    clear H6
    repeat' walk_at "go"
    refine iteT (by decide +kernel) ?_
    repeat' walk_at "go"
    subst hfz
    exact hZ _ _ ⟨_, _, _, _, rfl, fin_tok H7, fun H'' => k _ _ _ _ _ _ _ _ _ he7 H''⟩
  · replace hpos : p = 9 * i + 2 := hpos
    subst hpos
    refine p_forG (fun _ s' => ∃ tk', s' = ⟨h₂, G, D, tk', O⟩) 0 ⟨_, rfl⟩ ?_
    rintro n' s' ⟨tkk, rfl⟩
    refine lex_draw (page := Mine.page) (x := "ch") ok C' rfl H₄ (List.Perm.refl _) m1 m2 he (hi'.up H₄) (by rw [pl]; omega) ?_
    intro h5 tk5 es5 m5 c5 t5 a5 v5 he5 H5
    rw [show Mine.page.getD (9 * i + 2) 0 = 34 from pa 2 (by omega)] at H5 he5
    replace he5 : EsAre (lexKv X ln t5 u) es5 := he5
    have hE5 : EsAre [("lineno", .int ((ln : Nat) : Int) t5), ("instream", .ref X.st), ("whitespace", .str (S [10, 9, 13, 32]) u), ("pushback", .ref X.pb)] es5 := he5
    clear H₄
    repeat' walk_at "go"
    refine iteF (by decide +kernel) ?_
    repeat' walk_at "go"
    refine iteT (by decide +kernel) ?_
    repeat' walk_at "go"
    refine c_itercit (H5.get (.tail _ (.tail _ m1))) ?_
    refine p_forG (fun j s' => (j = 1 ∧ ∃ tk', s' = ⟨h5, G, D, tk', O⟩) ∨ (j = 0 ∧ ∃ h6 es6 m6 c6 t6 a6 b6 v6 tk', s' = (⟨h6, G, D, tk', O⟩ : Shared) ∧ EsAre (lexKv X ln t6 u) es6 ∧
      Sx g' L' [("ch", .str (S [46]) v6), ("fiter", .ref it), ("token", .str (S [46]) b6), ("self", .ref X.x)] ((X.dx, dictOf es6 m6) :: (X.at_, lstObj [.int ((9 * i + 2 + 1 + 1 : Nat) : Int) a6] c6) :: fz') h6)) 1 (.inl ⟨rfl, _, rfl⟩) ?_
    rintro n' s' (⟨rfl, tkk, rfl⟩ | ⟨rfl, h6, es6, m6, c6, t6, a6, b6, v6, tkk, rfl, he6, H6⟩)
    · skip
      refine lex_draw (page := Mine.page) (x := "ch") ok C' rfl H5 (List.Perm.refl _) m1 m2 he5 (hi'.up H5) (by rw [pl]; omega) ?_
      intro h7 tk7 es7 m7 c7 t7 a7 v7 he7 H7
      rw [show Mine.page.getD (9 * i + 2 + 1) 0 = 46 from pa 3 (by omega)] at H7 he7
      replace he7 : EsAre (lexKv X ln t7 u) es7 := he7
      have hE7 : EsAre [("lineno", .int ((ln : Nat) : Int) t7), ("instream", .ref X.st), ("whitespace", .str (S [10, 9, 13, 32]) u), ("pushback", .ref X.pb)] es7 := he7
      clear H5
      repeat' walk_at "go"
      refine iteF (by decide +kernel) ?_
      repeat' walk_at "go"
      refine iteF (by decide +kernel) ?_
      repeat' walk_at "go"
      rename_i h8 H8
      exact ⟨0, by omega, .inr ⟨rfl, _, _, _, _, _, _, _, _, _, rfl, he7, H8.locs (by walk_at "lk")⟩⟩
    · skip
      refine lex_draw (page := Mine.page) (x := "ch") ok C' rfl H6 (List.Perm.refl _) m1 m2 he6 (hi'.up H6) (by rw [pl]; omega) ?_
      intro h7 tk7 es7 m7 c7 t7 a7 v7 he7 H7
      rw [show Mine.page.getD (9 * i + 2 + 1 + 1) 0 = 34 from pa 4 (by omega)] at H7 he7
      replace he7 : EsAre (lexKv X ln t7 u) es7 := he7
      have hE7 : EsAre [("lineno", .int ((ln : Nat) : Int) t7), ("instream", .ref X.st), ("whitespace", .str (S [10, 9, 13, 32]) u), ("pushback", .ref X.pb)] es7 := he7
      clear H5 H6
      repeat' walk_at "go"
      refine iteT (by decide +kernel) ?_
      repeat' walk_at "go"
      subst hfz
      exact hZ _ _ ⟨_, _, _, _, rfl, fin_tok H7, fun H'' => k _ _ _ _ _ _ _ _ _ he7 H''⟩
  · replace hpos : p = 9 * i + 5 := hpos
    subst hpos
    refine p_forG (fun j s' => (j = 1 ∧ ∃ tk', s' = ⟨h₂, G, D, tk', O⟩) ∨ (j = 0 ∧ ∃ h6 es6 m6 c6 t6 a6 v6 tk', s' = (⟨h6, G, D, tk', O⟩ : Shared) ∧ EsAre (lexKv X ln t6 u) es6 ∧
      Sx g' L' [("ch", .str (S [32]) v6), ("fiter", .ref it), ("token", .str (S []) tt), ("self", .ref X.x)] ((X.dx, dictOf es6 m6) :: (X.at_, lstObj [.int ((9 * i + 5 + 1 : Nat) : Int) a6] c6) :: fz') h6)) 1 (.inl ⟨rfl, _, rfl⟩) ?_
    rintro n' s' (⟨rfl, tkk, rfl⟩ | ⟨rfl, h6, es6, m6, c6, t6, a6, v6, tkk, rfl, he6, H6⟩)
    · skip
      refine lex_draw (page := Mine.page) (x := "ch") ok C' rfl H₄ (List.Perm.refl _) m1 m2 he (hi'.up H₄) (by rw [pl]; omega) ?_
      intro h5 tk5 es5 m5 c5 t5 a5 v5 he5 H5
      rw [show Mine.page.getD (9 * i + 5) 0 = 32 from pa 5 (by omega)] at H5 he5
      replace he5 : EsAre (lexKv X ln t5 u) es5 := he5
      have hE5 : EsAre [("lineno", .int ((ln : Nat) : Int) t5), ("instream", .ref X.st), ("whitespace", .str (S [10, 9, 13, 32]) u), ("pushback", .ref X.pb)] es5 := he5
      clear H₄
      repeat' walk_at "go"
      refine iteT (by decide +kernel) ?_
      repeat' walk_at "go"
      exact ⟨0, by omega, .inr ⟨rfl, _, _, _, _, _, _, _, _, rfl, he5, H5⟩⟩
    · skip
      refine lex_draw (page := Mine.page) (x := "ch") ok C' rfl H6 (List.Perm.refl _) m1 m2 he6 (hi'.up H6) (by rw [pl]; omega) ?_
      intro h7 tk7 es7 m7 c7 t7 a7 v7 he7 H7
      rw [show Mine.page.getD (9 * i + 5 + 1) 0 = 92 from pa 6 (by omega)] at H7 he7
      replace he7 : EsAre (lexKv X ln t7 u) es7 := he7
      have hE7 : EsAre [("lineno", .int ((ln : Nat) : Int) t7), ("instream", .ref X.st), ("whitespace", .str (S [10, 9, 13, 32]) u), ("pushback", .ref X.pb)] es7 := he7
      clear H6 H₄
      repeat' walk_at "go"
      refine iteF (by decide +kernel) ?_
      repeat' walk_at "go"
      refine iteF (by decide +kernel) ?_
      repeat' walk_at "go"
      refine iteT (by decide +kernel) ?_
      repeat' walk_at "go"
      refine read_char_spec (page := Mine.page) ok C' H7 (List.Perm.refl _) he7 (hi'.up H7) (by rw [pl]; omega) ?_
      intro h8 tk8 es8 m8 c8 t8 a8 v8 he8 H8
      rw [show Mine.page.getD (9 * i + 5 + 1 + 1) 0 = 46 from pa 7 (by omega)] at he8 ⊢
      replace he8 : EsAre (lexKv X ln t8 u) es8 := he8
      clear H7
      repeat' walk_at "go"
      rename_i h9 H9
      refine c_itercit (H9.get (.tail _ (.tail _ m1))) ?_
      refine p_forG (fun _ s' => ∃ tk', s' = ⟨h9, G, D, tk', O⟩) 0 ⟨_, rfl⟩ ?_
      rintro n' s' ⟨tkk, rfl⟩
      refine lex_draw (page := Mine.page) (x := "ch") ok C' rfl H9 (List.Perm.refl _) m1 m2 he8 (hi'.up H9) (by rw [pl]; omega) ?_
      intro h10 tk10 es10 m10 c10 t10 a10 v10 he10 H10
      rw [show Mine.page.getD (9 * i + 5 + 1 + 1 + 1) 0 = 10 from pa 8 (by omega)] at H10 he10
      replace he10 : EsAre (lexKv X (ln + 1) t10 u) es10 := he10
      have hE10 : EsAre [("lineno", .int (((ln + 1) : Nat) : Int) t10), ("instream", .ref X.st), ("whitespace", .str (S [10, 9, 13, 32]) u), ("pushback", .ref X.pb)] es10 := he10
      clear H8 H9
      repeat' walk_at "go"
      refine iteT (by decide +kernel) ?_
      repeat' walk_at "go"
      subst hfz
      exact hZ _ _ ⟨_, _, _, _, rfl, fin_tok H10, fun H'' => k _ _ _ _ _ _ _ _ _ he10 H''⟩
end
end Mine

namespace Mine
section
variable {w : World} {n : Nat} {A : Around} {env : Env} {g : Heap} {ps : PS} {nw fz : LG} {h : Heap} {G : Array GenState} {D : Drawn} {tk₀ : Nat} {O : OsState} {Q : Value → Shared → Prop} {E : Value → Shared → Prop} {t : Nat} {ta : Array Value}
theorem lexer_spec (hC : CodeHd h 104 100) (C : Cal w (n + 3) A env g) (H : Sx g env.locals ps nw h) (hp : nw.Perm ([(100, tabObj #[])] ++ fz))
    (k : ∀ X h' tk es m c₁ c₂ t₁ t₂ u, Lx.Ok w X page → EsAre (lexKv X 1 t₁ u) es → Sx g env.locals ps ((X.dx, dictOf es m) :: (X.pb, lstObj [] c₁) :: (X.at_, lstObj [.int ((0 : Nat) : Int) t₂] c₂) :: (X.fix ++ fz)) h' → Q (.ref X.x) ⟨h', G, D, tk, O⟩) :
    wpAny (model PySem.Challenge.rw_wk0011_01.row.prog w) A (call (.ref 105) [.str (S page) t] []) Q E ⟨h, G, D, tk₀, O⟩ := by
  walk_at "enterC"
  intro g' L' h₁ tk A' cells C' Y H' keep
  obtain ⟨o, o', rfl, d1, d2⟩ := CellsAre.two Y
  clear Y
  replace d1 : o.data = .cell none := d1
  replace d2 : o'.data = .cell (some (.str (S page) t)) := d2
  replace H' : Sx g' L' [] ([(L' + 1 + 1, o), (L' + 1, o'), (100, tabObj #[])] : LG) h₁ := H'
  have hC' : CodeHd g' 104 100 := by
    obtain ⟨oc, vs, file, tf, flags, tg, inF, text, tt, a1, a2⟩ := hC
    refine ⟨oc, vs, file, tf, flags, tg, inF, text, tt, keep _ _ a1 (by decide), a2⟩
  clear keep
  repeat' walk_at "go"
  refine nestDef_K rfl rfl rfl ?_
  rename_i H₂
  refine c_nest (L := L') C' H₂ hC' (.tail (.tail (.tail .head))) trivial rfl rfl ?_
  dsimp only
  intro fr cc occ vs tq ctv doc pm h₃ tk₃ H₃ dcc dq
  clear H₂
  rename_i h₂ l₂ H₂' _ oa da
  obtain ⟨frO, hfrO, hread, H₄⟩ : ∃ frO : Obj, (∃ fd, frO.data = .func fd) ∧ ReadsAt w fr (L' + 1 + 1) (L' + 1) cc l₂ frO oa o' occ page ∧
      Sx g' L' [] ([(fr, frO), (cc, occ), (l₂, lstObj [.int 0 tk] 0), (L' + 1 + 1, oa), (L' + 1, o'), (100, tabObj (#[] ++ #[rawInt 75, rawInt 4, .ref cc]))] : LG) h₃ := by
    refine ⟨_, ⟨_, rfl⟩, ?_, H₃⟩
    clear H₃ H₂' H' C C' H hp k hC hC'
    intro n A env g ps nw fz h G D tk O Q E p c t u C H hp hfr hca hcp hcc n1 n2 hlt k
    have hrec : h.CodeRec (.ref cc) _ := ⟨cc, occ, vs, tq, rfl, hcc, dcc, dq⟩
    refine' callN C H hp hfr hrec ?b ?l ?x ?x1 ?x2 ?x3 ?_
    case b => exact BindsTo.of_eq rfl
    case l => exact locs rfl
    case x => decide
    case x1 => rfl
    case x2 => rfl
    case x3 => rfl
    intro g' L'' h₁ tk A' htk C' H' keep
    have hca' := keep _ _ hca (by simpa using Ne.symm n1)
    have hcp' := keep _ _ hcp (by simpa using Ne.symm n2)
    replace H' : Sx g' L'' ([("size", .int 1 u)] : PS) ([(l₂, lstObj [.int (p : Nat) t] c)] : LG) h₁ := H'
    have pl := page_len
    clear keep
    repeat' walk_at "go"
    rename_i H₅
    have e1 : ((p : Int) + 1).toNat - (p : Int).toNat = 1 := by omega
    have e2 : List.take 1 (List.drop p page) = [page.getD p 0] := by
      rw [List.drop_eq_getElem_cons hlt, List.take_succ_cons, List.take_zero, List.getD_eq_getElem?_getD, List.getElem?_eq_getElem hlt]
      rfl
    have e3 : List.take (((p : Int) + 1).toNat - (p : Int).toNat) (List.drop (p : Int).toNat page) = [page.getD p 0] := by rw [e1, Int.toNat_natCast, e2]
    rw [e3] at H₅ ⊢
    clear e1 e2 e3
    repeat' walk_at "go"
    rename_i H₆
    exact ⟨_, _, _, _, rfl, H₆, fun H'' => k _ _ _ _ _ H''⟩
  repeat' walk_at "go"
  refine kla_eval rfl ?_
  rename_i H₅
  refine c_lam (L := L') C' H₅ hC' (.tail (.tail (.tail (.tail (.tail .head))))) ?_ ?_ rfl ?_
  · trivial
  · rfl
  dsimp only
  intro st c₃ oc₃ ctv₃ pm₃ h₆ tk₆ H₆
  clear H₅
  clear H₃ H₂'
  repeat' walk_at "go"
  rename_i H₇
  refine c_fset (L := L') H₇ .head rfl rfl rfl ?_
  intro h₈ tk₈ ds od hds H₈
  dsimp only at H₈
  obtain ⟨stO, tabO, e1, e2, e3, e4, H₉⟩ : ∃ stO tabO : Obj, stO.cls = .type "function" ∧ stO.dict = some ds ∧ (∃ fd, stO.data = .func fd) ∧ (∃ ps, tabO = tabObj ps) ∧
      Sx g' L' ([("stream", .ref st), ("_law_read_on", .ref fr)] : PS) ([(ds, od), (st, stO), (c₃, oc₃), (fr, frO), (cc, occ), (l₂, lstObj [.int 0 tk] 0), (L' + 1 + 1, oa), (L' + 1, o'), (100, tabO)] : LG) h₈ := ⟨_, _, rfl, rfl, ⟨_, rfl⟩, ⟨_, rfl⟩, H₈⟩
  clear H₇ H₈
  generalize hrest : ([(ds, od), (st, stO), (c₃, oc₃), (fr, frO), (cc, occ), (l₂, lstObj [.int 0 tk] 0), (L' + 1 + 1, oa), (L' + 1, o'), (100, tabO)] : LG) = rest at H₉
  repeat' walk_at "go"
  have hx0 : EsAre [] [] := .nil
  refine' c_cls C' (by assumption) ?hm ?hi ?hf ?_
  case hm => k_is
  case hi => k_is
  case hf => k_is
  intro x dx h₉ A₉ C₉ H₁₁
  have hp₉ : List.Perm ((x, instObj 66 dx) :: (dx, dictOf [] 0) :: rest) ([(dx, dictOf [] 0)] ++ ((x, instObj 66 dx) :: rest)) := List.Perm.swap _ _ _
  walk_at "enterR"
  intro g₂ L₂ h₁₀ tk₁₀ A₁₀ _ C₁₀ H₁₀ keep
  have hx := keep _ _ (H₁₁.get (.head _)) (by
    have nd := H₁₁.nd
    rw [List.map_cons, List.nodup_cons, List.map_cons] at nd
    intro e
    have e' : x = dx := by simpa using e
    exact nd.1 (e' ▸ List.Mem.head _))
  replace H₁₀ : Sx g₂ L₂ ([("fp", .ref st), ("self", .ref x)] : PS) ([(dx, dictOf [] 0)] : LG) h₁₀ := H₁₀
  clear keep H₁₁
  repeat' walk_at "go"
  rename_i pb _ h₁₄ tk₁₄ es₁₄ m₁₄ hE H₁₂
  have ws : PySem.Str.ofString "\n\t\r " = S [10, 9, 13, 32] := by decide +kernel
  rw [ws] at hE
  refine ⟨_, _, _, _, rfl, H₁₂, fun H₁₃ => ⟨rfl, ?_⟩⟩
  subst hrest
  have hE' : ∃ t₁ u, EsAre ([("lineno", .int ((1 : Nat) : Int) t₁), ("instream", .ref st), ("whitespace", .str (S [10, 9, 13, 32]) u), ("pushback", .ref pb)] : PS) es₁₄ := ⟨_, _, hE⟩
  obtain ⟨t₁, u, hE'⟩ := hE'
  have H₁₅ := H₁₃.perm (nw' := ([(dx, dictOf es₁₄ m₁₄), (pb, lstObj [] 0), (l₂, lstObj [.int 0 tk] 0), (x, instObj 66 dx), (st, stO), (ds, od), (fr, frO), (L' + 1 + 1, oa), (L' + 1, o'), (cc, occ), (100, tabO), (c₃, oc₃)] : LG)) (by walk_at "perms")
  have H₁₆ := H₁₅.sub (nw' := ([(dx, dictOf es₁₄ m₁₄), (pb, lstObj [] 0), (l₂, lstObj [.int 0 tk] 0), (x, instObj 66 dx), (st, stO), (ds, od), (fr, frO), (L' + 1 + 1, oa), (L' + 1, o'), (cc, occ), (100, tabO)] : LG)) (List.sublist_append_left _ ([(c₃, oc₃)] : LG))
  refine ⟨_, _, _, _, rfl, H₁₆, fun H'' => ?_⟩
  have hnd : ((([(dx, dictOf es₁₄ m₁₄), (pb, lstObj [] 0), (l₂, lstObj [.int 0 tk] 0)] : LG) ++ (([(x, instObj 66 dx), (st, stO), (ds, od), (fr, frO), (L' + 1 + 1, oa), (L' + 1, o'), (cc, occ), (100, tabO)] : LG) ++ fz)).map (·.1)).Nodup := H''.nd
  rw [List.map_append, List.nodup_append, List.map_append] at hnd
  have hap : ∀ a ∈ ([dx, pb, l₂] : List Addr), ∀ b ∈ ([x, st, ds, fr, L' + 1 + 1, L' + 1, cc, 100] : List Addr), a ≠ b := fun a ha b hb => hnd.2.2 a ha b (List.mem_append_left _ hb)
  refine k ⟨x, dx, pb, l₂, st, ds, fr, L' + 1 + 1, L' + 1, cc, stO, od, frO, oa, o', occ, tabO⟩ _ _ es₁₄ m₁₄ 0 0 t₁ tk u ⟨?_, e1, e2, e3, hds, hfrO, ?_, e4⟩ hE' H''
  · intro p hp hq
    exact hap p.1 hq p.1 (List.mem_map_of_mem (f := (·.1)) hp) rfl
  · intro n A env g ps nw fz h G D tk O Q E p c t u C H hp hi hlt k
    exact hread C H hp hi.fr hi.ca hi.cp hi.cc (hap _ (by simp) _ (by simp)) (hap _ (by simp) _ (by simp)) hlt k
end
end Mine

namespace Mine
section
variable {w : World} {n : Nat} {A : Around} {env : Env} {g : Heap} {ps : PS} {nw fz : LG} {h : Heap} {G : Array GenState} {D : Drawn} {tk₀ : Nat} {O : OsState} {Q : Value → Shared → Prop} {E : Value → Shared → Prop} {X : Lx} {es : List DictEntry} {m c₁ c₂ t₂ idle t u : Nat} {ws : List Wk} {q : List It} {qv : List Value}
theorem fetch_spec (ok : X.Ok w page) (C : Cal w (n + 4) A env g) (H : Sx g env.locals ps nw h) (hp : nw.Perm ([(X.dx, dictOf es m), (X.pb, lstObj qv c₁), (X.at_, lstObj [.int ((posAt idle : Nat) : Int) t₂] c₂)] ++ fz)) (he : EsAre (lexKv X (lnAt idle) t u) es) (hi : X.In h)
    (hq : Txs qv (q.map (tx ws))) (hql : q.length ≤ 1000) (hid : q = [] → idle < 12)
    (k : ∀ h' tk es' m' c₁' c₂' t' t₂' v qv', EsAre (lexKv X (lnAt (fet q idle).2.2) t' u) es' → Txs qv' ((fet q idle).2.1.map (tx ws)) →
      Sx g env.locals ps ((X.dx, dictOf es' m') :: (X.pb, lstObj qv' c₁') :: (X.at_, lstObj [.int ((posAt (fet q idle).2.2 : Nat) : Int) t₂'] c₂') :: fz) h' → Q (.str (S (txo ws (fet q idle).1)) v) ⟨h', G, D, tk, O⟩) :
    wpAny (model PySem.Challenge.rw_wk0011_01.row.prog w) A (call (.ref 56) [.ref X.x] []) Q E ⟨h, G, D, tk₀, O⟩ := by
  cases q with
  | nil =>
    obtain rfl := hq.nil_inv
    have hlt := hid rfl
    refine token_read (i := idle / 3) (r := idle % 3) ok C H (by omega) (by omega) rfl hp he hi fun h' tk es' m' c' c'' t' t₃ v he' H' => ?_
    rw [ln_next] at he'
    rw [pos_next] at H'
    exact k _ _ _ _ _ _ _ _ _ _ he' .nil H'
  | cons x r =>
    obtain ⟨tt, qv', rfl, hq'⟩ := hq.uncons
    refine token_spec (n := n) ok (C.less (by omega)) H hp he hi (by have := hq'.len; simp at hql this ⊢; omega) fun h' tk c' H' => ?_
    exact k _ _ _ _ _ _ _ _ _ _ he hq' H'
end
end Mine

namespace Mine
section
variable {w : World} {n : Nat} {A : Around} {env : Env} {g : Heap} {ps : PS} {nw fz : LG} {h : Heap} {G : Array GenState} {D : Drawn} {tk₀ : Nat} {O : OsState} {Q : Value → Shared → Prop} {E : Value → Shared → Prop} {wl tl : Addr} {ws : List Wk} {tv : List Value} {ct : Nat} {ts : List (List Nat)}
theorem places_spec (C : Cal w (n + 1) A env g) (H : Sx g env.locals ps nw h) (hw : WorksP (At h) wl ws) (h4 : ws.length = 4) (ht : h.get? tl = some (lstObj tv ct)) (hts : Txs tv ts) (htl : ts.length ≤ 1000)
    (k : ∀ h' tk r rv c nwf, LsP (fun a o => (a, o) ∈ nwf) rv (ts.map (plc ws)) → Sx g env.locals ps ((r, lstObj rv c) :: (nwf ++ nw)) h' → Q (.ref r) ⟨h', G, D, tk, O⟩) :
    wpAny (model PySem.Challenge.rw_wk0011_01.row.prog w) A (call (.ref 131) [.ref tl, .ref wl] []) Q E ⟨h, G, D, tk₀, O⟩ := by
  have hp : nw.Perm (([] : LG) ++ nw) := List.Perm.refl _
  refine' wpAny_call (codeC ?C ?H ?hp ?o ?c ?b ?l ?nd (psL := [("told", .ref tl)]) ?pl ?_ ?x1 ?x2 ?x3)
  case C => walk_at "asm"
  case H => walk_at "asm"
  case hp => assumption
  case o => k_is
  case c => k_is
  case b => exact BindsTo.of_eq rfl
  case l => exact rfl
  case nd => decide +kernel
  case pl => walk_at "pl"
  case x1 => rfl
  case x2 => rfl
  case x3 => rfl
  intro g' L' h₁ tk A' cells C' Y H' keep
  obtain ⟨ow, rfl, dw⟩ := CellsAre.one Y
  clear Y
  replace dw : ow.data = .cell (some (.ref wl)) := dw
  replace H' : Sx g' L' ([("told", .ref tl)] : PS) ([(L' + 1, ow)] : LG) h₁ := H'
  have ht' := keep _ _ ht (fun hm => nomatch hm)
  obtain ⟨wts, wc, hwl, hws⟩ := hw.mono (P' := At g') fun a o _ e => keep _ _ e (fun hm => nomatch hm)
  clear C H keep hw hp ht
  repeat' walk_at "go"
  refine comp_goC (fun i (ys : List Value) (nw' : LG) => LsP (fun a o => (a, o) ∈ nw') ys ((ts.take i).map (plc ws))) (Src.list C'.handled (H'.old ht')) C' H' (by rw [hts.len]; omega) rfl rfl (fun _ => rfl) (fun _ => rfl) .nil ?_ ?_
  · intro i v ys c I L₂ Cc cc oc o ps' nw' h₂ tk₂ hi hv hJ C₂ hd H₂
    have hi' : i < ts.length := by rw [← hts.len]; exact hi
    obtain ⟨tx, hx⟩ := hts.at (List.getElem?_eq_getElem hi')
    rw [hx] at hv
    cases hv
    have hcw := H'.get (a := L' + 1) (o := ow) (.head _)
    have hwl₁ := H'.old hwl
    have hws₁ := hws.mono (P' := At h₁) fun a o _ e => H'.old e
    have htk : ts.take (i + 1) = ts.take i ++ [ts[i]] := by rw [List.take_add_one, List.getElem?_eq_getElem hi']; rfl
    clear ht' hwl hws hx
    repeat' walk_at "go"
    refine p_range1 H₂ fun h₃ r t₁ t₂ H₃ => ?_
    clear H₂
    have hcw₃ := H₃.old hcw
    have hcc₃ := H₃.get (a := cc) (o := oc) (by walk_at "mem")
    have hwl₃ := H₃.old hwl₁
    have hws₃ := hws₁.mono (P' := At h₃) fun a o _ e => H₃.old e
    refine comp_go (fun j (ys : List Value) (nw' : LG) => Nums ys ((List.range j).filter fun p => (wk ws p).forms.contains ts[i]) ∧ nw' = []) (Src.range (m := 4) C₂.handled (H₃.get (.head _)) (by omega)) C₂ (H₃.sub (List.sublist_cons_self _ _)) (by omega) rfl rfl rfl ⟨.nil, rfl⟩ ?_ ?_
    · rintro j v ys' c' I' L₃ Cc' o' ps'' nw'' h₄ tk₄ Z₁ Z₂ hj ⟨tj, rfl⟩ ⟨hns, rfl⟩ C₄ H₄ hZ₁ hZ₂
      obtain ⟨t, t1, t2, fa, vs, cf, hw1, hw2, hw3, hw4⟩ := hws₃.work (i := j) (by omega)
      have hwtl := hws₃.length
      clear hcw hwl₁ hws₁ C₂
      repeat' walk_at "go"
      have hsucc := filter_range_succ (fun p => (wk ws p).forms.contains ts[i]) j
      refine iteD (fun hb => ?_) (fun hb => ?_)
      · rw [if_pos hb] at hsucc
        repeat' walk_at "go"
        exact hZ₁ _ _ ⟨_, _, _, _, rfl, H₄, by rw [hsucc]; exact hns.snoc _ _, rfl⟩
      · rw [if_neg (by rw [hb]; exact Bool.false_ne_true), List.append_nil] at hsucc
        exact hZ₂ _ ⟨_, _, _, _, rfl, H₄, by rw [hsucc]; exact hns, rfl⟩
    · rintro Cc' oC L₃ ys' c' nw'' h₄ tk₄ hns ⟨hnum, rfl⟩ H₄
      refine post_val hns H₄ fun h₅ H₅ => ?_
      refine ⟨h₅, _, _, (cc, oc) :: (L₃, lstObj ys' c') :: nw', rfl, H₅.perm (by walk_at "perms"), (L₃, lstObj ys' c') :: nw', rfl, ?_⟩
      rw [htk, List.map_append]
      exact (hJ.mono fun a o _ e => .tail _ e).snoc (.head _) hnum
  · rintro Cc oC L₂ ys c nw' h₂ tk₂ hns hJ H₂
    rw [hts.len, List.take_length] at hJ
    refine post_val hns H₂ fun h₃ H₃ => ?_
    have H₄ : Sx g' L' ([("told", .ref tl)] : PS) ((L₂, lstObj ys c) :: nw') h₃ := H₃.sub (.cons_cons _ (List.sublist_append_left _ _))
    exact ⟨_, _, _, _, rfl, H₄, fun H'' => k _ _ _ _ _ _ hJ H''⟩
end
end Mine

namespace Mine
section
variable {w : World} {n : Nat} {A : Around} {env : Env} {g : Heap} {ps : PS} {nw fz : LG} {h : Heap} {G : Array GenState} {D : Drawn} {tk₀ : Nat} {O : OsState} {Q : Value → Shared → Prop} {E : Value → Shared → Prop} {wl tl rl : Addr} {ws : List Wk} {tv rv : List Value} {ct cr u : Nat} {ts rs : List (List Nat)}
set_option maxHeartbeats 4000000 in
theorem owed_spec (C : Cal w (n + 2) A env g) (H : Sx g env.locals ps nw h) (hw : WorksP (At h) wl ws) (h4 : ws.length = 4) (hk3 : ∀ i, i < ws.length → (wk ws i).kind < 3 ∧ (wk ws i).come < ts.length ∧ (wk ws i).n ≤ 9)
    (ht : h.get? tl = some (lstObj tv ct)) (hts : Txs tv ts) (htl : ts.length ≤ 1000) (hr : h.get? rl = some (lstObj rv cr)) (hrs : Txs rv rs) (hrl : rs.length = ts.length)
    (ho : ∀ g ∈ grps, ∀ t, t < ts.length → (owe ws ts rs g (t + 1)).spare - (owe ws ts rs g (t + 1)).low ≤ min (owe ws ts rs g (t + 1)).one (owe ws ts rs g (t + 1)).two ∧
      (g.length = 3 → (owe ws ts rs g (t + 1)).one = (owe ws ts rs g (t + 1)).spare - (owe ws ts rs g (t + 1)).low) ∧
      (g ∈ ([[0], [0, 1], [0, 1, 2]] : List (List Nat)) → (owe ws ts rs g (t + 1)).two = (owe ws ts rs g (t + 1)).spare - (owe ws ts rs g (t + 1)).low))
    (k : ∀ h' tk, Sx g env.locals ps nw h' → Q (.bool true) ⟨h', G, D, tk, O⟩) :
    wpAny (model PySem.Challenge.rw_wk0011_01.row.prog w) A (call (.ref 141) [.ref wl, .ref tl, .ref rl] []) Q E ⟨h, G, D, tk₀, O⟩ := by
  have hp : nw.Perm (([] : LG) ++ nw) := List.Perm.refl _
  refine' wpAny_call (codeC ?C ?H ?hp ?o ?c ?b ?l ?nd (psL := [("turns", .ref tl), ("ranks", .ref rl)]) ?pl ?_ ?x1 ?x2 ?x3)
  case C => walk_at "asm"
  case H => walk_at "asm"
  case hp => assumption
  case o => k_is
  case c => k_is
  case b => exact BindsTo.of_eq rfl
  case l => exact rfl
  case nd => decide +kernel
  case pl => walk_at "pl"
  case x1 => rfl
  case x2 => rfl
  case x3 => rfl
  intro g' L' h₁ tk A' cells C' Y H' keep
  obtain ⟨om, og, ou, ow, rfl, dm, dg, du, dw⟩ := CellsAre.four Y
  clear Y
  replace dm : om.data = .cell none := dm
  replace dg : og.data = .cell none := dg
  replace du : ou.data = .cell none := du
  replace dw : ow.data = .cell (some (.ref wl)) := dw
  replace H' : Sx g' L' ([("turns", .ref tl), ("ranks", .ref rl)] : PS) ([(L' + 1 + 1 + 1 + 1, om), (L' + 1 + 1 + 1, og), (L' + 1 + 1, ou), (L' + 1, ow)] : LG) h₁ := H'
  have ht' := keep _ _ ht (fun hm => nomatch hm)
  have hr' := keep _ _ hr (fun hm => nomatch hm)
  have hw' : WorksP (At g') wl ws := hw.mono fun a o _ e => keep _ _ e (fun hm => nomatch hm)
  have htv := hts.len
  have hrv := hrs.len
  clear C H keep hw hp ht hr
  refine' genQ ?_; intro ZZ hZZ
  repeat' walk_at "go"
  refine comp_go (fun i (ys : List Value) (nw' : LG) => LsL ys nw' (mat ws i 0)) (Src.list C'.handled (H'.old ht')) C' H' (by omega) rfl rfl rfl .nil ?_ ?_
  · intro i v ys c I L₂ Cc o ps' nw' h₂ tk₂ Z₁ Z₂ hi hv hJ C₂ H₂ hZ₁ _
    repeat' walk_at "go"
    rename_i h₃ l₃ H₃
    refine hZ₁ _ _ ⟨_, _, _, _, rfl, H₃.perm pk_last, ?_⟩
    rw [mat_zero]
    exact hJ.snoc (.cons 0 _ (.cons 0 _ (.cons 0 _ .nil)))
  rintro Cc oC U uv cu rows h₂ tk₂ hns hL H₂
  rw [htv] at hL
  refine post_val hns H₂ fun h₃ H₃ => ?_
  clear H₂
  have H₄ := H₃.perm (nw' := (L' + 1 + 1 + 1 + 1, om) :: (L' + 1 + 1 + 1, og) :: (L' + 1 + 1, ou) :: (L' + 1, ow) :: (U, lstObj uv cu) :: rows) (List.perm_append_comm (l₁ := (U, lstObj uv cu) :: rows))
  clear H₃ H'
  repeat' walk_at "go"
  rename_i h₅ ou' du' H₅
  clear H₄
  refine p_for_works (fun i (ps' : PS) (nw' : LG) => ps' = ([("turns", .ref tl), ("ranks", .ref rl)] : PS) ∧ ∃ rows, nw' = (L' + 1 + 1 + 1 + 1, om) :: (L' + 1 + 1 + 1, og) :: (L' + 1 + 1, ou') :: (L' + 1, ow) :: (U, lstObj uv cu) :: rows ∧ LsL uv rows (mat ws ts.length i))
    C' rfl H₅ rfl rfl rfl hw' ⟨rfl, rows, rfl, hL⟩ ?_ ?_
  · clear H₅ hL
    intro i wk t1 t2 fa vs c ps' nw' h₆ tk₆ io hwk hf hs HJ H₆
    refine' genQ ?_; intro Z hZ
    obtain ⟨rfl, rows, rfl, hL⟩ := HJ
    have hi : i < ws.length := (List.getElem?_eq_some_iff.mp hwk).1
    obtain rfl := wk_at hwk
    obtain ⟨k1, k2, k3⟩ := hk3 i hi
    obtain ⟨a, us, ca, l1, l2, rfl, e1, e2, e3⟩ := hL.split (mat_get (k := i) k2)
    obtain ⟨tu, hu⟩ := e2.at (row_get (k := i) (t := (wk ws i).come) k1)
    have hul := e2.len
    have huvl := hL.len
    rw [mat_len] at huvl
    have hvs : vs.length = (wk ws i).n := by rw [hs.len_eq, List.length_map, formsN]
    have e1' : uv[(((wk ws i).come : Nat) : Int).toNat]? = some (.ref a) := e1
    have hu' : us[(((wk ws i).kind : Nat) : Int).toNat]? = some (.int ((unit ws i (wk ws i).come (wk ws i).kind : Nat) : Int) tu) := hu
    have H₇ := H₆.perm (List.perm_middle (l₁ := io :: (L' + 1 + 1 + 1 + 1, om) :: (L' + 1 + 1 + 1, og) :: (L' + 1 + 1, ou') :: (L' + 1, ow) :: (U, lstObj uv cu) :: l1) (l₂ := l2) (a := (a, lstObj us ca)))
    clear H₆
    repeat' walk_at "go"
    rename_i h₈ c₈ H₈
    have H₉ := H₈.perm (List.perm_middle (l₁ := io :: (L' + 1 + 1 + 1 + 1, om) :: (L' + 1 + 1 + 1, og) :: (L' + 1 + 1, ou') :: (L' + 1, ow) :: (U, lstObj uv cu) :: l1) (l₂ := l2)).symm
    refine hZ _ _ ⟨_, _, _, _, rfl, H₉.locs (by walk_at "lk"), rfl, _, rfl, ?_⟩
    have q := fun tt => e3 _ c₈ _ (e2.set (wk ws i).kind (unit ws i (wk ws i).come (wk ws i).kind + vs.length) tt)
    rw [hvs, mat_succ k1] at q
    rw [hvs]
    exact q _
  clear H₅ hL rows
  rintro ps' nw' h₆ tk₆ ⟨rfl, rows, rfl, hL⟩ H₆
  dsimp only
  repeat' walk_at "go"
  refine places_spec (n := n) C' H₆ (hw'.up H₆) h4 (H₆.old ht') hts htl fun h₇ tk₇ r pv cp nwf hP H₇ => ?_
  clear H₆
  have hP₇ := hP.mono (P' := At h₇) fun a o _ hm => H₇.get (.tail _ (List.mem_append_left _ hm))
  have hcw₇ := H₇.get (a := L' + 1) (o := ow) (.tail _ (List.mem_append_right _ (by walk_at "mem")))
  obtain ⟨wts, wc, hwl₇, hws₇⟩ := hw'.up H₇
  have hpvl := hP.len
  rw [List.length_map] at hpvl
  refine comp_go (fun i (ys : List Value) (nw' : LG) => LsP (fun a o => (a, o) ∈ nw') ys ((ts.take i).map (kof ws))) (Src.list C'.handled (H₇.get (.head _))) C' H₇ (by omega) rfl rfl rfl .nil ?_ ?_
  · rintro i v ys c I L₂ Cc o ps' nw' h₈ tk₈ Z₁ Z₂ hi hv hJ C₈ H₈ hZ₁ _
    have hi' : i < ts.length := by omega
    obtain ⟨a, us, ca, ns, hns, rfl, ha, hus⟩ := hP₇.ex hv
    rw [List.getElem?_map, List.getElem?_eq_getElem hi'] at hns
    have hns : plc ws ts[i] = ns := Option.some.inj hns
    have hsucc := map_take_succ (f := kof ws) (List.getElem?_eq_getElem hi')
    have hkx : kof ws ts[i] = ns.map fun p => (wk ws p).kind := by unfold kof; rw [hns]
    rw [hkx] at hsucc
    have hlt4 : ∀ p ∈ ns, p < 4 := fun p hp => plc_lt (hns ▸ hp)
    clear hP₇ hv hkx
    repeat' walk_at "go"
    have hcw₈ := H₈.old hcw₇
    have hwl₈ := H₈.old hwl₇
    have hws₈ := hws₇.mono (P' := At h₈) fun a o _ e => H₈.old e
    have ha₈ := H₈.old ha
    have hul := hus.len
    have hnl : ns.length ≤ 4 := hns ▸ plc_len ws ts[i]
    clear hcw₇ hwl₇ hws₇ ha
    refine comp_go (fun j (ys : List Value) (nw' : LG) => Nums ys ((ns.take j).map fun p => (wk ws p).kind) ∧ nw' = []) (Src.list C₈.handled ha₈) C₈ H₈ (by omega) rfl rfl rfl ⟨.nil, rfl⟩ ?_ ?_
    · rintro j v ys' c' I' L₃ Cc' o' ps'' nw'' h₉ tk₉ Z₃ Z₄ hj hv ⟨hys, rfl⟩ C₉ H₉ hZ₃ _
      obtain ⟨p, tp, hp, rfl⟩ := hus.ex hv
      have hp4 := hlt4 p (List.mem_of_getElem? hp)
      obtain ⟨t, t1, t2, fa, vs, cf, hw1, hw2, hw3, hw4⟩ := hws₈.work (i := p) (by omega)
      have hwtl := hws₈.length
      have hs2 := map_take_succ (f := fun p => (wk ws p).kind) hp
      repeat' walk_at "go"
      exact hZ₃ _ _ ⟨_, _, _, _, rfl, H₉, by rw [hs2]; exact hys.snoc _ _, rfl⟩
    · rintro Cc' oC L₃ ys' c' nw'' h₉ tk₉ hnC ⟨hnum, rfl⟩ H₉
      rw [hul, List.take_length] at hnum
      refine post_val hnC H₉ fun h₁₀ H₁₀ => ?_
      refine hZ₁ _ _ ⟨h₁₀, _, _, (L₃, lstObj ys' c') :: nw', rfl, H₁₀.perm (by walk_at "perms"), ?_⟩
      rw [hsucc]
      exact (hJ.mono fun a o _ e => .tail _ e).snoc (.head _) hnum
  rintro Cc oC FI fv cf nwf₁ h₈ tk₈ hnC hJ H₈
  rw [hpvl, List.take_length] at hJ
  refine post_set hnC C' rfl H₈ fun h₉ tk₉ H₉ => ?_
  clear H₈ H₇
  dsimp only
  have H₆ : Sx g' L' _ ((L' + 1 + 1 + 1 + 1, om) :: (L' + 1 + 1 + 1, og) :: (L' + 1 + 1, ou') :: (L' + 1, ow) :: (U, lstObj uv cu) :: (FI, lstObj fv cf) :: (rows ++ nwf₁)) h₉ := (H₉.perm led_owed).sub (List.sublist_append_left _ _)
  have hU : LsP (fun a o => (a, o) ∈ rows ++ nwf₁) uv (mat ws ts.length ws.length) := hL.toP fun p hp => List.mem_append_left _ hp
  have hF : LsP (fun a o => (a, o) ∈ rows ++ nwf₁) fv (ts.map (kof ws)) := hJ.mono fun a o _ hm => List.mem_append_right _ hm
  clear H₉ hJ hL hP₇ hcw₇ hwl₇ hws₇ hP hpvl
  generalize rows ++ nwf₁ = rest₁ at *
  clear rows nwf₁ hnC
  repeat' walk_at "go"
  refine places_spec (n := n) C' H₆ (hw'.up H₆) h4 (H₆.old hr') hrs (by omega) fun h₇ tk₇ r pv cp nwf hP H₇ => ?_
  clear H₆
  have hP₇ := hP.mono (P' := At h₇) fun a o _ hm => H₇.get (.tail _ (List.mem_append_left _ hm))
  have hcw₇ := H₇.get (a := L' + 1) (o := ow) (.tail _ (List.mem_append_right _ (by walk_at "mem")))
  obtain ⟨wts, wc, hwl₇, hws₇⟩ := hw'.up H₇
  have hpvl := hP.len
  rw [List.length_map] at hpvl
  refine comp_go (fun i (ys : List Value) (nw' : LG) => LsP (fun a o => (a, o) ∈ nw') ys ((rs.take i).map (kof ws))) (Src.list C'.handled (H₇.get (.head _))) C' H₇ (by omega) rfl rfl rfl .nil ?_ ?_
  · rintro i v ys c I L₂ Cc o ps' nw' h₈ tk₈ Z₁ Z₂ hi hv hJ C₈ H₈ hZ₁ _
    have hi' : i < rs.length := by omega
    obtain ⟨a, us, ca, ns, hns, rfl, ha, hus⟩ := hP₇.ex hv
    rw [List.getElem?_map, List.getElem?_eq_getElem hi'] at hns
    have hns : plc ws rs[i] = ns := Option.some.inj hns
    have hsucc := map_take_succ (f := kof ws) (List.getElem?_eq_getElem hi')
    have hkx : kof ws rs[i] = ns.map fun p => (wk ws p).kind := by unfold kof; rw [hns]
    rw [hkx] at hsucc
    have hlt4 : ∀ p ∈ ns, p < 4 := fun p hp => plc_lt (hns ▸ hp)
    clear hP₇ hv hkx
    repeat' walk_at "go"
    have hcw₈ := H₈.old hcw₇
    have hwl₈ := H₈.old hwl₇
    have hws₈ := hws₇.mono (P' := At h₈) fun a o _ e => H₈.old e
    have ha₈ := H₈.old ha
    have hul := hus.len
    have hnl : ns.length ≤ 4 := hns ▸ plc_len ws rs[i]
    clear hcw₇ hwl₇ hws₇ ha
    refine comp_go (fun j (ys : List Value) (nw' : LG) => Nums ys ((ns.take j).map fun p => (wk ws p).kind) ∧ nw' = []) (Src.list C₈.handled ha₈) C₈ H₈ (by omega) rfl rfl rfl ⟨.nil, rfl⟩ ?_ ?_
    · rintro j v ys' c' I' L₃ Cc' o' ps'' nw'' h₉ tk₉ Z₃ Z₄ hj hv ⟨hys, rfl⟩ C₉ H₉ hZ₃ _
      obtain ⟨p, tp, hp, rfl⟩ := hus.ex hv
      have hp4 := hlt4 p (List.mem_of_getElem? hp)
      obtain ⟨t, t1, t2, fa, vs, cf, hw1, hw2, hw3, hw4⟩ := hws₈.work (i := p) (by omega)
      have hwtl := hws₈.length
      have hs2 := map_take_succ (f := fun p => (wk ws p).kind) hp
      repeat' walk_at "go"
      exact hZ₃ _ _ ⟨_, _, _, _, rfl, H₉, by rw [hs2]; exact hys.snoc _ _, rfl⟩
    · rintro Cc' oC L₃ ys' c' nw'' h₉ tk₉ hnC ⟨hnum, rfl⟩ H₉
      rw [hul, List.take_length] at hnum
      refine post_val hnC H₉ fun h₁₀ H₁₀ => ?_
      refine hZ₁ _ _ ⟨h₁₀, _, _, (L₃, lstObj ys' c') :: nw', rfl, H₁₀.perm (by walk_at "perms"), ?_⟩
      rw [hsucc]
      exact (hJ.mono fun a o _ e => .tail _ e).snoc (.head _) hnum
  rintro Cc₂ oC₂ SE sv cs nwf₃ h₈ tk₈ hnC hJ H₈
  rw [hpvl, List.take_length] at hJ
  refine post_set hnC C' rfl H₈ fun h₉ tk₉ H₉ => ?_
  clear H₈ H₇
  dsimp only
  have H₆ : Sx g' L' ([("second", .ref SE), ("first", .ref FI), ("turns", .ref tl)] : PS) ((L' + 1 + 1 + 1 + 1, om) :: (L' + 1 + 1 + 1, og) :: (L' + 1 + 1, ou') :: (L' + 1, ow) :: (U, lstObj uv cu) :: (SE, lstObj sv cs) :: (FI, lstObj fv cf) :: (rest₁ ++ nwf₃)) h₉ := ((H₉.perm led_owed).sub (List.sublist_append_left _ _)).locs (by walk_at "lk")
  have hU' : LsP (fun a o => (a, o) ∈ rest₁ ++ nwf₃) uv (mat ws ts.length ws.length) := hU.mono fun a o _ hm => List.mem_append_left _ hm
  have hF' : LsP (fun a o => (a, o) ∈ rest₁ ++ nwf₃) fv (ts.map (kof ws)) := hF.mono fun a o _ hm => List.mem_append_left _ hm
  have hS' : LsP (fun a o => (a, o) ∈ rest₁ ++ nwf₃) sv (rs.map (kof ws)) := hJ.mono fun a o _ hm => List.mem_append_right _ hm
  clear H₉ hJ hP₇ hcw₇ hwl₇ hws₇ hP hpvl hU hF
  generalize rest₁ ++ nwf₃ = rest at *
  clear rest₁ nwf₃ hnC
  repeat' walk_at "go"
  rename_i h₁₀ gt₀ H₁₀
  obtain ⟨gt, egt, gv, gl, hG, H₁₁⟩ : ∃ gt, gt = gt₀ ∧ ∃ gv gl, LsP (fun a o => (a, o) ∈ (gl ++ rest : LG)) gv grps ∧ Sx g' L' ([("second", .ref SE), ("first", .ref FI), ("turns", .ref tl)] : PS) ((L' + 1 + 1 + 1 + 1, om) :: (L' + 1 + 1 + 1, og) :: (L' + 1 + 1, ou') :: (L' + 1, ow) :: (U, lstObj uv cu) :: (SE, lstObj sv cs) :: (FI, lstObj fv cf) :: (gt, tupObj gv) :: (gl ++ rest)) h₁₀ := by
    refine ⟨gt₀, rfl, _, [_, _, _, _, _, _, _], ?_, H₁₀.perm (List.perm_append_comm_assoc [_, _, _, _, _, _, _, _] [(L' + 1 + 1 + 1 + 1, om), (L' + 1 + 1 + 1, og), (L' + 1 + 1, ou'), (L' + 1, ow), (U, lstObj uv cu), (SE, lstObj sv cs), (FI, lstObj fv cf)] rest)⟩
    iterate 7
      refine' LsP.cons ?m ?q ?_
      case m => walk_at "mem"
      case q => first | exact .cons _ _ .nil | exact .cons _ _ (.cons _ _ .nil) | exact .cons _ _ (.cons _ _ (.cons _ _ .nil))
    exact .nil
  subst egt
  have hU := hU'.mono fun a o _ hm => List.mem_append_right gl hm
  have hF := hF'.mono fun a o _ hm => List.mem_append_right gl hm
  have hS := hS'.mono fun a o _ hm => List.mem_append_right gl hm
  clear H₁₀ H₆ hU' hF' hS'
  generalize gl ++ rest = rest₁ at *
  have hgl : gv.length = 7 := hG.len
  have H₁₂ := H₁₁.perm (nw' := (L' + 1 + 1 + 1, og) :: (L' + 1 + 1 + 1 + 1, om) :: (L' + 1 + 1, ou') :: (L' + 1, ow) :: (U, lstObj uv cu) :: (SE, lstObj sv cs) :: (FI, lstObj fv cf) :: (gt, tupObj gv) :: rest₁) (List.Perm.swap _ _ _)
  clear H₁₁
  refine p_for_srcC (fun i (ps' : PS) (nw' : LG) => ps' = ([("second", .ref SE), ("first", .ref FI), ("turns", .ref tl)] : PS) ∧ ∃ om v, om.data = .cell v ∧ nw' = (L' + 1 + 1 + 1 + 1, om) :: (L' + 1 + 1, ou') :: (L' + 1, ow) :: (U, lstObj uv cu) :: (SE, lstObj sv cs) :: (FI, lstObj fv cf) :: (gt, tupObj gv) :: rest₁)
    (SrcK.tup (vs := gv) C'.handled) C' H₁₂ dg rfl rfl ⟨rfl, om, _, dm, rfl⟩ (by rintro i ps' nw' h' ⟨_, om, v, _, rfl⟩ hl _; exact hl (gt, tupObj gv) (by walk_at "mem")) ?_ ?_
  · clear H₁₂ dm dg
    rintro gi v ps' nw' h₁₁ tk₁₁ io₁ og Z hgi hv ⟨rfl, om, vm, dm, rfl⟩ dg H₁₁ hZ
    obtain ⟨ga, gus, gc, grp, hgrp, rfl, hga, hgn⟩ := hG.ex hv
    have hgm : grp ∈ grps := List.mem_of_getElem? hgrp
    have hog := ho grp hgm
    clear ho hv hgi
    have hgl3 : grp.length ≤ 3 := by
      have : ∀ x ∈ grps, x.length ≤ 3 := by decide
      exact this grp hgm
    repeat' walk_at "go"
    refine p_range1 (by assumption) fun h₁₂ rg tr1 tr2 H₁₂ => ?_
    clear H₁₁
    obtain ⟨tr3, o1, o2, o3, o4, H₁₃⟩ : ∃ tr3 o1 o2 o3 o4, Sx g' L' ([("two", .int 0 o4), ("one", .int 0 o3), ("low", .int 0 o2), ("spare", .int 0 o1), ("second", .ref SE), ("first", .ref FI), ("turns", .ref tl)] : PS)
      ((L' + 1 + 1 + 1 + 1, om) :: io₁ :: (L' + 1 + 1 + 1, og) :: (rg, rangeObj 0 (tv.length : Nat) tr1 tr3 tr2) :: (L' + 1 + 1, ou') :: (L' + 1, ow) :: (U, lstObj uv cu) :: (SE, lstObj sv cs) :: (FI, lstObj fv cf) :: (gt, tupObj gv) :: rest₁) h₁₂ := ⟨_, _, _, _, _, (H₁₂.perm (by walk_at "perms")).locs (by walk_at "lk")⟩
    clear H₁₂
    refine p_for_srcC (fun t (ps' : PS) (nw' : LG) => (∃ o1 o2 o3 o4, ps' = ([("two", .int (owe ws ts rs grp t).two o4), ("one", .int (owe ws ts rs grp t).one o3), ("low", .int (owe ws ts rs grp t).low o2), ("spare", .int (owe ws ts rs grp t).spare o1), ("second", .ref SE), ("first", .ref FI), ("turns", .ref tl)] : PS)) ∧
        nw' = io₁ :: (L' + 1 + 1 + 1, og) :: (rg, rangeObj 0 (tv.length : Nat) tr1 tr3 tr2) :: (L' + 1 + 1, ou') :: (L' + 1, ow) :: (U, lstObj uv cu) :: (SE, lstObj sv cs) :: (FI, lstObj fv cf) :: (gt, tupObj gv) :: rest₁)
      (SrcK.range (m := tv.length) C'.handled (by omega)) C' H₁₃ dm rfl rfl ⟨⟨o1, o2, o3, o4, rfl⟩, rfl⟩ (by rintro i ps' nw' h' ⟨_, rfl⟩ hl _; exact hl (rg, rangeObj 0 (tv.length : Nat) tr1 tr3 tr2) (by walk_at "mem")) ?_ ?_
    · clear H₁₃ dm
      rintro t v ps' nw' h₁₃ tk₁₃ io₂ om Y ht1 ⟨tt, rfl⟩ ⟨⟨o1, o2, o3, o4, rfl⟩, rfl⟩ dm H₁₃ hY
      have htl1 : t < ts.length := by omega
      have hq := hog t htl1
      have hstep : owe ws ts rs grp (t + 1) = ⟨(owe ws ts rs grp t).spare + (came ws grp t - 1), min (owe ws ts rs grp t).low ((owe ws ts rs grp t).spare + (came ws grp t - 1)),
        (owe ws ts rs grp t).one + (came ws grp t - (hits ws grp (ts.getD t []) : Nat)), (owe ws ts rs grp t).two + (came ws grp t - (hits ws grp (rs.getD t []) : Nat))⟩ := rfl
      unfold hits at hstep
      rw [hstep] at hq
      dsimp only at hq
      generalize owe ws ts rs grp t = q at *
      clear hog
      repeat' walk_at "go"
      obtain ⟨ra, rus, rc, eu1, eu2, eu3⟩ := hU.at (mat_get (ws := ws) (k := ws.length) htl1)
      have eu1' : uv[((t : Nat) : Int).toNat]? = some (.ref ra) := eu1
      have ⟨fa, fus, fc, ef1, ef2, ef3⟩ := hF.at (i := t) (ns := kof ws (ts.getD t [])) (by rw [List.getElem?_map, List.getElem?_eq_getElem htl1, List.getD_eq_getElem?_getD, List.getElem?_eq_getElem htl1]; rfl)
      have ef1' : fv[((t : Nat) : Int).toNat]? = some (.ref fa) := ef1
      have ⟨sa, sus, sc, es1, es2, es3⟩ := hS.at (i := t) (ns := kof ws (rs.getD t [])) (by rw [List.getElem?_map, List.getElem?_eq_getElem (by omega), List.getD_eq_getElem?_getD, List.getElem?_eq_getElem (by omega)]; rfl)
      have es1' : sv[((t : Nat) : Int).toNat]? = some (.ref sa) := es1
      have hfvl := hF.len
      have hsvl := hS.len
      have huvl := hU.len
      have hgul := hgn.len
      rw [List.length_map] at hfvl hsvl
      rw [mat_len] at huvl
      have hfl := kof_len ws (ts.getD t [])
      have hsl := kof_len ws (rs.getD t [])
      have hful := ef3.len
      have hsul := es3.len
      generalize hfk : kof ws (ts.getD t []) = fk at *
      generalize hsk : kof ws (rs.getD t []) = sk at *
      have hpick : ∀ {p : Addr × Obj}, p ∈ rest₁ → p ∈ (io₂ :: (L' + 1 + 1 + 1 + 1, om) :: io₁ :: (L' + 1 + 1 + 1, og) :: (rg, rangeObj 0 (tv.length : Nat) tr1 tr3 tr2) :: (L' + 1 + 1, ou') :: (L' + 1, ow) :: (U, lstObj uv cu) :: (SE, lstObj sv cs) :: (FI, lstObj fv cf) :: (gt, tupObj gv) :: rest₁ : LG) := fun hm => List.mem_append_right [_, _, _, _, _, _, _, _, _, _, _] hm
      -- came
      have hga₁ := H₁₃.get (hpick hga)
      have hra₁ := H₁₃.get (hpick eu2)
      have hm₁ := H₁₃.get (a := L' + 1 + 1 + 1 + 1) (o := om) (by walk_at "mem")
      have hu₁ := H₁₃.get (a := L' + 1 + 1) (o := ou') (by walk_at "mem")
      have hU₁ := H₁₃.get (a := U) (o := lstObj uv cu) (by walk_at "mem")
      refine comp_go (fun j (ys : List Value) (nw' : LG) => Nums ys ((grp.take j).map fun c => unit ws ws.length t c) ∧ nw' = []) (Src.list C'.handled hga₁) C' H₁₃ (by omega) rfl rfl rfl ⟨.nil, rfl⟩ ?_ ?_
      · rintro j v ys' c' I' L₃ Cc' o' ps'' nw'' h₁₄ tk₁₄ Z₃ Z₄ hj hv ⟨hys, rfl⟩ C₁₄ H₁₄ hZ₃ hZ₄
        obtain ⟨c, tc, hc, rfl⟩ := hgn.ex hv
        have hc3 : c < 3 := by
          have : ∀ x ∈ grps, ∀ c ∈ x, c < 3 := by decide
          exact this grp hgm c (List.mem_of_getElem? hc)
        obtain ⟨tu, hu⟩ := eu3.at (row_get (ws := ws) (k := ws.length) (t := t) hc3)
        have hu' : rus[((c : Nat) : Int).toNat]? = some (.int ((unit ws ws.length t c : Nat) : Int) tu) := hu
        have hrul := eu3.len
        have hs2 := map_take_succ (f := fun c => unit ws ws.length t c) hc
        repeat' walk_at "go"
        exact hZ₃ _ _ ⟨_, _, _, _, rfl, H₁₄, by rw [hs2]; exact hys.snoc _ _, rfl⟩
      rintro Cc oC L₃ ys₁ c₁ nw'' h₁₄ tk₁₄ hnC ⟨hnum, rfl⟩ H₁₄
      rw [hgul, List.take_length] at hnum
      refine post_val hnC H₁₄ fun h₁₅ H₁₅ => ?_
      clear H₁₄ H₁₃ hga₁ hra₁ hm₁ hu₁ hU₁ hnC oC Cc
      repeat' walk_at "go"
      refine c_sum C' H₁₅ (H₁₅.get (.head _)) hnum fun h₁₆ tsum tk₁₆ H₁₆ => ?_
      rw [came_sum]
      clear H₁₅
      generalize came ws grp t = cm at *
      repeat' walk_at "go"
      rename_i h₁₇ H₁₇
      clear H₁₆ hnum
      replace H₁₇ := H₁₇.sub (List.sublist_cons_self _ _)
      -- a count
      have hga₁ := H₁₇.get (hpick hga)
      have hfa₁ := H₁₇.get (hpick ef2)
      have hg₁ := H₁₇.get (a := L' + 1 + 1 + 1) (o := og) (by walk_at "mem")
      refine comp_go (fun j (ys : List Value) (nw' : LG) => Nums ys ((fk.take j).filter fun k => grp.contains k) ∧ nw' = []) (Src.list C'.handled hfa₁) C' H₁₇ (by omega) rfl rfl rfl ⟨.nil, rfl⟩ ?_ ?_
      · rintro j v ys' c' I' L₃ Cc' o' ps'' nw'' h₁₄ tk₁₄ Z₃ Z₄ hj hv ⟨hys, rfl⟩ C₁₄ H₁₄ hZ₃ hZ₄
        obtain ⟨c, tc, hc, rfl⟩ := ef3.ex hv
        have hs2 := nfilter_take_succ (p := fun k => grp.contains k) hc
        repeat' walk_at "go"
        refine iteD (fun hb => ?_) (fun hb => ?_)
        · rw [if_pos hb] at hs2
          repeat' walk_at "go"
          exact hZ₃ _ _ ⟨_, _, _, _, rfl, H₁₄, by rw [hs2]; exact hys.snoc _ _, rfl⟩
        · rw [if_neg (by rw [hb]; exact Bool.false_ne_true), List.append_nil] at hs2
          exact hZ₄ _ ⟨_, _, _, _, rfl, H₁₄, by rw [hs2]; exact hys, rfl⟩
      rintro Cc oC L₃ ys₁ c₁ nw'' h₁₄ tk₁₄ hnC ⟨hnum, rfl⟩ H₁₄
      rw [hful, List.take_length] at hnum
      have hnl := hnum.len
      have hnl2 : (fk.filter fun k => grp.contains k).length ≤ 4 := Nat.le_trans (List.length_filter_le _ _) (by omega)
      refine post_val hnC H₁₄ fun h₁₅ H₁₅ => ?_
      clear H₁₄ H₁₇ hga₁ hfa₁ hg₁ hnC oC Cc
      repeat' walk_at "go"
      rename_i h₁₈ H₁₈
      clear H₁₅
      replace H₁₈ := H₁₈.sub (List.sublist_cons_self _ _)
      rw [hnl] at H₁₈
      clear hnl hnum ys₁
      -- a count
      have hga₁ := H₁₈.get (hpick hga)
      have hsa₁ := H₁₈.get (hpick es2)
      have hg₁ := H₁₈.get (a := L' + 1 + 1 + 1) (o := og) (by walk_at "mem")
      refine comp_go (fun j (ys : List Value) (nw' : LG) => Nums ys ((sk.take j).filter fun k => grp.contains k) ∧ nw' = []) (Src.list C'.handled hsa₁) C' H₁₈ (by omega) rfl rfl rfl ⟨.nil, rfl⟩ ?_ ?_
      · rintro j v ys' c' I' L₃ Cc' o' ps'' nw'' h₁₄ tk₁₄ Z₃ Z₄ hj hv ⟨hys, rfl⟩ C₁₄ H₁₄ hZ₃ hZ₄
        obtain ⟨c, tc, hc, rfl⟩ := es3.ex hv
        have hs2 := nfilter_take_succ (p := fun k => grp.contains k) hc
        repeat' walk_at "go"
        refine iteD (fun hb => ?_) (fun hb => ?_)
        · rw [if_pos hb] at hs2
          repeat' walk_at "go"
          exact hZ₃ _ _ ⟨_, _, _, _, rfl, H₁₄, by rw [hs2]; exact hys.snoc _ _, rfl⟩
        · rw [if_neg (by rw [hb]; exact Bool.false_ne_true), List.append_nil] at hs2
          exact hZ₄ _ ⟨_, _, _, _, rfl, H₁₄, by rw [hs2]; exact hys, rfl⟩
      rintro Cc oC L₃ ys₁ c₁ nw'' h₁₄ tk₁₄ hnC ⟨hnum, rfl⟩ H₁₄
      rw [hsul, List.take_length] at hnum
      have hnl := hnum.len
      have hnl3 : (sk.filter fun k => grp.contains k).length ≤ 4 := Nat.le_trans (List.length_filter_le _ _) (by omega)
      refine post_val hnC H₁₄ fun h₁₅ H₁₅ => ?_
      clear H₁₄ H₁₈ hga₁ hsa₁ hg₁ hnC oC Cc
      repeat' walk_at "go"
      rename_i h₂₀ tk₂₀ v₂₀ H₂₀
      clear H₁₅
      replace H₂₀ := H₂₀.sub (List.sublist_cons_self _ _)
      rw [hnl] at H₂₀ ⊢
      have hga₂ := H₂₀.get (hpick hga)
      refine iteF (decide_eq_false (Int.not_lt.mpr hq.1)) ?_
      repeat' walk_at "goI"
      refine wpAny_execs_cons (wpAny_mono (Q := fun f s' => f = Flow.next ∧ ∃ tk', s' = (⟨h₂₀, G, D, tk', O⟩ : Shared)) ?_ ?_ fun _ _ x => x)
      · repeat' walk_at "go"
        refine iteD (fun hb => ?_) (fun hb => ?_)
        · repeat' walk_at "go"
          rw [hgul]
          refine iteF ?_ ?_
          · rw [Bool.eq_false_iff]
            intro h3
            have h3' : grp.length = 3 := by
              have := beq_iff_eq.mp h3
              omega
            rw [hq.2.1 h3'] at hb
            simp at hb
          · repeat' walk_at "go"
            exact ⟨rfl, _, rfl⟩
        · repeat' walk_at "go"
          exact ⟨rfl, _, rfl⟩
      · rintro f s' ⟨rfl, tk₂₁, rfl⟩
        dsimp only
        repeat' walk_at "go"
        refine iteD (fun hb => ?_) (fun hb => ?_)
        · repeat' walk_at "go"
          rename_i h₂₁ gt₂ H₂₁
          have hne : ¬ grp ∈ ([[0], [0, 1], [0, 1, 2]] : List (List Nat)) := by
            intro hm
            rw [hq.2.2 hm] at hb
            simp at hb
          refine c_ingrp (ls := [[0], [0, 1], [0, 1, 2]]) C' (H₂₁.get (.tail _ (.tail _ (.tail _ (.tail _ (hpick hga)))))) hgn (H₂₁.get (.head _)) ?_ ?_
          · iterate 3
              refine' LsP.cons ?m ?q ?_
              case m => exact H₂₁.get (by walk_at "mem")
              case q => first | exact .cons _ _ .nil | exact .cons _ _ (.cons _ _ .nil) | exact .cons _ _ (.cons _ _ (.cons _ _ .nil))
            exact .nil
          rw [show ([[0], [0, 1], [0, 1, 2]] : List (List Nat)).contains grp = false from by rw [Bool.eq_false_iff]; intro h; exact hne (List.contains_iff_mem.mp h)]
          repeat' walk_at "go"
          obtain ⟨o1', o2', o3', o4', Hf⟩ : ∃ o1 o2 o3 o4, Sx g' L' ([("two", .int (owe ws ts rs grp (t + 1)).two o4), ("one", .int (owe ws ts rs grp (t + 1)).one o3), ("low", .int (owe ws ts rs grp (t + 1)).low o2), ("spare", .int (owe ws ts rs grp (t + 1)).spare o1), ("second", .ref SE), ("first", .ref FI), ("turns", .ref tl)] : PS)
            (io₂ :: (L' + 1 + 1 + 1 + 1, om) :: io₁ :: (L' + 1 + 1 + 1, og) :: (rg, rangeObj 0 (tv.length : Nat) tr1 tr3 tr2) :: (L' + 1 + 1, ou') :: (L' + 1, ow) :: (U, lstObj uv cu) :: (SE, lstObj sv cs) :: (FI, lstObj fv cf) :: (gt, tupObj gv) :: rest₁) h₂₁ := by
            rw [hstep]
            exact ⟨_, _, _, _, (H₂₁.sub (List.sublist_append_right [_, _, _, _] _)).locs (by walk_at "lk")⟩
          exact hY _ _ ⟨_, _, _, _, rfl, Hf, ⟨_, _, _, _, rfl⟩, rfl⟩
        · repeat' walk_at "go"
          obtain ⟨o1', o2', o3', o4', Hf⟩ : ∃ o1 o2 o3 o4, Sx g' L' ([("two", .int (owe ws ts rs grp (t + 1)).two o4), ("one", .int (owe ws ts rs grp (t + 1)).one o3), ("low", .int (owe ws ts rs grp (t + 1)).low o2), ("spare", .int (owe ws ts rs grp (t + 1)).spare o1), ("second", .ref SE), ("first", .ref FI), ("turns", .ref tl)] : PS)
            (io₂ :: (L' + 1 + 1 + 1 + 1, om) :: io₁ :: (L' + 1 + 1 + 1, og) :: (rg, rangeObj 0 (tv.length : Nat) tr1 tr3 tr2) :: (L' + 1 + 1, ou') :: (L' + 1, ow) :: (U, lstObj uv cu) :: (SE, lstObj sv cs) :: (FI, lstObj fv cf) :: (gt, tupObj gv) :: rest₁) h₂₀ := by
            rw [hstep]
            exact ⟨_, _, _, _, H₂₀.locs (by walk_at "lk")⟩
          exact hY _ _ ⟨_, _, _, _, rfl, Hf, ⟨_, _, _, _, rfl⟩, rfl⟩
    · rintro ps' nw' om vm h₁₃ tk₁₃ dm ⟨⟨o1, o2, o3, o4, rfl⟩, rfl⟩ H₁₃'
      dsimp only
      repeat' walk_at "go"
      refine hZ _ _ ⟨_, _, _, (L' + 1 + 1 + 1 + 1, om) :: (L' + 1 + 1, ou') :: (L' + 1, ow) :: (U, lstObj uv cu) :: (SE, lstObj sv cs) :: (FI, lstObj fv cf) :: (gt, tupObj gv) :: rest₁, rfl, ?_, rfl, om, vm, dm, rfl⟩
      have H₁₄ := H₁₃'.perm (nw' := (rg, rangeObj 0 (tv.length : Nat) tr1 tr3 tr2) :: io₁ :: (L' + 1 + 1 + 1, og) :: (L' + 1 + 1 + 1 + 1, om) :: (L' + 1 + 1, ou') :: (L' + 1, ow) :: (U, lstObj uv cu) :: (SE, lstObj sv cs) :: (FI, lstObj fv cf) :: (gt, tupObj gv) :: rest₁) (by walk_at "perms")
      exact (H₁₄.sub (List.sublist_cons_self _ _)).locs (by walk_at "lk")
  · rintro ps' nw' og vg h₁₁ tk₁₁ dg' ⟨rfl, om, vm, dm', rfl⟩ H₁₁
    dsimp only
    repeat' walk_at "go"
    exact hZZ _ _ ⟨_, _, _, _, rfl, H₁₁.sub (List.nil_sublist _), fun H'' => k _ _ H''⟩
end
end Mine

namespace Mine
section
variable {w : World} {n : Nat} {A : Around} {env : Env} {g : Heap} {ps : PS} {nw fz : LG} {h : Heap} {G : Array GenState} {D : Drawn} {tk₀ : Nat} {O : OsState} {Q : Value → Shared → Prop} {E : Value → Shared → Prop} {wl tl : Addr} {ws : List Wk} {tv : List Value} {ct u : Nat} {ts : List (List Nat)}
noncomputable def WL (L' LF EN : Addr) (oa oe oc od op ot ow : Obj) (lv ev : List Value) (lc ce : Nat) (rest : LG) : LG :=
  (L' + 1 + 1 + 1 + 1 + 1 + 1 + 1, oa) :: (L' + 1 + 1 + 1 + 1 + 1 + 1, oe) :: (L' + 1 + 1 + 1 + 1 + 1, oc) :: (L' + 1 + 1 + 1 + 1, od) :: (L' + 1 + 1 + 1, op) :: (L' + 1 + 1, ot) :: (L' + 1, ow) :: (LF, lstObj lv lc) :: (EN, lstObj ev ce) :: rest
set_option maxHeartbeats 4000000 in
theorem whole_spec {en : Nat → Nat} {P : List Nat → Nat → Prop} (C : Cal w (n + 2) A env g) (H : Sx g env.locals ps nw h) (hw : WorksP (At h) wl ws) (h4 : ws.length = 4) (hcm : ∀ i, i < ws.length → (wk ws i).come ≤ 100 ∧ (wk ws i).n ≤ 9)
    (ht : h.get? tl = some (lstObj tv ct)) (hts : Txs tv ts) (htl : ts.length ≤ 1000)
    (hen : ∀ p, p < 4 → en p < ts.length ∧ plc ws (ts.getD (en p) []) = [p] ∧ ∀ t, t < ts.length → plc ws (ts.getD t []) = [p] → t ≤ en p) (hG : Good ws en P)
    (k : ∀ h' tk, Sx g env.locals ps nw h' → Q (.bool true) ⟨h', G, D, tk, O⟩) :
    wpAny (model PySem.Challenge.rw_wk0011_01.row.prog w) A (call (.ref 146) [.ref wl, .ref tl] []) Q E ⟨h, G, D, tk₀, O⟩ := by
  have hp : nw.Perm (([] : LG) ++ nw) := List.Perm.refl _
  walk_at "enterC"
  intro g' L' h₁ tk A' cells C' Y H' keep
  obtain ⟨oa, oe, oc, od, op, ot, ow, rfl, da, de, dc, dd, dp, dt, dw⟩ := kc_seven Y
  clear Y
  replace da : oa.data = .cell none := da
  replace de : oe.data = .cell none := de
  replace dc : oc.data = .cell none := dc
  replace dd : od.data = .cell none := dd
  replace dp : op.data = .cell none := dp
  replace dt : ot.data = .cell (some (.ref tl)) := dt
  replace dw : ow.data = .cell (some (.ref wl)) := dw
  replace H' : Sx g' L' ([] : PS) ([(L' + 1 + 1 + 1 + 1 + 1 + 1 + 1, oa), (L' + 1 + 1 + 1 + 1 + 1 + 1, oe), (L' + 1 + 1 + 1 + 1 + 1, oc), (L' + 1 + 1 + 1 + 1, od), (L' + 1 + 1 + 1, op), (L' + 1 + 1, ot), (L' + 1, ow)] : LG) h₁ := H'
  have ht' := keep _ _ ht (fun hm => nomatch hm)
  have hw' : WorksP (At g') wl ws := hw.mono fun a o _ e => keep _ _ e (fun hm => nomatch hm)
  have htv := hts.len
  clear C H keep hw hp ht
  refine' genQ ?_; intro Z hZ
  repeat' walk_at "go"
  refine places_spec (n := n) C' H' (hw'.up H') h4 (H'.old ht') hts htl fun h₂ tk₂ r pv cp nwf hP H₂ => ?_
  clear H'
  have H₃ := H₂.perm (nw' := (L' + 1 + 1 + 1 + 1 + 1 + 1 + 1, oa) :: (L' + 1 + 1 + 1 + 1 + 1 + 1, oe) :: (L' + 1 + 1 + 1 + 1 + 1, oc) :: (L' + 1 + 1 + 1 + 1, od) :: (L' + 1 + 1 + 1, op) :: (L' + 1 + 1, ot) :: (L' + 1, ow) :: (r, lstObj pv cp) :: nwf) (List.perm_append_comm (l₁ := (r, lstObj pv cp) :: nwf))
  clear H₂
  have hpvl := hP.len
  rw [List.length_map] at hpvl
  repeat' walk_at "go"
  rename_i hx op' dp' H₃'
  refine p_range1 H₃' fun h₄ r4 tr1 tr2 H₄ => ?_
  clear H₃
  have hc1 := H₄.get (a := L' + 1 + 1 + 1) (o := op') (by walk_at "mem")
  have hc2 := H₄.get (a := L' + 1 + 1) (o := ot) (by walk_at "mem")
  have hr₄ := H₄.get (a := r) (o := lstObj pv cp) (by walk_at "mem")
  have htl₄ := H₄.old ht'
  have hP₄ := hP.mono (P' := At h₄) fun a o _ hm => H₄.get (List.mem_append_right [_, _, _, _, _, _, _, _, _] hm)
  refine comp_goC (fun i (ys : List Value) (nw' : LG) => Nums ys ((List.range i).map en) ∧ nw' = []) (Src.range (m := 4) C'.handled (H₄.get (.head _)) (by omega)) C' (H₄.sub (List.sublist_cons_self _ _)) (by omega) rfl rfl (fun _ => rfl) (fun _ => rfl) ⟨.nil, rfl⟩ ?_ ?_
  · rintro i v ys c I L₂ Cc cc oc' o ps' nw' h₅ tk₅ hi ⟨ti, rfl⟩ ⟨hys, rfl⟩ C₅ hd₅ H₅
    obtain ⟨e1, e2, e3⟩ := hen i hi
    clear hP
    repeat' walk_at "go"
    refine p_range1 H₅ fun h₆ r5 tr3 tr4 H₆ => ?_
    clear H₅
    have hc1₆ := H₆.old hc1
    have hcc₆ := H₆.get (a := cc) (o := oc') (by walk_at "mem")
    have hr₆ := H₆.old hr₄
    have hP₆ := hP₄.mono (P' := At h₆) fun a o _ e => H₆.old e
    refine comp_go (fun t (ys : List Value) (nw' : LG) => Nums ys (ownT ws ts i t) ∧ nw' = []) (Src.range (m := tv.length) C₅.handled (H₆.get (.head _)) (by omega)) C₅ (H₆.sub (List.sublist_cons_self _ _)) (by omega) rfl rfl rfl ⟨.nil, rfl⟩ ?_ ?_
    · rintro t v ys' c' I' L₃ Cc' o' ps'' nw'' h₇ tk₇ Z₁ Z₂ ht1 ⟨tt, rfl⟩ ⟨hys', rfl⟩ C₇ H₇ hZ₁ hZ₂
      have htl1 : t < ts.length := by omega
      obtain ⟨a, us, ca, f1, f2, f3⟩ := hP₆.at (i := t) (ns := plc ws (ts.getD t [])) (by rw [List.getElem?_map, List.getElem?_eq_getElem htl1, List.getD_eq_getElem?_getD, List.getElem?_eq_getElem htl1]; rfl)
      have f1' : pv[((t : Nat) : Int).toNat]? = some (.ref a) := f1
      have hs2 := ownT_succ ws ts i t
      repeat' walk_at "go"
      rename_i h₈ l₈ H₈
      refine c_eqn (ms := [i]) C₇ (H₈.old f2) (H₈.get (.head _)) f3 (.cons _ _ .nil) ?_
      clear H₇
      repeat' walk_at "go"
      by_cases hq : plc ws (ts.getD t []) = [i]
      · rw [if_pos (beq_iff_eq.mpr hq)] at hs2
        refine iteT (decide_eq_true hq) ?_
        repeat' walk_at "go"
        exact hZ₁ _ _ ⟨_, _, _, _, rfl, H₈.sub (List.sublist_cons_self _ _), by rw [hs2]; exact hys'.snoc _ _, rfl⟩
      · rw [if_neg (fun e => hq (beq_iff_eq.mp e)), List.append_nil] at hs2
        refine iteF (decide_eq_false hq) ?_
        exact hZ₂ _ ⟨_, _, _, _, rfl, H₈.sub (List.sublist_cons_self _ _), by rw [hs2]; exact hys', rfl⟩
    · rintro Cc' oC L₃ ys' c' nw'' h₇ tk₇ hnC ⟨hnum, rfl⟩ H₇
      refine post_val hnC H₇ fun h₈ H₈ => ?_
      rw [htv] at hnum
      have hm : en i ∈ ownT ws ts i ts.length := ownT_mem.mpr ⟨e1, e2⟩
      have hs2 : (List.range (i + 1)).map en = (List.range i).map en ++ [en i] := by rw [List.range_succ, List.map_append]; rfl
      repeat' walk_at "go"
      refine c_maxl C₅ H₈ (H₈.get (.head _)) hnum (by rw [List.length_map]; exact List.length_pos_of_mem hm) fun h₉ M tM tk₉ hM hMx H₉ => ?_
      obtain ⟨m, rfl, hmm⟩ := nums_mem hM
      have hme : m = en i := by
        have h1 := e3 m (ownT_mem.mp hmm).1 (ownT_mem.mp hmm).2
        have h2 := hMx _ (List.mem_map.mpr ⟨en i, hm, rfl⟩)
        omega
      subst hme
      exact ⟨_, _, _, _, rfl, H₉.sub (List.sublist_cons_self _ _), [], rfl, by rw [hs2]; exact hys.snoc _ _, rfl⟩
  rintro Cc oC EN ev ce nw' h₅ tk₅ hnC ⟨hev, rfl⟩ H₅
  refine post_val hnC H₅ fun h₆ H₆ => ?_
  clear H₅ H₄ hc1 hc2 hr₄ htl₄ hP₄ hnC
  have H₇ : Sx g' L' ([] : PS) ((L' + 1 + 1 + 1 + 1 + 1 + 1 + 1, oa) :: (L' + 1 + 1 + 1 + 1 + 1 + 1, oe) :: (L' + 1 + 1 + 1 + 1 + 1, oc) :: (L' + 1 + 1 + 1 + 1, od) :: (L' + 1 + 1 + 1, op') :: (L' + 1 + 1, ot) :: (L' + 1, ow) :: (EN, lstObj ev ce) :: (r, lstObj pv cp) :: nwf) h₆ := H₆.perm (by walk_at "perms")
  clear H₆
  generalize hrest : ((r, lstObj pv cp) :: nwf : LG) = rest at *
  repeat' walk_at "go"
  rename_i _ od' dd' _ _ LF _ _ _ h₈ oc' dc' H₈
  have hwr := hw'.up H₈
  obtain ⟨i0, i1, i2, i3, H₉⟩ : ∃ i0 i1 i2 i3, Sx g' L' ([("left", .ref LF)] : PS) ((L' + 1 + 1 + 1 + 1 + 1 + 1 + 1, oa) :: (L' + 1 + 1 + 1 + 1 + 1 + 1, oe) :: (L' + 1 + 1 + 1 + 1 + 1, oc') :: (L' + 1 + 1 + 1 + 1, od') :: (L' + 1 + 1 + 1, op') :: (L' + 1 + 1, ot) :: (L' + 1, ow) :: (LF, lstObj [.int 0 i0, .int 1 i1, .int 2 i2, .int 3 i3] 0) :: (EN, lstObj ev ce) :: rest) h₈ := ⟨_, _, _, _, H₈.perm (by walk_at "perms")⟩
  clear hP H₈ hwr H₇
  have hevl := hev.len
  rw [List.length_map, List.length_range] at hevl
  refine p_while (fun k s' => ∃ h tk left clock tc lv lc oa oe oc va ve, s' = (⟨h, G, D, tk, O⟩ : Shared) ∧ oa.data = .cell va ∧ oe.data = .cell ve ∧ oc.data = .cell (some (.int ((clock : Nat) : Int) tc)) ∧ Nums lv left ∧ P left clock ∧ left.length ≤ 4 ∧ k = left.length * 300 + (200 - clock) ∧
    Sx g' L' ([("left", .ref LF)] : PS) (WL L' LF EN oa oe oc od' op' ot ow lv ev lc ce rest) h) (4 * 300 + 200)
    ⟨h₈, _, [0, 1, 2, 3], 0, _, _, 0, oa, oe, oc', none, none, rfl, da, de, dc', .cons 0 _ (.cons 1 _ (.cons 2 _ (.cons 3 _ .nil))), hG.start, by decide, rfl, H₉⟩ ?_
  clear H₉ da de dc dc' dd
  rintro k' s' HI
  refine' genQ ?_; intro Z2 hZ2
  obtain ⟨h, tk', left, clock, tc, lv, lc, oa, oe, oc, va, ve, rfl, da, de, dc, hlv, hPl, hll, rfl, Hw⟩ := HI
  refine wpAny_mono ?_ hZ2 fun _ _ x => x
  clear hZ2
  unfold WL at Hw
  have hlvl := hlv.len
  repeat' walk_at "go"
  rename_i hx lx Hx
  refine c_nen C' (Hx.get (by walk_at "mem")) (Hx.get (.head _)) hlv Nums.nil ?_
  replace Hx := Hx.sub (List.sublist_cons_self _ _)
  clear Hw
  repeat' walk_at "go"
  by_cases hl0 : left = []
  · refine iteF (by rw [decide_eq_true hl0]; rfl) ?_
    repeat' walk_at "go"
    exact hZ _ _ ⟨_, _, _, _, rfl, Hx.sub (List.nil_sublist _), fun H'' => k _ _ H''⟩
  · refine iteT (by rw [decide_eq_false hl0]; rfl) ?_
    refine' genQ ?_; intro Z3 hZ3
    repeat' walk_at "go"
    have hsub := hG.sub hPl
    have hcl := Hx.get (a := L' + 1 + 1 + 1 + 1 + 1) (o := oc) (by walk_at "mem")
    have hcw := Hx.get (a := L' + 1) (o := ow) (by walk_at "mem")
    obtain ⟨wts, wc, hwl, hws⟩ := hw'.up Hx
    have hwtl := hws.length
    refine comp_go (fun j (ys : List Value) (nw' : LG) => Nums ys ((left.take j).filter fun p => decide ((wk ws p).come ≤ clock)) ∧ nw' = []) (Src.list C'.handled (Hx.get (a := LF) (by walk_at "mem"))) C' Hx (by omega) rfl rfl rfl ⟨.nil, rfl⟩ ?_ ?_
    · rintro j v ys c I L₂ Cc o ps' nw' h₁₀ tk₁₀ Z₁ Z₂ hj hv ⟨hys, rfl⟩ C₁₀ H₁₀ hZ₁ hZ₂
      obtain ⟨p, tp, hp, rfl⟩ := hlv.ex hv
      have hp4 := hsub p (List.mem_of_getElem? hp)
      obtain ⟨t, t1, t2, fa, vs, cf, hw1, hw2, hw3, hw4⟩ := hws.work (i := p) (by omega)
      have hs2 := nf_take_succ (p := fun p => decide ((wk ws p).come ≤ clock)) hp
      repeat' walk_at "go"
      by_cases hq : (wk ws p).come ≤ clock
      · rw [if_pos (decide_eq_true hq)] at hs2
        refine iteT (decide_eq_true (by omega)) ?_
        repeat' walk_at "go"
        exact hZ₁ _ _ ⟨_, _, _, _, rfl, H₁₀, by rw [hs2]; exact hys.snoc _ _, rfl⟩
      · rw [if_neg (by rw [decide_eq_false hq]; exact Bool.false_ne_true), List.append_nil] at hs2
        refine iteF (decide_eq_false (by omega)) ?_
        exact hZ₂ _ ⟨_, _, _, _, rfl, H₁₀, by rw [hs2]; exact hys, rfl⟩
    rintro Cc oC HE hv hc nw' h₁₀ tk₁₀ hnC ⟨hhv, rfl⟩ H₁₀
    rw [hlvl, List.take_length] at hhv
    replace hhv : Nums hv (hereL ws left clock) := hhv
    refine post_set hnC C' rfl H₁₀ fun h₁₁ tk₁₁ H₁₁ => ?_
    clear H₁₀ hcl hcw hwl hws hnC oC
    dsimp only
    repeat' walk_at "go"
    rename_i hx₂ lx₂ Hx₂
    refine c_eqn C' (Hx₂.get (a := HE) (by walk_at "mem")) (Hx₂.get (.head _)) hhv Nums.nil ?_
    replace Hx₂ := Hx₂.sub (List.sublist_cons_self _ _)
    clear H₁₁
    repeat' walk_at "go"
    by_cases hh0 : hereL ws left clock = []
    · refine iteT (decide_eq_true hh0) ?_
      repeat' walk_at "go"
      rename_i h₁₂ oc₂ dc₂ H₁₂
      obtain ⟨p, hpl, hpc⟩ := here_none hl0 hh0
      have hp4 := hsub p hpl
      have := (hcm p (by omega)).1
      exact hZ3 _ _ ⟨_, by omega, h₁₂, _, left, clock + 1, _, lv, lc, oa, oe, oc₂, va, ve, rfl, da, de, dc₂, hlv, hG.idle hPl hl0 hh0, hll, (show _ = left.length * 300 + (200 - (clock + 1)) from rfl), (H₁₂.sub (List.sublist_cons_self _ _)).locs (by walk_at "lk")⟩
    · refine iteF (decide_eq_false hh0) ?_
      repeat' walk_at "go"
      have hce := Hx₂.get (a := L' + 1 + 1 + 1 + 1) (o := od') (by walk_at "mem")
      have hEN := Hx₂.get (a := EN) (o := lstObj ev ce) (by walk_at "mem")
      have hhl := hhv.len
      have hhl4 : (hereL ws left clock).length ≤ 4 := Nat.le_trans (List.length_filter_le _ _) hll
      refine comp_go (fun j (ys : List Value) (nw' : LG) => Nums ys (((hereL ws left clock).take j).map en) ∧ nw' = []) (Src.list C'.handled (Hx₂.get (a := HE) (by walk_at "mem"))) C' Hx₂ (by omega) rfl rfl rfl ⟨.nil, rfl⟩ ?_ ?_
      · rintro j v ys c I L₂ Cc o ps' nw' h₁₂ tk₁₂ Z₁ Z₂ hj hv' ⟨hys, rfl⟩ C₁₂ H₁₂ hZ₁ hZ₂
        obtain ⟨p, tp, hp, rfl⟩ := hhv.ex hv'
        have hp4 := hsub p (here_mem.mp (List.mem_of_getElem? hp)).1
        obtain ⟨te, hte⟩ := hev.at (en_get (en := en) hp4)
        have hte' : ev[((p : Nat) : Int).toNat]? = some (.int ((en p : Nat) : Int) te) := hte
        have hs2 := map_take_succ (f := en) hp
        repeat' walk_at "go"
        exact hZ₁ _ _ ⟨_, _, _, _, rfl, H₁₂, by rw [hs2]; exact hys.snoc _ _, rfl⟩
      rintro Cc oC L₂ ys c nw' h₁₂ tk₁₂ hnC ⟨hnum, rfl⟩ H₁₂
      rw [hhl, List.take_length] at hnum
      refine post_val hnC H₁₂ fun h₁₃ H₁₃ => ?_
      clear H₁₂ hce hEN hnC oC
      have hpos : 0 < (hereL ws left clock).length := List.length_pos_iff.mpr hh0
      repeat' walk_at "go"
      refine c_minl C' H₁₃ (H₁₃.get (.head _)) hnum (by rw [List.length_map, List.length_map]; exact hpos) fun h₁₄ M tM tk₁₄ hM hMn H₁₄ => ?_
      obtain ⟨m, rfl, hmm⟩ := nums_mem hM
      obtain ⟨j, hj, rfl⟩ := List.mem_map.mp hmm
      have hjmin : ∀ p ∈ hereL ws left clock, en j ≤ en p := fun p hp => by
        have := hMn _ (List.mem_map.mpr ⟨en p, List.mem_map.mpr ⟨p, hp, rfl⟩, rfl⟩)
        omega
      have hjl := (here_mem.mp hj).1
      have hj4 := hsub j hjl
      replace H₁₄ := H₁₄.sub (nw' := (HE, lstObj hv hc) :: (L' + 1 + 1 + 1 + 1 + 1 + 1 + 1, oa) :: (L' + 1 + 1 + 1 + 1 + 1 + 1, oe) :: (L' + 1 + 1 + 1 + 1 + 1, oc) :: (L' + 1 + 1 + 1 + 1, od') :: (L' + 1 + 1 + 1, op') :: (L' + 1 + 1, ot) :: (L' + 1, ow) :: (LF, lstObj lv lc) :: (EN, lstObj ev ce) :: rest) (List.sublist_cons_self _ _)
      clear H₁₃ hM hMn hmm hnum hh0 hpos
      repeat' walk_at "go"
      rename_i h₁₅ oe₂ de₂ H₁₅
      have hinj : ∀ m, m < j → ((List.range 4).map en)[m]? ≠ some (en j) := by
        intro m hm e
        rw [en_get (by omega)] at e
        have e1 := (hen m (by omega)).2.1
        have e2 := (hen j hj4).2.1
        rw [Option.some.inj e, e2] at e1
        have := List.cons.inj e1
        omega
      refine c_indexi (H₁₅.get (by walk_at "mem")) hev (en_get hj4) hinj (by omega) ?_
      clear H₁₄
      repeat' walk_at "go"
      rename_i h₁₆ oa₂ da₂ H₁₆
      obtain ⟨j1, j2⟩ := nidx_first hjl
      refine c_remove H₁₆ (by walk_at "up") hlv j1 j2 (by omega) fun h₁₇ c₁₇ H₁₇ => ?_
      have hlv' := hlv.erase (left.idxOf j)
      rw [erase_idx] at hlv'
      clear H₁₅ H₁₆
      obtain ⟨wts, wc, hwl, hws⟩ := id hw'
      obtain ⟨t, t1, t2, fa, vs, cf, hw1, hw2, hw3, hw4⟩ := hws.work (i := j) (by omega)
      have hwtl := hws.length
      have hvn : vs.length = (wk ws j).n := by rw [hw4.len, formsN]
      have hjn := (hcm j (by omega)).2
      repeat' walk_at "go"
      rename_i h₁₈ oc₂ dc₂ H₁₈
      rw [hvn] at dc₂
      refine p_range1 H₁₈ fun h₁₉ rg tr3 tr4 H₁₉ => ?_
      clear H₁₇ H₁₈
      have hwl₁₉ := H₁₉.old hwl
      have hws₁₉ := hws.mono (P' := At h₁₉) fun a o _ e => H₁₉.old e
      have hw2₁₉ := H₁₉.old hw2
      have c1 := H₁₉.get (a := L' + 1) (o := ow) (by walk_at "mem")
      have c2 := H₁₉.get (a := L' + 1 + 1 + 1 + 1 + 1 + 1 + 1) (o := oa₂) (by walk_at "mem")
      have c3 := H₁₉.get (a := L' + 1 + 1 + 1 + 1 + 1 + 1) (o := oe₂) (by walk_at "mem")
      have c4 := H₁₉.get (a := L' + 1 + 1 + 1 + 1) (o := od') (by walk_at "mem")
      have c5 := H₁₉.get (a := EN) (o := lstObj ev ce) (by walk_at "mem")
      refine comp_go (fun q (ys : List Value) (nw' : LG) => Nums ys (((List.range q).filter fun p => decide ((wk ws p).come < (wk ws j).come) && decide (en j < en p)).map fun p => (wk ws p).n) ∧ nw' = []) (Src.range (m := 4) C'.handled (H₁₉.get (.head _)) (by omega)) C' (H₁₉.sub (List.sublist_cons_self _ _)) (by omega) rfl rfl rfl ⟨.nil, rfl⟩ ?_ ?_
      · rintro p v ys c I L₂ Cc o ps' nw' h₂₀ tk₂₀ Z₁ Z₂ hp4 ⟨tp, rfl⟩ ⟨hys, rfl⟩ C₂₀ H₂₀ hZ₁ hZ₂
        obtain ⟨t', t1', t2', fa', vs', cf', hv1, hv2, hv3, hv4⟩ := hws₁₉.work (i := p) (by omega)
        have hvn' : vs'.length = (wk ws p).n := by rw [hv4.len, formsN]
        have hpn := (hcm p (by omega)).2
        obtain ⟨te, hte⟩ := hev.at (en_get (en := en) hp4)
        have hte' : ev[((p : Nat) : Int).toNat]? = some (.int ((en p : Nat) : Int) te) := hte
        have hs2 := longL_succ ws en j p
        repeat' walk_at "go"
        have fin : ∀ {h' tk' ps'}, ¬ ((wk ws p).come < (wk ws j).come ∧ en j < en p) → Sx h₁₉ Cc ps' ((I, o) :: (L₂, lstObj ys c) :: []) h' →
            CTurn h₁₉ Cc (I, o) (L₂, lstObj ys c) G D O (fun nw' => Nums ys (((List.range (p + 1)).filter fun p => decide ((wk ws p).come < (wk ws j).come) && decide (en j < en p)).map fun p => (wk ws p).n) ∧ nw' = []) ⟨h', G, D, tk', O⟩ := by
          intro h' tk' ps' hn hx
          rw [if_neg (by simpa using hn), List.append_nil] at hs2
          exact ⟨_, _, _, _, rfl, hx, by rw [hs2]; exact hys, rfl⟩
        by_cases hq1 : (wk ws p).come < (wk ws j).come
        · refine iteT (decide_eq_true (by omega)) ?_
          repeat' walk_at "go"
          by_cases hq2 : en j < en p
          · refine iteT (decide_eq_true (by omega)) ?_
            repeat' walk_at "go"
            rw [if_pos (by simp [hq1, hq2])] at hs2
            rw [hvn']
            exact hZ₁ _ _ ⟨_, _, _, _, rfl, H₂₀, by rw [hs2]; exact hys.snoc _ _, rfl⟩
          · refine iteF (decide_eq_false (by omega)) ?_
            exact hZ₂ _ (fin (fun x => hq2 x.2) H₂₀)
        · refine iteF (decide_eq_false (by omega)) ?_
          exact hZ₂ _ (fin (fun x => hq1 x.1) H₂₀)
      rintro Cc oC LO lov lc₂ nw' h₂₀ tk₂₀ hnC ⟨hnum, rfl⟩ H₂₀
      replace hnum : Nums lov (longL ws en j) := hnum
      have hlol := hnum.len
      have hlo4 : (longL ws en j).length ≤ 4 := by
        unfold longL
        rw [List.length_map]
        exact Nat.le_trans (List.length_filter_le _ _) (by simp)
      refine post_set hnC C' rfl H₂₀ fun h₂₁ tk₂₁ H₂₁ => ?_
      clear H₂₀ H₁₉ hwl₁₉ hws₁₉ hw2₁₉ c1 c2 c3 c4 c5 hnC oC
      dsimp only
      repeat' walk_at "go"
      rename_i h₂₂ lx₂ H₂₂
      have hmx := fun tt => Nums.append (vs := [.int ((2 : Nat) : Int) tt]) (ns := [2]) (.cons 2 tt .nil) hnum
      refine c_maxl C' H₂₂ (H₂₂.get (.head _)) (hmx _) (by simp) fun h₂₃ M2 tM2 tk₂₃ hM hMx H₂₃ => ?_
      obtain ⟨m2, rfl, _⟩ := nums_mem hM
      have hbd := hG.bound hPl hj hjmin m2 fun a ha => by
        have := hMx _ (List.mem_map.mpr ⟨a, ha, rfl⟩)
        omega
      clear H₂₁ H₂₂ hM hMx
      repeat' walk_at "go"
      refine iteF (decide_eq_false (by omega)) ?_
      repeat' walk_at "go"
      have hlen : (left.erase j).length = left.length - 1 := List.length_erase_of_mem hjl
      have hlpos : 0 < left.length := List.length_pos_of_mem hjl
      have H₂₄ : Sx g' L' _ (WL L' LF EN oa₂ oe₂ oc₂ od' op' ot ow (lv.eraseIdx (left.idxOf j)) ev c₁₇ ce rest) h₂₃ := H₂₃.sub (List.sublist_append_right [_, _, _, _] _)
      exact hZ3 _ _ ⟨_, by omega, h₂₃, _, left.erase j, clock + (wk ws j).n, _, _, c₁₇, oa₂, oe₂, oc₂, _, _, rfl, da₂, de₂, dc₂, hlv', hG.serve hPl hj hjmin, by omega, (show _ = (left.erase j).length * 300 + (200 - (clock + (wk ws j).n)) from rfl), H₂₄.locs (by walk_at "lk")⟩
end
end Mine

namespace Mine
section
variable {w : World} {n : Nat} {A : Around} {env : Env} {g : Heap} {ps : PS} {nw fz : LG} {h : Heap} {G : Array GenState} {D : Drawn} {tk₀ : Nat} {O : OsState} {Q : Value → Shared → Prop} {E : Value → Shared → Prop} {sl : Addr} {vs : List Value} {ns : List Int}
set_option maxHeartbeats 4000000 in
theorem works_spec (C : Cal w (n + 1) A env g) (H : Sx g env.locals ps nw h) (hs : h.IsList sl vs.toArray) (hi : IntsAre vs ns) (hn : vs.length ≤ 1000)
    (k : ∀ h' tk r wv c nwf xs, WsP (fun a o => (a, o) ∈ nwf) wv (wsN xs) → Sx g env.locals ps ((r, lstObj wv c) :: (nwf ++ nw)) h' → Q (.ref r) ⟨h', G, D, tk, O⟩) :
    wpAny (model PySem.Challenge.rw_wk0011_01.row.prog w) A (call (.ref 112) [.ref sl] []) Q E ⟨h, G, D, tk₀, O⟩ := by
  walk_at "enter"
  intro g' L' h₁ tk A' htk C' H' keep
  have hs' : g'.IsList sl vs.toArray := by
    obtain ⟨o, ho, r⟩ := hs
    exact ⟨o, keep _ _ ho, r⟩
  replace H' : Sx g' L' ([("script", .ref sl)] : PS) [] h₁ := H'
  clear C H keep hs
  refine' genQ ?_; intro ZZ hZZ
  repeat' walk_at "go"
  rename_i _ CL _ h₃ H₃
  have hs3 : h₃.IsList sl vs.toArray := by
    obtain ⟨o, ho, r⟩ := hs'
    exact ⟨o, H₃.old ho, r⟩
  refine c_lsliceI H₃ hs3 .none (.int 12 _) (by omega) (fun SL h₄ H₄ => ?_) rfl
  rw [show kms_pick vs none (some 12) = vs.take 12 from pick_upto (k := 12)] at H₄
  have hi12 := hi.take 12
  have hl12 : (vs.take 12).length ≤ 12 := by rw [List.length_take]; omega
  generalize vs.take 12 = sv at *
  generalize ns.take 12 = ms at *
  clear H' H₃ hs3
  repeat' walk_at "go"
  refine c_enum H₄ (H₄.get (.head _)) fun h₅ e it o hst H₅ => ?_
  clear H₄
  refine p_for_enum (items := sv) (fun i (ps' : PS) (nw' : LG) => ps' = ([("cells", .ref CL), ("script", .ref sl)] : PS) ∧ ∃ cv c xs, nw' = ([(SL, lstObj sv 0), (CL, lstObj cv c)] : LG) ∧ Nums cv xs ∧ xs.length = 4 ∧ ∀ x ∈ xs, x ≤ 60 + 1000000 * i)
    C' rfl H₅ hst rfl rfl ⟨rfl, _, 0, [51, 1, 13, 38], rfl, .cons 51 _ (.cons 1 _ (.cons 13 _ (.cons 38 _ .nil))), rfl, by decide⟩ (by rintro i ps' nw' h' ⟨_, cv, c, xs, rfl, _⟩ hl _; exact lst_is (hl (SL, lstObj sv 0) (.head _))) ?_ ?_
  · clear H₅
    intro i v ti ps' nw' h₆ tk₆ io₁ io₂ hv HJ H₆
    refine' genQ ?_; intro Z hZ
    obtain ⟨rfl, cv, c, xs, rfl, hxs, hx4, hxb⟩ := HJ
    have hi' : i < sv.length := (List.getElem?_eq_some_iff.mp hv).1
    obtain ⟨z, tz, rfl⟩ := IntsAre.ex hi12 hv
    obtain ⟨m, hm, hmb⟩ := fmod_pos z
    have h4 : i % 4 < xs.length := by omega
    obtain ⟨tc, htc⟩ := hxs.at (List.getElem?_eq_getElem h4)
    have htc' : cv[((i % 4 : Nat) : Int).toNat]? = some (.int ((xs[i % 4] : Nat) : Int) tc) := htc
    have hcl := hxs.len
    have hmod : ((i : Nat) : Int).fmod 4 = ((i % 4 : Nat) : Int) := fmod_nat i 4
    have hxb4 := hxb _ (List.getElem_mem h4)
    repeat' walk_at "go"
    rw [hmod]
    repeat' walk_at "go"
    rename_i h₇ c₇ H₇
    rw [hm] at H₇
    refine hZ _ _ ⟨_, _, _, _, rfl, H₇.locs (by walk_at "lk"), rfl, _, c₇, xs.set (i % 4) (xs[i % 4] + m), rfl, hxs.set (i % 4) (xs[i % 4] + m) _, by rw [List.length_set]; exact hx4, fun x hx => ?_⟩
    rcases List.mem_or_eq_of_mem_set hx with hx | rfl
    · have := hxb x hx
      omega
    · omega
  clear H₅
  rintro ps' nw' h₆ tk₆ ⟨rfl, cv, c, xs, rfl, hxs, hx4, hxb⟩ H₆
  have hxb' : ∀ x ∈ xs, x ≤ 60 + 1000000 * 12 := fun x hx => Nat.le_trans (hxb x hx) (by omega)
  dsimp only
  repeat' walk_at "go"
  rename_i _ WL _ _ _ h₇ H₇
  refine p_range1 (by assumption) fun h₈ rg tr1 tr2 H₈ => ?_
  have H₉ := (H₈.perm (nw' := (rg, rangeObj 0 4 tr1 _ tr2) :: (WL, lstObj [] 0) :: (CL, lstObj cv c) :: [(SL, lstObj sv 0)]) (by walk_at "perms")).sub (nw' := (rg, rangeObj 0 4 tr1 _ tr2) :: (WL, lstObj [] 0) :: (CL, lstObj cv c) :: []) (.cons_cons _ (.cons_cons _ (.cons_cons _ (List.nil_sublist _))))
  clear H₈ H₆ H₇
  refine p_for_range (m := 4) (fun i (ps' : PS) (nw' : LG) => (∃ tm, ps' = ([("minute", .int ((comeSum xs i : Nat) : Int) tm), ("works", .ref WL), ("cells", .ref CL)] : PS)) ∧ ∃ wv cw nwf, nw' = (WL, lstObj wv cw) :: (CL, lstObj cv c) :: nwf ∧ WsP (fun a o => (a, o) ∈ nwf) wv ((List.range i).map (wkN xs)))
    C' rfl (H₉.locs (ps' := [("minute", .int 0 _), ("works", .ref WL), ("cells", .ref CL)]) (by walk_at "lk")) rfl rfl (by omega) (by omega) (by omega) (by omega) ⟨⟨_, rfl⟩, [], 0, [], rfl, .nil⟩ ?_ ?_
  · clear H₉
    intro i tp ps' nw' h₁₀ tk₁₀ io hi4 HJ H₁₀
    refine' genQ ?_; intro Z hZ
    obtain ⟨⟨tm, rfl⟩, wv, cw, nwf, rfl, hW⟩ := HJ
    have hlt : i < xs.length := by omega
    obtain ⟨tx, hx⟩ := hxs.at (List.getElem?_eq_getElem hlt)
    have hx' : cv[((0 : Int) + (i : Nat)).toNat]? = some (.int ((xs.getD i 0 : Nat) : Int) tx) := by
      rw [show ((0 : Int) + (i : Nat)).toNat = i by omega, hx, List.getD_eq_getElem?_getD, List.getElem?_eq_getElem hlt]; rfl
    have hxb2 : xs.getD i 0 ≤ 12000060 := by
      rw [List.getD_eq_getElem?_getD, List.getElem?_eq_getElem hlt]
      exact hxb' _ (List.getElem_mem hlt)
    have hcs : comeSum xs (i + 1) = comeSum xs i + xs.getD i 0 % 3 := rfl
    have hwk : wkN xs i = ⟨comeSum xs (i + 1), xs.getD i 0 / 3 % 3, xs.getD i 0 / 9 % 3, 1 + xs.getD i 0 / 27 % 2, [34, 35, 77].getD (xs.getD i 0 / 3 % 3) 0, [97, 98, 99, 100].getD i 0⟩ := rfl
    generalize xs.getD i 0 = X at *
    have m3 : ((X : Nat) : Int).fmod 3 = ((X % 3 : Nat) : Int) := fmod_nat X 3
    have d9 : ((X : Nat) : Int).fdiv 9 = ((X / 9 : Nat) : Int) := fdiv_nat X 9
    have d3 : ((X : Nat) : Int).fdiv 3 = ((X / 3 : Nat) : Int) := fdiv_nat X 3
    have d27 : ((X : Nat) : Int).fdiv 27 = ((X / 27 : Nat) : Int) := fdiv_nat X 27
    have m9 : ((X / 9 : Nat) : Int).fmod 3 = ((X / 9 % 3 : Nat) : Int) := fmod_nat _ 3
    have m33 : ((X / 3 : Nat) : Int).fmod 3 = ((X / 3 % 3 : Nat) : Int) := fmod_nat _ 3
    have m27 : ((X / 27 : Nat) : Int).fmod 2 = ((X / 27 % 2 : Nat) : Int) := fmod_nat _ 2
    have hcl := hxs.len
    repeat' walk_at "go"
    rename_i h₁₁ H₁₁
    rw [m3, d9, m9, d27, m27] at H₁₁
    rw [d3, m33, show PySem.Str.ofString "\"#M" = S [34, 35, 77] by decide +kernel]
    have hk3 : X / 3 % 3 < 3 := Nat.mod_lt _ (by decide)
    have ha3 : X / 9 % 3 < 3 := Nat.mod_lt _ (by decide)
    have hb2 : X / 27 % 2 < 2 := Nat.mod_lt _ (by decide)
    generalize hka : X / 3 % 3 = ka at *
    generalize hah : X / 9 % 3 = ah at *
    generalize hbe : X / 27 % 2 = be at *
    clear H₁₀
    repeat' walk_at "go"
    rw [show PySem.Str.ofString "abcd" = S [97, 98, 99, 100] by decide +kernel]
    repeat' walk_at "go"
    rename_i _ FV _ h₁₂ H₁₂
    rw [show ((0 : Int) + (i : Nat)).toNat = i by omega] at H₁₂
    obtain ⟨y1, y2, y3, y4, y5, H₁₃⟩ : ∃ y1 y2 y3 y4 y5, Sx g' L' ([("forms", .ref FV), ("name", .str (S [[34, 35, 77].getD ka 0, [97, 98, 99, 100].getD i 0]) y1), ("behind", .int (1 + (be : Nat)) y2), ("ahead", .int ((ah : Nat) : Int) y3), ("minute", .int ((comeSum xs (i + 1) : Nat) : Int) y4), ("x", .int ((X : Nat) : Int) y5), ("works", .ref WL), ("cells", .ref CL)] : PS)
      ((FV, lstObj [] 0) :: io :: (WL, lstObj wv cw) :: (CL, lstObj cv c) :: nwf) h₁₂ := ⟨_, _, _, _, _, H₁₂.locs (by walk_at "lk")⟩
    clear H₁₁ H₁₂
    refine p_range1 H₁₃ fun h₁₄ rg2 tr3 tr4 H₁₄ => ?_
    clear H₁₃
    generalize hc : [34, 35, 77].getD ka 0 = cc at *
    generalize hd : [97, 98, 99, 100].getD i 0 = dd at *
    refine p_for_range (m := ah + (1 + be)) (fun d (ps' : PS) (nw' : LG) => ps' = ([("forms", .ref FV), ("name", .str (S [cc, dd]) y1), ("behind", .int (1 + (be : Nat)) y2), ("ahead", .int ((ah : Nat) : Int) y3), ("minute", .int ((comeSum xs (i + 1) : Nat) : Int) y4), ("x", .int ((X : Nat) : Int) y5), ("works", .ref WL), ("cells", .ref CL)] : PS) ∧
        ∃ fv cf, nw' = (FV, lstObj fv cf) :: io :: (WL, lstObj wv cw) :: (CL, lstObj cv c) :: nwf ∧ Txs fv ((List.range d).map fun d => wd (ah - d) (min (1 + be) (ah + (1 + be) - d)) cc dd))
      C' rfl H₁₄ rfl (by split <;> omega) (by omega) (by omega) (by omega) (by omega) ⟨rfl, [], 0, rfl, .nil⟩ ?_ ?_
    · clear H₁₄
      intro d td ps' nw' h₁₅ tk₁₅ io₂ hd4 HJ H₁₅
      refine' genQ ?_; intro Y hY
      obtain ⟨rfl, fv, cf, rfl, hfv⟩ := HJ
      have hfl := hfv.len
      rw [List.length_map, List.length_range] at hfl
      clear hcs hwk m3 d9 d3 d27 m9 m33 m27 hka hah hbe hxb2 hcl hlt hx hx' hxb hxb' hx4
      have e1 := blank_max (a := ah) (d := d)
      have e2 := blank_min hd4
      repeat' walk_at "go"
      rw [e1, blank_is]
      refine c_mul (k := ah - d) (by omega) fun t5 tk5 => ?_
      repeat' walk_at "go"
      rw [e2]
      refine c_mul (k := min (1 + be) (ah + (1 + be) - d)) (by omega) fun t6 tk6 => ?_
      repeat' walk_at "go"
      rename_i h₁₆ c₁₆ H₁₆
      have hs2 : (List.range (d + 1)).map (fun d => wd (ah - d) (min (1 + be) (ah + (1 + be) - d)) cc dd) = (List.range d).map (fun d => wd (ah - d) (min (1 + be) (ah + (1 + be) - d)) cc dd) ++ [wd (ah - d) (min (1 + be) (ah + (1 + be) - d)) cc dd] := by
        rw [List.range_succ, List.map_append]; rfl
      have htx : List.replicate (ah - d) 32 ++ [cc, dd] ++ List.replicate (min (1 + be) (ah + (1 + be) - d)) 32 = wd (ah - d) (min (1 + be) (ah + (1 + be) - d)) cc dd := by
        unfold wd; rw [List.append_assoc]; rfl
      rw [htx] at H₁₆
      have H₁₇ := H₁₆.perm (nw' := io₂ :: (FV, lstObj _ c₁₆) :: io :: (WL, lstObj wv cw) :: (CL, lstObj cv c) :: nwf) (by walk_at "perms")
      exact hY _ _ ⟨_, _, _, _, rfl, H₁₇.locs (by walk_at "lk"), rfl, _, _, rfl, by rw [hs2]; exact hfv.snoc _ _⟩
    · rintro ps' nw' h₁₅ tk₁₅ ⟨rfl, fv, cf, rfl, hfv⟩ H₁₅
      clear H₁₄
      have hwl := hW.length
      rw [List.length_map, List.length_range] at hwl
      dsimp only
      repeat' walk_at "go"
      rename_i _ TT _ h₁₆ c₁₆ H₁₆
      rw [d3, m33] at H₁₆
      have hs3 : (List.range (i + 1)).map (wkN xs) = (List.range i).map (wkN xs) ++ [wkN xs i] := by rw [List.range_succ, List.map_append]; rfl
      have hfs : StrsAre fv ((wkN xs i).forms.map S) := by rw [hwk]; exact hfv
      have H₁₇ := H₁₆.perm (nw' := io :: (WL, lstObj (wv ++ [.ref TT]) c₁₆) :: (CL, lstObj cv c) :: (TT, _) :: (FV, lstObj fv cf) :: nwf) (by walk_at "perms")
      refine hZ _ _ ⟨_, _, _, _, rfl, H₁₇.locs (by walk_at "lk"), ⟨_, rfl⟩, _, _, _, rfl, ?_⟩
      rw [hs3]
      refine (hW.mono fun a o _ hm => .tail _ (.tail _ hm)).snoc ?_
      rw [hwk] at hfs ⊢
      exact .mk (.head _) (.tail _ (.head _)) hfs
  · clear H₉
    rintro ps' nw' h₁₀ tk₁₀ ⟨⟨tm, rfl⟩, wv, cw, nwf, rfl, hW⟩ H₁₀
    dsimp only
    repeat' walk_at "go"
    have H₁₁ : Sx g' L' _ ((WL, lstObj wv cw) :: nwf) h₁₀ := H₁₀.sub (.cons_cons _ (List.sublist_cons_self _ _))
    exact hZZ _ _ ⟨_, _, _, _, rfl, H₁₁, fun H'' => k _ _ _ _ _ _ xs hW H''⟩
end
end Mine

namespace Mine
section
variable {w : World} {n : Nat} {A : Around} {env : Env} {g : Heap} {ps : PS} {nw fz : LG} {h : Heap} {G : Array GenState} {D : Drawn} {tk₀ : Nat} {O : OsState} {Q : Value → Shared → Prop} {E : Value → Shared → Prop} {wl tl rl : Addr} {ws : List Wk} {tv rv : List Value} {ct cr u : Nat} {ts rs : List (List Nat)}
set_option maxHeartbeats 4000000 in
theorem order_spec {ln : Int} (hok : WsOk ws) (C : Cal w (n + 1) A env g) (H : Sx g env.locals ps nw h) (hw : WorksP (At h) wl ws) (h4 : ws.length = 4) (ht : h.get? tl = some (lstObj tv ct)) (hts : Txs tv ts) (htl : ts.length ≤ 1000) (hr : h.get? rl = some (lstObj rv cr)) (hrs : Txs rv rs) (hrl : rs.length ≤ 1000)
    (ha : ∀ l ∈ ts, l.all (· < 128) = true) (hb : ∀ l ∈ rs, l.all (· < 128) = true)
    (h1 : ts.filter (fun x => x != [46]) = pushTo ws ts ts.length) (h2 : ∀ i, i < ws.length → rs.filter (fun x => (wk ws i).forms.contains x) = (wk ws i).forms)
    (h3 : ln = 1 + ((ts.length : Int) - ((pushTo ws ts ts.length).length : Int) + 2).fdiv 3 + ((ts.length : Int) - ((pushTo ws ts ts.length).length : Int)).fdiv 3)
    (k : ∀ h' tk, Sx g env.locals ps nw h' → Q (.bool true) ⟨h', G, D, tk, O⟩) :
    wpAny (model PySem.Challenge.rw_wk0011_01.row.prog w) A (call (.ref 136) [.ref wl, .ref tl, .ref rl, .int ln u] []) Q E ⟨h, G, D, tk₀, O⟩ := by
  have hp : nw.Perm (([] : LG) ++ nw) := List.Perm.refl _
  refine' wpAny_call (codeC ?C ?H ?hp ?o ?c ?b ?l ?nd (psL := [("works", .ref wl), ("turns", .ref tl), ("ranks", .ref rl), ("lineno", .int ln u)]) ?pl ?_ ?x1 ?x2 ?x3)
  case C => walk_at "asm"
  case H => walk_at "asm"
  case hp => assumption
  case o => k_is
  case c => k_is
  case b => exact BindsTo.of_eq rfl
  case l => exact rfl
  case nd => decide +kernel
  case pl => walk_at "pl"
  case x1 => rfl
  case x2 => rfl
  case x3 => rfl
  intro g' L' h₁ tk A' cells C' Y H' keep
  obtain ⟨ow, rfl, dw⟩ := CellsAre.one Y
  clear Y
  replace dw : ow.data = .cell none := dw
  replace H' : Sx g' L' ([("works", .ref wl), ("turns", .ref tl), ("ranks", .ref rl), ("lineno", .int ln u)] : PS) ([(L' + 1, ow)] : LG) h₁ := H'
  have ht' := keep _ _ ht (fun hm => nomatch hm)
  have hr' := keep _ _ hr (fun hm => nomatch hm)
  have hw' : WorksP (At g') wl ws := hw.mono fun a o _ e => keep _ _ e (fun hm => nomatch hm)
  have htv := hts.len
  have hrv := hrs.len
  clear C H keep hw hp ht hr
  refine' genQ ?_; intro ZZ hZZ
  repeat' walk_at "go"
  rename_i h₂ pu _ h₃ H₃
  clear H'
  refine c_enum H₃ (H₃.old ht') fun h₄ e it o hst H₄ => ?_
  clear H₃
  have H₅ : Sx g' L' ([("pushed", .ref pu), ("works", .ref wl), ("turns", .ref tl), ("ranks", .ref rl), ("lineno", .int ln u)] : PS) ((e, enumObj it 0 .none) :: (it, o) :: ([(L' + 1, ow), (pu, lstObj [] 0)] : LG)) h₄ := H₄.perm (by walk_at "perms")
  clear H₄
  refine p_for_enum (items := tv) (fun t (ps' : PS) (nw' : LG) => ps' = ([("pushed", .ref pu), ("works", .ref wl), ("turns", .ref tl), ("ranks", .ref rl), ("lineno", .int ln u)] : PS) ∧ ∃ oc v pv c, oc.data = .cell v ∧ nw' = ([(L' + 1, oc), (pu, lstObj pv c)] : LG) ∧ Txs pv (pushTo ws ts t) ∧ (pushTo ws ts t).length ≤ 12 * t)
    C' rfl H₅ hst rfl rfl ⟨rfl, ow, none, [], 0, dw, rfl, .nil, Nat.le_refl _⟩ (fun i ps' nw' h' _ _ hg => lst_is (hg _ _ ht')) ?_ ?_
  · clear H₅ h1 h2 h3
    intro t v tm ps' nw' h₅ tk₅ io₁ io₂ hv HJ H₅
    refine' genQ ?_; intro Z hZ
    obtain ⟨rfl, oc, v₀, pv, c, hd, rfl, hpv, hpl⟩ := HJ
    have ht1 : t < ts.length := by rw [← hts.len]; exact (List.getElem?_eq_some_iff.mp hv).1
    obtain ⟨tx, hx⟩ := hts.at (List.getElem?_eq_getElem ht1)
    rw [hx] at hv
    cases hv
    have hsucc : pushTo ws ts (t + 1) = pushTo ws ts t ++ comeOf ws t ws.length ++ nextOf ws ts[t] ws.length := by
      show _ ++ _ ++ nextOf ws (ts.getD t []) ws.length = _
      rw [List.getD_eq_getElem?_getD, List.getElem?_eq_getElem ht1]; rfl
    have H₆ := H₅.perm (nw' := (L' + 1, oc) :: ([io₁, io₂, (pu, lstObj pv c)] : LG)) (by walk_at "perms")
    clear H₅ hx
    generalize ts[t] = x at *
    repeat' walk_at "go"
    refine p_for_worksC (fun i (ps' : PS) (nw' : LG) => ps' = ([("word", .str (S x) tx), ("minute", .int ((t : Nat) : Int) tm), ("pushed", .ref pu), ("works", .ref wl), ("turns", .ref tl), ("ranks", .ref rl), ("lineno", .int ln u)] : PS) ∧ ∃ pv c, nw' = ([io₁, io₂, (pu, lstObj pv c)] : LG) ∧ Txs pv (pushTo ws ts t ++ comeOf ws t i) ∧ (comeOf ws t i).length ≤ i)
      C' rfl H₆ hd rfl rfl rfl rfl hw' ⟨rfl, pv, c, rfl, by simpa [comeOf] using hpv, by simp [comeOf]⟩ ?_ ?_
    · clear H₆ hpv hd
      intro i wk t1 t2 fa vs cf ps' nw' h₆ tk₆ io oc₂ hwk hfa hfs HJ hd₂ H₆
      refine' genQ ?_; intro Y hY
      obtain ⟨rfl, pv, c, rfl, hpv, hcl⟩ := HJ
      have hi : i < ws.length := (List.getElem?_eq_some_iff.mp hwk).1
      obtain rfl := wk_at hwk
      have hbnd := hok.ok _ (wk_mem hi)
      have hpvl := hpv.len
      rw [List.length_append] at hpvl
      have hvl : vs.length ≤ 9 := by
        rw [hfs.len_eq, List.length_map, formsN]; unfold Wk.n; omega
      obtain ⟨tf, hx0⟩ : ∃ tf, vs[(0 : Int).toNat]? = some (.str (S ((wk ws i).form 0)) tf) := Txs.at (ls := (wk ws i).forms) hfs (forms_get _ (by unfold Wk.n; omega))
      have hcs := comeOf_succ ws t i
      repeat' walk_at "go"
      by_cases hc : (wk ws i).come = t
      · rw [if_pos hc] at hcs
        refine iteT (by rw [hc]; simp) ?_
        repeat' walk_at "go"
        rename_i h₇ c₇ H₇
        have H₈ := H₇.perm (nw' := io :: (L' + 1, oc₂) :: ([io₁, io₂, (pu, lstObj (pv ++ [.str (S ((wk ws i).form 0)) tf]) c₇)] : LG)) (by walk_at "perms")
        exact hY _ _ ⟨_, _, _, _, rfl, H₈.locs (by walk_at "lk"), rfl, _, _, rfl, by rw [hcs, ← List.append_assoc]; exact hpv.snoc _ _, by rw [hcs, List.length_append, List.length_singleton]; omega⟩
      · rw [if_neg hc, List.append_nil] at hcs
        refine iteF (by simp; omega) ?_
        repeat' walk_at "go"
        exact hY _ _ ⟨_, _, _, _, rfl, H₆.locs (by walk_at "lk"), rfl, _, _, rfl, by rw [hcs]; exact hpv, by rw [hcs]; omega⟩
    · rintro ps' nw' oc₂ v₂ h₆ tk₆ hd₂ ⟨rfl, pv, c, rfl, hpv, hcl⟩ H₆
      dsimp only
      repeat' walk_at "go"
      refine p_for_worksC (fun i (ps' : PS) (nw' : LG) => ps' = ([("word", .str (S x) tx), ("minute", .int ((t : Nat) : Int) tm), ("pushed", .ref pu), ("works", .ref wl), ("turns", .ref tl), ("ranks", .ref rl), ("lineno", .int ln u)] : PS) ∧ ∃ pv c, nw' = ([io₁, io₂, (pu, lstObj pv c)] : LG) ∧ Txs pv (pushTo ws ts t ++ comeOf ws t ws.length ++ nextOf ws x i) ∧ (nextOf ws x i).length ≤ i)
        C' rfl H₆ hd₂ rfl rfl rfl rfl hw' ⟨rfl, pv, c, rfl, by simpa [nextOf] using hpv, by simp [nextOf]⟩ ?_ ?_
      · clear H₆ hpv hd hd₂
        intro i wk t1 t2 fa vs cf ps' nw' h₇ tk₇ io oc₃ hwk hfa hfs HJ hd₃ H₇
        refine' genQ ?_; intro Y hY
        obtain ⟨rfl, pv, c, rfl, hpv, hnl⟩ := HJ
        have hi : i < ws.length := (List.getElem?_eq_some_iff.mp hwk).1
        obtain rfl := wk_at hwk
        have hbnd := hok.ok _ (wk_mem hi)
        have hpvl := hpv.len
        rw [List.length_append, List.length_append] at hpvl
        have hfx : Txs vs (wk ws i).forms := hfs
        have hvl : vs.length ≤ 9 := by
          rw [hfs.len_eq, List.length_map, formsN]; unfold Wk.n; omega
        have hns := nextOf_succ ws x i
        repeat' walk_at "go"
        refine iteD (fun hq => ?_) (fun hq => ?_)
        · rw [if_pos hq] at hns
          obtain ⟨j1, j2⟩ := idxOf_first hq
          have hjl : (wk ws i).forms.idxOf x < vs.length := by rw [hfx.len]; exact (List.getElem?_eq_some_iff.mp j1).1
          repeat' walk_at "go"
          refine c_index (H₇.old hfa) hfx j1 j2 (by omega) ?_
          repeat' walk_at "go"
          rename_i l₁ h₈ H₈
          have e1 : kms_pick vs (some ((((wk ws i).forms.idxOf x : Nat) : Int) + 1)) none = vs.drop ((wk ws i).forms.idxOf x + 1) := pick_from (k := (wk ws i).forms.idxOf x + 1) (by omega)
          have e2 : kms_pick (vs.drop ((wk ws i).forms.idxOf x + 1)) none (some 1) = (vs.drop ((wk ws i).forms.idxOf x + 1)).take 1 := pick_upto (k := 1)
          rw [e1] at H₈
          have hdl : (vs.drop ((wk ws i).forms.idxOf x + 1)).length ≤ 9 := by rw [List.length_drop]; omega
          have htl : ((vs.drop ((wk ws i).forms.idxOf x + 1)).take 1).length ≤ 1 := by rw [List.length_take]; omega
          have htx := (hfx.drop ((wk ws i).forms.idxOf x + 1)).take 1
          repeat' walk_at "go"
          rename_i l₂ h₉ H₉
          rw [e2] at H₉
          clear H₈ H₇
          repeat' walk_at "go"
          rename_i h₁₀ c₁₀ H₁₀
          have H₁₁ := (H₁₀.perm (nw' := ([io, (L' + 1, oc₃), io₁, io₂, (pu, lstObj (pv ++ (vs.drop ((wk ws i).forms.idxOf x + 1)).take 1) c₁₀)] : LG) ++ [(l₁, _), (l₂, _)]) (by walk_at "perms")).sub (List.sublist_append_left _ _)
          exact hY _ _ ⟨_, _, _, _, rfl, H₁₁.locs (by walk_at "lk"), rfl, _, _, rfl, by rw [hns, ← List.append_assoc]; exact hpv.append htx, by rw [hns, List.length_append, List.length_take]; omega⟩
        · rw [if_neg (by rw [hq]; exact Bool.false_ne_true), List.append_nil] at hns
          repeat' walk_at "go"
          exact hY _ _ ⟨_, _, _, _, rfl, H₇.locs (by walk_at "lk"), rfl, _, _, rfl, by rw [hns]; exact hpv, by rw [hns]; omega⟩
      · rintro ps' nw' oc₃ v₃ h₇ tk₇ hd₃ ⟨rfl, pv, c, rfl, hpv, hnl⟩ H₇
        dsimp only
        repeat' walk_at "go"
        have H₈ := H₇.perm (nw' := io₁ :: io₂ :: ([(L' + 1, oc₃), (pu, lstObj pv c)] : LG)) (by walk_at "perms")
        exact hZ _ _ ⟨_, _, _, _, rfl, H₈.locs (by walk_at "lk"), rfl, oc₃, v₃, pv, c, hd₃, rfl, by rw [hsucc]; exact hpv, by rw [hsucc, List.length_append, List.length_append]; omega⟩
  · clear H₅
    rintro ps' nw' h₅ tk₅ ⟨rfl, oc, v₀, pv, c, hd, rfl, hpv, hpl⟩ H₅
    rw [hts.len] at hpv hpl
    dsimp only
    repeat' walk_at "go"
    refine comp_go (fun i (ys : List Value) (nw' : LG) => Txs ys ((ts.take i).filter fun x => x != [46]) ∧ nw' = []) (Src.list C'.handled (H₅.old ht')) C' H₅ (by rw [hts.len]; omega) rfl rfl rfl ⟨.nil, rfl⟩ ?_ ?_
    · rintro i v ys c' I L₂ Cc o ps' nw' h₆ tk₆ Z₁ Z₂ hi hv ⟨hys, rfl⟩ C₆ H₆ hZ₁ hZ₂
      have hi' : i < ts.length := by rw [← hts.len]; exact hi
      obtain ⟨tx, hx⟩ := hts.at (List.getElem?_eq_getElem hi')
      rw [hx] at hv
      cases hv
      have hsucc := filter_take_succ (p := fun x => x != [46]) (List.getElem?_eq_getElem hi')
      clear hx
      generalize ts[i] = x at *
      repeat' walk_at "go"
      rw [stop_is]
      rw [show (S x != S [46]) = (x != [46]) from congrArg (!·) (S_beq x [46])]
      refine iteD (fun hq => ?_) (fun hq => ?_)
      · rw [if_pos hq] at hsucc
        repeat' walk_at "go"
        exact hZ₁ _ _ ⟨_, _, _, _, rfl, H₆, by rw [hsucc]; exact hys.snoc _ _, rfl⟩
      · rw [if_neg (by rw [hq]; exact Bool.false_ne_true), List.append_nil] at hsucc
        exact hZ₂ _ ⟨_, _, _, _, rfl, H₆, by rw [hsucc]; exact hys, rfl⟩
    · rintro Cc oC L₂ ys c' nw' h₆ tk₆ hns ⟨hys, rfl⟩ H₆
      rw [hts.len, List.take_length, h1] at hys
      refine post_val hns H₆ fun h₇ H₇ => ?_
      clear H₆ H₅
      have hpa : ∀ l ∈ pushTo ws ts ts.length, l.all (· < 128) = true := by
        rw [← h1]
        exact fun l hl => ha l (List.mem_filter.mp hl).1
      repeat' walk_at "go"
      refine c_netx C' (H₇.get (by walk_at "mem")) (H₇.get (by walk_at "mem")) hys hpv hpa hpa ?_
      rw [decide_eq_true rfl]
      repeat' walk_at "go"
      refine iteF rfl ?_
      repeat' walk_at "go"
      have H₈ := (H₇.perm (nw' := (L' + 1, oc) :: ([(pu, lstObj pv c)] ++ [(L₂, lstObj ys c')])) (by walk_at "perms")).sub (nw' := (L' + 1, oc) :: ([(pu, lstObj pv c)] : LG)) (.cons_cons _ (List.sublist_append_left _ _))
      clear H₇
      refine p_for_worksC (fun i (ps' : PS) (nw' : LG) => ps' = ([("pushed", .ref pu), ("works", .ref wl), ("turns", .ref tl), ("ranks", .ref rl), ("lineno", .int ln u)] : PS) ∧ nw' = ([(pu, lstObj pv c)] : LG))
        C' rfl H₈ hd rfl rfl rfl rfl hw' ⟨rfl, rfl⟩ ?_ ?_
      · clear H₈ hd hys
        intro i wk t1 t2 fa vs cf ps' nw' h₈ tk₈ io oc₂ hwk hfa hfs HJ hd₂ H₈
        refine' genQ ?_; intro Y hY
        obtain ⟨rfl, rfl⟩ := HJ
        have hi : i < ws.length := (List.getElem?_eq_some_iff.mp hwk).1
        obtain rfl := wk_at hwk
        have hfx : Txs vs (wk ws i).forms := hfs
        have hbnd := hok.ok _ (wk_mem hi)
        have hfa2 : ∀ l ∈ (wk ws i).forms, l.all (· < 128) = true := by
          intro l hl
          obtain ⟨j, _, rfl⟩ := List.mem_map.mp hl
          exact form_small _ hbnd.2.2.1 hbnd.2.2.2.1
        repeat' walk_at "go"
        have hfa8 := H₈.old hfa
        have hfc8 := H₈.get (a := L' + 1) (o := oc₂) (by walk_at "mem")
        refine comp_go (fun j (ys : List Value) (nw' : LG) => Txs ys ((rs.take j).filter fun x => (wk ws i).forms.contains x) ∧ nw' = []) (Src.list C'.handled (H₈.old hr')) C' H₈ (by omega) rfl rfl rfl ⟨.nil, rfl⟩ ?_ ?_
        · rintro j v ys c' I L₂ Cc o ps' nw' h₉ tk₉ Z₁ Z₂ hj hv ⟨hys, rfl⟩ C₉ H₉ hZ₁ hZ₂
          have hj' : j < rs.length := by omega
          obtain ⟨tx, hx⟩ := hrs.at (List.getElem?_eq_getElem hj')
          rw [hx] at hv
          cases hv
          have hsucc := filter_take_succ (p := fun x => (wk ws i).forms.contains x) (List.getElem?_eq_getElem hj')
          clear hx
          generalize rs[j] = x at *
          repeat' walk_at "go"
          refine iteD (fun hq => ?_) (fun hq => ?_)
          · rw [if_pos hq] at hsucc
            repeat' walk_at "go"
            exact hZ₁ _ _ ⟨_, _, _, _, rfl, H₉, by rw [hsucc]; exact hys.snoc _ _, rfl⟩
          · rw [if_neg (by rw [hq]; exact Bool.false_ne_true), List.append_nil] at hsucc
            exact hZ₂ _ ⟨_, _, _, _, rfl, H₉, by rw [hsucc]; exact hys, rfl⟩
        · rintro Cc oC L₂ ys c' nw' h₉ tk₉ hns ⟨hys, rfl⟩ H₉
          rw [hrv, List.take_length, h2 i hi] at hys
          refine post_val hns H₉ fun h₁₀ H₁₀ => ?_
          clear H₉ H₈
          repeat' walk_at "go"
          refine c_netx C' (H₁₀.get (by walk_at "mem")) (H₁₀.old hfa) hys hfx hfa2 hfa2 ?_
          rw [decide_eq_true rfl]
          repeat' walk_at "go"
          refine iteF rfl ?_
          repeat' walk_at "go"
          have H₁₁ := (H₁₀.perm (nw' := ([io, (L' + 1, oc₂), (pu, lstObj pv c)] : LG) ++ [(L₂, lstObj ys c')]) (by walk_at "perms")).sub (List.sublist_append_left _ _)
          exact hY _ _ ⟨_, _, _, _, rfl, H₁₁.locs (by walk_at "lk"), rfl, rfl⟩
      · rintro ps' nw' oc₂ v₂ h₈ tk₈ hd₂ ⟨rfl, rfl⟩ H₈'
        dsimp only
        have hpvl := hpv.len
        repeat' walk_at "go"
        rename_i h₉ H₉
        have e : (ln == 1 + ((tv.length : Int) - (pv.length : Int) + 2).fdiv 3 + ((tv.length : Int) - (pv.length : Int)).fdiv 3) = true := by
          rw [htv, hpvl, beq_iff_eq]; exact h3
        rw [e]
        exact hZZ _ _ ⟨_, _, _, _, rfl, H₉.sub (List.nil_sublist _), fun H'' => k _ _ H''⟩
end
end Mine

namespace Mine
section
variable {w : World} {n : Nat} {A : Around} {env : Env} {g : Heap} {ps : PS} {nw fz : LG} {h : Heap} {G : Array GenState} {D : Drawn} {tk₀ : Nat} {O : OsState} {Q : Value → Shared → Prop} {E : Value → Shared → Prop} {wl : Addr} {ws : List Wk}
structure RunA where
  (X : Lx) (sh na tu ra : Addr)
/-- the ledger of the run's frame -/
noncomputable def RunL (R : RunA) (es : List DictEntry) (m p t₂ c₁ c₂ c₃ c₄ c₅ c₆ : Nat) (qv sv nv tv rv : List Value) : LG :=
  (R.X.dx, dictOf es m) :: (R.X.pb, lstObj qv c₁) :: (R.X.at_, lstObj [.int (p : Nat) t₂] c₂) :: (R.sh, lstObj sv c₃) :: (R.na, lstObj nv c₄) :: (R.tu, lstObj tv c₅) :: (R.ra, lstObj rv c₆) :: R.X.fix
noncomputable def runPs (R : RunA) (wl : Addr) (last u : Nat) : PS := [("ranks", .ref R.ra), ("turns", .ref R.tu), ("names", .ref R.na), ("shelf", .ref R.sh), ("lexer", .ref R.X.x), ("last", .int (last : Nat) u), ("works", .ref wl)]
/-- queue, shelf, names as texts, the other two lists, the reads -/
inductive RunD (R : RunA) (ws : List Wk) (uw : Nat) (q s : List It) (idle : Nat) (tr rk : List (Option It)) (nw : LG) : Prop
  | mk (es : List DictEntry) (m t t₂ c₁ c₂ c₃ c₄ c₅ c₆ : Nat) (qv sv nv tv rv : List Value) (he : EsAre (lexKv R.X (lnAt idle) t uw) es) (hq : Txs qv (q.map (tx ws))) (hs : Txs sv (s.map (tx ws))) (hn : Txs nv (s.map (nm ws)))
    (ht : Txs tv (tr.map (txo ws))) (hr : Txs rv (rk.map (txo ws))) (e : nw = RunL R es m (posAt idle) t₂ c₁ c₂ c₃ c₄ c₅ c₆ qv sv nv tv rv) : RunD R ws uw q s idle tr rk nw
noncomputable def minPs (R : RunA) (wl : Addr) (last u i t : Nat) : PS := ("minute", .int (0 + (i : Nat)) t) :: runPs R wl last u
theorem tab_sub {X : Lx} {a b c d e : Addr × Obj} : ([(100, X.tbO)] : LG).Sublist (a :: b :: c :: d :: e :: X.fix) := List.singleton_sublist.mpr (by simp [Lx.fix])
set_option maxHeartbeats 20000000 in
theorem run_spec {last u : Nat} (hok : WsOk ws) (hC : CodeHd h 104 100) (C : Cal w (n + 6) A env g) (H : Sx g env.locals ps nw h) (hp : nw.Perm ([(100, tabObj #[])] ++ fz)) (hw : WorksP (At h) wl ws) (hl : last ≤ 100) (h4 : ws.length ≤ 4) (hidle : (runN ws last).idle ≤ 12)
    (k : ∀ h' tk r tu ra c₁ c₂ t tv rv pt, Txs tv ((runN ws last).turns.map (txo ws)) → Txs rv ((runN ws last).ranks.map (txo ws)) →
      Sx g env.locals ps ((r, tupObj [.ref tu, .ref ra, .int ((lnAt (runN ws last).idle : Nat) : Int) t]) :: (tu, lstObj tv c₁) :: (ra, lstObj rv c₂) :: (100, tabObj pt) :: fz) h' → Q (.ref r) ⟨h', G, D, tk, O⟩) :
    wpAny (model PySem.Challenge.rw_wk0011_01.row.prog w) A (call (.ref 126) [.ref wl, .int (last : Nat) u] []) Q E ⟨h, G, D, tk₀, O⟩ := by
  have hnotab : ∀ b o, h.get? b = some o → SeqO o → b ∉ ([(100, tabObj #[])] : LG).map (·.1) := by
    rintro b o e ⟨xs, m, ho⟩ hm
    have hb : b = 100 := by simpa using hm
    have := (H.perm hp).get (.head _)
    rw [hb, this] at e
    cases e
    cases ho
  have hcode : ∀ {g' : Heap}, (∀ b o, h.get? b = some o → b ∉ ([(100, tabObj #[])] : LG).map (·.1) → g'.get? b = some o) → CodeHd g' 104 100 := by
    intro g' keep
    obtain ⟨oc, vs, file, tf, flags, tg, inF, text, tt, a1, a2⟩ := hC
    exact ⟨oc, vs, file, tf, flags, tg, inF, text, tt, keep _ _ a1 (by decide), a2⟩
  walk_at "enterM"
  intro g' L' h₁ tk A' htk C' H' keep
  have hw' : WorksP (At g') wl ws := hw.mono fun a o hs e => keep _ _ e (hnotab _ _ e hs)
  have hC' := hcode keep
  replace H' : Sx g' L' [("last", .int (last : Nat) u), ("works", .ref wl)] [(100, tabObj #[])] h₁ := H'
  clear C H keep hw hp hnotab hC hcode
  refine' genQ ?_; intro ZZ hZZ
  repeat' walk_at "go"
  refine SB.mul (s := ⟨_, _, _, _, _⟩) (by unfold MulOk; decide +kernel) fun t₁ k₁ => ?_
  rw [show Txt.mul (PySem.Str.ofString ".\n\".\" \\.\n") 4 = S page by decide +kernel]
  repeat' walk_at "go"
  refine lexer_spec (hC'.keeps fun b o e => H'.old e) C' H' (List.Perm.refl _) fun X h₂ tk₂ es m c₁ c₂ t₂ t₃ uw ok he H₂ => ?_
  clear H'
  repeat' walk_at "go"
  rename_i _ sh _ _ _ _ na _ _ _ _ tu _ _ _ _ ra _ h₃ H₃
  rw [List.append_nil] at H₃
  have H₄ : Sx g' L' (runPs ⟨X, sh, na, tu, ra⟩ wl last u) (RunL ⟨X, sh, na, tu, ra⟩ es m (posAt 0) t₃ c₁ c₂ 0 0 0 0 [] [] [] [] []) h₃ := H₃.perm (nw' := (X.dx, dictOf es m) :: (X.pb, lstObj [] c₁) :: (X.at_, lstObj [.int ((0 : Nat) : Int) t₃] c₂) :: (sh, lstObj [] 0) :: (na, lstObj [] 0) :: (tu, lstObj [] 0) :: (ra, lstObj [] 0) :: X.fix) (by walk_at "perms")
  clear H₃ H₂
  obtain ⟨R, hX, H₅, kR⟩ : ∃ R : RunA, R.X = X ∧ Sx g' L' (runPs R wl last u) (RunL R es m (posAt 0) t₃ c₁ c₂ 0 0 0 0 [] [] [] [] []) h₃ ∧ True := ⟨_, rfl, H₄, trivial⟩
  subst hX
  clear H₄ kR
  refine p_range1 H₅ fun h₄ r t4 t5 H₆ => ?_
  clear H₅
  refine p_for_range0 (m := last) (fun i (ps' : PS) (nw' : LG) => ps' = runPs R wl last u ∧ RunD R ws uw (runN ws i).queue (runN ws i).shelf (runN ws i).idle (runN ws i).turns (runN ws i).ranks nw') C' rfl H₆ rfl ?_ (by omega) (by omega) (by omega) (by omega) ⟨rfl, es, m, t₂, t₃, c₁, c₂, 0, 0, 0, 0, [], [], [], [], [], (show EsAre (lexKv R.X (lnAt 0) t₂ uw) es from he), .nil, .nil, .nil, .nil, .nil, rfl⟩ ?_ ?_
  · split <;> omega
  · clear H₆
    intro i t6 ps' nw' h' tk' io hi htk0 HJ Hw
    refine' genQ ?_; intro Z hZ
    obtain ⟨rfl, es, m, t, t₂, c₁, c₂, c₃, c₄, c₅, c₆, qv, sv, nv, tv, rv, he, hq, hs, hn, ht, hr, rfl⟩ := HJ
    obtain ⟨ok1, ok2, l1, l2, l3, l4⟩ := run_ok hok h4 i
    generalize hq0 : (runN ws i).queue = q at *
    generalize hs0 : (runN ws i).shelf = s at *
    generalize hi0 : (runN ws i).idle = idle at *
    generalize ht0 : (runN ws i).turns = tr at *
    generalize hr0 : (runN ws i).ranks = rk at *
    refine wpAny_execs_cons (wpAny_with_toks (n := 1) htk0 (wpAny_mono (Q := fun f s' => f = Flow.next ∧ ∃ h' tk' nw', s' = (⟨h', G, D, tk', O⟩ : Shared) ∧ RunD R ws uw (q ++ arr ws i ws.length) (s ++ arr ws i ws.length) idle tr rk nw' ∧
      Sx g' L' (minPs R wl last u i t6) (io :: nw') h') ?_ ?_ fun _ _ x _ => x))
    · replace Hw : Sx g' L' (minPs R wl last u i t6) _ h' := Hw
      unfold minPs runPs at Hw
      repeat' walk_at "go"
      refine p_for_works (fun j (ps' : PS) (nw' : LG) => ps' = minPs R wl last u i t6 ∧ ∃ nw'', nw' = io :: nw'' ∧ RunD R ws uw (q ++ arr ws i j) (s ++ arr ws i j) idle tr rk nw'') C' rfl Hw rfl rfl rfl hw' ⟨rfl, _, rfl, es, m, t, t₂, c₁, c₂, c₃, c₄, c₅, c₆, qv, sv, nv, tv, rv, he, by simpa [arr] using hq, by simpa [arr] using hs, by simpa [arr] using hn, ht, hr, rfl⟩ ?_ ?_
      · clear Hw hq hs hn ht hr he
        intro j wj t7 t8 fa vs c ps' nw' h' tk' io' hj hf hfs HJ Hw
        refine' genQ ?_; intro Y hY
        obtain ⟨rfl, _, rfl, es, m, t, t₂, c₁, c₂, c₃, c₄, c₅, c₆, qv, sv, nv, tv, rv, he, hq, hs, hn, ht, hr, rfl⟩ := HJ
        have hjlt : j < ws.length := (List.getElem?_eq_some_iff.mp hj).1
        have hwj := wk_at hj
        have hbnd := hok.ok _ (List.mem_of_getElem? hj)
        have hE : EsAre [("lineno", .int ((lnAt idle : Nat) : Int) t), ("instream", .ref R.X.st), ("whitespace", .str (S [10, 9, 13, 32]) uw), ("pushback", .ref R.X.pb)] es := he
        have hal := arr_len ws i j
        have hq1 := hq.len
        have hs1 := hs.len
        have hn1 := hn.len
        simp only [List.length_map, List.length_append] at hq1 hs1 hn1
        have hvl : vs.length ≤ 9 := by
          rw [hfs.len_eq, List.length_map, forms_len]; unfold Wk.n; omega
        obtain ⟨tf, hx0⟩ : ∃ tf, vs[(0 : Int).toNat]? = some (.str (S (wd wj.a wj.b wj.c wj.d)) tf) := by
          rw [← form_zero]
          exact Txs.at (ls := wj.forms) hfs (forms_get wj (by unfold Wk.n; omega))
        unfold minPs runPs RunL at Hw
        repeat' walk_at "go"
        have harr := arr_succ ws i j
        rw [hwj] at harr
        by_cases hc : wj.come = i
        · rw [if_pos hc] at harr
          refine iteT (by rw [hc]; simp) ?_
          repeat' walk_at "go"
          refine push_spec (page := page) ok (Cal.less C' (by omega) : Cal w (n + 2) _ _ _) Hw (by walk_at "perm") he (Lx.In.of_led Hw (by intro p hp; simp [hp])) (by omega) fun h₅ tk₅ c₅' H₅ => ?_
          clear Hw
          repeat' walk_at "go"
          rename_i h₆ c₃' H₆
          refine strip_spec (m := 9) (Cal.less C' (by omega) : Cal w (n + 1) _ _ _) H₆ hbnd.1 hbnd.2.1 (by omega) (by omega) fun h₇ t₇ tk₇ H₇ => ?_
          rw [show wj.a - 9 = 0 by omega, show wj.b - (9 - wj.a) = 0 by omega]
          clear H₅ H₆
          repeat' walk_at "go"
          rename_i h₈ c₄' H₈
          have H₉ := H₈.perm (nw' := io' :: io :: (R.X.dx, dictOf es m) :: (R.X.pb, lstObj (qv ++ [.str (S (wd wj.a wj.b wj.c wj.d)) tf]) c₅') :: (R.X.at_, lstObj [.int ((posAt idle : Nat) : Int) t₂] c₂) :: (R.sh, lstObj (sv ++ [.str (S (wd wj.a wj.b wj.c wj.d)) tf]) c₃') :: (R.na, lstObj (nv ++ [.str (S (wd 0 0 wj.c wj.d)) t₇]) c₄') :: (R.tu, lstObj tv c₅) :: (R.ra, lstObj rv c₆) :: R.X.fix) (by walk_at "perms")
          have etx : tx ws (j, 0) = wd wj.a wj.b wj.c wj.d := by
            show (wk ws j).form 0 = _
            rw [hwj, form_zero]
          have enm : nm ws (j, 0) = wd 0 0 wj.c wj.d := by
            show [(wk ws j).c, (wk ws j).d] = _
            rw [hwj]; rfl
          refine hY _ _ ⟨_, _, _, _, rfl, H₉.locs (by walk_at "lk"), rfl, _, rfl, es, m, t, t₂, c₅', c₂, c₃', c₄', c₅, c₆, _, _, _, tv, rv, he, ?_, ?_, ?_, ht, hr, rfl⟩
          · rw [harr, ← List.append_assoc, List.map_append]
            show Txs _ (_ ++ [tx ws (j, 0)])
            rw [etx]
            exact hq.snoc _ _
          · rw [harr, ← List.append_assoc, List.map_append]
            show Txs _ (_ ++ [tx ws (j, 0)])
            rw [etx]
            exact hs.snoc _ _
          · rw [harr, ← List.append_assoc, List.map_append]
            show Txs _ (_ ++ [nm ws (j, 0)])
            rw [enm]
            exact hn.snoc _ _
        · rw [if_neg hc, List.append_nil] at harr
          refine iteF (by simp; omega) ?_
          repeat' walk_at "go"
          exact hY _ _ ⟨_, _, _, _, rfl, Hw.locs (by walk_at "lk"), rfl, _, rfl, es, m, t, t₂, c₁, c₂, c₃, c₄, c₅, c₆, qv, sv, nv, tv, rv, he, by rw [harr]; exact hq, by rw [harr]; exact hs, by rw [harr]; exact hn, ht, hr, rfl⟩
      · rintro ps' nw' h' tk' ⟨rfl, nw'', rfl, hD⟩ Hw
        exact ⟨rfl, h', tk', nw'', rfl, hD, Hw⟩
    · rintro f s' ⟨rfl, h', tk', nw', rfl, hD, Hw⟩ htk1
      replace htk1 : 1 ≤ tk' := htk1
      dsimp only
      clear hq hs hn ht hr he
      obtain ⟨es, m, t, t₂, c₁, c₂, c₃, c₄, c₅, c₆, qv, sv, nv, tv, rv, he, hq, hs, hn, ht, hr, rfl⟩ := hD
      have harl := arr_len ws i ws.length
      have hokq : ∀ x ∈ q ++ arr ws i ws.length, ItOk ws x := fun x hx => (List.mem_append.mp hx).elim (ok1 x) (arr_ok hok (Nat.le_refl _) x)
      have hoks : ∀ x ∈ s ++ arr ws i ws.length, ItOk ws x := fun x hx => (List.mem_append.mp hx).elim (ok2 x) (arr_ok hok (Nat.le_refl _) x)
      have hstep : runN ws (i + 1) = step ws i (runN ws i) := rfl
      have hid : q ++ arr ws i ws.length = [] → idle < 12 := fun e => by
        have := idle_lt (k := 12) hi hidle (by rw [hq0]; exact e)
        rwa [hi0] at this
      have hst : runN ws (i + 1) = ⟨(fetch ws (q ++ arr ws i ws.length) idle).2.1, (fetch ws (q ++ arr ws i ws.length) idle).2.2, tr ++ [(fetch ws (q ++ arr ws i ws.length) idle).1], (serve ws (s ++ arr ws i ws.length)).2, rk ++ [(serve ws (s ++ arr ws i ws.length)).1]⟩ := by
        rw [hstep]; unfold step; rw [hq0, hs0, hi0, ht0, hr0]
      rw [hst] at hZ
      have hql : (q ++ arr ws i ws.length).length ≤ 404 := by rw [List.length_append]; omega
      have hsl : (s ++ arr ws i ws.length).length ≤ 404 := by rw [List.length_append]; omega
      clear hstep hst hidle ok1 ok2 l1 l2 harl hq0 hs0 hi0 ht0 hr0
      generalize q ++ arr ws i ws.length = q at *
      generalize s ++ arr ws i ws.length = s at *
      have hE : EsAre [("lineno", .int ((lnAt idle : Nat) : Int) t), ("instream", .ref R.X.st), ("whitespace", .str (S [10, 9, 13, 32]) uw), ("pushback", .ref R.X.pb)] es := he
      unfold minPs runPs RunL at Hw
      repeat' walk_at "go"
      refine wpAny_with_toks (n := 1) (by show 1 ≤ _; omega) ?_
      refine fetch_spec (n := n) ok (Cal.less C' (by omega)) Hw (by walk_at "perm") he (Lx.In.of_led Hw (by intro p hp; simp [hp])) hq (by omega) hid fun h₂ tk₂ es₂ m₂ c₁' c₂' t' t₂' v₂ qv' he₂ hq₂ H₂ htk₂ => ?_
      replace htk₂ : 1 ≤ tk₂ := htk₂
      clear Hw he hq hE hid
      obtain ⟨word, hword⟩ : ∃ x, (fet q idle).1 = x := ⟨_, rfl⟩
      have hfet := fetch_fet ws q idle
      have hwok : ∀ x, word = some x → ItOk ws x := by
        intro x e
        cases q with
        | nil => rw [← hword] at e; cases e
        | cons y r => rw [← hword] at e; cases e; exact hokq _ (.head _)
      have hq2l : (fet q idle).2.1.length ≤ 404 := by
        cases q with
        | nil => exact Nat.zero_le _
        | cons y r => simp [fet] at hql ⊢; omega
      rw [hfet, hword] at hZ
      rw [hword]
      generalize (fet q idle).2.1 = q₂ at *
      generalize (fet q idle).2.2 = idle₂ at *
      clear hfet hword hokq hql
      have hE₂ : EsAre [("lineno", .int ((lnAt idle₂ : Nat) : Int) t'), ("instream", .ref R.X.st), ("whitespace", .str (S [10, 9, 13, 32]) uw), ("pushback", .ref R.X.pb)] es₂ := he₂
      have htl := ht.len
      have hrl := hr.len
      simp only [List.length_map] at htl hrl
      have hq2v := hq₂.len
      have hsv := hs.len
      have hnv := hn.len
      simp only [List.length_map] at hq2v hsv hnv
      repeat' walk_at "goI"
      rename_i h₃ c₅' H₃
      clear H₂
      have hwl : (txo ws word).all (· < 128) = true := by
        cases word with
        | none => rfl
        | some x =>
          have hb := hok.ok _ (wk_mem (hwok x rfl).1)
          exact form_small _ hb.2.2.1 hb.2.2.2.1
      -- the rest of the word goes back
      refine wpAny_execs_cons (wpAny_with_toks (n := 1) (by show 1 ≤ tk₂ + 1; omega) (wpAny_mono (Q := fun f s' => f = Flow.next ∧ ∃ h' tk' c₁ qv, s' = (⟨h', G, D, tk', O⟩ : Shared) ∧ Txs qv ((q₂ ++ nxo ws word).map (tx ws)) ∧
        Sx g' L' (("word", .str (S (txo ws word)) v₂) :: minPs R wl last u i t6) (io :: RunL R es₂ m₂ (posAt idle₂) t₂' c₁ c₂' c₃ c₄ c₅' c₆ qv sv nv (tv ++ [.str (S (txo ws word)) v₂]) rv) h') ?_ ?_ fun _ _ x _ => x))
      · repeat' walk_at "go"
        rw [blank_is]
        refine count_spec (n := n) (Cal.less C' (by omega)) H₃ hwl (by omega) (by omega) fun h₄ t₄ tk₄ H₄ => ?_
        clear H₃
        repeat' walk_at "go"
        cases word with
        | none =>
          refine iteF (show decide ((1 : Int) < ((cnt 32 [46] : Nat) : Int)) = false by decide) ?_
          repeat' walk_at "go"
          refine ⟨rfl, h₄, _, _, qv', rfl, (by show Txs _ ((q₂ ++ []).map (tx ws)); rw [List.append_nil]; exact hq₂), H₄.perm (by walk_at "perms")⟩
        | some x =>
          have hx := hwok x rfl
          have hbw := hok.ok _ (wk_mem hx.1)
          have hcnt : cnt 32 (txo ws (some x)) = (wk ws x.1).n - x.2 := form_blanks _ hbw.1 hbw.2.1
          rw [hcnt]
          by_cases hlt : x.2 + 1 < (wk ws x.1).n
          · refine iteT (by simp; omega) ?_
            have hcut := form_cut _ hlt
            repeat' walk_at "go"
            refine strip_spec (n := n) (m := 1) (a := (wk ws x.1).a - x.2) (b := min (wk ws x.1).b ((wk ws x.1).a + (wk ws x.1).b - x.2)) (Cal.less C' (by omega)) H₄ hbw.1 hbw.2.1 (by omega) (by omega) fun h₅ t₅ tk₅ H₅ => ?_
            rw [hcut]
            clear H₄
            repeat' walk_at "go"
            refine push_spec (page := page) (n := n) ok (Cal.less C' (by omega)) H₅ (by walk_at "perm") he₂ (Lx.In.of_led H₅ (by intro p hp; simp [hp])) (by omega) fun h₆ tk₆ c₁'' H₆ => ?_
            clear H₅
            repeat' walk_at "go"
            refine ⟨rfl, h₆, _, _, _, rfl, ?_, H₆.perm (by walk_at "perms")⟩
            have e : nxt ws x = [(x.1, x.2 + 1)] := by unfold nxt; rw [if_pos hlt]
            show Txs _ ((q₂ ++ nxt ws x).map (tx ws))
            rw [e, List.map_append]
            exact hq₂.snoc _ _
          · refine iteF (by simp; omega) ?_
            repeat' walk_at "go"
            refine ⟨rfl, h₄, _, _, qv', rfl, ?_, H₄.perm (by walk_at "perms")⟩
            have e : nxt ws x = [] := by unfold nxt; rw [if_neg hlt]
            show Txs _ ((q₂ ++ nxt ws x).map (tx ws))
            rw [e, List.append_nil]
            exact hq₂
      · -- the second clerk
        rintro f s' ⟨rfl, h₆, tk₆, c₁'', qv'', rfl, hq₃, H₆⟩ _
        dsimp only
        clear H₃ hq₂ hwl hwok
        generalize q₂ ++ nxo ws word = q₃ at *
        have hR : ∀ {s₂ : List It} {r : Option It} {h' tk' c₁ c₃ c₄ c₆ sv nv rv ps'}, (∀ p ∈ runPs R wl last u, ps'.lookup p.1 = some p.2) → Txs sv (s₂.map (tx ws)) → Txs nv (s₂.map (nm ws)) → Txs rv ((rk ++ [r]).map (txo ws)) →
            Sx g' L' ps' (io :: RunL R es₂ m₂ (posAt idle₂) t₂' c₁ c₂' c₃ c₄ c₅' c₆ qv'' sv nv (tv ++ [.str (S (txo ws word)) v₂]) rv) h' →
            ∃ h₃ tk₃ ps₃ nw₃, (⟨h', G, D, tk', O⟩ : Shared) = ⟨h₃, G, D, tk₃, O⟩ ∧ Sx g' L' ps₃ (io :: nw₃) h₃ ∧ ps₃ = runPs R wl last u ∧ RunD R ws uw q₃ s₂ idle₂ (tr ++ [word]) (rk ++ [r]) nw₃ := by
          intro s₂ r h' tk' c₁ c₃ c₄ c₆ sv nv rv ps' hps e1 e2 e3 Hx
          refine ⟨h', tk', _, _, rfl, Hx.locs (locs_of hps), rfl, es₂, m₂, t', t₂', c₁, c₂', c₃, c₄, c₅', c₆, qv'', sv, nv, _, rv, he₂, hq₃, e1, e2, ?_, e3, rfl⟩
          rw [List.map_append]
          exact ht.snoc _ _
        clear hq₃
        unfold minPs runPs RunL at H₆
        repeat' walk_at "go"
        by_cases hs0 : s = []
        · subst hs0
          obtain rfl := hs.nil_inv
          refine iteT rfl ?_
          repeat' walk_at "go"
          rename_i h₇ c₆' H₇
          rw [serve_nil] at hZ
          refine hZ _ _ (hR (s₂ := []) (r := none) (by unfold runPs; walk_at "lks") .nil hn ?_ H₇)
          rw [List.map_append]
          exact hr.snoc _ _
        · have hpos : 0 < s.length := List.length_pos_iff.mpr hs0
          refine iteF (by cases sv with | nil => exact absurd hsv (by simp; omega) | cons _ _ => rfl) ?_
          repeat' walk_at "go"
          refine p_range2 (by assumption) fun h₇ rg t7 H₇ => ?_
          clear H₆
          obtain ⟨tb₀, H₇⟩ : ∃ tb, Sx g' L' (("best", .int ((bestTo ws s 0 : Nat) : Int) tb) :: ("word", .str (S (txo ws word)) v₂) :: minPs R wl last u i t6) _ h₇ := ⟨_, H₇.locs (by unfold minPs runPs; walk_at "lk")⟩
          refine p_for_range0 (m := s.length - 1) (fun j (ps' : PS) (nw' : LG) => (∃ tb, ps' = (("best", .int ((bestTo ws s j : Nat) : Int) tb) :: ("word", .str (S (txo ws word)) v₂) :: minPs R wl last u i t6 : PS)) ∧
            nw' = io :: RunL R es₂ m₂ (posAt idle₂) t₂' c₁'' c₂' c₃ c₄ c₅' c₆ qv'' sv nv (tv ++ [.str (S (txo ws word)) v₂]) rv) C' rfl H₇ rfl ?_ (by omega) (by omega) (by omega) (by omega) ⟨⟨tb₀, rfl⟩, rfl⟩ ?_ ?_
          · rw [hnv]; split <;> omega
          · clear H₇
            intro j tj ps' nw' h₈ tk₈ io₂ hj _ HJ H₈
            refine' genQ ?_; intro Y hY
            obtain ⟨⟨tb, rfl⟩, rfl⟩ := HJ
            have hbl := bestTo_le ws s j
            obtain ⟨ta, hna⟩ := hn.at' (b := bestTo ws s j) (by omega)
            obtain ⟨tp, hnp⟩ := hn.at' (b := j + 1) (by omega)
            have hna' : nv[((bestTo ws s j : Nat) : Int).toNat]? = some (.str (S (nm ws (s.getD (bestTo ws s j) (0, 0)))) ta) := hna
            have hnp' : nv[(1 + (j : Int)).toNat]? = some (.str (S (nm ws (s.getD (j + 1) (0, 0)))) tp) := by
              rw [show (1 + (j : Int)).toNat = j + 1 by omega]; exact hnp
            unfold minPs runPs RunL at H₈
            have hbs := bestTo_succ ws s j
            generalize nm ws (s.getD (bestTo ws s j) (0, 0)) = x at *
            generalize nm ws (s.getD (j + 1) (0, 0)) = y at *
            repeat' walk_at "go"
            refine strcoll_spec (n := n) (Cal.less C' (by omega)) H₈ fun h₉ v9 t9 tk9 e9 H₉ => ?_
            subst e9
            clear H₈
            repeat' walk_at "go"
            refine strcoll_spec (n := n) (Cal.less C' (by omega)) H₉ fun h₁₀ v10 t10 tk10 e10 H₁₀ => ?_
            subst e10
            clear H₉
            repeat' walk_at "go"
            by_cases hxy : y < x
            · rw [if_pos hxy] at hbs
              refine iteT (strcoll_two.trans (decide_eq_true hxy)) ?_
              repeat' walk_at "go"
              rename_i h₁₁ H₁₁
              exact hY _ _ ⟨_, _, _, _, rfl, H₁₁.locs (by unfold minPs runPs; walk_at "lk"), ⟨_, rfl⟩, rfl⟩
            · rw [if_neg hxy] at hbs
              refine iteF (strcoll_two.trans (decide_eq_false hxy)) ?_
              repeat' walk_at "go"
              exact hY _ _ ⟨_, _, _, _, rfl, H₁₀.locs (by unfold minPs runPs; walk_at "lk"), ⟨_, rfl⟩, rfl⟩
          · rintro ps' nw' h₈ tk₈ ⟨⟨tb, rfl⟩, rfl⟩ H₈
            clear H₇
            dsimp only
            have hbb := best_lt (ws := ws) hs0
            have hbest : bestTo ws s (s.length - 1) = best ws s := rfl
            rw [hbest] at H₈
            obtain ⟨ts, hsx⟩ := hs.at' hbb
            have hgo := serve_go (ws := ws) hs0
            have hoff := serve_off (ws := ws) hs0
            have hxok := hoks _ (getD_mem hbb)
            have hnms := nm_set (ws := ws) hbb ((s.getD (best ws s) (0, 0)).2 + 1)
            have hset := hs.set (best ws s) (tx ws ((s.getD (best ws s) (0, 0)).1, (s.getD (best ws s) (0, 0)).2 + 1))
            have hmset : ∀ z, (s.map (tx ws)).set (best ws s) (tx ws z) = (s.set (best ws s) z).map (tx ws) := fun z => List.map_set.symm
            have her1 := hs.erase (best ws s)
            have her2 := hn.erase (best ws s)
            have hme1 : (s.map (tx ws)).eraseIdx (best ws s) = (s.eraseIdx (best ws s)).map (tx ws) := map_erase _ _ _
            have hme2 : (s.map (nm ws)).eraseIdx (best ws s) = (s.eraseIdx (best ws s)).map (nm ws) := map_erase _ _ _
            rw [hme1] at her1
            rw [hme2] at her2
            rw [hmset] at hset
            rw [← hnms] at hn
            have hrs : Txs (rv ++ [.str (S (tx ws (s.getD (best ws s) (0, 0)))) ts]) ((rk ++ [some (s.getD (best ws s) (0, 0))]).map (txo ws)) := by
              rw [List.map_append]
              exact hr.snoc _ _
            clear hbest hnms hmset hme1 hme2 hs
            generalize best ws s = b at *
            generalize s.getD b (0, 0) = x at *
            have hbw := hok.ok _ (wk_mem hxok.1)
            have hcnt : cnt 32 (tx ws x) = (wk ws x.1).n - x.2 := form_blanks _ hbw.1 hbw.2.1
            have hxs : (tx ws x).all (· < 128) = true := form_small _ hbw.2.2.1 hbw.2.2.2.1
            unfold minPs runPs RunL at H₈
            repeat' walk_at "go"
            refine getitem_spec (n := n) (Cal.less C' (by omega)) H₈ (H₈.get (by walk_at "mem")) hsx (by omega) fun h₉ tk₉ H₉ => ?_
            clear H₈
            repeat' walk_at "go"
            rw [blank_is]
            rename_i h₁₀ c₆' H₁₀
            refine count_spec (n := n) (Cal.less C' (by omega)) H₁₀ hxs (by omega) (by omega) fun h₁₁ t₁₁ tk₁₁ H₁₁ => ?_
            clear H₁₀ H₉
            repeat' walk_at "go"
            rw [hcnt]
            by_cases hlt : x.2 + 1 < (wk ws x.1).n
            · refine iteT (by simp; omega) ?_
              rw [hgo hlt] at hZ
              have hcut := form_cut _ hlt
              repeat' walk_at "go"
              refine strip_spec (n := n) (m := 1) (a := (wk ws x.1).a - x.2) (b := min (wk ws x.1).b ((wk ws x.1).a + (wk ws x.1).b - x.2)) (Cal.less C' (by omega)) H₁₁ hbw.1 hbw.2.1 (by omega) (by omega) fun h₁₂ t₁₂ tk₁₂ H₁₂ => ?_
              rw [hcut]
              clear H₁₁
              repeat' walk_at "go"
              refine setitem_spec (n := n) (Cal.less C' (by omega)) H₁₂ (by walk_at "perm") (by omega) (by omega) fun h₁₃ c₁₃ tk₁₃ H₁₃ => ?_
              clear H₁₂
              repeat' walk_at "go"
              exact hZ _ _ (hR (by unfold runPs; walk_at "lks") (hset _) hn hrs (H₁₃.perm (by walk_at "perms")))
            · refine iteF (by simp; omega) ?_
              rw [hoff hlt] at hZ
              repeat' walk_at "go"
              refine delitem_spec (n := n) (Cal.less C' (by omega)) H₁₁ (by walk_at "perm") (by omega) (by omega) fun h₁₂ c₁₂ tk₁₂ H₁₂ => ?_
              clear H₁₁
              repeat' walk_at "go"
              refine delitem_spec (n := n) (Cal.less C' (by omega)) H₁₂ (by walk_at "perm") (by omega) (by omega) fun h₁₃ c₁₃ tk₁₃ H₁₃ => ?_
              clear H₁₂
              repeat' walk_at "go"
              exact hZ _ _ (hR (by unfold runPs; walk_at "lks") her1 her2 hrs (H₁₃.perm (by walk_at "perms")))
  · -- the end
    rintro ps' nw' h' tk' ⟨rfl, es, m, t, t₂, c₁, c₂, c₃, c₄, c₅, c₆, qv, sv, nv, tv, rv, he, hq, hs, hn, ht, hr, rfl⟩ Hw
    clear H₆
    have hE : EsAre [("lineno", .int ((lnAt (runN ws last).idle : Nat) : Int) t), ("instream", .ref R.X.st), ("whitespace", .str (S [10, 9, 13, 32]) uw), ("pushback", .ref R.X.pb)] es := he
    unfold runPs RunL at Hw
    dsimp only
    repeat' walk_at "go"
    rename_i h₇ l H₇
    have H₈ := H₇.perm (nw' := ([(l, tupObj [.ref R.tu, .ref R.ra, .int ((lnAt (runN ws last).idle : Nat) : Int) t]), (R.tu, lstObj tv c₅), (R.ra, lstObj rv c₆)] : LG) ++ ((R.X.dx, dictOf es m) :: (R.X.pb, lstObj qv c₁) :: (R.X.at_, lstObj [.int ((posAt (runN ws last).idle : Nat) : Int) t₂] c₂) :: (R.sh, lstObj sv c₃) :: (R.na, lstObj nv c₄) :: R.X.fix)) (by walk_at "perms")
    obtain ⟨pt, hpt⟩ := ok.tb
    exact hZZ _ _ ⟨_, _, _, _, rfl, H₈.sub (nw' := ([(l, tupObj [.ref R.tu, .ref R.ra, .int ((lnAt (runN ws last).idle : Nat) : Int) t]), (R.tu, lstObj tv c₅), (R.ra, lstObj rv c₆)] : LG) ++ [(100, tabObj pt)]) ((List.Sublist.refl _).append (hpt ▸ tab_sub)), fun H'' => k _ _ _ _ _ _ _ _ _ _ pt ht hr H''⟩
end
end Mine

/- the plain law: texts -/
namespace Mine
structure Ws4 (ws : List Wk) : Prop where
  len : ws.length = 4
  ok : WsOk ws
  sorted : ∀ i j, i ≤ j → j < 4 → (wk ws i).come ≤ (wk ws j).come
  soon : ∀ i, i < 4 → (wk ws i).come ≤ 8
  kind : ∀ i, i < 4 → (wk ws i).kind < 3
  ltr : ∀ i j, i < 4 → j < 4 → (wk ws i).d = (wk ws j).d → i = j
  ord : ∀ i j, i < 4 → j < 4 → (wk ws i).kind < (wk ws j).kind → (wk ws i).c < (wk ws j).c
  short : ∀ i, i < 4 → (wk ws i).n ≤ 4
theorem wd_inj {a b c d a' b' c' d' : Nat} (hc : c ≠ 32) (hc' : c' ≠ 32) (h : wd a b c d = wd a' b' c' d') : a = a' ∧ b = b' ∧ c = c' ∧ d = d' := by
  have ha : a = a' := by
    rcases Nat.lt_trichotomy a a' with h1 | h1 | h1
    · have := wd_mid a b c d
      rw [h, wd_left h1] at this
      exact absurd this.symm hc
    · exact h1
    · have := wd_mid a' b' c' d'
      rw [← h, wd_left h1] at this
      exact absurd this.symm hc'
  subst ha
  have h1 := wd_mid a b c d
  have h2 := wd_mid' a b c d
  rw [h, wd_mid] at h1
  rw [h, wd_mid'] at h2
  have h3 := congrArg List.length h
  rw [wd_length, wd_length] at h3
  exact ⟨rfl, by omega, h1.symm, h2.symm⟩
section
variable {ws : List Wk} (W : Ws4 ws)
include W
theorem Ws4.wkok {i : Nat} (h : i < 4) : (wk ws i).c ≠ 32 ∧ (wk ws i).d ≠ 32 ∧ (wk ws i).c < 128 ∧ (wk ws i).d < 128 ∧ (wk ws i).a + (wk ws i).b ≤ 9 ∧ 1 ≤ (wk ws i).b := W.ok.ok _ (wk_mem (by rw [W.len]; exact h))
theorem Ws4.it {x : It} (h : ItOk ws x) : x.1 < 4 ∧ x.2 < (wk ws x.1).n := by
  have := h.1
  rw [W.len] at this
  exact ⟨this, h.2⟩
theorem tx_inj {x y : It} (hx : ItOk ws x) (hy : ItOk ws y) (h : tx ws x = tx ws y) : x = y := by
  obtain ⟨x1, x2⟩ := W.it hx
  obtain ⟨y1, y2⟩ := W.it hy
  obtain ⟨e1, e2, _, e4⟩ := wd_inj (W.wkok x1).1 (W.wkok y1).1 h
  have e := W.ltr _ _ x1 y1 e4
  obtain ⟨i, j⟩ := x
  obtain ⟨i', j'⟩ := y
  dsimp only at e
  subst e
  have e5 : j = j' := by
    unfold Wk.n at x2 y2
    dsimp only at *
    omega
  rw [e5]
theorem forms_has {p : Nat} {x : It} (hp : p < 4) (hx : ItOk ws x) : (wk ws p).forms.contains (tx ws x) = decide (p = x.1) := by
  rw [Bool.eq_iff_iff, decide_eq_true_eq, List.contains_iff_mem]
  constructor
  · intro h
    obtain ⟨j, hj, e⟩ := List.mem_map.mp h
    have := tx_inj W (x := (p, j)) ⟨by rw [W.len]; exact hp, List.mem_range.mp hj⟩ hx e
    rw [← this]
  · intro h
    subst h
    exact List.mem_map.mpr ⟨x.2, List.mem_range.mpr hx.2, rfl⟩
theorem forms_dot (p : Nat) : (wk ws p).forms.contains [46] = false := by
  rw [Bool.eq_false_iff]
  intro h
  obtain ⟨j, _, e⟩ := List.mem_map.mp (List.contains_iff_mem.mp h)
  have := congrArg List.length e
  unfold Wk.form at this
  rw [wd_length] at this
  simp at this
  omega
theorem tx_dot (x : It) : tx ws x ≠ [46] := by
  intro h
  have := congrArg List.length h
  unfold tx Wk.form at this
  rw [wd_length] at this
  simp at this
  omega
theorem forms_at {x : It} (hx : ItOk ws x) : (wk ws x.1).forms.idxOf (tx ws x) = x.2 := by
  have h := forms_has W (W.it hx).1 hx
  rw [decide_eq_true rfl] at h
  obtain ⟨e, _⟩ := idxOf_first h
  have hlt : (wk ws x.1).forms.idxOf (tx ws x) < (wk ws x.1).n := by
    have := (List.getElem?_eq_some_iff.mp e).1
    rwa [formsN] at this
  rw [forms_get _ hlt] at e
  have := tx_inj W (x := (x.1, (wk ws x.1).forms.idxOf (tx ws x))) ⟨hx.1, hlt⟩ hx (Option.some.inj e)
  exact congrArg Prod.snd this
theorem plc_tx {x : It} (hx : ItOk ws x) : plc ws (tx ws x) = [x.1] := by
  have h4 := (W.it hx).1
  have : plc ws (tx ws x) = (List.range 4).filter fun p => decide (p = x.1) := by
    unfold plc
    exact List.filter_congr fun p hp => forms_has W (List.mem_range.mp hp) hx
  rw [this]
  generalize x.1 = i at *
  have : i = 0 ∨ i = 1 ∨ i = 2 ∨ i = 3 := by omega
  rcases this with rfl | rfl | rfl | rfl <;> rfl
theorem plc_dot : plc ws [46] = [] := by
  unfold plc
  rw [List.filter_eq_nil_iff]
  intro p _
  rw [forms_dot W]
  exact Bool.false_ne_true
theorem comeOf_arr (t : Nat) : ∀ k, comeOf ws t k = (arr ws t k).map (tx ws)
  | 0 => rfl
  | k + 1 => by
    rw [comeOf_succ, arr_succ, List.map_append, comeOf_arr t k]
    split <;> rfl
theorem nextOf_tx {x : It} (hx : ItOk ws x) : ∀ k, k ≤ 4 → nextOf ws (tx ws x) k = if x.1 < k then (nxt ws x).map (tx ws) else []
  | 0, _ => by rw [if_neg (Nat.not_lt_zero _)]; rfl
  | k + 1, hk => by
    rw [nextOf_succ, nextOf_tx hx k (by omega), forms_has W (by omega) hx]
    by_cases e : k = x.1
    · subst e
      rw [if_neg (Nat.lt_irrefl _), if_pos (by simp), if_pos (Nat.lt_succ_self _), forms_at W hx, List.nil_append]
      unfold nxt
      by_cases h : x.2 + 1 < (wk ws x.1).n
      · rw [if_pos h, List.drop_eq_getElem_cons (by rw [formsN]; exact h), List.take_succ_cons, List.take_zero]
        have := forms_get (wk ws x.1) h
        rw [List.getElem?_eq_getElem (by rw [formsN]; exact h)] at this
        rw [Option.some.inj this]
        rfl
      · rw [if_neg h, List.drop_eq_nil_of_le (by rw [formsN]; omega)]
        rfl
    · rw [decide_eq_false e, if_neg Bool.false_ne_true, List.append_nil]
      by_cases h : x.1 < k
      · rw [if_pos h, if_pos (by omega)]
      · rw [if_neg h, if_neg (by omega)]
theorem nextOf_dot : ∀ k, nextOf ws [46] k = []
  | 0 => rfl
  | k + 1 => by rw [nextOf_succ, nextOf_dot k, forms_dot W, if_neg Bool.false_ne_true]; rfl
end
end Mine

/- the plain law: clerks -/
namespace Mine
noncomputable def Clk (ws : List Wk) (p : List It) (out : Option It) (p' : List It) : Prop :=
  (p = [] ∧ out = none ∧ p' = []) ∨ ∃ x r, out = some x ∧ p.Perm (x :: r) ∧ p'.Perm (nxt ws x ++ r)
theorem fetch_clk (ws : List Wk) (q : List It) (k : Nat) : Clk ws q (fetch ws q k).1 (fetch ws q k).2.1 := by
  cases q with
  | nil => exact .inl ⟨rfl, rfl, rfl⟩
  | cons x r => exact .inr ⟨x, r, rfl, List.Perm.refl _, List.perm_append_comm⟩
theorem perm_out : ∀ {l : List It} {b : Nat}, b < l.length → l.Perm (l.getD b (0, 0) :: l.eraseIdx b)
  | [], _, h => absurd h (Nat.not_lt_zero _)
  | a :: r, 0, _ => List.Perm.refl _
  | a :: r, b + 1, h => ((perm_out (l := r) (Nat.lt_of_succ_lt_succ h)).cons a).trans (List.Perm.swap _ _ _)
theorem perm_set (y : It) : ∀ {l : List It} {b : Nat}, b < l.length → (l.set b y).Perm (y :: l.eraseIdx b)
  | [], _, h => absurd h (Nat.not_lt_zero _)
  | a :: r, 0, _ => List.Perm.refl _
  | a :: r, b + 1, h => ((perm_set y (l := r) (Nat.lt_of_succ_lt_succ h)).cons a).trans (List.Perm.swap _ _ _)
theorem serve_clk (ws : List Wk) (s : List It) : Clk ws s (serve ws s).1 (serve ws s).2 := by
  by_cases hs : s = []
  · subst hs; exact .inl ⟨rfl, rfl, rfl⟩
  · have hb := best_lt (ws := ws) hs
    have h1 := perm_out hb
    by_cases hlt : (s.getD (best ws s) (0, 0)).2 + 1 < (wk ws (s.getD (best ws s) (0, 0)).1).n
    · rw [serve_go hs hlt]
      refine .inr ⟨_, _, rfl, h1, ?_⟩
      unfold nxt
      rw [if_pos hlt]
      exact perm_set _ hb
    · rw [serve_off hs hlt]
      refine .inr ⟨_, _, rfl, h1, ?_⟩
      unfold nxt
      rw [if_neg hlt]
      exact List.Perm.refl _
structure IsClerk (ws : List Wk) (pool : Nat → List It) (out : Nat → Option It) : Prop where
  zero : pool 0 = []
  step : ∀ t, Clk ws (pool t ++ arr ws t ws.length) (out t) (pool (t + 1))
noncomputable def q1 (ws : List Wk) (t : Nat) : List It := (runN ws t).queue
noncomputable def o1 (ws : List Wk) (t : Nat) : Option It := (fetch ws ((runN ws t).queue ++ arr ws t ws.length) (runN ws t).idle).1
noncomputable def q2 (ws : List Wk) (t : Nat) : List It := (runN ws t).shelf
noncomputable def o2 (ws : List Wk) (t : Nat) : Option It := (serve ws ((runN ws t).shelf ++ arr ws t ws.length)).1
theorem clerk1 (ws : List Wk) : IsClerk ws (q1 ws) (o1 ws) := ⟨rfl, fun _ => fetch_clk _ _ _⟩
theorem clerk2 (ws : List Wk) : IsClerk ws (q2 ws) (o2 ws) := ⟨rfl, fun _ => serve_clk _ _⟩
theorem turns_eq (ws : List Wk) : ∀ t, (runN ws t).turns = (List.range t).map (o1 ws)
  | 0 => rfl
  | t + 1 => by
    rw [List.range_succ, List.map_append, ← turns_eq ws t]; rfl
theorem ranks_eq (ws : List Wk) : ∀ t, (runN ws t).ranks = (List.range t).map (o2 ws)
  | 0 => rfl
  | t + 1 => by
    rw [List.range_succ, List.map_append, ← ranks_eq ws t]; rfl
theorem perm_one {l l' : List It} (h : l.Perm l') (h1 : l'.length ≤ 1) : l = l' := by
  cases l' with
  | nil => exact List.perm_nil.mp h
  | cons a r =>
    have : r = [] := List.eq_nil_of_length_eq_zero (by rw [List.length_cons] at h1; omega)
    subst this
    exact List.perm_singleton.mp h
noncomputable def restI (ws : List Wk) (x : It) : List It := ((List.range (wk ws x.1).n).drop x.2).map fun j => (x.1, j)
noncomputable def fullI (ws : List Wk) (i : Nat) : List It := (List.range (wk ws i).n).map fun j => (i, j)
theorem rest_nxt {ws : List Wk} {x : It} (h : x.2 < (wk ws x.1).n) : restI ws x = x :: (nxt ws x).flatMap (restI ws) := by
  unfold restI nxt
  rw [List.drop_eq_getElem_cons (by rw [List.length_range]; exact h), List.map_cons, List.getElem_range]
  congr 1
  split
  · simp
  · rw [List.drop_eq_nil_of_le (by rw [List.length_range]; omega)]; rfl
/-- the outs before t, item by item -/
noncomputable def outs (out : Nat → Option It) (t : Nat) : List It := ((List.range t).map out).filterMap id
theorem outs_succ (out : Nat → Option It) (t : Nat) : outs out (t + 1) = outs out t ++ (out t).toList := by
  unfold outs
  rw [List.range_succ, List.map_append, List.filterMap_append]
  cases h : out t <;> simp [h]
noncomputable def onlyI (i : Nat) (l : List It) : List It := l.filter fun x => x.1 == i
theorem onlyI_append (i : Nat) (l m : List It) : onlyI i (l ++ m) = onlyI i l ++ onlyI i m := List.filter_append ..
theorem nxt_only (ws : List Wk) (x : It) (i : Nat) : onlyI i (nxt ws x) = if x.1 = i then nxt ws x else [] := by
  unfold onlyI nxt
  split <;> split <;> simp_all
theorem arr_only {ws : List Wk} (t i : Nat) : ∀ k, onlyI i (arr ws t k) = if i < k ∧ (wk ws i).come = t then [(i, 0)] else []
  | 0 => by rw [if_neg (fun h => Nat.not_lt_zero _ h.1)]; rfl
  | k + 1 => by
    rw [arr_succ, onlyI_append, arr_only t i k]
    by_cases e : i = k
    · subst e
      rw [if_neg (fun h => Nat.lt_irrefl _ h.1), List.nil_append]
      by_cases h : (wk ws i).come = t
      · rw [if_pos h, if_pos ⟨Nat.lt_succ_self _, h⟩]; simp [onlyI]
      · rw [if_neg h, if_neg (fun q => h q.2)]; rfl
    · have e1 : onlyI i (if (wk ws k).come = t then [(k, 0)] else []) = [] := by
        split
        · have : (k == i) = false := by simpa using fun q => e q.symm
          simp [onlyI, this]
        · rfl
      rw [e1, List.append_nil]
      by_cases h : i < k ∧ (wk ws i).come = t
      · rw [if_pos h, if_pos ⟨by omega, h.2⟩]
      · rw [if_neg h, if_neg (fun q => h ⟨by omega, q.2⟩)]
section
variable {ws : List Wk} (W : Ws4 ws) {pool : Nat → List It} {out : Nat → Option It} (K : IsClerk ws pool out)
include W K
/-- what a clerk's pool holds -/
theorem clerk_ok : ∀ t, ∀ x ∈ pool t, ItOk ws x ∧ (wk ws x.1).come < t
  | 0, x, hx => by rw [K.zero] at hx; cases hx
  | t + 1, x, hx => by
    have ih := clerk_ok t
    have hin : ∀ y ∈ pool t ++ arr ws t ws.length, ItOk ws y ∧ (wk ws y.1).come < t + 1 := by
      intro y hy
      rcases List.mem_append.mp hy with hy | hy
      · have := ih y hy
        exact ⟨this.1, by omega⟩
      · refine ⟨arr_ok W.ok (Nat.le_refl _) y hy, ?_⟩
        unfold arr at hy
        obtain ⟨i, hi, rfl⟩ := List.mem_map.mp hy
        have := (List.mem_filter.mp hi).2
        have e : (wk ws i).come = t := by simpa using this
        show (wk ws i).come < t + 1
        omega
    rcases K.step t with ⟨_, _, h3⟩ | ⟨y, r, _, h2, h3⟩
    · rw [h3] at hx; cases hx
    · rcases List.mem_append.mp (h3.subset hx) with hx | hx
      · have hy := hin y (h2.symm.subset (.head _))
        have e : x.1 = y.1 := by
          unfold nxt at hx
          split at hx
          · simp at hx; rw [hx]
          · cases hx
        exact ⟨nxt_ok hy.1 x hx, by rw [e]; exact hy.2⟩
      · exact hin x (h2.symm.subset (.tail _ hx))
/-- each work's units, one behind the other -/
theorem clerk_seq {i : Nat} (hi : i < 4) : ∀ t, onlyI i (outs out t) ++ (onlyI i (pool t)).flatMap (restI ws) = (if (wk ws i).come < t then fullI ws i else []) ∧ (onlyI i (pool t)).length ≤ 1
  | 0 => by rw [K.zero]; exact ⟨rfl, Nat.zero_le _⟩
  | t + 1 => by
    obtain ⟨h1, h2⟩ := clerk_seq hi t
    have hok := clerk_ok W K t
    have ha := arr_only (ws := ws) t i ws.length
    rw [W.len] at ha
    -- with the arrivals
    have hp : onlyI i (outs out t) ++ (onlyI i (pool t ++ arr ws t ws.length)).flatMap (restI ws) = (if (wk ws i).come < t + 1 then fullI ws i else []) ∧ (onlyI i (pool t ++ arr ws t ws.length)).length ≤ 1 := by
      rw [onlyI_append, List.flatMap_append, W.len, ha]
      by_cases e : (wk ws i).come = t
      · have hnil : onlyI i (pool t) = [] := by
          unfold onlyI
          rw [List.filter_eq_nil_iff]
          intro x hx h
          have := (hok x hx).2
          have e2 : x.1 = i := by simpa using h
          rw [e2] at this; omega
        rw [if_pos ⟨hi, e⟩, if_pos (by omega)]
        rw [hnil] at h1 ⊢
        rw [if_neg (by omega)] at h1
        have h3 : onlyI i (outs out t) = [] := by simpa using h1
        rw [h3]
        simp [restI, fullI]
      · rw [if_neg (fun h => e h.2)]
        simp only [List.flatMap_nil, List.append_nil]
        refine ⟨h1.trans ?_, h2⟩
        by_cases h : (wk ws i).come < t
        · rw [if_pos h, if_pos (by omega)]
        · rw [if_neg h, if_neg (by omega)]
    obtain ⟨p1, p2⟩ := hp
    rw [outs_succ, onlyI_append]
    rcases K.step t with ⟨e1, e2, e3⟩ | ⟨x, r, e1, e2, e3⟩
    · rw [e1] at p1
      rw [e2, e3]
      exact ⟨by simpa [onlyI] using p1, Nat.zero_le _⟩
    · have f1 : (onlyI i (pool t ++ arr ws t ws.length)).Perm (onlyI i (x :: r)) := e2.filter _
      have f2 : (onlyI i (pool (t + 1))).Perm (onlyI i (nxt ws x ++ r)) := e3.filter _
      rw [onlyI_append, nxt_only] at f2
      have hx : ItOk ws x := by
        rcases List.mem_append.mp (e2.symm.subset (List.Mem.head _)) with hm | hm
        · exact (hok x hm).1
        · exact arr_ok W.ok (Nat.le_refl _) x hm
      rw [e1]
      by_cases e : x.1 = i
      · have g1 : onlyI i (x :: r) = x :: onlyI i r := by unfold onlyI; rw [List.filter_cons, if_pos (by simpa using e)]
        rw [g1] at f1
        have hl := f1.length_eq
        rw [List.length_cons] at hl
        have g2 : onlyI i r = [] := List.eq_nil_of_length_eq_zero (by omega)
        rw [g2] at f1 f2
        rw [if_pos e, List.append_nil] at f2
        have g3 := perm_one f1 (by simp)
        have g4 := perm_one f2 (nxt_len ws x)
        rw [g3] at p1
        rw [g4]
        refine ⟨?_, nxt_len ws x⟩
        have g5 : onlyI i (some x).toList = [x] := by
          show List.filter _ [x] = _
          rw [List.filter_cons, if_pos (by simpa using e)]; rfl
        rw [g5, ← p1, List.append_assoc]
        show _ = _ ++ List.flatMap (restI ws) [x]
        rw [List.flatMap_singleton, rest_nxt hx.2]
        rfl
      · have g1 : onlyI i (x :: r) = onlyI i r := by unfold onlyI; rw [List.filter_cons, if_neg (by simpa using e)]
        rw [g1] at f1
        rw [if_neg e, List.nil_append] at f2
        have g2 : onlyI i (pool (t + 1)) = onlyI i (pool t ++ arr ws t ws.length) := perm_one (f2.trans f1.symm) p2
        have g5 : onlyI i (some x).toList = [] := by
          show List.filter _ [x] = _
          rw [List.filter_cons, if_neg (by simpa using e)]; rfl
        rw [g2, g5, List.append_nil]
        exact ⟨p1, p2⟩
end
end Mine

/- the plain law: what is left -/
namespace Mine
noncomputable def wgt (ws : List Wk) (G : Nat → Bool) (x : It) : Nat := if G (wk ws x.1).kind = true then (wk ws x.1).n - x.2 else 0
noncomputable def lw (ws : List Wk) (G : Nat → Bool) (p : List It) : Nat := (p.map (wgt ws G)).sum
noncomputable def hit (ws : List Wk) (G : Nat → Bool) : Option It → Nat
  | none => 0
  | some x => if G (wk ws x.1).kind = true then 1 else 0
theorem hit_some (ws : List Wk) (G : Nat → Bool) (x : It) : hit ws G (some x) = if G (wk ws x.1).kind = true then 1 else 0 := rfl
theorem sum_perm {l m : List Nat} (h : l.Perm m) : l.sum = m.sum := by
  induction h with
  | nil => rfl
  | cons a _ ih => rw [List.sum_cons, List.sum_cons, ih]
  | swap a b l => rw [List.sum_cons, List.sum_cons, List.sum_cons, List.sum_cons]; omega
  | trans _ _ h1 h2 => exact h1.trans h2
theorem lw_perm {ws : List Wk} {G : Nat → Bool} {p q : List It} (h : p.Perm q) : lw ws G p = lw ws G q := sum_perm (h.map _)
theorem lw_append (ws : List Wk) (G : Nat → Bool) (p q : List It) : lw ws G (p ++ q) = lw ws G p + lw ws G q := by
  unfold lw
  rw [List.map_append, List.sum_append]
theorem lw_cons (ws : List Wk) (G : Nat → Bool) (x : It) (q : List It) : lw ws G (x :: q) = wgt ws G x + lw ws G q := rfl
theorem hit_le (ws : List Wk) (G : Nat → Bool) (o : Option It) : hit ws G o ≤ 1 := by
  cases o with
  | none => exact Nat.zero_le _
  | some x => rw [hit_some]; split <;> omega
theorem lw_pos {ws : List Wk} {G : Nat → Bool} : ∀ {p : List It}, 0 < lw ws G p → ∃ x ∈ p, 0 < wgt ws G x
  | [], h => absurd h (Nat.lt_irrefl _)
  | x :: r, h => by
    rw [lw_cons] at h
    by_cases hx : 0 < wgt ws G x
    · exact ⟨x, .head _, hx⟩
    · have hr : 0 < lw ws G r := by omega
      obtain ⟨y, hy, e⟩ := lw_pos hr
      exact ⟨y, .tail _ hy, e⟩
theorem wgt_nxt {ws : List Wk} {G : Nat → Bool} {x : It} (h : x.2 < (wk ws x.1).n) : wgt ws G x = lw ws G (nxt ws x) + hit ws G (some x) := by
  rw [hit_some]
  unfold nxt
  by_cases g : G (wk ws x.1).kind = true
  · rw [if_pos g]
    split
    · show _ = wgt ws G (x.1, x.2 + 1) + 0 + 1
      unfold wgt
      rw [if_pos g, if_pos g]
      dsimp only
      omega
    · show _ = 0 + 1
      unfold wgt
      rw [if_pos g]
      omega
  · rw [if_neg g]
    split
    · show _ = wgt ws G (x.1, x.2 + 1) + 0 + 0
      unfold wgt
      rw [if_neg g, if_neg g]
    · show _ = 0 + 0
      unfold wgt
      rw [if_neg g]
section
variable {ws : List Wk} (W : Ws4 ws) {pool : Nat → List It} {out : Nat → Option It} (K : IsClerk ws pool out)
include W K
theorem pool_in (t : Nat) : ∀ x ∈ pool t ++ arr ws t ws.length, ItOk ws x := fun x hx => (List.mem_append.mp hx).elim (fun h => (clerk_ok W K t x h).1) (arr_ok W.ok (Nat.le_refl _) x)
theorem out_ok {t : Nat} {x : It} (h : out t = some x) : ItOk ws x ∧ (wk ws x.1).come ≤ t := by
  rcases K.step t with ⟨_, e2, _⟩ | ⟨y, r, e1, e2, _⟩
  · rw [h] at e2; cases e2
  · rw [h] at e1
    cases e1
    have hm := e2.symm.subset (List.Mem.head _)
    refine ⟨pool_in W K t x hm, ?_⟩
    rcases List.mem_append.mp hm with hm | hm
    · exact Nat.le_of_lt (clerk_ok W K t x hm).2
    · unfold arr at hm
      obtain ⟨i, hi, rfl⟩ := List.mem_map.mp hm
      have := (List.mem_filter.mp hi).2
      have e : (wk ws i).come = t := by simpa using this
      exact Nat.le_of_eq e
theorem lw_step (G : Nat → Bool) (t : Nat) : lw ws G (pool (t + 1)) + hit ws G (out t) = lw ws G (pool t) + lw ws G (arr ws t ws.length) := by
  rw [← lw_append]
  have hin := pool_in W K t
  rcases K.step t with ⟨e1, e2, e3⟩ | ⟨x, r, e1, e2, e3⟩
  · rw [e1, e2, e3]; rfl
  · rw [lw_perm e2, lw_perm e3, e1, lw_append, lw_cons, wgt_nxt (hin x (e2.symm.subset (.head _))).2]
    omega
theorem hit_all {t : Nat} (h : 0 < lw ws (fun _ => true) (pool t) + lw ws (fun _ => true) (arr ws t ws.length)) : hit ws (fun _ => true) (out t) = 1 := by
  rw [← lw_append] at h
  rcases K.step t with ⟨e1, _, _⟩ | ⟨x, r, e1, _, _⟩
  · rw [e1] at h; exact absurd h (Nat.lt_irrefl _)
  · rw [e1]; rfl
end
/- the second clerk takes the least name -/
theorem best_least (ws : List Wk) (s : List It) : ∀ k, ∀ p, p ≤ k → ¬ nm ws (s.getD p (0, 0)) < nm ws (s.getD (bestTo ws s k) (0, 0))
  | 0, p, h => by
    have : p = 0 := by omega
    subst this
    exact List.lt_irrefl _
  | k + 1, p, h => by
    rw [bestTo_succ]
    have ih := best_least ws s k
    split
    · rename_i hlt
      by_cases e : p = k + 1
      · subst e; exact List.lt_irrefl _
      · intro h2
        exact ih p (by omega) (List.lt_trans h2 hlt)
    · rename_i hlt
      by_cases e : p = k + 1
      · subst e; exact hlt
      · exact ih p (by omega)
theorem hit_low {ws : List Wk} (W : Ws4 ws) {G : Nat → Bool} (hG : ∀ k k', k ≤ k' → G k' = true → G k = true) {s : List It} (hs : ∀ x ∈ s, ItOk ws x) (h : 0 < lw ws G s) : hit ws G (serve ws s).1 = 1 := by
  obtain ⟨y, hy, hw⟩ := lw_pos h
  have hne : s ≠ [] := fun e => by rw [e] at hy; cases hy
  have hb := best_lt (ws := ws) hne
  have hgy : G (wk ws y.1).kind = true := by
    unfold wgt at hw
    split at hw
    · assumption
    · exact absurd hw (Nat.lt_irrefl _)
  have he : (serve ws s).1 = some (s.getD (best ws s) (0, 0)) := by
    by_cases hlt : (s.getD (best ws s) (0, 0)).2 + 1 < (wk ws (s.getD (best ws s) (0, 0)).1).n
    · rw [serve_go hne hlt]
    · rw [serve_off hne hlt]
  rw [he]
  obtain ⟨p, hp, rfl⟩ := List.mem_iff_getElem.mp hy
  have hl := best_least ws s (s.length - 1) p (by omega)
  have e1 : s.getD p (0, 0) = s[p] := by rw [List.getD_eq_getElem?_getD, List.getElem?_eq_getElem hp]; rfl
  rw [e1] at hl
  have hbm := hs _ (getD_mem hb)
  have hpm := hs _ hy
  have hle : (wk ws (s.getD (best ws s) (0, 0)).1).kind ≤ (wk ws s[p].1).kind := by
    rcases Nat.lt_or_ge (wk ws s[p].1).kind (wk ws (s.getD (best ws s) (0, 0)).1).kind with q | q
    · refine absurd ?_ hl
      have := W.ord _ _ (W.it hpm).1 (W.it hbm).1 q
      show [_, _] < [_, _]
      exact List.cons_lt_cons_iff.mpr (.inl this)
    · exact q
  rw [hit_some, if_pos (hG _ _ hle hgy)]
end Mine

/- the plain law: all is done at the end; the line in its order -/
namespace Mine
noncomputable abbrev allG : Nat → Bool := fun _ => true
noncomputable def eAt (ws : List Wk) : Nat → Nat
  | 0 => 0
  | k + 1 => max (eAt ws k) (wk ws k).come + (wk ws k).n
noncomputable def nSum (ws : List Wk) : Nat → Nat
  | 0 => 0
  | k + 1 => nSum ws k + (wk ws k).n
noncomputable def cSum (ws : List Wk) (t : Nat) : Nat → Nat
  | 0 => 0
  | k + 1 => cSum ws t k + if (wk ws k).come < t then (wk ws k).n else 0
theorem aw_succ (ws : List Wk) (t k : Nat) : lw ws allG (arr ws t (k + 1)) = lw ws allG (arr ws t k) + if (wk ws k).come = t then (wk ws k).n else 0 := by
  rw [arr_succ, lw_append]
  split
  · show _ + (wgt ws allG (k, 0) + 0) = _
    unfold wgt
    rw [if_pos rfl]; rfl
  · rfl
theorem cSum_succ (ws : List Wk) (t : Nat) : ∀ k, cSum ws (t + 1) k = cSum ws t k + lw ws allG (arr ws t k)
  | 0 => rfl
  | k + 1 => by
    rw [cSum, cSum, cSum_succ ws t k, aw_succ]
    by_cases h : (wk ws k).come < t
    · rw [if_pos (show (wk ws k).come < t + 1 by omega), if_pos h, if_neg (show ¬ (wk ws k).come = t by omega)]; omega
    · by_cases e : (wk ws k).come = t
      · rw [if_pos (show (wk ws k).come < t + 1 by omega), if_neg h, if_pos e]; omega
      · rw [if_neg (show ¬ (wk ws k).come < t + 1 by omega), if_neg h, if_neg e]; omega
theorem eAt_come (ws : List Wk) : ∀ k i, i < k → (wk ws i).come ≤ eAt ws k
  | 0, i, h => absurd h (Nat.not_lt_zero _)
  | k + 1, i, h => by
    rw [eAt]
    by_cases e : i = k
    · subst e; omega
    · have := eAt_come ws k i (by omega)
      omega
section
variable {ws : List Wk} (W : Ws4 ws)
include W
theorem eAt_le : ∀ k, k ≤ 4 → eAt ws k ≤ 8 + nSum ws k
  | 0, _ => Nat.zero_le _
  | k + 1, h => by
    have h1 := eAt_le k (by omega)
    have h2 := W.soon k (by omega)
    rw [eAt, nSum]
    omega
theorem nSum_le : ∀ k, k ≤ 4 → nSum ws k ≤ 4 * k
  | 0, _ => Nat.zero_le _
  | k + 1, h => by
    have h1 := nSum_le k (by omega)
    have h2 := W.short k (by omega)
    rw [nSum]
    omega
theorem endAt_eq : endAt ws = eAt ws 4 := by
  have h := W.len
  obtain ⟨a, b, c, d, rfl⟩ : ∃ a b c d, ws = [a, b, c, d] := by
    rcases ws with _ | ⟨a, _ | ⟨b, _ | ⟨c, _ | ⟨d, _ | ⟨e, r⟩⟩⟩⟩⟩ <;> simp at h
    exact ⟨a, b, c, d, rfl⟩
  rfl
theorem cSum_all {t : Nat} : ∀ k, (∀ i, i < k → (wk ws i).come < t) → cSum ws t k = nSum ws k
  | 0, _ => rfl
  | k + 1, h => by rw [cSum, nSum, cSum_all k (fun i hi => h i (by omega)), if_pos (h k (Nat.lt_succ_self _))]
theorem come_split (t : Nat) : ∀ k, k ≤ 4 → (∀ i, i < k → (wk ws i).come ≤ t) → ∃ k0, k0 ≤ k ∧ (∀ i, i < k0 → (wk ws i).come < t) ∧ ∀ i, k0 ≤ i → i < k → (wk ws i).come = t
  | 0, _, _ => ⟨0, Nat.le_refl _, fun _ h => absurd h (Nat.not_lt_zero _), fun _ _ h => absurd h (Nat.not_lt_zero _)⟩
  | k + 1, hk, h => by
    by_cases e : (wk ws k).come = t
    · obtain ⟨k0, h1, h2, h3⟩ := come_split t k (by omega) fun i hi => h i (by omega)
      refine ⟨k0, by omega, h2, fun i hi1 hi2 => ?_⟩
      by_cases e2 : i = k
      · subst e2; exact e
      · exact h3 i hi1 (by omega)
    · refine ⟨k + 1, Nat.le_refl _, fun i hi => ?_, fun i h1 h2 => by omega⟩
      have h1 := W.sorted i k (by omega) (by omega)
      have h2 := h k (Nat.lt_succ_self _)
      omega
variable {pool : Nat → List It} {out : Nat → Option It} (K : IsClerk ws pool out)
include K
theorem left_bound : ∀ t k, k ≤ 4 → (∀ i, i < k → (wk ws i).come < t) → (∀ i, k ≤ i → i < 4 → t ≤ (wk ws i).come) → lw ws allG (pool t) ≤ eAt ws k - t
  | 0, k, _, _, _ => by rw [K.zero]; exact Nat.zero_le _
  | t + 1, k, hk, h1, h2 => by
    obtain ⟨k0, hk0, a1, a2⟩ := come_split W t k hk fun i hi => by have := h1 i hi; omega
    have ih := left_bound t k0 (by omega) a1 fun i hi h4 => by
      by_cases e : i < k
      · rw [a2 i hi e]; exact Nat.le_refl _
      · have := h2 i (by omega) h4; omega
    have b0 : ∀ m, m ≤ k0 → lw ws allG (arr ws t m) = 0 := by
      intro m
      induction m with
      | zero => intro _; rfl
      | succ m ih =>
        intro hm
        rw [aw_succ, ih (by omega), if_neg]
        have := a1 m (by omega)
        omega
    have b1 : ∀ m, k0 ≤ m → m ≤ k → (eAt ws k0 - t) + lw ws allG (arr ws t m) ≤ eAt ws m - t := by
      intro m
      induction m with
      | zero =>
        intro h _
        have : k0 = 0 := by omega
        subst this
        rw [b0 0 (Nat.le_refl _)]
        exact Nat.le_refl _
      | succ m ih =>
        intro h hm
        by_cases e : k0 = m + 1
        · rw [← e, b0 k0 (Nat.le_refl _)]; exact Nat.le_refl _
        · have h3 := ih (by omega) (by omega)
          have h4 := a2 m (by omega) (by omega)
          rw [aw_succ, if_pos h4, eAt, h4]
          omega
    have b2 : ∀ m, k ≤ m → m ≤ 4 → lw ws allG (arr ws t m) = lw ws allG (arr ws t k) := by
      intro m
      induction m with
      | zero => intro h _; have : k = 0 := by omega
                subst this; rfl
      | succ m ih =>
        intro h hm
        by_cases e : k = m + 1
        · rw [e]
        · rw [aw_succ, ih (by omega) (by omega), if_neg]
          · rfl
          · have := h2 m (by omega) (by omega); omega
    have c1 := b1 k hk0 (Nat.le_refl _)
    have c2 := b2 4 hk (Nat.le_refl _)
    have st := lw_step W K allG t
    have hh : 0 < lw ws allG (pool t) + lw ws allG (arr ws t ws.length) → hit ws allG (out t) = 1 := hit_all (t := t) W K
    rw [W.len, c2] at st hh
    rcases Nat.eq_zero_or_pos (lw ws allG (pool t) + lw ws allG (arr ws t k)) with z | z
    · omega
    · have := hh z
      omega
theorem pool_end {t : Nat} (ht : eAt ws 4 < t) : pool t = [] := by
  have h := left_bound W K t 4 (Nat.le_refl _) (fun i hi => by have := eAt_come ws 4 i hi; omega) fun i h1 h2 => by omega
  have ok := clerk_ok W K t
  cases hp : pool t with
  | nil => rfl
  | cons x r =>
    rw [hp, lw_cons] at h
    have := (ok x (by rw [hp]; exact .head _)).1.2
    unfold wgt at h
    rw [if_pos rfl] at h
    omega
theorem outs_count : ∀ t, (outs out t).length + lw ws allG (pool t) = cSum ws t 4
  | 0 => by
    rw [K.zero]
    have : ∀ k, cSum ws 0 k = 0 := fun k => by
      induction k with
      | zero => rfl
      | succ k ih => rw [cSum, ih, if_neg (Nat.not_lt_zero _)]
    rw [this]; rfl
  | t + 1 => by
    have ih := outs_count t
    have st := lw_step W K allG t
    rw [W.len] at st
    rw [cSum_succ, outs_succ, List.length_append]
    have e : (out t).toList.length = hit ws allG (out t) := by cases out t <;> rfl
    rw [e]
    omega
theorem outs_end {t : Nat} (ht : eAt ws 4 < t) : (outs out t).length = nSum ws 4 := by
  have h := outs_count W K t
  rw [pool_end W K ht, cSum_all W 4 fun i hi => by have := eAt_come ws 4 i hi; omega] at h
  exact h
end
theorem idle_count (ws : List Wk) : ∀ t, (runN ws t).idle + (outs (o1 ws) t).length = t
  | 0 => rfl
  | t + 1 => by
    have ih := idle_count ws t
    rw [outs_succ, List.length_append]
    show (fetch ws ((runN ws t).queue ++ arr ws t ws.length) (runN ws t).idle).2.2 + (_ + (o1 ws t).toList.length) = _
    rw [show o1 ws t = (fetch ws ((runN ws t).queue ++ arr ws t ws.length) (runN ws t).idle).1 from rfl]
    cases (runN ws t).queue ++ arr ws t ws.length with
    | nil => show (runN ws t).idle + 1 + (_ + 0) = _; omega
    | cons x r => show (runN ws t).idle + (_ + 1) = _; omega
theorem dots_out (ws : List Wk) : ∀ l : List (Option It), (l.map (txo ws)).filter (fun x => x != [46]) = (l.filterMap id).map (tx ws)
  | [] => rfl
  | none :: r => by
    rw [List.map_cons, List.filter_cons, if_neg (by simp [txo]), dots_out ws r]; rfl
  | some x :: r => by
    have hx : tx ws x ≠ [46] := by
      intro h
      have := congrArg List.length h
      unfold tx Wk.form at this
      rw [wd_length] at this
      simp at this
      omega
    rw [List.map_cons, List.filter_cons, if_pos (by simpa [txo] using hx), dots_out ws r]; rfl
theorem only_out {ws : List Wk} (W : Ws4 ws) {i : Nat} (hi : i < 4) : ∀ l : List (Option It), (∀ x, some x ∈ l → ItOk ws x) → (l.map (txo ws)).filter (fun x => (wk ws i).forms.contains x) = (onlyI i (l.filterMap id)).map (tx ws)
  | [], _ => rfl
  | none :: r, h => by
    rw [List.map_cons, List.filter_cons, if_neg (by rw [show txo ws none = [46] from rfl, forms_dot W]; exact Bool.false_ne_true), only_out W hi r fun x hx => h x (.tail _ hx)]
    rfl
  | some x :: r, h => by
    have e := forms_has W hi (h x (.head _))
    have ih := only_out W hi r fun x hx => h x (.tail _ hx)
    rw [List.map_cons, List.filter_cons]
    show (if (wk ws i).forms.contains (tx ws x) = true then _ else _) = (onlyI i (x :: r.filterMap id)).map (tx ws)
    rw [e]
    unfold onlyI at ih ⊢
    rw [List.filter_cons]
    by_cases q : i = x.1
    · rw [if_pos (decide_eq_true q), if_pos (by simpa using q.symm), ih]; rfl
    · rw [if_neg (by simpa using q), if_neg (by simpa using fun z => q z.symm), ih]
/-- the texts of the turns -/
noncomputable def tsOf (ws : List Wk) (T : Nat) : List (List Nat) := (runN ws T).turns.map (txo ws)
noncomputable def rsOf (ws : List Wk) (T : Nat) : List (List Nat) := (runN ws T).ranks.map (txo ws)
theorem ts_len (ws : List Wk) (T : Nat) : (tsOf ws T).length = T := by unfold tsOf; rw [turns_eq]; simp
theorem rs_len (ws : List Wk) (T : Nat) : (rsOf ws T).length = T := by unfold rsOf; rw [ranks_eq]; simp
theorem ts_at {ws : List Wk} {T t : Nat} (h : t < T) : (tsOf ws T).getD t [] = txo ws (o1 ws t) := by
  unfold tsOf
  rw [turns_eq, List.getD_eq_getElem?_getD, List.getElem?_map, List.getElem?_map, List.getElem?_range h]; rfl
theorem rs_at {ws : List Wk} {T t : Nat} (h : t < T) : (rsOf ws T).getD t [] = txo ws (o2 ws t) := by
  unfold rsOf
  rw [ranks_eq, List.getD_eq_getElem?_getD, List.getElem?_map, List.getElem?_map, List.getElem?_range h]; rfl
theorem push_eq {ws : List Wk} (W : Ws4 ws) (T : Nat) : ∀ t, t ≤ T → pushTo ws (tsOf ws T) t = (outs (o1 ws) t ++ q1 ws t).map (tx ws)
  | 0, _ => rfl
  | t + 1, h => by
    rw [pushTo, push_eq W T t (by omega), ts_at (by omega), comeOf_arr W, outs_succ]
    have hin := pool_in W (clerk1 ws) t
    unfold q1 at hin ⊢
    show _ ++ _ ++ nextOf ws (txo ws (o1 ws t)) ws.length = List.map _ (_ ++ (fetch ws ((runN ws t).queue ++ arr ws t ws.length) (runN ws t).idle).2.1)
    rw [show o1 ws t = (fetch ws ((runN ws t).queue ++ arr ws t ws.length) (runN ws t).idle).1 from rfl]
    rw [← List.map_append, List.append_assoc]
    cases hq : (runN ws t).queue ++ arr ws t ws.length with
    | nil =>
      show _ ++ nextOf ws [46] ws.length = _
      rw [nextOf_dot W, List.append_nil]
      simp [fetch]
    | cons x r =>
      rw [hq] at hin
      show _ ++ nextOf ws (tx ws x) ws.length = _
      rw [W.len, nextOf_tx W (hin x (.head _)) 4 (Nat.le_refl _), if_pos (W.it (hin x (.head _))).1]
      simp [fetch]
end Mine

/- the plain law: what is owed -/
namespace Mine
section
variable {ws : List Wk} (W : Ws4 ws)
include W
theorem hits_eq (g : List Nat) (o : Option It) (ho : ∀ x, o = some x → ItOk ws x) : hits ws g (txo ws o) = hit ws (fun k => g.contains k) o := by
  cases o with
  | none =>
    show (((plc ws [46]).map _).filter _).length = 0
    rw [plc_dot W]; rfl
  | some x =>
    show (((plc ws (tx ws x)).map _).filter _).length = _
    rw [plc_tx W (ho x rfl), hit_some, List.map_cons, List.map_nil, List.filter_cons]
    split <;> rfl
theorem hit_full {pool : Nat → List It} {out : Nat → Option It} (K : IsClerk ws pool out) {G : Nat → Bool} (hG : ∀ k, k < 3 → G k = true) {t : Nat} (h : 0 < lw ws G (pool t) + lw ws G (arr ws t ws.length)) : hit ws G (out t) = 1 := by
  rw [← lw_append] at h
  rcases K.step t with ⟨e1, _, _⟩ | ⟨x, r, e1, e2, _⟩
  · rw [e1] at h; exact absurd h (Nat.lt_irrefl _)
  · have := W.kind x.1 (W.it (out_ok W K e1).1).1
    rw [e1, hit_some, if_pos (hG _ this)]
end
theorem sum_pick (p : Prop) [Decidable p] (κ v : Nat) : ∀ g : List Nat, g.Nodup → (g.map fun c => (((if p ∧ κ = c then v else 0 : Nat)) : Int)).sum = ((if p ∧ g.contains κ = true then v else 0 : Nat) : Int)
  | [], _ => by simp
  | a :: r, h => by
    rw [List.nodup_cons] at h
    rw [List.map_cons, List.sum_cons, sum_pick p κ v r h.2]
    by_cases hp : p
    · by_cases e : κ = a
      · subst e
        have : r.contains κ = false := by rw [Bool.eq_false_iff]; intro q; exact h.1 (List.contains_iff_mem.mp q)
        rw [if_pos ⟨hp, rfl⟩, if_neg (by rw [this]; exact fun q => Bool.false_ne_true q.2), if_pos ⟨hp, by simp⟩]
        simp
      · have : (a :: r).contains κ = r.contains κ := by
          rw [List.contains_cons, beq_false_of_ne e, Bool.false_or]
        rw [if_neg (fun q => e q.2), this]
        simp
    · rw [if_neg (fun q => hp q.1), if_neg (fun q => hp q.1), if_neg (fun q => hp q.1)]
      rfl
theorem sum_add (f h : Nat → Nat) : ∀ g : List Nat, (g.map fun c => ((f c + h c : Nat) : Int)).sum = (g.map fun c => ((f c : Nat) : Int)).sum + (g.map fun c => ((h c : Nat) : Int)).sum
  | [] => rfl
  | a :: r => by
    rw [List.map_cons, List.map_cons, List.map_cons, List.sum_cons, List.sum_cons, List.sum_cons, sum_add f h r]
    omega
theorem came_lw (ws : List Wk) {g : List Nat} (hg : g.Nodup) (t : Nat) : ∀ k, (g.map fun c => ((unit ws k t c : Nat) : Int)).sum = ((lw ws (fun κ => g.contains κ) (arr ws t k) : Nat) : Int)
  | 0 => by
    have : ∀ g : List Nat, (g.map fun c => ((unit ws 0 t c : Nat) : Int)).sum = 0 := by
      intro g
      induction g with
      | nil => rfl
      | cons a r ih => rw [List.map_cons, List.sum_cons, ih]; rfl
    rw [this]; rfl
  | k + 1 => by
    have e : (g.map fun c => ((unit ws (k + 1) t c : Nat) : Int)) = g.map fun c => ((unit ws k t c + (if (wk ws k).come = t ∧ (wk ws k).kind = c then (wk ws k).n else 0) : Nat) : Int) := List.map_congr_left fun c _ => by rw [unit_succ]
    rw [e, sum_add (fun c => unit ws k t c) (fun c => if (wk ws k).come = t ∧ (wk ws k).kind = c then (wk ws k).n else 0) g, came_lw ws hg t k, sum_pick _ _ _ g hg, arr_succ, lw_append, Int.natCast_add]
    congr 2
    by_cases h : (wk ws k).come = t
    · rw [if_pos h]
      show _ = wgt ws _ (k, 0) + 0
      unfold wgt
      by_cases q : g.contains (wk ws k).kind = true
      · rw [if_pos ⟨h, q⟩, if_pos q]; rfl
      · rw [if_neg (fun z => q z.2), if_neg q]
    · rw [if_neg h, if_neg (fun z => h z.1)]; rfl
theorem grp_nodup : ∀ g ∈ grps, g.Nodup := by decide
theorem grp_full : ∀ g ∈ grps, g.length = 3 → ∀ k, k < 3 → g.contains k = true := by decide
theorem grp_low : ∀ g ∈ ([[0], [0, 1], [0, 1, 2]] : List (List Nat)), ∀ k', k' < 3 → ∀ k, k ≤ k' → g.contains k' = true → g.contains k = true := by decide
theorem owe_inv {ws : List Wk} (W : Ws4 ws) (T : Nat) {g : List Nat} (hg : g ∈ grps) : ∀ t, t ≤ T →
    (owe ws (tsOf ws T) (rsOf ws T) g t).one = ((lw ws (fun κ => g.contains κ) (q1 ws t) : Nat) : Int) ∧ (owe ws (tsOf ws T) (rsOf ws T) g t).two = ((lw ws (fun κ => g.contains κ) (q2 ws t) : Nat) : Int) ∧
    (owe ws (tsOf ws T) (rsOf ws T) g t).low ≤ (owe ws (tsOf ws T) (rsOf ws T) g t).spare ∧
    (owe ws (tsOf ws T) (rsOf ws T) g t).spare - (owe ws (tsOf ws T) (rsOf ws T) g t).low ≤ (owe ws (tsOf ws T) (rsOf ws T) g t).one ∧
    (owe ws (tsOf ws T) (rsOf ws T) g t).spare - (owe ws (tsOf ws T) (rsOf ws T) g t).low ≤ (owe ws (tsOf ws T) (rsOf ws T) g t).two ∧
    (g.length = 3 → (owe ws (tsOf ws T) (rsOf ws T) g t).one = (owe ws (tsOf ws T) (rsOf ws T) g t).spare - (owe ws (tsOf ws T) (rsOf ws T) g t).low) ∧
    (g ∈ ([[0], [0, 1], [0, 1, 2]] : List (List Nat)) → (owe ws (tsOf ws T) (rsOf ws T) g t).two = (owe ws (tsOf ws T) (rsOf ws T) g t).spare - (owe ws (tsOf ws T) (rsOf ws T) g t).low)
  | 0, _ => ⟨rfl, rfl, Int.le_refl _, Int.le_refl _, Int.le_refl _, fun _ => rfl, fun _ => rfl⟩
  | t + 1, h => by
    obtain ⟨h1, h2, h3, h4, h5, h6, h7⟩ := owe_inv W T hg t (by omega)
    have s1 := lw_step W (clerk1 ws) (fun κ => g.contains κ) t
    have s2 := lw_step W (clerk2 ws) (fun κ => g.contains κ) t
    have f1 : g.length = 3 → 0 < lw ws (fun κ => g.contains κ) (q1 ws t) + lw ws (fun κ => g.contains κ) (arr ws t ws.length) → hit ws (fun κ => g.contains κ) (o1 ws t) = 1 := fun hl => hit_full W (clerk1 ws) (grp_full g hg hl)
    have f2 : g ∈ ([[0], [0, 1], [0, 1, 2]] : List (List Nat)) → 0 < lw ws (fun κ => g.contains κ) (q2 ws t) + lw ws (fun κ => g.contains κ) (arr ws t ws.length) → hit ws (fun κ => g.contains κ) (o2 ws t) = 1 := fun hl hpos => by
      have hin := pool_in W (clerk2 ws) t
      rw [← lw_append] at hpos
      -- kinds below three only
      have low : ∀ k k', k ≤ k' → (fun κ => decide (κ < 3) && g.contains κ) k' = true → (fun κ => decide (κ < 3) && g.contains κ) k = true := by
        intro k k' hk hq
        have hq' : k' < 3 ∧ g.contains k' = true := by simpa using hq
        have := grp_low g hl k' hq'.1 k hk hq'.2
        have h3 : k < 3 := by omega
        show (decide (k < 3) && g.contains k) = true
        rw [decide_eq_true h3, this]; rfl
      have same : ∀ x, ItOk ws x → wgt ws (fun κ => decide (κ < 3) && g.contains κ) x = wgt ws (fun κ => g.contains κ) x := fun x hx => by
        have := W.kind x.1 (W.it hx).1
        unfold wgt
        simp only [decide_eq_true this, Bool.true_and]
      have e : lw ws (fun κ => decide (κ < 3) && g.contains κ) (q2 ws t ++ arr ws t ws.length) = lw ws (fun κ => g.contains κ) (q2 ws t ++ arr ws t ws.length) := by
        unfold lw
        rw [List.map_congr_left fun x hx => same x (hin x hx)]
      have r := hit_low W low hin (by rw [e]; exact hpos)
      show hit ws _ (serve ws (q2 ws t ++ arr ws t ws.length)).1 = 1
      cases hs : (serve ws (q2 ws t ++ arr ws t ws.length)).1 with
      | none => rw [hs] at r; exact absurd r (show ¬ (0 = 1) by decide)
      | some x =>
        rw [hs, hit_some] at r
        rw [hit_some]
        split at r
        · rename_i q
          have q' : (wk ws x.1).kind < 3 ∧ g.contains (wk ws x.1).kind = true := by simpa using q
          rw [if_pos q'.2]
        · cases r
    have b1 := hit_le ws (fun κ => g.contains κ) (o1 ws t)
    have b2 := hit_le ws (fun κ => g.contains κ) (o2 ws t)
    have e1 : hits ws g ((tsOf ws T).getD t []) = hit ws (fun κ => g.contains κ) (o1 ws t) := by rw [ts_at (by omega)]; exact hits_eq W g _ fun x hx => (out_ok W (clerk1 ws) hx).1
    have e2 : hits ws g ((rsOf ws T).getD t []) = hit ws (fun κ => g.contains κ) (o2 ws t) := by rw [rs_at (by omega)]; exact hits_eq W g _ fun x hx => (out_ok W (clerk2 ws) hx).1
    have e3 : came ws g t = ((lw ws (fun κ => g.contains κ) (arr ws t ws.length) : Nat) : Int) := came_lw ws (grp_nodup g hg) t ws.length
    rw [owe, e1, e2, e3]
    dsimp only
    generalize owe ws (tsOf ws T) (rsOf ws T) g t = q at *
    generalize lw ws (fun κ => g.contains κ) (arr ws t ws.length) = cm at *
    generalize lw ws (fun κ => g.contains κ) (q1 ws t) = l1 at *
    generalize lw ws (fun κ => g.contains κ) (q2 ws t) = l2 at *
    generalize lw ws (fun κ => g.contains κ) (q1 ws (t + 1)) = m1 at *
    generalize lw ws (fun κ => g.contains κ) (q2 ws (t + 1)) = m2 at *
    generalize hit ws (fun κ => g.contains κ) (o1 ws t) = x1 at *
    generalize hit ws (fun κ => g.contains κ) (o2 ws t) = x2 at *
    refine ⟨by omega, by omega, by omega, by omega, by omega, fun hl => ?_, fun hl => ?_⟩
    · have h6 := h6 hl
      have f1 := f1 hl
      by_cases z : 0 < l1 + cm
      · have := f1 z; omega
      · omega
    · have h7 := h7 hl
      have f2 := f2 hl
      by_cases z : 0 < l2 + cm
      · have := f2 z; omega
      · omega
end Mine

/- the plain law: the third clerk -/
namespace Mine
noncomputable def sv (ws : List Wk) (p t : Nat) : Bool := match o1 ws t with
  | none => false
  | some x => x.1 == p
noncomputable def lastS (ws : List Wk) (p : Nat) : Nat → Nat
  | 0 => 0
  | t + 1 => if sv ws p t = true then t else lastS ws p t
noncomputable def cnS (ws : List Wk) (f : Nat → Bool) (T : Nat) : Nat := (List.range T).countP f
theorem cn_succ (ws : List Wk) (f : Nat → Bool) (T : Nat) : cnS ws f (T + 1) = cnS ws f T + if f T = true then 1 else 0 := by
  unfold cnS
  rw [List.range_succ, List.countP_append, List.countP_cons, List.countP_nil]
  omega
theorem cn_mono (ws : List Wk) (f : Nat → Bool) {s t : Nat} (h : s ≤ t) : cnS ws f s ≤ cnS ws f t := by
  induction h with
  | refl => exact Nat.le_refl _
  | step _ ih => rw [cn_succ]; omega
theorem cn_bound (ws : List Wk) (f : Nat → Bool) (b c : Nat) (h : ∀ t, f t = true → b ≤ t ∧ t < c) : ∀ T, cnS ws f T ≤ min T c - b
  | 0 => Nat.zero_le _
  | T + 1 => by
    have ih := cn_bound ws f b c h T
    rw [cn_succ]
    split
    · rename_i q
      have := h T q
      rw [Nat.min_eq_left (Nat.le_of_lt this.2)] at ih
      rw [Nat.min_eq_left this.2]
      omega
    · exact Nat.le_trans ih (Nat.sub_le_sub_right (Nat.le_min.mpr ⟨Nat.le_trans (Nat.min_le_left _ _) (Nat.le_succ _), Nat.min_le_right _ _⟩) _)
theorem cn_or (ws : List Wk) (f g : Nat → Bool) (h : ∀ t, f t = true → g t = true → False) : ∀ T, cnS ws (fun t => f t || g t) T = cnS ws f T + cnS ws g T
  | 0 => rfl
  | T + 1 => by
    rw [cn_succ, cn_succ, cn_succ, cn_or ws f g h T]
    by_cases h1 : f T = true
    · by_cases h2 : g T = true
      · exact (h T h1 h2).elim
      · rw [if_pos (by simp [h1]), if_pos h1, if_neg h2]; omega
    · by_cases h2 : g T = true
      · rw [if_pos (by simp [h2]), if_neg h1, if_pos h2]; omega
      · rw [if_neg (by simp [h1, h2]), if_neg h1, if_neg h2]; omega
theorem sv_one {ws : List Wk} {p q t : Nat} (h1 : sv ws p t = true) (h2 : sv ws q t = true) : p = q := by
  unfold sv at h1 h2
  cases h : o1 ws t with
  | none => rw [h] at h1; cases h1
  | some x =>
    rw [h] at h1 h2
    exact (beq_iff_eq.mp h1).symm.trans (beq_iff_eq.mp h2)
theorem only_cn (ws : List Wk) (p : Nat) : ∀ t, (onlyI p (outs (o1 ws) t)).length = cnS ws (sv ws p) t
  | 0 => rfl
  | t + 1 => by
    rw [outs_succ, onlyI_append, List.length_append, only_cn ws p t, cn_succ]
    congr 1
    unfold sv
    cases o1 ws t with
    | none => rfl
    | some x =>
      show (List.filter _ [x]).length = _
      rw [List.filter_cons]
      split <;> rfl
theorem last_ok {ws : List Wk} {p : Nat} : ∀ T, (∃ t, t < T ∧ sv ws p t = true) → sv ws p (lastS ws p T) = true ∧ lastS ws p T < T ∧ ∀ t, t < T → sv ws p t = true → t ≤ lastS ws p T
  | 0, ⟨t, h, _⟩ => absurd h (Nat.not_lt_zero _)
  | T + 1, ⟨t, h, hs⟩ => by
    rw [lastS]
    by_cases e : sv ws p T = true
    · rw [if_pos e]
      exact ⟨e, Nat.lt_succ_self _, fun u hu _ => by omega⟩
    · rw [if_neg e]
      have ht : t < T := by
        by_cases q : t = T
        · subst q; exact absurd hs e
        · omega
      obtain ⟨a, b, c⟩ := last_ok T ⟨t, ht, hs⟩
      refine ⟨a, by omega, fun u hu hus => ?_⟩
      by_cases q : u = T
      · subst q; exact absurd hus e
      · exact c u (by omega) hus
section
variable {ws : List Wk} (W : Ws4 ws)
include W
theorem sv_come {p t : Nat} (h : sv ws p t = true) : (wk ws p).come ≤ t ∧ p < 4 := by
  unfold sv at h
  cases e : o1 ws t with
  | none => rw [e] at h; cases h
  | some x =>
    rw [e] at h
    have := out_ok W (clerk1 ws) e
    have hp := beq_iff_eq.mp h
    subst hp
    exact ⟨this.2, (W.it this.1).1⟩
theorem cn_le {p : Nat} (hp : p < 4) (t : Nat) : cnS ws (sv ws p) t ≤ (wk ws p).n := by
  have h := (clerk_seq W (clerk1 ws) hp t).1
  have := congrArg List.length h
  rw [List.length_append, only_cn] at this
  split at this
  · unfold fullI at this
    rw [List.length_map, List.length_range] at this
    omega
  · rw [List.length_nil] at this
    omega
theorem cn_end {p : Nat} (hp : p < 4) {T : Nat} (hT : eAt ws 4 < T) : cnS ws (sv ws p) T = (wk ws p).n := by
  have h := (clerk_seq W (clerk1 ws) hp T).1
  rw [pool_end W (clerk1 ws) hT] at h
  have hc := eAt_come ws 4 p hp
  rw [if_pos (by omega)] at h
  have := congrArg List.length h
  rw [List.length_append, only_cn] at this
  unfold fullI at this
  rw [List.length_map, List.length_range] at this
  have h4 : ((onlyI p ([] : List It)).flatMap (restI ws)).length = 0 := rfl
  rw [h4] at this
  exact this
theorem ex_sv {p : Nat} (hp : p < 4) {T : Nat} (hT : eAt ws 4 < T) : ∃ t, t < T ∧ sv ws p t = true := by
  have h := cn_end W hp hT
  have hn := W.ok.n_pos (i := p) (by rw [W.len]; exact hp)
  have : 0 < cnS ws (sv ws p) T := by omega
  unfold cnS at this
  obtain ⟨t, ht, hs⟩ := List.countP_pos_iff.mp this
  exact ⟨t, List.mem_range.mp ht, hs⟩
/-- at minute b the line gives one that came before, if some work that came before is not done -/
theorem fifo {m b t : Nat} (hm : (wk ws m).come < b) (ht : b ≤ t) (hs : sv ws m t = true) : ∀ p, sv ws p b = true → (wk ws p).come < b := by
  have hm4 := (sv_come W hs).2
  have hne : q1 ws b ≠ [] := by
    intro e
    have h := (clerk_seq W (clerk1 ws) hm4 b).1
    rw [e, if_pos hm] at h
    have h1 := congrArg List.length h
    rw [List.length_append, only_cn] at h1
    unfold fullI at h1
    rw [List.length_map, List.length_range] at h1
    have h2 := cn_le W hm4 (t + 1)
    rw [cn_succ, if_pos hs] at h2
    have h3 := cn_mono ws (sv ws m) ht
    have h4 : ((onlyI m ([] : List It)).flatMap (restI ws)).length = 0 := rfl
    rw [h4] at h1
    omega
  intro p hp
  have ok := clerk_ok W (clerk1 ws) b
  cases hq : q1 ws b with
  | nil => exact absurd hq hne
  | cons x r =>
    have e : o1 ws b = some x := by
      show (fetch ws (q1 ws b ++ arr ws b ws.length) (runN ws b).idle).1 = _
      rw [hq]; rfl
    unfold sv at hp
    rw [e] at hp
    have := beq_iff_eq.mp hp
    subst this
    exact (ok x (by rw [hq]; exact .head _)).2
noncomputable def nS (ws : List Wk) (S : List Nat) : Nat := (S.map fun p => (wk ws p).n).sum
theorem cn_set {T : Nat} (hT : eAt ws 4 < T) : ∀ S : List Nat, S.Nodup → (∀ p ∈ S, p < 4) → cnS ws (fun t => S.any fun p => sv ws p t) T = nS ws S
  | [], _, _ => by
    unfold cnS nS
    simp
  | p :: r, hn, h4 => by
    rw [List.nodup_cons] at hn
    have e : (fun t => (p :: r).any fun p => sv ws p t) = fun t => sv ws p t || r.any fun p => sv ws p t := rfl
    rw [e, cn_or ws (sv ws p) (fun t => r.any fun p => sv ws p t), cn_set hT r hn.2 fun q hq => h4 q (.tail _ hq), cn_end W (h4 p (.head _)) hT]
    · rfl
    · intro t h1 h2
      obtain ⟨q, hq, h3⟩ := List.any_eq_true.mp h2
      exact hn.1 (sv_one h1 h3 ▸ hq)
theorem set_bound {T b e : Nat} (hT : eAt ws 4 < T) {S : List Nat} (hn : S.Nodup) (hS : ∀ p ∈ S, p < 4 ∧ b ≤ (wk ws p).come ∧ lastS ws p T ≤ e) : nS ws S ≤ e + 1 - b := by
  rw [← cn_set W hT S hn fun p hp => (hS p hp).1]
  -- only minutes before T count
  have h1 : cnS ws (fun t => S.any fun p => sv ws p t) T = cnS ws (fun t => decide (t < T) && S.any fun p => sv ws p t) T := by
    unfold cnS
    exact List.countP_congr fun t ht => by simp [List.mem_range.mp ht]
  rw [h1]
  have := cn_bound ws (fun t => decide (t < T) && S.any fun p => sv ws p t) b (e + 1) (fun t ht => by
    rw [Bool.and_eq_true, decide_eq_true_eq] at ht
    obtain ⟨p, hp, hs⟩ := List.any_eq_true.mp ht.2
    obtain ⟨a1, a2, a3⟩ := hS p hp
    have l1 := (last_ok T ⟨t, ht.1, hs⟩).2.2 t ht.1 hs
    have l2 := (sv_come W hs).1
    omega) T
  omega
theorem set_bound1 {T b e m : Nat} (hT : eAt ws 4 < T) {S : List Nat} (hn : S.Nodup) (hS : ∀ p ∈ S, p < 4 ∧ b ≤ (wk ws p).come ∧ lastS ws p T ≤ e) (hm : (wk ws m).come < b) {t' : Nat} (ht' : b ≤ t') (hs' : sv ws m t' = true) : nS ws S ≤ e - b := by
  rw [← cn_set W hT S hn fun p hp => (hS p hp).1]
  have h1 : cnS ws (fun t => S.any fun p => sv ws p t) T = cnS ws (fun t => decide (t < T) && S.any fun p => sv ws p t) T := by
    unfold cnS
    exact List.countP_congr fun t ht => by simp [List.mem_range.mp ht]
  rw [h1]
  have := cn_bound ws (fun t => decide (t < T) && S.any fun p => sv ws p t) (b + 1) (e + 1) (fun t ht => by
    rw [Bool.and_eq_true, decide_eq_true_eq] at ht
    obtain ⟨p, hp, hs⟩ := List.any_eq_true.mp ht.2
    obtain ⟨a1, a2, a3⟩ := hS p hp
    have l1 := (last_ok T ⟨t, ht.1, hs⟩).2.2 t ht.1 hs
    have l2 := (sv_come W hs).1
    have : t ≠ b := fun q => by
      subst q
      have := fifo W hm ht' hs' p hs
      omega
    omega) T
  omega
end
/-- what the third clerk's loop keeps, for each work left -/
noncomputable def PW (ws : List Wk) (en : Nat → Nat) (left : List Nat) (clock : Nat) : Prop :=
  left.Nodup ∧ (∀ p ∈ left, p < 4) ∧ ∀ k ∈ left, ∃ b S, S.Nodup ∧ (∀ p ∈ S, p < 4 ∧ p ∉ left ∧ b ≤ (wk ws p).come ∧ en p ≤ en k) ∧ (∀ j ∈ left, en j ≤ en k → b ≤ (wk ws j).come) ∧
    (clock = b + nS ws S ∨ ∃ m, m < 4 ∧ (wk ws m).come < b ∧ en k < en m ∧ clock + 1 = b + (wk ws m).n + nS ws S)
theorem good_all {ws : List Wk} (W : Ws4 ws) {T : Nat} (hT : eAt ws 4 < T) : Good ws (fun p => lastS ws p T) (PW ws fun p => lastS ws p T) := by
  have en_ok : ∀ p, p < 4 → sv ws p (lastS ws p T) = true ∧ lastS ws p T < T ∧ ∀ t, t < T → sv ws p t = true → t ≤ lastS ws p T := fun p hp => last_ok T (ex_sv W hp hT)
  have en_inj : ∀ p q, p < 4 → q < 4 → lastS ws p T = lastS ws q T → p = q := fun p q hp hq e => by
    have h1 := (en_ok p hp).1
    rw [e] at h1
    exact sv_one h1 (en_ok q hq).1
  have en_come : ∀ p, p < 4 → (wk ws p).come ≤ lastS ws p T := fun p hp => (sv_come W (en_ok p hp).1).1
  refine ⟨?_, ?_, ?_, ?_, ?_⟩
  · refine ⟨by decide, by decide, fun k hk => ⟨0, [], List.nodup_nil, fun p hp => (nomatch hp), fun j _ _ => Nat.zero_le _, .inl rfl⟩⟩
  · exact fun h => h.2.1
  · rintro left clock ⟨h1, h2, h3⟩ h0 hh
    refine ⟨h1, h2, fun k hk => ⟨clock + 1, [], List.nodup_nil, fun p hp => (nomatch hp), fun j hj _ => ?_, .inl rfl⟩⟩
    have := List.filter_eq_nil_iff.mp hh j hj
    have : ¬ (wk ws j).come ≤ clock := by simpa using this
    omega
  · rintro left clock j ⟨h1, h2, h3⟩ hj hmin
    have hjl := (here_mem.mp hj).1
    have hjc := (here_mem.mp hj).2
    have hj4 := h2 j hjl
    refine ⟨h1.erase j, fun p hp => h2 p (List.mem_of_mem_erase hp), fun k hk => ?_⟩
    have hkl := List.mem_of_mem_erase hk
    have hkj : k ≠ j := fun e => by
      subst e
      exact absurd hk (by rw [List.Nodup.mem_erase_iff h1]; exact fun q => q.1 rfl)
    have hne : lastS ws k T ≠ lastS ws j T := fun e => hkj (en_inj k j (h2 k hkl) hj4 e)
    rcases Nat.lt_or_ge (lastS ws j T) (lastS ws k T) with hlt | hge
    · obtain ⟨b, S, s1, s2, s3, s4⟩ := h3 k hkl
      refine ⟨b, j :: S, List.nodup_cons.mpr ⟨fun q => (s2 j q).2.1 hjl, s1⟩, fun p hp => ?_, fun i hi hle => s3 i (List.mem_of_mem_erase hi) hle, ?_⟩
      · rcases List.mem_cons.mp hp with rfl | hp
        · exact ⟨hj4, fun q => absurd q (by rw [List.Nodup.mem_erase_iff h1]; exact fun z => z.1 rfl), s3 p hjl (Nat.le_of_lt hlt), Nat.le_of_lt hlt⟩
        · obtain ⟨a1, a2, a3, a4⟩ := s2 p hp
          exact ⟨a1, fun q => a2 (List.mem_of_mem_erase q), a3, a4⟩
      · have e : nS ws (j :: S) = (wk ws j).n + nS ws S := rfl
        rw [e]
        rcases s4 with s4 | ⟨m, m1, m2, m3, m4⟩
        · exact .inl (by omega)
        · exact .inr ⟨m, m1, m2, m3, by omega⟩
    · have hlt : lastS ws k T < lastS ws j T := by omega
      have later : ∀ i ∈ left, lastS ws i T ≤ lastS ws k T → clock + 1 ≤ (wk ws i).come := fun i hi hle => by
        rcases Nat.lt_or_ge clock (wk ws i).come with q | q
        · exact q
        · have := hmin i (here_mem.mpr ⟨hi, q⟩)
          omega
      refine ⟨clock + 1, [], List.nodup_nil, fun p hp => (nomatch hp), fun i hi hle => later i (List.mem_of_mem_erase hi) hle, .inr ⟨j, hj4, by omega, hlt, ?_⟩⟩
      show clock + (wk ws j).n + 1 = clock + 1 + (wk ws j).n + 0
      omega
  · rintro left clock j ⟨h1, h2, h3⟩ hj hmin M hM
    have hjl := (here_mem.mp hj).1
    have hj4 := h2 j hjl
    obtain ⟨b, S, s1, s2, s3, s4⟩ := h3 j hjl
    have hb := s3 j hjl (Nat.le_refl _)
    have hcj := en_come j hj4
    have hn : (j :: S).Nodup := List.nodup_cons.mpr ⟨fun q => (s2 j q).2.1 hjl, s1⟩
    have hS : ∀ p ∈ j :: S, p < 4 ∧ b ≤ (wk ws p).come ∧ lastS ws p T ≤ lastS ws j T := fun p hp => by
      rcases List.mem_cons.mp hp with rfl | hp
      · exact ⟨hj4, hb, Nat.le_refl _⟩
      · obtain ⟨a1, a2, a3, a4⟩ := s2 p hp
        exact ⟨a1, a3, a4⟩
    have e : nS ws (j :: S) = (wk ws j).n + nS ws S := rfl
    have h2M := hM 2 (.head _)
    rcases s4 with s4 | ⟨m, m1, m2, m3, m4⟩
    · have := set_bound W hT hn hS
      rw [e] at this
      omega
    · replace m3 : lastS ws j T < lastS ws m T := m3
      have hme := (en_ok m m1).1
      have := set_bound1 W hT hn hS m2 (t' := lastS ws m T) (by omega) hme
      rw [e] at this
      have hmM := hM (wk ws m).n (by
        refine .tail _ ?_
        unfold longL
        refine List.mem_map.mpr ⟨m, List.mem_filter.mpr ⟨List.mem_range.mpr m1, ?_⟩, rfl⟩
        rw [decide_eq_true (show (wk ws m).come < (wk ws j).come by omega), decide_eq_true m3]; rfl)
      omega
end Mine

/- the plain law: the four works -/
namespace Mine
theorem wkN_at (xs : List Nat) {i : Nat} (h : i < 4) : wk (wsN xs) i = wkN xs i := wk_at (wsN_get h)
theorem comeSum_mono (xs : List Nat) {i j : Nat} (h : i ≤ j) : comeSum xs i ≤ comeSum xs j := by
  induction h with
  | refl => exact Nat.le_refl _
  | step _ ih => rw [comeSum]; omega
theorem comeSum_le (xs : List Nat) : ∀ i, comeSum xs i ≤ 2 * i
  | 0 => Nat.le_refl _
  | i + 1 => by
    have := comeSum_le xs i
    have : xs.getD i 0 % 3 < 3 := Nat.mod_lt _ (by decide)
    rw [comeSum]; omega
theorem letters : ∀ i, i < 4 → ∀ j, j < 4 → ([97, 98, 99, 100] : List Nat).getD i 0 = ([97, 98, 99, 100] : List Nat).getD j 0 → i = j := by decide
theorem signs_lt : ∀ i, i < 3 → ∀ j, j < 3 → i < j → ([34, 35, 77] : List Nat).getD i 0 < ([34, 35, 77] : List Nat).getD j 0 := by decide
theorem signs_ok : ∀ i, i < 3 → ([34, 35, 77] : List Nat).getD i 0 ≠ 32 ∧ ([34, 35, 77] : List Nat).getD i 0 < 128 := by decide
theorem letters_ok : ∀ i, i < 4 → ([97, 98, 99, 100] : List Nat).getD i 0 ≠ 32 ∧ ([97, 98, 99, 100] : List Nat).getD i 0 < 128 := by decide
theorem wsN_ok (xs : List Nat) : Ws4 (wsN xs) := by
  have m3 : ∀ n, n % 3 < 3 := fun n => Nat.mod_lt _ (by decide)
  have m2 : ∀ n, n % 2 < 2 := fun n => Nat.mod_lt _ (by decide)
  refine ⟨by simp [wsN], ⟨by simp [wsN], ?_⟩, ?_, ?_, ?_, ?_, ?_, ?_⟩
  · intro w hw
    obtain ⟨i, hi, rfl⟩ := List.mem_map.mp hw
    have hi := List.mem_range.mp hi
    have h1 := signs_ok _ (m3 (xs.getD i 0 / 3))
    have h2 := letters_ok i hi
    have h3 := m3 (xs.getD i 0 / 9)
    have h4 := m2 (xs.getD i 0 / 27)
    refine ⟨h1.1, h2.1, h1.2, h2.2, ?_, ?_⟩
    · show xs.getD i 0 / 9 % 3 + (1 + xs.getD i 0 / 27 % 2) ≤ 9
      omega
    · show 1 ≤ 1 + xs.getD i 0 / 27 % 2
      omega
  · intro i j h hj
    rw [wkN_at xs (show i < 4 by omega), wkN_at xs hj]
    exact comeSum_mono xs (by omega)
  · intro i h
    rw [wkN_at xs h]
    have := comeSum_le xs (i + 1)
    show comeSum xs (i + 1) ≤ 8
    omega
  · intro i h
    rw [wkN_at xs h]
    exact m3 _
  · intro i j hi hj h
    rw [wkN_at xs hi, wkN_at xs hj] at h
    exact letters i hi j hj h
  · intro i j hi hj h
    rw [wkN_at xs hi, wkN_at xs hj] at h ⊢
    exact signs_lt _ (m3 _) _ (m3 _) h
  · intro i h
    rw [wkN_at xs h]
    have h3 := m3 (xs.getD i 0 / 9)
    have h4 := m2 (xs.getD i 0 / 27)
    show xs.getD i 0 / 9 % 3 + (1 + xs.getD i 0 / 27 % 2) ≤ 4
    omega
section
variable {ws : List Wk} (W : Ws4 ws)
include W
theorem last_lt : eAt ws 4 < endAt ws + 1 := by rw [endAt_eq W]; exact Nat.lt_succ_self _
theorem last_le : endAt ws + 1 ≤ 100 := by
  rw [endAt_eq W]
  have h1 := eAt_le W 4 (Nat.le_refl _)
  have h2 := nSum_le W 4 (Nat.le_refl _)
  omega
theorem idle_ok : (runN ws (endAt ws + 1)).idle ≤ 12 := by
  have h1 := idle_count ws (endAt ws + 1)
  have h2 := outs_end W (clerk1 ws) (last_lt W)
  have h3 := eAt_le W 4 (Nat.le_refl _)
  have h4 := endAt_eq W
  omega
theorem ascii (o : Option It) (h : ∀ x, o = some x → ItOk ws x) : (txo ws o).all (· < 128) = true := by
  cases o with
  | none => rfl
  | some x =>
    have := W.wkok (W.it (h x rfl)).1
    exact form_small _ this.2.2.1 this.2.2.2.1
theorem ts_ascii (T : Nat) : ∀ l ∈ tsOf ws T, l.all (· < 128) = true := by
  intro l hl
  unfold tsOf at hl
  rw [turns_eq] at hl
  obtain ⟨o, ho, rfl⟩ := List.mem_map.mp hl
  obtain ⟨t, _, rfl⟩ := List.mem_map.mp ho
  exact ascii W _ fun x hx => (out_ok W (clerk1 ws) hx).1
theorem rs_ascii (T : Nat) : ∀ l ∈ rsOf ws T, l.all (· < 128) = true := by
  intro l hl
  unfold rsOf at hl
  rw [ranks_eq] at hl
  obtain ⟨o, ho, rfl⟩ := List.mem_map.mp hl
  obtain ⟨t, _, rfl⟩ := List.mem_map.mp ho
  exact ascii W _ fun x hx => (out_ok W (clerk2 ws) hx).1
theorem push_end : pushTo ws (tsOf ws (endAt ws + 1)) (endAt ws + 1) = (outs (o1 ws) (endAt ws + 1)).map (tx ws) := by
  rw [push_eq W _ _ (Nat.le_refl _), pool_end W (clerk1 ws) (last_lt W), List.append_nil]
theorem in_order1 : (tsOf ws (endAt ws + 1)).filter (fun x => x != [46]) = pushTo ws (tsOf ws (endAt ws + 1)) (tsOf ws (endAt ws + 1)).length := by
  rw [ts_len, push_end W]
  unfold tsOf
  rw [dots_out, turns_eq]; rfl
theorem in_order2 : ∀ i, i < ws.length → (rsOf ws (endAt ws + 1)).filter (fun x => (wk ws i).forms.contains x) = (wk ws i).forms := by
  intro i hi
  rw [W.len] at hi
  unfold rsOf
  rw [ranks_eq, only_out W hi]
  · have h := (clerk_seq W (clerk2 ws) hi (endAt ws + 1)).1
    have hc := eAt_come ws 4 i hi
    have hl := last_lt W
    rw [pool_end W (clerk2 ws) hl, if_pos (by omega)] at h
    have e : onlyI i (outs (o2 ws) (endAt ws + 1)) = fullI ws i := by
      have h0 : (onlyI i ([] : List It)).flatMap (restI ws) = [] := rfl
      rw [h0, List.append_nil] at h
      exact h
    show (onlyI i (outs (o2 ws) (endAt ws + 1))).map (tx ws) = _
    rw [e]
    unfold fullI Wk.forms
    rw [List.map_map]; rfl
  · intro x hx
    obtain ⟨t, _, h⟩ := List.mem_map.mp hx
    exact (out_ok W (clerk2 ws) h).1
theorem in_order3 : ((lnAt (runN ws (endAt ws + 1)).idle : Nat) : Int) = 1 + (((tsOf ws (endAt ws + 1)).length : Int) - ((pushTo ws (tsOf ws (endAt ws + 1)) (tsOf ws (endAt ws + 1)).length).length : Int) + 2).fdiv 3 +
    (((tsOf ws (endAt ws + 1)).length : Int) - ((pushTo ws (tsOf ws (endAt ws + 1)) (tsOf ws (endAt ws + 1)).length).length : Int)).fdiv 3 := by
  rw [ts_len, push_end W, List.length_map]
  have h1 := idle_count ws (endAt ws + 1)
  have e : (((endAt ws + 1 : Nat) : Int) - ((outs (o1 ws) (endAt ws + 1)).length : Int)) = (((runN ws (endAt ws + 1)).idle : Nat) : Int) := by omega
  rw [e]
  generalize (runN ws (endAt ws + 1)).idle = k
  have e2 : ((k : Nat) : Int) + 2 = ((k + 2 : Nat) : Int) := rfl
  have d1 : ((k + 2 : Nat) : Int).fdiv 3 = (((k + 2) / 3 : Nat) : Int) := fdiv_nat _ 3
  have d2 : ((k : Nat) : Int).fdiv 3 = ((k / 3 : Nat) : Int) := fdiv_nat _ 3
  rw [e2, d1, d2]
  unfold lnAt
  omega
theorem owed_ok : ∀ g ∈ grps, ∀ t, t < (tsOf ws (endAt ws + 1)).length →
    (owe ws (tsOf ws (endAt ws + 1)) (rsOf ws (endAt ws + 1)) g (t + 1)).spare - (owe ws (tsOf ws (endAt ws + 1)) (rsOf ws (endAt ws + 1)) g (t + 1)).low ≤ min (owe ws (tsOf ws (endAt ws + 1)) (rsOf ws (endAt ws + 1)) g (t + 1)).one (owe ws (tsOf ws (endAt ws + 1)) (rsOf ws (endAt ws + 1)) g (t + 1)).two ∧
    (g.length = 3 → (owe ws (tsOf ws (endAt ws + 1)) (rsOf ws (endAt ws + 1)) g (t + 1)).one = (owe ws (tsOf ws (endAt ws + 1)) (rsOf ws (endAt ws + 1)) g (t + 1)).spare - (owe ws (tsOf ws (endAt ws + 1)) (rsOf ws (endAt ws + 1)) g (t + 1)).low) ∧
    (g ∈ ([[0], [0, 1], [0, 1, 2]] : List (List Nat)) → (owe ws (tsOf ws (endAt ws + 1)) (rsOf ws (endAt ws + 1)) g (t + 1)).two = (owe ws (tsOf ws (endAt ws + 1)) (rsOf ws (endAt ws + 1)) g (t + 1)).spare - (owe ws (tsOf ws (endAt ws + 1)) (rsOf ws (endAt ws + 1)) g (t + 1)).low) := by
  intro g hg t ht
  rw [ts_len] at ht
  obtain ⟨_, _, _, h4, h5, h6, h7⟩ := owe_inv W (endAt ws + 1) hg (t + 1) ht
  exact ⟨by omega, h6, h7⟩
theorem plc_sv {t p : Nat} (ht : t < endAt ws + 1) : plc ws ((tsOf ws (endAt ws + 1)).getD t []) = [p] ↔ sv ws p t = true := by
  rw [ts_at ht]
  unfold sv
  cases h : o1 ws t with
  | none =>
    show plc ws [46] = [p] ↔ _
    rw [plc_dot W]
    exact ⟨fun e => (nomatch e), fun e => (nomatch e)⟩
  | some x =>
    show plc ws (tx ws x) = [p] ↔ _
    rw [plc_tx W (out_ok W (clerk1 ws) h).1]
    exact ⟨fun e => beq_iff_eq.mpr (List.cons.inj e).1, fun e => by rw [beq_iff_eq.mp e]⟩
theorem ends_ok : ∀ p, p < 4 → lastS ws p (endAt ws + 1) < (tsOf ws (endAt ws + 1)).length ∧ plc ws ((tsOf ws (endAt ws + 1)).getD (lastS ws p (endAt ws + 1)) []) = [p] ∧
    ∀ t, t < (tsOf ws (endAt ws + 1)).length → plc ws ((tsOf ws (endAt ws + 1)).getD t []) = [p] → t ≤ lastS ws p (endAt ws + 1) := by
  intro p hp
  obtain ⟨a, b, c⟩ := last_ok (endAt ws + 1) (ex_sv W hp (last_lt W))
  rw [ts_len]
  exact ⟨b, (plc_sv W b).mpr a, fun t ht e => c t ht ((plc_sv W ht).mp e)⟩
end
end Mine

namespace Mine
theorem law_cal {w : World} {p : Program} {loose : List PySem.Str} {mean : ExcName → Option Value} {mg mb : PySem.Str → Option Value} {g : Heap} {qual : PySem.Str} {scope : Scope} {L fa : Addr} {cd : Value}
    (T : Top p loose mean mg mb g) (X : (hd.heap_1 w.params).In g) (K : Below callerA g [] g) (hk : scope.kind = .function) : Cal w 8 (callerA.deeper (envX qual scope L fa cd [])) (envX qual scope L fa cd []) g :=
  ⟨⟨_, _, _, _, _, T⟩, X, fun _ => ⟨callerA, g, [], K, rfl⟩, fun _ => rfl, hk, Nat.le_of_ble_eq_true rfl, Nat.le_of_ble_eq_true rfl, rfl⟩
theorem law_use {prog : Program} {w : World} {n : Nat} {g : Heap} {qual : PySem.Str} {scope : Scope} {L fa : Addr} {cd : Value} {body : List Stmt} {Q : Flow → Shared → Prop} {E : Value → Shared → Prop} {s : Shared}
    (C : Cal w n (callerA.deeper (envX qual scope L fa cd [])) (envX qual scope L fa cd []) g)
    (k : Cal w n (callerA.deeper (envX qual scope L fa cd [])) (envX qual scope L fa cd []) g → wpAny (model prog w) (callerA.deeper (envX qual scope L fa cd [])) (execs body (envX qual scope L fa cd [])) Q E s) :
    wpAny (model prog w) (callerA.deeper (envOf qual scope L fa cd)) (execs body (envOf qual scope L fa cd)) Q E s := k C
theorem law_good {cl : PySem.Str → Option Addr} {mean : ExcName → Option Value} {args : List WData} {s₁ : Shared} {h : Heap} {D : Drawn} {tk : Nat} {G : Array GenState} (keep : ∀ b o, s₁.heap.get? b = some o → h.get? b = some o) (hG : G = #[]) :
    GoodW PySem.Challenge.rw_wk0011_01.row.claim cl mean args s₁ (.ok (.ret (.bool true))) ⟨h, G, D, tk, s₁.os⟩ :=
  ⟨.inl ⟨.bool true, .bool true, [], rfl, fun _ => rfl, .bool true, by kernel_rfl, fun _ => ⟨.nil, fun a ha => nomatch ha⟩⟩, keep, rfl, hG⟩
end Mine
set_option maxHeartbeats 20000000 in
theorem Mine.law_all : PySem.Challenge.rw_wk0011_01.Holds := Mine.hd (by
  w_strict
    (k_go0
     (all_goals try k_fold)
     refine' law_use (law_cal ?zT ?zX ?zK ?zE) ?_
     case zK => assumption
     case zT => assumption
     case zX => assumption
     case zE => exact rfl
     intro C
     dsimp only at C ⊢
     rename_i sl vs _ _ _ _ _ hI _ hlen _ _ h₁ _ _ _ F N _
     have H : Sx (ghostOf _ _) _ ([("script", .ref sl)] : PS) [(100, tabObj #[])] h₁ := ⟨⟨_, F, fun x v e => e⟩, N, by simp⟩
     clear F N
     have hs : h₁.IsList sl vs.toArray := by
       obtain ⟨o, ho, r⟩ := lifted
       exact ⟨o, H.old ho, r⟩
     have hvl : vs.length ≤ 1000 := by
       have := hI.length
       omega
     repeat' walk_at "go"
     refine works_spec (n := 7) C H hs hI hvl fun h₂ tk₂ r wv c nwf xs hws H₂ => ?_
     clear H
     have W := wsN_ok xs
     generalize wsN xs = ws at *
     have hw : ∀ {ps' : PS} {nw' : LG} {h' : Heap} {g' : Heap} {L' : Addr}, Sx g' L' ps' nw' h' → (∀ p ∈ (r, lstObj wv c) :: nwf, p ∈ nw') → WorksP (At h') r ws := fun H' hm =>
       ⟨wv, c, H'.get (hm _ (.head _)), hws.mono fun a o _ hq => H'.get (hm _ (.tail _ hq))⟩
     repeat' walk_at "go"
     rename_i H₃
     refine end_spec (n := 7) C H₃ (hw H₃ fun p hp => List.mem_append_left _ hp) (fun wk hm => Nat.le_trans (W.ok.ok _ hm).2.2.2.2.1 (by decide)) fun h₄ tk₄ t₄ H₄ => ?_
     clear H₂ H₃
     repeat' walk_at "go"
     refine run_spec (n := 2) (last := endAt ws + 1) W.ok (codeHd.keeps fun b o e => H₄.old e) C H₄ (List.perm_append_comm (l₁ := (r, lstObj wv c) :: nwf) (l₂ := [(100, tabObj #[])])) (hw H₄ fun p hp => List.mem_append_left _ hp)
       (last_le W) (by rw [W.len]; decide) (idle_ok W) fun h₅ tk₅ q tu ra c₁ c₂ t₅ tv rv pt htv hrv H₅ => ?_
     clear H₄
     have htv' : Txs tv (tsOf ws (endAt ws + 1)) := htv
     have hrv' : Txs rv (rsOf ws (endAt ws + 1)) := hrv
     have hlast := last_le W
     have ltv := htv'.len
     have lrv := hrv'.len
     have lts := ts_len ws (endAt ws + 1)
     have lrs := rs_len ws (endAt ws + 1)
     repeat' walk_at "go"
     rename_i H₆
     have hm : ∀ p ∈ (r, lstObj wv c) :: nwf, p ∈ (q, tupObj [.ref tu, .ref ra, .int ((lnAt (runN ws (endAt ws + 1)).idle : Nat) : Int) t₅]) :: (tu, lstObj tv c₁) :: (ra, lstObj rv c₂) :: (100, tabObj pt) :: ((r, lstObj wv c) :: nwf) :=
       fun p hp => .tail _ (.tail _ (.tail _ (.tail _ hp)))
     refine order_spec (n := 7) W.ok C H₆ (hw H₆ hm) W.len (H₆.get (.tail _ (.head _))) htv' (by omega) (H₆.get (.tail _ (.tail _ (.head _)))) hrv' (by omega) (ts_ascii W _) (rs_ascii W _) (in_order1 W) (in_order2 W) (in_order3 W) fun h₇ tk₇ H₇ => ?_
     clear H₅ H₆
     repeat' walk_at "go"
     refine iteF (by decide) ?_
     repeat' walk_at "go"
     refine owed_spec (n := 6) C H₇ (hw H₇ hm) W.len (fun i hi => ⟨W.kind i (W.len ▸ hi), ?_, ?_⟩) (H₇.get (.tail _ (.head _))) htv' (by omega) (H₇.get (.tail _ (.tail _ (.head _)))) hrv' (by omega) (owed_ok W) fun h₈ tk₈ H₈ => ?_
     · have h1 := eAt_come ws 4 i (W.len ▸ hi)
       have h2 := last_lt W
       omega
     · have := W.short i (W.len ▸ hi)
       omega
     clear H₇
     repeat' walk_at "go"
     refine whole_spec (n := 6) C H₈ (hw H₈ hm) W.len (fun i hi => ⟨?_, ?_⟩) (H₈.get (.tail _ (.head _))) htv' (by omega) (ends_ok W) (good_all W (last_lt W)) fun h₉ tk₉ H₉ => ?_
     · have := W.soon i (W.len ▸ hi)
       omega
     · have := W.short i (W.len ▸ hi)
       omega
     clear H₈
     repeat' walk_at "go"
     exact ⟨law_good (fun b o e => H₉.old e) (by assumption), ⟨pt, H₉.get (.tail _ (.tail _ (.tail _ (.head _))))⟩, trivial⟩))

theorem PySem.Challenge.cw_wk0011_01_holds : PySem.Challenge.rw_wk0011_01.Holds := by
  exact Mine.law_all
