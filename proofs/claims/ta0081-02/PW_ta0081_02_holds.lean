import PyProof.Rows.All
import Wide.All
import OpenK.AllK
import Wide.FinOn
import PySem.Challenge.RW_ta0081_02
set_option linter.all false
open PySem PySem.W PyProof.Rows
set_option Elab.async false
set_option maxRecDepth 100000
set_option maxHeartbeats 8000000
namespace Mine
def pick (l : List Stmt) (ks : List Nat) : List Stmt := ks.filterMap fun k => l[k]?
def viewOf (p : Program) (ks : List Nat) : Program := { p with main := { p.main with body := pick p.main.body ks } }
def view : Program := viewOf PySem.Challenge.rw_ta0081_02.row.prog [0, 1, 3, 5, 7, 8, 9, 11, 13, 14, 15, 16, 17]
theorem viewEq : view = viewOf PySem.Challenge.rw_ta0081_02.row.prog [0, 1, 3, 5, 7, 8, 9, 11, 13, 14, 15, 16, 17] := rfl
def loose : List PySem.Str := [PySem.Str.ofString "Whitespace", PySem.Str.ofString "tspecials", PySem.Str.ofString "_name_disallowed_re", PySem.Str.ofString "_value_disallowed_re", PySem.Str.ofString "_formatparam"]
theorem said : OpenLaw.wellSaid PySem.Challenge.rw_ta0081_02 = true := by decide +kernel
local macro_rules | `(tactic| o_law) => `(tactic| refine holds_law Mine.said fun said => ?_)
local macro_rules | `(tactic| k_qdec) => `(tactic| decide +kernel)
theorem ofSplit {p q : Program} {loose : List PySem.Str} {Xt : Shared → Bool} {α : Type} {Yf : Shared → α} {Ya : World → α} {N : Nat} {g0 : Bool} (row : String)
    (h1 : ∀ w : World, (fencedOpening treeTable p w N).map (fun s₀ => (topFrom treeTable p (w.withFollow row false) N s₀).map (fun s => (openSeen q loose (importedModules p.main.body) Xt g0 s, Yf s))) = some (some (openGood q loose, Ya (w.withFollow row false))))
    (h2 : ∀ w : World, (fencedOpening treeTable p w N).map (fun s₀ => (topFrom treeTable p (w.withFollow row true) N s₀).map (fun s => (openSeen q loose (importedModules p.main.body) Xt g0 s, Yf s))) = some (some (openGood q loose, Ya (w.withFollow row true)))) :
    LeftO p q loose Xt Yf Ya N g0 := by
  refine LeftO.of_split row fun w => ?_
  have e1 := h1 w
  have e2 := h2 w
  cases hx : fencedOpening treeTable p w N with
  | none => rw [hx] at e1; cases e1
  | some s =>
    rw [hx, Option.map_some] at e1 e2
    rw [Option.map_some, Option.some.inj e1, Option.some.inj e2]
section
local macro_rules | `(tactic| o_head $H) => `(tactic| (have hook := $H; clear hook; assumption))
theorem frag (h : PySem.Challenge.rw_ta0081_02.row.Holds) : PySem.Challenge.rw_ta0081_02.row.Holds := by k_head
end
def addrs : List Addr := [2, 3, 32, 34, 35, 37, 38, 39, 41, 42, 44, 45, 56, 58, 59, 61, 62, 63, 65, 66, 68, 69, 70, 72, 73, 75, 76, 77, 79, 80, 82, 83, 84, 86, 87, 89, 90, 91, 93, 94, 96, 97, 98, 100, 101, 103, 104, 105, 106, 107, 108, 109, 115, 116, 120, 121, 125, 126, 127, 128, 130, 131, 133, 134, 142, 143, 145, 146, 148, 149, 150, 152, 153, 155, 156, 157, 159, 160, 162, 163, 164, 166, 167, 169, 170, 171, 174, 175, 176, 178, 179, 181, 182, 183, 185, 186, 188, 189, 190, 193, 194, 195, 196, 198, 199, 201, 202, 203, 206, 207, 208, 211, 212, 213, 215, 216, 218, 219, 220, 222, 223, 225, 226, 227, 230, 231, 232, 234, 235, 237, 238, 239, 241, 242, 244, 245, 246, 248, 249, 251, 252, 253, 254, 255, 256, 257, 260, 262, 263, 265, 266, 267, 269, 270, 272, 273, 274, 276, 277, 279, 280, 281, 283, 284, 286, 287, 288, 291, 292]
theorem addrsOk (P : Params) : addrs = (Mine.frag.heap_1 P).map (·.1) := by kernel_rfl
noncomputable abbrev hook : Hook := kHook Mine.frag.heap_1 addrs addrsOk
abbrev seenX : Shared → Bool := fun s => xlAt view [] s && recOk (RowW.records (OpenRow.toRowW PySem.Challenge.rw_ta0081_02.row)) s
abbrev Half (b : Bool) : Prop := ∀ w : World, (fencedOpening treeTable PySem.Challenge.rw_ta0081_02.row.prog w 3564).map (fun s₀ => (topFrom treeTable PySem.Challenge.rw_ta0081_02.row.prog (w.withFollow "special-get-raises" b) 3564 s₀).map (fun s => (openSeen view loose (importedModules PySem.Challenge.rw_ta0081_02.row.prog.main.body) seenX true s, hook.obs s))) = some (some (openGood view loose, hook.val (w.withFollow "special-get-raises" b)))
theorem halfF : Half false := by
  unfold Half seenX
  rw [viewEq, PySem.W.Fast.te14364793385576792824, PySem.W.Fast.te4187177175401517315, PySem.W.Fast.te5923862056798008813]
  intro w
  kernel_rfl
theorem halfT : Half true := by
  unfold Half seenX
  rw [viewEq, PySem.W.Fast.te14364793385576792824, PySem.W.Fast.te4187177175401517315, PySem.W.Fast.te5923862056798008813]
  intro w
  kernel_rfl
theorem left : LeftO PySem.Challenge.rw_ta0081_02.row.prog view loose seenX hook.obs hook.val 3564 true := ofSplit "special-get-raises" halfF halfT
local macro_rules | `(tactic| k_head) => `(tactic|
  refine holds_open (q := Mine.view) (loose := Mine.loose) (Xt := fun s => xlAt Mine.view [] s && recOk (RowW.records (OpenRow.toRowW PySem.Challenge.rw_ta0081_02.row)) s) (XP := XL Mine.view []) (Yf := Hook.obs (kHook Mine.frag.heap_1 Mine.addrs Mine.addrsOk)) (Ya := Hook.val (kHook Mine.frag.heap_1 Mine.addrs Mine.addrsOk)) (YP := Hook.says (kHook Mine.frag.heap_1 Mine.addrs Mine.addrsOk)) (N := 3564) Mine.left (Hook.of (kHook Mine.frag.heap_1 Mine.addrs Mine.addrsOk)) (Hook.keeps (kHook Mine.frag.heap_1 Mine.addrs Mine.addrsOk)) (fun s e => xl_of s (Bool.and_eq_true_iff.mp e).1) XL.keeps (by rfl) (by rfl) (by rfl) (fun s e => recFacts_of (Bool.and_eq_true_iff.mp e).2) (by rfl) (by first | assumption | decide +kernel) (by decide +kernel) ⟨rfl, rfl, rfl, rfl, rfl, by decide +kernel⟩ ?hw ?hc)
open_top hd for PySem.Challenge.rw_ta0081_02
end Mine
namespace Mine
open PySem.Calls
local macro_rules | `(tactic| k_qdec) => `(tactic| decide +kernel)
section B0s
/-- no exception comes out -/
abbrev NoE : Value → Shared → Prop := fun _ _ => False

/-- a wider surround serves a narrower one -/
theorem lift_A {α : Type} {M : Model} {A A' : Around} {t : Sem α} {Q : α → Shared → Prop} {E : Value → Shared → Prop} {s : Shared}
    (h : wpAny M A t Q E s) (hh : A.handled = A'.handled) (hd : A'.depth ≤ A.depth) (hu : A'.units ≤ A.units) (hf : A.frames = none) (hg : A.guards = none) :
    wpAny M A' t Q E s := by
  intro Γ p hΓ
  obtain ⟨a, b, c, d, e⟩ := hΓ
  refine h Γ p ?_
  refine ⟨a.trans hh.symm, Nat.le_trans b hd, ?_, ?_, Nat.le_trans e hu⟩
  · intro l hl
    rw [hf] at hl
    cases hl
  · intro l hl
    rw [hg] at hl
    cases hl

/-- the surround of level k -/
abbrev AC (k : Nat) : Around := { handled := none, depth := 300 + 20 * k, frames := none, guards := none, units := 1000 * k }

def Stop (P : Prop) : Prop := P
theorem stop {P : Prop} (h : Stop P) : P := h

/-- all stays but what stands at these places -/
def SB (h h' : Heap) (xs : List Addr) : Prop := ∀ b o, h.get? b = some o → b ∉ xs → h'.get? b = some o

theorem enter {K : Frag} {prog : Program} {w : World} {s : Shared} {A : Around} {f : Addr} {args : Args} {name qual : PySem.Str} {params : Arguments} {body : List Stmt} {scope : Scope}
    {dV kV doc pm cdv ct oc : Value} {an od : Option Addr} {osl : Array (Option Value)} {binds : List (PySem.Str × Value)} {R : Result → Shared → Prop}
    {h₀ : Heap} {p : Program} {loose : List PySem.Str} {mean : ExcName → Option Value} {mg mb : PySem.Str → Option Value} {news : List (Addr × Obj)}
    (X : K.In h₀) (T : Top p loose mean mg mb h₀) (hk : h₀.StaysIn s.heap) (hn : ∀ q ∈ news, s.heap.get? q.1 = some q.2 ∧ h₀.get? q.1 = none)
    (ho : K.lookup f = some ⟨oc, od, .func (fnOf name qual params body scope dV kV doc pm an cdv ct), osl⟩) (hcd : codeIn K cdv qual = true) (hroom : A.depth < recursionLimit)
    (hbind : BindsTo s (fnOf name qual params body scope dV kV doc pm an cdv ct) args binds) (hloc : ∀ y ∈ binds, scope.names.lookup y.1 = some .local)
    (h : ∀ g L h₁, h₀.StaysIn g → SB s.heap g (news.map (·.1)) → Fr g L h₁ (fun y => binds.reverse.lookup y) → News g L h₁ news → K.In g → Top p loose mean mg mb g →
      wpAny (model prog w) (A.deeper (envOf qual scope L f cdv)) (execs body (envOf qual scope L f cdv))
        (fun fl s' => R (.ok (.ret (match fl with | .ret v => v | _ => .none))) s') NoE { s with heap := h₁, toks := s.toks + binds.length })
    (hco : scope.isCoroutine = false) (hgen : scope.isGenerator = false) (hkd : scope.kind = .function) (hcell : ∀ x ∈ scope.names, x.2 ≠ .cell) :
    codeAny (model prog w) A (.call (.ref f) args) R s := by
  have Xs : K.In s.heap := X.keeps hk
  have nm : ∀ b o, h₀.get? b = some o → b ∉ news.map (·.1) := fun b o e q => by
    obtain ⟨p, hp, rfl⟩ := List.mem_map.mp q
    rw [(hn p hp).2] at e; cases e
  have st : h₀.StaysIn (hideAll s.heap (news.map (·.1))) := fun b o e => hideAll_get _ (hk b o e) (nm b o e)
  refine codeAny_call_def (fd := fnOf name qual params body scope dV kV doc pm an cdv ct) (body := body) (binds := binds) hroom (Xs _ _ ho) rfl (T.nolimit.keeps hk) (codeRec_of Xs hcd) rfl hbind hcell hloc (fun h₁ hns hk₁ => ?_) hco hgen hkd
  refine wpAny_mono (h (hideAll s.heap (news.map (·.1))) _ h₁ st (fun b o e hb => hideAll_get _ e hb) ⟨hns, fun b o e => hk₁ b o (of_hideAll _ e), Nat.le_of_eq (hideAll_size _ _)⟩ ?_ (X.keeps fun b o e => st b o e) (T.keeps fun b o e => st b o e)) (fun fl s' hq => hq) fun _ _ e => e.elim
  intro q hq
  exact ⟨hk₁ _ _ (hn q hq).1, Nat.ne_of_lt (Heap.lt_size (hn q hq).1), hideAll_none _ (List.mem_map_of_mem hq)⟩
theorem lift_C {M : Model} {A A' : Around} {c : Code} {R : Result → Shared → Prop} {s : Shared}
    (h : codeAny M A c R s) (hh : A.handled = A'.handled) (hd : A'.depth ≤ A.depth) (hu : A'.units ≤ A.units) (hf : A.frames = none) (hg : A.guards = none) :
    codeAny M A' c R s := by
  intro Γ p hc hΓ
  obtain ⟨a, b, c, d, e⟩ := hΓ
  refine h Γ p hc ?_
  refine ⟨a.trans hh.symm, Nat.le_trans b hd, ?_, ?_, Nat.le_trans e hu⟩
  · intro l hl
    rw [hf] at hl
    cases hl
  · intro l hl
    rw [hg] at hl
    cases hl
theorem fr_stay {h₀ h h' : Heap} {L : Addr} {m : PySem.Str → Option Value} (F : Fr h₀ L h m) (k : h.StaysIn h') : Fr h₀ L h' m :=
  ⟨F.ns.keeps k, fun b o e => k _ _ (F.keep b o e), F.above⟩
theorem news_stay {h₀ h h' : Heap} {L : Addr} {news : List (Addr × Obj)} (N : News h₀ L h news) (k : h.StaysIn h') : News h₀ L h' news :=
  fun p hp => ⟨k _ _ (N p hp).1, (N p hp).2⟩

/-- how a turn of a while may end -/
def WEnd (n : Nat) (I : Nat → Shared → Prop) (s : Shared) : Prop := ∃ m, m < n ∧ I m s
section
variable {prog : Program} {w : World} {A : Around} {s : Shared} {env : Env} {Q : Flow → Shared → Prop}
theorem while_rule {test : PySem.Expr} {body : List Stmt} {pos : Pos} (I : Nat → Shared → Prop) (n : Nat) (h0 : I n s)
    (turn : ∀ n s, I n s → wpAny (model prog w) A (isTrue test env (eval test env)) (fun b s₂ => if b then wpAny (model prog w) A (execs body env) (fun f s₃ => match f with
        | .next | .cont => WEnd n I s₃
        | .brk => Q .next s₃
        | .ret v => Q (.ret v) s₃) NoE s₂ else Q .next s₂) NoE s) :
    wpAny (model prog w) A (exec (.While test body [] pos) env) Q NoE s := by
  refine wpAny_While (codeAny_whileLoop I (fun n s hI => ?_) n h0)
  refine wpAny_mono (turn n s hI) (fun b s₂ h₂ => ?_) fun _ _ e => e.elim
  cases b with
  | true =>
    refine wpAny_mono h₂ (fun f s₃ h₃ => ?_) fun _ _ e => e.elim
    cases f <;> exact h₃
  | false => exact wpAny_execs_nil h₂
end

/-- names that a frame holds, ahead of whatever else it holds -/
def bd : List (PySem.Str × Value) → (PySem.Str → Option Value) → PySem.Str → Option Value
  | [], u, y => u y
  | p :: r, u, y => if y = p.1 then some p.2 else bd r u y
def lks (m : PySem.Str → Option Value) : List (PySem.Str × Value) → Prop
  | [] => True
  | p :: r => m p.1 = some p.2 ∧ lks m r
theorem bd_eq {m : PySem.Str → Option Value} : ∀ {l : List (PySem.Str × Value)}, lks m l → bd l m = m
  | [], _ => rfl
  | p :: r, h => by
    funext y
    show (if y = p.1 then some p.2 else bd r m y) = m y
    by_cases e : y = p.1
    · rw [if_pos e, e, h.1]
    · rw [if_neg e, bd_eq h.2]
theorem fr_bd {h₀ h : Heap} {L : Addr} {m : PySem.Str → Option Value} (F : Fr h₀ L h m) (l : List (PySem.Str × Value)) (e : lks m l) : Fr h₀ L h (bd l m) := by
  rw [bd_eq e]; exact F


/-- how a turn of a for may end -/
def FEnd (s : Shared) (h₀ : Heap) (L I : Addr) (o : Obj) (J Jx : (PySem.Str → Option Value) → List (Addr × Obj) → Prop) (Q : Flow → Shared → Prop) (f : Flow) (s₂ : Shared) : Prop :=
  match f with
  | .ret v => Q (.ret v) s₂
  | .brk => ∃ h' tk m' news', s₂ = { s with heap := h', toks := tk } ∧ Fr h₀ L h' m' ∧ News h₀ L h' news' ∧ Jx m' news'
  | _ => ∃ h' tk m' news', s₂ = { s with heap := h', toks := tk } ∧ Fr h₀ L h' m' ∧ News h₀ L h' ((I, o) :: news') ∧ (∀ p ∈ news', p.1 ≠ I) ∧ J m' news'

section
variable {prog : Program} {w : World} {A : Around} {s : Shared} {env : Env} {Q : Flow → Shared → Prop}

theorem for_led {h₀ : Heap} {target : PySem.Expr} {body : List Stmt} {I : Addr} {fp wr : List Addr} {n : Nat} {P : Nat → Value → Prop} {St : Nat → Heap → Prop} {m₀ : PySem.Str → Option Value} {news₀ kl : List (Addr × Obj)}
    (W : Walks prog w A I fp wr n P St) (hIf : I ∈ fp) (hfp : ∀ b ∈ fp, b = I ∨ (∃ q, h₀.get? b = some q) ∨ (∃ q, (b, q) ∈ kl)) (hI0 : h₀.get? I = none) (hIL : env.locals ≠ I) (hwr : ∀ b ∈ wr, b = I)
    (hob : ∀ i h, St i h → ∃ o, h.get? I = some o)
    (hgo : ∀ i (s' : Shared) v (Q' : Unit → Shared → Prop), St i s'.heap → Q' () s' → wpAny (model prog w) A (letOwnedTupleGo target (.ref I) v) Q' NoE s')
    (J : Nat → (PySem.Str → Option Value) → List (Addr × Obj) → Prop) (Jx : (PySem.Str → Option Value) → List (Addr × Obj) → Prop) (hkl : ∀ i m news, J i m news → ∀ p ∈ kl, p ∈ news)
    (h0 : J 0 m₀ news₀) (hst : St 0 s.heap) (F : Fr h₀ env.locals s.heap m₀) (N : News h₀ env.locals s.heap news₀) (hnI : ∀ p ∈ news₀, p.1 ≠ I)
    (turn : ∀ i v m₁ news₁ h tk o, i < n → P i v → J i m₁ news₁ → (∀ p ∈ news₁, p.1 ≠ I) → Fr h₀ env.locals h m₁ → News h₀ env.locals h ((I, o) :: news₁) →
      wpAny (model prog w) A (assign target env v) (fun _ s₂ => wpAny (model prog w) A (execs body env) (FEnd s h₀ env.locals I o (J (i + 1)) Jx Q) NoE s₂) NoE { s with heap := h, toks := tk })
    (hJx : ∀ m news, J n m news → Jx m news)
    (done : ∀ h tk m₁ news₁, Jx m₁ news₁ → Fr h₀ env.locals h m₁ → News h₀ env.locals h news₁ → Q .next { s with heap := h, toks := tk }) :
    codeAny (model prog w) A (.forLoop target (.ref I) body [] env) (fun r s' => match r with | .ok f => Q f s' | .error _ => False) s := by
  have hLw : env.locals ∉ wr := fun h => hIL (hwr _ h)
  have old : ∀ b o, h₀.get? b = some o → b ∉ wr := fun b o e hb => by rw [hwr b hb, hI0] at e; cases e
  refine codeAny_forLoop_any
    (fun k s' => ∃ h' tk m' news' i, s' = { s with heap := h', toks := tk } ∧ St i h' ∧ Fr h₀ env.locals h' m' ∧ News h₀ env.locals h' news' ∧ (∀ p ∈ news', p.1 ≠ I) ∧ J i m' news' ∧ i ≤ n ∧ k = n + 1 - i) ?_ (n + 1)
    ⟨s.heap, s.toks, m₀, news₀, 0, rfl, hst, F, N, hnI, h0, Nat.zero_le _, rfl⟩
  rintro k s' ⟨h', tk, m', news', i, rfl, hst', F', N', hnw', hJ, hi, rfl⟩
  have next : ∀ h₁ : Heap, (∀ b o, b ∉ wr → h'.get? b = some o → h₁.get? b = some o) → Fr h₀ env.locals h₁ m' ∧ News h₀ env.locals h₁ news' := fun h₁ hk₁ =>
    ⟨⟨F'.ns.at' fun o e => hk₁ _ o hLw e, fun b o e => hk₁ b o (old b o e) (F'.keep b o e), F'.above⟩, fun p hp => ⟨hk₁ _ _ (fun hb => hnw' p hp (hwr _ hb)) (N' p hp).1, (N' p hp).2⟩⟩
  by_cases hlt : i < n
  · refine W.item i _ _ _ hlt hst' fun v h₁ tk₁ hP hst₁ hk₁ => ?_
    obtain ⟨F₁, N₁⟩ := next h₁ hk₁
    obtain ⟨o, ho⟩ := hob _ _ hst₁
    have Nown : News h₀ env.locals h₁ ((I, o) :: news') := by
      intro p hp
      rcases List.mem_cons.mp hp with rfl | hp
      · exact ⟨ho, Ne.symm hIL, hI0⟩
      · exact N₁ p hp
    refine wpAny_mono (hgo (i + 1) _ v (fun _ s₁' => wpAny (model prog w) A (assign target env v) (fun _ s₂ => wpAny (model prog w) A (execs body env) (FEnd s h₀ env.locals I o (J (i + 1)) Jx Q) NoE s₂) NoE s₁') hst₁ (turn i v m' news' h₁ tk₁ o hlt hP hJ hnw' F₁ Nown)) (fun _ s₁' h₁' => ?_) fun _ _ e => e.elim
    refine wpAny_mono h₁' (fun _ s₂ h₂ => wpAny_mono h₂ (fun f s₃ h₃ => ?_) fun _ _ e => e.elim) fun _ _ e => e.elim
    have fin : (∃ h' tk m' news', s₃ = { s with heap := h', toks := tk } ∧ Fr h₀ env.locals h' m' ∧ News h₀ env.locals h' ((I, o) :: news') ∧ (∀ p ∈ news', p.1 ≠ I) ∧ J (i + 1) m' news') →
        ∃ m, m < n + 1 - i ∧ ∃ h' tk m' news' j, s₃ = { s with heap := h', toks := tk } ∧ St j h' ∧ Fr h₀ env.locals h' m' ∧ News h₀ env.locals h' news' ∧ (∀ p ∈ news', p.1 ≠ I) ∧ J j m' news' ∧ j ≤ n ∧ m = n + 1 - j := by
      rintro ⟨h₃', tk₃, m₂, news₂, rfl, F₃, N₃, hn₃, hJ₃⟩
      refine ⟨n + 1 - (i + 1), by omega, h₃', tk₃, m₂, news₂, i + 1, rfl, ?_, F₃, fun p hp => N₃ p (.tail _ hp), hn₃, hJ₃, hlt, rfl⟩
      refine W.frame _ _ _ hst₁ fun b hb o' e => ?_
      rcases hfp b hb with hbI | ⟨q, hq⟩ | ⟨q, hq⟩
      · subst hbI
        have : o' = o := Option.some.inj (e.symm.trans ho)
        exact this ▸ (N₃ _ (.head _)).1
      · have : q = o' := Option.some.inj ((F₁.keep b q hq).symm.trans e)
        exact this ▸ F₃.keep b q hq
      · have h1 := (N₁ _ (hkl _ _ _ hJ _ hq)).1
        have : q = o' := Option.some.inj (h1.symm.trans e)
        exact this ▸ (N₃ _ (.tail _ (hkl _ _ _ hJ₃ _ hq))).1
    cases f with
    | ret v => exact h₃
    | brk =>
      obtain ⟨h₃', tk₃, m₂, news₂, rfl, F₃, N₃, hJ₃⟩ := h₃
      exact done h₃' tk₃ m₂ news₂ hJ₃ F₃ N₃
    | cont => exact fin h₃
    | next => exact fin h₃
  · have hin : i = n := by omega
    subst hin
    refine W.done _ _ _ hst' fun h₁ tk₁ hk₁ => wpAny_execs_nil ?_
    obtain ⟨F₁, N₁⟩ := next h₁ hk₁
    exact done h₁ tk₁ m' news' (hJx _ _ hJ) F₁ N₁

/-- what stands behind the iterator's making -/
abbrev ForOn (prog : Program) (w : World) (A : Around) (target : PySem.Expr) (body : List Stmt) (env : Env) (Q : Flow → Shared → Prop) (it : Value) (s₂ : Shared) : Prop :=
  codeAny (model prog w) A (.forLoop target it body [] env) (fun r s' => match r with | .ok f => Q f s' | .error _ => False) s₂

theorem For_led {target iter : PySem.Expr} {body : List Stmt} {pos : Pos}
    (h : wpAny (model prog w) A (eval iter env) (fun xv s₁ => wpAny (model prog w) A (pyIter xv) (ForOn prog w A target body env Q) NoE s₁) NoE s)
    (hs : ∀ x, foldedSetIterable iter env x = pure x) :
    wpAny (model prog w) A (exec (.For target iter body [] pos) env) Q NoE s := by
  refine wpAny_For (wpAny_mono h (fun xv s₁ h₁ => wpAny_mono h₁ (fun it s₂ h₂ => ?_) fun _ _ e => e) fun _ _ e => e) hs
  refine codeAny_mono h₂ fun r s' hr => ?_
  cases r with
  | ok f => exact hr
  | error e => exact hr.elim

theorem letGo_striter {target : PySem.Expr} {I : Addr} {x : PySem.Str} {t : Tok} {i : Nat} {v : Value} {Q' : Unit → Shared → Prop} {s' : Shared} (hit : s'.heap.IsStrIter I "str_ascii_iterator" x t i) (h : Q' () s') :
    wpAny (model prog w) A (letOwnedTupleGo target (.ref I) v) Q' NoE s' := by
  obtain ⟨o, ho, hc, hd⟩ := hit
  unfold letOwnedTupleGo
  cases target <;> first
    | exact wpAny_pure h
    | (cases v <;> first
        | exact wpAny_pure h
        | (refine wpAny_bind (wpAny_load ho ?_)
           rw [hc, hd]
           exact wpAny_pure h))

theorem for_str {h₀ : Heap} {target : PySem.Expr} {body : List Stmt} {ws : PySem.Str} {t : Tok} {m₀ : PySem.Str → Option Value} {news₀ : List (Addr × Obj)}
    (ha : ws.cps.all (· < 128) = true) (hh : A.handled = none) (F : Fr h₀ env.locals s.heap m₀) (N : News h₀ env.locals s.heap news₀)
    (J : Nat → (PySem.Str → Option Value) → List (Addr × Obj) → Prop) (Jx : (PySem.Str → Option Value) → List (Addr × Obj) → Prop) (h0 : J 0 m₀ news₀)
    (turn : ∀ i c u m₁ news₁ h tk I o, ws.cps[i]? = some c → J i m₁ news₁ → (∀ p ∈ news₁, p.1 ≠ I) → Fr h₀ env.locals h m₁ → News h₀ env.locals h ((I, o) :: news₁) →
      wpAny (model prog w) A (assign target env (.str ⟨#[c]⟩ u)) (fun _ s₂ => wpAny (model prog w) A (execs body env) (FEnd s h₀ env.locals I o (J (i + 1)) Jx Q) NoE s₂) NoE { s with heap := h, toks := tk })
    (hJx : ∀ m news, J ws.cps.size m news → Jx m news)
    (done : ∀ h tk m₁ news₁, Jx m₁ news₁ → Fr h₀ env.locals h m₁ → News h₀ env.locals h news₁ → Q .next { s with heap := h, toks := tk }) :
    wpAny (model prog w) A (pyIter (.str ws t)) (ForOn prog w A target body env Q) NoE s := by
  have nn : ∀ p ∈ news₀, p.1 ≠ s.heap.objs.size := fun p hp e => absurd (Heap.lt_size (N p hp).1) (by rw [e]; exact Nat.lt_irrefl _)
  refine wpAny_pyIter_ascii ha ?_
  refine for_led (kl := []) (Walks.strAscii hh _ ws t) (.head _) (fun b hb => .inl (List.mem_singleton.mp hb)) (next_is_new F) (Nat.ne_of_lt F.ns.lt) (fun b hb => List.mem_singleton.mp hb) (fun i h hs => ?_) (fun i s' v Q' st hq => letGo_striter st hq)
    J Jx (fun _ _ _ _ p hp => nomatch hp) h0 ⟨_, Heap.get?_push_size _ rfl, rfl, rfl⟩ (F.push _) (fun p hp => ⟨Heap.get?_push_of_some _ (N p hp).1, (N p hp).2⟩) nn ?_ hJx done
  · obtain ⟨o, ho, _⟩ := hs
    exact ⟨o, ho⟩
  · rintro i v m₁ news₁ h tk o hi ⟨c, u, hc, rfl⟩ hJ hnI F₁ N₁
    exact turn i c u m₁ news₁ h tk _ o hc hJ hnI F₁ N₁

theorem letGo_rangeiter {target : PySem.Expr} {I : Addr} {a b c : Int} {v : Value} {Q' : Unit → Shared → Prop} {s' : Shared} (hit : IsRangeIter s'.heap I a b c) (h : Q' () s') :
    wpAny (model prog w) A (letOwnedTupleGo target (.ref I) v) Q' NoE s' := by
  unfold letOwnedTupleGo
  cases target <;> first
    | exact wpAny_pure h
    | (cases v <;> first
        | exact wpAny_pure h
        | (refine wpAny_bind (wpAny_load hit ?_)
           exact wpAny_pure h))

theorem for_range {h₀ : Heap} {target : PySem.Expr} {body : List Stmt} {r : Addr} {a b c : Int} {t u v : Tok} {n : Nat} {m₀ : PySem.Str → Option Value} {news₀ : List (Addr × Obj)}
    (hr : IsRange s.heap r a b c t u v) (hsmall : Builtin.Range.small a b c = true) (hn : Builtin.Range.rangeSize a b c = (n : Int)) (hh : A.handled = none) (F : Fr h₀ env.locals s.heap m₀) (N : News h₀ env.locals s.heap news₀)
    (J : Nat → (PySem.Str → Option Value) → List (Addr × Obj) → Prop) (Jx : (PySem.Str → Option Value) → List (Addr × Obj) → Prop) (h0 : J 0 m₀ news₀)
    (turn : ∀ (i : Nat) u m₁ news₁ h tk I o, i < n → J i m₁ news₁ → (∀ p ∈ news₁, p.1 ≠ I) → Fr h₀ env.locals h m₁ → News h₀ env.locals h ((I, o) :: news₁) →
      wpAny (model prog w) A (assign target env (.int (a + i * c) u)) (fun _ s₂ => wpAny (model prog w) A (execs body env) (FEnd s h₀ env.locals I o (J (i + 1)) Jx Q) NoE s₂) NoE { s with heap := h, toks := tk })
    (hJx : ∀ m news, J n m news → Jx m news)
    (done : ∀ h tk m₁ news₁, Jx m₁ news₁ → Fr h₀ env.locals h m₁ → News h₀ env.locals h news₁ → Q .next { s with heap := h, toks := tk }) :
    wpAny (model prog w) A (pyIter (.ref r)) (ForOn prog w A target body env Q) NoE s := by
  have nn : ∀ p ∈ news₀, p.1 ≠ s.heap.objs.size := fun p hp e => absurd (Heap.lt_size (N p hp).1) (by rw [e]; exact Nat.lt_irrefl _)
  refine wpAny_pyIter_range hr hsmall ?_
  refine for_led (kl := []) (Walks.range hh _ a c n) (.head _) (fun b hb => .inl (List.mem_singleton.mp hb)) (next_is_new F) (Nat.ne_of_lt F.ns.lt) (fun b hb => List.mem_singleton.mp hb) (fun i h hs => ⟨_, hs⟩) (fun i s' v Q' st hq => letGo_rangeiter st hq)
    J Jx (fun _ _ _ _ p hp => nomatch hp) h0 (by show IsRangeIter _ _ _ _ _; rw [hn]; simpa using Heap.get?_push_size _ rfl) (F.push _) (fun p hp => ⟨Heap.get?_push_of_some _ (N p hp).1, (N p hp).2⟩) nn ?_ hJx done
  rintro i v m₁ news₁ h tk o hi ⟨u, rfl⟩ hJ hnI F₁ N₁
  exact turn i u m₁ news₁ h tk _ o hi hJ hnI F₁ N₁

end

def bump (cnt : List Int) (b : Int) : List Int :=
  let c := if (cnt.length : Int) ≤ b then cnt ++ (List.replicate (b - cnt.length + 1).toNat [0]).flatten else cnt
  c.set b.toNat (c.getD b.toNat 0 + 1)
def wsRun : List Nat → List Int → Int → Int → Int → List Int × Int × Int × Int
  | [], cnt, b, n, nt => (cnt, b, n, nt)
  | c :: r, cnt, b, n, nt => if c = 32 then wsRun r cnt (b + 1) (n + 1) nt else if c = 9 then wsRun r (bump cnt b) 0 (n + 1) (nt + 1) else (cnt, b, n, nt)
theorem flat_len (k : Nat) : (List.replicate k [(0 : Int)]).flatten.length = k := by
  induction k with
  | zero => rfl
  | succ k ih => rw [List.replicate_succ, List.flatten_cons, List.length_append, ih]; simp; omega
theorem bump_len {cnt : List Int} {b : Int} {i : Nat} (hb : b ≤ (i : Int)) (hc : cnt.length ≤ i) : (bump cnt b).length ≤ i + 1 := by
  unfold bump
  simp only [List.length_set]
  split
  · rw [List.length_append, flat_len]; omega
  · omega
theorem ws_step {ws : PySem.Str} {i c : Nat} {cnt : List Int} {b n nt : Int} {W : List Int × Int × Int × Int} (hc : ws.cps[i]? = some c) (hr : wsRun (ws.cps.toList.drop i) cnt b n nt = W) :
    (if c = 32 then wsRun (ws.cps.toList.drop (i + 1)) cnt (b + 1) (n + 1) nt else if c = 9 then wsRun (ws.cps.toList.drop (i + 1)) (bump cnt b) 0 (n + 1) (nt + 1) else (cnt, b, n, nt)) = W := by
  rw [← hr]
  have h : ws.cps.toList.drop i = c :: ws.cps.toList.drop (i + 1) := by
    have h2 : ws.cps.toList[i]? = some c := by simpa using hc
    obtain ⟨hl, he⟩ := List.getElem?_eq_some_iff.mp h2
    rw [List.drop_eq_getElem_cons hl, he]
  rw [h]
  rfl
theorem sgn_of {c k : Nat} {x : PySem.Str} (e : x = ⟨#[k]⟩) {r : Bool} (h : ((⟨#[c]⟩ : PySem.Str) == x) = r) : r = decide (c = k) := by
  rw [← h, e]
  by_cases q : c = k
  · subst q; simp
  · have : ¬ ((⟨#[c]⟩ : PySem.Str) = ⟨#[k]⟩) := by
      intro z
      injection z with z
      simp at z
      exact q z
    simp [this, q]

/-- what the ledger asks of the ground and the heap -/
def Has (h₀ h : Heap) (led : List (Addr × Obj)) : Prop := ∀ q ∈ led, h.get? q.1 = some q.2 ∧ h₀.get? q.1 = none
def AllAbove (news led : List (Addr × Obj)) : Prop := ∀ p ∈ news, ∀ q ∈ led, @LT.lt Nat _ p.1 q.1
abbrev tupO (vs : List Value) : Obj := { cls := .type "tuple", data := .seq vs.toArray }

section
variable {prog : Program} {w : World} {A : Around} {E : Value → Shared → Prop} {s : Shared} {h₀ : Heap} {L l : Addr} {m : PySem.Str → Option Value} {news : List (Addr × Obj)}
theorem my_tuple {vs : List Value} {k : Nat} {Q : Value → Shared → Prop} (F : Fr h₀ L s.heap m) (N : News h₀ L s.heap news) (hm : (l, listOf vs.toArray k) ∈ news) (hz : vs.length ≤ 16777216)
    (h : ∀ D h', Fr h₀ L h' m → News h₀ L h' ((D, tupO vs) :: news) → (∀ p ∈ news, p.1 < D) → Q (.ref D) { s with heap := h' }) :
    wpAny (model prog w) A (call (.type "tuple") [.ref l]) Q E s := by
  refine call_tuple_list ⟨_, (N _ hm).1, rfl, k, rfl⟩ (fun h' hk => ?_) (by rw [List.size_toArray, sizeLine_eq]; exact hz)
  have F' : Fr h₀ L h' m := F.keeps hk
  have N' : News h₀ L h' news := fun p hp => ⟨hk _ _ (N p hp).1, (N p hp).2⟩
  exact h _ _ (F'.push _) (N'.push F' _) fun p hp => Heap.lt_size (N' p hp).1
end


abbrev strKey (P : Params) (x : PySem.Str) (t : Tok) (v : Value) : DictEntry := ⟨PyData.keyHash P x, .str x t, v⟩
/-- a Whitespace as it lies: its norm, its counts, itself, its names -/
abbrev wsObjs (P : Params) (C x dx tn tc : Addr) (ws : PySem.Str) (t tb tn' tnt k1 k2 k3 k4 k5 : Tok) (vs : List Value) (cnt : List Int) (b n nt : Int) : List (Addr × Obj) :=
  [(tn, tupO [.ref tc, .int b tb]), (tc, tupO vs), (x, instObj C dx),
   (dx, dictOf [strKey P "raw" k1 (.str ws t), strKey P "n" k2 (.int n tn'), strKey P "nt" k3 (.int nt tnt), strKey P "norm" k4 (.ref tn), strKey P "is_simple" k5 (.bool (decide ((cnt.length : Int) ≤ 1)))] 5)]
def AllNe (d : Nat) : List (Addr × Obj) → Prop
  | [] => True
  | p :: r => @Ne Nat p.1 d ∧ AllNe d r
theorem allNe_of {d : Addr} : ∀ {l : List (Addr × Obj)}, (∀ p ∈ l, p.1 ≠ d) → AllNe d l
  | [], _ => trivial
  | p :: _, h => ⟨h p (.head _), allNe_of fun q hq => h q (.tail _ hq)⟩
/-- the column of a lead that is told by its counts -/
def indIl (cnt : List Int) (size : Int) : Nat → Int
  | 0 => 0
  | k + 1 => indIl cnt size k + Int.fdiv (size + k) size * cnt.getD (size + k).toNat 0
def indent (cnt : List Int) (b nt size : Int) : Int := b + size * (indIl cnt size ((cnt.length : Int) - size).toNat + nt)


theorem bump_pos {cnt : List Int} {b : Int} (h : (cnt.length : Int) ≤ b) : (cnt ++ (List.replicate (b - cnt.length + 1).toNat [0]).flatten).set b.toNat ((cnt ++ (List.replicate (b - cnt.length + 1).toNat [0]).flatten).getD b.toNat 0 + 1) = bump cnt b := by
  unfold bump; rw [if_pos h]
theorem bump_neg {cnt : List Int} {b : Int} (h : ¬ (cnt.length : Int) ≤ b) : cnt.set b.toNat (cnt.getD b.toNat 0 + 1) = bump cnt b := by
  unfold bump; rw [if_neg h]
theorem has_of {h₀ g h : Heap} {L : Addr} {led : List (Addr × Obj)} (N : News g L h led) (hg : h₀.StaysIn g) : Has h₀ h led := fun q hq => ⟨(N q hq).1, by
  cases e : h₀.get? q.1 with
  | none => rfl
  | some o' =>
    have h1 := (N q hq).2.2
    rw [hg _ _ e] at h1
    cases h1⟩


theorem after_fr {h₀ h h' : Heap} {L : Addr} {m : PySem.Str → Option Value} {xs : List Addr} (F : Fr h₀ L h m) (hs : SB h h' xs) (hL : L ∉ xs) (h0 : ∀ b ∈ xs, h₀.get? b = none) : Fr h₀ L h' m := by
  obtain ⟨o, es, ep, ho, r⟩ := F.ns
  exact ⟨⟨o, es, ep, hs _ _ ho hL, r⟩, fun b o e => hs _ _ (F.keep b o e) (fun hb => by rw [h0 b hb] at e; cases e), F.above⟩
theorem after_news {h₀ h h' : Heap} {L : Addr} {news : List (Addr × Obj)} {xs : List Addr} (N : News h₀ L h news) (hs : SB h h' xs) (hn : ∀ p ∈ news, p.1 ∉ xs) : News h₀ L h' news :=
  fun p hp => ⟨hs _ _ (N p hp).1 (hn p hp), (N p hp).2⟩
theorem after_led {h₀ h' : Heap} {L : Addr} {led : List (Addr × Obj)} (H : Has h₀ h' led) (hL : ∀ q ∈ led, q.1 ≠ L) : News h₀ L h' led :=
  fun p hp => ⟨(H p hp).1, hL p hp, (H p hp).2⟩
theorem fr_ne {h₀ h : Heap} {L a : Addr} {m : PySem.Str → Option Value} (F : Fr h₀ L h m) (e : h.get? a = none) : a ≠ L := by
  obtain ⟨o, _, _, ho, _⟩ := F.ns
  rintro rfl
  rw [ho] at e; cases e
theorem news_ne {h₀ h : Heap} {L a : Addr} {news : List (Addr × Obj)} (N : News h₀ L h news) (e : h.get? a = none) : ∀ p ∈ news, p.1 ≠ a := by
  rintro p hp rfl
  rw [(N p hp).1] at e; cases e


theorem stays_of {h₀ h g h' : Heap} {L : Addr} {led : List (Addr × Obj)} (hs : SB h g (led.map (·.1))) (hn : Has h₀ h led) (k : ∀ b o, g.get? b = some o → h'.get? b = some o) (N : News g L h' led) : h.StaysIn h' := by
  intro b o e
  by_cases hb : b ∈ led.map (·.1)
  · obtain ⟨q, hq, rfl⟩ := List.mem_map.mp hb
    have h1 := (hn q hq).1
    rw [e] at h1
    rw [(N q hq).1, Option.some.inj h1]
  · exact k _ _ (hs _ _ e hb)
section
variable {prog : Program} {w : World} {A : Around} {E : Value → Shared → Prop} {s : Shared} {h₀ : Heap} {L l : Addr} {m : PySem.Str → Option Value} {news : List (Addr × Obj)}
theorem my_lenT {vs : List Value} {k : Nat} {Q : Value → Shared → Prop} (N : News h₀ L s.heap news) (hm : (l, tupO vs) ∈ news) (hz : vs.length = k) (hk : k ≤ 1000000)
    (h : Q (.int (k : Int) (s.toks + 1)) { s with toks := s.toks + 1 + 1 }) : wpAny (model prog w) A (call (.builtin "len") [.ref l]) Q E s := by
  have e : (vs.toArray.size : Int) = (k : Int) := by rw [List.size_toArray, hz]
  refine len_tuple (items := vs.toArray) ⟨_, (N _ hm).1, rfl, 0, rfl⟩ (by rw [e]; omega) ?_
  rw [e]; exact h
end


/-- a number's letters, sixteen of them, the first for nought -/
def apN (n : Nat) : List UInt8 := if _h : n = 0 then [] else apN (n / 16) ++ [UInt8.ofNat (65 + n % 16)]
termination_by n
decreasing_by omega
theorem apN_pos {n : Nat} (h : n ≠ 0) : apN n = apN (n / 16) ++ [UInt8.ofNat (65 + n % 16)] := by rw [apN, dif_neg h]
theorem apN_zero : apN 0 = [] := by rw [apN, dif_pos rfl]
abbrev APs : Array UInt8 := #[65, 66, 67, 68, 69, 70, 71, 72, 73, 74, 75, 76, 77, 78, 79, 80]
theorem ap_picked {i : Int} (h0 : 0 ≤ i) (h16 : i < 16) : KBy.picked APs (some i) (some (i + 1)) = #[UInt8.ofNat (65 + i.toNat)] := by
  have h : ∀ k : Fin 16, KBy.picked APs (some (k.val : Int)) (some ((k.val : Int) + 1)) = #[UInt8.ofNat (65 + k.val)] := by decide +kernel
  have := h ⟨i.toNat, by omega⟩
  simp only at this
  rw [Int.toNat_of_nonneg h0] at this
  exact this
section
variable {prog : Program} {w : World} {A : Around} {E : Value → Shared → Prop} {s : Shared} {value slice : PySem.Expr} {t ti ti2 : Tok} {h₀ : Heap} {L : Addr} {m : PySem.Str → Option Value} {news : List (Addr × Obj)} {Q : Value → Shared → Prop} {i : Int}
theorem ap_slice (hF : Fr h₀ L s.heap m) (hN : News h₀ L s.heap news) (h0 : 0 ≤ i) (h16 : i < 16)
    (h : ∀ h' t' k, Fr h₀ L h' m → News h₀ L h' news → Q (.bytes #[UInt8.ofNat (65 + i.toNat)] t') { s with heap := h', toks := k })
    (hs : subscripted slice false (.bytes APs t) (.ref s.heap.objs.size) = operate [.ref s.heap.objs.size, .bytes APs t] (getItem (.bytes APs t) (.ref s.heap.objs.size)) := by with_unfolding_all rfl)
    (ht : ∀ r, letTemporaryGo value (.bytes APs t) r = pure () := by intro _; with_unfolding_all rfl) :
    wpAny (model prog w) A (subscriptTail value slice (.bytes APs t) (.ref s.heap.objs.size)) Q E { s with heap := s.heap.push { cls := .type "slice", data := .fields #[.int i ti, .int (i + 1) ti2, .none] } } := by
  refine KBc.slice_K (ks := KBw.bInts APs) hF hN rfl (lo := some i) (hi := some (i + 1)) (by constructor) (by constructor) (by decide +kernel) (fun h' t' k F' N' _ => ?_) hs ht
  rw [ap_picked h0 h16]
  exact h h' t' k F' N'
end
end B0s
section GQs
/-- a name for what is asked behind the second of two steps -/
theorem genF {α β : Type} {M : Model} {A A₂ : Around} {t : Sem α} {u : Sem β} {P₀ : β → Shared → Prop} {E E' : Value → Shared → Prop} {s : Shared}
    (h : ∀ P : β → Shared → Prop, (∀ f s₂, P₀ f s₂ → P f s₂) → wpAny M A t (fun _ s₂ => wpAny M A₂ u P E s₂) E' s) : wpAny M A t (fun _ s₂ => wpAny M A₂ u P₀ E s₂) E' s := h P₀ fun _ _ x => x
end GQs
section B1s
def PairAt (h : Heap) (v : Value) (p : PySem.Str × PySem.Str) : Prop := ∃ a t1 t2, v = .ref a ∧ h.get? a = some (tupO [.str p.1 t1, .str p.2 t2])
/-- a list's items are pairs of texts -/
def PairsAt (h : Heap) (vs : List Value) (tbl : List (PySem.Str × PySem.Str)) : Prop := vs.length = tbl.length ∧ ∀ (i : Nat) v, vs[i]? = some v → ∃ p, tbl[i]? = some p ∧ PairAt h v p
def notTup (led : List (Addr × Obj)) : Bool := led.all fun q => match q.2.cls with | .type "tuple" => false | _ => true
theorem PairAt.sub {h g : Heap} {v : Value} {p : PySem.Str × PySem.Str} {led : List (Addr × Obj)} (x : PairAt h v p) (hs : SB h g (led.map (·.1))) (hl : ∀ q ∈ led, h.get? q.1 = some q.2) (hn : notTup led = true) : PairAt g v p := by
  obtain ⟨a, t1, t2, rfl, ha⟩ := x
  refine ⟨a, t1, t2, rfl, hs _ _ ha fun hb => ?_⟩
  obtain ⟨q, hq, rfl⟩ := List.mem_map.mp hb
  have h1 := List.all_eq_true.mp hn q hq
  have h2 := hl q hq
  rw [ha] at h2
  rw [← Option.some.inj h2] at h1
  cases h1
theorem PairsAt.sub {h g : Heap} {vs : List Value} {tbl : List (PySem.Str × PySem.Str)} {led : List (Addr × Obj)} (x : PairsAt h vs tbl) (hs : SB h g (led.map (·.1))) (hl : ∀ q ∈ led, h.get? q.1 = some q.2) (hn : notTup led = true) : PairsAt g vs tbl :=
  ⟨x.1, fun i v e => let ⟨p, e2, y⟩ := x.2 i v e; ⟨p, e2, y.sub hs hl hn⟩⟩
theorem PairsAt.keeps {h g : Heap} {vs : List Value} {tbl : List (PySem.Str × PySem.Str)} (x : PairsAt h vs tbl) (k : ∀ b o, h.get? b = some o → g.get? b = some o) : PairsAt g vs tbl :=
  ⟨x.1, fun i v e => let ⟨p, e2, a, t1, t2, e3, e4⟩ := x.2 i v e; ⟨p, e2, a, t1, t2, e3, k _ _ e4⟩⟩
def cleanN (v : PySem.Str) : Prop := (∀ c ∈ v.cps.toList, 32 ≤ c ∧ c < 127) ∧ v.cps.size ≤ 1000000
def cleanV (v : PySem.Str) : Prop := (∀ c ∈ v.cps.toList, (32 ≤ c ∨ c = 9) ∧ c < 127) ∧ v.cps.size ≤ 1000000
theorem cleanN.ok {v : PySem.Str} (h : cleanN v) : ∀ c ∈ v.cps.toList, (32 ≤ c ∨ (true = false ∧ c = 9)) ∧ c < 127 := fun c hc => ⟨.inl (h.1 c hc).1, (h.1 c hc).2⟩
theorem cleanV.ok {v : PySem.Str} (h : cleanV v) : ∀ c ∈ v.cps.toList, (32 ≤ c ∨ (false = false ∧ c = 9)) ∧ c < 127 := fun c hc => ⟨(h.1 c hc).1.imp id fun e => ⟨rfl, e⟩, (h.1 c hc).2⟩


theorem sb_of {h₀ h g h' : Heap} {L : Addr} {led led' : List (Addr × Obj)} {xs : List Addr} (hs : SB h g (led.map (·.1))) (hn : Has h₀ h led) (k : ∀ b o, g.get? b = some o → h'.get? b = some o) (N : News g L h' led') (hx : ∀ q ∈ led, q.1 ∈ xs ∨ q ∈ led') : SB h h' xs := by
  intro b o e hb
  by_cases hb2 : b ∈ led.map (·.1)
  · obtain ⟨q, hq, rfl⟩ := List.mem_map.mp hb2
    have h1 := (hn q hq).1
    rw [e] at h1
    rcases hx q hq with h2 | h2
    · exact absurd h2 hb
    · rw [(N q h2).1, Option.some.inj h1]
  · exact k _ _ (hs _ _ e hb2)


theorem enterC {K : Frag} {prog : Program} {w : World} {s : Shared} {A : Around} {f : Addr} {args : Args} {name qual : PySem.Str} {params : Arguments} {body : List Stmt} {scope : Scope}
    {dV kV doc pm cdv ct oc : Value} {an od : Option Addr} {osl : Array (Option Value)} {binds : List (PySem.Str × Value)} {R : Result → Shared → Prop}
    {h₀ : Heap} {p : Program} {loose : List PySem.Str} {mean : ExcName → Option Value} {mg mb : PySem.Str → Option Value} {news : List (Addr × Obj)}
    (X : K.In h₀) (T : Top p loose mean mg mb h₀) (hk : h₀.StaysIn s.heap) (hn : ∀ q ∈ news, s.heap.get? q.1 = some q.2 ∧ h₀.get? q.1 = none)
    (ho : K.lookup f = some ⟨oc, od, .func (fnOf name qual params body scope dV kV doc pm an cdv ct), osl⟩) (hcd : codeIn K cdv qual = true) (hroom : A.depth < recursionLimit)
    (hbind : BindsTo s (fnOf name qual params body scope dV kV doc pm an cdv ct) args binds)
    (hkind : (binds.all fun y => scope.names.lookup y.1 == some .local || scope.names.lookup y.1 == some .cell) = true)
    (hnd : ((cellsFrom 0 scope.names []).map (·.1)).Nodup)
    (h : ∀ g L h₁ tk cells, h₀.StaysIn g → SB s.heap g (news.map (·.1)) → Fr g L h₁ (bindL (envOfC qual scope L f cdv).kindOf binds fun _ => none) → News g L h₁ (cells ++ news) →
      CellsAre (bindC (envOfC qual scope L f cdv).kindOf binds fun _ => none) (cellsFrom (L + 1) scope.names []) cells → K.In g → Top p loose mean mg mb g → (∀ p ∈ news, p.1 < L) →
      wpAny (model prog w) (A.deeper (envOfC qual scope L f cdv)) (execs body (envOfC qual scope L f cdv))
        (fun fl s' => R (.ok (.ret (match fl with | .ret v => v | _ => .none))) s') NoE { s with heap := h₁, toks := tk })
    (hco : scope.isCoroutine = false) (hgen : scope.isGenerator = false) (hkd : scope.kind = .function) :
    codeAny (model prog w) A (.call (.ref f) args) R s := by
  have Xs : K.In s.heap := X.keeps hk
  have nm : ∀ b o, h₀.get? b = some o → b ∉ news.map (·.1) := fun b o e q => by
    obtain ⟨p, hp, rfl⟩ := List.mem_map.mp q
    rw [(hn p hp).2] at e; cases e
  have st : h₀.StaysIn (hideAll s.heap (news.map (·.1))) := fun b o e => hideAll_get _ (hk b o e) (nm b o e)
  refine codeAny_call_function hroom (Xs _ _ ho) rfl hco hgen rfl (codeRec_of Xs hcd) (hbind _ _ _ _ ?_)
  refine wpAny_newFunctionEnv_cells hkd (kindsX hkind _) fun env' he s' x => ?_
  subst he
  refine ⟨(T.nolimit.keeps hk).keeps x.toInCall.keep, codeAny_func ?_⟩
  obtain ⟨h₁, tk, rfl, _⟩ := x.done
  have hk₁ := x.toInCall.keep
  obtain ⟨cells, NC, Y⟩ := Cl.news (h₀ := s.heap) (Nat.le_refl _) fun n c hm => ⟨x.cell n c (lookup_of_mem_nodup (cellsFrom_names scope.names 0 (s.heap.objs.size + 1) [] [] rfl ▸ hnd) hm), x.above n c hm⟩
  refine wpAny_mono (h (hideAll s.heap (news.map (·.1))) s.heap.objs.size h₁ tk cells st (fun b o e hb => hideAll_get _ e hb) ⟨x.toInCall.ns, fun b o e => hk₁ b o (of_hideAll _ e), Nat.le_of_eq (hideAll_size _ _)⟩ (fun p hp => ?_) Y (X.keeps fun b o e => st b o e) (T.keeps fun b o e => st b o e) (fun p hp => Heap.lt_size (hn p hp).1)) (fun fl s' hl => hl) fun _ _ y => y.elim
  rcases List.mem_append.mp hp with hp | hp
  · refine ⟨(NC p hp).1, (NC p hp).2.1, ?_⟩
    cases q : (hideAll s.heap (news.map (·.1))).get? p.1 with
    | none => rfl
    | some o => have := of_hideAll _ q; rw [(NC p hp).2.2] at this; cases this
  · exact ⟨hk₁ _ _ (hn p hp).1, Nat.ne_of_lt (Heap.lt_size (hn p hp).1), hideAll_none _ (List.mem_map_of_mem hp)⟩
end B1s
section B2s
open LCg
theorem cleanN.low {v : PySem.Str} (h : cleanN v) : v.length ≤ 5592405 := Nat.le_trans h.2 (Nat.le_of_ble_eq_true rfl)
section
variable {prog : Program} {w : World} {A : Around} {s : Shared} {h₀ : Heap} {L : Addr} {m : PySem.Str → Option Value} {env : Env}
/-- the turns of a comprehension with a test, by an invariant -/
theorem compT_J {ct elt : PySem.Expr} {x : PySem.Str} {scope : Scope} {cl : List (PySem.Str × Addr)} {S : List (Addr × Obj) → Prop} {P : Nat → Value → Prop} {Fin : List Value → List (Addr × Obj) → Prop} {n : Nat}
    (J : Nat → List Value → List (Addr × Obj) → Prop)
    (turn : ∀ i ys news v I oI C oC D m₂ h tk (E' : Value → Shared → Prop), J i ys news → i < n → P i v → NsObj oC m₂ → m₂ x = some v → Fr h₀ L h m → News h₀ L h ((I, oI) :: (C, oC) :: (D, lst ys) :: news) → Off3 I C D news → ((@Ne Nat I C) ∧ (@Ne Nat I D) ∧ (@Ne Nat C D)) →
      wpAny (model prog w) A (isTrue ct (compEnvC scope cl C env) (eval ct (compEnvC scope cl C env))) (fun ok s' => if ok = true then
        wpAny (model prog w) A (eval elt (compEnvC scope cl C env)) (CompEnd h₀ L m { s with heap := h, toks := tk } I oI C oC D (lst ys) S (fun y news' => Stop (J (i + 1) (ys ++ [y]) news'))) E' s'
        else CompEnd h₀ L m { s with heap := h, toks := tk } I oI C oC D (lst ys) S (fun _ news' => Stop (J (i + 1) ys news')) Value.none s') E' { s with heap := h, toks := tk })
    (done : ∀ ys news, J n ys news → Fin ys news) : ∀ k i ys news, i + k = n → J i ys news → LCt.CompRestT prog w A h₀ L m env ct elt x scope cl s S P Fin k i ys news
  | 0, i, ys, news, e, hJ => by
    obtain rfl : i = n := by omega
    exact done ys news hJ
  | k + 1, i, ys, news, e, hJ => by
    intro v I oI C oC D m₂ h tk E' hP hC hx F N o3 ne
    refine wpAny_mono (turn i ys news v I oI C oC D m₂ h tk E' hJ (by omega) hP hC hx F N o3 ne) (fun ok s' hq => ?_) fun _ _ y => y
    cases ok with
    | true =>
      simp only [if_true] at hq ⊢
      refine wpAny_mono hq (fun y s₂ hc => ?_) fun _ _ y => y
      obtain ⟨h', tk', news', e1, F', N', o', S', r⟩ := hc
      exact ⟨h', tk', news', e1, F', N', o', S', compT_J J turn done k (i + 1) _ _ (by omega) r⟩
    | false =>
      simp only [Bool.false_eq_true, if_false] at hq ⊢
      obtain ⟨h', tk', news', e1, F', N', o', S', r⟩ := hq
      exact ⟨h', tk', news', e1, F', N', o', S', compT_J J turn done k (i + 1) _ _ (by omega) r⟩
/-- the turns of a comprehension without a test, by an invariant -/
theorem compU_J {elt : PySem.Expr} {x : PySem.Str} {scope : Scope} {cl : List (PySem.Str × Addr)} {S : List (Addr × Obj) → Prop} {P : Nat → Value → Prop} {Fin : List Value → List (Addr × Obj) → Prop} {n : Nat}
    (J : Nat → List Value → List (Addr × Obj) → Prop)
    (turn : ∀ i ys news v I oI C oC D m₂ h tk (E' : Value → Shared → Prop), J i ys news → i < n → P i v → NsObj oC m₂ → m₂ x = some v → Fr h₀ L h m → News h₀ L h ((I, oI) :: (C, oC) :: (D, lst ys) :: news) → Off3 I C D news → ((@Ne Nat I C) ∧ (@Ne Nat I D) ∧ (@Ne Nat C D)) →
      wpAny (model prog w) A (eval elt (compEnvC scope cl C env)) (CompEnd h₀ L m { s with heap := h, toks := tk } I oI C oC D (lst ys) S (fun y news' => Stop (J (i + 1) (ys ++ [y]) news'))) E' { s with heap := h, toks := tk })
    (done : ∀ ys news, J n ys news → Fin ys news) : ∀ k i ys news, i + k = n → J i ys news → CompRest prog w A h₀ L m env elt x scope cl s S P Fin k i ys news
  | 0, i, ys, news, e, hJ => by
    obtain rfl : i = n := by omega
    exact done ys news hJ
  | k + 1, i, ys, news, e, hJ => by
    intro v I oI C oC D m₂ h tk E' hP hC hx F N o3 ne
    refine wpAny_mono (turn i ys news v I oI C oC D m₂ h tk E' hJ (by omega) hP hC hx F N o3 ne) (fun y s' hc => ?_) fun _ _ y => y
    obtain ⟨h', tk', news', e1, F', N', o', S', r⟩ := hc
    exact ⟨h', tk', news', e1, F', N', o', S', compU_J J turn done k (i + 1) _ _ (by omega) r⟩
/-- the same with a ledger that stays -/
theorem compT_K {ct elt : PySem.Expr} {x : PySem.Str} {scope : Scope} {cl : List (PySem.Str × Addr)} {S : List (Addr × Obj) → Prop} {P : Nat → Value → Prop} {Fin : List Value → List (Addr × Obj) → Prop} {n : Nat} {news : List (Addr × Obj)}
    (J : Nat → List Value → Prop)
    (turn : ∀ i ys v I oI C oC D m₂ h tk (E' : Value → Shared → Prop), J i ys → i < n → P i v → NsObj oC m₂ → m₂ x = some v → Fr h₀ L h m → News h₀ L h ((I, oI) :: (C, oC) :: (D, lst ys) :: news) → Off3 I C D news → ((@Ne Nat I C) ∧ (@Ne Nat I D) ∧ (@Ne Nat C D)) →
      wpAny (model prog w) A (isTrue ct (compEnvC scope cl C env) (eval ct (compEnvC scope cl C env))) (fun ok s' => if ok = true then
        wpAny (model prog w) A (eval elt (compEnvC scope cl C env)) (CompEnd h₀ L m { s with heap := h, toks := tk } I oI C oC D (lst ys) S (fun y news' => Stop (news' = news ∧ J (i + 1) (ys ++ [y])))) E' s'
        else CompEnd h₀ L m { s with heap := h, toks := tk } I oI C oC D (lst ys) S (fun _ news' => Stop (news' = news ∧ J (i + 1) ys)) Value.none s') E' { s with heap := h, toks := tk })
    (done : ∀ ys, J n ys → Fin ys news) (h0 : J 0 []) : LCt.CompRestT prog w A h₀ L m env ct elt x scope cl s S P Fin n 0 [] news :=
  compT_J (fun i ys nw => nw = news ∧ J i ys) (fun i ys nw v I oI C oC D m₂ h tk E' hJ hi hP hC hx F N o3 ne => by
    obtain ⟨rfl, hJ⟩ := hJ
    exact turn i ys v I oI C oC D m₂ h tk E' hJ hi hP hC hx F N o3 ne) (fun ys nw hJ => by obtain ⟨rfl, hJ⟩ := hJ; exact done ys hJ) n 0 [] news (Nat.zero_add _) ⟨rfl, h0⟩
theorem compU_K {elt : PySem.Expr} {x : PySem.Str} {scope : Scope} {cl : List (PySem.Str × Addr)} {S : List (Addr × Obj) → Prop} {P : Nat → Value → Prop} {Fin : List Value → List (Addr × Obj) → Prop} {n : Nat} {news : List (Addr × Obj)}
    (J : Nat → List Value → Prop)
    (turn : ∀ i ys v I oI C oC D m₂ h tk (E' : Value → Shared → Prop), J i ys → i < n → P i v → NsObj oC m₂ → m₂ x = some v → Fr h₀ L h m → News h₀ L h ((I, oI) :: (C, oC) :: (D, lst ys) :: news) → Off3 I C D news → ((@Ne Nat I C) ∧ (@Ne Nat I D) ∧ (@Ne Nat C D)) →
      wpAny (model prog w) A (eval elt (compEnvC scope cl C env)) (CompEnd h₀ L m { s with heap := h, toks := tk } I oI C oC D (lst ys) S (fun y news' => Stop (news' = news ∧ J (i + 1) (ys ++ [y])))) E' { s with heap := h, toks := tk })
    (done : ∀ ys, J n ys → Fin ys news) (h0 : J 0 []) : CompRest prog w A h₀ L m env elt x scope cl s S P Fin n 0 [] news :=
  compU_J (fun i ys nw => nw = news ∧ J i ys) (fun i ys nw v I oI C oC D m₂ h tk E' hJ hi hP hC hx F N o3 ne => by
    obtain ⟨rfl, hJ⟩ := hJ
    exact turn i ys v I oI C oC D m₂ h tk E' hJ hi hP hC hx F N o3 ne) (fun ys nw hJ => by obtain ⟨rfl, hJ⟩ := hJ; exact done ys hJ) n 0 [] news (Nat.zero_add _) ⟨rfl, h0⟩
end

/-- those items whose name is asked for -/
def fpair (q : PySem.Str → Bool) : List Value → List (PySem.Str × PySem.Str) → List Value
  | v :: vs, p :: ps => if q p.1 then v :: fpair q vs ps else fpair q vs ps
  | _, _ => []
theorem PairsAt.tail {h : Heap} {v : Value} {vs : List Value} {p : PySem.Str × PySem.Str} {ps : List (PySem.Str × PySem.Str)} (x : PairsAt h (v :: vs) (p :: ps)) : PairAt h v p ∧ PairsAt h vs ps := by
  refine ⟨?_, by simpa using x.1, fun i w e => ?_⟩
  · obtain ⟨p', e, y⟩ := x.2 0 v rfl
    exact Option.some.inj e ▸ y
  · exact x.2 (i + 1) w e
theorem PairsAt.cons {h : Heap} {v : Value} {vs : List Value} {p : PySem.Str × PySem.Str} {ps : List (PySem.Str × PySem.Str)} (y : PairAt h v p) (x : PairsAt h vs ps) : PairsAt h (v :: vs) (p :: ps) := by
  refine ⟨congrArg (· + 1) x.1, fun i w e => ?_⟩
  cases i with
  | zero => exact ⟨p, rfl, Option.some.inj e ▸ y⟩
  | succ i => exact x.2 i w e
theorem PairsAt.nil {h : Heap} : PairsAt h [] [] := ⟨rfl, fun i w e => by simp at e⟩
theorem PairsAt.app {h : Heap} : ∀ {vs ws : List Value} {ps qs : List (PySem.Str × PySem.Str)}, PairsAt h vs ps → PairsAt h ws qs → PairsAt h (vs ++ ws) (ps ++ qs)
  | [], _, [], _, _, y => y
  | _ :: _, _, _ :: _, _, x, y => PairsAt.cons x.tail.1 (PairsAt.app x.tail.2 y)
  | [], _, _ :: _, _, x, _ => absurd x.1 (by simp)
  | _ :: _, _, [], _, x, _ => absurd x.1 (by simp)
theorem PairsAt.filt {h : Heap} {q : PySem.Str → Bool} : ∀ {vs : List Value} {ps : List (PySem.Str × PySem.Str)}, PairsAt h vs ps → PairsAt h (fpair q vs ps) (ps.filter fun p => q p.1)
  | [], [], _ => PairsAt.nil
  | v :: vs, p :: ps, x => by
    have ih := PairsAt.filt (q := q) x.tail.2
    show PairsAt h (if q p.1 then v :: fpair q vs ps else fpair q vs ps) (List.filter (fun p => q p.1) (p :: ps))
    cases e : q p.1 with
    | true => rw [List.filter_cons_of_pos (by simpa using e)]; exact PairsAt.cons x.tail.1 ih
    | false => rw [List.filter_cons_of_neg (by simpa using e)]; exact ih
  | [], _ :: _, x => absurd x.1 (by simp)
  | _ :: _, [], x => absurd x.1 (by simp)
end B2s
section B3s
/-- a Headers as it lies -/
abbrev hdObjs (P : Params) (C x dx l : Addr) (k : Tok) (vs : List Value) (n : Nat) : List (Addr × Obj) :=
  [(x, instObj C dx), (dx, dictOf [strKey P "_headers" k (.ref l)] 1), (l, listOf vs.toArray n)]
section
variable {prog : Program} {w : World} {A : Around} {E : Value → Shared → Prop} {s : Shared}
end
section
variable {prog : Program} {w : World} {A : Around} {E : Value → Shared → Prop} {s : Shared} {h₀ : Heap} {L : Addr} {m : PySem.Str → Option Value} {news : List (Addr × Obj)}
end
/-- a list's items are pairs of texts, by the ground or by the ledger -/
def PairsIn (h₀ : Heap) (led : List (Addr × Obj)) (vs : List Value) (tbl : List (PySem.Str × PySem.Str)) : Prop :=
  vs.length = tbl.length ∧ ∀ (i : Nat) v, vs[i]? = some v → ∃ p, tbl[i]? = some p ∧ ∃ a t1 t2, v = .ref a ∧ (h₀.get? a = some (tupO [.str p.1 t1, .str p.2 t2]) ∨ (a, tupO [.str p.1 t1, .str p.2 t2]) ∈ led)
theorem PairsIn.at {h₀ h : Heap} {L : Addr} {m : PySem.Str → Option Value} {led : List (Addr × Obj)} {vs : List Value} {tbl : List (PySem.Str × PySem.Str)} (x : PairsIn h₀ led vs tbl) (F : Fr h₀ L h m) (N : News h₀ L h led) : PairsAt h vs tbl :=
  ⟨x.1, fun i v e => by
    obtain ⟨p, e2, a, t1, t2, e3, e4⟩ := x.2 i v e
    refine ⟨p, e2, a, t1, t2, e3, ?_⟩
    rcases e4 with e4 | e4
    · exact F.keep _ _ e4
    · exact (N _ e4).1⟩
theorem PairsIn.nil {h₀ : Heap} {led : List (Addr × Obj)} : PairsIn h₀ led [] [] := ⟨rfl, fun i v e => by simp at e⟩
theorem PairsIn.cons {h₀ : Heap} {led : List (Addr × Obj)} {vs : List Value} {tbl : List (PySem.Str × PySem.Str)} {a : Addr} {t1 t2 : Tok} {p : PySem.Str × PySem.Str} (hm : (a, tupO [.str p.1 t1, .str p.2 t2]) ∈ led) (x : PairsIn h₀ led vs tbl) : PairsIn h₀ led (.ref a :: vs) (p :: tbl) := by
  refine ⟨congrArg (· + 1) x.1, fun i w e => ?_⟩
  cases i with
  | zero => exact ⟨p, rfl, a, t1, t2, (Option.some.inj e).symm, .inr hm⟩
  | succ i => exact x.2 i w e
theorem PairsIn.led {h₀ : Heap} {led led' : List (Addr × Obj)} {vs : List Value} {tbl : List (PySem.Str × PySem.Str)} (x : PairsIn h₀ led vs tbl) (hl : ∀ q ∈ led, q ∈ led') : PairsIn h₀ led' vs tbl :=
  ⟨x.1, fun i v e => let ⟨p, e2, a, t1, t2, e3, e4⟩ := x.2 i v e; ⟨p, e2, a, t1, t2, e3, e4.imp id (hl _)⟩⟩
theorem PairsIn.tail {h₀ : Heap} {led : List (Addr × Obj)} {v : Value} {vs : List Value} {p : PySem.Str × PySem.Str} {ps : List (PySem.Str × PySem.Str)} (x : PairsIn h₀ led (v :: vs) (p :: ps)) : (∃ a t1 t2, v = .ref a ∧ (h₀.get? a = some (tupO [.str p.1 t1, .str p.2 t2]) ∨ (a, tupO [.str p.1 t1, .str p.2 t2]) ∈ led)) ∧ PairsIn h₀ led vs ps := by
  refine ⟨?_, by simpa using x.1, fun i w e => ?_⟩
  · obtain ⟨p', e, y⟩ := x.2 0 v rfl
    exact Option.some.inj e ▸ y
  · exact x.2 (i + 1) w e
theorem PairsIn.cons' {h₀ : Heap} {led : List (Addr × Obj)} {v : Value} {vs : List Value} {p : PySem.Str × PySem.Str} {ps : List (PySem.Str × PySem.Str)} (y : ∃ a t1 t2, v = .ref a ∧ (h₀.get? a = some (tupO [.str p.1 t1, .str p.2 t2]) ∨ (a, tupO [.str p.1 t1, .str p.2 t2]) ∈ led)) (x : PairsIn h₀ led vs ps) : PairsIn h₀ led (v :: vs) (p :: ps) := by
  refine ⟨congrArg (· + 1) x.1, fun i w e => ?_⟩
  cases i with
  | zero => exact ⟨p, rfl, Option.some.inj e ▸ y⟩
  | succ i => exact x.2 i w e
theorem PairsIn.filt {h₀ : Heap} {led : List (Addr × Obj)} {q : PySem.Str → Bool} : ∀ {vs : List Value} {ps : List (PySem.Str × PySem.Str)}, PairsIn h₀ led vs ps → PairsIn h₀ led (fpair q vs ps) (ps.filter fun p => q p.1)
  | [], [], _ => PairsIn.nil
  | v :: vs, p :: ps, x => by
    have ih := PairsIn.filt (q := q) x.tail.2
    show PairsIn h₀ led (if q p.1 then v :: fpair q vs ps else fpair q vs ps) (List.filter (fun p => q p.1) (p :: ps))
    cases e : q p.1 with
    | true => rw [List.filter_cons_of_pos (by simpa using e)]; exact PairsIn.cons' x.tail.1 ih
    | false => rw [List.filter_cons_of_neg (by simpa using e)]; exact ih
  | [], _ :: _, x => absurd x.1 (by simp)
  | _ :: _, [], x => absurd x.1 (by simp)
theorem PairsIn.app {h₀ : Heap} {led : List (Addr × Obj)} : ∀ {vs ws : List Value} {ps qs : List (PySem.Str × PySem.Str)}, PairsIn h₀ led vs ps → PairsIn h₀ led ws qs → PairsIn h₀ led (vs ++ ws) (ps ++ qs)
  | [], _, [], _, _, y => y
  | _ :: _, _, _ :: _, _, x, y => PairsIn.cons' x.tail.1 (PairsIn.app x.tail.2 y)
  | [], _, _ :: _, _, x, _ => absurd x.1 (by simp)
  | _ :: _, _, [], _, x, _ => absurd x.1 (by simp)
/-- what a table says to a name in small letters -/
def tget (tbl : List (PySem.Str × PySem.Str)) (low : PySem.Str) : Option PySem.Str := (tbl.find? fun p => Txt.lower p.1 == low).map (·.2)
theorem none_of {h g : Heap} {xs : List Addr} {D : Addr} (hs : SB h g xs) (e : g.get? D = none) (hb : D ∉ xs) : h.get? D = none := by
  cases q : h.get? D with
  | none => rfl
  | some o => rw [hs _ _ q hb] at e; cases e
section
variable {M : Model} {A : Around} {E : Value → Shared → Prop} {s : Shared} {K : Frag} {x C L f : Addr} {h₀ : Heap} {m : PySem.Str → Option Value} {ox : Obj} {od : Option Obj} {i v : Value}
end
end B3s
section DCs
open Builtin
section
variable {b : Array UInt8} {c : UInt8} {cs : List UInt8} {t : Tok} {x : PySem.Str} {n : Nat}
end
section
variable {prog : Program} {w : World} {A : Around} {E : Value → Shared → Prop} {s : Shared} {bs : List UInt8} {t t1 : Tok} {Q : Value → Shared → Prop}
end
end DCs
section B4s
theorem apN_ne {n : Nat} (h : n ≠ 0) : apN n ≠ [] := by rw [apN_pos h]; simp
theorem apN_mem (n : Nat) : ∀ k ∈ apN n, 65 ≤ k.toNat ∧ k.toNat ≤ 80 := by
  induction n using Nat.strongRecOn with
  | ind n ih =>
    intro k hk
    by_cases h : n = 0
    · rw [h, apN_zero] at hk; cases hk
    · rw [apN_pos h] at hk
      rcases List.mem_append.mp hk with hk | hk
      · exact ih (n / 16) (by omega) k hk
      · rw [List.mem_singleton.mp hk, UInt8.toNat_ofNat']
        omega
theorem apN_len : ∀ (d n : Nat), n < 16 ^ d → (apN n).length ≤ d
  | 0, n, h => by
    obtain rfl : n = 0 := by simpa using h
    rw [apN_zero]; exact Nat.le_refl _
  | d + 1, n, h => by
    by_cases h0 : n = 0
    · rw [h0, apN_zero]; exact Nat.zero_le _
    · rw [apN_pos h0, List.length_append]
      have h2 : n / 16 < 16 ^ d := by
        rw [Nat.pow_succ] at h
        omega
      have := apN_len d (n / 16) h2
      simp only [List.length_singleton]
      omega
theorem cleanN_of {v : PySem.Str} (h : (v.cps.toList.all (fun c => decide (32 ≤ c) && decide (c < 127)) && decide (v.cps.size ≤ 1000000)) = true) : cleanN v := by
  rw [Bool.and_eq_true, List.all_eq_true] at h
  refine ⟨fun c hc => ?_, of_decide_eq_true h.2⟩
  have := h.1 c hc
  rw [Bool.and_eq_true] at this
  exact ⟨of_decide_eq_true this.1, of_decide_eq_true this.2⟩
/-- a number's word -/
def apT (n : Nat) : PySem.Str := ⟨((apN n).map (·.toNat)).toArray⟩
end B4s
section B5s
open LCg
section
variable {prog : Program} {w : World} {A : Around} {s : Shared} {h₀ : Heap} {L : Addr} {m : PySem.Str → Option Value} {env : Env}
end
theorem compEnd_one {h₀ h' : Heap} {L I C D T : Addr} {m : PySem.Str → Option Value} {s₁ : Shared} {oI oC oD oT : Obj} {S : List (Addr × Obj) → Prop} {rest : Value → List (Addr × Obj) → Prop} {y : Value} {tk : Nat} {base : List (Addr × Obj)}
    (F : Fr h₀ L h' m) (N : News h₀ L h' ((T, oT) :: (I, oI) :: (C, oC) :: (D, oD) :: base)) (o3 : Off3 I C D base) (h1 : @LT.lt Nat _ I T) (h2 : @LT.lt Nat _ C T) (h3 : @LT.lt Nat _ D T) (hS : S (base ++ [(T, oT)])) (r : rest y (base ++ [(T, oT)])) :
    CompEnd h₀ L m s₁ I oI C oC D oD S rest y { s₁ with heap := h', toks := tk } := by
  refine CompEnd.intro F N _ (fun p hp => ?_) (Off3.of fun p hp => ?_) hS r
  · rcases List.mem_cons.mp hp with rfl | hp
    · exact .tail _ (.head _)
    rcases List.mem_cons.mp hp with rfl | hp
    · exact .tail _ (.tail _ (.head _))
    rcases List.mem_cons.mp hp with rfl | hp
    · exact .tail _ (.tail _ (.tail _ (.head _)))
    rcases List.mem_append.mp hp with hp | hp
    · exact .tail _ (.tail _ (.tail _ (.tail _ hp)))
    · rw [List.mem_singleton.mp hp]; exact .head _
  · rcases List.mem_append.mp hp with hp | hp
    · exact o3.mem p hp
    · rw [List.mem_singleton.mp hp]; exact ⟨Nat.ne_of_gt h1, Nat.ne_of_gt h2, Nat.ne_of_gt h3⟩
theorem compEnd_none {h₀ h' : Heap} {L I C D : Addr} {m : PySem.Str → Option Value} {s₁ : Shared} {oI oC oD : Obj} {S : List (Addr × Obj) → Prop} {rest : Value → List (Addr × Obj) → Prop} {y : Value} {tk : Nat} {base : List (Addr × Obj)}
    (F : Fr h₀ L h' m) (N : News h₀ L h' ((I, oI) :: (C, oC) :: (D, oD) :: base)) (o3 : Off3 I C D base) (hS : S base) (r : rest y base) :
    CompEnd h₀ L m s₁ I oI C oC D oD S rest y { s₁ with heap := h', toks := tk } := CompEnd.intro F N _ (fun p hp => hp) o3 hS r
section
variable {prog : Program} {w : World} {A : Around} {E : Value → Shared → Prop} {s : Shared} {value slice : PySem.Expr} {t u : Tok} {i : Int} {Q : Value → Shared → Prop}
end
section
variable {prog : Program} {w : World} {A : Around} {E : Value → Shared → Prop} {s : Shared} {h₀ : Heap} {L : Addr} {m : PySem.Str → Option Value} {news : List (Addr × Obj)}
/-- a change of one object, seen by the ledger -/
theorem led_change {h' : Heap} {l : Addr} {o o' : Obj} {rest : List (Addr × Obj)} (F : Fr h₀ L s.heap m) (N : News h₀ L s.heap news) (hl : (l, o) ∈ news) (e1 : h'.get? l = some o') (e2 : ∀ b q, b ≠ l → s.heap.get? b = some q → h'.get? b = some q)
    (hr : ∀ p ∈ rest, p ∈ news ∧ p.1 ≠ l) : Fr h₀ L h' m ∧ News h₀ L h' ((l, o') :: rest) := by
  obtain ⟨e3, e4, e5⟩ := N _ hl
  have hs : SB s.heap h' [l] := fun b q e hb => e2 b q (fun z => hb (by rw [z]; exact .head _)) e
  refine ⟨after_fr F hs (fun q => e4 (List.mem_singleton.mp q).symm) (fun b hb => by rw [List.mem_singleton.mp hb]; exact e5), fun p hp => ?_⟩
  rcases List.mem_cons.mp hp with rfl | hp
  · exact ⟨e1, e4, e5⟩
  · exact after_news (fun q hq => N q (hr q hq).1 : News h₀ L s.heap rest) hs (fun q hq hb => (hr q hq).2 (List.mem_singleton.mp hb)) p hp
end
def AllTup (l : List (Addr × Obj)) : Prop := ∀ p ∈ l, p.2.cls = .type "tuple"
theorem AllTup.nil : AllTup [] := fun _ h => nomatch h
theorem AllTup.one {l : List (Addr × Obj)} {T : Addr} {o : Obj} (h : AllTup l) (e : o.cls = .type "tuple") : AllTup (l ++ [(T, o)]) := fun p hp => by
  rcases List.mem_append.mp hp with hp | hp
  · exact h p hp
  · rw [List.mem_singleton.mp hp]; exact e
theorem AllTup.app {l r : List (Addr × Obj)} (h : AllTup l) (h2 : AllTup r) : AllTup (l ++ r) := fun p hp => by
  rcases List.mem_append.mp hp with hp | hp
  · exact h p hp
  · exact h2 p hp
theorem AllTup.ne {h₀ h : Heap} {L l : Addr} {news tups : List (Addr × Obj)} {xs : Array Value} {n : Nat} (x : AllTup tups) (N : News h₀ L h news) (hs : ∀ p ∈ tups, p ∈ news) (hl : (l, listOf xs n) ∈ news) : ∀ p ∈ tups, p.1 ≠ l := by
  intro p hp e
  have h1 := (N p (hs p hp)).1
  rw [e, (N _ hl).1] at h1
  have h2 := x p hp
  rw [← Option.some.inj h1] at h2
  exact absurd (show Value.type "list" = Value.type "tuple" from h2) (by decide)
end B5s
section B6s
section
variable {prog : Program} {w : World} {A : Around} {E : Value → Shared → Prop} {s : Shared}
/-- list.sort on a list of one item or none -/
theorem sort_short_tree {a : Addr} {vs : List Value} {n : Nat} {P : PySem.Fin → Shared → Prop} (ho : s.heap.get? a = some (seqObj "list" vs.toArray n)) (hz : vs.length < 2)
    (h : P (.done (.ret .none)) { s with heap := sortedHeap s.heap a vs vs.toArray }) : wpAny (model prog w) A (Builtin.«list.sort» ⟨[.ref a], []⟩) P E s := by
  rw [list_sort_plain]
  have ha : a < s.heap.objs.size := Heap.lt_size ho
  refine wpAny_bind (listItems_at ho rfl ?_)
  refine wpAny_bind (listUpdate_at ho rfl ?_ (by rw [List.size_toArray, sizeLine_eq]; omega) (Nat.zero_le _))
  obtain ⟨e1, ho1⟩ : ∃ e1, (s.heap.update a (Obj.mapSeq fun _ => #[])).get? a = some (seqObj "list" #[] e1) := ⟨_, get?_update_seq ho (fun _ => #[])⟩
  refine wpAny_bind (seqEpoch_at ho1 rfl ?_)
  refine wpAny_bind (wpAny_newTuple ?_ (by show vs.length ≤ _; rw [sizeLine_eq]; omega))
  refine wpAny_bind (wpAny_newList ?_ (Nat.zero_le _))
  refine wpAny_holding ?_
  have ho6 : (((s.heap.update a (Obj.mapSeq fun _ => #[])).push (seqObj "tuple" vs.toArray 0)).push (seqObj "list" #[] 0)).get? a = some (seqObj "list" #[] e1) := by
    exact Heap.get?_push_of_some _ (Heap.get?_push_of_some _ ho1)
  show wpAny (model prog w) A _ P E { s with heap := ((s.heap.update a (Obj.mapSeq fun _ => #[])).push (seqObj "tuple" vs.toArray 0)).push (seqObj "list" #[] 0) }
  dsimp only
  have h2 : vs.toArray.size < 2 := by rw [List.size_toArray]; exact hz
  have hm : (arrOf (SortSt.mk' general' (vs.toArray.zip vs.toArray) #[] 7 none)).map (·.2) = vs.toArray := by
    show (vs.toArray.zip vs.toArray).map (·.2) = vs.toArray
    match vs, hz with
    | [], _ => simp
    | [v], _ => simp
  rw [if_pos h2, if_pos h2]
  refine wpAny_bind (wpAny_pure ?_)
  rw [StateT.run_pure]
  refine wpAny_bind (wpAny_pure ?_)
  dsimp only
  rw [hm]
  refine wpAny_bind (seqEpoch_at ho6 rfl ?_)
  refine wpAny_bind (listUpdate_at ho6 rfl ?_ (Nat.zero_le _) (by rw [sizeLine_eq]; omega))
  simp only [bne_self_eq_false, Bool.false_eq_true, if_false]
  exact wpAny_pure h
theorem sorted_short {h₀ : Heap} {L : Addr} {m : PySem.Str → Option Value} {news : List (Addr × Obj)} {l : Addr} {vs : List Value} {Q : Value → Shared → Prop}
    (F : Fr h₀ L s.heap m) (N : News h₀ L s.heap news) (hl : s.heap.IsList l vs.toArray) (hz : vs.length < 2)
    (h : ∀ D h' e, Fr h₀ L h' m → News h₀ L h' ((D, listOf vs.toArray e) :: news) → (∀ q ∈ news, q.1 < D) → Q (.ref D) { s with heap := h' }) :
    wpAny (model prog w) A (call (.builtin "sorted") [.ref l]) Q E s := by
  refine Calls.call_function_entry kind_sorted plain_sorted entry_sorted (args_sorted1 _) ?_
  unfold Builtin.«sorted»
  refine wpAny_bind (m := checkCount "sorted" 1 1 _) (wpAny_pure ?_)
  refine wpAny_bind (collect_list hl ?_ (by rw [sizeLine_eq]; omega))
  refine wpAny_bind (wpAny_newList ?_ (by rw [sizeLine_eq]; omega))
  have hsz : ((s.heap.push (seqObj "list" #[] 0)).update s.heap.objs.size (Obj.mapSeq (· ++ vs.toArray))).objs.size = s.heap.objs.size + 1 := by
    rw [Heap.size_update, size_push']
  have hoL : (((s.heap.push (seqObj "list" #[] 0)).update s.heap.objs.size (Obj.mapSeq (· ++ vs.toArray))).push (seqObj "list" vs.toArray 0)).get? (s.heap.objs.size + 1) = some (seqObj "list" vs.toArray 0) := by
    rw [← hsz]; exact Heap.get?_push_size _ rfl
  show wpAny _ _ _ _ _ { s with heap := ((s.heap.push (seqObj "list" #[] 0)).update s.heap.objs.size (Obj.mapSeq (· ++ vs.toArray))).push (seqObj "list" vs.toArray 0) }
  rw [hsz]
  refine wpAny_bind (wpAny_holding (wpAny_call_entry slot_list_sort ⟨_, hoL, rfl⟩ entry_list_sort (sort_short_tree hoL hz ⟨_, rfl, ?_⟩) (args_list_sort _)))
  obtain ⟨e, he⟩ := sortedAll_at s.heap vs vs.toArray
  exact wpAny_pure ⟨_, rfl, h _ _ e (F.kept fun _ _ => sortedAll_old) (N.kept_cons F (fun _ _ => sortedAll_old) (Nat.le_succ _) he) fun q hq => Nat.lt_succ_of_lt (Heap.lt_size (N q hq).1)⟩
end
end B6s
section B7s
/-- what a tree of comparisons gives, if they are told by lt -/
def kRun {α : Type} (lt : Nat → Nat → Bool) : KasT α → α
  | .ret a => a
  | .ask i j k => kRun lt (k (lt i j))
/-- all its questions are about two of the first n -/
def kOk {α : Type} (n : Nat) : KasT α → Bool
  | .ret _ => true
  | .ask i j k => decide (i < n) && decide (j < n) && decide (i ≠ j) && kOk n (k true) && kOk n (k false)
theorem kas_run {α : Type} {cmp : Nat → Nat → (Bool → Shared → Prop) → Shared → Prop} {n : Nat} {lt : Nat → Nat → Bool} {s : Shared} {Q : α → Shared → Prop} (hc : ∀ i j C, i < n → j < n → C (lt i j) s → cmp i j C s) :
    ∀ t : KasT α, kOk n t = true → Q (kRun lt t) s → t.kasWp cmp Q s
  | .ret a, _, h => h
  | .ask i j k, ho, h => by
    simp only [kOk, Bool.and_eq_true, decide_eq_true_eq] at ho
    refine hc i j _ ho.1.1.1.1 ho.1.1.1.2 ?_
    refine kas_run hc (k (lt i j)) ?_ h
    cases lt i j
    · exact ho.2
    · exact ho.1.2
theorem kRun_congr {α : Type} {n : Nat} {lt lt' : Nat → Nat → Bool} (hc : ∀ i j, i < n → j < n → i ≠ j → lt i j = lt' i j) : ∀ t : KasT α, kOk n t = true → kRun lt t = kRun lt' t
  | .ret a, _ => rfl
  | .ask i j k, ho => by
    simp only [kOk, Bool.and_eq_true, decide_eq_true_eq] at ho
    show kRun lt (k (lt i j)) = kRun lt' (k (lt' i j))
    rw [hc i j ho.1.1.1.1 ho.1.1.1.2 ho.1.1.2]
    refine kRun_congr hc _ ?_
    cases lt' i j
    · exact ho.2
    · exact ho.1.2
theorem kOk2 : kOk 2 (kas_sort 2) = true := by decide +kernel
theorem kOk3 : kOk 3 (kas_sort 3) = true := by decide +kernel
def lt2 (a b : Bool) : Nat → Nat → Bool
  | 0, _ => a
  | _, _ => b
def lt3 (a b c d e f : Bool) : Nat → Nat → Bool
  | 0, 1 => a
  | 0, _ => b
  | 1, 0 => c
  | 1, _ => d
  | _, 0 => e
  | _, _ => f
theorem run2 : ∀ a b : Bool, ¬ (a = true ∧ b = true) → (kRun (lt2 a b) (kas_sort 2)).toList.Perm [0, 1] ∧ (kRun (lt2 a b) (kas_sort 2)).toList.Pairwise (fun i j => lt2 a b j i = false) := by decide +kernel
def ok3 (a b c d e f : Bool) : Bool := !(a && c) && !(b && e) && !(d && f) && (a || d || !b) && (b || f || !a) && (c || b || !d) && (d || e || !c) && (e || a || !f) && (f || c || !e)
def good3 (lt : Nat → Nat → Bool) (l : List Nat) : Bool := decide (l.Perm [0, 1, 2]) && decide (l.Pairwise fun i j => lt j i = false)
theorem run3 : ∀ a b c d e f : Bool, (!(ok3 a b c d e f) || good3 (lt3 a b c d e f) (kRun (lt3 a b c d e f) (kas_sort 3)).toList) = true := by decide +kernel
end B7s
section B8s
/-- which of two pairs is the less -/
def ltP (a : Nat → Int) (eqS ltS : Nat → Nat → Bool) (i j : Nat) : Bool := if a i = a j then (!(eqS i j) && ltS i j) else decide (a i < a j)
section
variable {prog : Program} {w : World} {A : Around} {E : Value → Shared → Prop} {s : Shared} {h₀ : Heap} {L : Addr} {m : PySem.Str → Option Value} {news : List (Addr × Obj)}
theorem cmp_tups {b : Bool} {i j : Nat} {ai aj : Addr} {a : Nat → Int} {ti tj : Tok} {x : Nat → Value} {eqS ltS : Nat → Nat → Bool} {C : Bool → Shared → Prop} (hi : s.heap.get? ai = some (tupO [.int (a i) ti, x i])) (hj : s.heap.get? aj = some (tupO [.int (a j) tj, x j]))
    (he : ∀ C' : Bool → Shared → Prop, C' (eqS i j) s → wpAny (model prog w) A (eqBool (x i) (x j)) C' (fun _ _ => False) s)
    (hl : ∀ C' : Bool → Shared → Prop, C' (ltS i j) s → wpAny (model prog w) A (compareOp .Lt (x i) (x j)) (PySem.W.BoolBack C') (fun _ _ => False) s)
    (h : C (ltP a eqS ltS i j) s) : wpAny (model prog w) A (keyLt' (tuples' true) (.ref ai) (.ref aj)) C E s := by
  refine kat_lt hi rfl hj rfl ?_
  show KatLex prog w A true _ C [(Value.int (a i) ti, Value.int (a j) tj), (x i, x j)] 0 s
  refine kat_cons (wpAny_eqBool_int ?_)
  refine kat_go (fun e => ?_) (fun e => ?_)
  · have e : a i = a j := eq_of_beq e
    refine kat_yes (kat_cons (he _ ?_))
    refine kat_go (fun e2 => ?_) (fun e2 => ?_)
    · refine kat_yes (kat_nil ?_)
      have : ltP a eqS ltS i j = false := by unfold ltP; rw [if_pos e, e2]; simp
      rw [this] at h
      exact h
    · refine kat_no (kat_one _ _ (hl _ ?_))
      have : ltP a eqS ltS i j = ltS i j := by unfold ltP; rw [if_pos e, e2]; simp
      rw [this] at h
      exact h
  · have e : ¬ a i = a j := fun q => by rw [q, beq_self_eq_true] at e; cases e
    refine kat_no (oneLt_int ?_)
    have : ltP a eqS ltS i j = decide (a i < a j) := by unfold ltP; rw [if_neg e]
    rw [this] at h
    exact h
end
end B8s
section B9s
/-- the order of pairs of numbers -/
def lexP (a r : Nat → Int) (i j : Nat) : Bool := decide (a i < a j ∨ (a i = a j ∧ r i < r j))
theorem lexP_iff {a r : Nat → Int} {i j : Nat} : lexP a r i j = true ↔ (a i < a j ∨ (a i = a j ∧ r i < r j)) := decide_eq_true_iff
theorem ltP_lex {a r : Nat → Int} {i j : Nat} : ltP a (fun i j => r i == r j) (fun i j => decide (r i < r j)) i j = lexP a r i j := by
  rw [Bool.eq_iff_iff, lexP_iff]
  unfold ltP
  split
  · rename_i e
    simp only [Bool.and_eq_true, Bool.not_eq_true', beq_eq_false_iff_ne, ne_eq, decide_eq_true_eq]
    omega
  · rename_i e
    simp only [decide_eq_true_eq]
    omega
theorem ok2_lex (a r : Nat → Int) : ¬ (lexP a r 0 1 = true ∧ lexP a r 1 0 = true) := by
  simp only [lexP_iff]; omega
theorem or3 {p q r : Bool} (h : p = false → q = false → r = true → False) : (p || q || !r) = true := by
  cases p <;> cases q <;> cases r <;> simp_all
theorem and2 {p q : Bool} (h : p = true → q = true → False) : (!(p && q)) = true := by
  cases p <;> cases q <;> simp_all
theorem lexP_not {a r : Nat → Int} {i j : Nat} : lexP a r i j = false ↔ ¬ (a i < a j ∨ (a i = a j ∧ r i < r j)) := by
  rw [← lexP_iff]; simp
theorem ok3_lex (a r : Nat → Int) : ok3 (lexP a r 0 1) (lexP a r 0 2) (lexP a r 1 0) (lexP a r 1 2) (lexP a r 2 0) (lexP a r 2 1) = true := by
  unfold ok3
  simp only [Bool.and_eq_true]
  refine ⟨⟨⟨⟨⟨⟨⟨⟨?_, ?_⟩, ?_⟩, ?_⟩, ?_⟩, ?_⟩, ?_⟩, ?_⟩, ?_⟩
  all_goals first
    | refine and2 fun h1 h2 => ?_
      rw [lexP_iff] at h1 h2
      omega
    | refine or3 fun h1 h2 h3 => ?_
      rw [lexP_not] at h1 h2
      rw [lexP_iff] at h3
      omega
/-- the order in which items stand once sorted -/
def SortedBy (n : Nat) (lt : Nat → Nat → Bool) (ks : List Nat) : Prop := ks.Perm (List.range n) ∧ ks.Pairwise fun i j => lt j i = false
theorem SortedBy.congr {n : Nat} {lt lt' : Nat → Nat → Bool} {ks : List Nat} (h : SortedBy n lt ks) (hc : ∀ i j, i < n → j < n → i ≠ j → lt i j = lt' i j) : SortedBy n lt' ks := by
  refine ⟨h.1, ?_⟩
  have hnd : ks.Nodup := (h.1.nodup_iff).mpr List.nodup_range
  have hm : ∀ i ∈ ks, i < n := fun i hi => List.mem_range.mp ((h.1.mem_iff).mp hi)
  have h2 : ks.Pairwise fun i j => lt j i = false ∧ i ≠ j := h.2.and hnd
  refine h2.imp_of_mem fun {i j} hi hj hq => ?_
  rw [← hc j i (hm j hj) (hm i hi) (Ne.symm hq.2)]
  exact hq.1
theorem tree_sorts {a r : Nat → Int} : ∀ {n : Nat}, 2 ≤ n → n ≤ 3 → kOk n (kas_sort n) = true ∧ SortedBy n (lexP a r) (kRun (lexP a r) (kas_sort n)).toList
  | 2, _, _ => by
    refine ⟨kOk2, ?_⟩
    have hc : ∀ i j, i < 2 → j < 2 → i ≠ j → lexP a r i j = lt2 (lexP a r 0 1) (lexP a r 1 0) i j := by
      intro i j hi hj hne
      obtain rfl | rfl : i = 0 ∨ i = 1 := by omega
      · obtain rfl : j = 1 := by omega
        rfl
      · obtain rfl : j = 0 := by omega
        rfl
    rw [kRun_congr hc _ kOk2]
    have z := run2 _ _ (ok2_lex a r)
    exact SortedBy.congr ⟨z.1, z.2⟩ fun i j hi hj hne => (hc i j hi hj hne).symm
  | 3, _, _ => by
    refine ⟨kOk3, ?_⟩
    have hc : ∀ i j, i < 3 → j < 3 → i ≠ j → lexP a r i j = lt3 (lexP a r 0 1) (lexP a r 0 2) (lexP a r 1 0) (lexP a r 1 2) (lexP a r 2 0) (lexP a r 2 1) i j := by
      intro i j hi hj hne
      obtain rfl | rfl | rfl : i = 0 ∨ i = 1 ∨ i = 2 := by omega
      · obtain rfl | rfl : j = 1 ∨ j = 2 := by omega
        · rfl
        · rfl
      · obtain rfl | rfl : j = 0 ∨ j = 2 := by omega
        · rfl
        · rfl
      · obtain rfl | rfl : j = 0 ∨ j = 1 := by omega
        · rfl
        · rfl
    rw [kRun_congr hc _ kOk3]
    have z := run3 (lexP a r 0 1) (lexP a r 0 2) (lexP a r 1 0) (lexP a r 1 2) (lexP a r 2 0) (lexP a r 2 1)
    rw [ok3_lex, Bool.not_true, Bool.false_or] at z
    unfold good3 at z
    rw [Bool.and_eq_true, decide_eq_true_eq, decide_eq_true_eq] at z
    exact SortedBy.congr ⟨z.1, z.2⟩ fun i j hi hj hne => (hc i j hi hj hne).symm
section
variable {prog : Program} {w : World} {A : Around} {E : Value → Shared → Prop} {s : Shared}
theorem tups_firsts {h : Heap} : ∀ {vs : List Value} {a : Nat → Int} {t : Nat → Tok} {x : Nat → Value}, (∀ i, i < vs.length → ∃ q, vs[i]? = some (.ref q) ∧ h.get? q = some (tupO [.int (a i) (t i), x i])) →
    KatTups h vs ((List.range vs.length).map fun i => .int (a i) (t i))
  | [], _, _, _, _ => KatTups.nil
  | v :: vs, a, t, x, hv => by
    obtain ⟨q, e, ho⟩ := hv 0 (Nat.succ_pos _)
    have ih := tups_firsts (h := h) (vs := vs) (a := fun i => a (i + 1)) (t := fun i => t (i + 1)) (x := fun i => x (i + 1)) fun i hi => hv (i + 1) (Nat.succ_lt_succ hi)
    obtain rfl : v = .ref q := Option.some.inj e
    rw [List.length_cons, List.range_succ_eq_map, List.map_cons, List.map_map]
    exact KatTups.cons ho rfl rfl rfl ih
theorem short_sorted {vs : List Value} (lt : Nat → Nat → Bool) (h2 : vs.length < 2) : ∃ ks, SortedBy vs.length lt ks ∧ ks.map (fun i => vs.getD i .none) = vs := by
  match vs, h2 with
  | [], _ => exact ⟨[], ⟨.refl _, .nil⟩, rfl⟩
  | [v], _ => exact ⟨[0], ⟨.refl _, List.pairwise_singleton _ _⟩, rfl⟩
/-- sorted, of at most three pairs whose first is a number and whose second tells by a rank -/
theorem sorted_tups {h₀ : Heap} {L : Addr} {m : PySem.Str → Option Value} {news : List (Addr × Obj)} {l : Addr} {vs : List Value} {Q : Value → Shared → Prop} (a r : Nat → Int) (t : Nat → Tok) (x : Nat → Value)
    (F : Fr h₀ L s.heap m) (N : News h₀ L s.heap news) (hl : s.heap.IsList l vs.toArray) (hz : vs.length ≤ 3)
    (hv : ∀ i, i < vs.length → ∃ q, vs[i]? = some (.ref q) ∧ (q, tupO [.int (a i) (t i), x i]) ∈ news)
    (he : ∀ i j (C' : Bool → Shared → Prop) (s' : Shared), i < vs.length → j < vs.length → C' (r i == r j) s' → wpAny (model prog w) A.in1.in1 (eqBool (x i) (x j)) C' (fun _ _ => False) s')
    (hlt : ∀ i j (C' : Bool → Shared → Prop) (s' : Shared), i < vs.length → j < vs.length → C' (decide (r i < r j)) s' → wpAny (model prog w) A.in1.in1 (compareOp .Lt (x i) (x j)) (PySem.W.BoolBack C') (fun _ _ => False) s')
    (h : ∀ D h' e ks, SortedBy vs.length (lexP a r) ks → Fr h₀ L h' m → News h₀ L h' ((D, listOf (ks.map fun i => vs.getD i .none).toArray e) :: news) → (∀ q ∈ news, q.1 < D) → Q (.ref D) { s with heap := h' }) :
    wpAny (model prog w) A (call (.builtin "sorted") [.ref l]) Q E s := by
  by_cases h2 : vs.length < 2
  · refine sorted_short F N hl h2 fun D h' e F' N' hD => ?_
    obtain ⟨ks, hs, e1⟩ := short_sorted (lexP a r) h2
    rw [← e1] at N'
    exact h D h' e ks hs F' N' hD
  · have h2 : 2 ≤ vs.length := by omega
    obtain ⟨ok, so⟩ := tree_sorts (a := a) (r := r) h2 hz
    refine kat_sorted F N hl h2 (by omega) fun D e1 h' F' N' hD => ?_
    have N2 : News h₀ L h' news := fun p hp => N' p (.tail _ hp)
    refine kat_kind (T := .type "int") (tups_firsts (vs := vs) (a := a) (t := t) (x := x) fun i hi => ?_) (by rw [List.length_map, List.length_range]; omega) (fun v hv' => ?_) (by decide) ?_
    · obtain ⟨q, e, hm⟩ := hv i hi
      exact ⟨q, e, (N2 _ hm).1⟩
    · obtain ⟨i, _, rfl⟩ := List.mem_map.mp hv'
      exact Looks.of_pure rfl
    · refine kas_run (lt := lexP a r) (fun i j C hi hj hC => ?_) (kas_sort vs.length) ok ?_
      · obtain ⟨qi, ei, hmi⟩ := hv i hi
        obtain ⟨qj, ej, hmj⟩ := hv j hj
        have gi : vs.getD i .none = .ref qi := by rw [List.getD_eq_getElem?_getD, ei]; rfl
        have gj : vs.getD j .none = .ref qj := by rw [List.getD_eq_getElem?_getD, ej]; rfl
        show wpAny (model prog w) A.in1.in1 (keyLt' _ (vs.getD i .none) (vs.getD j .none)) C _ _
        rw [gi, gj]
        rw [← ltP_lex] at hC
        exact cmp_tups (b := true) (eqS := fun i j => r i == r j) (ltS := fun i j => decide (r i < r j)) (N2 _ hmi).1 (N2 _ hmj).1 (fun C' hc => he i j C' _ hi hj hc) (fun C' hc => hlt i j C' _ hi hj hc) hC
      · exact KasFin.intro F' N' (UpdF.head fun p hp => Nat.ne_of_lt (hD p hp)) fun h3 c F3 N3 => h D h3 c _ so F3 N3 hD
end
end B9s
section C1s
/-- pairs of a cost and a place, kept in the ledger -/
def CostAt (c : Nat → Int) (tups : List (Addr × Obj)) (ys : List Value) (ks : List Nat) : Prop :=
  ys.length = ks.length ∧ ∀ (j k : Nat), ks[j]? = some k → ∃ (q : Addr) (t u : Tok), ys[j]? = some (Value.ref q) ∧ (q, tupO [.int (c k) t, .int (k : Int) u]) ∈ tups
theorem CostAt.nil {c : Nat → Int} : CostAt c [] [] [] := ⟨rfl, fun j k e => by simp at e⟩
theorem CostAt.one {c : Nat → Int} {tups : List (Addr × Obj)} {ys : List Value} {ks : List Nat} {k : Nat} {q : Addr} {t u : Tok} {o : Obj} (x : CostAt c tups ys ks) (e : o = tupO [.int (c k) t, .int (k : Int) u]) : CostAt c (tups ++ [(q, o)]) (ys ++ [.ref q]) (ks ++ [k]) := by
  refine ⟨by simp [x.1], fun j k' h => ?_⟩
  by_cases hj : j < ks.length
  · rw [List.getElem?_append_left hj] at h
    obtain ⟨q', t', u', e1, e2⟩ := x.2 j k' h
    exact ⟨q', t', u', by rw [List.getElem?_append_left (by rw [x.1]; exact hj)]; exact e1, List.mem_append_left _ e2⟩
  · rw [List.getElem?_append_right (by omega)] at h
    have hj0 : j - ks.length = 0 := by
      by_cases h0 : j - ks.length = 0
      · exact h0
      · rw [List.getElem?_eq_none (by simp; omega)] at h; cases h
    rw [hj0] at h
    obtain rfl : k = k' := Option.some.inj h
    refine ⟨q, t, u, ?_, List.mem_append_right _ (by rw [e]; exact .head _)⟩
    rw [List.getElem?_append_right (by rw [x.1]; omega), x.1, hj0]
    rfl
theorem CostAt.pick {c : Nat → Int} {tups : List (Addr × Obj)} {ys : List Value} {ks : List Nat} (x : CostAt c tups ys ks) : ∃ t u : Nat → Tok, ∀ i, i < ys.length → ∃ q, ys[i]? = some (.ref q) ∧ (q, tupO [.int (c (ks.getD i 0)) (t i), .int ((ks.getD i 0 : Nat) : Int) (u i)]) ∈ tups := by
  have h : ∀ i, ∃ tu : Tok × Tok, i < ys.length → ∃ q, ys[i]? = some (.ref q) ∧ (q, tupO [.int (c (ks.getD i 0)) tu.1, .int ((ks.getD i 0 : Nat) : Int) tu.2]) ∈ tups := by
    intro i
    by_cases hi : i < ys.length
    · have hk : i < ks.length := by rw [← x.1]; exact hi
      obtain ⟨q, t, u, e1, e2⟩ := x.2 i ks[i] (List.getElem?_eq_getElem hk)
      refine ⟨(t, u), fun _ => ⟨q, e1, ?_⟩⟩
      rw [List.getD_eq_getElem?_getD, List.getElem?_eq_getElem hk]
      exact e2
    · exact ⟨(default, default), fun h => absurd h hi⟩
  obtain ⟨f, hf⟩ := Classical.axiomOfChoice h
  exact ⟨fun i => (f i).1, fun i => (f i).2, hf⟩
section
variable {prog : Program} {w : World} {A : Around} {E : Value → Shared → Prop} {s : Shared} {h₀ : Heap} {L : Addr} {m : PySem.Str → Option Value} {news : List (Addr × Obj)}
theorem my_append {l : Addr} {xs : List Value} {n : Nat} {v : Value} {Q : Value → Shared → Prop} (rest : List (Addr × Obj)) (F : Fr h₀ L s.heap m) (N : News h₀ L s.heap news) (hl : (l, listOf xs.toArray n) ∈ news)
    (hr : ∀ p ∈ rest, p ∈ news ∧ p.1 ≠ l) (hx : xs.length ≤ 1000000)
    (h : ∀ h' n', Fr h₀ L h' m → News h₀ L h' ((l, listOf (xs ++ [v]).toArray n') :: rest) → Q .none { s with heap := h' }) :
    wpAny (model prog w) A (call (.builtin "list.append") [.ref l, v]) Q E s := by
  have z := N _ hl
  refine wpAny_call_entry PySem.F.slot_list_append ⟨_, z.1, rfl⟩ PySem.F.entry_list_append ?_ (PySem.F.args_list_append_2 _ _)
  show wpAny _ _ (updateSeq l (·.push v) >>= fun _ => ret .none) _ _ s
  refine wpAny_bind ?_
  refine wpAny_updateSeq z.1 rfl (wpAny_pure ⟨.none, rfl, ?_⟩) (hz := by rw [sizeLine_eq, List.size_toArray]; omega) (_hz' := by rw [sizeLine_eq, Array.size_push, List.size_toArray]; omega)
  have q := get?_update_seq (c := "list") z.1 (fun a => a.push v)
  obtain ⟨F', N'⟩ := led_change (rest := rest) F N hl q (fun b o hb e => (Heap.SameBut.update s.heap l _).extBut b o hb e) hr
  have e : xs.toArray.push v = (xs ++ [v]).toArray := by simp
  rw [e] at N'
  exact h _ _ F' N'
end
end C1s
section EQs
/-- a table of pairs, as data -/
def pdata (p : PySem.Str × PySem.Str) : PyData := .tuple [.str p.1, .str p.2]
section
variable {prog : Program} {w : World} {A : Around} {E : Value → Shared → Prop} {s : Shared}
end
end EQs
section SCs
open LCg
section
variable {prog : Program} {w : World} {A : Around} {E : Value → Shared → Prop} {s : Shared} {h₀ : Heap} {L : Addr} {m : PySem.Str → Option Value} {env : Env}
/-- a text as the source of a comprehension -/
def SrcS (prog : Program) (w : World) (A : Around) (h₀ : Heap) (L : Addr) (m : PySem.Str → Option Value) (env : Env) (elt : PySem.Expr) (x : PySem.Str) (scope : Scope) (cl : List (PySem.Str × Addr)) (Fin : Shared → List Value → List (Addr × Obj) → Prop) (xv : Value) (s₁ : Shared) : Prop :=
  ∃ ws t news, xv = .str ws t ∧ ws.cps.all (· < 128) = true ∧ A.handled = none ∧ Fr h₀ L s₁.heap m ∧ News h₀ L s₁.heap news ∧ ws.cps.size ≤ sizeLine ∧
    ∀ g, CompRest prog w A h₀ L m env elt x scope cl { s₁ with heap := g } (fun _ => True) (fun i v => ∃ c u, ws.cps[i]? = some c ∧ v = .str ⟨#[c]⟩ u) (Fin { s₁ with heap := g }) ws.cps.size 0 [] news
end
end SCs
section LDs
/-- runs of blanks, each with a tab behind it -/
def tabs : List Nat → List Nat
  | [] => []
  | c :: r => List.replicate c 32 ++ 9 :: tabs r
theorem tabs_app : ∀ a b : List Nat, tabs (a ++ b) = tabs a ++ tabs b
  | [], _ => rfl
  | c :: r, b => by
    show List.replicate c 32 ++ 9 :: tabs (r ++ b) = (List.replicate c 32 ++ 9 :: tabs r) ++ tabs b
    rw [tabs_app r b]; simp
theorem tabs_len : ∀ cs : List Nat, (tabs cs).length = cs.sum + cs.length
  | [] => rfl
  | c :: r => by
    show (List.replicate c 32 ++ 9 :: tabs r).length = _
    rw [List.length_append, List.length_cons, List.length_replicate, tabs_len r, List.sum_cons, List.length_cons]
    omega
theorem tabs_mem : ∀ (cs : List Nat), ∀ c ∈ tabs cs, c = 32 ∨ c = 9
  | [], _, h => nomatch h
  | k :: r, c, h => by
    rcases List.mem_append.mp (show c ∈ List.replicate k 32 ++ 9 :: tabs r from h) with h | h
    · exact .inl (List.eq_of_mem_replicate h)
    · rcases List.mem_cons.mp h with h | h
      · exact .inr h
      · exact tabs_mem r c h
theorem wsRun_blanks (r : List Nat) (cnt : List Int) (nt : Int) : ∀ (k : Nat) (b n : Int), wsRun (List.replicate k 32 ++ r) cnt b n nt = wsRun r cnt (b + (k : Int)) (n + (k : Int)) nt
  | 0, b, n => by simp
  | k + 1, b, n => by
    rw [List.replicate_succ, List.cons_append]
    show (if 32 = 32 then wsRun (List.replicate k 32 ++ r) cnt (b + 1) (n + 1) nt else _) = _
    rw [if_pos rfl, wsRun_blanks r cnt nt k]
    congr 1 <;> omega
def counts (cnt : List Int) (cs : List Nat) : List Int := cs.foldl (fun c (b : Nat) => bump c (b : Int)) cnt
theorem wsRun_tabs (r : List Nat) : ∀ (cs : List Nat) (cnt : List Int) (n nt : Int), wsRun (tabs cs ++ r) cnt 0 n nt = wsRun r (counts cnt cs) 0 (n + ((cs.sum + cs.length : Nat) : Int)) (nt + (cs.length : Int))
  | [], cnt, n, nt => by
    show wsRun r cnt 0 n nt = wsRun r cnt 0 (n + 0) (nt + 0)
    rw [Int.add_zero, Int.add_zero]
  | c :: cs, cnt, n, nt => by
    show wsRun ((List.replicate c 32 ++ 9 :: tabs cs) ++ r) cnt 0 n nt = _
    rw [List.append_assoc, wsRun_blanks]
    show (if 9 = 32 then _ else if 9 = 9 then wsRun (tabs cs ++ r) (bump cnt (0 + (c : Int))) 0 (n + (c : Int) + 1) (nt + 1) else _) = _
    rw [if_neg (by decide), if_pos rfl, wsRun_tabs r cs, Int.zero_add]
    show wsRun r (counts (bump cnt (c : Int)) cs) 0 _ _ = wsRun r (counts (bump cnt (c : Int)) cs) 0 _ _
    rw [List.sum_cons, List.length_cons]
    congr 1 <;> omega
/-- the column of all the counts up to n -/
def full (cnt : List Int) (z : Nat) : Nat → Int
  | 0 => 0
  | n + 1 => full cnt z n + ((n / z : Nat) : Int) * cnt.getD n 0
theorem full_stop {cnt : List Int} {z : Nat} : ∀ {n : Nat}, cnt.length ≤ n → full cnt z n = full cnt z cnt.length
  | 0, h => by rw [show cnt.length = 0 by omega]
  | n + 1, h => by
    by_cases e : cnt.length = n + 1
    · rw [e]
    · show full cnt z n + _ = _
      rw [full_stop (n := n) (by omega), List.getD_eq_getElem?_getD, List.getElem?_eq_none (by omega)]
      simp
theorem full_low {cnt : List Int} {z : Nat} : ∀ {n : Nat}, n ≤ z → full cnt z n = 0
  | 0, _ => rfl
  | n + 1, h => by
    show full cnt z n + _ = 0
    rw [full_low (by omega), Nat.div_eq_of_lt (by omega)]
    simp
theorem indIl_full {cnt : List Int} {z : Nat} (hz : 1 ≤ z) : ∀ k : Nat, indIl cnt (z : Int) k = full cnt z (z + k)
  | 0 => (full_low (Nat.le_refl _)).symm
  | k + 1 => by
    show indIl cnt (z : Int) k + Int.fdiv ((z : Int) + (k : Int)) (z : Int) * cnt.getD ((z : Int) + (k : Int)).toNat 0 = full cnt z (z + k) + _
    rw [indIl_full hz k, show ((z : Int) + (k : Int)) = ((z + k : Nat) : Int) by omega]
    rw [show Int.fdiv ((z + k : Nat) : Int) (z : Int) = (((z + k) / z : Nat) : Int) from (Int.ofNat_fdiv _ _).symm]
    rfl
theorem indent_full {cnt : List Int} {b nt : Int} {z : Nat} (hz : 1 ≤ z) : indent cnt b nt (z : Int) = b + (z : Int) * (full cnt z cnt.length + nt) := by
  unfold indent
  rw [indIl_full hz]
  by_cases h : cnt.length ≤ z
  · rw [show ((cnt.length : Int) - (z : Int)).toNat = 0 by omega, full_low (by omega), full_low h]
  · rw [show z + ((cnt.length : Int) - (z : Int)).toNat = cnt.length by omega]
theorem zeros_get : ∀ (k i : Nat), ((List.replicate k [(0 : Int)]).flatten)[i]?.getD 0 = 0
  | 0, i => by simp
  | k + 1, 0 => by rw [List.replicate_succ]; rfl
  | k + 1, i + 1 => by
    rw [List.replicate_succ, List.flatten_cons]
    have := zeros_get k i
    simpa using this
theorem bump_get {cnt : List Int} {b : Nat} (i : Nat) : (bump cnt (b : Int)).getD i 0 = cnt.getD i 0 + (if i = b then 1 else 0) := by
  unfold bump
  dsimp only
  generalize hc : (if (cnt.length : Int) ≤ (b : Int) then cnt ++ (List.replicate ((b : Int) - cnt.length + 1).toNat [(0 : Int)]).flatten else cnt) = c
  have h1 : ∀ i, c.getD i 0 = cnt.getD i 0 := by
    intro i
    rw [← hc]
    split
    · rw [List.getD_eq_getElem?_getD, List.getD_eq_getElem?_getD]
      by_cases hi : i < cnt.length
      · rw [List.getElem?_append_left hi]
      · rw [List.getElem?_append_right (by omega), zeros_get, List.getElem?_eq_none (by omega : cnt.length ≤ i)]
        rfl
    · rfl
  have h2 : b < c.length := by
    rw [← hc]
    split
    · rw [List.length_append, flat_len]; omega
    · omega
  rw [show ((b : Int)).toNat = b from Int.toNat_natCast b, List.getD_eq_getElem?_getD, List.getElem?_set]
  by_cases e : b = i
  · subst e
    rw [if_pos rfl, if_pos h2, if_pos rfl, ← h1 b]
    rfl
  · rw [if_neg e, if_neg (fun q => e q.symm), ← List.getD_eq_getElem?_getD, h1 i]
    omega
theorem full_bump {cnt : List Int} {b z : Nat} : ∀ n : Nat, full (bump cnt (b : Int)) z n = full cnt z n + (if b < n then ((b / z : Nat) : Int) else 0)
  | 0 => by simp [full]
  | n + 1 => by
    show full (bump cnt (b : Int)) z n + ((n / z : Nat) : Int) * (bump cnt (b : Int)).getD n 0 = full cnt z n + ((n / z : Nat) : Int) * cnt.getD n 0 + _
    rw [full_bump n, bump_get]
    by_cases e : n = b
    · subst e
      rw [if_neg (Nat.lt_irrefl _), if_pos rfl, if_pos (Nat.lt_succ_self _), Int.mul_add]
      omega
    · rw [if_neg e, Int.add_zero]
      by_cases h : b < n
      · rw [if_pos h, if_pos (by omega)]; omega
      · rw [if_neg h, if_neg (by omega)]; omega
theorem full_counts {z : Nat} : ∀ (cs : List Nat) (cnt : List Int), full (counts cnt cs) z (counts cnt cs).length = full cnt z cnt.length + (((cs.map (· / z)).sum : Nat) : Int)
  | [], cnt => by show full cnt z cnt.length = full cnt z cnt.length + 0; omega
  | c :: r, cnt => by
    show full (counts (bump cnt (c : Int)) r) z (counts (bump cnt (c : Int)) r).length = _
    rw [full_counts r, List.map_cons, List.sum_cons]
    have e : full (bump cnt (c : Int)) z (bump cnt (c : Int)).length = full cnt z cnt.length + ((c / z : Nat) : Int) := by
      have h1 := full_stop (cnt := bump cnt (c : Int)) (z := z) (n := (bump cnt (c : Int)).length + cnt.length + c + 1) (by omega)
      have h2 := full_stop (cnt := cnt) (z := z) (n := (bump cnt (c : Int)).length + cnt.length + c + 1) (by omega)
      rw [← h1, full_bump, if_pos (by omega), h2]
    rw [e]
    omega
/-- the column of a lead -/
def lcol (cs : List Nat) (z : Nat) : Nat := z * ((cs.map (· / z)).sum + cs.length)
theorem indent_tabs {cs : List Nat} {b : Int} {z : Nat} (hz : 1 ≤ z) : indent (counts [] cs) b (cs.length : Int) (z : Int) = b + ((lcol cs z : Nat) : Int) := by
  rw [indent_full hz, full_counts]
  unfold lcol
  show b + (z : Int) * (0 + (((cs.map (· / z)).sum : Nat) : Int) + (cs.length : Int)) = _
  rw [Int.zero_add, Int.natCast_mul, Int.natCast_add]
/-- texts, by their signs -/
theorem mul_list (n : Nat) : (Txt.mul " " (n : Int)).cps.toList = List.replicate n 32 := by
  unfold Txt.mul
  by_cases h0 : n = 0
  · subst h0; rw [if_pos (by decide)]; rfl
  rw [if_neg (by omega)]
  have key : ∀ (k : Nat) (acc : Array Nat), ((List.replicate k (" " : PySem.Str).cps).foldl (· ++ ·) acc).toList = acc.toList ++ List.replicate k 32 := by
    intro k
    induction k with
    | zero => intro acc; simp
    | succ k ih =>
      intro acc
      rw [List.replicate_succ, List.foldl_cons, ih, List.replicate_succ]
      have : (" " : PySem.Str).cps = #[32] := by decide +kernel
      rw [this]
      simp
  by_cases h1 : n = 1
  · subst h1; rw [if_pos (by decide +kernel)]; decide +kernel
  · rw [if_neg (by
      have : ((" " : PySem.Str).length == 0) = false := by decide +kernel
      rw [this]; simp; omega)]
    show ((List.replicate (n : Int).toNat (" " : PySem.Str).cps).foldl (· ++ ·) #[]).toList = _
    rw [Int.toNat_natCast, key]
    rfl
theorem app_list (a b : PySem.Str) : (a ++ b).cps.toList = a.cps.toList ++ b.cps.toList := by
  show (a.cps ++ b.cps).toList = _
  simp
theorem join_list0 (ys : List PySem.Str) : (Txt.join "" ys).cps.toList = (ys.map (·.cps.toList)).flatten := by
  show (Builtin.Str.glued "" ys).cps.toList = _
  rw [StrLaws.glued_eq_join]
  induction ys with
  | nil => rfl
  | cons a r ih =>
    cases r with
    | nil => show a.cps.toList = _; simp
    | cons b r =>
      show (a ++ "" ++ PySem.Str.join "" (b :: r)).cps.toList = _
      rw [app_list, app_list, ih]
      have : ("" : PySem.Str).cps.toList = [] := by decide +kernel
      rw [this]
      simp
theorem str_of_list {x : PySem.Str} {l : List Nat} (h : x.cps.toList = l) : x = ⟨l.toArray⟩ := by
  cases x with
  | mk c => rw [← h]
/-- how a turn of a while may end, told by frame and ledger -/
def WLEnd (s : Shared) (h₀ : Heap) (L : Addr) (J : Nat → (PySem.Str → Option Value) → List (Addr × Obj) → Prop) (k : Nat) (Q : Flow → Shared → Prop) (f : Flow) (s₃ : Shared) : Prop :=
  match f with
  | .ret v => Q (.ret v) s₃
  | .brk => Q .next s₃
  | _ => ∃ h tk m news k', s₃ = { s with heap := h, toks := tk } ∧ Fr h₀ L h m ∧ News h₀ L h news ∧ k' < k ∧ J k' m news
section
variable {prog : Program} {w : World} {A : Around} {s : Shared} {env : Env} {Q : Flow → Shared → Prop}
end
end LDs
section BYs
open LCg
section
variable {prog : Program} {w : World} {A : Around} {s : Shared} {env : Env} {Q : Flow → Shared → Prop}
theorem letGo_bytes {target : PySem.Expr} {I : Addr} {b : Array UInt8} {t : Tok} {i : Nat} {v : Value} {Q' : Unit → Shared → Prop} {s' : Shared} (hit : KBw.IsBytesIter s'.heap I b t i) (h : Q' () s') :
    wpAny (model prog w) A (letOwnedTupleGo target (.ref I) v) Q' NoE s' := by
  obtain ⟨o, ho, hc, hd⟩ := hit
  unfold letOwnedTupleGo
  cases target <;> first
    | exact wpAny_pure h
    | (cases v <;> first
        | exact wpAny_pure h
        | (refine wpAny_bind (wpAny_load ho ?_)
           rw [hc, hd]
           exact wpAny_pure h))
/-- over bytes -/
theorem for_bytes {h₀ : Heap} {target : PySem.Expr} {body : List Stmt} {bs : Array UInt8} {t : Tok} {m₀ : PySem.Str → Option Value} {news₀ : List (Addr × Obj)}
    (hh : A.handled = none) (F : Fr h₀ env.locals s.heap m₀) (N : News h₀ env.locals s.heap news₀)
    (J : Nat → (PySem.Str → Option Value) → List (Addr × Obj) → Prop) (Jx : (PySem.Str → Option Value) → List (Addr × Obj) → Prop) (h0 : J 0 m₀ news₀)
    (turn : ∀ (i : Nat) (c : UInt8) u m₁ news₁ h tk I o, bs[i]? = some c → J i m₁ news₁ → (∀ p ∈ news₁, p.1 ≠ I) → Fr h₀ env.locals h m₁ → News h₀ env.locals h ((I, o) :: news₁) →
      wpAny (model prog w) A (assign target env (.int (c.toNat : Int) u)) (fun _ s₂ => wpAny (model prog w) A (execs body env) (FEnd s h₀ env.locals I o (J (i + 1)) Jx Q) NoE s₂) NoE { s with heap := h, toks := tk })
    (hJx : ∀ m news, J bs.size m news → Jx m news)
    (done : ∀ h tk m₁ news₁, Jx m₁ news₁ → Fr h₀ env.locals h m₁ → News h₀ env.locals h news₁ → Q .next { s with heap := h, toks := tk }) :
    wpAny (model prog w) A (pyIter (.bytes bs t)) (ForOn prog w A target body env Q) NoE s := by
  have nn : ∀ p ∈ news₀, p.1 ≠ s.heap.objs.size := fun p hp e => absurd (Heap.lt_size (N p hp).1) (by rw [e]; exact Nat.lt_irrefl _)
  refine KBw.pyIter_bytes ?_
  refine for_led (kl := []) (KBw.walks hh _ bs t) (.head _) (fun b hb => .inl (List.mem_singleton.mp hb)) (next_is_new F) (Nat.ne_of_lt F.ns.lt) (fun b hb => List.mem_singleton.mp hb) (fun i h hs => ?_) (fun i s' v Q' st hq => letGo_bytes st hq)
    J Jx (fun _ _ _ _ p hp => nomatch hp) h0 ⟨_, Heap.get?_push_size _ rfl, rfl, rfl⟩ (F.push _) (fun p hp => ⟨Heap.get?_push_of_some _ (N p hp).1, (N p hp).2⟩) nn ?_ hJx done
  · obtain ⟨o, ho, _⟩ := hs
    exact ⟨o, ho⟩
  · rintro i v m₁ news₁ h tk o hi ⟨c, u, hc, rfl⟩ hJ hnI F₁ N₁
    exact turn i c u m₁ news₁ h tk _ o hc hJ hnI F₁ N₁
end
section
variable {prog : Program} {w : World} {A : Around} {E : Value → Shared → Prop} {s : Shared} {h₀ : Heap} {L : Addr} {m : PySem.Str → Option Value} {env : Env}
/-- bytes as the source of a comprehension with a test -/
def SrcB (prog : Program) (w : World) (A : Around) (h₀ : Heap) (L : Addr) (m : PySem.Str → Option Value) (env : Env) (ct elt : PySem.Expr) (x : PySem.Str) (scope : Scope) (cl : List (PySem.Str × Addr)) (Fin : Shared → List Value → List (Addr × Obj) → Prop) (xv : Value) (s₁ : Shared) : Prop :=
  ∃ bs t news, xv = .bytes bs t ∧ A.handled = none ∧ Fr h₀ L s₁.heap m ∧ News h₀ L s₁.heap news ∧ bs.size ≤ sizeLine ∧
    ∀ g, LCt.CompRestT prog w A h₀ L m env ct elt x scope cl { s₁ with heap := g } (fun _ => True) (fun i v => ∃ c u, bs[i]? = some c ∧ v = .int (c.toNat : Int) u) (Fin { s₁ with heap := g }) bs.size 0 [] news
theorem comp_bytes {ct elt iter : PySem.Expr} {x : PySem.Str} {px : Pos} {scope : Scope} {cl : List (PySem.Str × Addr)} {pos : Pos} {Q : Value → Shared → Prop} (_F₀ : Fr h₀ L s.heap m)
    (hclos : closureFor scope env = pure cl) (hcell : ∀ z ∈ scope.names, z.2 ≠ .cell) (hkind : scope.kind = .function)
    (hnames : ∀ z ∈ scope.names, z.2 = .local → scope.names.lookup z.1 = some .local) (hx : scope.names.lookup x = some .local)
    (h : wpAny (model prog w) A (eval iter env) (SrcB prog w A h₀ L m env ct elt x scope cl (fun s₂ => FinE h₀ L m s₂ Q)) E s)
    (hs : ∀ x, foldedSetIterable iter env x = pure x := by intro _; rfl) :
    wpAny (model prog w) A (eval (.ListComp elt [⟨.Name x px, iter, [ct], 0⟩] scope pos) env) Q E s := by
  rw [eval_ListComp]
  refine wpAny_comprehension_free (use := none) rfl hs hclos hkind hnames (wpAny_mono h (fun xv s₁ h₁ => ?_) fun _ _ e => e)
  obtain ⟨bs, t, news, rfl, hh, F, N, hsz, R⟩ := h₁
  refine KBw.pyIter_bytes ?_
  refine LCt.block_T (KBw.walks hh s₁.heap.objs.size bs t) hsz (fun i h st => ?io) (fun i h h' o nw st e e' _ _ _ => ?st) hcell hkind hx ⟨_, Heap.get?_push_size _ rfl, rfl, rfl⟩ (fun b hb => ?fp)
    (F.keeps fun _ _ e => Heap.get?_push_of_some _ e) (N.grown fun _ _ e => Heap.get?_push_of_some _ e) (Nat.ne_of_lt F.ns.lt) (next_is_new F) (fun p hp => Nat.ne_of_lt (Heap.lt_size (N p hp).1)) trivial (R _) ?fin
  case io =>
    obtain ⟨o, ho, _⟩ := st
    exact ⟨o, ho⟩
  case st =>
    obtain ⟨o1, ho, r⟩ := st
    rw [e] at ho
    obtain rfl := Option.some.inj ho
    exact ⟨_, e', r⟩
  case fp =>
    rw [List.mem_singleton.mp hb]
    show s₁.heap.objs.size < (s₁.heap.push _).objs.size
    rw [Heap.size_push]
    exact Nat.lt_succ_self _
  case fin =>
    intro D C h tk m' ys news' F' N' o1 hn hC₀ hD₀ hCL hDL hCD offC fin
    refine ⟨m', hn, fun h'' hs'' => fin D h'' tk (F'.change hs'' hCL hC₀) (fun p hp => ?_) o1⟩
    refine ⟨hs''.extBut _ _ ?_ (N' p hp).1, (N' p hp).2⟩
    rcases List.mem_cons.mp hp with rfl | hp
    · exact Ne.symm hCD
    · exact offC p hp
end
/-- the number of a word -/
def apVal : List UInt8 → Int → Int
  | [], n => n
  | c :: r, n => apVal r (16 * n + (c.toNat : Int) - 65)
theorem apVal_app : ∀ (a b : List UInt8) (n : Int), apVal (a ++ b) n = apVal b (apVal a n)
  | [], _, _ => rfl
  | _ :: r, b, n => apVal_app r b _
theorem apVal_ap (n : Nat) : apVal (apN n) 0 = (n : Int) := by
  induction n using Nat.strongRecOn with
  | ind n ih =>
    by_cases h : n = 0
    · rw [h, apN_zero]; rfl
    · rw [apN_pos h, apVal_app, ih (n / 16) (by omega)]
      show 16 * ((n / 16 : Nat) : Int) + ((UInt8.ofNat (65 + n % 16)).toNat : Int) - 65 = _
      rw [UInt8.toNat_ofNat']
      omega
end BYs
section EKs
/-- a call of a function that gathers keywords, of which none are given -/
theorem enterK {K : Frag} {prog : Program} {w : World} {s : Shared} {A : Around} {f : Addr} {args : Args} {name qual : PySem.Str} {params : Arguments} {body : List Stmt} {scope : Scope}
    {dV kV doc pm cdv ct oc : Value} {an od : Option Addr} {osl : Array (Option Value)} {binds : Addr → List (PySem.Str × Value)} {R : Result → Shared → Prop}
    {h₀ : Heap} {p : Program} {loose : List PySem.Str} {mean : ExcName → Option Value} {mg mb : PySem.Str → Option Value} {news : List (Addr × Obj)}
    (X : K.In h₀) (T : Top p loose mean mg mb h₀) (hk : h₀.StaysIn s.heap) (hn : ∀ q ∈ news, s.heap.get? q.1 = some q.2 ∧ h₀.get? q.1 = none)
    (ho : K.lookup f = some ⟨oc, od, .func (fnOf name qual params body scope dV kV doc pm an cdv ct), osl⟩) (hcd : codeIn K cdv qual = true) (hroom : A.depth < recursionLimit)
    (hb : bindArgs (fnOf name qual params body scope dV kV doc pm an cdv ct) args = (alloc { cls := .type "dict", data := .dict #[] } >>= fun d => pure (binds d))) (hloc : ∀ d, ∀ y ∈ binds d, scope.names.lookup y.1 = some .local)
    (h : ∀ g L h₁ D, h₀.StaysIn g → SB s.heap g (news.map (·.1)) → s.heap.get? D = none → Fr g L h₁ (fun y => (binds D).reverse.lookup y) → News g L h₁ ((D, { cls := .type "dict", data := .dict #[] }) :: news) → (∀ q ∈ news, q.1 < D) → (D == sysModules) = false → @Eq Nat D s.heap.objs.size → K.In g → Top p loose mean mg mb g →
      wpAny (model prog w) (A.deeper (envOf qual scope L f cdv)) (execs body (envOf qual scope L f cdv))
        (fun fl s' => R (.ok (.ret (match fl with | .ret v => v | _ => .none))) s') NoE { s with heap := h₁, toks := s.toks + (binds D).length })
    (hco : scope.isCoroutine = false) (hgen : scope.isGenerator = false) (hkd : scope.kind = .function) (hcell : ∀ x ∈ scope.names, x.2 ≠ .cell) :
    codeAny (model prog w) A (.call (.ref f) args) R s := by
  have Xs : K.In s.heap := X.keeps hk
  have hD0 : s.heap.get? s.heap.objs.size = none := by
    cases e : s.heap.get? s.heap.objs.size with
    | none => rfl
    | some o => exact absurd (Heap.lt_size e) (Nat.lt_irrefl _)
  refine codeAny_call_function (fd := fnOf name qual params body scope dV kV doc pm an cdv ct) (body := body) hroom (Xs _ _ ho) rfl hco hgen rfl (codeRec_of Xs hcd) ?_
  rw [hb]
  refine wpAny_bind (wpAny_alloc (wpAny_pure ?_))
  generalize hH : s.heap.push { cls := .type "dict", data := .dict #[] } = H
  have old : ∀ b o, s.heap.get? b = some o → H.get? b = some o := fun b o e => hH ▸ Heap.get?_push_of_some _ e
  have hDH : H.get? s.heap.objs.size = some { cls := .type "dict", data := .dict #[] } := hH ▸ Heap.get?_push_size _ rfl
  have hk' : h₀.StaysIn H := fun b o e => old b o (hk b o e)
  have hn' : ∀ q ∈ (s.heap.objs.size, ({ cls := .type "dict", data := .dict #[] } : Obj)) :: news, H.get? q.1 = some q.2 ∧ h₀.get? q.1 = none := by
    intro q hq
    rcases List.mem_cons.mp hq with rfl | hq
    · refine ⟨hDH, ?_⟩
      cases e : h₀.get? s.heap.objs.size with
      | none => rfl
      | some o => rw [hk _ _ e] at hD0; cases hD0
    · exact ⟨old _ _ (hn q hq).1, (hn q hq).2⟩
  generalize hN : (s.heap.objs.size, ({ cls := .type "dict", data := .dict #[] } : Obj)) :: news = news' at hn'
  have nm : ∀ b o, h₀.get? b = some o → b ∉ news'.map (·.1) := fun b o e q => by
    obtain ⟨p, hp, rfl⟩ := List.mem_map.mp q
    rw [(hn' p hp).2] at e; cases e
  have st : h₀.StaysIn (hideAll H (news'.map (·.1))) := fun b o e => hideAll_get _ (hk' b o e) (nm b o e)
  refine wpAny_newFunctionEnv hcell (hloc _) (fun h₁ hns hsb => ⟨(T.nolimit.keeps hk').fresh _ hsb, codeAny_func ?_⟩) hkd
  have hk₁ : ∀ b o, H.get? b = some o → h₁.get? b = some o := fun b o e => hsb.extBut b o (Nat.ne_of_lt (Heap.lt_size e)) (Heap.get?_push_of_some _ e)
  refine wpAny_mono (h (hideAll H (news'.map (·.1))) _ h₁ s.heap.objs.size st (fun b o e hb' => hideAll_get _ (old b o e) ?_) hD0 ⟨hns, fun b o e => hk₁ b o (of_hideAll _ e), Nat.le_of_eq (hideAll_size _ _)⟩ ?_ (fun q hq => Heap.lt_size (hn q hq).1) (beq_eq_false_iff_ne.mpr (Nat.ne_of_gt (modules_low (T.nolimit.keeps hk)))) rfl (X.keeps fun b o e => st b o e) (T.keeps fun b o e => st b o e)) (fun fl s' hq => hq) fun _ _ e => e.elim
  · rw [← hN, List.map_cons]
    intro q
    rcases List.mem_cons.mp q with q | q
    · rw [q, hD0] at e; cases e
    · exact hb' q
  · rw [hN]
    intro q hq
    exact ⟨hk₁ _ _ (hn' q hq).1, Nat.ne_of_lt (Heap.lt_size (hn' q hq).1), hideAll_none _ (List.mem_map_of_mem hq)⟩
theorem empty_dict {prog : Program} {w : World} : (dictOf [] 0 : Obj).IsDictOf (PySem.strKind prog w) [] :=
  ⟨#[], 0, ⟨rfl, rfl, rfl⟩, rfl, fun e he => absurd he (by simp), Pairs.nil, List.nodup_nil⟩
section
variable {prog : Program} {w : World} {A : Around} {s : Shared} {env : Env} {Q : Flow → Shared → Prop} {h₀ : Heap}
/-- over the items of a dict that has none -/
theorem for_items0 {target : PySem.Expr} {body : List Stmt} {vw D : Addr} {m : PySem.Str → Option Value} {news : List (Addr × Obj)} (hh : A.handled = none) (F : Fr h₀ env.locals s.heap m) (N : News h₀ env.locals s.heap news)
    (hv : s.heap.IsItemsView vw D) (hD : (D, (dictOf [] 0 : Obj)) ∈ news)
    (done : ∀ h tk, Fr h₀ env.locals h m → News h₀ env.locals h news → Q .next { s with heap := h, toks := tk }) :
    wpAny (model prog w) A (pyIter (.ref vw)) (ForOn prog w A target body env Q) NoE s := by
  obtain ⟨ep, hat⟩ := (kda_dict N hD (empty_dict (prog := prog) (w := w))).dictAt
  refine wpAny_pyIter_items (knd := PySem.strKind prog w) hv hat ?_
  refine codeAny_forLoop_any (fun _ s' => s' = { s with heap := s.heap.push { cls := .type "dict_itemiterator", data := .fields #[.none, .bool false, .ref D, .int 0 0, .int ([] : List (PySem.Str × Value)).length 0, .int ep 0, .none, .none] } }) ?_ 0 rfl
  rintro n s' rfl
  refine wpAny_pyNext_items_end (knd := PySem.strKind prog w) (kvs := []) hh (Heap.get?_push_size _ rfl) (hat.push _) rfl fun h' hx => ?_
  dsimp only
  refine wpAny_execs_nil ?_
  have old : ∀ b o, s.heap.get? b = some o → h'.get? b = some o := fun b o e => hx _ _ (Nat.ne_of_lt (Heap.lt_size e)) (Heap.get?_push_of_some _ e)
  exact done h' s.toks (F.keeps old) (N.grown old)
end
end EKs
section SRs
section
variable {prog : Program} {w : World} {A : Around} {E : Value → Shared → Prop} {s : Shared} {h₀ : Heap} {L a : Addr} {m : PySem.Str → Option Value} {news : List (Addr × Obj)} {vs : List Value}
/-- list.sort with reverse, by the questions it asks -/
theorem rev_tree {n : Nat} {P : PySem.Fin → Shared → Prop} (F : Fr h₀ L s.heap m) (N : News h₀ L s.heap news) (ho : s.heap.get? a = some (seqObj "list" vs.toArray n)) (haL : a ≠ L) (ha0 : h₀.get? a = none) (hna : ∀ p ∈ news, p.1 ≠ a)
    (h2 : 2 ≤ vs.length) (h64 : vs.length < 64)
    (h : ∀ e1 h', Fr h₀ L h' m → News h₀ L h' ((a, seqObj "list" #[] e1) :: news) →
      wpAny (model prog w) A (keyKind' vs.toArray) (fun κ s' => (kas_sort vs.reverse.length).kasWp (kas_ask prog w A κ vs.reverse) (fun p s'' => KasFin h₀ L m a e1 (p.toList.map fun i => vs.reverse.getD i Value.none).reverse (fun s3 => P (.done (.ret .none)) s3) s'') s') (fun _ _ => False) { s with heap := h' }) :
    wpAny (model prog w) A (Builtin.«list.sort» ⟨[.ref a], [(PySem.Str.ofString "reverse", .bool true)]⟩) P E s := by
  have s1 := Heap.SameBut.update s.heap a (Obj.mapSeq fun _ => (#[] : Array Value))
  obtain ⟨e1, ho1⟩ : ∃ e1, (s.heap.update a (Obj.mapSeq fun _ => (#[] : Array Value))).get? a = some (seqObj "list" #[] e1) := ⟨_, get?_update_seq ho fun _ => #[]⟩
  have F3 : Fr h₀ L (((s.heap.update a (Obj.mapSeq fun _ => (#[] : Array Value))).push (seqObj "tuple" vs.toArray 0)).push (seqObj "list" #[] 0)) m := ((kas_fr F s1 haL ha0).push _).push _
  have N2 : News h₀ L (((s.heap.update a (Obj.mapSeq fun _ => (#[] : Array Value))).push (seqObj "tuple" vs.toArray 0)).push (seqObj "list" #[] 0)) news :=
    (kas_news N s1 hna).grown fun b x e => Heap.get?_push_of_some _ (Heap.get?_push_of_some _ e)
  have ask := h e1 _ F3 fun p hp => by
    rcases List.mem_cons.mp hp with rfl | hp
    · exact ⟨Heap.get?_push_of_some _ (Heap.get?_push_of_some _ ho1), haL, ha0⟩
    · exact N2 p hp
  rw [list_sort_rev]
  refine wpAny_bind (listItems_at ho rfl ?_)
  refine wpAny_bind (listUpdate_at ho rfl ?_ (by rw [List.size_toArray, sizeLine_eq]; omega) (Nat.zero_le _))
  refine wpAny_bind (seqEpoch_at ho1 rfl ?_)
  refine wpAny_bind (wpAny_newTuple ?_ (by show vs.length ≤ _; rw [sizeLine_eq]; omega))
  refine wpAny_bind (wpAny_newList ?_ (Nat.zero_le _))
  refine wpAny_holding ?_
  show wpAny (model prog w) A _ P E { s with heap := ((s.heap.update a (Obj.mapSeq fun _ => (#[] : Array Value))).push (seqObj "tuple" vs.toArray 0)).push (seqObj "list" #[] 0) }
  dsimp only
  have hn2 : ¬ vs.toArray.size < 2 := by rw [List.size_toArray]; omega
  rw [if_pos rfl, if_neg hn2, if_neg hn2]
  refine wpAny_bind (wpAny_rule ?_)
  have hp : (if true = true then (vs.toArray.zip vs.toArray).reverse else vs.toArray.zip vs.toArray) = vs.reverse.toArray.zip vs.reverse.toArray := kat_pairs (ks := vs) (vs := vs) true rfl
  rw [hp]
  refine wpAny_bind (wpAny_mono ask (fun κ s0 hk => ?_) fun _ _ x => x.elim)
  refine wpAny_bind (wpAny_mono (kat_run (Q := fun st' s' => ∃ p : Array Nat, p.size = vs.reverse.length ∧ arrOf st' = p.map (kas_item (vs.reverse.toArray.zip vs.reverse.toArray)) ∧ failedOf st' = none ∧ KasFin h₀ L m a e1 (p.toList.map fun i => vs.reverse.getD i Value.none).reverse (fun s'' => P (.done (.ret .none)) s'') s')
    rfl (by rw [List.length_reverse]; exact h2) (by rw [List.length_reverse]; exact h64) (fun p' st' s' a1 a2 a3 a4 => ⟨p', a1, a2, a3, a4⟩) hk) ?_ fun _ _ e => e)
  rintro ⟨⟨⟩, st'⟩ s' ⟨p, hpz, har, hf, news', g, F', N', U, k⟩
  dsimp only
  obtain ⟨pre, post, e0, hg, x1, x2⟩ := U.split
  rw [e0] at N'
  have na := N' (a, seqObj "list" #[] e1) (List.mem_append_right _ (.head _))
  rw [kat_snds rfl har]
  generalize hout : (p.toList.map fun i => vs.reverse.getD i Value.none) = out at k
  have hsz : out.length = vs.length := by rw [← hout, List.length_map, Array.length_toList, hpz, List.length_reverse]
  have eo : out.toArray.reverse = out.reverse.toArray := by simp
  rw [if_pos rfl, eo]
  have s2 := Heap.SameBut.update s'.heap a (Obj.mapSeq fun _ => out.reverse.toArray)
  obtain ⟨c2, hc2⟩ : ∃ c2, (s'.heap.update a (Obj.mapSeq fun _ => out.reverse.toArray)).get? a = some (seqObj "list" out.reverse.toArray c2) := ⟨_, get?_update_seq na.1 fun _ => out.reverse.toArray⟩
  refine wpAny_bind (seqEpoch_at na.1 rfl ?_)
  refine wpAny_bind (listUpdate_at na.1 rfl ?_ (Nat.zero_le _) (by rw [List.size_toArray, List.length_reverse, hsz, sizeLine_eq]; omega))
  rw [hf]
  simp only [bne_self_eq_false, Bool.false_eq_true, if_false]
  refine wpAny_pure (k _ c2 (kas_fr F' s2 na.2.1 na.2.2) ?_)
  rw [hg]
  exact news_set N' x1 x2 s2 hc2
/-- sorted with reverse, by the questions it asks -/
theorem rev_sorted {l : Addr} {Q : Value → Shared → Prop} (F : Fr h₀ L s.heap m) (N : News h₀ L s.heap news) (hl : s.heap.IsList l vs.toArray) (h2 : 2 ≤ vs.length) (h64 : vs.length < 64)
    (h : ∀ D e1 h', Fr h₀ L h' m → News h₀ L h' ((D, seqObj "list" #[] e1) :: news) → (∀ q ∈ news, q.1 < D) →
      wpAny (model prog w) A.in1.in1 (keyKind' vs.toArray) (fun κ s' => (kas_sort vs.reverse.length).kasWp (kas_ask prog w A.in1.in1 κ vs.reverse) (fun p s'' => KasFin h₀ L m D e1 (p.toList.map fun i => vs.reverse.getD i Value.none).reverse (fun s3 => Q (.ref D) s3) s'') s') (fun _ _ => False) { s with heap := h' }) :
    wpAny (model prog w) A (call (.builtin "sorted") [.ref l] [(PySem.Str.ofString "reverse", .bool true)]) Q E s := by
  refine call_function_entry_kw kind_sorted plain_sorted entry_sorted (args_sorted_rev _ _) ?_
  unfold Builtin.«sorted»
  refine wpAny_bind (m := checkCount "sorted" 1 1 _) (wpAny_pure ?_)
  refine wpAny_bind (collect_list hl ?_ (by rw [sizeLine_eq]; omega))
  refine wpAny_bind (wpAny_newList ?_ (by rw [sizeLine_eq]; omega))
  have hsz : ((s.heap.push (seqObj "list" #[] 0)).update s.heap.objs.size (Obj.mapSeq (· ++ vs.toArray))).objs.size = s.heap.objs.size + 1 := by
    rw [Heap.size_update, size_push']
  have hoL : (((s.heap.push (seqObj "list" #[] 0)).update s.heap.objs.size (Obj.mapSeq (· ++ vs.toArray))).push (seqObj "list" vs.toArray 0)).get? (s.heap.objs.size + 1) = some (seqObj "list" vs.toArray 0) := by
    rw [← hsz]; exact Heap.get?_push_size _ rfl
  have keep : ∀ b o, s.heap.get? b = some o → (((s.heap.push (seqObj "list" #[] 0)).update s.heap.objs.size (Obj.mapSeq (· ++ vs.toArray))).push (seqObj "list" vs.toArray 0)).get? b = some o := fun b o q => by
    have hlt : b < s.heap.objs.size := Heap.lt_size q
    rw [Heap.get?_push_ne _ _ _ (by rw [hsz]; exact Nat.ne_of_lt (Nat.lt_succ_of_lt hlt)), Heap.get?_update_ne _ _ _ _ (Nat.ne_of_lt hlt), Heap.get?_push_ne _ _ _ (Nat.ne_of_lt hlt)]
    exact q
  have hL : L < s.heap.objs.size := F.ns.lt
  show wpAny _ _ _ _ _ { s with heap := ((s.heap.push (seqObj "list" #[] 0)).update s.heap.objs.size (Obj.mapSeq (· ++ vs.toArray))).push (seqObj "list" vs.toArray 0) }
  rw [hsz]
  refine wpAny_bind (wpAny_holding (wpAny_call_entry_kw slot_list_sort ⟨_, hoL, rfl⟩ entry_list_sort ?body (args_list_sort_rev _ _)))
  case body =>
    refine rev_tree (s := { s with heap := ((s.heap.push (seqObj "list" #[] 0)).update s.heap.objs.size (Obj.mapSeq (· ++ vs.toArray))).push (seqObj "list" vs.toArray 0) })
      (F.kept keep) (N.grown keep) hoL (Nat.ne_of_gt (Nat.lt_succ_of_lt hL)) (Heap.get?_none_of_le (Nat.le_trans F.above (Nat.le_succ_of_le (Nat.le_of_lt hL))))
      (fun p hp => Nat.ne_of_lt (Nat.lt_succ_of_lt (Heap.lt_size (N p hp).1))) h2 h64 fun e1 h' F' N' => ?_
    refine wpAny_mono (h _ e1 h' F' N' fun q hq => Nat.lt_succ_of_lt (Heap.lt_size (N q hq).1)) (fun κ s' hk => ?_) fun _ _ x => x
    rw [kat_ask_eq rfl] at hk ⊢
    exact kas_wp_mono hk fun p s'' hk' => hk'.mono fun s3 hq => ⟨_, rfl, wpAny_pure ⟨_, rfl, hq⟩⟩
end
/-- a rank among three texts -/
def rank3 (x : Nat → PySem.Str) (i : Nat) : Int := (if (x 0).cps.toList < (x i).cps.toList then 1 else 0) + (if (x 1).cps.toList < (x i).cps.toList then 1 else 0) + (if (x 2).cps.toList < (x i).cps.toList then 1 else 0)
theorem rank_lt {x : Nat → PySem.Str} {i j : Nat} (hi : i < 3) (h : (x i).cps.toList < (x j).cps.toList) : rank3 x i < rank3 x j := by
  have le : ∀ k, (if (x k).cps.toList < (x i).cps.toList then (1 : Int) else 0) ≤ (if (x k).cps.toList < (x j).cps.toList then (1 : Int) else 0) := by
    intro k
    by_cases e : (x k).cps.toList < (x i).cps.toList
    · rw [if_pos e, if_pos (List.lt_trans e h)]; exact Int.le_refl _
    · rw [if_neg e]
      split <;> decide
  have lt : (if (x i).cps.toList < (x i).cps.toList then (1 : Int) else 0) < (if (x i).cps.toList < (x j).cps.toList then (1 : Int) else 0) := by
    rw [if_neg (List.lt_irrefl _), if_pos h]; decide
  have l0 := le 0
  have l1 := le 1
  have l2 := le 2
  unfold rank3
  obtain rfl | rfl | rfl : i = 0 ∨ i = 1 ∨ i = 2 := by omega
  all_goals omega
theorem rank_tri {x : Nat → PySem.Str} (i j : Nat) : (x i).cps.toList < (x j).cps.toList ∨ x i = x j ∨ (x j).cps.toList < (x i).cps.toList := by
  by_cases h1 : (x i).cps.toList < (x j).cps.toList
  · exact .inl h1
  by_cases h2 : (x j).cps.toList < (x i).cps.toList
  · exact .inr (.inr h2)
  · have e : (x i).cps.toList = (x j).cps.toList := List.le_antisymm h2 h1
    refine .inr (.inl ?_)
    have e2 := Array.toList_inj.mp e
    generalize x i = p at *
    generalize x j = q at *
    cases p; cases q
    exact congrArg _ e2
theorem rank_eq {x : Nat → PySem.Str} {i j : Nat} (hi : i < 3) (hj : j < 3) : (rank3 x i == rank3 x j) = (x i == x j) := by
  rw [Bool.eq_iff_iff, beq_iff_eq, beq_iff_eq]
  constructor
  · intro h
    rcases rank_tri (x := x) i j with q | q | q
    · have := rank_lt hi q; omega
    · exact q
    · have := rank_lt hj q; omega
  · intro h; unfold rank3; rw [h]
theorem rank_dec {x : Nat → PySem.Str} {i j : Nat} (hi : i < 3) (hj : j < 3) : decide (rank3 x i < rank3 x j) = decide ((x i).cps.toList < (x j).cps.toList) := by
  rw [Bool.eq_iff_iff, decide_eq_true_eq, decide_eq_true_eq]
  constructor
  · intro h
    rcases rank_tri (x := x) i j with q | q | q
    · exact q
    · unfold rank3 at h; rw [q] at h; omega
    · have := rank_lt hj q; omega
  · exact rank_lt hi
/-- three in their order -/
def Three (a : Nat → Int) (k0 k1 k2 : Nat) : Prop := [k0, k1, k2].Perm [0, 1, 2] ∧ a k0 ≤ a k1 ∧ a k1 ≤ a k2
theorem three_of {a r : Nat → Int} {ks : List Nat} (h : SortedBy 3 (lexP a r) ks) : ∃ k0 k1 k2, ks = [k0, k1, k2] ∧ Three a k0 k1 k2 := by
  have hl := h.1.length_eq
  rw [List.length_range] at hl
  match ks, hl, h with
  | [k0, k1, k2], _, h =>
    have h2 := h.2
    simp only [List.pairwise_cons, List.mem_cons, List.not_mem_nil, or_false] at h2
    have e1 := lexP_not.mp (h2.1 k1 (.inl rfl))
    have e2 := lexP_not.mp (h2.2.1 k2 rfl)
    exact ⟨k0, k1, k2, rfl, h.1, by omega, by omega⟩
section
variable {prog : Program} {w : World} {A : Around} {E : Value → Shared → Prop} {s : Shared} {h₀ : Heap} {L l : Addr} {m : PySem.Str → Option Value} {news : List (Addr × Obj)}
theorem three_get {q : Nat → Addr} {i : Nat} (hi : i < 3) : ([Value.ref (q 0), Value.ref (q 1), Value.ref (q 2)] : List Value)[i]? = some (.ref (q i)) := by
  obtain rfl | rfl | rfl : i = 0 ∨ i = 1 ∨ i = 2 := by omega
  all_goals rfl
theorem three_rev {q : Nat → Addr} : ([Value.ref (q 0), Value.ref (q 1), Value.ref (q 2)] : List Value).reverse = [Value.ref (q 2), Value.ref (q 1), Value.ref (q 0)] := rfl
theorem perm_lt {k0 k1 k2 : Nat} (h : [k0, k1, k2].Perm [0, 1, 2]) : k0 < 3 ∧ k1 < 3 ∧ k2 < 3 := by
  have hm : ∀ k ∈ [k0, k1, k2], k < 3 := fun k hk => by
    have := (h.mem_iff).mp hk
    simp at this; omega
  exact ⟨hm _ (.head _), hm _ (.tail _ (.head _)), hm _ (.tail _ (.tail _ (.head _)))⟩
theorem sorted3 {q : Nat → Addr} {Q : Value → Shared → Prop} (a : Nat → Int) (t u : Nat → Tok) (x : Nat → PySem.Str)
    (F : Fr h₀ L s.heap m) (N : News h₀ L s.heap news) (hl : s.heap.IsList l [Value.ref (q 0), Value.ref (q 1), Value.ref (q 2)].toArray)
    (hv : ∀ i, i < 3 → (q i, tupO [.int (a i) (t i), .str (x i) (u i)]) ∈ news)
    (h : ∀ D h' e k0 k1 k2, Three a k0 k1 k2 → Fr h₀ L h' m → News h₀ L h' ((D, listOf #[.ref (q k0), .ref (q k1), .ref (q k2)] e) :: news) → (∀ q ∈ news, q.1 < D) → Q (.ref D) { s with heap := h' }) :
    wpAny (model prog w) A (call (.builtin "sorted") [.ref l]) Q E s := by
  refine sorted_tups a (rank3 x) t (fun i => .str (x i) (u i)) F N hl (Nat.le_refl _) (fun i hi => ⟨q i, three_get hi, hv i hi⟩) (fun i j C' s' hi hj hc => ?_) (fun i j C' s' hi hj hc => ?_) fun D h' e ks hk F' N' hD => ?_
  · rw [rank_eq hi hj] at hc
    exact wpAny_eqBool_str hc
  · rw [rank_dec hi hj] at hc
    exact PyProof.Rows.lt_str hc
  · obtain ⟨k0, k1, k2, rfl, h3⟩ := three_of hk
    obtain ⟨l0, l1, l2⟩ := perm_lt h3.1
    refine h D h' e k0 k1 k2 h3 F' ?_ hD
    have g : ∀ {i : Nat}, i < 3 → ([Value.ref (q 0), Value.ref (q 1), Value.ref (q 2)] : List Value).getD i .none = .ref (q i) := fun {i} hi => by
      rw [List.getD_eq_getElem?_getD, three_get hi]; rfl
    simp only [List.map_cons, List.map_nil, g l0, g l1, g l2] at N'
    exact N'
theorem sorted3R {q : Nat → Addr} {Q : Value → Shared → Prop} (a : Nat → Int) (t u : Nat → Tok) (x : Nat → PySem.Str)
    (F : Fr h₀ L s.heap m) (N : News h₀ L s.heap news) (hl : s.heap.IsList l [Value.ref (q 0), Value.ref (q 1), Value.ref (q 2)].toArray)
    (hv : ∀ i, i < 3 → (q i, tupO [.int (a i) (t i), .str (x i) (u i)]) ∈ news)
    (h : ∀ D h' e k0 k1 k2, Three a k0 k1 k2 → Fr h₀ L h' m → News h₀ L h' ((D, listOf #[.ref (q k2), .ref (q k1), .ref (q k0)] e) :: news) → (∀ q ∈ news, q.1 < D) → Q (.ref D) { s with heap := h' }) :
    wpAny (model prog w) A (call (.builtin "sorted") [.ref l] [(PySem.Str.ofString "reverse", .bool true)]) Q E s := by
  refine rev_sorted F N hl (Nat.le_of_ble_eq_true rfl) (Nat.le_of_ble_eq_true rfl) fun D e1 h' F' N' hD => ?_
  have N2 : News h₀ L h' news := fun p hp => N' p (.tail _ hp)
  refine kat_kind (T := .type "int") (tups_firsts (vs := [Value.ref (q 0), Value.ref (q 1), Value.ref (q 2)]) (a := a) (t := t) (x := fun i => .str (x i) (u i)) fun i hi => ⟨q i, three_get hi, (N2 _ (hv i hi)).1⟩) (Nat.le_of_ble_eq_true rfl) (fun v hv' => ?_) (by decide) ?_
  · obtain ⟨i, _, rfl⟩ := List.mem_map.mp hv'
    exact Looks.of_pure rfl
  · obtain ⟨ok, so⟩ := tree_sorts (a := fun i => a (2 - i)) (r := fun i => rank3 x (2 - i)) (n := 3) (by decide) (by decide)
    have g : ∀ {i : Nat}, i < 3 → ([Value.ref (q 2), Value.ref (q 1), Value.ref (q 0)] : List Value).getD i .none = .ref (q (2 - i)) := fun {i} hi => by
      obtain rfl | rfl | rfl : i = 0 ∨ i = 1 ∨ i = 2 := by omega
      all_goals rfl
    refine kas_run (n := 3) (lt := lexP (fun i => a (2 - i)) fun i => rank3 x (2 - i)) (fun i j C hi hj hC => ?_) (kas_sort 3) ok ?_
    · show wpAny (model prog w) A.in1.in1 (keyLt' _ (([Value.ref (q 2), Value.ref (q 1), Value.ref (q 0)] : List Value).getD i .none) (([Value.ref (q 2), Value.ref (q 1), Value.ref (q 0)] : List Value).getD j .none)) C _ _
      rw [g hi, g hj]
      rw [← ltP_lex] at hC
      refine cmp_tups (b := true) (a := fun i => a (2 - i)) (x := fun i => .str (x (2 - i)) (u (2 - i))) (ti := t (2 - i)) (tj := t (2 - j)) (eqS := fun i j => rank3 x (2 - i) == rank3 x (2 - j)) (ltS := fun i j => decide (rank3 x (2 - i) < rank3 x (2 - j))) (N2 _ (hv (2 - i) (by omega))).1 (N2 _ (hv (2 - j) (by omega))).1 (fun C' hc => ?_) (fun C' hc => ?_) hC
      · rw [rank_eq (by omega) (by omega)] at hc
        exact wpAny_eqBool_str hc
      · rw [rank_dec (by omega) (by omega)] at hc
        exact PyProof.Rows.lt_str hc
    · obtain ⟨k0, k1, k2, e, h3⟩ := three_of so
      obtain ⟨l0, l1, l2⟩ := perm_lt h3.1
      have h4 : Three a (2 - k0) (2 - k1) (2 - k2) := by
        refine ⟨?_, h3.2.1, h3.2.2⟩
        have := h3.1.map fun i => 2 - i
        exact this.trans (show ([2, 1, 0] : List Nat).Perm [0, 1, 2] from List.reverse_perm [0, 1, 2])
      refine KasFin.intro F' N' (UpdF.head fun p hp => Nat.ne_of_lt (hD p hp)) fun h3 c F3 N3 => h D h3 c _ _ _ h4 F3 ?_ hD
      rw [e] at N3
      simp only [three_rev, List.map_cons, List.map_nil, g l0, g l1, g l2] at N3
      exact N3
end
end SRs
section TXs
theorem strs_snoc {x : PySem.Str} {t : Tok} : ∀ {ys : List Value} {xs : List PySem.Str}, StrsAre ys xs → StrsAre (ys ++ [.str x t]) (xs ++ [x])
  | _, _, .nil => .cons _ _ .nil
  | _, _, .cons a b h => .cons a b (strs_snoc h)
theorem all_take {q : PySem.Str × PySem.Str → Bool} {tbl : List (PySem.Str × PySem.Str)} {i : Nat} {p : PySem.Str × PySem.Str} {ys : List Value} {t : Tok} (hi : tbl[i]? = some p) (e : q p = true) (h : StrsAre ys (((tbl.take i).filter q).map (·.2))) :
    StrsAre (ys ++ [.str p.2 t]) (((tbl.take (i + 1)).filter q).map (·.2)) := by
  rw [List.take_add_one, hi, List.filter_append, List.map_append]
  have : ((some p).toList.filter q).map (·.2) = [p.2] := by simp [e]
  rw [this]
  exact strs_snoc h
theorem all_skip {q : PySem.Str × PySem.Str → Bool} {tbl : List (PySem.Str × PySem.Str)} {i : Nat} {p : PySem.Str × PySem.Str} {ys : List Value} (hi : tbl[i]? = some p) (e : q p = false) (h : StrsAre ys (((tbl.take i).filter q).map (·.2))) :
    StrsAre ys (((tbl.take (i + 1)).filter q).map (·.2)) := by
  rw [List.take_add_one, hi, List.filter_append, List.map_append]
  have : ((some p).toList.filter q).map (·.2) = [] := by simp [e]
  rw [this, List.append_nil]
  exact h
end TXs
section PCs
open LCg LCp
section
variable {prog : Program} {w : World} {A : Around} {s : Shared} {h₀ : Heap} {L : Addr} {m : PySem.Str → Option Value} {env : Env}
end
end PCs
section UPs
section
variable {prog : Program} {w : World} {A : Around} {E : Value → Shared → Prop}
theorem item_at {s : Shared} {value slice : PySem.Expr} {l : Addr} {vs : List Value} {n k : Nat} {u : Tok} {v : Value} {Q : Value → Shared → Prop} {h₀ : Heap} {L : Addr} {news : List (Addr × Obj)} (N : News h₀ L s.heap news) (hm : (l, listOf vs.toArray n) ∈ news)
    (hx : vs[k]? = some v) (hk : k < 1000) (h : Q v s)
    (hs : subscripted slice false (.ref l) (.int (k : Int) u) = operate [.ref l, .int (k : Int) u] (getItem (.ref l) (.int (k : Int) u)) := by with_unfolding_all rfl) :
    wpAny (model prog w) A (subscriptTail value slice (.ref l) (.int (k : Int) u)) Q E s :=
  have hl : s.heap.IsList l vs.toArray := News.isList N hm
  tail_any hl.typeIs slot_list_getitem.lookup (wpAny_getItem_list hl (Int.natCast_nonneg k) (by omega) (by simpa using hx) h) hs
end
end UPs
section RXs
open Builtin Builtin.Re
theorem rx_plain : PlainAttrs "re.Pattern" :=
  ⟨⟨"object.__getattribute__", by rw [typeLookup_type, builtinLookup_eq_fast]; kernel_rfl, by decide +kernel⟩, by rw [typeLookup_type, builtinLookup_eq_fast]; kernel_rfl⟩
theorem rx_slot : Slot "re.Pattern" "search" "re.Pattern.search" :=
  .of (owner := "re.Pattern") (n := "search") (by rw [typeLookup_type, builtinLookup_eq_fast]; kernel_rfl) (by decide +kernel) (by decide +kernel) (by decide +kernel)
    (by first | exact .inl (by decide +kernel) | exact .inr (by decide +kernel)) (by rw [isSubtype_type]; kernel_rfl)
theorem rx_entry : entryFor table "re.Pattern.search" = some Builtin.«re.Pattern.search» := entryFor_of_tree (by kernel_rfl)
theorem rx_args (a b : Value) : argsOk "re.Pattern.search" ⟨[a, b], []⟩ := by unfold argsOk; kernel_rfl
theorem rx_type : typeOf (.builtin "re.Pattern.search") = pure (.type "method_descriptor") := by show builtinType _ = _; rw [builtinType_eq_fast]; kernel_rfl

section
variable {M : Model} {A : Around} {E : Value → Shared → Prop} {s : Shared}
theorem rx_rules (m : Sre.M) : ∀ (l : List Nat) {Q : PUnit → Shared → Prop}, Q ⟨⟩ s →
    wpAny M A (forIn l PUnit.unit fun i _ => do
      if m.seen.has i then rule (Sre.names.getD i "")
      pure (ForInStep.yield PUnit.unit)) Q E s
  | [], Q, h => wpAny_pure h
  | i :: r, Q, h => by
    rw [List.forIn_cons]
    refine wpAny_bind ?_
    split
    · exact wpAny_bind (wpAny_rule (wpAny_pure (rx_rules m r h)))
    · exact wpAny_pure (rx_rules m r h)
theorem rx_run {m m' : Sre.M} {Q : Option Sre.M → Shared → Prop} (h1 : m.runFor reTurnSteps = m') (h2 : m'.outcome = some .failed) (h : Q none s) : wpAny M A (reRunToEnd m) Q E s := by
  unfold reRunToEnd
  have e : (2 ^ 64 : Nat) = 18446744073709551615 + 1 := by decide
  rw [e]
  unfold reDrive
  rw [h1]
  simp only [h2, Option.isSome_some, if_true]
  refine wpAny_bind (wpAny_pure ?_)
  refine wpAny_bind ?_
  refine rx_rules m' _ ?_
  simp only [h2]
  exact wpAny_pure h
end

/-- a text in which no sign is one of the set's -/
def rxClear (code : Array Nat) (c : Nat) : Prop := ∀ seen, ∃ seen', Sre.inSet code c code.size 5 true seen = .ok (false, seen')

theorem rx_admitted {m : Sre.M} {code : Array Nat} (hc : m.code = code) (hx : ∀ c ∈ m.text.toList, rxClear code c) (hl : m.lim = m.text.size) :
    ∀ (fuel k : Nat) (seen : Sre.Seen), ∃ seen', Sre.M.admitted m fuel k seen = .ok (none, seen')
  | 0, k, seen => ⟨seen, rfl⟩
  | fuel + 1, k, seen => by
    unfold Sre.M.admitted
    by_cases q : k ≥ m.lim
    · exact ⟨seen, by rw [if_pos q]⟩
    · rw [if_neg q]
      have hk : k < m.text.size := by omega
      have e : m.text.getD k 0 = m.text[k] := by simp [hk]
      obtain ⟨s2, h2⟩ := hx (m.text.getD k 0) (by rw [e]; simp) seen
      rw [hc, h2]
      exact rx_admitted hc hx hl fuel (k + 1) s2

def rxName : Array Nat := #[14, 10, 4, 1, 1, 22, 0, 31, 16, 127, 0, 13, 7, 22, 0, 31, 16, 127, 0, 1]
def rxVal : Array Nat := #[14, 14, 4, 1, 1, 9, 4294966783, 0, 0, 2147483648, 0, 0, 0, 0, 0, 13, 11, 9, 4294966783, 0, 0, 2147483648, 0, 0, 0, 0, 0, 1]
theorem rx_say {m : Sre.M} (h1 : m.outcome = none) (h2 : m.frames = []) : ((m.say false).runFor reTurnSteps).outcome = some .failed := by
  have a1 : (m.say false).outcome = none := h1
  have a2 : (m.say false).answer = some false := rfl
  have a3 : (m.say false).frames = [] := h2
  generalize m.say false = n at a1 a2 a3
  have st : n.step = { n with outcome := some .failed } := by
    unfold Sre.M.step
    rw [a1, a2, a3]
    rfl
  show (Sre.M.runFor 4 n).outcome = _
  unfold Sre.M.runFor
  rw [a1, st]
  rfl
theorem rx_fails {code text : Array Nat} (hi : (match Sre.ops[code.getD 0 0]? with | some .INFO => true | _ => false) = true) (h4 : code.getD 2 0 = 4)
    (hx : ∀ c ∈ text.toList, rxClear code c) :
    ((Sre.forSearch code text 0 0 text.size false).runFor reTurnSteps).outcome = some .failed := by
  let m0 : Sre.M := { code, text, lim := text.size, start := 0, pc := (Sre.header code).2, pos := 0, handed := 0, marks := Array.replicate (2 * 0) none, mustAdvance := false, seen := if (Sre.header code).2 == 0 then {} else ({} : Sre.Seen).add 14 }
  show ((if ((decide (0 > text.size) || decide (text.size - 0 < (Sre.header code).1)) = true) then m0.say false else
    ({ m0 with lastStart := if ((decide ((Sre.header code).1 > 1) && !((Sre.header code).2 != 0 && code.getD 2 0 &&& 5 != 0)) = true) then max 0 (text.size - ((Sre.header code).1 - 1)) else text.size } : Sre.M).attemptFrom 0 true).runFor reTurnSteps).outcome = _
  split
  · exact rx_say rfl rfl
  · generalize hm : ({ m0 with lastStart := _ } : Sre.M) = m
    have c1 : m.code = code := by rw [← hm]
    have c2 : m.text = text := by rw [← hm]
    have c3 : m.lim = text.size := by rw [← hm]
    have c4 : m.outcome = none := by rw [← hm]
    have c5 : m.frames = [] := by rw [← hm]
    clear hm
    have hf : m.hasFirstSet = true := by
      unfold Sre.M.hasFirstSet
      rw [c1, h4, Bool.and_eq_true]
      exact ⟨hi, rfl⟩
    unfold Sre.M.attemptFrom
    rw [hf]
    simp only [Bool.not_true, Bool.false_eq_true, if_false]
    obtain ⟨s2, h2⟩ := rx_admitted (m := m) c1 (by rw [c2]; exact hx) (by rw [c2, c3]) (m.lim + 1 - 0) 0 m.seen
    rw [h2]
    exact rx_say c4 c5

theorem rx_clearN {c : Nat} (h : 32 ≤ c) (h2 : c < 127) : rxClear rxName c := by
  intro seen
  have e1 : Sre.inSet rxName c 20 5 true seen = (if (decide (0 ≤ c) && decide (c ≤ 31)) = true then .ok (true, seen.add 22) else Sre.inSet rxName c 19 8 true (seen.add 22)) := rfl
  have e2 : Sre.inSet rxName c 19 8 true (seen.add 22) = (if (c == 127) = true then .ok (true, (seen.add 22).add 16) else Sre.inSet rxName c 18 10 true ((seen.add 22).add 16)) := rfl
  refine ⟨((seen.add 22).add 16).add 0, ?_⟩
  show Sre.inSet rxName c 20 5 true seen = _
  have b1 : ¬ ((decide (0 ≤ c) && decide (c ≤ 31)) = true) := by simp; omega
  have b2 : ¬ ((c == 127) = true) := by simp; omega
  rw [e1, if_neg b1, e2, if_neg b2]
  rfl
theorem rx_clearV {c : Nat} (h : 32 ≤ c ∨ c = 9) (h2 : c < 127) : rxClear rxVal c := by
  intro seen
  have h3 : ∀ k : _root_.Fin 127, (32 ≤ k.val ∨ k.val = 9) → (decide (k.val < 256) && (rxVal.getD (5 + (1 + k.val / 32)) 0).testBit (k.val % 32)) = false := by decide +kernel
  have e1 : Sre.inSet rxVal c 28 5 true seen = (if (decide (c < 256) && (rxVal.getD (5 + (1 + c / 32)) 0).testBit (c % 32)) = true then .ok (true, seen.add 9) else Sre.inSet rxVal c 27 14 true (seen.add 9)) := rfl
  refine ⟨(seen.add 9).add 0, ?_⟩
  show Sre.inSet rxVal c 28 5 true seen = _
  rw [e1, h3 ⟨c, h2⟩ h]
  rfl

section
variable {prog : Program} {w : World} {A : Around} {E : Value → Shared → Prop} {s : Shared}
/-- a pattern's search that finds nothing -/
theorem rx_search {p cd : Addr} {pat : Value} {k1 k2 k3 : Tok} {its : Array Value} {code : Array Nat} {v : PySem.Str} {t : Tok} {Q : Value → Shared → Prop}
    (hp : s.heap.get? p = some { cls := .type "re.Pattern", data := .fields #[pat, .int 32 k1, .int 0 k2, .none, .none, .ref cd, .int 0 k3] })
    (hc : s.heap.get? cd = some { cls := .type "tuple", data := .seq its }) (hcode : (its.map reRawOf).map (·.toNat) = code)
    (hf : ((Sre.forSearch code v.cps 0 0 v.cps.size false).runFor reTurnSteps).outcome = some .failed) (hz : v.cps.size ≤ 16777216) (h : Q .none s) :
    wpAny (model prog w) A (call (.builtin "re.Pattern.search") [.ref p, .str v t]) Q E s := by
  refine wpAny_call_entry rx_slot ⟨_, hp, rfl⟩ rx_entry ?_ (rx_args _ _)
  show wpAny (model prog w) A.in1 (reTarget "re.Pattern.search" "search" ⟨[.ref p, .str v t], []⟩ >>= fun t => reAnswer t (Sre.forSearch t.code t.text t.groups t.pos t.lim false)) _ E s
  refine wpAny_bind ?_
  unfold reTarget
  have hn : reNamed "re.Pattern.search" "search" ["string", "pos", "endpos"] 1 [.str v t] [] = pure [some (.str v t), none, none] := rfl
  refine wpAny_bind (wpAny_of_eq hn ?_)
  refine wpAny_bind (wpAny_pure ?_)
  refine wpAny_bind (wpAny_pure ?_)
  refine wpAny_bind (wpAny_fieldsOf hp rfl ?_)
  have ht : reTextOf (.str v t) = pure (v.cps, 0) := rfl
  refine wpAny_bind (wpAny_of_eq ht ?_)
  show wpAny (model prog w) A.in1 (reNoCollectionInside (.str v t) 0 >>= fun _ => reRawItems (.ref cd) >>= fun l =>
    pure ({ pattern := .ref p, string := .str v t, code := l.map (·.toNat), text := v.cps, kind := 0, groups := 0, pos := min (0 : Int).toNat v.cps.size, lim := min ((2 ^ 63 - 1 : Int)).toNat v.cps.size } : ReTarget)) _ E s
  have h0 : reNoCollectionInside (.str v t) 0 = pure () := rfl
  refine wpAny_bind (wpAny_of_eq h0 ?_)
  refine wpAny_bind ?_
  unfold reRawItems
  refine wpAny_bind ?_
  refine wpAny_seqItems hc rfl (wpAny_pure (wpAny_pure ?_))
  have e1 : min (0 : Int).toNat v.cps.size = 0 := by simp
  have e3 : (2 ^ 63 - 1 : Int).toNat = 9223372036854775807 := by decide
  have e2 : min ((2 ^ 63 - 1 : Int)).toNat v.cps.size = v.cps.size := by rw [e3]; omega
  rw [e1, e2]
  dsimp only
  simp only [Option.getD_some, hcode]
  unfold reAnswer
  refine wpAny_bind (rx_run rfl hf (wpAny_pure ⟨_, rfl, h⟩))

theorem rx_methodK {K : Frag} {p : Addr} {fs : Array Value} {pl : Sem Bool} {Q : Value × List Value → Shared → Prop} (X : K.In s.heap) (hl : K.lookup p = some { cls := .type "re.Pattern", data := .fields fs }) (h : Q (.builtin "re.Pattern.search", [.ref p]) s) :
    wpAny (model prog w) A (getMethod (.ref p) "search" pl) Q E s :=
  getMethod_builtin ⟨_, X _ _ hl, rfl⟩ rx_plain rx_slot rx_type (fun a e => by cases e; exact ⟨_, X _ _ hl, rfl⟩) h
theorem rx_searchK {K : Frag} {p cd : Addr} {pat : Value} {k1 k2 k3 : Tok} {its : Array Value} {v : PySem.Str} {t : Tok} {nm : Bool} {Q : Value → Shared → Prop} (X : K.In s.heap)
    (hl : K.lookup p = some { cls := .type "re.Pattern", data := .fields #[pat, .int 32 k1, .int 0 k2, .none, .none, .ref cd, .int 0 k3] })
    (hc : K.lookup cd = some { cls := .type "tuple", data := .seq its }) (hcode : (its.toList.map fun v => (reRawOf v).toNat) = (if nm then rxName else rxVal).toList)
    (hv : ∀ c ∈ v.cps.toList, (32 ≤ c ∨ (nm = false ∧ c = 9)) ∧ c < 127) (hz : v.cps.size ≤ 1000000) (h : Q .none s) :
    wpAny (model prog w) A (call (.builtin "re.Pattern.search") [.ref p, .str v t]) Q E s := by
  have hcode' : (its.map reRawOf).map (·.toNat) = if nm then rxName else rxVal := by
    apply Array.ext'
    rw [← hcode, Array.toList_map, Array.toList_map, List.map_map]
    rfl
  refine rx_search (X _ _ hl) (X _ _ hc) hcode' ?_ (by omega) h
  cases nm with
  | true => exact rx_fails (code := rxName) rfl rfl fun c hc => rx_clearN (by have := hv c hc; simpa using this.1) (hv c hc).2
  | false => exact rx_fails (code := rxVal) rfl rfl fun c hc => rx_clearV (by have := hv c hc; simpa using this.1) (hv c hc).2
end
end RXs
section WSt
theorem offWS : True := by w_top off; trivial
local macro_rules | `(tactic| walk_at "exec For") => `(tactic| refine stop ?_)
local macro_rules | `(tactic| walk_at "exec For Name Attribute cons nil") => `(tactic| refine stop ?_)
local macro_rules | `(tactic| walk_at "pyIter") => `(tactic| refine stop ?_)
local macro_rules | `(tactic| walk_at "pyIter str") => `(tactic| refine stop ?_)
local macro_rules | `(tactic| walk_at "sub") => `(tactic| first | exact List.forall_mem_nil _ | (refine' List.forall_mem_cons.mpr ⟨?a, ?b⟩; (case a => k_mem); (case b => walk_at "sub")))
local macro_rules | `(tactic| walk_at "call type:tuple") => `(tactic| (k_here; (with_reducible show wpAny _ _ (call (Value.type _) [Value.ref _]) _ _ _); k_dflt (refine' my_tuple ?k1 ?k2 ?k3 ?k4 ?_; (case k1 => k_asm); (case k2 => k_asm); (case k3 => k_mem); (case k4 => (rw [IntsAre.length (by assumption)]; omega)); k_whole); intro D' h' F' N' l1; (try k_lt l1); (try k_sweep)))
/-- the count of the signs so far, as it lies -/
inductive WsJ (P : Params) (ws : PySem.Str) (t : Tok) (x dx : Addr) (i : Nat) (m : PySem.Str → Option Value) (news : List (Addr × Obj)) : Prop
  | mk (cnt : List Int) (vs : List Value) (b : Int) (tb : Tok) (n : Int) (tn : Tok) (nt : Int) (tnt : Tok) (l : Addr) (k : Nat) (tr tS tT : Tok) (hi : IntsAre vs cnt) (h0 : 0 ≤ b) (hb : b ≤ (i : Int)) (hc : cnt.length ≤ i)
      (hr : wsRun (ws.cps.toList.drop i) cnt b n nt = wsRun ws.cps.toList [] 0 0 0) (hm : lks m [("self", .ref x), ("S", .str " " tS), ("T", .str "\t" tT), ("count", .ref l), ("b", .int b tb), ("n", .int n tn), ("nt", .int nt tnt)])
      (hn : news = [(l, listOf vs.toArray k), (x, instObj 107 dx), (dx, dictOf [⟨PyData.keyHash P "raw", .str "raw" tr, .str ws t⟩] 1)]) (hl : @LT.lt Nat _ x l) : WsJ P ws t x dx i m news
/-- and behind the last of them -/
inductive WsX (P : Params) (ws : PySem.Str) (t : Tok) (x dx : Addr) (m : PySem.Str → Option Value) (news : List (Addr × Obj)) : Prop
  | mk (cnt : List Int) (vs : List Value) (b : Int) (tb : Tok) (n : Int) (tn : Tok) (nt : Int) (tnt : Tok) (l : Addr) (k : Nat) (tr tS tT : Tok) (hi : IntsAre vs cnt) (hc : cnt.length ≤ 1000000)
      (hr : (cnt, b, n, nt) = wsRun ws.cps.toList [] 0 0 0) (hm : lks m [("self", .ref x), ("S", .str " " tS), ("T", .str "\t" tT), ("count", .ref l), ("b", .int b tb), ("n", .int n tn), ("nt", .int nt tnt)])
      (hn : news = [(l, listOf vs.toArray k), (x, instObj 107 dx), (dx, dictOf [⟨PyData.keyHash P "raw", .str "raw" tr, .str ws t⟩] 1)]) (hl : @LT.lt Nat _ x l) : WsX P ws t x dx m news
theorem c_wsinit (w : World) (loose : List PySem.Str) (mean : ExcName → Option Value) (mg mb : PySem.Str → Option Value) (s : Shared) (h₀ : Heap) (X : (Mine.frag.heap_1 w.params).In h₀) (T : Top Mine.view loose mean mg mb h₀) (hk : h₀.StaysIn s.heap)
  (x dx : Addr) (ws : PySem.Str) (t : Tok) (R : Result → Shared → Prop) (ha : ws.cps.all (· < 128) = true) (hz : ws.cps.size ≤ 1000000)
  (hn : Has h₀ s.heap [(x, instObj 107 dx), (dx, dictOf [] 0)]) (hlt : @LT.lt Nat _ dx x)
  (hR : ∀ h' tk tn tc vs cnt b n nt tb tn' tnt k1 k2 k3 k4 k5, IntsAre vs cnt → cnt.length ≤ 1000000 → (cnt, b, n, nt) = wsRun ws.cps.toList [] 0 0 0 → Has h₀ h' (wsObjs w.params 107 x dx tn tc ws t tb tn' tnt k1 k2 k3 k4 k5 vs cnt b n nt) →
    SB s.heap h' [x, dx] → s.heap.get? tn = none → s.heap.get? tc = none → @LT.lt Nat _ tc tn → @LT.lt Nat _ x tc → R (.ok (.ret .none)) { s with heap := h', toks := tk }) :
  codeAny (model PySem.Challenge.rw_ta0081_02.row.prog w) (AC 5) (.call (.ref 62) ⟨[.ref x, .str ws t], []⟩) R s := by
  revert X
  k_fill
  intro X
  k_dflt (refine' enter (binds := [("self", .ref x), ("ws", .str ws t)]) (news := [(x, instObj 107 dx), (dx, dictOf [] 0)]) X T hk ?kn ?k6 ?k7 ?k8 ?k9 ?kB ?h ?c2 ?c3 ?c4 ?c5; (case kn => assumption); (case k6 => k_is); (case k7 => k_is); (case k8 => decide); (case k9 => exact BindsTo.of_eq rfl); (case c5 => decide); (case kB => exact locs rfl); (case c2 => exact rfl); (case c3 => exact rfl); (case c4 => exact rfl))
  clear X T
  intro g L h₁ hg hs F N X T
  (try dsimp only)
  k_steps
  unfold Stop
  refine For_led ?_ (fun _ => rfl)
  k_steps
  unfold Stop
  rename Fr _ _ _ _ => F
  rename News _ _ _ _ => N
  refine' for_str (J := WsJ w.params ws t x dx) (Jx := WsX w.params ws t x dx) ha ?h1 F ?N ?j0 ?turn ?jx ?done
  case h1 => rfl
  case' j0 =>
    refine' ⟨[], [], 0, _, 0, _, 0, _, _, _, _, _, _, .nil, by omega, by omega, by decide, by rfl, ⟨rfl, rfl, rfl, rfl, rfl, rfl, rfl, trivial⟩, rfl, ?lt⟩
    case lt => exact (by assumption : @LT.lt Nat _ _ _ ∧ @LT.lt Nat _ _ _ ∧ @LT.lt Nat _ _ _).2.1
  case N => exact cb_drop N (by walk_at "sub")
  case jx =>
    rintro m news ⟨cnt, vs, b, tb, n, tn, nt, tnt, l, k, tr, tS, tT, hi, h0, hb, hc, hr, hm, hn, hl⟩
    refine ⟨cnt, vs, b, tb, n, tn, nt, tnt, l, k, tr, tS, tT, hi, by omega, ?_, hm, hn, hl⟩
    rw [← hr, List.drop_eq_nil_of_le (by simp)]
    rfl
  case turn =>
    clear F N
    rintro i c u m news h tk I o hc ⟨cnt, vs, b, tb, n, tn, nt, tnt, l, k, tr, tS, tT, hi, h0, hb, hcl, hr, hm, rfl, hl⟩ hnI F N
    replace F := fr_bd F _ hm
    dsimp only [bd] at F
    obtain ⟨hI1, hI2, hI3⟩ : @Ne Nat l I ∧ @Ne Nat x I ∧ @Ne Nat dx I := ⟨hnI _ (.head _), hnI _ (.tail _ (.head _)), hnI _ (.tail _ (.tail _ (.head _)))⟩
    have hM : KstMark := kstMark
    have hib : i ≤ 1000000 := by have := (Array.getElem?_eq_some_iff.mp hc).1; omega
    have hcz : cnt.length ≤ 1000000 := by omega
    refine genF fun P hP => ?_
    dsimp only
    k_steps
    · have e : true = decide (c = 32) := sgn_of (x := " ") (by decide) (by assumption)
      have e1 : c = 32 := by simpa using e.symm
      have hr2 := ws_step hc hr
      rw [if_pos e1] at hr2
      refine hP _ _ ⟨_, _, _, [(l, _), (x, _), (dx, _)], rfl, by assumption, by assumption, hnI, ?_⟩
      exact ⟨cnt, vs, b + 1, _, n + 1, _, nt, _, l, k, tr, tS, tT, hi, by omega, by omega, by omega, hr2, ⟨rfl, rfl, rfl, rfl, rfl, rfl, rfl, trivial⟩, rfl, hl⟩
    · have e : false = decide (c = 32) := sgn_of (x := " ") (by decide) (by assumption)
      have e1 : ¬ c = 32 := by simpa using e.symm
      have e' : true = decide (c = 9) := sgn_of (x := "\t") (by decide) (by assumption)
      have e2 : c = 9 := by simpa using e'.symm
      have hr2 := ws_step hc hr
      rw [if_neg e1, if_pos e2] at hr2
      rename IntsAre _ (List.set _ _ _) => hi2
      rw [bump_pos (by assumption)] at hi2
      refine' hP _ _ ⟨_, _, _, _, rfl, ?F1, cb_drop ?N1 ?S1, ?ne1, ?J1⟩
      case F1 => assumption
      case' J1 => refine' ⟨bump cnt b, _, 0, _, n + 1, _, nt + 1, _, _, _, tr, tS, tT, hi2, by omega, by omega, bump_len hb hcl, hr2, ⟨rfl, rfl, rfl, rfl, rfl, rfl, rfl, trivial⟩, rfl, ?lt1⟩
      case N1 => assumption
      case S1 => walk_at "sub"
      case ne1 => k_all
      case lt1 => omega
    · have e : false = decide (c = 32) := sgn_of (x := " ") (by decide) (by assumption)
      have e1 : ¬ c = 32 := by simpa using e.symm
      have e' : true = decide (c = 9) := sgn_of (x := "\t") (by decide) (by assumption)
      have e2 : c = 9 := by simpa using e'.symm
      have hr2 := ws_step hc hr
      rw [if_neg e1, if_pos e2] at hr2
      rename IntsAre _ (List.set _ _ _) => hi2
      rw [bump_neg (by assumption)] at hi2
      refine' hP _ _ ⟨_, _, _, _, rfl, ?F2, cb_drop ?N2 ?S2, ?ne2, ?J2⟩
      case F2 => assumption
      case' J2 => refine' ⟨bump cnt b, _, 0, _, n + 1, _, nt + 1, _, _, _, tr, tS, tT, hi2, by omega, by omega, bump_len hb hcl, hr2, ⟨rfl, rfl, rfl, rfl, rfl, rfl, rfl, trivial⟩, rfl, ?lt2⟩
      case N2 => assumption
      case S2 => walk_at "sub"
      case ne2 => k_all
      case lt2 => omega
    · have e : false = decide (c = 32) := sgn_of (x := " ") (by decide) (by assumption)
      have e1 : ¬ c = 32 := by simpa using e.symm
      have e' : false = decide (c = 9) := sgn_of (x := "\t") (by decide) (by assumption)
      have e2 : ¬ c = 9 := by simpa using e'.symm
      have hr2 := ws_step hc hr
      rw [if_neg e1, if_neg e2] at hr2
      refine hP _ _ ⟨_, _, _, _, rfl, by assumption, cb_drop (by assumption) (by walk_at "sub"), ⟨cnt, vs, b, tb, n, tn, nt, tnt, l, k, tr, tS, tT, hi, by omega, hr2, ⟨rfl, rfl, rfl, rfl, rfl, rfl, rfl, trivial⟩, rfl, hl⟩⟩
  case done =>
    clear F N
    rintro h tk m news ⟨cnt, vs, b, tb, n, tn, nt, tnt, l, k, tr, tS, tT, hi, hcz, hr, hm, rfl, hl⟩ F N
    replace F := fr_bd F _ hm
    dsimp only [bd] at F
    have hM : KstMark := kstMark
    dsimp only
    k_steps
    rename Fr _ _ _ _ => F
    rename News _ _ _ _ => N
    have fresh : ∀ {a : Addr} {o : Obj}, (a, o) ∈ _ → @Ne Nat a x → @Ne Nat a dx → s.heap.get? a = none := fun {a o} hm h1 h2 => by
      cases q : s.heap.get? a with
      | none => rfl
      | some o' =>
        have := hs a o' q (fun hb => by
          rcases List.mem_cons.mp hb with e | hb
          · exact h1 e
          · exact h2 (List.mem_singleton.mp hb))
        rw [(N _ hm).2.2] at this
        cases this
    have hc := (by assumption : @LT.lt Nat _ _ _ ∧ @LT.lt Nat _ l _ ∧ @LT.lt Nat _ x _ ∧ @LT.lt Nat _ dx _)
    have hd := (by assumption : @LT.lt Nat _ l _ ∧ @LT.lt Nat _ x _ ∧ @LT.lt Nat _ dx _)
    refine' hR _ _ _ _ vs cnt b n nt _ _ _ _ _ _ _ _ hi hcz hr (has_of (cb_drop N ?S3) hg) (fun b o e hb => F.keep b o (hs b o e hb)) (fresh (.head _) ?n1 ?n2) (fresh (.tail _ (.head _)) ?n3 ?n4) hc.1 hd.2.1
    case S3 => walk_at "sub"
    all_goals omega
end WSt
section WCt
theorem offWC : True := by w_top off; trivial
/-- the same, told by what lies below what -/
theorem c_wsL (w : World) (loose : List PySem.Str) (mean : ExcName → Option Value) (mg mb : PySem.Str → Option Value) (s : Shared) (h₀ : Heap) (X : (Mine.frag.heap_1 w.params).In h₀) (T : Top Mine.view loose mean mg mb h₀) (hk : h₀.StaysIn s.heap) {L : Addr} {m : PySem.Str → Option Value} {news : List (Addr × Obj)} (F : Fr h₀ L s.heap m) (N : News h₀ L s.heap news)
  (ws : PySem.Str) (t : Tok) (Q : Value → Shared → Prop) (ha : ws.cps.all (· < 128) = true) (hz : ws.cps.size ≤ 1000000)
  (hQ : ∀ h' tk x dx tn tc vs cnt b n nt tb tn' tnt k1 k2 k3 k4 k5, IntsAre vs cnt → cnt.length ≤ 1000000 → (cnt, b, n, nt) = wsRun ws.cps.toList [] 0 0 0 → Fr h₀ L h' m →
    News h₀ L h' (wsObjs w.params 107 x dx tn tc ws t tb tn' tnt k1 k2 k3 k4 k5 vs cnt b n nt ++ news) → AllLt dx news → @LT.lt Nat _ dx x → @LT.lt Nat _ x tc → @LT.lt Nat _ tc tn → Q (.ref x) { s with heap := h', toks := tk }) :
  wpAny (model PySem.Challenge.rw_ta0081_02.row.prog w) (AC 4) (call (.ref 107) [.str ws t]) Q NoE s := by
  revert X
  k_fill
  intro X
  k_dflt (refine' call_cls F X N ?k1 ?k2 ?k3 ?h; (case k1 => k_is); (case k2 => k_is); (case k3 => k_is))
  intro x dx h' F' N' hlt hxd
  refine' lift_C (A := AC 5) (c_wsinit w loose mean mg mb { s with heap := h' } h₀ X T (fun b o e => F'.keep b o e) x dx ws t _ ha hz ?hn hxd ?hR) rfl ?d ?u rfl rfl
  case d => exact Nat.le_of_ble_eq_true rfl
  case u => exact Nat.le_of_ble_eq_true rfl
  case hn => exact fun q hq => ⟨(N' q (by rcases hq with _ | ⟨_, _ | ⟨_, _ | _⟩⟩ <;> first | exact .head _ | exact .tail _ (.head _))).1, (N' q (by rcases hq with _ | ⟨_, _ | ⟨_, _ | _⟩⟩ <;> first | exact .head _ | exact .tail _ (.head _))).2.2⟩
  case hR =>
    intro h2 tk tn tc vs cnt b n nt tb tn' tnt k1 k2 k3 k4 k5 hi hcz hr hH hs hn1 hn2 hct hxt
    have N1 : News h₀ L h' news := fun p hp => N' p (.tail _ (.tail _ hp))
    have hx := N' _ (.head _)
    have hdx := N' _ (.tail _ (.head _))
    have ne1 : ∀ {a : Addr}, h'.get? a = none → @Ne Nat a x := fun {a} e q => by subst q; have := hx.1; rw [e] at this; cases this
    have ne2 : ∀ {a : Addr}, h'.get? a = none → @Ne Nat a dx := fun {a} e q => by subst q; have := hdx.1; rw [e] at this; cases this
    refine ⟨rfl, hQ h2 tk x dx tn tc vs cnt b n nt tb tn' tnt k1 k2 k3 k4 k5 hi hcz hr (after_fr F' hs ?a1 ?a2) ?a3 (allLt_of hlt) hxd hxt hct⟩
    case a1 =>
      intro hb
      rcases List.mem_cons.mp hb with e | hb
      · exact hx.2.1 e.symm
      · exact hdx.2.1 (List.mem_singleton.mp hb).symm
    case a2 =>
      intro b hb
      rcases List.mem_cons.mp hb with e | hb
      · rw [e]; exact hx.2.2
      · rw [List.mem_singleton.mp hb]; exact hdx.2.2
    case a3 =>
      intro p hp
      rcases List.mem_append.mp hp with hp | hp
      · refine after_led hH ?_ p hp
        intro q hq
        rcases List.mem_cons.mp hq with rfl | hq
        · exact fr_ne F' hn1
        rcases List.mem_cons.mp hq with rfl | hq
        · exact fr_ne F' hn2
        rcases List.mem_cons.mp hq with rfl | hq
        · exact hx.2.1
        rcases List.mem_cons.mp hq with rfl | hq
        · exact hdx.2.1
        · cases hq
      · refine after_news N1 hs ?_ p hp
        intro q hq hb
        have h1 : @LT.lt Nat _ q.1 dx := hlt q hq
        have hxd' : @LT.lt Nat _ dx x := hxd
        rcases List.mem_cons.mp hb with e | hb
        · have e' : @Eq Nat q.1 x := e
          omega
        · have e' : @Eq Nat q.1 dx := List.mem_singleton.mp hb
          omega
end WCt
section ILt
local macro_rules | `(tactic| walk_at "pad") => `(tactic| fail)
theorem offIL : True := by w_top off; trivial
local macro_rules | `(tactic| walk_at "exec For") => `(tactic| refine stop ?_)
local macro_rules | `(tactic| walk_at "exec For Name Call cons nil") => `(tactic| refine stop ?_)
local macro_rules | `(tactic| walk_at "pyIter") => `(tactic| refine stop ?_)
local macro_rules | `(tactic| walk_at "pyIter ref") => `(tactic| refine stop ?_)
local macro_rules | `(tactic| walk_at "sub") => `(tactic| first | exact List.forall_mem_nil _ | (refine' List.forall_mem_cons.mpr ⟨?a, ?b⟩; (case a => k_mem); (case b => walk_at "sub")))
local macro_rules | `(tactic| walk_at "call builtin:len") => `(tactic| (k_here; (with_reducible show wpAny _ _ (call (Value.builtin "len") [Value.ref _]) _ _ _); k_dflt (refine' my_lenT ?k1 ?k2 ?k3 ?k4 ?_; (case k1 => k_asm); (case k2 => k_mem); (case k3 => exact IntsAre.length (by assumption)); (case k4 => omega); k_whole)))
theorem c_indent (w : World) (loose : List PySem.Str) (mean : ExcName → Option Value) (mg mb : PySem.Str → Option Value) (s : Shared) (h₀ : Heap) (X : (Mine.frag.heap_1 w.params).In h₀) (T : Top Mine.view loose mean mg mb h₀) (hk : h₀.StaysIn s.heap) (x dx tn tc : Addr) (ws : PySem.Str) (t tb tn' tnt k1 k2 k3 k4 k5 : Tok) (vs : List Value) (cnt : List Int) (b n nt : Int) (size : Int) (tz : Tok) (R : Result → Shared → Prop)
  (hi : IntsAre vs cnt) (hcz : cnt.length ≤ 1000000) (h1 : 1 ≤ size) (hs16 : size ≤ 1000000)
  (hn : Has h₀ s.heap (wsObjs w.params 107 x dx tn tc ws t tb tn' tnt k1 k2 k3 k4 k5 vs cnt b n nt))
  (hR : ∀ h' tk tok, s.heap.StaysIn h' → R (.ok (.ret (.int (indent cnt b nt size) tok))) { s with heap := h', toks := tk }) :
  codeAny (model PySem.Challenge.rw_ta0081_02.row.prog w) (AC 5) (.call (.ref 76) ⟨[.ref x, .int size tz], []⟩) R s := by
  revert X
  k_fill
  intro X
  k_dflt (refine' enter (binds := [("self", .ref x), ("tabsize", .int size tz)]) (news := (wsObjs w.params 107 x dx tn tc ws t tb tn' tnt k1 k2 k3 k4 k5 vs cnt b n nt)) X T hk ?kn ?k6 ?k7 ?k8 ?k9 ?kB ?h ?c2 ?c3 ?c4 ?c5; (case kn => assumption); (case k6 => k_is); (case k7 => k_is); (case k8 => decide); (case k9 => exact BindsTo.of_eq rfl); (case c5 => decide); (case kB => exact locs rfl); (case c2 => exact rfl); (case c3 => exact rfl); (case c4 => exact rfl))
  clear X T
  intro g L h₁ hg hs F N X T
  (try dsimp only)
  dsimp only [wsObjs] at N
  k_steps
  unfold Stop
  refine For_led ?_ (fun _ => rfl)
  k_steps
  unfold Stop
  rename IsRange _ _ _ _ _ _ _ _ => hr
  rename Fr _ _ _ _ => F
  rename News _ _ _ _ => N
  refine' for_range (J := fun i m news => ∃ til, lks m [("self", .ref x), ("tabsize", .int size tz), ("count", .ref tc), ("trailing", .int b tb), ("il", .int (indIl cnt size i) til)] ∧ news = wsObjs w.params 107 x dx tn tc ws t tb tn' tnt k1 k2 k3 k4 k5 vs cnt b n nt)
     (Jx := fun m news => ∃ til, lks m [("self", .ref x), ("tabsize", .int size tz), ("count", .ref tc), ("trailing", .int b tb), ("il", .int (indIl cnt size ((cnt.length : Int) - size).toNat) til)] ∧ news = wsObjs w.params 107 x dx tn tc ws t tb tn' tnt k1 k2 k3 k4 k5 vs cnt b n nt) hr ?sm (rangeSize_nat _ _) ?h1 F N ?j0 ?turn ?jx ?done
  case sm => exact small_one (by omega) (by omega) (by omega) (by omega)
  case h1 => rfl
  case j0 => exact ⟨_, ⟨rfl, rfl, rfl, rfl, rfl, trivial⟩, rfl⟩
  case jx => exact fun m news h => h
  case turn =>
    clear F N
    rintro i u m news h tk I o hlt ⟨til, hm, rfl⟩ hnI F N
    replace F := fr_bd F _ hm
    dsimp only [bd] at F
    rw [Int.mul_one]
    have hq : 0 ≤ Int.fdiv (size + i) size ∧ Int.fdiv (size + i) size ≤ 2000000 := by
      rw [Int.fdiv_eq_ediv_of_nonneg _ (by omega)]
      refine ⟨Int.ediv_nonneg (by omega) (by omega), ?_⟩
      exact Int.le_trans (Int.ediv_le_self _ (by omega)) (by omega)
    k_steps
    exact ⟨_, _, _, _, rfl, by assumption, by assumption, hnI, _, ⟨rfl, rfl, rfl, rfl, rfl, trivial⟩, rfl⟩
  case done =>
    clear F N
    rintro h tk m news ⟨til, hm, rfl⟩ F N
    replace F := fr_bd F _ hm
    dsimp only [bd] at F
    k_steps
    exact hR _ _ _ (stays_of hs hn F.keep N)

theorem c_indentC {w : World} {loose : List PySem.Str} {mean : ExcName → Option Value} {mg mb : PySem.Str → Option Value} {s : Shared} {h₀ : Heap} {L : Addr} {m : PySem.Str → Option Value} {news : List (Addr × Obj)} {A' : Around} (F : Fr h₀ L s.heap m) (N : News h₀ L s.heap news) (X : (Mine.frag.heap_1 w.params).In h₀) (T : Top Mine.view loose mean mg mb h₀) (hA : A'.handled = none) (hAd : A'.depth ≤ 300 + 20 * 5) (hAu : A'.units ≤ 1000 * 5) {x dx tn tc : Addr} {ws : PySem.Str} {t tb tn' tnt k1 k2 k3 k4 k5 : Tok} {vs : List Value} {cnt : List Int} {b n nt : Int} {size : Int} {tz : Tok} {Q : Value → Shared → Prop}
  (hm : ∀ q ∈ wsObjs w.params 107 x dx tn tc ws t tb tn' tnt k1 k2 k3 k4 k5 vs cnt b n nt, q ∈ news) (hi : IntsAre vs cnt) (hcz : cnt.length ≤ 1000000) (h1 : 1 ≤ size) (hs16 : size ≤ 1000000)
  (hQ : ∀ h' tk tok, Fr h₀ L h' m → News h₀ L h' news → Q (.int (indent cnt b nt size) tok) { s with heap := h', toks := tk }) :
  wpAny (model PySem.Challenge.rw_ta0081_02.row.prog w) A' (call (.ref 76) [.ref x, .int size tz]) Q NoE s :=
  lift_A (A := AC 5) (wpAny_call (c_indent w loose mean mg mb s h₀ X T F.keep x dx tn tc ws t tb tn' tnt k1 k2 k3 k4 k5 vs cnt b n nt size tz _ hi hcz h1 hs16 (fun q hq => ⟨(N q (hm q hq)).1, (N q (hm q hq)).2.2⟩) fun h' tk tok k => hQ h' tk tok (fr_stay F k) (news_stay N k))) hA.symm hAd hAu rfl rfl
end ILt
section APt
theorem offAP : True := by w_top off; trivial
local macro_rules | `(tactic| walk_at "exec While") => `(tactic| refine stop ?_)
local macro_rules | `(tactic| walk_at "subscriptTail") => `(tactic| (k_here; (with_reducible show wpAny _ _ (subscriptTail _ (Expr.Slice _ _ none _) (Value.bytes _ _) (Value.ref _)) _ _ _); (with_reducible rename Fr _ _ _ _ => F'); (with_reducible rename News _ _ _ _ => N'); (refine ap_slice (s := ⟨_, _, _, _, _⟩) F' N' (by omega) (by omega) ?_); intro _ _ _ _ _))
theorem c_int2ap (w : World) (loose : List PySem.Str) (mean : ExcName → Option Value) (mg mb : PySem.Str → Option Value) (s : Shared) (h₀ : Heap) (X : (Mine.frag.heap_1 w.params).In h₀) (T : Top Mine.view loose mean mg mb h₀) (hk : h₀.StaysIn s.heap) (n : Int) (t : Tok) (R : Result → Shared → Prop) (hz : n.natAbs < 16 ^ 16)
  (hR : ∀ h' tk tok, s.heap.StaysIn h' → R (.ok (.ret (.bytes (apN n.natAbs).toArray tok))) { s with heap := h', toks := tk }) :
  codeAny (model PySem.Challenge.rw_ta0081_02.row.prog w) (AC 5) (.call (.ref 45) ⟨[.int n t], []⟩) R s := by
  revert X
  k_fill
  intro X
  k_dflt (refine' enter (binds := [("num", .int n t)]) (news := []) X T hk ?kn ?k6 ?k7 ?k8 ?k9 ?kB ?h ?c2 ?c3 ?c4 ?c5; (case kn => exact fun q hq => nomatch hq); (case k6 => k_is); (case k7 => k_is); (case k8 => decide); (case k9 => exact BindsTo.of_eq rfl); (case c5 => decide); (case kB => exact locs rfl); (case c2 => exact rfl); (case c3 => exact rfl); (case c4 => exact rfl))
  clear X T
  intro g L h₁ hg hs F N X T
  (try dsimp only)
  k_steps
  unfold Stop
  rename Fr _ _ _ _ => F
  refine' while_rule (I := fun k s' => ∃ h tk m num tn val tv ta j, s' = { s with heap := h, toks := tk } ∧ Fr g L h m ∧ lks m [("num", .int num tn), ("val", .bytes val.toArray tv), ("AP", .bytes APs ta)] ∧ 0 ≤ num ∧ num.toNat < 16 ^ j ∧ j + val.length ≤ 16 ∧ apN num.toNat ++ val = apN n.natAbs ∧ k = num.toNat) (if n < 0 then -n else n).toNat ?i0 ?it
  case i0 => 
    have e : (if n < 0 then -n else n).toNat = n.natAbs := by split <;> omega
    refine ⟨_, _, _, _, _, [], _, _, 16, rfl, F, ⟨rfl, rfl, rfl, trivial⟩, ?_, ?_, ?_, ?_, rfl⟩
    · split <;> omega
    · rw [e]; exact hz
    · decide
    · rw [e, List.append_nil]
  case it =>
    clear F
    rintro k s' ⟨h, tk, m, num, tn, val, tv, ta, j, rfl, F, hm, h0, hj, hv, hr, rfl⟩
    replace F := fr_bd F _ hm
    dsimp only [bd] at F
    have N : News g L h [] := News.nil
    have hf : 0 ≤ Int.fmod num 16 ∧ Int.fmod num 16 < 16 := by
      rw [Int.fmod_eq_emod_of_nonneg _ (by omega)]; omega
    have hM : KstMark := kstMark
    k_steps
    · have e1 : (Int.fdiv num 16).toNat = num.toNat / 16 := by rw [Int.fdiv_eq_ediv_of_nonneg _ (by omega)]; omega
      have e2 : (Int.fmod num 16).toNat = num.toNat % 16 := by rw [Int.fmod_eq_emod_of_nonneg _ (by omega)]; omega
      have e0 : num.toNat ≠ 0 := by omega
      cases j with
      | zero => exfalso; rw [Nat.pow_zero] at hj; omega
      | succ j =>
      rw [Nat.pow_succ] at hj
      refine ⟨num.toNat / 16, by omega, _, _, _, Int.fdiv num 16, _, UInt8.ofNat (65 + (Int.fmod num 16).toNat) :: val, _, _, j, rfl, by assumption, ⟨rfl, rfl, rfl, trivial⟩, ?_, ?_, ?_, ?_, ?_⟩
      · rw [Int.fdiv_eq_ediv_of_nonneg _ (by omega)]; omega
      · rw [e1]; omega
      · rw [List.length_cons]; omega
      · rw [e1, e2, ← hr, apN_pos e0, List.append_assoc]; rfl
      · rw [e1]
    · have e0 : num.toNat = 0 := by omega
      rw [e0, apN_zero, List.nil_append] at hr
      subst hr
      exact hR _ _ _ (fun b o e => F.keep b o (hs b o e (fun h => nomatch h)))
theorem c_int2apC {w : World} {loose : List PySem.Str} {mean : ExcName → Option Value} {mg mb : PySem.Str → Option Value} {s : Shared} {h₀ : Heap} {L : Addr} {m : PySem.Str → Option Value} {news : List (Addr × Obj)} {A' : Around} (F : Fr h₀ L s.heap m) (N : News h₀ L s.heap news) (X : (Mine.frag.heap_1 w.params).In h₀) (T : Top Mine.view loose mean mg mb h₀) (hA : A'.handled = none) (hAd : A'.depth ≤ 300 + 20 * 5) (hAu : A'.units ≤ 1000 * 5) {n : Int} {t : Tok} {Q : Value → Shared → Prop} (hz : n.natAbs < 16 ^ 16)
  (hQ : ∀ h' tk tok, Fr h₀ L h' m → News h₀ L h' news → Q (.bytes (apN n.natAbs).toArray tok) { s with heap := h', toks := tk }) :
  wpAny (model PySem.Challenge.rw_ta0081_02.row.prog w) A' (call (.ref 45) [.int n t]) Q NoE s :=
  lift_A (A := AC 5) (wpAny_call (c_int2ap w loose mean mg mb s h₀ X T F.keep n t _ hz fun h' tk tok k => hQ h' tk tok (fr_stay F k) (news_stay N k))) hA.symm hAd hAu rfl rfl
end APt
section CVt
local macro_rules | `(tactic| walk_at "pad") => `(tactic| fail)
theorem offCV : True := by w_top off; trivial
local macro_rules | `(tactic| walk_at "getMethod ref") => `(tactic| (k_here; k_dflt (refine' rx_methodK ?k1 ?k2 ?_; (case k1 => k_in); (case k2 => k_is); k_whole)))
local macro_rules | `(tactic| walk_at "call builtin:re.Pattern.search") => `(tactic| (k_here; k_dflt (refine' rx_searchK ?k1 ?k2 ?k3 ?k4 ?k5 ?k6 ?_; (case k1 => k_in); (case k2 => k_is); (case k3 => k_is); (case k5 => assumption); (case k4 => exact rfl); (case k6 => assumption); k_whole)))
theorem c_conv (w : World) (loose : List PySem.Str) (mean : ExcName → Option Value) (mg mb : PySem.Str → Option Value) (s : Shared) (h₀ : Heap) (X : (Mine.frag.heap_1 w.params).In h₀) (T : Top Mine.view loose mean mg mb h₀) (hk : h₀.StaysIn s.heap) (x : Value) (v : PySem.Str) (t : Tok) (nm : Bool) (R : Result → Shared → Prop) (hv : ∀ c ∈ v.cps.toList, (32 ≤ c ∨ (nm = false ∧ c = 9)) ∧ c < 127) (hz : v.cps.size ≤ 1000000)
  (hR : ∀ h' tk, s.heap.StaysIn h' → R (.ok (.ret (.str v t))) { s with heap := h', toks := tk }) :
  codeAny (model PySem.Challenge.rw_ta0081_02.row.prog w) (AC 8) (.call (.ref 156) ⟨[x, .str v t], [("name", .bool nm)]⟩) R s := by
  revert X
  k_fill
  intro X
  k_dflt (refine' enter (binds := [("self", x), ("value", .str v t), ("name", .bool nm)]) (news := []) X T hk ?kn ?k6 ?k7 ?k8 ?k9 ?kB ?h ?c2 ?c3 ?c4 ?c5; (case kn => exact fun q hq => nomatch hq); (case k6 => k_is); (case k7 => k_is); (case k8 => decide); (case k9 => exact BindsTo.of_eq rfl); (case c5 => decide); (case kB => exact locs rfl); (case c2 => exact rfl); (case c3 => exact rfl); (case c4 => exact rfl))
  clear X T
  intro g L h₁ hg hs F N X T
  (try dsimp only)
  cases nm <;> k_steps
  all_goals exact hR _ _ (fun b o e => Fr.keep (by assumption) b o (hs b o e (fun h => nomatch h)))
theorem c_convC {w : World} {loose : List PySem.Str} {mean : ExcName → Option Value} {mg mb : PySem.Str → Option Value} {s : Shared} {h₀ : Heap} {L : Addr} {m : PySem.Str → Option Value} {news : List (Addr × Obj)} {A' : Around} (F : Fr h₀ L s.heap m) (N : News h₀ L s.heap news) (X : (Mine.frag.heap_1 w.params).In h₀) (T : Top Mine.view loose mean mg mb h₀) (hA : A'.handled = none) (hAd : A'.depth ≤ 300 + 20 * 8) (hAu : A'.units ≤ 1000 * 8) (x : Value) (v : PySem.Str) (t : Tok) (nm : Bool) (Q : Value → Shared → Prop) (hv : ∀ c ∈ v.cps.toList, (32 ≤ c ∨ (nm = false ∧ c = 9)) ∧ c < 127) (hz : v.cps.size ≤ 1000000)
  (hQ : ∀ h' tk, Fr h₀ L h' m → News h₀ L h' news → Q (.str v t) { s with heap := h', toks := tk }) :
  wpAny (model PySem.Challenge.rw_ta0081_02.row.prog w) A' (call (.ref 156) [x, .str v t] [("name", .bool nm)]) Q NoE s :=
  lift_A (A := AC 8) (wpAny_call (c_conv w loose mean mg mb s h₀ X T F.keep x v t nm _ hv hz fun h' tk k => hQ h' tk (fr_stay F k) (news_stay N k))) hA.symm hAd hAu rfl rfl
end CVt
section LEt
theorem offLE : True := by w_top off; trivial
/-- the runs of a lead of law 2 -/
def leadCs (x : Nat) : List Nat := (x % 18) :: (if 0 < x / 18 % 4 then [x / 18 % 4 - 1] else [])
theorem le_mod (x : Nat) : (x : Int).fmod 18 = ((x % 18 : Nat) : Int) := by rw [Int.fmod_eq_emod_of_nonneg _ (by decide)]; rfl
theorem le_rest (x : Nat) : ((x : Int).fdiv 18).fmod 4 = ((x / 18 % 4 : Nat) : Int) := by
  rw [Int.fmod_eq_emod_of_nonneg _ (by decide), show (x : Int).fdiv 18 = ((x / 18 : Nat) : Int) from (Int.ofNat_fdiv x 18).symm]; rfl
theorem le_pos {x : Nat} : (0 : Int) < ((x : Int).fdiv 18).fmod 4 ↔ 0 < x / 18 % 4 := by rw [le_rest]; omega
theorem le_one {x : Nat} (h : 0 < x / 18 % 4) : Txt.mul " " ((x : Int).fmod 18) ++ "\t" ++ (Txt.mul " " (((x : Int).fdiv 18).fmod 4 - 1) ++ "\t") = (⟨(tabs (leadCs x)).toArray⟩ : PySem.Str) := by
  refine str_of_list ?_
  rw [le_mod, le_rest, show ((x / 18 % 4 : Nat) : Int) - 1 = ((x / 18 % 4 - 1 : Nat) : Int) by omega]
  simp only [app_list, mul_list]
  unfold leadCs
  rw [if_pos h]
  show (List.replicate (x % 18) 32 ++ [9]) ++ (List.replicate (x / 18 % 4 - 1) 32 ++ [9]) = tabs [x % 18, x / 18 % 4 - 1]
  simp [tabs]
theorem le_none {x : Nat} (h : ¬ 0 < x / 18 % 4) : Txt.mul " " ((x : Int).fmod 18) ++ "\t" ++ "" = (⟨(tabs (leadCs x)).toArray⟩ : PySem.Str) := by
  refine str_of_list ?_
  rw [le_mod]
  simp only [app_list, mul_list]
  unfold leadCs
  rw [if_neg h]
  show (List.replicate (x % 18) 32 ++ [9]) ++ [] = tabs [x % 18]
  simp [tabs]
theorem c_lead (w : World) (loose : List PySem.Str) (mean : ExcName → Option Value) (mg mb : PySem.Str → Option Value) (s : Shared) (h₀ : Heap) (X : (Mine.frag.heap_1 w.params).In h₀) (T : Top Mine.view loose mean mg mb h₀) (hk : h₀.StaysIn s.heap) (x : Nat) (t : Tok) (R : Result → Shared → Prop)
  (hR : ∀ h' tk tx, s.heap.StaysIn h' → R (.ok (.ret (.str ⟨(tabs (leadCs x)).toArray⟩ tx))) { s with heap := h', toks := tk }) :
  codeAny (model PySem.Challenge.rw_ta0081_02.row.prog w) (AC 4) (.call (.ref 266) ⟨[.int (x : Int) t], []⟩) R s := by
  revert X
  k_fill
  intro X
  k_dflt (refine' enter (binds := [("x", .int (x : Int) t)]) (news := []) X T hk ?kn ?k6 ?k7 ?k8 ?k9 ?kB ?h ?c2 ?c3 ?c4 ?c5; (case kn => exact fun q hq => nomatch hq); (case k6 => k_is); (case k7 => k_is); (case k8 => decide); (case k9 => exact BindsTo.of_eq rfl); (case c5 => decide); (case kB => exact locs rfl); (case c2 => exact rfl); (case c3 => exact rfl); (case c4 => exact rfl))
  clear X T
  intro g L h₁ hg hs F N X T
  (try dsimp only)
  have hf : 0 ≤ (x : Int).fmod 18 ∧ (x : Int).fmod 18 < 18 := by rw [le_mod]; omega
  have hf2 : 0 ≤ ((x : Int).fdiv 18).fmod 4 ∧ ((x : Int).fdiv 18).fmod 4 < 4 := by rw [le_rest]; omega
  k_steps
  · dsimp only
    rename Fr _ _ _ _ => F1
    rename (0 : Int) < _ => hlt
    rw [le_one (x := x) (le_pos.mp hlt)]
    exact hR _ _ _ fun b o e => F1.keep b o (hs b o e (fun q => nomatch q))
  · dsimp only
    rename Fr _ _ _ _ => F1
    rename ¬ (0 : Int) < _ => hlt
    rw [le_none (x := x) (fun q => hlt (le_pos.mpr q))]
    exact hR _ _ _ fun b o e => F1.keep b o (hs b o e (fun q => nomatch q))
theorem c_leadC {w : World} {loose : List PySem.Str} {mean : ExcName → Option Value} {mg mb : PySem.Str → Option Value} {s : Shared} {h₀ : Heap} {L : Addr} {m : PySem.Str → Option Value} {news : List (Addr × Obj)} {A' : Around} (F : Fr h₀ L s.heap m) (N : News h₀ L s.heap news) (X : (Mine.frag.heap_1 w.params).In h₀) (T : Top Mine.view loose mean mg mb h₀) (hA : A'.handled = none) (hAd : A'.depth ≤ 300 + 20 * 4) (hAu : A'.units ≤ 1000 * 4) {x : Nat} {t : Tok} {Q : Value → Shared → Prop}
  (hQ : ∀ h' tk tx, Fr h₀ L h' m → News h₀ L h' news → Q (.str ⟨(tabs (leadCs x)).toArray⟩ tx) { s with heap := h', toks := tk }) :
  wpAny (model PySem.Challenge.rw_ta0081_02.row.prog w) A' (call (.ref 266) [.int (x : Int) t]) Q NoE s :=
  lift_A (A := AC 4) (wpAny_call (c_lead w loose mean mg mb s h₀ X T F.keep x t _ fun h' tk tx k => hQ h' tk tx (fr_stay F k) (news_stay N k))) hA.symm hAd hAu rfl rfl
end LEt
section NBt
theorem offNB : True := by w_top off; trivial
local macro_rules | `(tactic| walk_at "exec For") => `(tactic| refine stop ?_)
local macro_rules | `(tactic| walk_at "exec For Name Name cons nil") => `(tactic| refine stop ?_)
local macro_rules | `(tactic| walk_at "pyIter") => `(tactic| refine stop ?_)
local macro_rules | `(tactic| walk_at "pyIter bytes") => `(tactic| refine stop ?_)
theorem nb_step {bs : Array UInt8} {i : Nat} {c : UInt8} {n W : Int} (h : bs[i]? = some c) (hr : apVal (bs.toList.drop i) n = W) : apVal (bs.toList.drop (i + 1)) (16 * n + (c.toNat : Int) - 65) = W := by
  rw [← hr]
  have h1 : bs.toList.drop i = c :: bs.toList.drop (i + 1) := by
    have h2 : bs.toList[i]? = some c := by simpa using h
    obtain ⟨hl, he⟩ := List.getElem?_eq_some_iff.mp h2
    rw [List.drop_eq_getElem_cons hl, he]
  rw [h1]
  rfl
theorem c_number (w : World) (loose : List PySem.Str) (mean : ExcName → Option Value) (mg mb : PySem.Str → Option Value) (s : Shared) (h₀ : Heap) (X : (Mine.frag.heap_1 w.params).In h₀) (T : Top Mine.view loose mean mg mb h₀) (hk : h₀.StaysIn s.heap) (bs : Array UInt8) (t : Tok) (R : Result → Shared → Prop)
  (hR : ∀ h' tk tx, s.heap.StaysIn h' → R (.ok (.ret (.int (apVal bs.toList 0) tx))) { s with heap := h', toks := tk }) :
  codeAny (model PySem.Challenge.rw_ta0081_02.row.prog w) (AC 4) (.call (.ref 280) ⟨[.bytes bs t], []⟩) R s := by
  revert X
  k_fill
  intro X
  k_dflt (refine' enter (binds := [("word", .bytes bs t)]) (news := []) X T hk ?kn ?k6 ?k7 ?k8 ?k9 ?kB ?h ?c2 ?c3 ?c4 ?c5; (case kn => exact fun q hq => nomatch hq); (case k6 => k_is); (case k7 => k_is); (case k8 => decide); (case k9 => exact BindsTo.of_eq rfl); (case c5 => decide); (case kB => exact locs rfl); (case c2 => exact rfl); (case c3 => exact rfl); (case c4 => exact rfl))
  clear X T
  intro g L h₁ hg hs F N X T
  (try dsimp only)
  k_steps
  unfold Stop
  refine For_led ?_ (fun _ => rfl)
  k_steps
  unfold Stop
  rename Fr _ _ _ _ => F
  rename News _ _ _ _ => N
  refine' for_bytes (J := fun i m news => ∃ (n : Int) (tc : Tok), lks m [("word", .bytes bs t), ("number", .int n tc)] ∧ news = [] ∧ apVal (bs.toList.drop i) n = apVal bs.toList 0)
    (Jx := fun m news => ∃ (tc : Tok), lks m [("number", .int (apVal bs.toList 0) tc)] ∧ news = []) ?hA F N ?j0 ?turn ?jx ?done
  case hA => rfl
  case j0 => exact ⟨0, _, ⟨rfl, rfl, trivial⟩, rfl, rfl⟩
  case jx =>
    rintro m news ⟨c, tc, hm, rfl, hc⟩
    rw [List.drop_of_length_le (by rw [Array.length_toList]; exact Nat.le_refl _)] at hc
    obtain rfl : c = _ := hc
    exact ⟨tc, ⟨hm.2.1, trivial⟩, rfl⟩
  case turn =>
    clear F N
    rintro i k u m news h tk I o hk ⟨n, tc, hm, rfl, hc⟩ hnI F N
    replace F := fr_bd F _ hm
    dsimp only [bd] at F
    have hst := nb_step hk hc
    k_steps
    rename Fr _ _ _ _ => F1
    rename News _ _ _ _ => N1
    exact ⟨_, _, _, _, rfl, F1, N1, hnI, _, _, ⟨rfl, rfl, trivial⟩, rfl, hst⟩
  case done =>
    clear F N
    rintro h tk m news ⟨tc, hm, rfl⟩ F N
    replace F := fr_bd F _ hm
    dsimp only [bd] at F
    k_steps
    show R _ _
    exact hR _ _ _ fun b o e => F.keep b o (hs b o e (fun q => nomatch q))
theorem c_numberC {w : World} {loose : List PySem.Str} {mean : ExcName → Option Value} {mg mb : PySem.Str → Option Value} {s : Shared} {h₀ : Heap} {L : Addr} {m : PySem.Str → Option Value} {news : List (Addr × Obj)} {A' : Around} (F : Fr h₀ L s.heap m) (N : News h₀ L s.heap news) (X : (Mine.frag.heap_1 w.params).In h₀) (T : Top Mine.view loose mean mg mb h₀) (hA : A'.handled = none) (hAd : A'.depth ≤ 300 + 20 * 4) (hAu : A'.units ≤ 1000 * 4) {bs : Array UInt8} {t : Tok} {Q : Value → Shared → Prop}
  (hQ : ∀ h' tk tx, Fr h₀ L h' m → News h₀ L h' news → Q (.int (apVal bs.toList 0) tx) { s with heap := h', toks := tk }) :
  wpAny (model PySem.Challenge.rw_ta0081_02.row.prog w) A' (call (.ref 280) [.bytes bs t]) Q NoE s :=
  lift_A (A := AC 4) (wpAny_call (c_number w loose mean mg mb s h₀ X T F.keep bs t _ fun h' tk tx k => hQ h' tk tx (fr_stay F k) (news_stay N k))) hA.symm hAd hAu rfl rfl
end NBt
section COt
local macro_rules | `(tactic| walk_at "pad") => `(tactic| fail)
theorem offCO : True := by w_top off; trivial
local macro_rules | `(tactic| walk_at "exec For") => `(tactic| refine stop ?_)
local macro_rules | `(tactic| walk_at "exec For Name Name cons nil") => `(tactic| refine stop ?_)
local macro_rules | `(tactic| walk_at "pyIter") => `(tactic| refine stop ?_)
local macro_rules | `(tactic| walk_at "pyIter str") => `(tactic| refine stop ?_)
/-- the column of a text, sign by sign -/
def colRun (z : Nat) : List Nat → Nat → Nat
  | [], c => c
  | k :: r, c => colRun z r (if k = 9 then c + (z - c % z) else c + 1)
theorem co_step {z c i k W : Nat} {ws : PySem.Str} (h : ws.cps[i]? = some k) (hr : colRun z (ws.cps.toList.drop i) c = W) : colRun z (ws.cps.toList.drop (i + 1)) (if k = 9 then c + (z - c % z) else c + 1) = W := by
  rw [← hr]
  have h1 : ws.cps.toList.drop i = k :: ws.cps.toList.drop (i + 1) := by
    have h2 : ws.cps.toList[i]? = some k := by simpa using h
    obtain ⟨hl, he⟩ := List.getElem?_eq_some_iff.mp h2
    rw [List.drop_eq_getElem_cons hl, he]
  rw [h1]
  rfl
theorem co_tab {c z : Nat} (h : 1 ≤ z) : (c : Int) + ((z : Int) - (c : Int).fmod (z : Int)) = ((c + (z - c % z) : Nat) : Int) := by
  rw [Int.fmod_eq_emod_of_nonneg _ (by omega)]
  have := Nat.mod_lt c (show 0 < z by omega)
  omega
theorem c_column (w : World) (loose : List PySem.Str) (mean : ExcName → Option Value) (mg mb : PySem.Str → Option Value) (s : Shared) (h₀ : Heap) (X : (Mine.frag.heap_1 w.params).In h₀) (T : Top Mine.view loose mean mg mb h₀) (hk : h₀.StaysIn s.heap) (ws : PySem.Str) (t : Tok) (z : Nat) (tz : Tok) (R : Result → Shared → Prop) (ha : ws.cps.all (· < 128) = true) (hz : ws.cps.size ≤ 1000000) (h1 : 1 ≤ z) (h2 : z ≤ 1000000)
  (hR : ∀ h' tk tx, s.heap.StaysIn h' → R (.ok (.ret (.int ((colRun z ws.cps.toList 0 : Nat) : Int) tx))) { s with heap := h', toks := tk }) :
  codeAny (model PySem.Challenge.rw_ta0081_02.row.prog w) (AC 4) (.call (.ref 273) ⟨[.str ws t, .int (z : Int) tz], []⟩) R s := by
  revert X
  k_fill
  intro X
  k_dflt (refine' enter (binds := [("text", .str ws t), ("size", .int (z : Int) tz)]) (news := []) X T hk ?kn ?k6 ?k7 ?k8 ?k9 ?kB ?h ?c2 ?c3 ?c4 ?c5; (case kn => exact fun q hq => nomatch hq); (case k6 => k_is); (case k7 => k_is); (case k8 => decide); (case k9 => exact BindsTo.of_eq rfl); (case c5 => decide); (case kB => exact locs rfl); (case c2 => exact rfl); (case c3 => exact rfl); (case c4 => exact rfl))
  clear X T
  intro g L h₁ hg hs F N X T
  (try dsimp only)
  k_steps
  unfold Stop
  refine For_led ?_ (fun _ => rfl)
  k_steps
  unfold Stop
  rename Fr _ _ _ _ => F
  rename News _ _ _ _ => N
  refine' for_str (J := fun i m news => ∃ (c : Nat) (tc : Tok), lks m [("text", .str ws t), ("size", .int (z : Int) tz), ("column", .int (c : Int) tc)] ∧ news = [] ∧ colRun z (ws.cps.toList.drop i) c = colRun z ws.cps.toList 0)
    (Jx := fun m news => ∃ (tc : Tok), lks m [("column", .int ((colRun z ws.cps.toList 0 : Nat) : Int) tc)] ∧ news = []) ha ?hA F N ?j0 ?turn ?jx ?done
  case hA => rfl
  case j0 => exact ⟨0, _, ⟨rfl, rfl, rfl, trivial⟩, rfl, rfl⟩
  case jx =>
    rintro m news ⟨c, tc, hm, rfl, hc⟩
    rw [List.drop_of_length_le (by rw [Array.length_toList]; exact Nat.le_refl _)] at hc
    obtain rfl : c = _ := hc
    exact ⟨tc, ⟨hm.2.2.1, trivial⟩, rfl⟩
  case turn =>
    clear F N
    rintro i k u m news h tk I o hk ⟨c, tc, hm, rfl, hc⟩ hnI F N
    replace F := fr_bd F _ hm
    dsimp only [bd] at F
    have hst := co_step hk hc
    have hM : KstMark := kstMark
    k_steps
    · have e : true = decide (k = 9) := sgn_of (x := "\t") (by decide) (by assumption)
      have e1 : k = 9 := by simpa using e.symm
      rename Fr _ _ _ _ => F1
      rename News _ _ _ _ => N1
      rw [co_tab h1] at F1
      rw [if_pos e1] at hst
      exact ⟨_, _, _, _, rfl, F1, N1, hnI, _, _, ⟨rfl, rfl, rfl, trivial⟩, rfl, hst⟩
    · have e : false = decide (k = 9) := sgn_of (x := "\t") (by decide) (by assumption)
      have e1 : ¬ k = 9 := by simpa using e.symm
      rename Fr _ _ _ _ => F1
      rename News _ _ _ _ => N1
      rw [if_neg e1] at hst
      exact ⟨_, _, _, _, rfl, F1, N1, hnI, c + 1, _, ⟨rfl, rfl, rfl, trivial⟩, rfl, hst⟩
  case done =>
    clear F N
    rintro h tk m news ⟨tc, hm, rfl⟩ F N
    replace F := fr_bd F _ hm
    dsimp only [bd] at F
    k_steps
    show R _ _
    exact hR _ _ _ fun b o e => F.keep b o (hs b o e (fun q => nomatch q))
theorem c_columnC {w : World} {loose : List PySem.Str} {mean : ExcName → Option Value} {mg mb : PySem.Str → Option Value} {s : Shared} {h₀ : Heap} {L : Addr} {m : PySem.Str → Option Value} {news : List (Addr × Obj)} {A' : Around} (F : Fr h₀ L s.heap m) (N : News h₀ L s.heap news) (X : (Mine.frag.heap_1 w.params).In h₀) (T : Top Mine.view loose mean mg mb h₀) (hA : A'.handled = none) (hAd : A'.depth ≤ 300 + 20 * 4) (hAu : A'.units ≤ 1000 * 4) {ws : PySem.Str} {t : Tok} {z : Nat} {tz : Tok} {Q : Value → Shared → Prop} (ha : ws.cps.all (· < 128) = true) (hz : ws.cps.size ≤ 1000000) (h1 : 1 ≤ z) (h2 : z ≤ 1000000)
  (hQ : ∀ h' tk tx, Fr h₀ L h' m → News h₀ L h' news → Q (.int ((colRun z ws.cps.toList 0 : Nat) : Int) tx) { s with heap := h', toks := tk }) :
  wpAny (model PySem.Challenge.rw_ta0081_02.row.prog w) A' (call (.ref 273) [.str ws t, .int (z : Int) tz]) Q NoE s :=
  lift_A (A := AC 4) (wpAny_call (c_column w loose mean mg mb s h₀ X T F.keep ws t z tz _ ha hz h1 h2 fun h' tk tx k => hQ h' tk tx (fr_stay F k) (news_stay N k))) hA.symm hAd hAu rfl rfl
theorem colRun_blanks (z : Nat) (r : List Nat) : ∀ (k c : Nat), colRun z (List.replicate k 32 ++ r) c = colRun z r (c + k)
  | 0, c => rfl
  | k + 1, c => by
    rw [List.replicate_succ, List.cons_append]
    show colRun z (List.replicate k 32 ++ r) (if 32 = 9 then _ else c + 1) = _
    rw [if_neg (by decide), colRun_blanks z r k]
    congr 1; omega
theorem tab_at {z : Nat} (h : 1 ≤ z) (q k : Nat) : z * q + k + (z - (z * q + k) % z) = z * (q + (k / z + 1)) := by
  rw [Nat.mul_add_mod]
  have h1 := Nat.div_add_mod k z
  have h2 := Nat.mod_lt k (show 0 < z by omega)
  rw [Nat.mul_add, Nat.mul_add]
  omega
theorem colRun_tabs {z : Nat} (h : 1 ≤ z) : ∀ (cs : List Nat) (q : Nat), colRun z (tabs cs) (z * q) = z * q + lcol cs z
  | [], q => by show z * q = z * q + z * 0; omega
  | c :: r, q => by
    show colRun z (List.replicate c 32 ++ 9 :: tabs r) (z * q) = _
    rw [colRun_blanks]
    show colRun z (tabs r) (if 9 = 9 then z * q + c + (z - (z * q + c) % z) else _) = _
    rw [if_pos rfl, tab_at h, colRun_tabs h r]
    unfold lcol
    rw [List.map_cons, List.sum_cons, List.length_cons, ← Nat.mul_add, ← Nat.mul_add]
    congr 1; omega
end COt
section AHt
theorem offAH : True := by w_top off; trivial
local macro_rules | `(tactic| walk_at "sub") => `(tactic| first | exact List.forall_mem_nil _ | (refine' List.forall_mem_cons.mpr ⟨?a, ?b⟩; (case a => k_mem); (case b => walk_at "sub")))
local macro_rules | `(tactic| walk_at "call ref") => `(tactic| (k_here; k_dflt (refine' c_convC ?k1 ?k2 ?k3 ?k4 ?a1 ?a2 ?a3 _ _ _ _ _ ?k5 ?k6 ?_; (case k1 => k_asm); (case k2 => k_asm); (case k3 => k_asm); (case k4 => k_asm); (case a1 => exact rfl); (case a2 => exact Nat.le_of_ble_eq_true rfl); (case a3 => exact Nat.le_of_ble_eq_true rfl); (case k5 => first | exact cleanN.ok (by assumption) | exact cleanV.ok (by assumption)); (case k6 => first | exact And.right (a := ∀ c ∈ _, 32 ≤ c ∧ c < 127) (by assumption) | exact And.right (a := ∀ c ∈ _, (32 ≤ c ∨ c = 9) ∧ c < 127) (by assumption)); k_whole); intro h' tk' F' N'))
theorem join_alone (v : PySem.Str) : Txt.join "; " [v] = v := by
  show Builtin.Str.glued "; " [v] = v
  rw [StrLaws.glued_eq_join]
  rfl
theorem c_addh (w : World) (loose : List PySem.Str) (mean : ExcName → Option Value) (mg mb : PySem.Str → Option Value) (s : Shared) (h₀ : Heap) (X : (Mine.frag.heap_1 w.params).In h₀) (T : Top Mine.view loose mean mg mb h₀) (hk : h₀.StaysIn s.heap) (x dx l : Addr) (vs : List Value) (n : Nat) (k : Tok) (nm : PySem.Str) (t : Tok) (v : PySem.Str) (tv : Tok) (R : Result → Shared → Prop)
  (hn : Has h₀ s.heap (hdObjs w.params 255 x dx l k vs n)) (hcn : cleanN nm) (hcv : cleanV v) (hz : vs.length ≤ 1000) (hxd : @Ne Nat dx x) (hld : @Ne Nat l dx) (hlx : @Ne Nat l x)
  (hR : ∀ h' tk n' D tv', SB s.heap h' [l] → h'.get? l = some (listOf (vs ++ [Value.ref D]).toArray n') → h'.get? D = some (tupO [.str nm t, .str v tv']) → s.heap.get? D = none → @LT.lt Nat _ s.heap.objs.size D → R (.ok (.ret .none)) { s with heap := h', toks := tk }) :
  codeAny (model PySem.Challenge.rw_ta0081_02.row.prog w) (AC 6) (.call (.ref 252) ⟨[.ref x, .str nm t, .str v tv], []⟩) R s := by
  revert X
  k_fill
  intro X
  k_dflt (refine' enterK (binds := fun D => [("self", .ref x), ("_name", .str nm t), ("_value", .str v tv), ("_params", .ref D)]) (news := hdObjs w.params 255 x dx l k vs n) X T hk ?kn ?k6 ?k7 ?k8 ?kb ?kl ?h ?c2 ?c3 ?c4 ?c5; (case kn => assumption); (case k6 => k_is); (case k7 => k_is); (case k8 => decide); (case kb => exact rfl); (case kl => exact fun d => locs rfl); (case c2 => exact rfl); (case c3 => exact rfl); (case c4 => exact rfl); (case c5 => decide))
  clear X T
  intro g L h₁ D hg hs hD0 F N hlt hDm hDe X T
  replace N : News g L h₁ ((D, dictOf [] 0) :: hdObjs w.params 255 x dx l k vs n) := N
  dsimp only [hdObjs] at N
  k_steps
  refine For_led ?_ (fun _ => rfl)
  k_steps
  rename Fr _ _ _ _ => F
  rename News _ _ _ _ => N
  refine kdl_method (knd := PySem.strKind _ _) PySem.F.slot_dict_items PySem.F.type_dict_items N (by k_mem) empty_dict ?_
  k_steps
  rename Fr _ _ _ _ => F
  rename News _ _ _ _ => N
  refine kta_callItems (knd := PySem.strKind _ _) F N (by k_mem) empty_dict hDm ?_
  clear F N
  intro h2 hv F N
  k_steps
  rename Fr _ _ _ _ => F
  rename News _ _ _ _ => N
  refine for_items0 rfl F N hv (by k_mem) ?_
  clear F N
  intro h3 tk3 F N
  replace F : Fr g L h3 _ := F
  replace N : News g L h3 _ := N
  k_steps
  rename Fr _ _ _ _ => F
  rename News _ _ _ _ => N
  refine join_listC ⟨_, (N _ (.head _)).1, rfl, _, rfl⟩ (StrsAre.cons _ _ .nil) ?js ?jz ?_
  case js => exact Nat.le_of_ble_eq_true rfl
  case jz =>
    have hv2 : v.length ≤ 1000000 := hcv.2
    simp only [List.map_cons, List.map_nil, List.sum_cons, List.sum_nil, List.length_cons, List.length_nil]
    omega
  rw [join_alone]
  intro t9 k9
  k_steps
  rename Fr _ _ _ _ => F
  rename News _ _ _ _ => N
  rename _ ∧ _ => hlt2
  rename Addr => D2
  refine my_append [(D2, tupO [.str nm t, .str v t9]), (x, instObj 255 dx), (dx, dictOf [strKey w.params "_headers" k (.ref l)] 1)] F N (.tail _ (.tail _ (.tail _ (.tail _ (.tail _ (.head _)))))) ?hr (Nat.le_trans hz (Nat.le_of_ble_eq_true rfl)) ?_
  case hr =>
    intro p hp
    rcases List.mem_cons.mp hp with rfl | hp
    · exact ⟨.head _, Nat.ne_of_gt hlt2.2.2.2.2⟩
    rcases List.mem_cons.mp hp with rfl | hp
    · exact ⟨by k_mem, Ne.symm hlx⟩
    · rw [List.mem_singleton.mp hp]
      exact ⟨by k_mem, Ne.symm hld⟩
  clear F N
  intro h4 n4 F N
  k_steps
  rename Fr _ _ _ _ => F
  rename News _ _ _ _ => N
  have hDn := N _ (.tail _ (.head _))
  refine hR _ _ n4 _ t9 (sb_of hs hn F.keep N ?_) (N _ (.head _)).1 hDn.1 (none_of hs hDn.2.2 ?_) ?_
  · intro q hq
    rcases List.mem_cons.mp hq with rfl | hq
    · exact .inr (.tail _ (.tail _ (.head _)))
    rcases List.mem_cons.mp hq with rfl | hq
    · exact .inr (.tail _ (.tail _ (.tail _ (.head _))))
    rcases List.mem_cons.mp hq with rfl | hq
    · exact .inl (.head _)
    · cases hq
  · intro hb
    rcases List.mem_cons.mp hb with e | hb
    · exact Nat.ne_of_gt hlt2.2.2.1 e
    rcases List.mem_cons.mp hb with e | hb
    · exact Nat.ne_of_gt hlt2.2.2.2.1 e
    · exact Nat.ne_of_gt hlt2.2.2.2.2 (List.mem_singleton.mp hb)
  · exact Nat.lt_of_le_of_lt (Nat.le_of_eq hDe.symm) hlt2.2.1
theorem c_addhC {w : World} {loose : List PySem.Str} {mean : ExcName → Option Value} {mg mb : PySem.Str → Option Value} {s : Shared} {h₀ : Heap} {L : Addr} {m : PySem.Str → Option Value} {news : List (Addr × Obj)} {A' : Around} (F : Fr h₀ L s.heap m) (N : News h₀ L s.heap news) (X : (Mine.frag.heap_1 w.params).In h₀) (T : Top Mine.view loose mean mg mb h₀) (hA : A'.handled = none) (hAd : A'.depth ≤ 300 + 20 * 6) (hAu : A'.units ≤ 1000 * 6) {x dx l : Addr} {vs : List Value} {n : Nat} {k : Tok} {nm : PySem.Str} {t : Tok} {v : PySem.Str} {tv : Tok} {Q : Value → Shared → Prop} (rest : List (Addr × Obj))
  (hm : ∀ q ∈ hdObjs w.params 255 x dx l k vs n, q ∈ news) (hr : ∀ p ∈ rest, p ∈ news ∧ p.1 ≠ l) (hcn : cleanN nm) (hcv : cleanV v) (hz : vs.length ≤ 1000) (hxd : @Ne Nat dx x) (hld : @Ne Nat l dx) (hlx : @Ne Nat l x)
  (hQ : ∀ h' tk n' D tv', Fr h₀ L h' m → News h₀ L h' ((D, tupO [.str nm t, .str v tv']) :: (l, listOf (vs ++ [Value.ref D]).toArray n') :: rest) → AllLt D news → Q .none { s with heap := h', toks := tk }) :
  wpAny (model PySem.Challenge.rw_ta0081_02.row.prog w) A' (call (.ref 252) [.ref x, .str nm t, .str v tv]) Q NoE s := by
  refine lift_A (A := AC 6) (wpAny_call (c_addh w loose mean mg mb s h₀ X T F.keep x dx l vs n k nm t v tv _ (fun q hq => ⟨(N q (hm q hq)).1, (N q (hm q hq)).2.2⟩) hcn hcv hz hxd hld hlx fun h' tk n' D tv' hs hl hD hD0 hDz => ?_)) hA.symm hAd hAu rfl rfl
  obtain ⟨e3, e4, e5⟩ := N _ (hm _ (.tail _ (.tail _ (.head _))))
  refine hQ h' tk n' D tv' (after_fr F hs (fun q => e4 (List.mem_singleton.mp q).symm) (fun b hb => by rw [List.mem_singleton.mp hb]; exact e5)) (fun p hp => ?_) (allLt_of fun p hp => Nat.lt_trans (Heap.lt_size (N p hp).1) hDz)
  rcases List.mem_cons.mp hp with rfl | hp
  · refine ⟨hD, fr_ne F hD0, ?_⟩
    cases q : h₀.get? D with
    | none => rfl
    | some o => rw [F.keep _ _ q] at hD0; cases hD0
  rcases List.mem_cons.mp hp with rfl | hp
  · exact ⟨hl, e4, e5⟩
  · exact after_news (fun q hq => N q (hr q hq).1 : News h₀ L s.heap rest) hs (fun q hq hb => (hr q hq).2 (List.mem_singleton.mp hb)) p hp

/-- the same, the list changed in its place in the ledger -/
theorem c_addhU {w : World} {loose : List PySem.Str} {mean : ExcName → Option Value} {mg mb : PySem.Str → Option Value} {s : Shared} {h₀ : Heap} {L : Addr} {m : PySem.Str → Option Value} {news : List (Addr × Obj)} {A' : Around} (F : Fr h₀ L s.heap m) (N : News h₀ L s.heap news) (X : (Mine.frag.heap_1 w.params).In h₀) (T : Top Mine.view loose mean mg mb h₀) (hA : A'.handled = none) (hAd : A'.depth ≤ 300 + 20 * 6) (hAu : A'.units ≤ 1000 * 6) {x dx l : Addr} {vs : List Value} {n : Nat} {k : Tok} {nm : PySem.Str} {t : Tok} {v : PySem.Str} {tv : Tok} {g : Obj → List (Addr × Obj)} {Q : Value → Shared → Prop}
  (hx : (x, instObj 255 dx) ∈ news) (hd : (dx, dictOf [strKey w.params "_headers" k (.ref l)] 1) ∈ news) (U : UpdF l (listOf vs.toArray n) news g) (hcn : cleanN nm) (hcv : cleanV v) (hz : vs.length ≤ 1000) (hxd : @Ne Nat dx x) (hld : @Ne Nat l dx) (hlx : @Ne Nat l x)
  (hQ : ∀ h' tk n' D t2 tv', Fr h₀ L h' m → News h₀ L h' ((D, tupO [.str nm t2, .str v tv']) :: g (listOf (vs ++ [Value.ref D]).toArray n')) → AllLt D news → Q .none { s with heap := h', toks := tk }) :
  wpAny (model PySem.Challenge.rw_ta0081_02.row.prog w) A' (call (.ref 252) [.ref x, .str nm t, .str v tv]) Q NoE s := by
  obtain ⟨pre, post, e0, hg, x1, x2⟩ := U.split
  have hl : (l, listOf vs.toArray n) ∈ news := by rw [e0]; exact List.mem_append_right _ (.head _)
  refine c_addhC (k := k) (n := n) F N X T hA hAd hAu (pre ++ post) (fun q hq => ?_) (fun p hp => ?_) hcn hcv hz hxd hld hlx fun h' tk n' D tv' F' N' e => hQ h' tk n' D t tv' F' (fun p hp => ?_) e
  · rcases List.mem_cons.mp hq with rfl | hq
    · exact hx
    rcases List.mem_cons.mp hq with rfl | hq
    · exact hd
    · rw [List.mem_singleton.mp hq]; exact hl
  · rcases List.mem_append.mp hp with hp | hp
    · exact ⟨by rw [e0]; exact List.mem_append_left _ hp, x1 p hp⟩
    · exact ⟨by rw [e0]; exact List.mem_append_right _ (.tail _ hp), x2 p hp⟩
  · rw [hg] at hp
    rcases List.mem_cons.mp hp with rfl | hp
    · exact N' _ (.head _)
    rcases List.mem_append.mp hp with hp | hp
    · exact N' p (.tail _ (.tail _ (List.mem_append_left _ hp)))
    rcases List.mem_cons.mp hp with rfl | hp
    · exact N' _ (.tail _ (.head _))
    · exact N' p (.tail _ (.tail _ (List.mem_append_right _ hp)))
end AHt
section HZt
theorem offHZ : True := by w_top off; trivial
local macro_rules | `(tactic| walk_at "sub") => `(tactic| first | exact List.forall_mem_nil _ | (refine' List.forall_mem_cons.mpr ⟨?a, ?b⟩; (case a => k_mem); (case b => walk_at "sub")))
theorem c_hinit0 (w : World) (loose : List PySem.Str) (mean : ExcName → Option Value) (mg mb : PySem.Str → Option Value) (s : Shared) (h₀ : Heap) (X : (Mine.frag.heap_1 w.params).In h₀) (T : Top Mine.view loose mean mg mb h₀) (hk : h₀.StaysIn s.heap) (x dx : Addr) (R : Result → Shared → Prop)
  (hn : Has h₀ s.heap [(x, instObj 255 dx), (dx, dictOf [] 0)]) (hlt : @LT.lt Nat _ dx x)
  (hR : ∀ h' tk k l n, SB s.heap h' [dx] → h'.get? dx = some (dictOf [strKey w.params "_headers" k (.ref l)] 1) → h'.get? l = some (listOf #[] n) → s.heap.get? l = none → @LT.lt Nat _ x l → R (.ok (.ret .none)) { s with heap := h', toks := tk }) :
  codeAny (model PySem.Challenge.rw_ta0081_02.row.prog w) (AC 6) (.call (.ref 149) ⟨[.ref x], []⟩) R s := by
  revert X
  k_fill
  intro X
  k_dflt (refine' enter (binds := [("self", .ref x), ("headers", .none)]) (news := [(x, instObj 255 dx), (dx, dictOf [] 0)]) X T hk ?kn ?k6 ?k7 ?k8 ?k9 ?kB ?h ?c2 ?c3 ?c4 ?c5; (case kn => assumption); (case k6 => k_is); (case k7 => k_is); (case k8 => decide); (case k9 => (refine' binds_K (X.keeps fun b o e => hk b o e) ?d1 ?d2 ?d3 ?d4 ?d5; (case d1 => exact rfl); (case d2 => k_is); (case d3 => exact rfl); (case d4 => exact rfl); (case d5 => exact rfl))); (case c5 => decide); (case kB => exact locs rfl); (case c2 => exact rfl); (case c3 => exact rfl); (case c4 => exact rfl))
  clear X T
  intro g L h₁ hg hs F N X T
  (try dsimp only)
  k_steps
  show R _ _
  rename Fr _ _ _ _ => F
  rename News _ _ _ _ => N
  have l2 := (by assumption : @LT.lt Nat _ x _ ∧ @LT.lt Nat _ dx _)
  have hl := N _ (.head _)
  refine hR _ _ _ _ _ (sb_of hs hn F.keep N ?_) (N _ (.tail _ (.tail _ (.head _)))).1 hl.1 (none_of hs hl.2.2 ?_) l2.1
  · intro q hq
    rcases List.mem_cons.mp hq with rfl | hq
    · exact .inr (.tail _ (.head _))
    · rw [List.mem_singleton.mp hq]; exact .inl (.head _)
  · intro hb
    rcases List.mem_cons.mp hb with e | hb
    · exact Nat.ne_of_gt l2.1 e
    · exact Nat.ne_of_gt l2.2 (List.mem_singleton.mp hb)
theorem c_hnew0 (w : World) (loose : List PySem.Str) (mean : ExcName → Option Value) (mg mb : PySem.Str → Option Value) (s : Shared) (h₀ : Heap) (X : (Mine.frag.heap_1 w.params).In h₀) (T : Top Mine.view loose mean mg mb h₀) (hk : h₀.StaysIn s.heap) {L : Addr} {m : PySem.Str → Option Value} {news : List (Addr × Obj)} (F : Fr h₀ L s.heap m) (N : News h₀ L s.heap news) (Q : Value → Shared → Prop)
  (hQ : ∀ h' tk x dx k l n, Fr h₀ L h' m → News h₀ L h' (hdObjs w.params 255 x dx l k [] n ++ news) → AllLt dx news → @LT.lt Nat _ dx x → @LT.lt Nat _ x l → Q (.ref x) { s with heap := h', toks := tk }) :
  wpAny (model PySem.Challenge.rw_ta0081_02.row.prog w) (AC 5) (call (.ref 255) []) Q NoE s := by
  revert X
  k_fill
  intro X
  k_dflt (refine' call_cls F X N ?k1 ?k2 ?k3 ?h; (case k1 => k_is); (case k2 => k_is); (case k3 => k_is))
  intro x dx h' F' N' hlt hxd
  have hxd' : @LT.lt Nat _ dx x := hxd
  refine' lift_C (A := AC 6) (c_hinit0 w loose mean mg mb { s with heap := h' } h₀ X T (fun b o e => F'.keep b o e) x dx _ ?hn hxd ?hR) rfl ?d ?u rfl rfl
  case d => exact Nat.le_of_ble_eq_true rfl
  case u => exact Nat.le_of_ble_eq_true rfl
  case hn =>
    intro q hq
    rcases List.mem_cons.mp hq with rfl | hq
    · exact ⟨(N' _ (.head _)).1, (N' _ (.head _)).2.2⟩
    · rw [List.mem_singleton.mp hq]
      exact ⟨(N' _ (.tail _ (.head _))).1, (N' _ (.tail _ (.head _))).2.2⟩
  case hR =>
    intro h2 tk k l n hs hd hl hl0 hxl
    have hx := N' _ (.head _)
    have hdx := N' _ (.tail _ (.head _))
    refine ⟨rfl, hQ h2 tk x dx k l n (after_fr F' hs ?a1 ?a2) ?a3 (allLt_of hlt) hxd hxl⟩
    case a1 => exact fun q => hdx.2.1 (List.mem_singleton.mp q).symm
    case a2 => exact fun b hb => by rw [List.mem_singleton.mp hb]; exact hdx.2.2
    case a3 =>
      intro p hp'
      rcases List.mem_cons.mp hp' with rfl | hp'
      · exact ⟨hs _ _ hx.1 (fun q => Nat.ne_of_gt hxd' (List.mem_singleton.mp q)), hx.2⟩
      rcases List.mem_cons.mp hp' with rfl | hp'
      · exact ⟨hd, hdx.2⟩
      rcases List.mem_cons.mp hp' with rfl | hp'
      · refine ⟨hl, fr_ne F' hl0, ?_⟩
        cases q : h₀.get? l with
        | none => rfl
        | some o => rw [F'.keep _ _ q] at hl0; cases hl0
      · exact ⟨hs _ _ (N' p (.tail _ (.tail _ hp'))).1 (fun q => Nat.ne_of_lt (hlt p hp') (List.mem_singleton.mp q)), (N' p (.tail _ (.tail _ hp'))).2⟩
end HZt
section HLt
theorem offHL : True := by w_top off; trivial
local macro_rules | `(tactic| walk_at "sub") => `(tactic| first | exact List.forall_mem_nil _ | (refine' List.forall_mem_cons.mpr ⟨?a, ?b⟩; (case a => k_mem); (case b => walk_at "sub")))
local macro_rules | `(tactic| walk_at "call ref") => `(tactic| (k_here; k_dflt (refine' c_convC ?k1 ?k2 ?k3 ?k4 ?a1 ?a2 ?a3 _ _ _ _ _ ?k5 ?k6 ?_; (case k1 => k_asm); (case k2 => k_asm); (case k3 => k_asm); (case k4 => k_asm); (case a1 => exact rfl); (case a2 => exact Nat.le_of_ble_eq_true rfl); (case a3 => exact Nat.le_of_ble_eq_true rfl); (case k5 => first | exact cleanN.ok (by assumption) | exact cleanV.ok (by assumption)); (case k6 => first | exact And.right (a := ∀ c ∈ _, 32 ≤ c ∧ c < 127) (by assumption) | exact And.right (a := ∀ c ∈ _, (32 ≤ c ∨ c = 9) ∧ c < 127) (by assumption)); k_whole); intro h' tk' F' N'))
local macro_rules | `(tactic| walk_at "call builtin:str.lower") => `(tactic| (k_here; (with_reducible show wpAny _ _ (call (Value.builtin "str.lower") [Value.str _ _]) _ _ _); k_dflt (refine' SCL.lower ?k1 ?_; (case k1 => first | exact cleanN.low (by assumption))); intro _))
local macro_rules | `(tactic| walk_at "CompSrcT") => `(tactic| refine stop ?_)
theorem c_hall (w : World) (loose : List PySem.Str) (mean : ExcName → Option Value) (mg mb : PySem.Str → Option Value) (s : Shared) (h₀ : Heap) (X : (Mine.frag.heap_1 w.params).In h₀) (T : Top Mine.view loose mean mg mb h₀) (hk : h₀.StaysIn s.heap) (x dx l : Addr) (vs : List Value) (n : Nat) (tbl : List (PySem.Str × PySem.Str)) (k : Tok) (nm : PySem.Str) (t : Tok) (R : Result → Shared → Prop)
  (hn : Has h₀ s.heap (hdObjs w.params 255 x dx l k vs n)) (hp : PairsAt s.heap vs tbl) (hc : ∀ p ∈ tbl, cleanN p.1 ∧ cleanV p.2) (hcn : cleanN nm) (hcl : cleanN (Txt.lower nm)) (hz : vs.length ≤ 1000)
  (hR : ∀ h' tk D n' ys, StrsAre ys ((tbl.filter fun p => Txt.lower p.1 == Txt.lower nm).map (·.2)) → s.heap.StaysIn h' → h'.get? D = some (listOf ys.toArray n') → s.heap.get? D = none → R (.ok (.ret (.ref D))) { s with heap := h', toks := tk }) :
  codeAny (model PySem.Challenge.rw_ta0081_02.row.prog w) (AC 5) (.call (.ref 194) ⟨[.ref x, .str nm t], []⟩) R s := by
  revert X
  k_fill
  intro X
  k_dflt (refine' enterC (binds := [("self", .ref x), ("name", .str nm t)]) (news := hdObjs w.params 255 x dx l k vs n) X T hk ?kn ?k6 ?k7 ?k8 ?k9 ?kB ?kD ?h ?c2 ?c3 ?c4; (case kn => assumption); (case k6 => k_is); (case k7 => k_is); (case k8 => decide); (case k9 => exact BindsTo.of_eq rfl); (case kB => exact rfl); (case kD => decide +kernel); (case c2 => exact rfl); (case c3 => exact rfl); (case c4 => exact rfl))
  clear X T
  intro g L h₁ tk cells hg hs F N Y X T l1
  (try k_lt l1)
  k_cells Y
  (try simp only [List.cons_append, List.nil_append] at N)
  (try dsimp only)
  have hpg := hp.sub hs (fun q hq => (hn q hq).1) rfl
  dsimp only [hdObjs] at N
  k_steps
  unfold Stop
  rename Fr _ _ _ _ => F
  rename News _ _ _ _ => N
  refine LCt.CompSrcT.ledger (by rfl) F N (by k_mem) (by rw [List.size_toArray]; exact Nat.le_trans hz (Nat.le_of_ble_eq_true rfl)) ?_
  intro g1
  refine compT_K (fun i ys => StrsAre ys (((tbl.take i).filter fun p => Txt.lower p.1 == Txt.lower nm).map (·.2))) ?turn ?done StrsAre.nil
  case turn =>
    clear F N
    intro i ys v I oI C oC D m₂ h tk E' hJ hi hv hC hx F N o3 ne
    have hv : vs[i]? = some v := by simpa using hv
    obtain ⟨p, hpi, a, t1, t2, rfl, ha⟩ := hpg.2 i v hv
    have ht : IsTup g a #[.str p.1 t1, .str p.2 t2] := ⟨_, ha, rfl, 0, rfl⟩
    obtain ⟨hc1, hc2⟩ := hc p (List.mem_of_getElem? hpi)
    (try simp only [LCg.Off3, and_true] at o3)
    k_steps
    · refine ⟨rfl, ?_⟩
      rename (Txt.lower p.1 == Txt.lower nm) = true => e
      exact all_take hpi e hJ
    · refine ⟨rfl, ?_⟩
      rename (Txt.lower p.1 == Txt.lower nm) = false => e
      exact all_skip hpi e hJ
  case done =>
    clear F N
    intro ys hJ
    rw [List.size_toArray, hp.1, List.take_length] at hJ
    k_steps
    rename Fr _ _ _ _ => F
    rename News _ _ _ _ => N
    rename (_ ∧ _) => o4
    have hD := N _ (.head _)
    refine hR _ _ _ _ ys hJ (stays_of hs hn F.keep fun q hq => N q (.tail _ (.tail _ hq))) hD.1 (none_of hs hD.2.2 ?_)
    intro hb
    rcases List.mem_cons.mp hb with e | hb
    · exact o4.2.1 e.symm
    rcases List.mem_cons.mp hb with e | hb
    · exact o4.2.2.1 e.symm
    · exact o4.2.2.2 (List.mem_singleton.mp hb).symm
theorem c_hallC {w : World} {loose : List PySem.Str} {mean : ExcName → Option Value} {mg mb : PySem.Str → Option Value} {s : Shared} {h₀ : Heap} {L : Addr} {m : PySem.Str → Option Value} {news : List (Addr × Obj)} {A' : Around} (F : Fr h₀ L s.heap m) (N : News h₀ L s.heap news) (X : (Mine.frag.heap_1 w.params).In h₀) (T : Top Mine.view loose mean mg mb h₀) (hA : A'.handled = none) (hAd : A'.depth ≤ 300 + 20 * 5) (hAu : A'.units ≤ 1000 * 5) {x dx l : Addr} {vs : List Value} {n : Nat} {tbl : List (PySem.Str × PySem.Str)} {k : Tok} {nm : PySem.Str} {t : Tok} {Q : Value → Shared → Prop} (xs : List PySem.Str)
  (hm : ∀ q ∈ hdObjs w.params 255 x dx l k vs n, q ∈ news) (hp : PairsAt s.heap vs tbl) (hc : ∀ p ∈ tbl, cleanN p.1 ∧ cleanV p.2) (hcn : cleanN nm) (hcl : cleanN (Txt.lower nm)) (hz : vs.length ≤ 1000)
  (hxs : (tbl.filter fun p => Txt.lower p.1 == Txt.lower nm).map (·.2) = xs)
  (hQ : ∀ h' tk D n' ys, StrsAre ys xs → Fr h₀ L h' m → News h₀ L h' ((D, listOf ys.toArray n') :: news) → AllNe D news → Q (.ref D) { s with heap := h', toks := tk }) :
  wpAny (model PySem.Challenge.rw_ta0081_02.row.prog w) A' (call (.ref 194) [.ref x, .str nm t]) Q NoE s := by
  refine lift_A (A := AC 5) (wpAny_call (c_hall w loose mean mg mb s h₀ X T F.keep x dx l vs n tbl k nm t _ (fun q hq => ⟨(N q (hm q hq)).1, (N q (hm q hq)).2.2⟩) hp hc hcn hcl hz fun h' tk D n' ys hy hst hD hD0 => ?_)) hA.symm hAd hAu rfl rfl
  rw [hxs] at hy
  refine hQ h' tk D n' ys hy (fr_stay F hst) (fun p hp => ?_) (allNe_of (news_ne N hD0))
  rcases List.mem_cons.mp hp with rfl | hp
  · refine ⟨hD, fr_ne F hD0, ?_⟩
    cases q : h₀.get? D with
    | none => rfl
    | some o => rw [F.keep _ _ q] at hD0; cases hD0
  · exact news_stay N hst p hp
end HLt
section MTt
theorem offMT : True := by w_top off; trivial
local macro_rules | `(tactic| walk_at "sub") => `(tactic| first | exact List.forall_mem_nil _ | (refine' List.forall_mem_cons.mpr ⟨?a, ?b⟩; (case a => k_mem); (case b => walk_at "sub")))
local macro_rules | `(tactic| walk_at "call ref") => `(tactic| refine stop ?_)
local macro_rules | `(tactic| walk_at "subscriptTail") => `(tactic| (k_here; (with_reducible show wpAny _ _ (subscriptTail _ _ (Value.ref _) _) _ _ _); refine stop ?_))
local macro_rules | `(tactic| walk_at "exec For Tuple Call cons nil") => `(tactic| (k_here; (rename Fr _ _ _ _ => lF'); (with_unfolding_all refine' For_turns lF' ?_; k_whole)))
local macro_rules | `(tactic| walk_at "call builtin:sorted") => `(tactic| refine stop ?_)
abbrev metObjs (la lb : Addr) (na nb : Nat) (q r : Nat → Addr) (a b : Nat → Int) (t u t' u' : Nat → Tok) (x y : Nat → PySem.Str) : List (Addr × Obj) :=
  [(la, listOf #[.ref (q 0), .ref (q 1), .ref (q 2)] na), (lb, listOf #[.ref (r 0), .ref (r 1), .ref (r 2)] nb),
   (q 0, tupO [.int (a 0) (t 0), .str (x 0) (u 0)]), (q 1, tupO [.int (a 1) (t 1), .str (x 1) (u 1)]), (q 2, tupO [.int (a 2) (t 2), .str (x 2) (u 2)]),
   (r 0, tupO [.int (b 0) (t' 0), .str (y 0) (u' 0)]), (r 1, tupO [.int (b 1) (t' 1), .str (y 1) (u' 1)]), (r 2, tupO [.int (b 2) (t' 2), .str (y 2) (u' 2)])]
/-- the table of two halves that met -/
abbrev metTbl (x y : Nat → PySem.Str) (k0 k1 k2 j0 j1 j2 : Nat) : List (PySem.Str × PySem.Str) :=
  [(Txt.item "abc" 0, x k0), (Txt.item "abc" 1, x k1), (Txt.item "abc" 2, x k2), (Txt.item "ABC" 0, y j2), (Txt.item "ABC" 1, y j1), (Txt.item "ABC" 2, y j0)]
theorem news_sub {g h : Heap} {L : Addr} {l : List (Addr × Obj)} (N : News g L h l) (l' : List (Addr × Obj)) (hs : ∀ q ∈ l', q ∈ l) : News g L h l' := fun q hq => N q (hs q hq)
theorem off_lt {D : Addr} : ∀ {l : List (Addr × Obj)}, AllLt D l → D ∉ l.map (·.1)
  | [], _ => fun h => nomatch h
  | p :: r, h => fun hb => by
    rcases List.mem_cons.mp hb with e | hb
    · have : @LT.lt Nat _ p.1 D := h.1
      exact Nat.ne_of_gt this e
    · exact off_lt h.2 hb
theorem c_met (w : World) (loose : List PySem.Str) (mean : ExcName → Option Value) (mg mb : PySem.Str → Option Value) (s : Shared) (h₀ : Heap) (X : (Mine.frag.heap_1 w.params).In h₀) (T : Top Mine.view loose mean mg mb h₀) (hk : h₀.StaysIn s.heap) (la lb : Addr) (na nb : Nat) (q r : Nat → Addr) (a b : Nat → Int) (t u t' u' : Nat → Tok) (x y : Nat → PySem.Str) (R : Result → Shared → Prop)
  (hn : Has h₀ s.heap (metObjs la lb na nb q r a b t u t' u' x y)) (hx : ∀ i, i < 3 → cleanV (x i)) (hy : ∀ i, i < 3 → cleanV (y i))
  (hR : ∀ h' tk xt dt lt kt n vs tups k0 k1 k2 j0 j1 j2, Three a k0 k1 k2 → Three b j0 j1 j2 → s.heap.StaysIn h' → PairsIn h₀ tups vs (metTbl x y k0 k1 k2 j0 j1 j2) → AllTup tups →
    (∀ q ∈ hdObjs w.params 255 xt dt lt kt vs n ++ tups, h'.get? q.1 = some q.2 ∧ s.heap.get? q.1 = none) → R (.ok (.ret (.ref xt))) { s with heap := h', toks := tk }) :
  codeAny (model PySem.Challenge.rw_ta0081_02.row.prog w) (AC 4) (.call (.ref 287) ⟨[.ref la, .ref lb], []⟩) R s := by
  revert X
  k_fill
  intro X
  k_dflt (refine' enter (binds := [("half", .ref la), ("other", .ref lb)]) (news := metObjs la lb na nb q r a b t u t' u' x y) X T hk ?kn ?k6 ?k7 ?k8 ?k9 ?kB ?h ?c2 ?c3 ?c4 ?c5; (case kn => assumption); (case k6 => k_is); (case k7 => k_is); (case k8 => decide); (case k9 => exact BindsTo.of_eq rfl); (case c5 => decide); (case kB => exact locs rfl); (case c2 => exact rfl); (case c3 => exact rfl); (case c4 => exact rfl))
  clear X T
  intro g L h₁ hg hs F N X T
  (try dsimp only)
  k_steps
  unfold Stop
  rename Fr _ _ _ _ => F
  rename News _ _ _ _ => N
  refine lift_A (A := AC 5) (c_hnew0 _ _ _ _ _ _ _ X T (fun b o e => F.keep b o e) F N _ ?_) rfl (Nat.le_of_ble_eq_true rfl) (Nat.le_of_ble_eq_true rfl) rfl rfl
  clear F N
  intro h2 tk2 xt dt kt lt nt F N l1 l3 l4
  dsimp only [hdObjs, metObjs, List.cons_append, List.nil_append] at N
  k_steps
  unfold Stop
  rename Fr _ _ _ _ => F
  rename News _ _ _ _ => N
  have IT : ∀ {h : Heap} {news : List (Addr × Obj)} {i : Nat}, News g L h news → (∀ p ∈ metObjs la lb na nb q r a b t u t' u' x y, p ∈ news) → i < 3 → IsTup h (q i) #[.int (a i) (t i), .str (x i) (u i)] := fun {h news i} N hm hi => by
    have hv : (q i, tupO [.int (a i) (t i), .str (x i) (u i)]) ∈ news := by
      obtain rfl | rfl | rfl : i = 0 ∨ i = 1 ∨ i = 2 := by omega
      all_goals exact hm _ (by k_mem)
    exact ⟨_, (N _ hv).1, rfl, 0, rfl⟩
  have IT2 : ∀ {h : Heap} {news : List (Addr × Obj)} {i : Nat}, News g L h news → (∀ p ∈ metObjs la lb na nb q r a b t u t' u' x y, p ∈ news) → i < 3 → IsTup h (r i) #[.int (b i) (t' i), .str (y i) (u' i)] := fun {h news i} N hm hi => by
    have hv : (r i, tupO [.int (b i) (t' i), .str (y i) (u' i)]) ∈ news := by
      obtain rfl | rfl | rfl : i = 0 ∨ i = 1 ∨ i = 2 := by omega
      all_goals exact hm _ (by k_mem)
    exact ⟨_, (N _ hv).1, rfl, 0, rfl⟩
  refine sorted3 (q := q) a t u x F N ?hl ?hv ?_
  case hl => exact ⟨listOf #[.ref (q 0), .ref (q 1), .ref (q 2)] na, (N (la, listOf #[.ref (q 0), .ref (q 1), .ref (q 2)] na) (by k_mem)).1, rfl, na, rfl⟩
  case hv =>
    intro i hi
    obtain rfl | rfl | rfl : i = 0 ∨ i = 1 ∨ i = 2 := by omega
    all_goals k_mem
  clear F N
  intro D1 h3 e1 k0 k1 k2 ht F N l6
  k_lt l6
  simp only [AllLt, and_true] at l1
  obtain ⟨i0, i1, i2⟩ := perm_lt ht.1
  have hx0 := hx k0 i0
  have hx1 := hx k1 i1
  have hx2 := hx k2 i2
  have hxd : @Ne Nat dt xt := Nat.ne_of_lt l3
  have hld : @Ne Nat lt dt := Nat.ne_of_gt (Nat.lt_trans l3 l4)
  have hlx : @Ne Nat lt xt := Nat.ne_of_gt l4
  k_steps
  unfold Stop
  rename Fr _ _ _ _ => F
  rename News _ _ _ _ => N
  refine item_tupleT (IT N (by walk_at "sub") i0) (by decide) (by decide) rfl rfl ?_
  k_steps
  unfold Stop
  rename Fr _ _ _ _ => F
  rename News _ _ _ _ => N
  k_dflt (refine' c_addhU F N ?k3 ?k4 ?a1 ?a2 ?a3 ?hx ?hd ?U ?c1 ?c2 ?z hxd hld hlx ?_; (case k3 => k_asm); (case k4 => k_asm); (case a1 => exact rfl); (case a2 => exact Nat.le_of_ble_eq_true rfl); (case a3 => exact Nat.le_of_ble_eq_true rfl); (case hx => k_mem); (case hd => k_mem); (case U => k_updF); (case c1 => exact cleanN_of (by decide +kernel)); (case c2 => assumption); (case z => exact Nat.le_of_ble_eq_true rfl); k_whole)
  intro hh0 tt0 nn0 DD0 uu0 vv0 FF0 NN0 ee0
  simp only [AllLt, and_true] at ee0
  (try dsimp only at NN0)
  k_steps
  unfold Stop
  rename Fr _ _ _ _ => F
  rename News _ _ _ _ => N
  refine item_tupleT (IT N (by walk_at "sub") i1) (by decide) (by decide) rfl rfl ?_
  k_steps
  unfold Stop
  rename Fr _ _ _ _ => F
  rename News _ _ _ _ => N
  k_dflt (refine' c_addhU F N ?k3 ?k4 ?a1 ?a2 ?a3 ?hx ?hd ?U ?c1 ?c2 ?z hxd hld hlx ?_; (case k3 => k_asm); (case k4 => k_asm); (case a1 => exact rfl); (case a2 => exact Nat.le_of_ble_eq_true rfl); (case a3 => exact Nat.le_of_ble_eq_true rfl); (case hx => k_mem); (case hd => k_mem); (case U => k_updF); (case c1 => exact cleanN_of (by decide +kernel)); (case c2 => assumption); (case z => exact Nat.le_of_ble_eq_true rfl); k_whole)
  intro hh1 tt1 nn1 DD1 uu1 vv1 FF1 NN1 ee1
  simp only [AllLt, and_true] at ee1
  (try dsimp only at NN1)
  k_steps
  unfold Stop
  rename Fr _ _ _ _ => F
  rename News _ _ _ _ => N
  refine item_tupleT (IT N (by walk_at "sub") i2) (by decide) (by decide) rfl rfl ?_
  k_steps
  unfold Stop
  rename Fr _ _ _ _ => F
  rename News _ _ _ _ => N
  k_dflt (refine' c_addhU F N ?k3 ?k4 ?a1 ?a2 ?a3 ?hx ?hd ?U ?c1 ?c2 ?z hxd hld hlx ?_; (case k3 => k_asm); (case k4 => k_asm); (case a1 => exact rfl); (case a2 => exact Nat.le_of_ble_eq_true rfl); (case a3 => exact Nat.le_of_ble_eq_true rfl); (case hx => k_mem); (case hd => k_mem); (case U => k_updF); (case c1 => exact cleanN_of (by decide +kernel)); (case c2 => assumption); (case z => exact Nat.le_of_ble_eq_true rfl); k_whole)
  intro hh2 tt2 nn2 DD2 uu2 vv2 FF2 NN2 ee2
  simp only [AllLt, and_true] at ee2
  (try dsimp only at NN2)
  k_steps
  unfold Stop
  rename Fr _ _ _ _ => F
  rename News _ _ _ _ => N
  refine sorted3R (q := r) b t' u' y F N ?hl2 ?hv2 ?_
  case hl2 => exact ⟨listOf #[.ref (r 0), .ref (r 1), .ref (r 2)] nb, (N (lb, listOf #[.ref (r 0), .ref (r 1), .ref (r 2)] nb) (by k_mem)).1, rfl, nb, rfl⟩
  case hv2 =>
    intro i hi
    obtain rfl | rfl | rfl : i = 0 ∨ i = 1 ∨ i = 2 := by omega
    all_goals k_mem
  intro D2 h4 e2 j0 j1 j2 ht2 F4 N4 l7
  k_lt l7
  obtain ⟨o0, o1, o2⟩ := perm_lt ht2.1
  have hy0 := hy j0 o0
  have hy1 := hy j1 o1
  have hy2 := hy j2 o2
  k_steps
  unfold Stop
  rename Fr _ _ _ _ => F
  rename News _ _ _ _ => N
  refine item_tupleT (IT2 N (by walk_at "sub") o2) (by decide) (by decide) rfl rfl ?_
  k_steps
  unfold Stop
  rename Fr _ _ _ _ => F
  rename News _ _ _ _ => N
  k_dflt (refine' c_addhU F N ?k3 ?k4 ?a1 ?a2 ?a3 ?hx ?hd ?U ?c1 ?c2 ?z hxd hld hlx ?_; (case k3 => k_asm); (case k4 => k_asm); (case a1 => exact rfl); (case a2 => exact Nat.le_of_ble_eq_true rfl); (case a3 => exact Nat.le_of_ble_eq_true rfl); (case hx => k_mem); (case hd => k_mem); (case U => k_updF); (case c1 => exact cleanN_of (by decide +kernel)); (case c2 => assumption); (case z => exact Nat.le_of_ble_eq_true rfl); k_whole)
  intro hh3 tt3 nn3 DD3 uu3 vv3 FF3 NN3 ee3
  simp only [AllLt, and_true] at ee3
  (try dsimp only at NN3)
  k_steps
  unfold Stop
  rename Fr _ _ _ _ => F
  rename News _ _ _ _ => N
  refine item_tupleT (IT2 N (by walk_at "sub") o1) (by decide) (by decide) rfl rfl ?_
  k_steps
  unfold Stop
  rename Fr _ _ _ _ => F
  rename News _ _ _ _ => N
  k_dflt (refine' c_addhU F N ?k3 ?k4 ?a1 ?a2 ?a3 ?hx ?hd ?U ?c1 ?c2 ?z hxd hld hlx ?_; (case k3 => k_asm); (case k4 => k_asm); (case a1 => exact rfl); (case a2 => exact Nat.le_of_ble_eq_true rfl); (case a3 => exact Nat.le_of_ble_eq_true rfl); (case hx => k_mem); (case hd => k_mem); (case U => k_updF); (case c1 => exact cleanN_of (by decide +kernel)); (case c2 => assumption); (case z => exact Nat.le_of_ble_eq_true rfl); k_whole)
  intro hh4 tt4 nn4 DD4 uu4 vv4 FF4 NN4 ee4
  simp only [AllLt, and_true] at ee4
  (try dsimp only at NN4)
  k_steps
  unfold Stop
  rename Fr _ _ _ _ => F
  rename News _ _ _ _ => N
  refine item_tupleT (IT2 N (by walk_at "sub") o0) (by decide) (by decide) rfl rfl ?_
  k_steps
  unfold Stop
  rename Fr _ _ _ _ => F
  rename News _ _ _ _ => N
  k_dflt (refine' c_addhU F N ?k3 ?k4 ?a1 ?a2 ?a3 ?hx ?hd ?U ?c1 ?c2 ?z hxd hld hlx ?_; (case k3 => k_asm); (case k4 => k_asm); (case a1 => exact rfl); (case a2 => exact Nat.le_of_ble_eq_true rfl); (case a3 => exact Nat.le_of_ble_eq_true rfl); (case hx => k_mem); (case hd => k_mem); (case U => k_updF); (case c1 => exact cleanN_of (by decide +kernel)); (case c2 => assumption); (case z => exact Nat.le_of_ble_eq_true rfl); k_whole)
  intro hh5 tt5 nn5 DD5 uu5 vv5 FF5 NN5 ee5
  simp only [AllLt, and_true] at ee5
  (try dsimp only at NN5)
  k_steps
  show R _ _
  rename Fr _ _ _ _ => F
  rename News _ _ _ _ => N
  have fresh : ∀ {D : Addr} {o : Obj}, (D, o) ∈ _ → AllLt D (metObjs la lb na nb q r a b t u t' u' x y) → _ ∧ s.heap.get? D = none := fun {D o} hm h => ⟨(N (D, o) hm).1, none_of hs (N (D, o) hm).2.2 (off_lt h)⟩
  have NB := news_sub N (hdObjs w.params 255 xt dt lt kt [.ref DD0, .ref DD1, .ref DD2, .ref DD3, .ref DD4, .ref DD5] nn5 ++ [(DD0, tupO [.str (Txt.item "abc" 0) uu0, .str (x k0) vv0]), (DD1, tupO [.str (Txt.item "abc" 1) uu1, .str (x k1) vv1]), (DD2, tupO [.str (Txt.item "abc" 2) uu2, .str (x k2) vv2]), (DD3, tupO [.str (Txt.item "ABC" 0) uu3, .str (y j2) vv3]), (DD4, tupO [.str (Txt.item "ABC" 1) uu4, .str (y j1) vv4]), (DD5, tupO [.str (Txt.item "ABC" 2) uu5, .str (y j0) vv5])]) (by
    dsimp only [hdObjs, List.cons_append, List.nil_append]
    walk_at "sub")
  refine hR _ _ xt dt lt kt nn5 [.ref DD0, .ref DD1, .ref DD2, .ref DD3, .ref DD4, .ref DD5] [(DD0, tupO [.str (Txt.item "abc" 0) uu0, .str (x k0) vv0]), (DD1, tupO [.str (Txt.item "abc" 1) uu1, .str (x k1) vv1]), (DD2, tupO [.str (Txt.item "abc" 2) uu2, .str (x k2) vv2]), (DD3, tupO [.str (Txt.item "ABC" 0) uu3, .str (y j2) vv3]), (DD4, tupO [.str (Txt.item "ABC" 1) uu4, .str (y j1) vv4]), (DD5, tupO [.str (Txt.item "ABC" 2) uu5, .str (y j0) vv5])] k0 k1 k2 j0 j1 j2 ht ht2 ?st (PairsIn.cons (p := (Txt.item "abc" 0, x k0)) (a := DD0) (t1 := uu0) (t2 := vv0) (by k_mem) (PairsIn.cons (p := (Txt.item "abc" 1, x k1)) (a := DD1) (t1 := uu1) (t2 := vv1) (by k_mem) (PairsIn.cons (p := (Txt.item "abc" 2, x k2)) (a := DD2) (t1 := uu2) (t2 := vv2) (by k_mem) (PairsIn.cons (p := (Txt.item "ABC" 0, y j2)) (a := DD3) (t1 := uu3) (t2 := vv3) (by k_mem) (PairsIn.cons (p := (Txt.item "ABC" 1, y j1)) (a := DD4) (t1 := uu4) (t2 := vv4) (by k_mem) (PairsIn.cons (p := (Txt.item "ABC" 2, y j0)) (a := DD5) (t1 := uu5) (t2 := vv5) (by k_mem) PairsIn.nil)))))) ?att ?all
  case st => exact stays_of hs hn F.keep fun p hp => N p (by revert p; walk_at "sub")
  case att =>
    intro p hp
    simp only [List.mem_cons, List.not_mem_nil, or_false] at hp
    rcases hp with rfl | rfl | rfl | rfl | rfl | rfl <;> rfl
  case all =>
    intro q' hq
    refine ⟨(NB q' hq).1, none_of hs (NB q' hq).2.2 (off_lt ?_)⟩
    simp only [hdObjs, List.cons_append, List.nil_append, List.mem_cons, List.not_mem_nil, or_false] at hq
    rcases hq with rfl | rfl | rfl | rfl | rfl | rfl | rfl | rfl | rfl
    all_goals (simp only [AllLt, and_true]; refine ⟨?_, ?_, ?_, ?_, ?_, ?_, ?_, ?_⟩ <;> omega)
theorem c_metC {w : World} {loose : List PySem.Str} {mean : ExcName → Option Value} {mg mb : PySem.Str → Option Value} {s : Shared} {h₀ : Heap} {L : Addr} {m : PySem.Str → Option Value} {news : List (Addr × Obj)} {A' : Around} (F : Fr h₀ L s.heap m) (N : News h₀ L s.heap news) (X : (Mine.frag.heap_1 w.params).In h₀) (T : Top Mine.view loose mean mg mb h₀) (hA : A'.handled = none) (hAd : A'.depth ≤ 300 + 20 * 4) (hAu : A'.units ≤ 1000 * 4) {la lb : Addr} {na nb : Nat} {q r : Nat → Addr} {a b : Nat → Int} {t u t' u' : Nat → Tok} {x y : Nat → PySem.Str} {Q : Value → Shared → Prop}
  (hm : ∀ p ∈ metObjs la lb na nb q r a b t u t' u' x y, p ∈ news) (hx : ∀ i, i < 3 → cleanV (x i)) (hy : ∀ i, i < 3 → cleanV (y i))
  (hQ : ∀ h' tk xt dt lt kt n vs tups k0 k1 k2 j0 j1 j2, Three a k0 k1 k2 → Three b j0 j1 j2 → PairsIn h₀ tups vs (metTbl x y k0 k1 k2 j0 j1 j2) → AllTup tups → Fr h₀ L h' m →
    News h₀ L h' (hdObjs w.params 255 xt dt lt kt vs n ++ (tups ++ news)) → Q (.ref xt) { s with heap := h', toks := tk }) :
  wpAny (model PySem.Challenge.rw_ta0081_02.row.prog w) A' (call (.ref 287) [.ref la, .ref lb]) Q NoE s := by
  refine lift_A (A := AC 4) (wpAny_call (c_met w loose mean mg mb s h₀ X T F.keep la lb na nb q r a b t u t' u' x y _ (fun p hp => ⟨(N p (hm p hp)).1, (N p (hm p hp)).2.2⟩) hx hy fun h' tk xt dt lt kt n vs tups k0 k1 k2 j0 j1 j2 h3 h4 st hP hT hn => ?_)) hA.symm hAd hAu rfl rfl
  refine hQ h' tk xt dt lt kt n vs tups k0 k1 k2 j0 j1 j2 h3 h4 hP hT (fr_stay F st) fun p hp => ?_
  rw [← List.append_assoc] at hp
  rcases List.mem_append.mp hp with hp | hp
  · obtain ⟨e1, e2⟩ := hn p hp
    refine ⟨e1, fr_ne F e2, ?_⟩
    cases z : h₀.get? p.1 with
    | none => rfl
    | some o => rw [F.keep _ _ z] at e2; cases e2
  · exact news_stay N st p hp
end MTt
section PZt
theorem offPZ : True := by w_top off; trivial
/-- how far the two leads of a name are apart, added up -/
def apart (c kk jj : Nat → Nat) : Nat → Nat
  | 0 => 0
  | i + 1 => apart c kk jj i + ((c (kk i) : Int) - (c (3 + jj i) : Int)).natAbs
theorem between {a b t : Int} (h1 : ¬ (a < t ∧ b < t)) (h2 : ¬ (t < a ∧ t < b)) : (a - b).natAbs = (a - t).natAbs + (b - t).natAbs := by omega
/-- one, if z is below w -/
def ind (z w : Int) : Nat := if z < w then 1 else 0
theorem ind_le (z w : Int) : ind z w ≤ 1 := by unfold ind; split <;> omega
theorem ind_pos {z w : Int} (h : z < w) : ind z w = 1 := if_pos h
theorem ind_neg {z w : Int} (h : ¬ z < w) : ind z w = 0 := if_neg h
theorem ind_low (w : Int) : ∀ l : List Int, l.countP (fun z => decide (z < w)) = (l.map fun z => ind z w).sum
  | [] => rfl
  | a :: r => by
    rw [List.countP_cons, ind_low w r, List.map_cons, List.sum_cons, Nat.add_comm]
    congr 1
    unfold ind
    simp only [decide_eq_true_eq]
theorem ind_top (w : Int) : ∀ l : List Int, l.countP (fun z => decide (w < z)) = (l.map fun z => ind w z).sum
  | [] => rfl
  | a :: r => by
    rw [List.countP_cons, ind_top w r, List.map_cons, List.sum_cons, Nat.add_comm]
    congr 1
    unfold ind
    simp only [decide_eq_true_eq]
theorem four_of {p0 p1 q0 q1 q2 q3 q4 q5 : Nat} (h : p0 + (p1 + 0) = q0 + (q1 + (q2 + (q3 + (q4 + (q5 + 0)))))) (h0 : p0 ≤ 1) (h1 : p1 ≤ 1) (h4 : 4 ≤ q0 + q1 + q2 + q3 + q4 + q5) : False := by omega
theorem four3_of {p0 p1 p2 q0 q1 q2 q3 q4 q5 : Nat} (h : p0 + (p1 + (p2 + 0)) = q0 + (q1 + (q2 + (q3 + (q4 + (q5 + 0)))))) (h0 : p0 ≤ 1) (h1 : p1 ≤ 1) (h2 : p2 ≤ 1) (h4 : 4 ≤ q0 + q1 + q2 + q3 + q4 + q5) : False := by omega
theorem abs_up {a b : Int} (h : b ≤ a) : ((a - b).natAbs : Int) = a - b := by omega
theorem abs_dn {a b : Int} (h : a ≤ b) : ((a - b).natAbs : Int) = b - a := by omega
theorem sum_end {o0 o1 o2 o3 o4 o5 : Int} {x0 x1 x2 x3 x4 x5 y0 y1 y2 y3 y4 y5 : Nat} (h : x0 + (x1 + (x2 + (x3 + (x4 + (x5 + 0))))) = y0 + (y1 + (y2 + (y3 + (y4 + (y5 + 0))))))
  (h0 : (x0 : Int) = o2 - o0) (h1 : (x1 : Int) = o2 - o1) (h2 : (x2 : Int) = o2 - o2) (h3 : (x3 : Int) = o3 - o2) (h4 : (x4 : Int) = o4 - o2) (h5 : (x5 : Int) = o5 - o2) :
  (((y0 + y3 + (y1 + y4) + (y2 + y5) : Nat)) : Int) = o3 + (o4 + (o5 + 0)) - (o0 + (o1 + (o2 + 0))) := by omega
/-- the sum of the distances between two halves, one rising, one falling -/
theorem proiz {a0 a1 a2 b0 b1 b2 : Int} {n : List Int} (ha : a0 ≤ a1) (ha2 : a1 ≤ a2) (hb : b1 ≤ b0) (hb2 : b2 ≤ b1) (hp : n.Perm [a0, a1, a2, b0, b1, b2]) (hs : n.Pairwise (fun x y => x ≤ y)) :
    (((a0 - b0).natAbs + (a1 - b1).natAbs + (a2 - b2).natAbs : Nat) : Int) = (n.drop 3).sum - (n.take 3).sum := by
  have hl := hp.length_eq
  match n, hl, hp, hs with
  | [o0, o1, o2, o3, o4, o5], _, hp, hs =>
    simp only [List.pairwise_cons, List.mem_cons, List.not_mem_nil, or_false] at hs
    have e01 := hs.1 o1 (by simp)
    have e12 := hs.2.1 o2 (by simp)
    have e23 := hs.2.2.1 o3 (by simp)
    have e34 := hs.2.2.2.1 o4 (by simp)
    have e45 := hs.2.2.2.2.1 o5 (by simp)
    clear hs
    have c1 := hp.countP_eq fun z => decide (z < o2)
    have c2 := hp.countP_eq fun z => decide (o2 < z)
    rw [ind_low, ind_low] at c1
    rw [ind_top, ind_top] at c2
    simp only [List.map_cons, List.map_nil, List.sum_cons, List.sum_nil] at c1 c2
    rw [ind_neg (show ¬ o2 < o2 by omega), ind_neg (show ¬ o3 < o2 by omega), ind_neg (show ¬ o4 < o2 by omega), ind_neg (show ¬ o5 < o2 by omega)] at c1
    rw [ind_neg (show ¬ o2 < o2 by omega), ind_neg (show ¬ o2 < o0 by omega), ind_neg (show ¬ o2 < o1 by omega)] at c2
    rw [Nat.zero_add, Nat.zero_add, Nat.zero_add] at c2
    have u0 := ind_le o0 o2
    have u1 := ind_le o1 o2
    have u3 := ind_le o2 o3
    have u4 := ind_le o2 o4
    have u5 := ind_le o2 o5
    have l0 : ¬ (a0 < o2 ∧ b0 < o2) := fun h => four_of c1 u0 u1 (by
      have := ind_pos (show a0 < o2 by omega); have := ind_pos (show b0 < o2 by omega); have := ind_pos (show b1 < o2 by omega); have := ind_pos (show b2 < o2 by omega)
      omega)
    have l1 : ¬ (a1 < o2 ∧ b1 < o2) := fun h => four_of c1 u0 u1 (by
      have := ind_pos (show a0 < o2 by omega); have := ind_pos (show a1 < o2 by omega); have := ind_pos (show b1 < o2 by omega); have := ind_pos (show b2 < o2 by omega)
      omega)
    have l2 : ¬ (a2 < o2 ∧ b2 < o2) := fun h => four_of c1 u0 u1 (by
      have := ind_pos (show a0 < o2 by omega); have := ind_pos (show a1 < o2 by omega); have := ind_pos (show a2 < o2 by omega); have := ind_pos (show b2 < o2 by omega)
      omega)
    have g0 : ¬ (o2 < a0 ∧ o2 < b0) := fun h => four3_of c2 u3 u4 u5 (by
      have := ind_pos (show o2 < a0 by omega); have := ind_pos (show o2 < a1 by omega); have := ind_pos (show o2 < a2 by omega); have := ind_pos (show o2 < b0 by omega)
      omega)
    have g1 : ¬ (o2 < a1 ∧ o2 < b1) := fun h => four3_of c2 u3 u4 u5 (by
      have := ind_pos (show o2 < a1 by omega); have := ind_pos (show o2 < a2 by omega); have := ind_pos (show o2 < b0 by omega); have := ind_pos (show o2 < b1 by omega)
      omega)
    have g2 : ¬ (o2 < a2 ∧ o2 < b2) := fun h => four3_of c2 u3 u4 u5 (by
      have := ind_pos (show o2 < a2 by omega); have := ind_pos (show o2 < b0 by omega); have := ind_pos (show o2 < b1 by omega); have := ind_pos (show o2 < b2 by omega)
      omega)
    clear c1 c2 u0 u1 u3 u4 u5
    have hsum := (hp.map fun z => (z - o2).natAbs).sum_nat
    simp only [List.map_cons, List.map_nil, List.sum_cons, List.sum_nil] at hsum
    rw [between l0 g0, between l1 g1, between l2 g2]
    clear l0 l1 l2 g0 g1 g2 hp ha ha2 hb hb2
    show _ = ([o3, o4, o5] : List Int).sum - ([o0, o1, o2] : List Int).sum
    simp only [List.sum_cons, List.sum_nil]
    exact sum_end hsum (abs_dn (by omega)) (abs_dn e12) (abs_dn (Int.le_refl _)) (abs_up e23) (abs_up (by omega)) (abs_up (by omega))
theorem perm3 {k0 k1 k2 : Nat} (f : Nat → Int) (h : [k0, k1, k2].Perm [0, 1, 2]) : [f k0, f k1, f k2].Perm [f 0, f 1, f 2] := h.map f
theorem apart_is {c kk jj : Nat → Nat} {k0 k1 k2 j0 j1 j2 : Nat} {n : List Int} (hk : kk = fun i => [k0, k1, k2].getD i 0) (hj : jj = fun i => [j2, j1, j0].getD i 0) (h1 : Three (fun i => (c i : Int)) k0 k1 k2) (h2 : Three (fun i => (c (3 + i) : Int)) j0 j1 j2)
    (hp : n.Perm [(c 0 : Int), (c 1 : Int), (c 2 : Int), (c 3 : Int), (c 4 : Int), (c 5 : Int)]) (hs : n.Pairwise (fun x y => x ≤ y)) : ((apart c kk jj 3 : Nat) : Int) = (n.drop 3).sum - (n.take 3).sum := by
  have p1 := perm3 (fun i => (c i : Int)) h1.1
  have p2 := (perm3 (fun i => (c (3 + i) : Int)) h2.1)
  have p3 : [(c (3 + j2) : Int), (c (3 + j1) : Int), (c (3 + j0) : Int)].Perm [(c 3 : Int), (c 4 : Int), (c 5 : Int)] := (List.reverse_perm [(c (3 + j0) : Int), (c (3 + j1) : Int), (c (3 + j2) : Int)]).trans p2
  have hq := hp.trans (p1.append p3).symm
  have z := proiz (n := n) h1.2.1 h1.2.2 h2.2.2 h2.2.1 hq hs
  rw [← z, hk, hj]
  show ((0 + _ + _ + _ : Nat) : Int) = _
  rw [Nat.zero_add]
  rfl
theorem apN_inj {a b : Nat} : (apN a == apN b) = decide (a = b) := by
  by_cases h : a = b
  · subst h; simp
  · have : ¬ apN a = apN b := fun e => h (by
      have h1 := apVal_ap a
      have h2 := apVal_ap b
      rw [e] at h1
      omega)
    simp [this, h]
theorem three_facts {f : Nat → Int} {k0 k1 k2 : Nat} (h : Three f k0 k1 k2) : f k0 + f k1 + f k2 = f 0 + f 1 + f 2 ∧ f 0 ≤ f k2 ∧ f 1 ≤ f k2 ∧ f 2 ≤ f k2 ∧ f k0 ≤ f 0 ∧ f k0 ≤ f 1 ∧ f k0 ≤ f 2 ∧ (f k2 = f 0 ∨ f k2 = f 1 ∨ f k2 = f 2) ∧ (f k0 = f 0 ∨ f k0 = f 1 ∨ f k0 = f 2) := by
  obtain ⟨hp, h1, h2⟩ := h
  rcases ksk_perm3 hp with e | e | e | e | e | e <;> (injection e with e0 e; injection e with e1 e; injection e with e2 e; subst e0 e1 e2; omega)
theorem apart_three {c kk jj : Nat → Nat} {k0 k1 k2 j0 j1 j2 : Nat} (hk : kk = fun i => [k0, k1, k2].getD i 0) (hj : jj = fun i => [j2, j1, j0].getD i 0) :
    apart c kk jj 3 = ((c k0 : Int) - (c (3 + j2) : Int)).natAbs + ((c k1 : Int) - (c (3 + j1) : Int)).natAbs + ((c k2 : Int) - (c (3 + j0) : Int)).natAbs := by
  rw [hk, hj]
  show 0 + _ + _ + _ = _
  rw [Nat.zero_add]
  rfl
theorem of_three {P : Int → Prop} {x a b c : Int} (h : x = a ∨ x = b ∨ x = c) (hp : P a ∧ P b ∧ P c) : P x := by
  rcases h with e | e | e <;> rw [e]
  · exact hp.1
  · exact hp.2.1
  · exact hp.2.2
theorem up_core {a0 a1 a2 b0 b1 b2 : Int} (h0 : a0 ≤ b2) (h1 : a1 ≤ b1) (h2 : a2 ≤ b0) : (a0 + a1 + a2 - (b0 + b1 + b2)).natAbs = (a0 - b2).natAbs + (a1 - b1).natAbs + (a2 - b0).natAbs := by omega
theorem else_core {a0 a1 a2 b0 b1 b2 : Int} (h : ¬ a2 ≤ b0) (h1 : a0 ≤ a1) (h2 : a1 ≤ a2) (h3 : b0 ≤ b1) (h4 : b1 ≤ b2) : (a0 + a1 + a2 - (b0 + b1 + b2)).natAbs = (a0 - b2).natAbs + (a1 - b1).natAbs + (a2 - b0).natAbs ↔ b2 ≤ a0 := by omega
theorem ext_eq {x y a b c : Int} (hx : x = a ∨ x = b ∨ x = c) (hx' : x ≤ a ∧ x ≤ b ∧ x ≤ c) (hy : y = a ∨ y = b ∨ y = c) (hy' : y ≤ a ∧ y ≤ b ∧ y ≤ c) : x = y :=
  Int.le_antisymm (of_three (P := fun z => x ≤ z) hy hx') (of_three (P := fun z => y ≤ z) hx hy')
theorem ext_top {x y a b c : Int} (hx : x = a ∨ x = b ∨ x = c) (hx' : a ≤ x ∧ b ≤ x ∧ c ≤ x) (hy : y = a ∨ y = b ∨ y = c) (hy' : a ≤ y ∧ b ≤ y ∧ c ≤ y) : x = y :=
  Int.le_antisymm (of_three (P := fun z => z ≤ y) hx hy') (of_three (P := fun z => z ≤ x) hy hx')
theorem nat_sum {a b : Int} {x y z : Nat} (h : a.natAbs = x + y + z) (e : a = b) : b.natAbs = ((x + y + z : Nat) : Int).natAbs := by rw [← e, h]; rfl
theorem told_up {c kk jj : Nat → Nat} {k0 k1 k2 j0 j1 j2 : Nat} {M m : Int} (hk : kk = fun i => [k0, k1, k2].getD i 0) (hj : jj = fun i => [j2, j1, j0].getD i 0) (h1 : Three (fun i => (c i : Int)) k0 k1 k2) (h2 : Three (fun i => (c (3 + i) : Int)) j0 j1 j2)
    (hM : (c 0 : Int) ≤ M ∧ (c 1 : Int) ≤ M ∧ (c 2 : Int) ≤ M) (hm : m ≤ (c 3 : Int) ∧ m ≤ (c 4 : Int) ∧ m ≤ (c 5 : Int)) (hle : M ≤ m) :
    (apN ((c 0 : Int) + (c 1 : Int) + (c 2 : Int) - ((c 3 : Int) + (c 4 : Int) + (c 5 : Int))).natAbs == apN (((apart c kk jj 3 : Nat) : Int)).natAbs) = true := by
  rw [apN_inj, decide_eq_true_eq, apart_three hk hj]
  have f1 := three_facts h1
  have f2 := three_facts h2
  have g1 := h1.2
  have g2 := h2.2
  dsimp only at f1 f2 g1 g2
  have a2 : (c k2 : Int) ≤ M := of_three (P := fun z => z ≤ M) f1.2.2.2.2.2.2.2.1 hM
  have b0 : m ≤ (c (3 + j0) : Int) := of_three (P := fun z => m ≤ z) f2.2.2.2.2.2.2.2.2 hm
  have s1 := f1.1
  have s2 := f2.1
  rw [show 3 + 0 = 3 from rfl, show 3 + 1 = 4 from rfl, show 3 + 2 = 5 from rfl] at s2
  clear f1 f2 h1 h2 hM hm
  have h20 : (c k2 : Int) ≤ (c (3 + j0) : Int) := Int.le_trans a2 (Int.le_trans hle b0)
  have h11 : (c k1 : Int) ≤ (c (3 + j1) : Int) := Int.le_trans g1.2 (Int.le_trans h20 g2.1)
  have h02 : (c k0 : Int) ≤ (c (3 + j2) : Int) := Int.le_trans g1.1 (Int.le_trans h11 g2.2)
  refine nat_sum (up_core h02 h11 h20) ?_
  rw [s1, s2]
theorem told_else {c kk jj : Nat → Nat} {k0 k1 k2 j0 j1 j2 : Nat} {M m M2 m2 : Int} (hk : kk = fun i => [k0, k1, k2].getD i 0) (hj : jj = fun i => [j2, j1, j0].getD i 0) (h1 : Three (fun i => (c i : Int)) k0 k1 k2) (h2 : Three (fun i => (c (3 + i) : Int)) j0 j1 j2)
    (hM : M = (c 0 : Int) ∨ M = (c 1 : Int) ∨ M = (c 2 : Int)) (hm : m = (c 3 : Int) ∨ m = (c 4 : Int) ∨ m = (c 5 : Int)) (hle : ¬ M ≤ m)
    (hM2 : M2 = (c 3 : Int) ∨ M2 = (c 4 : Int) ∨ M2 = (c 5 : Int)) (hM2' : (c 3 : Int) ≤ M2 ∧ (c 4 : Int) ≤ M2 ∧ (c 5 : Int) ≤ M2) (hm2 : m2 = (c 0 : Int) ∨ m2 = (c 1 : Int) ∨ m2 = (c 2 : Int)) (hm2' : m2 ≤ (c 0 : Int) ∧ m2 ≤ (c 1 : Int) ∧ m2 ≤ (c 2 : Int)) :
    (apN ((c 0 : Int) + (c 1 : Int) + (c 2 : Int) - ((c 3 : Int) + (c 4 : Int) + (c 5 : Int))).natAbs == apN (((apart c kk jj 3 : Nat) : Int)).natAbs) = decide (M2 ≤ m2) := by
  rw [apN_inj, apart_three hk hj]
  have f1 := three_facts h1
  have f2 := three_facts h2
  have g1 := h1.2
  have g2 := h2.2
  dsimp only at f1 f2 g1 g2
  rw [show 3 + 0 = 3 from rfl, show 3 + 1 = 4 from rfl, show 3 + 2 = 5 from rfl] at f2
  have e1 : m2 = (c k0 : Int) := ext_eq hm2 hm2' f1.2.2.2.2.2.2.2.2 ⟨f1.2.2.2.2.1, f1.2.2.2.2.2.1, f1.2.2.2.2.2.2.1⟩
  have e2 : M2 = (c (3 + j2) : Int) := ext_top hM2 hM2' f2.2.2.2.2.2.2.2.1 ⟨f2.2.1, f2.2.2.1, f2.2.2.2.1⟩
  have e3 : ¬ (c k2 : Int) ≤ (c (3 + j0) : Int) := fun q => hle (Int.le_trans (of_three (P := fun z => z ≤ (c k2 : Int)) hM ⟨f1.2.1, f1.2.2.1, f1.2.2.2.1⟩) (Int.le_trans q (of_three (P := fun z => (c (3 + j0) : Int) ≤ z) hm ⟨f2.2.2.2.2.1, f2.2.2.2.2.2.1, f2.2.2.2.2.2.2.1⟩)))
  have s1 := f1.1
  have s2 := f2.1
  clear hM hm hle hM2 hM2' hm2 hm2' f1 f2 h1 h2
  rw [e1, e2, ← s1, ← s2, Int.natAbs_natCast]
  exact decide_eq_decide.mpr (else_core e3 g1.1 g1.2 g2.1 g2.2)
end PZt
section LQt
theorem offLQ : True := by w_top off; trivial
structure StopHere : Prop where
  ok : True
local macro_rules | `(tactic| walk_at "sub") => `(tactic| first | exact List.forall_mem_nil _ | (refine' List.forall_mem_cons.mpr ⟨?a, ?b⟩; (case a => k_mem); (case b => walk_at "sub")))
local macro_rules | `(tactic| walk_at "exec For") => `(tactic| refine stop ?_)
local macro_rules | `(tactic| walk_at "exec For Name Call cons nil") => `(tactic| refine stop ?_)
local macro_rules | `(tactic| walk_at "pyIter str") => `(tactic| refine stop ?_)
local macro_rules | `(tactic| walk_at "call type:type") => `(tactic| ((with_reducible show wpAny _ _ (call _ [Value.bytes _ _]) _ _ _); refine call_type_of (Tx := "bytes") (typeIs_bytes _ _ _) (by decide +kernel) ?_))
local macro_rules | `(tactic| walk_at "call ref") => `(tactic| refine stop ?_)
structure StopAsg : Prop where
  ok : True
local macro_rules | `(tactic| walk_at "exec Assign cons ListComp") => `(tactic| ((have _q : StopAsg := by assumption); clear _q; refine stop ?_))
local macro_rules | `(tactic| walk_at "eval ListComp") => `(tactic| ((have _q : StopHere := by assumption); clear _q; refine stop ?_))
local macro_rules | `(tactic| walk_at "CompSrc") => `(tactic| ((have _q : StopHere := by assumption); clear _q; refine stop ?_))
local macro_rules | `(tactic| walk_at "CompEnd") => `(tactic| ((have _q : StopHere := by assumption); clear _q; refine stop ?_))
local macro_rules | `(tactic| walk_at "call builtin:sum") => `(tactic| ((have _q : StopHere := by assumption); clear _q; refine stop ?_))
structure SubMark : Prop where
  ok : True
local macro_rules | `(tactic| walk_at "subscriptTail") => `(tactic| (k_here; (have _q : SubMark := by assumption); clear _q; (with_reducible show wpAny _ _ (subscriptTail _ _ (Value.ref _) (Value.int _ _)) _ _ _); k_dflt (refine' item_at ?N ?m ?x ?k ?_; (case N => k_asm); (case m => k_mem); (case x => assumption); (case k => omega); k_whole)))
theorem nums_get {c : Nat → Nat} {j : Nat} (h : j < 6) : ([(c 0 : Int), (c 1 : Int), (c 2 : Int), (c 3 : Int), (c 4 : Int), (c 5 : Int)] : List Int).getD ((j : Nat) : Int).toNat 0 = (c j : Int) := by
  obtain rfl | rfl | rfl | rfl | rfl | rfl : j = 0 ∨ j = 1 ∨ j = 2 ∨ j = 3 ∨ j = 4 ∨ j = 5 := by omega
  all_goals rfl
theorem offE {α : Type} {M : Model} {A : Around} {t : Sem α} {Q : α → Shared → Prop} {E : Value → Shared → Prop} {s : Shared} (h : wpAny M A t Q NoE s) : wpAny M A t Q E s := wpAny_mono h (fun _ _ q => q) fun _ _ e => e.elim
/-- a lead as text -/
def leadT (x : Nat) : PySem.Str := ⟨(tabs (leadCs x)).toArray⟩
def TJ (i : Nat) (ys : List Value) : Prop := ∃ xs : List Nat, xs.length = i ∧ StrsAre ys (xs.map leadT)
/-- numbers that are not below nought -/
def SJ (ys : List Value) : Prop := ∃ ns : List Int, IntsAre ys ns ∧ ∀ n ∈ ns, 0 ≤ n
theorem slice_in {w : List Value} {ns : List Int} {lo hi st : Option Int} {i : Nat} {v : Value} (hI : IntsAre w ns) (h : (slicePick w.toArray lo hi st)[i]? = some v) : ∃ n t, v = .int n t := by
  have h1 : v ∈ (slicePick w.toArray lo hi st).toList := by
    have := Array.getElem?_toList (xs := slicePick w.toArray lo hi st) (i := i)
    rw [h] at this
    exact List.mem_of_getElem? this
  unfold slicePick at h1
  obtain ⟨k, _, hk⟩ := List.mem_filterMap.mp h1
  have h2 : v ∈ w := by simpa using Array.mem_of_getElem? hk
  exact hI.all v h2
theorem sum_low : ∀ ns : List Int, (∀ n ∈ ns, 0 ≤ n) → 0 ≤ ns.sum
  | [], _ => Int.le_refl 0
  | a :: r, h => by
    have := sum_low r fun n hn => h n (.tail _ hn)
    have := h a (.head _)
    rw [List.sum_cons]; omega
theorem base_low (k : Nat) : (0 : Int) ≤ [1, 43, 12, 27, 5, 71].getD k 0 := by
  match k with
  | 0 | 1 | 2 | 3 | 4 | 5 => decide
  | k + 6 => exact Int.le_refl 0
theorem base_sum (k : Nat) (ns : List Int) (h : ∀ n ∈ ns, 0 ≤ n) : ∃ x : Nat, ([1, 43, 12, 27, 5, 71] : List Int).getD k 0 + ns.sum = (x : Int) := by
  have e1 := sum_low ns h
  have e2 := base_low k
  exact ⟨(([1, 43, 12, 27, 5, 71] : List Int).getD k 0 + ns.sum).toNat, (Int.toNat_of_nonneg (by omega)).symm⟩
theorem leadT_list (x : Nat) : (leadT x).cps.toList = tabs (leadCs x) := rfl
theorem leadCs_small (x : Nat) : (leadCs x).sum + (leadCs x).length ≤ 100 := by
  unfold leadCs
  split
  · simp only [List.sum_cons, List.sum_nil, List.length_cons, List.length_nil]; omega
  · simp only [List.sum_cons, List.sum_nil, List.length_cons, List.length_nil]; omega
theorem leadT_len (x : Nat) : (leadT x).length ≤ 100 := by
  show (leadT x).cps.size ≤ 100
  rw [← Array.length_toList, leadT_list, tabs_len]
  exact leadCs_small x
theorem lead3_join (a b c : Nat) : Txt.join "" [leadT a, leadT b, leadT c] = ⟨(tabs (leadCs a ++ leadCs b ++ leadCs c)).toArray⟩ := by
  refine str_of_list ?_
  rw [join_list0]
  simp only [List.map_cons, List.map_nil, leadT_list, tabs_app, List.flatten_cons, List.flatten_nil, List.append_nil, List.append_assoc]
theorem lead3_size (a b c : Nat) : (([leadT a, leadT b, leadT c] : List PySem.Str).map (·.length)).sum + ([leadT a, leadT b, leadT c] : List PySem.Str).length * 64 ≤ 16777216 := by
  have := leadT_len a
  have := leadT_len b
  have := leadT_len c
  simp only [List.map_cons, List.map_nil, List.sum_cons, List.sum_nil, List.length_cons, List.length_nil]
  omega
theorem lead3_len (a b c : Nat) : (⟨(tabs (leadCs a ++ leadCs b ++ leadCs c)).toArray⟩ : PySem.Str).length ≤ 300 := by
  show (tabs (leadCs a ++ leadCs b ++ leadCs c)).toArray.size ≤ 300
  rw [List.size_toArray, tabs_len, List.sum_append, List.sum_append, List.length_append, List.length_append]
  have := leadCs_small a
  have := leadCs_small b
  have := leadCs_small c
  omega
theorem cs3_small (a b c : Nat) : (leadCs a ++ leadCs b ++ leadCs c).sum + (leadCs a ++ leadCs b ++ leadCs c).length ≤ 300 := by
  rw [List.sum_append, List.sum_append, List.length_append, List.length_append]
  have := leadCs_small a
  have := leadCs_small b
  have := leadCs_small c
  omega
theorem tabs_ok {a b c : Nat} (_ : True) : (⟨(tabs (leadCs a ++ leadCs b ++ leadCs c)).toArray⟩ : PySem.Str).cps.all (· < 128) = true ∧ (⟨(tabs (leadCs a ++ leadCs b ++ leadCs c)).toArray⟩ : PySem.Str).cps.size ≤ 1000000 := by
  constructor
  · rw [Array.all_eq_true']
    intro k hk
    have hk : k ∈ tabs (leadCs a ++ leadCs b ++ leadCs c) := by simpa using hk
    refine decide_eq_true ?_
    rcases tabs_mem _ _ hk with e | e <;> omega
  · exact Nat.le_trans (lead3_len a b c) (by decide)
theorem ahead_list (cs : List Nat) : ((⟨(tabs cs).toArray⟩ : PySem.Str) ++ "x\t").cps.toList = tabs cs ++ [120, 9] := by
  rw [app_list]; rfl
theorem ahead_ok {a b c : Nat} (_ : True) : ((⟨(tabs (leadCs a ++ leadCs b ++ leadCs c)).toArray⟩ : PySem.Str) ++ "x\t").cps.all (· < 128) = true ∧ ((⟨(tabs (leadCs a ++ leadCs b ++ leadCs c)).toArray⟩ : PySem.Str) ++ "x\t").cps.size ≤ 1000000 := by
  constructor
  · rw [Array.all_eq_true']
    intro k hk
    have hk := Array.mem_toList_iff.mpr hk
    rw [ahead_list] at hk
    refine decide_eq_true ?_
    rcases List.mem_append.mp hk with hk | hk
    · rcases tabs_mem _ _ hk with e | e <;> omega
    · rcases List.mem_cons.mp hk with e | hk
      · omega
      · have := List.mem_singleton.mp hk; omega
  · rw [← Array.length_toList, ahead_list, List.length_append, tabs_len]
    have := cs3_small a b c
    simp only [List.length_cons, List.length_nil]
    omega
theorem tabs_run (cs : List Nat) : wsRun (⟨(tabs cs).toArray⟩ : PySem.Str).cps.toList [] 0 0 0 = (counts [] cs, 0, ((cs.sum + cs.length : Nat) : Int), (cs.length : Int)) := by
  have := wsRun_tabs [] cs [] 0 0
  rw [List.append_nil] at this
  show wsRun (tabs cs) [] 0 0 0 = _
  rw [this, Int.zero_add, Int.zero_add]
  rfl
theorem ahead_run (cs : List Nat) : wsRun ((⟨(tabs cs).toArray⟩ : PySem.Str) ++ "x\t").cps.toList [] 0 0 0 = (counts [] cs, 0, ((cs.sum + cs.length : Nat) : Int), (cs.length : Int)) := by
  rw [ahead_list, wsRun_tabs, Int.zero_add, Int.zero_add]
  show (if 120 = 32 then _ else if 120 = 9 then _ else (counts [] cs, (0 : Int), ((cs.sum + cs.length : Nat) : Int), (cs.length : Int))) = _
  rw [if_neg (by decide), if_neg (by decide)]
theorem len_s {α : Type} {l : List α} {n : Nat} (h : l.length = n + 1) : ∃ a r, l = a :: r ∧ r.length = n := by
  cases l with
  | nil => cases h
  | cons a r => exact ⟨a, r, rfl, Nat.succ.inj h⟩
theorem len_0 {α : Type} {l : List α} (h : l.length = 0) : l = [] := List.eq_nil_of_length_eq_zero h
theorem strs_s {x : PySem.Str} {xs : List PySem.Str} {ys : List Value} (h : StrsAre ys (x :: xs)) : ∃ t r, ys = .str x t :: r ∧ StrsAre r xs := by
  cases h with
  | cons _ t hr => exact ⟨t, _, rfl, hr⟩
theorem strs_0 {ys : List Value} (h : StrsAre ys []) : ys = [] := by
  cases h; rfl
theorem TJ.six {ys : List Value} (h : TJ 6 ys) : ∃ (x : Nat → Nat) (u0 u1 u2 u3 u4 u5 : Tok), ys = [.str (leadT (x 0)) u0, .str (leadT (x 1)) u1, .str (leadT (x 2)) u2, .str (leadT (x 3)) u3, .str (leadT (x 4)) u4, .str (leadT (x 5)) u5] := by
  obtain ⟨xs, hl, hs⟩ := h
  obtain ⟨a, r1, rfl, hl1⟩ := len_s hl
  obtain ⟨b, r2, rfl, hl2⟩ := len_s hl1
  obtain ⟨c, r3, rfl, hl3⟩ := len_s hl2
  obtain ⟨d, r4, rfl, hl4⟩ := len_s hl3
  obtain ⟨e, r5, rfl, hl5⟩ := len_s hl4
  obtain ⟨f, r6, rfl, hl6⟩ := len_s hl5
  obtain rfl := len_0 hl6
  obtain ⟨u0, y7, rfl, hs7⟩ := strs_s hs
  obtain ⟨u1, y8, rfl, hs8⟩ := strs_s hs7
  obtain ⟨u2, y9, rfl, hs9⟩ := strs_s hs8
  obtain ⟨u3, y10, rfl, hs10⟩ := strs_s hs9
  obtain ⟨u4, y11, rfl, hs11⟩ := strs_s hs10
  obtain ⟨u5, y12, rfl, hs12⟩ := strs_s hs11
  obtain rfl := strs_0 hs12
  exact ⟨fun i => [a, b, c, d, e, f].getD i 0, u0, u1, u2, u3, u4, u5, rfl⟩
section
variable {prog : Program} {w : World} {A : Around} {s : Shared} {env : Env} {Q : Flow → Shared → Prop}
/-- over a range, the iterator above what stood before it -/
theorem for_rangeL {h₀ : Heap} {target : PySem.Expr} {body : List Stmt} {r : Addr} {a b c : Int} {t u v : Tok} {n : Nat} {m₀ : PySem.Str → Option Value} {news₀ : List (Addr × Obj)}
    (hr : IsRange s.heap r a b c t u v) (hsmall : Builtin.Range.small a b c = true) (hn : Builtin.Range.rangeSize a b c = (n : Int)) (hh : A.handled = none) (F : Fr h₀ env.locals s.heap m₀) (N : News h₀ env.locals s.heap news₀)
    (J : Nat → (PySem.Str → Option Value) → List (Addr × Obj) → Prop) (Jx : (PySem.Str → Option Value) → List (Addr × Obj) → Prop) (h0 : J 0 m₀ news₀)
    (turn : ∀ (i : Nat) u m₁ news₁ h tk (I : Addr) o, AllLt I news₀ → i < n → J i m₁ news₁ → (∀ p ∈ news₁, p.1 ≠ I) → Fr h₀ env.locals h m₁ → News h₀ env.locals h ((I, o) :: news₁) →
      wpAny (model prog w) A (assign target env (.int (a + i * c) u)) (fun _ s₂ => wpAny (model prog w) A (execs body env) (FEnd s h₀ env.locals I o (J (i + 1)) Jx Q) NoE s₂) NoE { s with heap := h, toks := tk })
    (hJx : ∀ m news, J n m news → Jx m news)
    (done : ∀ h tk m₁ news₁, Jx m₁ news₁ → Fr h₀ env.locals h m₁ → News h₀ env.locals h news₁ → Q .next { s with heap := h, toks := tk }) :
    wpAny (model prog w) A (pyIter (.ref r)) (ForOn prog w A target body env Q) NoE s := by
  have nl : ∀ p ∈ news₀, p.1 < s.heap.objs.size := fun p hp => Heap.lt_size (N p hp).1
  refine wpAny_pyIter_range hr hsmall ?_
  refine for_led (kl := []) (Walks.range hh _ a c n) (.head _) (fun b hb => .inl (List.mem_singleton.mp hb)) (next_is_new F) (Nat.ne_of_lt F.ns.lt) (fun b hb => List.mem_singleton.mp hb) (fun i h hs => ⟨_, hs⟩) (fun i s' v Q' st hq => letGo_rangeiter st hq)
    J Jx (fun _ _ _ _ p hp => nomatch hp) h0 (by show IsRangeIter _ _ _ _ _; rw [hn]; simpa using Heap.get?_push_size _ rfl) (F.push _) (fun p hp => ⟨Heap.get?_push_of_some _ (N p hp).1, (N p hp).2⟩) (fun p hp => Nat.ne_of_lt (nl p hp)) ?_ hJx done
  rintro i v m₁ news₁ h tk o hi ⟨u, rfl⟩ hJ hnI F₁ N₁
  exact turn i u m₁ news₁ h tk _ o (allLt_of nl) hi hJ hnI F₁ N₁
end
/-- a list of the numbers told so far -/
def VJ (o : Nat → Nat) (i : Nat) (ys : List Value) : Prop := ys.length = i ∧ ∀ k, k < i → ∃ t, ys[k]? = some (.int (o k : Int) t)
theorem VJ.nil {o : Nat → Nat} : VJ o 0 [] := ⟨rfl, fun k h => absurd h (Nat.not_lt_zero _)⟩
theorem VJ.snoc {o : Nat → Nat} {i : Nat} {ys : List Value} {n : Int} {t : Tok} (h : VJ o i ys) (e : n = (o i : Int)) : VJ o (i + 1) (ys ++ [.int n t]) := by
  refine ⟨by simp [h.1], fun k hk => ?_⟩
  by_cases e2 : k < i
  · obtain ⟨u, hu⟩ := h.2 k e2
    exact ⟨u, by rw [List.getElem?_append_left (by rw [h.1]; exact e2)]; exact hu⟩
  · obtain rfl : k = i := by omega
    exact ⟨t, by rw [List.getElem?_append_right (by rw [h.1]; exact Nat.le_refl _), h.1, Nat.sub_self, e]; rfl⟩
theorem VJ.six {o : Nat → Nat} {ys : List Value} (h : VJ o 6 ys) : ∃ t0 t1 t2 t3 t4 t5, ys = [.int (o 0 : Int) t0, .int (o 1 : Int) t1, .int (o 2 : Int) t2, .int (o 3 : Int) t3, .int (o 4 : Int) t4, .int (o 5 : Int) t5] := by
  obtain ⟨t0, h0⟩ := h.2 0 (by omega)
  obtain ⟨t1, h1⟩ := h.2 1 (by omega)
  obtain ⟨t2, h2⟩ := h.2 2 (by omega)
  obtain ⟨t3, h3⟩ := h.2 3 (by omega)
  obtain ⟨t4, h4⟩ := h.2 4 (by omega)
  obtain ⟨t5, h5⟩ := h.2 5 (by omega)
  obtain ⟨a, r1, rfl, hl1⟩ := len_s h.1
  obtain ⟨b, r2, rfl, hl2⟩ := len_s hl1
  obtain ⟨c, r3, rfl, hl3⟩ := len_s hl2
  obtain ⟨d, r4, rfl, hl4⟩ := len_s hl3
  obtain ⟨e, r5, rfl, hl5⟩ := len_s hl4
  obtain ⟨f, r6, rfl, hl6⟩ := len_s hl5
  obtain rfl := len_0 hl6
  exact ⟨t0, t1, t2, t3, t4, t5, by rw [Option.some.inj h0, Option.some.inj h1, Option.some.inj h2, Option.some.inj h3, Option.some.inj h4, Option.some.inj h5]⟩
theorem text_at {x : Nat → Nat} {u0 u1 u2 u3 u4 u5 : Tok} {j : Nat} {v : Value} (hj : j < 6)
  (h : ([.str (leadT (x 0)) u0, .str (leadT (x 1)) u1, .str (leadT (x 2)) u2, .str (leadT (x 3)) u3, .str (leadT (x 4)) u4, .str (leadT (x 5)) u5] : List Value).toArray[j]? = some v) : ∃ u, v = .str (leadT (x j)) u := by
  obtain rfl | rfl | rfl | rfl | rfl | rfl : j = 0 ∨ j = 1 ∨ j = 2 ∨ j = 3 ∨ j = 4 ∨ j = 5 := by omega
  all_goals exact ⟨_, (Option.some.inj h).symm⟩
theorem texts_at {x : Nat → Nat} {u0 u1 u2 u3 u4 u5 : Tok} {j : Nat} (h : j < 6) : ∃ t, ([.str (leadT (x 0)) u0, .str (leadT (x 1)) u1, .str (leadT (x 2)) u2, .str (leadT (x 3)) u3, .str (leadT (x 4)) u4, .str (leadT (x 5)) u5] : List Value)[j]? = some (.str (leadT (x j)) t) := by
  obtain rfl | rfl | rfl | rfl | rfl | rfl : j = 0 ∨ j = 1 ∨ j = 2 ∨ j = 3 ∨ j = 4 ∨ j = 5 := by omega
  all_goals exact ⟨_, rfl⟩
theorem leadT_ok (x : Nat) : (leadT x).cps.all (· < 128) = true ∧ (leadT x).cps.size ≤ 1000000 := by
  constructor
  · rw [Array.all_eq_true']
    intro k hk
    have hk := Array.mem_toList_iff.mpr hk
    refine decide_eq_true ?_
    rcases tabs_mem _ _ hk with e | e <;> omega
  · exact Nat.le_trans (leadT_len x) (by decide)
theorem col_lead {z : Nat} (h : 1 ≤ z) (x : Nat) : ((colRun z (leadT x).cps.toList 0 : Nat) : Int) = ((lcol (leadCs x) z : Nat) : Int) := by
  have := colRun_tabs h (leadCs x) 0
  rw [Nat.mul_zero, Nat.zero_add] at this
  rw [leadT_list, this]
/-- the pairs told so far -/
def PJ (c x : Nat → Nat) (i : Nat) (ys : List Value) (tups : List (Addr × Obj)) : Prop :=
  ∃ (q : Nat → Addr) (t u : Nat → Tok), ys = (List.range i).map (fun k => Value.ref (q k)) ∧ tups = (List.range i).map fun k => (q k, tupO [.int (c k : Int) (t k), .str (leadT (x k)) (u k)])
theorem PJ.nil {c x : Nat → Nat} : PJ c x 0 [] [] := ⟨fun _ => 0, fun _ => 0, fun _ => 0, rfl, rfl⟩
theorem PJ.snoc {c x : Nat → Nat} {i : Nat} {ys : List Value} {tups : List (Addr × Obj)} {T : Addr} {o : Obj} {t' u' : Tok} (h : PJ c x i ys tups) (e : o = tupO [.int (c i : Int) t', .str (leadT (x i)) u']) : PJ c x (i + 1) (ys ++ [.ref T]) (tups ++ [(T, o)]) := by
  obtain ⟨q, t, u, rfl, rfl⟩ := h
  refine ⟨fun k => if k = i then T else q k, fun k => if k = i then t' else t k, fun k => if k = i then u' else u k, ?_, ?_⟩
  · rw [List.range_succ, List.map_append, List.map_cons, List.map_nil]
    dsimp only
    rw [if_pos rfl]
    congr 1
    exact List.map_congr_left fun k hk => by rw [if_neg (Nat.ne_of_lt (List.mem_range.mp hk))]
  · rw [List.range_succ, List.map_append, List.map_cons, List.map_nil, e]
    dsimp only
    rw [if_pos rfl, if_pos rfl, if_pos rfl]
    congr 1
    exact List.map_congr_left fun k hk => by rw [if_neg (Nat.ne_of_lt (List.mem_range.mp hk)), if_neg (Nat.ne_of_lt (List.mem_range.mp hk)), if_neg (Nat.ne_of_lt (List.mem_range.mp hk))]
theorem PJ.six {c x : Nat → Nat} {ys : List Value} {tups : List (Addr × Obj)} (h : PJ c x 6 ys tups) : ∃ (q : Nat → Addr) (t u : Nat → Tok), ys = [.ref (q 0), .ref (q 1), .ref (q 2), .ref (q 3), .ref (q 4), .ref (q 5)] ∧
  tups = [(q 0, tupO [.int (c 0 : Int) (t 0), .str (leadT (x 0)) (u 0)]), (q 1, tupO [.int (c 1 : Int) (t 1), .str (leadT (x 1)) (u 1)]), (q 2, tupO [.int (c 2 : Int) (t 2), .str (leadT (x 2)) (u 2)]),
    (q 3, tupO [.int (c 3 : Int) (t 3), .str (leadT (x 3)) (u 3)]), (q 4, tupO [.int (c 4 : Int) (t 4), .str (leadT (x 4)) (u 4)]), (q 5, tupO [.int (c 5 : Int) (t 5), .str (leadT (x 5)) (u 5)])] := by
  obtain ⟨q, t, u, h1, h2⟩ := h
  exact ⟨q, t, u, h1, h2⟩
section
open LCg
variable {prog : Program} {w : World} {A : Around} {s : Shared} {h₀ : Heap} {L : Addr} {m : PySem.Str → Option Value} {env : Env}
/-- turns without a test that add objects behind a ledger that stays -/
theorem compU_B {elt : PySem.Expr} {x : PySem.Str} {scope : Scope} {cl : List (PySem.Str × Addr)} {S : List (Addr × Obj) → Prop} {P : Nat → Value → Prop} {Fin : List Value → List (Addr × Obj) → Prop} {n : Nat} {news : List (Addr × Obj)}
    (J : Nat → List Value → List (Addr × Obj) → Prop)
    (turn : ∀ i ys tups v I oI C oC D m₂ h tk (E' : Value → Shared → Prop), J i ys tups → i < n → P i v → NsObj oC m₂ → m₂ x = some v → Fr h₀ L h m → News h₀ L h ((I, oI) :: (C, oC) :: (D, lst ys) :: (news ++ tups)) → Off3 I C D (news ++ tups) → ((@Ne Nat I C) ∧ (@Ne Nat I D) ∧ (@Ne Nat C D)) →
      wpAny (model prog w) A (eval elt (compEnvC scope cl C env)) (CompEnd h₀ L m { s with heap := h, toks := tk } I oI C oC D (lst ys) S (fun y news' => Stop (∃ tups', news' = news ++ tups' ∧ J (i + 1) (ys ++ [y]) tups'))) E' { s with heap := h, toks := tk })
    (done : ∀ ys tups, J n ys tups → Fin ys (news ++ tups)) (h0 : J 0 [] []) : CompRest prog w A h₀ L m env elt x scope cl s S P Fin n 0 [] news :=
  compU_J (fun i ys nw => ∃ tups, nw = news ++ tups ∧ J i ys tups) (fun i ys nw v I oI C oC D m₂ h tk E' hJ hi hP hC hx F N o3 ne => by
    obtain ⟨tups, rfl, hJ⟩ := hJ
    exact turn i ys tups v I oI C oC D m₂ h tk E' hJ hi hP hC hx F N o3 ne) (fun ys nw hJ => by obtain ⟨tups, rfl, hJ⟩ := hJ; exact done ys tups hJ) n 0 [] news (Nat.zero_add _) ⟨[], (List.append_nil _).symm, h0⟩
end
theorem leadT_clean (x : Nat) : cleanV (leadT x) := by
  refine ⟨fun k hk => ?_, (leadT_ok x).2⟩
  rcases tabs_mem _ _ hk with e | e
  · omega
  · omega
theorem metLed {g h : Heap} {L : Addr} {x1 x2 x3 a1 a2 a3 b1 b2 b3 b4 b5 b6 b7 b8 b9 b10 b11 b12 b13 b14 t1 t2 t3 t4 t5 t6 : Addr × Obj} {tups : List (Addr × Obj)} (N : News g L h ([x1, x2, x3] ++ (tups ++ [a1, a2, a3, b1, b2, b3, b4, b5, b6, b7, b8, b9, b10, b11, b12, b13, b14, t1, t2, t3, t4, t5, t6]))) :
    News g L h (b1 :: b2 :: b3 :: b4 :: b5 :: b6 :: b7 :: b8 :: b9 :: b10 :: b11 :: b12 :: b13 :: b14 :: x1 :: x2 :: x3 :: tups) := fun p hp => N p (by
  simp only [List.mem_cons, List.mem_append, List.not_mem_nil, or_false] at hp ⊢
  rcases hp with h | h | h | h | h | h | h | h | h | h | h | h | h | h | h | h | h | h <;> simp [h])
structure SubW (l TL : List (Addr × Obj)) : Prop where
  ok : ∀ p ∈ l, p ∈ TL
/-- the two leads' objects and the table's tuples as one tail -/
theorem metFold {g h : Heap} {L : Addr} {x1 x2 x3 b1 b2 b3 b4 b5 b6 b7 b8 b9 b10 b11 b12 b13 b14 : Addr × Obj} {tups : List (Addr × Obj)} (N : News g L h (b1 :: b2 :: b3 :: b4 :: b5 :: b6 :: b7 :: b8 :: b9 :: b10 :: b11 :: b12 :: b13 :: b14 :: x1 :: x2 :: x3 :: tups)) :
    ∃ TL : List (Addr × Obj), SubW [b5, b6, b7, b8] TL ∧ SubW [b9, b10, b11, b12] TL ∧ SubW tups TL ∧ News g L h (b1 :: b2 :: b3 :: b4 :: b13 :: b14 :: x1 :: x2 :: x3 :: TL) := by
  refine ⟨b5 :: b6 :: b7 :: b8 :: b9 :: b10 :: b11 :: b12 :: tups, ⟨?_⟩, ⟨?_⟩, ⟨?_⟩, fun p hp => N p ?_⟩
  · intro p hp
    simp only [List.mem_cons, List.not_mem_nil, or_false] at hp ⊢
    rcases hp with h | h | h | h <;> simp [h]
  · intro p hp
    simp only [List.mem_cons, List.not_mem_nil, or_false] at hp ⊢
    rcases hp with h | h | h | h <;> simp [h]
  · intro p hp
    simp only [List.mem_cons, hp, or_true]
  · simp only [List.mem_cons] at hp ⊢
    rcases hp with h | h | h | h | h | h | h | h | h | h | h | h | h | h | h | h | h | h <;> simp [h]
theorem nameL {g h : Heap} {L : Addr} {l : List (Addr × Obj)} (N : News g L h l) : ∃ LB, LB = l ∧ News g L h LB := ⟨l, rfl, N⟩
theorem addW {g h : Heap} {L : Addr} {a b c d : Addr × Obj} {l TL : List (Addr × Obj)} (N : News g L h l) (hW : ∀ p ∈ [a, b, c, d], p ∈ TL) (hl : ∀ p ∈ TL, p ∈ l) : News g L h (a :: b :: c :: d :: l) := fun p hp => by
  rcases List.mem_cons.mp hp with rfl | hp
  · exact N _ (hl _ (hW _ (.head _)))
  rcases List.mem_cons.mp hp with rfl | hp
  · exact N _ (hl _ (hW _ (.tail _ (.head _))))
  rcases List.mem_cons.mp hp with rfl | hp
  · exact N _ (hl _ (hW _ (.tail _ (.tail _ (.head _)))))
  rcases List.mem_cons.mp hp with rfl | hp
  · exact N _ (hl _ (hW _ (.tail _ (.tail _ (.tail _ (.head _))))))
  · exact N p hp
theorem lcol_app (a b : List Nat) (z : Nat) : lcol (a ++ b) z = lcol a z + lcol b z := by
  unfold lcol
  rw [List.map_append, List.sum_append, List.length_append, ← Nat.mul_add]
  congr 1; omega
theorem lcol_three (a b c z : Nat) : (0 : Int) + ((lcol (leadCs a ++ leadCs b ++ leadCs c) z : Nat) : Int) = ((lcol (leadCs a) z : Nat) : Int) + ((lcol (leadCs b) z : Nat) : Int) + ((lcol (leadCs c) z : Nat) : Int) := by
  rw [lcol_app, lcol_app, Int.zero_add, Int.natCast_add, Int.natCast_add]
theorem far_small {c : Nat → Nat} (h : ∀ k, c k ≤ 400) : ((c 0 : Int) + (c 1 : Int) + (c 2 : Int) - ((c 3 : Int) + (c 4 : Int) + (c 5 : Int))).natAbs < 16 ^ 16 := by
  have := h 0
  have := h 1
  have := h 2
  have := h 3
  have := h 4
  have := h 5
  have : (1200 : Nat) < 16 ^ 16 := by decide
  omega
theorem apart_small {c : Nat → Nat} (h : ∀ k, c k ≤ 400) (kk jj : Nat → Nat) : (((apart c kk jj 3 : Nat) : Int)).natAbs < 16 ^ 16 := by
  have e : ∀ i, ((c (kk i) : Int) - (c (3 + jj i) : Int)).natAbs ≤ 400 := fun i => by
    have := h (kk i)
    have := h (3 + jj i)
    omega
  have h0 := e 0
  have h1 := e 1
  have h2 := e 2
  have : (1200 : Nat) < 16 ^ 16 := by decide
  have : apart c kk jj 3 ≤ 1200 := by
    simp only [apart]
    omega
  omega
def lawM (LED : List (Addr × Obj)) (c kk jj : Nat → Nat) (xa xb xt : Addr) (i : Nat) (m : PySem.Str → Option Value) (news : List (Addr × Obj)) : Prop :=
  ∃ ta, lks m [("ahead", .ref xa), ("behind", .ref xb), ("table", .ref xt), ("apart", .int ((apart c kk jj i : Nat) : Int) ta)] ∧ news = LED
theorem lawM0 {g h : Heap} {L : Addr} {m : PySem.Str → Option Value} {LED : List (Addr × Obj)} {c kk jj : Nat → Nat} {xa xb xt : Addr} {ta : Tok} (_ : Fr g L h m) (_ : News g L h LED)
  (hm : lks m [("ahead", .ref xa), ("behind", .ref xb), ("table", .ref xt), ("apart", .int 0 ta)]) : ∃ NM, NM = lawM LED c kk jj xa xb xt ∧ NM 0 m LED := ⟨_, rfl, ta, hm, rfl⟩
theorem sign_lt {i c : Nat} (h : ("aBc" : PySem.Str).cps[i]? = some c) : i < 3 := (Array.getElem?_eq_some_iff.mp h).1
theorem name_all {x y : Nat → PySem.Str} {k0 k1 k2 j0 j1 j2 i c : Nat} (h : ("aBc" : PySem.Str).cps[i]? = some c) :
    ((metTbl x y k0 k1 k2 j0 j1 j2).filter fun p => Txt.lower p.1 == Txt.lower (⟨#[c]⟩ : PySem.Str)).map (·.2) = [x ([k0, k1, k2].getD i 0), y ([j2, j1, j0].getD i 0)] := by
  have hi := sign_lt h
  obtain rfl | rfl | rfl : i = 0 ∨ i = 1 ∨ i = 2 := by omega
  · obtain rfl : c = 97 := (Option.some.inj h).symm
    rfl
  · obtain rfl : c = 66 := (Option.some.inj h).symm
    rfl
  · obtain rfl : c = 99 := (Option.some.inj h).symm
    rfl
theorem name_clean {i c : Nat} (h : ("aBc" : PySem.Str).cps[i]? = some c) : cleanN (⟨#[c]⟩ : PySem.Str) ∧ cleanN (Txt.lower (⟨#[c]⟩ : PySem.Str)) := by
  have hi := sign_lt h
  obtain rfl | rfl | rfl : i = 0 ∨ i = 1 ∨ i = 2 := by omega
  · obtain rfl : c = 97 := (Option.some.inj h).symm
    exact ⟨cleanN_of (by decide +kernel), cleanN_of (by decide +kernel)⟩
  · obtain rfl : c = 66 := (Option.some.inj h).symm
    exact ⟨cleanN_of (by decide +kernel), cleanN_of (by decide +kernel)⟩
  · obtain rfl : c = 99 := (Option.some.inj h).symm
    exact ⟨cleanN_of (by decide +kernel), cleanN_of (by decide +kernel)⟩
theorem met_clean {x y : Nat → PySem.Str} {k0 k1 k2 j0 j1 j2 : Nat} (hx : ∀ i, cleanV (x i)) (hy : ∀ i, cleanV (y i)) : ∀ p ∈ metTbl x y k0 k1 k2 j0 j1 j2, cleanN p.1 ∧ cleanV p.2 := by
  intro p hp
  simp only [List.mem_cons, List.not_mem_nil, or_false] at hp
  rcases hp with rfl | rfl | rfl | rfl | rfl | rfl
  all_goals dsimp only
  all_goals first | exact ⟨cleanN_of (by decide +kernel), hx _⟩ | exact ⟨cleanN_of (by decide +kernel), hy _⟩
theorem strs_two {ys : List Value} {a b : PySem.Str} (h : StrsAre ys [a, b]) : ∃ t u, ys = [.str a t, .str b u] := by
  obtain ⟨t, y1, rfl, hs1⟩ := strs_s h
  obtain ⟨u, y2, rfl, hs2⟩ := strs_s hs1
  obtain rfl := strs_0 hs2
  exact ⟨t, u, rfl⟩
/-- one of two -/
def two (a b : Nat) (k : Nat) : Nat := if k = 0 then a else b
theorem two_at {a b z j : Nat} {t u : Tok} {v : Value} (hj : j < 2) (h : ([.str (leadT a) t, .str (leadT b) u] : List Value).toArray[j]? = some v) : ∃ w u', v = .str (leadT w) u' ∧ lcol (leadCs w) z = two (lcol (leadCs a) z) (lcol (leadCs b) z) j := by
  obtain rfl | rfl : j = 0 ∨ j = 1 := by omega
  · exact ⟨a, t, (Option.some.inj h).symm, rfl⟩
  · exact ⟨b, u, (Option.some.inj h).symm, rfl⟩
theorem VJ.pair {o : Nat → Nat} {ys : List Value} (h : VJ o 2 ys) : ∃ t0 t1, ys = [.int (o 0 : Int) t0, .int (o 1 : Int) t1] := by
  obtain ⟨t0, h0⟩ := h.2 0 (by omega)
  obtain ⟨t1, h1⟩ := h.2 1 (by omega)
  obtain ⟨a, r1, rfl, hl1⟩ := len_s h.1
  obtain ⟨b, r2, rfl, hl2⟩ := len_s hl1
  obtain rfl := len_0 hl2
  exact ⟨t0, t1, by rw [Option.some.inj h0, Option.some.inj h1]⟩
theorem leadT_run (x : Nat) : wsRun (leadT x).cps.toList [] 0 0 0 = (counts [] (leadCs x), 0, (((leadCs x).sum + (leadCs x).length : Nat) : Int), ((leadCs x).length : Int)) := tabs_run (leadCs x)
theorem div_sum (z : Nat) : ∀ cs : List Nat, (cs.map (· / z)).sum ≤ cs.sum
  | [] => Nat.le_refl 0
  | a :: r => by
    have := div_sum z r
    have := Nat.div_le_self a z
    rw [List.map_cons, List.sum_cons, List.sum_cons]
    omega
theorem lcol_small {z : Nat} (h : z ≤ 4) (x : Nat) : lcol (leadCs x) z ≤ 400 := by
  have h1 := div_sum z (leadCs x)
  have h2 := leadCs_small x
  unfold lcol
  calc z * (((leadCs x).map (· / z)).sum + (leadCs x).length) ≤ 4 * 100 := Nat.mul_le_mul h (by omega)
    _ = 400 := rfl
theorem apN_head (n : Nat) : ∀ (c : UInt8) (r : List UInt8), apN n = c :: r → c.toNat ≠ 65 := by
  induction n using Nat.strongRecOn with
  | ind n ih =>
    intro c r h
    by_cases h0 : n = 0
    · rw [h0, apN_zero] at h; cases h
    · rw [apN_pos h0] at h
      by_cases h1 : n / 16 = 0
      · rw [h1, apN_zero, List.nil_append] at h
        obtain ⟨rfl, _⟩ := List.cons.inj h
        rw [UInt8.toNat_ofNat']
        omega
      · cases hq : apN (n / 16) with
        | nil => exact absurd hq (apN_ne h1)
        | cons c2 r2 =>
          rw [hq, List.cons_append] at h
          obtain ⟨rfl, _⟩ := List.cons.inj h
          exact ih (n / 16) (by omega) c2 r2 hq
theorem first_not (n : Nat) {p : Array UInt8} {k : Nat} (h : KBw.bInts p = ((KBw.bInts (apN n).toArray).drop 0).take k) : (p.toList == [65]) = false := by
  cases e : (p.toList == [65]) with
  | false => rfl
  | true =>
    exfalso
    have e := eq_of_beq e
    unfold KBw.bInts at h
    rw [e, List.drop_zero] at h
    cases k with
    | zero => rw [List.take_zero] at h; cases h
    | succ k =>
      cases hq : apN n with
      | nil => rw [hq] at h; cases h
      | cons c r =>
        rw [hq] at h
        have h2 := (List.cons.inj h).1
        have h3 := apN_head n c r hq
        have h4 : ((65 : UInt8).toNat : Int) = (c.toNat : Int) := h2
        have h5 : (65 : UInt8).toNat = 65 := rfl
        omega
section
variable {prog : Program} {w : World} {A : Around} {E : Value → Shared → Prop} {s : Shared} {value slice : PySem.Expr} {t ti : Tok} {h₀ : Heap} {L : Addr} {m : PySem.Str → Option Value} {news : List (Addr × Obj)} {Q : Value → Shared → Prop} {bs : Array UInt8}
theorem head_slice (hz : bs.size ≤ 1000) (hF : Fr h₀ L s.heap m) (hN : News h₀ L s.heap news)
    (h : ∀ h' t' k, Fr h₀ L h' m → News h₀ L h' news → KBw.bInts (KBy.picked bs none (some 1)) = ((KBw.bInts bs).drop 0).take (clipAt (KBw.bInts bs).length 1 - 0) → Q (.bytes (KBy.picked bs none (some 1)) t') { s with heap := h', toks := k })
    (hs : subscripted slice false (.bytes bs t) (.ref s.heap.objs.size) = operate [.ref s.heap.objs.size, .bytes bs t] (getItem (.bytes bs t) (.ref s.heap.objs.size)) := by with_unfolding_all rfl)
    (ht : ∀ r, letTemporaryGo value (.bytes bs t) r = pure () := by intro _; with_unfolding_all rfl) :
    wpAny (model prog w) A (subscriptTail value slice (.bytes bs t) (.ref s.heap.objs.size)) Q E { s with heap := s.heap.push { cls := .type "slice", data := .fields #[.none, .int 1 ti, .none] } } :=
  KBc.slice_K (ks := KBw.bInts bs) hF hN rfl (lo := none) (hi := some 1) (by constructor) (by constructor) (by rw [KBw.ints_length]; omega) (fun h' t' k F' N' e => h h' t' k F' N' e) hs ht
end
def lawJ (c5 c4 : Addr) (G : List (Addr × Obj)) (xa xb : Addr) (_ : Nat) (m : PySem.Str → Option Value) (news : List (Addr × Obj)) : Prop :=
  ∃ oc os v1 v2, oc.data = .cell v1 ∧ os.data = .cell v2 ∧ lks m [("ahead", .ref xa), ("behind", .ref xb)] ∧ news = (c5, oc) :: (c4, os) :: G
theorem ne_same {c5 c4 I : Addr} {oc os oc' os' : Obj} {G : List (Addr × Obj)} (h : ∀ p ∈ (c5, oc) :: (c4, os) :: G, p.1 ≠ I) : ∀ p ∈ (c5, oc') :: (c4, os') :: G, p.1 ≠ I := fun p hp => by
  rcases List.mem_cons.mp hp with rfl | hp
  · exact h (c5, oc) (.head _)
  rcases List.mem_cons.mp hp with rfl | hp
  · exact h (c4, os) (.tail _ (.head _))
  · exact h p (.tail _ (.tail _ hp))
theorem lawJ1 {c5 c4 xa xb : Addr} {G : List (Addr × Obj)} {J : Nat → (PySem.Str → Option Value) → List (Addr × Obj) → Prop} (hJ : J = lawJ c5 c4 G xa xb) {m : PySem.Str → Option Value} {oc os : Obj} {v1 v2 : Option Value} (e1 : oc.data = .cell v1) (e2 : os.data = .cell v2) (i : Nat)
  (hm : lks m [("ahead", .ref xa), ("behind", .ref xb)]) : J i m ((c5, oc) :: (c4, os) :: G) := by
  rw [hJ]; exact ⟨oc, os, v1, v2, e1, e2, hm, rfl⟩
theorem lawJ0 {g h : Heap} {L : Addr} {m : PySem.Str → Option Value} {tn4 tc4 xw4 dw4 Dq tn3 tc3 xw3 dw3 Dr D2 l c5 c4 c3 c2 c1 : Addr} {o1 o2 o3 o4 oq o5 o6 o7 o8 oR oD ol w5 w4 w3 w2 w1 : Obj} {v5 v4 v3 : Option Value}
  (_ : Fr g L h m) (N : News g L h [(tn4, o1), (tc4, o2), (xw4, o3), (dw4, o4), (Dq, oq), (tn3, o5), (tc3, o6), (xw3, o7), (dw3, o8), (Dr, oR), (D2, oD), (l, ol), (c5, w5), (c4, w4), (c3, w3), (c2, w2), (c1, w1)])
  (hm : lks m [("ahead", .ref xw3), ("behind", .ref xw4)]) (e5 : w5.data = .cell v5) (e4 : w4.data = .cell v4) (e3 : w3.data = .cell v3) (e3' : v3 = some (.ref D2))
  (be3 : @LT.lt Nat _ dw3 xw3) (ce3 : @LT.lt Nat _ xw3 tc3) (de3 : @LT.lt Nat _ tc3 tn3) (h34 : @LT.lt Nat _ tn3 dw4) (be4 : @LT.lt Nat _ dw4 xw4) (ce4 : @LT.lt Nat _ xw4 tc4) (de4 : @LT.lt Nat _ tc4 tn4)
  (h1 : @LT.lt Nat _ c3 c4) (h2 : @LT.lt Nat _ c4 c5) (h3 : @LT.lt Nat _ c5 dw3) (h4 : @Ne Nat D2 c4) (h5 : @Ne Nat D2 c5) :
  News g L h ((c5, w5) :: (c4, w4) :: [(tn4, o1), (tc4, o2), (xw4, o3), (dw4, o4), (tn3, o5), (tc3, o6), (xw3, o7), (dw3, o8), (D2, oD), (c3, w3)]) ∧
  (∃ J, J = lawJ c5 c4 [(tn4, o1), (tc4, o2), (xw4, o3), (dw4, o4), (tn3, o5), (tc3, o6), (xw3, o7), (dw3, o8), (D2, oD), (c3, w3)] xw3 xw4 ∧ J 0 m ((c5, w5) :: (c4, w4) :: [(tn4, o1), (tc4, o2), (xw4, o3), (dw4, o4), (tn3, o5), (tc3, o6), (xw3, o7), (dw3, o8), (D2, oD), (c3, w3)])) ∧
  w3.data = .cell (some (.ref D2)) ∧ ((@LT.lt Nat _ c3 c4) ∧ (@LT.lt Nat _ c4 c5) ∧ (@LT.lt Nat _ c5 dw3) ∧ (@LT.lt Nat _ dw3 xw3) ∧ (@LT.lt Nat _ xw3 tc3) ∧ (@LT.lt Nat _ tc3 tn3) ∧ (@LT.lt Nat _ tn3 dw4) ∧ (@LT.lt Nat _ dw4 xw4) ∧ (@LT.lt Nat _ xw4 tc4) ∧ (@LT.lt Nat _ tc4 tn4) ∧ (@Ne Nat D2 c4) ∧ (@Ne Nat D2 c5)) := by
  refine ⟨fun p hp => N p ?_, ⟨_, rfl, w5, w4, v5, v4, e5, e4, hm, rfl⟩, by rw [e3, e3'], h1, h2, h3, be3, ce3, de3, h34, be4, ce4, de4, h4, h5⟩
  simp only [List.mem_cons, List.not_mem_nil, or_false] at hp ⊢
  rcases hp with h | h | h | h | h | h | h | h | h | h | h | h <;> simp [h]
theorem final : PySem.Challenge.rw_ta0081_02.Holds := hd (by
  k_go0
  have hS : StopHere := ⟨trivial⟩
  k_steps
  unfold Stop
  rename Fr _ _ _ _ => F
  refine LCg.ListComp_U (F₀ := F) (by with_unfolding_all rfl) (by decide) (by rfl) (by decide) (by rfl) ?_
  k_steps
  unfold Stop
  rename Fr _ _ _ _ => F
  rename News _ _ _ _ => N
  rename IsRange _ _ _ _ _ _ _ _ => hr
  refine LCg.CompSrc.range (n := 6) (by rfl) F N hr (by decide) (by decide) (by decide) fun g => ?_
  clear F N
  refine compU_K (fun i ys => TJ i ys) ?turnV ?doneV ⟨[], rfl, StrsAre.nil⟩
  case turnV =>
    rintro i ys v I oI C oC D m₂ h tk E' hJ hi hv hC hx F N o3 ne
    obtain ⟨u, rfl⟩ := hv
    have o3' := o3
    simp only [List.cons_append, List.nil_append, LCg.Off3] at N o3
    k_steps
    unfold Stop
    rename IntsAre _ _ => hI
    refine LCg.ListComp_U (F₀ := F) (by with_unfolding_all rfl) (by decide) (by rfl) (by decide) (by rfl) ?_
    k_steps
    unfold Stop
    rename Fr _ _ _ _ => F
    rename News _ _ _ _ => N
    refine LCg.CompSrc.ledger (by rfl) F N (by k_mem) ?sz fun g => ?_
    case sz =>
      refine Nat.le_trans (slicePick_size_le _ _ _ _) ?_
      rw [List.size_toArray, hI.length, sizeLine_eq]
      omega
    clear F N
    refine compU_K (fun i ys => SJ ys) ?turnI ?doneI ⟨[], .nil, fun _ h => nomatch h⟩
    case turnI =>
      rintro i2 ys2 v I2 oI2 C2 oC2 D2 m3 h tk E2 hJ2 hi2 hv2 hC2 hx2 F N p3 ne2
      obtain ⟨z, t, rfl⟩ := slice_in hI hv2
      have p3' := p3
      simp only [List.cons_append, List.nil_append, LCg.Off3] at N p3
      k_steps
      unfold Stop
      rename Fr _ _ _ _ => F1
      rename News _ _ _ _ => N1
      refine compEnd_none F1 N1 p3' (.inr ⟨_, by k_mem, rfl, _, rfl⟩) ⟨rfl, ?_⟩
      obtain ⟨ns, h1, h2⟩ := hJ2
      refine ⟨ns ++ [_], h1.append (.cons _ _ .nil), fun n hn => ?_⟩
      rcases List.mem_append.mp hn with hn | hn
      · exact h2 n hn
      · rw [List.mem_singleton.mp hn]
        exact Int.fmod_nonneg_of_pos _ (by decide)
    case doneI =>
      rintro ys2 ⟨ns, h1, h2⟩
      k_steps
      unfold Stop
      rename Fr _ _ _ _ => F
      rename News _ _ _ _ => N
      refine offE (sumK rfl F N (News.isList N (by k_mem)) h1 ?_)
      clear F N
      intro h1 tk1 t1 F N
      obtain ⟨x, hx⟩ := base_sum (0 + (i : Int)).toNat ns h2
      k_steps
      unfold Stop
      rw [hx]
      rename Fr _ _ _ _ => F
      rename News _ _ _ _ => N
      refine offE ?_
      k_dflt (refine' c_leadC F N ?k3 ?k4 ?a1 ?a2 ?a3 ?_; (case k3 => k_asm); (case k4 => k_asm); (case a1 => exact rfl); (case a2 => exact Nat.le_of_ble_eq_true rfl); (case a3 => exact Nat.le_of_ble_eq_true rfl); k_whole)
      clear F N
      intro h2 tk2 tx2 F N
      k_steps
      unfold Stop
      rename Fr _ _ _ _ => F1
      rename News _ _ _ _ => N1
      obtain ⟨xs, hx1, hx2⟩ := hJ
      exact compEnd_none F1 (cb_drop N1 (by walk_at "sub")) o3' trivial ⟨rfl, xs ++ [x], by simp [hx1], by rw [List.map_append]; exact strs_snoc hx2⟩
  case doneV =>
    rintro ys hJ
    obtain ⟨x, u0, u1, u2, u3, u4, u5, rfl⟩ := hJ.six
    k_steps
    rename News _ _ _ _ => N
    refine join_listC ⟨_, (N _ (.head _)).1, rfl, _, rfl⟩ (StrsAre.cons _ _ (StrsAre.cons _ _ (StrsAre.cons _ _ .nil))) (by decide +kernel) (lead3_size _ _ _) ?_
    rw [lead3_join]
    intro t9 k9
    have hll := lead3_len (x 0) (x 1) (x 2)
    k_steps
    unfold Stop
    rename News _ _ _ _ => N
    rename Fr _ _ _ _ => F
    refine offE (lift_A (A := AC 4) (c_wsL _ _ _ _ _ _ _ (by assumption) (by assumption) (fun _ _ q => F.keep _ _ q) F N _ _ _ (ahead_ok trivial).1 (ahead_ok trivial).2 ?_) rfl (Nat.le_of_ble_eq_true rfl) (Nat.le_of_ble_eq_true rfl) rfl rfl)
    rintro h3 tk3 xw3 dw3 tn3 tc3 wvs3 cnt3 wb3 wn3 wnt3 tb3 tm3 tnt3 ka3 kb3 kc3 kd3 ke3 hwi3 hwl3 hwr3 F3 N3 al3 be3 ce3 de3
    rw [ahead_run] at hwr3
    obtain ⟨hw1, hw2⟩ := Prod.mk.inj hwr3
    obtain ⟨hw3, hw4⟩ := Prod.mk.inj hw2
    obtain ⟨hw5, hw6⟩ := Prod.mk.inj hw4
    clear hwr3 hw2 hw4
    subst hw1
    subst hw3
    subst hw5
    subst hw6
    dsimp only [wsObjs, List.cons_append, List.nil_append] at N3
    simp only [AllLt, and_true] at al3
    k_steps
    rename News _ _ _ _ => N
    rename Fr _ _ _ _ => F
    refine join_listC ⟨_, (N _ (.head _)).1, rfl, _, rfl⟩ (StrsAre.cons _ _ (StrsAre.cons _ _ (StrsAre.cons _ _ .nil))) (by decide +kernel) (lead3_size _ _ _) ?_
    rw [lead3_join]
    intro t8 k8
    k_steps
    unfold Stop
    rename News _ _ _ _ => N
    rename Fr _ _ _ _ => F
    refine offE (lift_A (A := AC 4) (c_wsL _ _ _ _ _ _ _ (by assumption) (by assumption) (fun _ _ q => F.keep _ _ q) F N _ _ _ (tabs_ok trivial).1 (tabs_ok trivial).2 ?_) rfl (Nat.le_of_ble_eq_true rfl) (Nat.le_of_ble_eq_true rfl) rfl rfl)
    rintro h4 tk4 xw4 dw4 tn4 tc4 wvs4 cnt4 wb4 wn4 wnt4 tb4 tm4 tnt4 ka4 kb4 kc4 kd4 ke4 hwi4 hwl4 hwr4 F4 N4 al4 be4 ce4 de4
    rw [tabs_run] at hwr4
    obtain ⟨hw1, hw2⟩ := Prod.mk.inj hwr4
    obtain ⟨hw3, hw4⟩ := Prod.mk.inj hw2
    obtain ⟨hw5, hw6⟩ := Prod.mk.inj hw4
    clear hwr4 hw2 hw4
    subst hw1
    subst hw3
    subst hw5
    subst hw6
    dsimp only [wsObjs, List.cons_append, List.nil_append] at N4
    simp only [AllLt, and_true] at al4
    k_steps
    unfold Stop
    rename News _ _ _ _ => N
    rename Fr _ _ _ _ => F
    refine offE (For_led ?_ (fun _ => rfl))
    k_steps
    rename IsRange _ _ _ _ _ _ _ _ => hrg
    rename Fr _ _ _ _ => F
    rename News _ _ _ _ => N
    obtain ⟨NJ, ⟨J, hJJ, hJ0⟩, hcT, hoff⟩ := lawJ0 F N ⟨rfl, rfl, trivial⟩ (by assumption) (by assumption) (by assumption) rfl be3 ce3 de3 al4.2.1 be4 ce4 de4 (Nat.lt_succ_self _) (Nat.lt_succ_self _) (by omega) (by omega) (by omega)
    rename Shared.gens _ = #[] => hgens
    rename Top _ _ _ _ _ _ => TT
    rename Frag.In _ _ => XX
    clear N al3 al4 be3 be4 ce3 ce4 de3 de4 hll hJ hr
    rename_i z1 z2 z3 z4 z5 z6 z7 z8 z9 z10 z11 z12 z13 z14 z15 z16 z17 z18 z19 z20 z21 z22 z23 z24 z25 z26 z27 z28 z29 z30 z31 z32 z33 z34 z35 z36 z37 z38 z39 z40 z41 z42 z43 z44 z45 z46 z47 z48 z49 z50 z51 z52 z53 z54 z55 z56 z57 z58 z59 z60 z61 z62 z63 z64 z65 z66 z67 z68 z69 z70 z71 z72 z73 z74 z75 z76 z77 z78 z79 z80 z81 z82 z83 z84 z85 z86 z87 z88 z89 z90 z91 z92 z93 z94 z95 z96 z97 z98 z99
    (try clear z99); (try clear z98); (try clear z97); (try clear z96); (try clear z95); (try clear z94); (try clear z93); (try clear z92); (try clear z91); (try clear z90); (try clear z89); (try clear z88); (try clear z87); (try clear z86); (try clear z85); (try clear z84); (try clear z83); (try clear z82); (try clear z81); (try clear z80); (try clear z79); (try clear z78); (try clear z77); (try clear z76); (try clear z75); (try clear z74); (try clear z73); (try clear z72); (try clear z71); (try clear z70); (try clear z69); (try clear z68); (try clear z67); (try clear z66); (try clear z65); (try clear z64); (try clear z63); (try clear z62); (try clear z61); (try clear z60); (try clear z59); (try clear z58); (try clear z57); (try clear z56); (try clear z55); (try clear z54); (try clear z53); (try clear z52); (try clear z51); (try clear z50); (try clear z49); (try clear z48); (try clear z47); (try clear z46); (try clear z45); (try clear z44); (try clear z43); (try clear z42); (try clear z41); (try clear z40); (try clear z39); (try clear z38); (try clear z37); (try clear z36); (try clear z35); (try clear z34); (try clear z33); (try clear z32); (try clear z31); (try clear z30); (try clear z29); (try clear z28); (try clear z27); (try clear z26); (try clear z25); (try clear z24); (try clear z23); (try clear z22); (try clear z21); (try clear z20); (try clear z19); (try clear z18); (try clear z17); (try clear z16); (try clear z15); (try clear z14); (try clear z13); (try clear z12); (try clear z11); (try clear z10); (try clear z9); (try clear z8); (try clear z7); (try clear z6); (try clear z5); (try clear z4); (try clear z3); (try clear z2); (try clear z1)
    refine' for_rangeL (n := 4) (J := J) (Jx := J 4) (h0 := hJ0) hrg ?sm rfl rfl F NJ ?turnL ?jxL ?doneL
    case sm => decide
    case jxL => exact fun m news h => h
    case turnL =>
      clear F NJ hJ0 hrg
      intro i u m news h tk I oI hlt hi hJi hnI F N
      simp only [AllLt, and_true] at hlt
      rw [hJJ] at hJi
      obtain ⟨oc, os, v1, v2, hv1, hv2, hm, rfl⟩ := hJi
      obtain ⟨z, hz⟩ : ∃ z : Nat, z = i + 1 := ⟨_, rfl⟩
      rw [show (1 : Int) + (i : Int) * 1 = (z : Int) by omega]
      replace F := fr_bd F _ hm
      dsimp only [bd] at F
      k_steps
      unfold Stop
      rename Fr _ _ _ _ => F
      rename News _ _ _ _ => N
      refine LCg.ListComp_U (F₀ := F) (by with_unfolding_all rfl) (by decide) (by rfl) (by decide) (by rfl) ?_
      k_steps
      unfold Stop
      rename Fr _ _ _ _ => F
      rename News _ _ _ _ => N
      refine LCg.CompSrc.ledger (by rfl) F N (by k_mem) (Nat.le_of_ble_eq_true rfl) fun g2 => ?_
      obtain ⟨c, hc⟩ : ∃ c : Nat → Nat, c = fun k => lcol (leadCs (x k)) z := ⟨_, rfl⟩
      have hcb : ∀ k, c k ≤ 400 := fun k => by rw [hc]; exact lcol_small (by omega) _
      refine compU_K (fun i ys => VJ c i ys) ?turnC ?doneC VJ.nil
      case turnC =>
        clear F N
        rintro j ys v I2 oI2 C2 oC2 D2 m₂ h tk E' hJ hj hv hC hx F N o3 ne
        obtain ⟨u, rfl⟩ := text_at hj hv
        have o3' := o3
        clear o3
        k_steps
        unfold Stop
        rename Fr _ _ _ _ => F1
        rename News _ _ _ _ => N1
        refine offE ?_
        k_dflt (refine' c_columnC F1 N1 ?k3 ?k4 ?a1 ?a2 ?a3 (leadT_ok _).1 (leadT_ok _).2 ?z1 ?z2 ?_; (case k3 => k_asm); (case k4 => k_asm); (case a1 => exact rfl); (case a2 => exact Nat.le_of_ble_eq_true rfl); (case a3 => exact Nat.le_of_ble_eq_true rfl); (case z1 => omega); (case z2 => omega); k_whole)
        clear F1 N1
        intro h2 tk2 tx2 F1 N1
        k_steps
        unfold Stop
        rename Fr _ _ _ _ => F1
        rename News _ _ _ _ => N1
        exact compEnd_none F1 N1 o3' (.inr ⟨_, by k_mem, rfl, _, rfl⟩) ⟨rfl, hJ.snoc (by rw [col_lead (by omega), hc])⟩
      case doneC =>
        clear F N
        rintro ys hJ
        obtain ⟨v0, v1, v2, v3, v4, v5, rfl⟩ := hJ.six
        intro D3 h3 tk3 F3 N3 o13
        have n5 := o13.2.1
        clear o13
        k_steps
        unfold Stop
        rename Fr _ _ _ _ => F
        rename News _ _ _ _ => N
        rename IsRange _ _ _ _ _ _ _ _ => hr6
        refine LCg.CompSrc.range (n := 6) (by rfl) F N hr6 (by decide) (by decide) (by decide) fun g4 => ?_
        refine compU_B (fun i ys tups => PJ c x i ys tups) ?turnP ?doneP PJ.nil
        case turnP =>
          clear F N hr6
          rintro j ys tups v I2 oI2 C2 oC2 D2 m₂ h tk E' hJ hj hv hC hx F N o3 ne
          obtain ⟨t9, rfl⟩ := hv
          have o3' := o3
          clear o3
          simp only [List.cons_append, List.nil_append] at N
          obtain ⟨u8, hu8⟩ := texts_at (x := x) (u0 := u0) (u1 := u1) (u2 := u2) (u3 := u3) (u4 := u4) (u5 := u5) hj
          rw [show (0 : Int) + (j : Int) = (j : Int) by omega] at hx
          have hI : SubMark := ⟨trivial⟩
          k_steps
          unfold Stop
          rename Fr _ _ _ _ => F1
          rename News _ _ _ _ => N1
          rename _ ∧ _ => l1'
          rw [nums_get (c := c) hj] at N1
          exact compEnd_one F1 N1 o3' l1'.1 l1'.2.1 l1'.2.2.1 trivial ⟨tups ++ [_], rfl, hJ.snoc (i := j) rfl⟩
        case doneP =>
          clear F N hr6
          rintro ys tups hJ
          obtain ⟨q, t', u', rfl, rfl⟩ := hJ.six
          clear hJ
          k_steps
          unfold Stop
          rename Fr _ _ _ _ => F
          rename News _ _ _ _ => N
          refine offE ?_
          k_dflt (refine' c_metC (q := q) (r := fun i => q (3 + i)) (a := fun i => (c i : Int)) (b := fun i => (c (3 + i) : Int)) (t := t') (u := u') (t' := fun i => t' (3 + i)) (u' := fun i => u' (3 + i)) (x := fun i => leadT (x i)) (y := fun i => leadT (x (3 + i))) F N ?k3 ?k4 ?a1 ?a2 ?a3 ?m (fun i _ => leadT_clean _) (fun i _ => leadT_clean _) ?_; (case k3 => k_asm); (case k4 => k_asm); (case a1 => exact rfl); (case a2 => exact Nat.le_of_ble_eq_true rfl); (case a3 => exact Nat.le_of_ble_eq_true rfl); (case m => (dsimp only [metObjs]; walk_at "sub")); k_whole)
          clear F N
          intro h5 tk5 xt dt lt kt nt vs tups k0 k1 k2 j0 j1 j2 ht1 ht2 hP hT F N
          have N1 := metLed N
          clear N
          obtain ⟨TL, hTA, hTB, hTT, N2⟩ := metFold N1
          clear N1
          obtain ⟨kk, hkk⟩ : ∃ kk : Nat → Nat, kk = fun i => [k0, k1, k2].getD i 0 := ⟨_, rfl⟩
          obtain ⟨jj, hjj⟩ : ∃ jj : Nat → Nat, jj = fun i => [j2, j1, j0].getD i 0 := ⟨_, rfl⟩
          k_steps
          unfold Stop
          refine offE (For_led ?_ (fun _ => rfl))
          k_steps
          unfold Stop
          rename Fr _ _ _ _ => F
          rename News _ _ _ _ => N
          obtain ⟨NM, hNM, hM0⟩ := lawM0 (kk := kk) (jj := jj) (c := c) F N ⟨rfl, rfl, rfl, rfl, trivial⟩
          refine' for_str (J := NM) (Jx := NM 3) (by decide +kernel) (by rfl) F N hM0 ?turnM ?jxM ?doneM
          case jxM => exact fun m news h => h
          case turnM =>
            clear F N hM0
            intro i3 ch u m news h tk I3 oI3 hch hMi hnI3 F N
            have hi3 := sign_lt hch
            rw [hNM] at hMi
            obtain ⟨ta, hm, rfl⟩ := hMi
            have hnm := name_all (x := fun i => leadT (x i)) (y := fun i => leadT (x (3 + i))) (k0 := k0) (k1 := k1) (k2 := k2) (j0 := j0) (j1 := j1) (j2 := j2) hch
            have hcl := name_clean hch
            replace F := fr_bd F _ hm
            dsimp only [bd] at F
            have hA : StopAsg := ⟨trivial⟩
            k_steps
            unfold Stop
            rename Fr _ _ _ _ => F
            refine LCg.Assign_ListComp_U (F₀ := F) (by rfl) (by with_unfolding_all rfl) (by with_unfolding_all rfl) (by decide) (by rfl) (by decide) (by rfl) (by rfl) (by rfl) ?_
            k_steps
            unfold Stop
            rename Fr _ _ _ _ => F1
            rename News _ _ _ _ => N1
            have NT : News _ _ _ tups := fun p hp => N1 p (.tail _ (.tail _ (.tail _ (.tail _ (.tail _ (.tail _ (.tail _ (.tail _ (.tail _ (.tail _ (hTT.ok p hp)))))))))))
            have hPat := hP.at F1 NT
            refine offE ?_
            k_dflt (refine' c_hallC F1 N1 ?k3 ?k4 ?a1 ?a2 ?a3 _ ?m hPat (met_clean (fun _ => leadT_clean _) (fun _ => leadT_clean _)) hcl.1 hcl.2 ?zz hnm ?_; (case k3 => k_asm); (case k4 => k_asm); (case a1 => exact rfl); (case a2 => exact Nat.le_of_ble_eq_true rfl); (case a3 => exact Nat.le_of_ble_eq_true rfl); (case m => (dsimp only [hdObjs]; walk_at "sub")); (case zz => (rw [hP.1]; exact Nat.le_of_ble_eq_true rfl)); k_whole)
            clear F1 N1 NT hPat
            intro h6 tk6 D6 n6 ys6 hy6 F6 N6 e6
            obtain ⟨ta6, tb6, rfl⟩ := strs_two hy6
            k_steps
            unfold Stop
            rename Fr _ _ _ _ => F1
            rename News _ _ _ _ => N1
            refine LCg.CompSrc.ledger (by rfl) F1 N1 (by k_mem) (Nat.le_of_ble_eq_true rfl) fun g7 => ?_
            refine compU_K (fun i ys => VJ (two (c (kk i3)) (c (3 + jj i3))) i ys) ?turnW ?doneW VJ.nil
            case turnW =>
              clear F1 N1
              rintro j ys v I2 oI2 C2 oC2 D2 m₂ h tk E' hJ hj hv hC hx F N o3 ne
              obtain ⟨w9, u9, rfl, hw9⟩ := two_at (z := z) hj hv
              have o3' := o3
              clear o3
              k_steps
              unfold Stop
              rename Fr _ _ _ _ => F1
              rename News _ _ _ _ => N1
              refine offE (lift_A (A := AC 4) (c_wsL _ _ _ _ _ _ _ (by assumption) (by assumption) (fun _ _ q => F1.keep _ _ q) F1 N1 _ _ _ (leadT_ok _).1 (leadT_ok _).2 ?_) rfl (Nat.le_of_ble_eq_true rfl) (Nat.le_of_ble_eq_true rfl) rfl rfl)
              clear F1 N1
              rintro h8 tk8 xw8 dw8 tn8 tc8 wvs8 cnt8 wb8 wn8 wnt8 tb8 tm8 tnt8 ka8 kb8 kc8 kd8 ke8 hwi8 hwl8 hwr8 F8 N8 al8 be8 ce8 de8
              rw [leadT_run] at hwr8
              obtain ⟨hw1, hw2⟩ := Prod.mk.inj hwr8
              obtain ⟨hw3, hw4⟩ := Prod.mk.inj hw2
              obtain ⟨hw5, hw6⟩ := Prod.mk.inj hw4
              clear hwr8 hw2 hw4 al8
              subst hw1
              subst hw3
              subst hw5
              subst hw6
              dsimp only [wsObjs, List.cons_append, List.nil_append] at N8
              k_steps
              unfold Stop
              rename Fr _ _ _ _ => F1
              rename News _ _ _ _ => N1
              refine offE ?_
              k_dflt (refine' c_indentC F1 N1 ?k3 ?k4 ?a1 ?a2 ?a3 ?m hwi8 hwl8 ?z1 ?z2 ?_; (case k3 => k_asm); (case k4 => k_asm); (case a1 => exact rfl); (case a2 => exact Nat.le_of_ble_eq_true rfl); (case a3 => exact Nat.le_of_ble_eq_true rfl); (case m => (dsimp only [wsObjs]; walk_at "sub")); (case z1 => omega); (case z2 => omega); k_whole)
              rw [indent_tabs (cs := leadCs w9) (by omega)]
              clear F1 N1
              intro h9 tk9 tok9 F1 N1
              k_steps
              unfold Stop
              rename Fr _ _ _ _ => F1
              rename News _ _ _ _ => N1
              exact compEnd_none F1 (fun p hp => N1 p (.tail _ (.tail _ (.tail _ (.tail _ hp))))) o3' (.inr ⟨_, by k_mem, rfl, _, rfl⟩) ⟨rfl, hJ.snoc (by rw [Int.zero_add, hw9, hc, hkk, hjj])⟩
            case doneW =>
              clear F1 N1
              rintro ys hJ
              obtain ⟨v8, v9, rfl⟩ := hJ.pair
              k_steps
              unfold Stop
              rename Fr _ _ _ _ => F1
              rename News _ _ _ _ => N1
              refine offE ?_
              obtain ⟨d, hd⟩ : ∃ d : Int, d = (c (kk i3) : Int) - (c (3 + jj i3) : Int) := ⟨_, rfl⟩
              show wpAny _ _ (call (Value.ref 45) [Value.int ((c (kk i3) : Int) - (c (3 + jj i3) : Int)) _]) _ _ _
              rw [← hd]
              have hdz : d.natAbs < 16 ^ 16 := by
                have h1 := hcb (kk i3)
                have h2 := hcb (3 + jj i3)
                have h3 : (400 : Nat) < 16 ^ 16 := by decide
                omega
              k_dflt (refine' c_int2apC F1 N1 ?k3 ?k4 ?a1 ?a2 ?a3 hdz ?_; (case k3 => k_asm); (case k4 => k_asm); (case a1 => exact rfl); (case a2 => exact Nat.le_of_ble_eq_true rfl); (case a3 => exact Nat.le_of_ble_eq_true rfl); k_whole)
              clear F1 N1
              intro h9 tk9 tok9 F1 N1
              clear hA
              k_steps
              rename Fr _ _ _ _ => F1
              rename News _ _ _ _ => N1
              have hal := apN_len 16 _ hdz
              refine head_slice (s := ⟨_, _, _, _, _⟩) (by rw [List.size_toArray]; exact Nat.le_trans hal (by decide)) F1 N1 ?_
              clear F1 N1
              intro h10 t10 k10 F1 N1 hp10
              have hp11 := first_not _ hp10
              clear hp10
              generalize KBy.picked (apN d.natAbs).toArray none (some 1) = pk at *
              k_steps
              unfold Stop
              rename Fr _ _ _ _ => F1
              refine comp_bytes F1 (by with_unfolding_all rfl) (by decide) (by rfl) (by decide) (by rfl) ?_
              k_steps
              rename Fr _ _ _ _ => F1
              rename News _ _ _ _ => N1
              refine ⟨_, _, _, rfl, rfl, F1, N1, ?szb, fun g12 => ?_⟩
              case szb =>
                rw [List.size_toArray, sizeLine_eq]
                exact Nat.le_trans hal (by decide)
              clear F1 N1
              refine compT_K (fun i ys => ys = []) ?turnB ?doneB rfl
              case turnB =>
                rintro j ys v I2 oI2 C2 oC2 D2 m₂ h tk E' rfl hj hv hC hx F N o3 ne
                obtain ⟨cb, ub, hcb1, rfl⟩ := hv
                have hcb2 : cb.toNat ≤ 80 := (apN_mem d.natAbs cb (by
                  have := List.mem_of_getElem? (by simpa using hcb1 : (apN d.natAbs)[j]? = some cb)
                  exact this)).2
                have hcb3 : ¬ ((80 : Int) < (cb.toNat : Int)) := by omega
                k_steps
                unfold Stop
                rename Fr _ _ _ _ => F1
                rename News _ _ _ _ => N1
                exact compEnd_none F1 N1 o3 trivial ⟨rfl, rfl⟩
              case doneB =>
                rintro ys rfl
                k_steps
                unfold Stop
                rename Fr _ _ _ _ => F1
                rename News _ _ _ _ => N1
                refine offE ?_
                k_dflt (refine' c_numberC F1 N1 ?k3 ?k4 ?a1 ?a2 ?a3 ?_; (case k3 => k_asm); (case k4 => k_asm); (case a1 => exact rfl); (case a2 => exact Nat.le_of_ble_eq_true rfl); (case a3 => exact Nat.le_of_ble_eq_true rfl); k_whole)
                rw [show apVal (apN d.natAbs).toArray.toList 0 = ((d.natAbs : Nat) : Int) from apVal_ap _]
                clear F1 N1
                intro h13 tk13 tx13 F1 N1
                have hap : ((apart c kk jj i3 : Nat) : Int) + ((d.natAbs : Nat) : Int) = ((apart c kk jj (i3 + 1) : Nat) : Int) := by
                  rw [hd]; exact (Int.natCast_add _ _).symm
                k_steps
                rename Fr _ _ _ _ => F1
                rename News _ _ _ _ => N1
                rw [hap] at F1
                refine ⟨_, _, _, _, rfl, F1, fun p hp => N1 p (.tail _ (.tail _ (.tail _ (.tail _ hp)))), hnI3, ?_⟩
                rw [hNM]
                exact ⟨_, ⟨rfl, rfl, rfl, rfl, trivial⟩, rfl⟩
          case doneM =>
            clear F N hM0
            intro h tk m news hMx F N
            rw [hNM] at hMx
            obtain ⟨ta, hm, rfl⟩ := hMx
            replace F := fr_bd F _ hm
            dsimp only [bd] at F
            clear hS
            obtain ⟨LB, hLB, NB⟩ := nameL N
            clear NB
            replace N := addW N hTB.ok (by intro q hq; repeat' first | exact hq | apply List.Mem.tail)
            have hcA : (0 : Int) + ((lcol (leadCs (x 0) ++ leadCs (x 1) ++ leadCs (x 2)) z : Nat) : Int) = (c 0 : Int) + (c 1 : Int) + (c 2 : Int) := by rw [hc]; exact lcol_three _ _ _ _
            have hcB : (0 : Int) + ((lcol (leadCs (x 3) ++ leadCs (x 4) ++ leadCs (x 5)) z : Nat) : Int) = (c 3 : Int) + (c 4 : Int) + (c 5 : Int) := by rw [hc]; exact lcol_three _ _ _ _
            k_steps
            · rename (_ : Int) ≠ _ => hbad
              exact (hbad (apart_is hkk hjj ht1 ht2 (by assumption) (by assumption))).elim
            unfold Stop
            rename Fr _ _ _ _ => F1
            rename News _ _ _ _ => N1
            refine offE ?_
            k_dflt (refine' c_indentC (tn := tn3) (tc := tc3) (dx := dw3) F1 N1 ?k3 ?k4 ?a1 ?a2 ?a3 ?m hwi3 hwl3 ?z1 ?z2 ?_; (case k3 => k_asm); (case k4 => k_asm); (case a1 => exact rfl); (case a2 => exact Nat.le_of_ble_eq_true rfl); (case a3 => exact Nat.le_of_ble_eq_true rfl); (case m => (dsimp only [wsObjs]; walk_at "sub")); (case z1 => omega); (case z2 => omega); k_whole)
            rw [indent_tabs (cs := leadCs (x 0) ++ leadCs (x 1) ++ leadCs (x 2)) (by omega), hcA]
            clear F1 N1
            intro h14 tk14 tok14 F1 N1
            have N0 := cb_drop N1 (show ∀ p ∈ LB, p ∈ _ from by rw [hLB]; intro p hp; repeat' first | exact hp | apply List.Mem.tail)
            clear N1
            rw [hLB] at N0
            have N1 := addW N0 hTA.ok (by intro q hq; repeat' first | exact hq | apply List.Mem.tail)
            clear N0
            k_steps
            · rename (_ : Int) ≠ _ => hbad
              exact (hbad (by rw [Int.add_zero, Int.add_assoc])).elim
            unfold Stop
            rename Fr _ _ _ _ => F1
            rename News _ _ _ _ => N1
            refine offE ?_
            k_dflt (refine' c_indentC (tn := tn4) (tc := tc4) (dx := dw4) F1 N1 ?k3 ?k4 ?a1 ?a2 ?a3 ?m hwi4 hwl4 ?z1 ?z2 ?_; (case k3 => k_asm); (case k4 => k_asm); (case a1 => exact rfl); (case a2 => exact Nat.le_of_ble_eq_true rfl); (case a3 => exact Nat.le_of_ble_eq_true rfl); (case m => (dsimp only [wsObjs]; walk_at "sub")); (case z1 => omega); (case z2 => omega); k_whole)
            rw [indent_tabs (cs := leadCs (x 3) ++ leadCs (x 4) ++ leadCs (x 5)) (by omega), hcB]
            clear F1 N1
            intro h15 tk15 tok15 F1 N1
            have N0 := cb_drop N1 (show ∀ p ∈ LB, p ∈ _ from by rw [hLB]; intro p hp; repeat' first | exact hp | apply List.Mem.tail)
            clear N1
            rw [hLB] at N0
            have N1 := addW N0 hTB.ok (by intro q hq; repeat' first | exact hq | apply List.Mem.tail)
            clear N0
            k_steps
            · rename (_ : Int) ≠ _ => hbad
              exact (hbad (by rw [Int.add_zero, Int.add_assoc])).elim
            unfold Stop
            rename Fr _ _ _ _ => F1
            rename News _ _ _ _ => N1
            refine offE ?_
            k_dflt (refine' c_indentC (tn := tn3) (tc := tc3) (dx := dw3) F1 N1 ?k3 ?k4 ?a1 ?a2 ?a3 ?m hwi3 hwl3 ?z1 ?z2 ?_; (case k3 => k_asm); (case k4 => k_asm); (case a1 => exact rfl); (case a2 => exact Nat.le_of_ble_eq_true rfl); (case a3 => exact Nat.le_of_ble_eq_true rfl); (case m => (dsimp only [wsObjs]; walk_at "sub")); (case z1 => omega); (case z2 => omega); k_whole)
            rw [indent_tabs (cs := leadCs (x 0) ++ leadCs (x 1) ++ leadCs (x 2)) (by omega), hcA]
            clear F1 N1
            intro h16 tk16 tok16 F1 N1
            have N0 := cb_drop N1 (show ∀ p ∈ LB, p ∈ _ from by rw [hLB]; intro p hp; repeat' first | exact hp | apply List.Mem.tail)
            clear N1
            rw [hLB] at N0
            have N1 := addW N0 hTA.ok (by intro q hq; repeat' first | exact hq | apply List.Mem.tail)
            clear N0
            k_steps
            unfold Stop
            rename Fr _ _ _ _ => F1
            rename News _ _ _ _ => N1
            refine offE ?_
            k_dflt (refine' c_indentC (tn := tn4) (tc := tc4) (dx := dw4) F1 N1 ?k3 ?k4 ?a1 ?a2 ?a3 ?m hwi4 hwl4 ?z1 ?z2 ?_; (case k3 => k_asm); (case k4 => k_asm); (case a1 => exact rfl); (case a2 => exact Nat.le_of_ble_eq_true rfl); (case a3 => exact Nat.le_of_ble_eq_true rfl); (case m => (dsimp only [wsObjs]; walk_at "sub")); (case z1 => omega); (case z2 => omega); k_whole)
            rw [indent_tabs (cs := leadCs (x 3) ++ leadCs (x 4) ++ leadCs (x 5)) (by omega), hcB]
            clear F1 N1
            intro h17 tk17 tok17 F1 N1
            have N0 := cb_drop N1 (show ∀ p ∈ LB, p ∈ _ from by rw [hLB]; intro p hp; repeat' first | exact hp | apply List.Mem.tail)
            clear N1
            rw [hLB] at N0
            k_steps
            have hz18 : ((c 0 : Int) + (c 1 : Int) + (c 2 : Int) - ((c 3 : Int) + (c 4 : Int) + (c 5 : Int))).natAbs < 16 ^ 16 := far_small hcb
            unfold Stop
            rename Fr _ _ _ _ => F1
            rename News _ _ _ _ => N1
            refine offE ?_
            k_dflt (refine' c_int2apC F1 N1 ?k3 ?k4 ?a1 ?a2 ?a3 hz18 ?_; (case k3 => k_asm); (case k4 => k_asm); (case a1 => exact rfl); (case a2 => exact Nat.le_of_ble_eq_true rfl); (case a3 => exact Nat.le_of_ble_eq_true rfl); k_whole)
            clear F1 N1
            intro h18 tk18 tok18 F1 N1
            k_steps
            have hz19 : (((apart c kk jj 3 : Nat) : Int)).natAbs < 16 ^ 16 := apart_small hcb _ _
            unfold Stop
            rename Fr _ _ _ _ => F1
            rename News _ _ _ _ => N1
            refine offE ?_
            k_dflt (refine' c_int2apC F1 N1 ?k3 ?k4 ?a1 ?a2 ?a3 hz19 ?_; (case k3 => k_asm); (case k4 => k_asm); (case a1 => exact rfl); (case a2 => exact Nat.le_of_ble_eq_true rfl); (case a3 => exact Nat.le_of_ble_eq_true rfl); k_whole)
            clear F1 N1
            intro h19 tk19 tok19 F1 N1
            k_steps
            · rename (_ != _) = true => hb
              rename (_ : Int) ≤ _ => hle
              have h2 := bne_iff_ne.mp hb
              exact (h2 (by rw [told_up hkk hjj ht1 ht2 (by assumption) (by assumption) hle]; exact (decide_eq_true hle).symm)).elim
            · rename Fr _ _ _ _ => F1
              rename News _ _ _ _ => N1
              rename (Obj.data _ = Data.cell (some (Value.ref D3))) => hdc
              rename (Obj.data _ = Data.cell (some (Value.int _ _))) => hds
              exact ⟨_, _, _, _, rfl, F1, cb_drop N1 (by intro p hp; simp only [List.mem_cons, List.not_mem_nil, or_false] at hp; rcases hp with rfl | rfl | rfl | rfl | rfl | rfl | rfl | rfl | rfl | rfl | rfl | rfl | rfl; all_goals first | k_mem | (repeat' first | exact hTA.ok _ (by k_mem) | exact hTB.ok _ (by k_mem) | apply List.Mem.tail)), ne_same hnI, lawJ1 hJJ hdc hds _ ⟨rfl, rfl, trivial⟩⟩
            · rename (_ != _) = true => hb
              rename ¬ ((_ : Int) ≤ _) => hle
              have h2 := bne_iff_ne.mp hb
              exact (h2 (told_else hkk hjj ht1 ht2 (by assumption) (by assumption) hle (by assumption) (by assumption) (by assumption) (by assumption))).elim
            · rename Fr _ _ _ _ => F1
              rename News _ _ _ _ => N1
              rename (Obj.data _ = Data.cell (some (Value.ref D3))) => hdc
              rename (Obj.data _ = Data.cell (some (Value.int _ _))) => hds
              exact ⟨_, _, _, _, rfl, F1, cb_drop N1 (by intro p hp; simp only [List.mem_cons, List.not_mem_nil, or_false] at hp; rcases hp with rfl | rfl | rfl | rfl | rfl | rfl | rfl | rfl | rfl | rfl | rfl | rfl | rfl; all_goals first | k_mem | (repeat' first | exact hTA.ok _ (by k_mem) | exact hTB.ok _ (by k_mem) | apply List.Mem.tail)), ne_same hnI, lawJ1 hJJ hdc hds _ ⟨rfl, rfl, trivial⟩⟩
    case doneL =>
      clear F NJ hJ0 hrg
      intro h tk m news hJx F N
      rw [hJJ] at hJx
      obtain ⟨oc, os, v1, v2, hv1, hv2, hm, rfl⟩ := hJx
      replace F := fr_bd F _ hm
      dsimp only [bd] at F
      k_steps)
end LQt
end Mine
theorem PySem.Challenge.cw_ta0081_02_holds : PySem.Challenge.rw_ta0081_02.Holds := by
  exact Mine.final
