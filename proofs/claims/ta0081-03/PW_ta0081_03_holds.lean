import PyProof.Rows.All
import Wide.All
import OpenK.AllK
import Wide.FinOn
import PySem.Challenge.RW_ta0081_03
set_option linter.all false
open PySem PySem.W PyProof.Rows
set_option Elab.async false
set_option maxRecDepth 100000
set_option maxHeartbeats 8000000
namespace Mine
def pick (l : List Stmt) (ks : List Nat) : List Stmt := ks.filterMap fun k => l[k]?
def viewOf (p : Program) (ks : List Nat) : Program := { p with main := { p.main with body := pick p.main.body ks } }
def view : Program := viewOf PySem.Challenge.rw_ta0081_03.row.prog [0, 1, 3, 4, 5, 7, 9, 11, 13, 14, 15, 16, 17, 18, 19, 20]
theorem viewEq : view = viewOf PySem.Challenge.rw_ta0081_03.row.prog [0, 1, 3, 4, 5, 7, 9, 11, 13, 14, 15, 16, 17, 18, 19, 20] := rfl
def loose : List PySem.Str := [PySem.Str.ofString "tspecials", PySem.Str.ofString "_name_disallowed_re", PySem.Str.ofString "_value_disallowed_re", PySem.Str.ofString "_formatparam", PySem.Str.ofString "Whitespace"]
theorem said : OpenLaw.wellSaid PySem.Challenge.rw_ta0081_03 = true := by decide +kernel
local macro_rules | `(tactic| o_law) => `(tactic| refine holds_law Mine.said fun said => ?_)
local macro_rules | `(tactic| k_qdec) => `(tactic| decide +kernel)
theorem ofSplit {p q : Program} {loose : List PySem.Str} {Xt : Shared → Bool} {α : Type} {Yf : Shared → α} {Ya : World → α} {N : Nat} {g0 : Bool} (row : String)
    (h1 : ∀ w : World, (fencedOpening treeTable p w N).map (fun s₀ => (topFrom treeTable p (w.withFollow row false) N s₀).map (fun s => (openSeen q loose (importedModules p.main.body) Xt g0 s, Yf s))) = some (some (openGood q loose, Ya (w.withFollow row false))))
    (h2 : ∀ w : World, (fencedOpening treeTable p w N).map (fun s₀ => (topFrom treeTable p (w.withFollow row true) N s₀).map (fun s => (openSeen q loose (importedModules p.main.body) Xt g0 s, Yf s))) = some (some (openGood q loose, Ya (w.withFollow row true)))) :
    LeftO p q loose Xt Yf Ya N g0 := by
  refine LeftO.of_split row fun w => ?_
  have e1 := h1 w
  have e2 := h2 w
  cases hx : fencedOpening treeTable p w N with
  | none => rw [hx] at e1; cases e1
  | some s =>
    rw [hx, Option.map_some] at e1 e2
    rw [Option.map_some, Option.some.inj e1, Option.some.inj e2]
section
local macro_rules | `(tactic| o_head $H) => `(tactic| (have hook := $H; clear hook; assumption))
theorem frag (h : PySem.Challenge.rw_ta0081_03.row.Holds) : PySem.Challenge.rw_ta0081_03.row.Holds := by k_head
end
def addrs : List Addr := [2, 3, 32, 34, 35, 37, 38, 42, 43, 47, 48, 52, 53, 54, 55, 57, 58, 60, 61, 69, 70, 72, 73, 75, 76, 77, 79, 80, 82, 83, 84, 86, 87, 89, 90, 91, 93, 94, 96, 97, 98, 101, 102, 103, 105, 106, 108, 109, 110, 112, 113, 115, 116, 117, 120, 121, 122, 123, 125, 126, 128, 129, 130, 133, 134, 135, 138, 139, 140, 142, 143, 145, 146, 147, 149, 150, 152, 153, 154, 157, 158, 159, 161, 162, 164, 165, 166, 168, 169, 171, 172, 173, 175, 176, 178, 179, 180, 181, 182, 183, 184, 187, 189, 190, 192, 193, 204, 206, 207, 209, 210, 211, 213, 214, 216, 217, 218, 220, 221, 223, 224, 225, 227, 228, 230, 231, 232, 234, 235, 237, 238, 239, 241, 242, 244, 245, 246, 248, 249, 251, 252, 253, 254, 255, 256, 257, 260, 262, 263, 265, 266, 267, 269, 270, 272, 273, 274, 277, 278, 279, 281, 282, 284, 285, 286, 288, 289, 291, 292, 293, 296, 297, 298, 301, 302, 303, 306, 307]
theorem addrsOk (P : Params) : addrs = (Mine.frag.heap_1 P).map (·.1) := by kernel_rfl
noncomputable abbrev hook : Hook := kHook Mine.frag.heap_1 addrs addrsOk
abbrev seenX : Shared → Bool := fun s => xlAt view [] s && recOk (RowW.records (OpenRow.toRowW PySem.Challenge.rw_ta0081_03.row)) s
abbrev Half (b : Bool) : Prop := ∀ w : World, (fencedOpening treeTable PySem.Challenge.rw_ta0081_03.row.prog w 3734).map (fun s₀ => (topFrom treeTable PySem.Challenge.rw_ta0081_03.row.prog (w.withFollow "special-get-raises" b) 3734 s₀).map (fun s => (openSeen view loose (importedModules PySem.Challenge.rw_ta0081_03.row.prog.main.body) seenX true s, hook.obs s))) = some (some (openGood view loose, hook.val (w.withFollow "special-get-raises" b)))
theorem halfF : Half false := by
  unfold Half seenX
  rw [viewEq, PySem.W.Fast.te14364793385576792824, PySem.W.Fast.te4187177175401517315, PySem.W.Fast.te5923862056798008813]
  intro w
  kernel_rfl
theorem halfT : Half true := by
  unfold Half seenX
  rw [viewEq, PySem.W.Fast.te14364793385576792824, PySem.W.Fast.te4187177175401517315, PySem.W.Fast.te5923862056798008813]
  intro w
  kernel_rfl
theorem left : LeftO PySem.Challenge.rw_ta0081_03.row.prog view loose seenX hook.obs hook.val 3734 true := ofSplit "special-get-raises" halfF halfT
local macro_rules | `(tactic| k_head) => `(tactic|
  refine holds_open (q := Mine.view) (loose := Mine.loose) (Xt := fun s => xlAt Mine.view [] s && recOk (RowW.records (OpenRow.toRowW PySem.Challenge.rw_ta0081_03.row)) s) (XP := XL Mine.view []) (Yf := Hook.obs (kHook Mine.frag.heap_1 Mine.addrs Mine.addrsOk)) (Ya := Hook.val (kHook Mine.frag.heap_1 Mine.addrs Mine.addrsOk)) (YP := Hook.says (kHook Mine.frag.heap_1 Mine.addrs Mine.addrsOk)) (N := 3734) Mine.left (Hook.of (kHook Mine.frag.heap_1 Mine.addrs Mine.addrsOk)) (Hook.keeps (kHook Mine.frag.heap_1 Mine.addrs Mine.addrsOk)) (fun s e => xl_of s (Bool.and_eq_true_iff.mp e).1) XL.keeps (by rfl) (by rfl) (by rfl) (fun s e => recFacts_of (Bool.and_eq_true_iff.mp e).2) (by rfl) (by first | assumption | decide +kernel) (by decide +kernel) ⟨rfl, rfl, rfl, rfl, rfl, by decide +kernel⟩ ?hw ?hc)
open_top hd for PySem.Challenge.rw_ta0081_03
end Mine
namespace Mine
open PySem.Calls
section B0s
/-- no exception comes out -/
abbrev NoE : Value → Shared → Prop := fun _ _ => False

/-- a wider surround serves a narrower one -/
theorem lift_A {α : Type} {M : Model} {A A' : Around} {t : Sem α} {Q : α → Shared → Prop} {E : Value → Shared → Prop} {s : Shared}
    (h : wpAny M A t Q E s) (hh : A.handled = A'.handled) (hd : A'.depth ≤ A.depth) (hu : A'.units ≤ A.units) (hf : A.frames = none) (hg : A.guards = none) :
    wpAny M A' t Q E s := by
  intro Γ p hΓ
  obtain ⟨a, b, c, d, e⟩ := hΓ
  refine h Γ p ?_
  refine ⟨a.trans hh.symm, Nat.le_trans b hd, ?_, ?_, Nat.le_trans e hu⟩
  · intro l hl
    rw [hf] at hl
    cases hl
  · intro l hl
    rw [hg] at hl
    cases hl

/-- the surround of level k -/
abbrev AC (k : Nat) : Around := { handled := none, depth := 300 + 20 * k, frames := none, guards := none, units := 1000 * k }

def Stop (P : Prop) : Prop := P
theorem stop {P : Prop} (h : Stop P) : P := h

/-- all stays but what stands at these places -/
def SB (h h' : Heap) (xs : List Addr) : Prop := ∀ b o, h.get? b = some o → b ∉ xs → h'.get? b = some o

theorem enter {K : Frag} {prog : Program} {w : World} {s : Shared} {A : Around} {f : Addr} {args : Args} {name qual : PySem.Str} {params : Arguments} {body : List Stmt} {scope : Scope}
    {dV kV doc pm cdv ct oc : Value} {an od : Option Addr} {osl : Array (Option Value)} {binds : List (PySem.Str × Value)} {R : Result → Shared → Prop}
    {h₀ : Heap} {p : Program} {loose : List PySem.Str} {mean : ExcName → Option Value} {mg mb : PySem.Str → Option Value} {news : List (Addr × Obj)}
    (X : K.In h₀) (T : Top p loose mean mg mb h₀) (hk : h₀.StaysIn s.heap) (hn : ∀ q ∈ news, s.heap.get? q.1 = some q.2 ∧ h₀.get? q.1 = none)
    (ho : K.lookup f = some ⟨oc, od, .func (fnOf name qual params body scope dV kV doc pm an cdv ct), osl⟩) (hcd : codeIn K cdv qual = true) (hroom : A.depth < recursionLimit)
    (hbind : BindsTo s (fnOf name qual params body scope dV kV doc pm an cdv ct) args binds) (hloc : ∀ y ∈ binds, scope.names.lookup y.1 = some .local)
    (h : ∀ g L h₁, h₀.StaysIn g → SB s.heap g (news.map (·.1)) → Fr g L h₁ (fun y => binds.reverse.lookup y) → News g L h₁ news → K.In g → Top p loose mean mg mb g →
      wpAny (model prog w) (A.deeper (envOf qual scope L f cdv)) (execs body (envOf qual scope L f cdv))
        (fun fl s' => R (.ok (.ret (match fl with | .ret v => v | _ => .none))) s') NoE { s with heap := h₁, toks := s.toks + binds.length })
    (hco : scope.isCoroutine = false) (hgen : scope.isGenerator = false) (hkd : scope.kind = .function) (hcell : ∀ x ∈ scope.names, x.2 ≠ .cell) :
    codeAny (model prog w) A (.call (.ref f) args) R s := by
  have Xs : K.In s.heap := X.keeps hk
  have nm : ∀ b o, h₀.get? b = some o → b ∉ news.map (·.1) := fun b o e q => by
    obtain ⟨p, hp, rfl⟩ := List.mem_map.mp q
    rw [(hn p hp).2] at e; cases e
  have st : h₀.StaysIn (hideAll s.heap (news.map (·.1))) := fun b o e => hideAll_get _ (hk b o e) (nm b o e)
  refine codeAny_call_def (fd := fnOf name qual params body scope dV kV doc pm an cdv ct) (body := body) (binds := binds) hroom (Xs _ _ ho) rfl (T.nolimit.keeps hk) (codeRec_of Xs hcd) rfl hbind hcell hloc (fun h₁ hns hk₁ => ?_) hco hgen hkd
  refine wpAny_mono (h (hideAll s.heap (news.map (·.1))) _ h₁ st (fun b o e hb => hideAll_get _ e hb) ⟨hns, fun b o e => hk₁ b o (of_hideAll _ e), Nat.le_of_eq (hideAll_size _ _)⟩ ?_ (X.keeps fun b o e => st b o e) (T.keeps fun b o e => st b o e)) (fun fl s' hq => hq) fun _ _ e => e.elim
  intro q hq
  exact ⟨hk₁ _ _ (hn q hq).1, Nat.ne_of_lt (Heap.lt_size (hn q hq).1), hideAll_none _ (List.mem_map_of_mem hq)⟩
theorem lift_C {M : Model} {A A' : Around} {c : Code} {R : Result → Shared → Prop} {s : Shared}
    (h : codeAny M A c R s) (hh : A.handled = A'.handled) (hd : A'.depth ≤ A.depth) (hu : A'.units ≤ A.units) (hf : A.frames = none) (hg : A.guards = none) :
    codeAny M A' c R s := by
  intro Γ p hc hΓ
  obtain ⟨a, b, c, d, e⟩ := hΓ
  refine h Γ p hc ?_
  refine ⟨a.trans hh.symm, Nat.le_trans b hd, ?_, ?_, Nat.le_trans e hu⟩
  · intro l hl
    rw [hf] at hl
    cases hl
  · intro l hl
    rw [hg] at hl
    cases hl
theorem fr_stay {h₀ h h' : Heap} {L : Addr} {m : PySem.Str → Option Value} (F : Fr h₀ L h m) (k : h.StaysIn h') : Fr h₀ L h' m :=
  ⟨F.ns.keeps k, fun b o e => k _ _ (F.keep b o e), F.above⟩
theorem news_stay {h₀ h h' : Heap} {L : Addr} {news : List (Addr × Obj)} (N : News h₀ L h news) (k : h.StaysIn h') : News h₀ L h' news :=
  fun p hp => ⟨k _ _ (N p hp).1, (N p hp).2⟩

/-- how a turn of a while may end -/
def WEnd (n : Nat) (I : Nat → Shared → Prop) (s : Shared) : Prop := ∃ m, m < n ∧ I m s
section
variable {prog : Program} {w : World} {A : Around} {s : Shared} {env : Env} {Q : Flow → Shared → Prop}
theorem while_rule {test : PySem.Expr} {body : List Stmt} {pos : Pos} (I : Nat → Shared → Prop) (n : Nat) (h0 : I n s)
    (turn : ∀ n s, I n s → wpAny (model prog w) A (isTrue test env (eval test env)) (fun b s₂ => if b then wpAny (model prog w) A (execs body env) (fun f s₃ => match f with
        | .next | .cont => WEnd n I s₃
        | .brk => Q .next s₃
        | .ret v => Q (.ret v) s₃) NoE s₂ else Q .next s₂) NoE s) :
    wpAny (model prog w) A (exec (.While test body [] pos) env) Q NoE s := by
  refine wpAny_While (codeAny_whileLoop I (fun n s hI => ?_) n h0)
  refine wpAny_mono (turn n s hI) (fun b s₂ h₂ => ?_) fun _ _ e => e.elim
  cases b with
  | true =>
    refine wpAny_mono h₂ (fun f s₃ h₃ => ?_) fun _ _ e => e.elim
    cases f <;> exact h₃
  | false => exact wpAny_execs_nil h₂
end

/-- names that a frame holds, ahead of whatever else it holds -/
def bd : List (PySem.Str × Value) → (PySem.Str → Option Value) → PySem.Str → Option Value
  | [], u, y => u y
  | p :: r, u, y => if y = p.1 then some p.2 else bd r u y
def lks (m : PySem.Str → Option Value) : List (PySem.Str × Value) → Prop
  | [] => True
  | p :: r => m p.1 = some p.2 ∧ lks m r
theorem bd_eq {m : PySem.Str → Option Value} : ∀ {l : List (PySem.Str × Value)}, lks m l → bd l m = m
  | [], _ => rfl
  | p :: r, h => by
    funext y
    show (if y = p.1 then some p.2 else bd r m y) = m y
    by_cases e : y = p.1
    · rw [if_pos e, e, h.1]
    · rw [if_neg e, bd_eq h.2]
theorem fr_bd {h₀ h : Heap} {L : Addr} {m : PySem.Str → Option Value} (F : Fr h₀ L h m) (l : List (PySem.Str × Value)) (e : lks m l) : Fr h₀ L h (bd l m) := by
  rw [bd_eq e]; exact F


/-- how a turn of a for may end -/
def FEnd (s : Shared) (h₀ : Heap) (L I : Addr) (o : Obj) (J Jx : (PySem.Str → Option Value) → List (Addr × Obj) → Prop) (Q : Flow → Shared → Prop) (f : Flow) (s₂ : Shared) : Prop :=
  match f with
  | .ret v => Q (.ret v) s₂
  | .brk => ∃ h' tk m' news', s₂ = { s with heap := h', toks := tk } ∧ Fr h₀ L h' m' ∧ News h₀ L h' news' ∧ Jx m' news'
  | _ => ∃ h' tk m' news', s₂ = { s with heap := h', toks := tk } ∧ Fr h₀ L h' m' ∧ News h₀ L h' ((I, o) :: news') ∧ (∀ p ∈ news', p.1 ≠ I) ∧ J m' news'

section
variable {prog : Program} {w : World} {A : Around} {s : Shared} {env : Env} {Q : Flow → Shared → Prop}

theorem for_led {h₀ : Heap} {target : PySem.Expr} {body : List Stmt} {I : Addr} {fp wr : List Addr} {n : Nat} {P : Nat → Value → Prop} {St : Nat → Heap → Prop} {m₀ : PySem.Str → Option Value} {news₀ kl : List (Addr × Obj)}
    (W : Walks prog w A I fp wr n P St) (hIf : I ∈ fp) (hfp : ∀ b ∈ fp, b = I ∨ (∃ q, h₀.get? b = some q) ∨ (∃ q, (b, q) ∈ kl)) (hI0 : h₀.get? I = none) (hIL : env.locals ≠ I) (hwr : ∀ b ∈ wr, b = I)
    (hob : ∀ i h, St i h → ∃ o, h.get? I = some o)
    (hgo : ∀ i (s' : Shared) v (Q' : Unit → Shared → Prop), St i s'.heap → Q' () s' → wpAny (model prog w) A (letOwnedTupleGo target (.ref I) v) Q' NoE s')
    (J : Nat → (PySem.Str → Option Value) → List (Addr × Obj) → Prop) (Jx : (PySem.Str → Option Value) → List (Addr × Obj) → Prop) (hkl : ∀ i m news, J i m news → ∀ p ∈ kl, p ∈ news)
    (h0 : J 0 m₀ news₀) (hst : St 0 s.heap) (F : Fr h₀ env.locals s.heap m₀) (N : News h₀ env.locals s.heap news₀) (hnI : ∀ p ∈ news₀, p.1 ≠ I)
    (turn : ∀ i v m₁ news₁ h tk o, i < n → P i v → J i m₁ news₁ → (∀ p ∈ news₁, p.1 ≠ I) → Fr h₀ env.locals h m₁ → News h₀ env.locals h ((I, o) :: news₁) →
      wpAny (model prog w) A (assign target env v) (fun _ s₂ => wpAny (model prog w) A (execs body env) (FEnd s h₀ env.locals I o (J (i + 1)) Jx Q) NoE s₂) NoE { s with heap := h, toks := tk })
    (hJx : ∀ m news, J n m news → Jx m news)
    (done : ∀ h tk m₁ news₁, Jx m₁ news₁ → Fr h₀ env.locals h m₁ → News h₀ env.locals h news₁ → Q .next { s with heap := h, toks := tk }) :
    codeAny (model prog w) A (.forLoop target (.ref I) body [] env) (fun r s' => match r with | .ok f => Q f s' | .error _ => False) s := by
  have hLw : env.locals ∉ wr := fun h => hIL (hwr _ h)
  have old : ∀ b o, h₀.get? b = some o → b ∉ wr := fun b o e hb => by rw [hwr b hb, hI0] at e; cases e
  refine codeAny_forLoop_any
    (fun k s' => ∃ h' tk m' news' i, s' = { s with heap := h', toks := tk } ∧ St i h' ∧ Fr h₀ env.locals h' m' ∧ News h₀ env.locals h' news' ∧ (∀ p ∈ news', p.1 ≠ I) ∧ J i m' news' ∧ i ≤ n ∧ k = n + 1 - i) ?_ (n + 1)
    ⟨s.heap, s.toks, m₀, news₀, 0, rfl, hst, F, N, hnI, h0, Nat.zero_le _, rfl⟩
  rintro k s' ⟨h', tk, m', news', i, rfl, hst', F', N', hnw', hJ, hi, rfl⟩
  have next : ∀ h₁ : Heap, (∀ b o, b ∉ wr → h'.get? b = some o → h₁.get? b = some o) → Fr h₀ env.locals h₁ m' ∧ News h₀ env.locals h₁ news' := fun h₁ hk₁ =>
    ⟨⟨F'.ns.at' fun o e => hk₁ _ o hLw e, fun b o e => hk₁ b o (old b o e) (F'.keep b o e), F'.above⟩, fun p hp => ⟨hk₁ _ _ (fun hb => hnw' p hp (hwr _ hb)) (N' p hp).1, (N' p hp).2⟩⟩
  by_cases hlt : i < n
  · refine W.item i _ _ _ hlt hst' fun v h₁ tk₁ hP hst₁ hk₁ => ?_
    obtain ⟨F₁, N₁⟩ := next h₁ hk₁
    obtain ⟨o, ho⟩ := hob _ _ hst₁
    have Nown : News h₀ env.locals h₁ ((I, o) :: news') := by
      intro p hp
      rcases List.mem_cons.mp hp with rfl | hp
      · exact ⟨ho, Ne.symm hIL, hI0⟩
      · exact N₁ p hp
    refine wpAny_mono (hgo (i + 1) _ v (fun _ s₁' => wpAny (model prog w) A (assign target env v) (fun _ s₂ => wpAny (model prog w) A (execs body env) (FEnd s h₀ env.locals I o (J (i + 1)) Jx Q) NoE s₂) NoE s₁') hst₁ (turn i v m' news' h₁ tk₁ o hlt hP hJ hnw' F₁ Nown)) (fun _ s₁' h₁' => ?_) fun _ _ e => e.elim
    refine wpAny_mono h₁' (fun _ s₂ h₂ => wpAny_mono h₂ (fun f s₃ h₃ => ?_) fun _ _ e => e.elim) fun _ _ e => e.elim
    have fin : (∃ h' tk m' news', s₃ = { s with heap := h', toks := tk } ∧ Fr h₀ env.locals h' m' ∧ News h₀ env.locals h' ((I, o) :: news') ∧ (∀ p ∈ news', p.1 ≠ I) ∧ J (i + 1) m' news') →
        ∃ m, m < n + 1 - i ∧ ∃ h' tk m' news' j, s₃ = { s with heap := h', toks := tk } ∧ St j h' ∧ Fr h₀ env.locals h' m' ∧ News h₀ env.locals h' news' ∧ (∀ p ∈ news', p.1 ≠ I) ∧ J j m' news' ∧ j ≤ n ∧ m = n + 1 - j := by
      rintro ⟨h₃', tk₃, m₂, news₂, rfl, F₃, N₃, hn₃, hJ₃⟩
      refine ⟨n + 1 - (i + 1), by omega, h₃', tk₃, m₂, news₂, i + 1, rfl, ?_, F₃, fun p hp => N₃ p (.tail _ hp), hn₃, hJ₃, hlt, rfl⟩
      refine W.frame _ _ _ hst₁ fun b hb o' e => ?_
      rcases hfp b hb with hbI | ⟨q, hq⟩ | ⟨q, hq⟩
      · subst hbI
        have : o' = o := Option.some.inj (e.symm.trans ho)
        exact this ▸ (N₃ _ (.head _)).1
      · have : q = o' := Option.some.inj ((F₁.keep b q hq).symm.trans e)
        exact this ▸ F₃.keep b q hq
      · have h1 := (N₁ _ (hkl _ _ _ hJ _ hq)).1
        have : q = o' := Option.some.inj (h1.symm.trans e)
        exact this ▸ (N₃ _ (.tail _ (hkl _ _ _ hJ₃ _ hq))).1
    cases f with
    | ret v => exact h₃
    | brk =>
      obtain ⟨h₃', tk₃, m₂, news₂, rfl, F₃, N₃, hJ₃⟩ := h₃
      exact done h₃' tk₃ m₂ news₂ hJ₃ F₃ N₃
    | cont => exact fin h₃
    | next => exact fin h₃
  · have hin : i = n := by omega
    subst hin
    refine W.done _ _ _ hst' fun h₁ tk₁ hk₁ => wpAny_execs_nil ?_
    obtain ⟨F₁, N₁⟩ := next h₁ hk₁
    exact done h₁ tk₁ m' news' (hJx _ _ hJ) F₁ N₁

/-- what stands behind the iterator's making -/
abbrev ForOn (prog : Program) (w : World) (A : Around) (target : PySem.Expr) (body : List Stmt) (env : Env) (Q : Flow → Shared → Prop) (it : Value) (s₂ : Shared) : Prop :=
  codeAny (model prog w) A (.forLoop target it body [] env) (fun r s' => match r with | .ok f => Q f s' | .error _ => False) s₂

theorem For_led {target iter : PySem.Expr} {body : List Stmt} {pos : Pos}
    (h : wpAny (model prog w) A (eval iter env) (fun xv s₁ => wpAny (model prog w) A (pyIter xv) (ForOn prog w A target body env Q) NoE s₁) NoE s)
    (hs : ∀ x, foldedSetIterable iter env x = pure x) :
    wpAny (model prog w) A (exec (.For target iter body [] pos) env) Q NoE s := by
  refine wpAny_For (wpAny_mono h (fun xv s₁ h₁ => wpAny_mono h₁ (fun it s₂ h₂ => ?_) fun _ _ e => e) fun _ _ e => e) hs
  refine codeAny_mono h₂ fun r s' hr => ?_
  cases r with
  | ok f => exact hr
  | error e => exact hr.elim

theorem letGo_striter {target : PySem.Expr} {I : Addr} {x : PySem.Str} {t : Tok} {i : Nat} {v : Value} {Q' : Unit → Shared → Prop} {s' : Shared} (hit : s'.heap.IsStrIter I "str_ascii_iterator" x t i) (h : Q' () s') :
    wpAny (model prog w) A (letOwnedTupleGo target (.ref I) v) Q' NoE s' := by
  obtain ⟨o, ho, hc, hd⟩ := hit
  unfold letOwnedTupleGo
  cases target <;> first
    | exact wpAny_pure h
    | (cases v <;> first
        | exact wpAny_pure h
        | (refine wpAny_bind (wpAny_load ho ?_)
           rw [hc, hd]
           exact wpAny_pure h))

theorem for_str {h₀ : Heap} {target : PySem.Expr} {body : List Stmt} {ws : PySem.Str} {t : Tok} {m₀ : PySem.Str → Option Value} {news₀ : List (Addr × Obj)}
    (ha : ws.cps.all (· < 128) = true) (hh : A.handled = none) (F : Fr h₀ env.locals s.heap m₀) (N : News h₀ env.locals s.heap news₀)
    (J : Nat → (PySem.Str → Option Value) → List (Addr × Obj) → Prop) (Jx : (PySem.Str → Option Value) → List (Addr × Obj) → Prop) (h0 : J 0 m₀ news₀)
    (turn : ∀ i c u m₁ news₁ h tk I o, ws.cps[i]? = some c → J i m₁ news₁ → (∀ p ∈ news₁, p.1 ≠ I) → Fr h₀ env.locals h m₁ → News h₀ env.locals h ((I, o) :: news₁) →
      wpAny (model prog w) A (assign target env (.str ⟨#[c]⟩ u)) (fun _ s₂ => wpAny (model prog w) A (execs body env) (FEnd s h₀ env.locals I o (J (i + 1)) Jx Q) NoE s₂) NoE { s with heap := h, toks := tk })
    (hJx : ∀ m news, J ws.cps.size m news → Jx m news)
    (done : ∀ h tk m₁ news₁, Jx m₁ news₁ → Fr h₀ env.locals h m₁ → News h₀ env.locals h news₁ → Q .next { s with heap := h, toks := tk }) :
    wpAny (model prog w) A (pyIter (.str ws t)) (ForOn prog w A target body env Q) NoE s := by
  have nn : ∀ p ∈ news₀, p.1 ≠ s.heap.objs.size := fun p hp e => absurd (Heap.lt_size (N p hp).1) (by rw [e]; exact Nat.lt_irrefl _)
  refine wpAny_pyIter_ascii ha ?_
  refine for_led (kl := []) (Walks.strAscii hh _ ws t) (.head _) (fun b hb => .inl (List.mem_singleton.mp hb)) (next_is_new F) (Nat.ne_of_lt F.ns.lt) (fun b hb => List.mem_singleton.mp hb) (fun i h hs => ?_) (fun i s' v Q' st hq => letGo_striter st hq)
    J Jx (fun _ _ _ _ p hp => nomatch hp) h0 ⟨_, Heap.get?_push_size _ rfl, rfl, rfl⟩ (F.push _) (fun p hp => ⟨Heap.get?_push_of_some _ (N p hp).1, (N p hp).2⟩) nn ?_ hJx done
  · obtain ⟨o, ho, _⟩ := hs
    exact ⟨o, ho⟩
  · rintro i v m₁ news₁ h tk o hi ⟨c, u, hc, rfl⟩ hJ hnI F₁ N₁
    exact turn i c u m₁ news₁ h tk _ o hc hJ hnI F₁ N₁

theorem letGo_rangeiter {target : PySem.Expr} {I : Addr} {a b c : Int} {v : Value} {Q' : Unit → Shared → Prop} {s' : Shared} (hit : IsRangeIter s'.heap I a b c) (h : Q' () s') :
    wpAny (model prog w) A (letOwnedTupleGo target (.ref I) v) Q' NoE s' := by
  unfold letOwnedTupleGo
  cases target <;> first
    | exact wpAny_pure h
    | (cases v <;> first
        | exact wpAny_pure h
        | (refine wpAny_bind (wpAny_load hit ?_)
           exact wpAny_pure h))

theorem for_range {h₀ : Heap} {target : PySem.Expr} {body : List Stmt} {r : Addr} {a b c : Int} {t u v : Tok} {n : Nat} {m₀ : PySem.Str → Option Value} {news₀ : List (Addr × Obj)}
    (hr : IsRange s.heap r a b c t u v) (hsmall : Builtin.Range.small a b c = true) (hn : Builtin.Range.rangeSize a b c = (n : Int)) (hh : A.handled = none) (F : Fr h₀ env.locals s.heap m₀) (N : News h₀ env.locals s.heap news₀)
    (J : Nat → (PySem.Str → Option Value) → List (Addr × Obj) → Prop) (Jx : (PySem.Str → Option Value) → List (Addr × Obj) → Prop) (h0 : J 0 m₀ news₀)
    (turn : ∀ (i : Nat) u m₁ news₁ h tk I o, i < n → J i m₁ news₁ → (∀ p ∈ news₁, p.1 ≠ I) → Fr h₀ env.locals h m₁ → News h₀ env.locals h ((I, o) :: news₁) →
      wpAny (model prog w) A (assign target env (.int (a + i * c) u)) (fun _ s₂ => wpAny (model prog w) A (execs body env) (FEnd s h₀ env.locals I o (J (i + 1)) Jx Q) NoE s₂) NoE { s with heap := h, toks := tk })
    (hJx : ∀ m news, J n m news → Jx m news)
    (done : ∀ h tk m₁ news₁, Jx m₁ news₁ → Fr h₀ env.locals h m₁ → News h₀ env.locals h news₁ → Q .next { s with heap := h, toks := tk }) :
    wpAny (model prog w) A (pyIter (.ref r)) (ForOn prog w A target body env Q) NoE s := by
  have nn : ∀ p ∈ news₀, p.1 ≠ s.heap.objs.size := fun p hp e => absurd (Heap.lt_size (N p hp).1) (by rw [e]; exact Nat.lt_irrefl _)
  refine wpAny_pyIter_range hr hsmall ?_
  refine for_led (kl := []) (Walks.range hh _ a c n) (.head _) (fun b hb => .inl (List.mem_singleton.mp hb)) (next_is_new F) (Nat.ne_of_lt F.ns.lt) (fun b hb => List.mem_singleton.mp hb) (fun i h hs => ⟨_, hs⟩) (fun i s' v Q' st hq => letGo_rangeiter st hq)
    J Jx (fun _ _ _ _ p hp => nomatch hp) h0 (by show IsRangeIter _ _ _ _ _; rw [hn]; simpa using Heap.get?_push_size _ rfl) (F.push _) (fun p hp => ⟨Heap.get?_push_of_some _ (N p hp).1, (N p hp).2⟩) nn ?_ hJx done
  rintro i v m₁ news₁ h tk o hi ⟨u, rfl⟩ hJ hnI F₁ N₁
  exact turn i u m₁ news₁ h tk _ o hi hJ hnI F₁ N₁

/-- over a list that the ground holds, or the ledger -/
theorem for_list {h₀ : Heap} {target : PySem.Expr} {body : List Stmt} {l : Addr} {vs : List Value} {m₀ : PySem.Str → Option Value} {news₀ kl : List (Addr × Obj)}
    (hl : s.heap.IsList l vs.toArray) (hin : (∃ q, h₀.get? l = some q) ∨ (∃ q, (l, q) ∈ kl)) (hh : A.handled = none) (F : Fr h₀ env.locals s.heap m₀) (N : News h₀ env.locals s.heap news₀)
    (J : Nat → (PySem.Str → Option Value) → List (Addr × Obj) → Prop) (Jx : (PySem.Str → Option Value) → List (Addr × Obj) → Prop) (hkl : ∀ i m news, J i m news → ∀ p ∈ kl, p ∈ news) (h0 : J 0 m₀ news₀)
    (turn : ∀ (i : Nat) v m₁ news₁ h tk I o, vs[i]? = some v → J i m₁ news₁ → (∀ p ∈ news₁, p.1 ≠ I) → Fr h₀ env.locals h m₁ → News h₀ env.locals h ((I, o) :: news₁) →
      wpAny (model prog w) A (assign target env v) (fun _ s₂ => wpAny (model prog w) A (execs body env) (FEnd s h₀ env.locals I o (J (i + 1)) Jx Q) NoE s₂) NoE { s with heap := h, toks := tk })
    (hJx : ∀ m news, J vs.length m news → Jx m news)
    (done : ∀ h tk m₁ news₁, Jx m₁ news₁ → Fr h₀ env.locals h m₁ → News h₀ env.locals h news₁ → Q .next { s with heap := h, toks := tk }) :
    wpAny (model prog w) A (pyIter (.ref l)) (ForOn prog w A target body env Q) NoE s := by
  have nn : ∀ p ∈ news₀, p.1 ≠ s.heap.objs.size := fun p hp e => absurd (Heap.lt_size (N p hp).1) (by rw [e]; exact Nat.lt_irrefl _)
  obtain ⟨ol, hol, _⟩ := id hl
  have hne : l ≠ s.heap.objs.size := Nat.ne_of_lt (Heap.lt_size hol)
  refine wpAny_pyIter_list hl ?_
  have W := Walks.list (prog := prog) (w := w) hh s.heap.objs.size l hne vs.toArray
  rw [List.size_toArray] at W
  refine for_led (kl := kl) W (.head _) (fun b hb => ?_) (next_is_new F) (Nat.ne_of_lt F.ns.lt) (fun b hb => List.mem_singleton.mp hb) (fun i h hs => ?_) (fun i s' v Q' st hq => letGo_listiter st.1 hq)
    J Jx hkl h0 ⟨⟨_, Heap.get?_push_size _ rfl, rfl, rfl⟩, hl.at fun o e => Heap.get?_push_of_some _ e⟩ (F.push _) (fun p hp => ⟨Heap.get?_push_of_some _ (N p hp).1, (N p hp).2⟩) nn ?_ hJx done
  · rcases List.mem_cons.mp hb with e | hb
    · exact .inl e
    · rw [List.mem_singleton.mp hb]; exact .inr hin
  · obtain ⟨⟨o, ho, _⟩, _⟩ := hs
    exact ⟨o, ho⟩
  · intro i v m₁ news₁ h tk o hi hP hJ hnI F₁ N₁
    exact turn i v m₁ news₁ h tk _ o (by simpa using hP) hJ hnI F₁ N₁
end

def bump (cnt : List Int) (b : Int) : List Int :=
  let c := if (cnt.length : Int) ≤ b then cnt ++ (List.replicate (b - cnt.length + 1).toNat [0]).flatten else cnt
  c.set b.toNat (c.getD b.toNat 0 + 1)
def wsRun : List Nat → List Int → Int → Int → Int → List Int × Int × Int × Int
  | [], cnt, b, n, nt => (cnt, b, n, nt)
  | c :: r, cnt, b, n, nt => if c = 32 then wsRun r cnt (b + 1) (n + 1) nt else if c = 9 then wsRun r (bump cnt b) 0 (n + 1) (nt + 1) else (cnt, b, n, nt)
theorem flat_len (k : Nat) : (List.replicate k [(0 : Int)]).flatten.length = k := by
  induction k with
  | zero => rfl
  | succ k ih => rw [List.replicate_succ, List.flatten_cons, List.length_append, ih]; simp; omega
theorem bump_len {cnt : List Int} {b : Int} {i : Nat} (hb : b ≤ (i : Int)) (hc : cnt.length ≤ i) : (bump cnt b).length ≤ i + 1 := by
  unfold bump
  simp only [List.length_set]
  split
  · rw [List.length_append, flat_len]; omega
  · omega
theorem ws_step {ws : PySem.Str} {i c : Nat} {cnt : List Int} {b n nt : Int} {W : List Int × Int × Int × Int} (hc : ws.cps[i]? = some c) (hr : wsRun (ws.cps.toList.drop i) cnt b n nt = W) :
    (if c = 32 then wsRun (ws.cps.toList.drop (i + 1)) cnt (b + 1) (n + 1) nt else if c = 9 then wsRun (ws.cps.toList.drop (i + 1)) (bump cnt b) 0 (n + 1) (nt + 1) else (cnt, b, n, nt)) = W := by
  rw [← hr]
  have h : ws.cps.toList.drop i = c :: ws.cps.toList.drop (i + 1) := by
    have h2 : ws.cps.toList[i]? = some c := by simpa using hc
    obtain ⟨hl, he⟩ := List.getElem?_eq_some_iff.mp h2
    rw [List.drop_eq_getElem_cons hl, he]
  rw [h]
  rfl
theorem sgn_of {c k : Nat} {x : PySem.Str} (e : x = ⟨#[k]⟩) {r : Bool} (h : ((⟨#[c]⟩ : PySem.Str) == x) = r) : r = decide (c = k) := by
  rw [← h, e]
  by_cases q : c = k
  · subst q; simp
  · have : ¬ ((⟨#[c]⟩ : PySem.Str) = ⟨#[k]⟩) := by
      intro z
      injection z with z
      simp at z
      exact q z
    simp [this, q]

/-- what the ledger asks of the ground and the heap -/
def Has (h₀ h : Heap) (led : List (Addr × Obj)) : Prop := ∀ q ∈ led, h.get? q.1 = some q.2 ∧ h₀.get? q.1 = none
def AllAbove (news led : List (Addr × Obj)) : Prop := ∀ p ∈ news, ∀ q ∈ led, @LT.lt Nat _ p.1 q.1
abbrev tupO (vs : List Value) : Obj := { cls := .type "tuple", data := .seq vs.toArray }

section
variable {prog : Program} {w : World} {A : Around} {E : Value → Shared → Prop} {s : Shared} {h₀ : Heap} {L l : Addr} {m : PySem.Str → Option Value} {news : List (Addr × Obj)}
theorem my_tuple {vs : List Value} {k : Nat} {Q : Value → Shared → Prop} (F : Fr h₀ L s.heap m) (N : News h₀ L s.heap news) (hm : (l, listOf vs.toArray k) ∈ news) (hz : vs.length ≤ 16777216)
    (h : ∀ D h', Fr h₀ L h' m → News h₀ L h' ((D, tupO vs) :: news) → (∀ p ∈ news, p.1 < D) → Q (.ref D) { s with heap := h' }) :
    wpAny (model prog w) A (call (.type "tuple") [.ref l]) Q E s := by
  refine call_tuple_list ⟨_, (N _ hm).1, rfl, k, rfl⟩ (fun h' hk => ?_) (by rw [List.size_toArray, sizeLine_eq]; exact hz)
  have F' : Fr h₀ L h' m := F.keeps hk
  have N' : News h₀ L h' news := fun p hp => ⟨hk _ _ (N p hp).1, (N p hp).2⟩
  exact h _ _ (F'.push _) (N'.push F' _) fun p hp => Heap.lt_size (N' p hp).1
end


abbrev strKey (P : Params) (x : PySem.Str) (t : Tok) (v : Value) : DictEntry := ⟨PyData.keyHash P x, .str x t, v⟩
/-- a Whitespace as it lies: its norm, its counts, itself, its names -/
abbrev wsObjs (P : Params) (C x dx tn tc : Addr) (ws : PySem.Str) (t tb tn' tnt k1 k2 k3 k4 k5 : Tok) (vs : List Value) (cnt : List Int) (b n nt : Int) : List (Addr × Obj) :=
  [(tn, tupO [.ref tc, .int b tb]), (tc, tupO vs), (x, instObj C dx),
   (dx, dictOf [strKey P "raw" k1 (.str ws t), strKey P "n" k2 (.int n tn'), strKey P "nt" k3 (.int nt tnt), strKey P "norm" k4 (.ref tn), strKey P "is_simple" k5 (.bool (decide ((cnt.length : Int) ≤ 1)))] 5)]
def AllNe (d : Nat) : List (Addr × Obj) → Prop
  | [] => True
  | p :: r => @Ne Nat p.1 d ∧ AllNe d r
theorem allNe_of {d : Addr} : ∀ {l : List (Addr × Obj)}, (∀ p ∈ l, p.1 ≠ d) → AllNe d l
  | [], _ => trivial
  | p :: _, h => ⟨h p (.head _), allNe_of fun q hq => h q (.tail _ hq)⟩
/-- the column of a lead that is told by its counts -/
def indIl (cnt : List Int) (size : Int) : Nat → Int
  | 0 => 0
  | k + 1 => indIl cnt size k + Int.fdiv (size + k) size * cnt.getD (size + k).toNat 0
def indent (cnt : List Int) (b nt size : Int) : Int := b + size * (indIl cnt size ((cnt.length : Int) - size).toNat + nt)


theorem bump_pos {cnt : List Int} {b : Int} (h : (cnt.length : Int) ≤ b) : (cnt ++ (List.replicate (b - cnt.length + 1).toNat [0]).flatten).set b.toNat ((cnt ++ (List.replicate (b - cnt.length + 1).toNat [0]).flatten).getD b.toNat 0 + 1) = bump cnt b := by
  unfold bump; rw [if_pos h]
theorem bump_neg {cnt : List Int} {b : Int} (h : ¬ (cnt.length : Int) ≤ b) : cnt.set b.toNat (cnt.getD b.toNat 0 + 1) = bump cnt b := by
  unfold bump; rw [if_neg h]
theorem has_of {h₀ g h : Heap} {L : Addr} {led : List (Addr × Obj)} (N : News g L h led) (hg : h₀.StaysIn g) : Has h₀ h led := fun q hq => ⟨(N q hq).1, by
  cases e : h₀.get? q.1 with
  | none => rfl
  | some o' =>
    have h1 := (N q hq).2.2
    rw [hg _ _ e] at h1
    cases h1⟩


theorem after_fr {h₀ h h' : Heap} {L : Addr} {m : PySem.Str → Option Value} {xs : List Addr} (F : Fr h₀ L h m) (hs : SB h h' xs) (hL : L ∉ xs) (h0 : ∀ b ∈ xs, h₀.get? b = none) : Fr h₀ L h' m := by
  obtain ⟨o, es, ep, ho, r⟩ := F.ns
  exact ⟨⟨o, es, ep, hs _ _ ho hL, r⟩, fun b o e => hs _ _ (F.keep b o e) (fun hb => by rw [h0 b hb] at e; cases e), F.above⟩
theorem after_news {h₀ h h' : Heap} {L : Addr} {news : List (Addr × Obj)} {xs : List Addr} (N : News h₀ L h news) (hs : SB h h' xs) (hn : ∀ p ∈ news, p.1 ∉ xs) : News h₀ L h' news :=
  fun p hp => ⟨hs _ _ (N p hp).1 (hn p hp), (N p hp).2⟩
theorem after_led {h₀ h' : Heap} {L : Addr} {led : List (Addr × Obj)} (H : Has h₀ h' led) (hL : ∀ q ∈ led, q.1 ≠ L) : News h₀ L h' led :=
  fun p hp => ⟨(H p hp).1, hL p hp, (H p hp).2⟩
theorem fr_ne {h₀ h : Heap} {L a : Addr} {m : PySem.Str → Option Value} (F : Fr h₀ L h m) (e : h.get? a = none) : a ≠ L := by
  obtain ⟨o, _, _, ho, _⟩ := F.ns
  rintro rfl
  rw [ho] at e; cases e
theorem news_ne {h₀ h : Heap} {L a : Addr} {news : List (Addr × Obj)} (N : News h₀ L h news) (e : h.get? a = none) : ∀ p ∈ news, p.1 ≠ a := by
  rintro p hp rfl
  rw [(N p hp).1] at e; cases e


theorem stays_of {h₀ h g h' : Heap} {L : Addr} {led : List (Addr × Obj)} (hs : SB h g (led.map (·.1))) (hn : Has h₀ h led) (k : ∀ b o, g.get? b = some o → h'.get? b = some o) (N : News g L h' led) : h.StaysIn h' := by
  intro b o e
  by_cases hb : b ∈ led.map (·.1)
  · obtain ⟨q, hq, rfl⟩ := List.mem_map.mp hb
    have h1 := (hn q hq).1
    rw [e] at h1
    rw [(N q hq).1, Option.some.inj h1]
  · exact k _ _ (hs _ _ e hb)
section
variable {prog : Program} {w : World} {A : Around} {E : Value → Shared → Prop} {s : Shared} {h₀ : Heap} {L l : Addr} {m : PySem.Str → Option Value} {news : List (Addr × Obj)}
theorem my_lenT {vs : List Value} {k : Nat} {Q : Value → Shared → Prop} (N : News h₀ L s.heap news) (hm : (l, tupO vs) ∈ news) (hz : vs.length = k) (hk : k ≤ 1000000)
    (h : Q (.int (k : Int) (s.toks + 1)) { s with toks := s.toks + 1 + 1 }) : wpAny (model prog w) A (call (.builtin "len") [.ref l]) Q E s := by
  have e : (vs.toArray.size : Int) = (k : Int) := by rw [List.size_toArray, hz]
  refine len_tuple (items := vs.toArray) ⟨_, (N _ hm).1, rfl, 0, rfl⟩ (by rw [e]; omega) ?_
  rw [e]; exact h
end


/-- a number's letters, sixteen of them, the first for nought -/
def apN (n : Nat) : List UInt8 := if _h : n = 0 then [] else apN (n / 16) ++ [UInt8.ofNat (65 + n % 16)]
termination_by n
decreasing_by omega
theorem apN_pos {n : Nat} (h : n ≠ 0) : apN n = apN (n / 16) ++ [UInt8.ofNat (65 + n % 16)] := by rw [apN, dif_neg h]
theorem apN_zero : apN 0 = [] := by rw [apN, dif_pos rfl]
abbrev APs : Array UInt8 := #[65, 66, 67, 68, 69, 70, 71, 72, 73, 74, 75, 76, 77, 78, 79, 80]
theorem ap_picked {i : Int} (h0 : 0 ≤ i) (h16 : i < 16) : KBy.picked APs (some i) (some (i + 1)) = #[UInt8.ofNat (65 + i.toNat)] := by
  have h : ∀ k : Fin 16, KBy.picked APs (some (k.val : Int)) (some ((k.val : Int) + 1)) = #[UInt8.ofNat (65 + k.val)] := by decide +kernel
  have := h ⟨i.toNat, by omega⟩
  simp only at this
  rw [Int.toNat_of_nonneg h0] at this
  exact this
section
variable {prog : Program} {w : World} {A : Around} {E : Value → Shared → Prop} {s : Shared} {value slice : PySem.Expr} {t ti ti2 : Tok} {h₀ : Heap} {L : Addr} {m : PySem.Str → Option Value} {news : List (Addr × Obj)} {Q : Value → Shared → Prop} {i : Int}
theorem ap_slice (hF : Fr h₀ L s.heap m) (hN : News h₀ L s.heap news) (h0 : 0 ≤ i) (h16 : i < 16)
    (h : ∀ h' t' k, Fr h₀ L h' m → News h₀ L h' news → Q (.bytes #[UInt8.ofNat (65 + i.toNat)] t') { s with heap := h', toks := k })
    (hs : subscripted slice false (.bytes APs t) (.ref s.heap.objs.size) = operate [.ref s.heap.objs.size, .bytes APs t] (getItem (.bytes APs t) (.ref s.heap.objs.size)) := by with_unfolding_all rfl)
    (ht : ∀ r, letTemporaryGo value (.bytes APs t) r = pure () := by intro _; with_unfolding_all rfl) :
    wpAny (model prog w) A (subscriptTail value slice (.bytes APs t) (.ref s.heap.objs.size)) Q E { s with heap := s.heap.push { cls := .type "slice", data := .fields #[.int i ti, .int (i + 1) ti2, .none] } } := by
  refine KBc.slice_K (ks := KBw.bInts APs) hF hN rfl (lo := some i) (hi := some (i + 1)) (by constructor) (by constructor) (by decide +kernel) (fun h' t' k F' N' _ => ?_) hs ht
  rw [ap_picked h0 h16]
  exact h h' t' k F' N'
end
end B0s
section GQs
theorem len_c {α : Type} {l : List α} {n : Nat} (h : l.length = n + 1) : ∃ a r, l = a :: r ∧ r.length = n := by
  cases l with
  | nil => cases h
  | cons a r => exact ⟨a, r, rfl, Nat.succ.inj h⟩
theorem len_c3 {α : Type} {l : List α} (h : l.length = 3) : ∃ a b c, l = [a, b, c] := by
  obtain ⟨a, r, rfl, h1⟩ := len_c h
  obtain ⟨b, r2, rfl, h2⟩ := len_c h1
  obtain ⟨c, r3, rfl, h3⟩ := len_c h2
  obtain rfl := List.eq_nil_of_length_eq_zero h3
  exact ⟨a, b, c, rfl⟩
/-- a name for what is asked behind the step -/
theorem genQ {α : Type} {M : Model} {A : Around} {t : Sem α} {Q₀ : α → Shared → Prop} {E : Value → Shared → Prop} {s : Shared}
    (h : ∀ Q : α → Shared → Prop, (∀ a s₂, Q₀ a s₂ → Q a s₂) → wpAny M A t Q E s) : wpAny M A t Q₀ E s := h Q₀ fun _ _ x => x
theorem genQE {α : Type} {M : Model} {A : Around} {t : Sem α} {Q₀ : α → Shared → Prop} {E₀ : Value → Shared → Prop} {s : Shared}
    (h : ∀ (Q : α → Shared → Prop) (E : Value → Shared → Prop), (∀ a s₂, Q₀ a s₂ → Q a s₂) → (∀ a s₂, E₀ a s₂ → E a s₂) → wpAny M A t Q E s) : wpAny M A t Q₀ E₀ s := h Q₀ E₀ (fun _ _ x => x) fun _ _ x => x
/-- a name for what is asked behind the second of two steps -/
theorem genF {α β : Type} {M : Model} {A A₂ : Around} {t : Sem α} {u : Sem β} {P₀ : β → Shared → Prop} {E E' : Value → Shared → Prop} {s : Shared}
    (h : ∀ P : β → Shared → Prop, (∀ f s₂, P₀ f s₂ → P f s₂) → wpAny M A t (fun _ s₂ => wpAny M A₂ u P E s₂) E' s) : wpAny M A t (fun _ s₂ => wpAny M A₂ u P₀ E s₂) E' s := h P₀ fun _ _ x => x
end GQs
section B1s
def PairAt (h : Heap) (v : Value) (p : PySem.Str × PySem.Str) : Prop := ∃ a t1 t2, v = .ref a ∧ h.get? a = some (tupO [.str p.1 t1, .str p.2 t2])
/-- a list's items are pairs of texts -/
def PairsAt (h : Heap) (vs : List Value) (tbl : List (PySem.Str × PySem.Str)) : Prop := vs.length = tbl.length ∧ ∀ (i : Nat) v, vs[i]? = some v → ∃ p, tbl[i]? = some p ∧ PairAt h v p
def notTup (led : List (Addr × Obj)) : Bool := led.all fun q => match q.2.cls with | .type "tuple" => false | _ => true
theorem PairAt.sub {h g : Heap} {v : Value} {p : PySem.Str × PySem.Str} {led : List (Addr × Obj)} (x : PairAt h v p) (hs : SB h g (led.map (·.1))) (hl : ∀ q ∈ led, h.get? q.1 = some q.2) (hn : notTup led = true) : PairAt g v p := by
  obtain ⟨a, t1, t2, rfl, ha⟩ := x
  refine ⟨a, t1, t2, rfl, hs _ _ ha fun hb => ?_⟩
  obtain ⟨q, hq, rfl⟩ := List.mem_map.mp hb
  have h1 := List.all_eq_true.mp hn q hq
  have h2 := hl q hq
  rw [ha] at h2
  rw [← Option.some.inj h2] at h1
  cases h1
theorem PairsAt.sub {h g : Heap} {vs : List Value} {tbl : List (PySem.Str × PySem.Str)} {led : List (Addr × Obj)} (x : PairsAt h vs tbl) (hs : SB h g (led.map (·.1))) (hl : ∀ q ∈ led, h.get? q.1 = some q.2) (hn : notTup led = true) : PairsAt g vs tbl :=
  ⟨x.1, fun i v e => let ⟨p, e2, y⟩ := x.2 i v e; ⟨p, e2, y.sub hs hl hn⟩⟩
theorem PairsAt.keeps {h g : Heap} {vs : List Value} {tbl : List (PySem.Str × PySem.Str)} (x : PairsAt h vs tbl) (k : ∀ b o, h.get? b = some o → g.get? b = some o) : PairsAt g vs tbl :=
  ⟨x.1, fun i v e => let ⟨p, e2, a, t1, t2, e3, e4⟩ := x.2 i v e; ⟨p, e2, a, t1, t2, e3, k _ _ e4⟩⟩
def cleanN (v : PySem.Str) : Prop := (∀ c ∈ v.cps.toList, 32 ≤ c ∧ c < 127) ∧ v.cps.size ≤ 1000000
def cleanV (v : PySem.Str) : Prop := (∀ c ∈ v.cps.toList, (32 ≤ c ∨ c = 9) ∧ c < 127) ∧ v.cps.size ≤ 1000000
theorem cleanN.ok {v : PySem.Str} (h : cleanN v) : ∀ c ∈ v.cps.toList, (32 ≤ c ∨ (true = false ∧ c = 9)) ∧ c < 127 := fun c hc => ⟨.inl (h.1 c hc).1, (h.1 c hc).2⟩
theorem cleanV.ok {v : PySem.Str} (h : cleanV v) : ∀ c ∈ v.cps.toList, (32 ≤ c ∨ (false = false ∧ c = 9)) ∧ c < 127 := fun c hc => ⟨(h.1 c hc).1.imp id fun e => ⟨rfl, e⟩, (h.1 c hc).2⟩


theorem sb_of {h₀ h g h' : Heap} {L : Addr} {led led' : List (Addr × Obj)} {xs : List Addr} (hs : SB h g (led.map (·.1))) (hn : Has h₀ h led) (k : ∀ b o, g.get? b = some o → h'.get? b = some o) (N : News g L h' led') (hx : ∀ q ∈ led, q.1 ∈ xs ∨ q ∈ led') : SB h h' xs := by
  intro b o e hb
  by_cases hb2 : b ∈ led.map (·.1)
  · obtain ⟨q, hq, rfl⟩ := List.mem_map.mp hb2
    have h1 := (hn q hq).1
    rw [e] at h1
    rcases hx q hq with h2 | h2
    · exact absurd h2 hb
    · rw [(N q h2).1, Option.some.inj h1]
  · exact k _ _ (hs _ _ e hb2)


theorem enterC {K : Frag} {prog : Program} {w : World} {s : Shared} {A : Around} {f : Addr} {args : Args} {name qual : PySem.Str} {params : Arguments} {body : List Stmt} {scope : Scope}
    {dV kV doc pm cdv ct oc : Value} {an od : Option Addr} {osl : Array (Option Value)} {binds : List (PySem.Str × Value)} {R : Result → Shared → Prop}
    {h₀ : Heap} {p : Program} {loose : List PySem.Str} {mean : ExcName → Option Value} {mg mb : PySem.Str → Option Value} {news : List (Addr × Obj)}
    (X : K.In h₀) (T : Top p loose mean mg mb h₀) (hk : h₀.StaysIn s.heap) (hn : ∀ q ∈ news, s.heap.get? q.1 = some q.2 ∧ h₀.get? q.1 = none)
    (ho : K.lookup f = some ⟨oc, od, .func (fnOf name qual params body scope dV kV doc pm an cdv ct), osl⟩) (hcd : codeIn K cdv qual = true) (hroom : A.depth < recursionLimit)
    (hbind : BindsTo s (fnOf name qual params body scope dV kV doc pm an cdv ct) args binds)
    (hkind : (binds.all fun y => scope.names.lookup y.1 == some .local || scope.names.lookup y.1 == some .cell) = true)
    (hnd : ((cellsFrom 0 scope.names []).map (·.1)).Nodup)
    (h : ∀ g L h₁ tk cells, h₀.StaysIn g → SB s.heap g (news.map (·.1)) → Fr g L h₁ (bindL (envOfC qual scope L f cdv).kindOf binds fun _ => none) → News g L h₁ (cells ++ news) →
      CellsAre (bindC (envOfC qual scope L f cdv).kindOf binds fun _ => none) (cellsFrom (L + 1) scope.names []) cells → K.In g → Top p loose mean mg mb g → (∀ p ∈ news, p.1 < L) →
      wpAny (model prog w) (A.deeper (envOfC qual scope L f cdv)) (execs body (envOfC qual scope L f cdv))
        (fun fl s' => R (.ok (.ret (match fl with | .ret v => v | _ => .none))) s') NoE { s with heap := h₁, toks := tk })
    (hco : scope.isCoroutine = false) (hgen : scope.isGenerator = false) (hkd : scope.kind = .function) :
    codeAny (model prog w) A (.call (.ref f) args) R s := by
  have Xs : K.In s.heap := X.keeps hk
  have nm : ∀ b o, h₀.get? b = some o → b ∉ news.map (·.1) := fun b o e q => by
    obtain ⟨p, hp, rfl⟩ := List.mem_map.mp q
    rw [(hn p hp).2] at e; cases e
  have st : h₀.StaysIn (hideAll s.heap (news.map (·.1))) := fun b o e => hideAll_get _ (hk b o e) (nm b o e)
  refine codeAny_call_function hroom (Xs _ _ ho) rfl hco hgen rfl (codeRec_of Xs hcd) (hbind _ _ _ _ ?_)
  refine wpAny_newFunctionEnv_cells hkd (kindsX hkind _) fun env' he s' x => ?_
  subst he
  refine ⟨(T.nolimit.keeps hk).keeps x.toInCall.keep, codeAny_func ?_⟩
  obtain ⟨h₁, tk, rfl, _⟩ := x.done
  have hk₁ := x.toInCall.keep
  obtain ⟨cells, NC, Y⟩ := Cl.news (h₀ := s.heap) (Nat.le_refl _) fun n c hm => ⟨x.cell n c (lookup_of_mem_nodup (cellsFrom_names scope.names 0 (s.heap.objs.size + 1) [] [] rfl ▸ hnd) hm), x.above n c hm⟩
  refine wpAny_mono (h (hideAll s.heap (news.map (·.1))) s.heap.objs.size h₁ tk cells st (fun b o e hb => hideAll_get _ e hb) ⟨x.toInCall.ns, fun b o e => hk₁ b o (of_hideAll _ e), Nat.le_of_eq (hideAll_size _ _)⟩ (fun p hp => ?_) Y (X.keeps fun b o e => st b o e) (T.keeps fun b o e => st b o e) (fun p hp => Heap.lt_size (hn p hp).1)) (fun fl s' hl => hl) fun _ _ y => y.elim
  rcases List.mem_append.mp hp with hp | hp
  · refine ⟨(NC p hp).1, (NC p hp).2.1, ?_⟩
    cases q : (hideAll s.heap (news.map (·.1))).get? p.1 with
    | none => rfl
    | some o => have := of_hideAll _ q; rw [(NC p hp).2.2] at this; cases this
  · exact ⟨hk₁ _ _ (hn p hp).1, Nat.ne_of_lt (Heap.lt_size (hn p hp).1), hideAll_none _ (List.mem_map_of_mem hp)⟩
end B1s
section B2s
open LCg
theorem cleanN.low {v : PySem.Str} (h : cleanN v) : v.length ≤ 5592405 := Nat.le_trans h.2 (Nat.le_of_ble_eq_true rfl)
section
variable {prog : Program} {w : World} {A : Around} {s : Shared} {h₀ : Heap} {L : Addr} {m : PySem.Str → Option Value} {env : Env}
/-- the turns of a comprehension with a test, by an invariant -/
theorem compT_J {ct elt : PySem.Expr} {x : PySem.Str} {scope : Scope} {cl : List (PySem.Str × Addr)} {S : List (Addr × Obj) → Prop} {P : Nat → Value → Prop} {Fin : List Value → List (Addr × Obj) → Prop} {n : Nat}
    (J : Nat → List Value → List (Addr × Obj) → Prop)
    (turn : ∀ i ys news v I oI C oC D m₂ h tk (E' : Value → Shared → Prop), J i ys news → i < n → P i v → NsObj oC m₂ → m₂ x = some v → Fr h₀ L h m → News h₀ L h ((I, oI) :: (C, oC) :: (D, lst ys) :: news) → Off3 I C D news → ((@Ne Nat I C) ∧ (@Ne Nat I D) ∧ (@Ne Nat C D)) →
      wpAny (model prog w) A (isTrue ct (compEnvC scope cl C env) (eval ct (compEnvC scope cl C env))) (fun ok s' => if ok = true then
        wpAny (model prog w) A (eval elt (compEnvC scope cl C env)) (CompEnd h₀ L m { s with heap := h, toks := tk } I oI C oC D (lst ys) S (fun y news' => Stop (J (i + 1) (ys ++ [y]) news'))) E' s'
        else CompEnd h₀ L m { s with heap := h, toks := tk } I oI C oC D (lst ys) S (fun _ news' => Stop (J (i + 1) ys news')) Value.none s') E' { s with heap := h, toks := tk })
    (done : ∀ ys news, J n ys news → Fin ys news) : ∀ k i ys news, i + k = n → J i ys news → LCt.CompRestT prog w A h₀ L m env ct elt x scope cl s S P Fin k i ys news
  | 0, i, ys, news, e, hJ => by
    obtain rfl : i = n := by omega
    exact done ys news hJ
  | k + 1, i, ys, news, e, hJ => by
    intro v I oI C oC D m₂ h tk E' hP hC hx F N o3 ne
    refine wpAny_mono (turn i ys news v I oI C oC D m₂ h tk E' hJ (by omega) hP hC hx F N o3 ne) (fun ok s' hq => ?_) fun _ _ y => y
    cases ok with
    | true =>
      simp only [if_true] at hq ⊢
      refine wpAny_mono hq (fun y s₂ hc => ?_) fun _ _ y => y
      obtain ⟨h', tk', news', e1, F', N', o', S', r⟩ := hc
      exact ⟨h', tk', news', e1, F', N', o', S', compT_J J turn done k (i + 1) _ _ (by omega) r⟩
    | false =>
      simp only [Bool.false_eq_true, if_false] at hq ⊢
      obtain ⟨h', tk', news', e1, F', N', o', S', r⟩ := hq
      exact ⟨h', tk', news', e1, F', N', o', S', compT_J J turn done k (i + 1) _ _ (by omega) r⟩
/-- the turns of a comprehension without a test, by an invariant -/
theorem compU_J {elt : PySem.Expr} {x : PySem.Str} {scope : Scope} {cl : List (PySem.Str × Addr)} {S : List (Addr × Obj) → Prop} {P : Nat → Value → Prop} {Fin : List Value → List (Addr × Obj) → Prop} {n : Nat}
    (J : Nat → List Value → List (Addr × Obj) → Prop)
    (turn : ∀ i ys news v I oI C oC D m₂ h tk (E' : Value → Shared → Prop), J i ys news → i < n → P i v → NsObj oC m₂ → m₂ x = some v → Fr h₀ L h m → News h₀ L h ((I, oI) :: (C, oC) :: (D, lst ys) :: news) → Off3 I C D news → ((@Ne Nat I C) ∧ (@Ne Nat I D) ∧ (@Ne Nat C D)) →
      wpAny (model prog w) A (eval elt (compEnvC scope cl C env)) (CompEnd h₀ L m { s with heap := h, toks := tk } I oI C oC D (lst ys) S (fun y news' => Stop (J (i + 1) (ys ++ [y]) news'))) E' { s with heap := h, toks := tk })
    (done : ∀ ys news, J n ys news → Fin ys news) : ∀ k i ys news, i + k = n → J i ys news → CompRest prog w A h₀ L m env elt x scope cl s S P Fin k i ys news
  | 0, i, ys, news, e, hJ => by
    obtain rfl : i = n := by omega
    exact done ys news hJ
  | k + 1, i, ys, news, e, hJ => by
    intro v I oI C oC D m₂ h tk E' hP hC hx F N o3 ne
    refine wpAny_mono (turn i ys news v I oI C oC D m₂ h tk E' hJ (by omega) hP hC hx F N o3 ne) (fun y s' hc => ?_) fun _ _ y => y
    obtain ⟨h', tk', news', e1, F', N', o', S', r⟩ := hc
    exact ⟨h', tk', news', e1, F', N', o', S', compU_J J turn done k (i + 1) _ _ (by omega) r⟩
/-- the same with a ledger that stays -/
theorem compT_K {ct elt : PySem.Expr} {x : PySem.Str} {scope : Scope} {cl : List (PySem.Str × Addr)} {S : List (Addr × Obj) → Prop} {P : Nat → Value → Prop} {Fin : List Value → List (Addr × Obj) → Prop} {n : Nat} {news : List (Addr × Obj)}
    (J : Nat → List Value → Prop)
    (turn : ∀ i ys v I oI C oC D m₂ h tk (E' : Value → Shared → Prop), J i ys → i < n → P i v → NsObj oC m₂ → m₂ x = some v → Fr h₀ L h m → News h₀ L h ((I, oI) :: (C, oC) :: (D, lst ys) :: news) → Off3 I C D news → ((@Ne Nat I C) ∧ (@Ne Nat I D) ∧ (@Ne Nat C D)) →
      wpAny (model prog w) A (isTrue ct (compEnvC scope cl C env) (eval ct (compEnvC scope cl C env))) (fun ok s' => if ok = true then
        wpAny (model prog w) A (eval elt (compEnvC scope cl C env)) (CompEnd h₀ L m { s with heap := h, toks := tk } I oI C oC D (lst ys) S (fun y news' => Stop (news' = news ∧ J (i + 1) (ys ++ [y])))) E' s'
        else CompEnd h₀ L m { s with heap := h, toks := tk } I oI C oC D (lst ys) S (fun _ news' => Stop (news' = news ∧ J (i + 1) ys)) Value.none s') E' { s with heap := h, toks := tk })
    (done : ∀ ys, J n ys → Fin ys news) (h0 : J 0 []) : LCt.CompRestT prog w A h₀ L m env ct elt x scope cl s S P Fin n 0 [] news :=
  compT_J (fun i ys nw => nw = news ∧ J i ys) (fun i ys nw v I oI C oC D m₂ h tk E' hJ hi hP hC hx F N o3 ne => by
    obtain ⟨rfl, hJ⟩ := hJ
    exact turn i ys v I oI C oC D m₂ h tk E' hJ hi hP hC hx F N o3 ne) (fun ys nw hJ => by obtain ⟨rfl, hJ⟩ := hJ; exact done ys hJ) n 0 [] news (Nat.zero_add _) ⟨rfl, h0⟩
theorem compU_K {elt : PySem.Expr} {x : PySem.Str} {scope : Scope} {cl : List (PySem.Str × Addr)} {S : List (Addr × Obj) → Prop} {P : Nat → Value → Prop} {Fin : List Value → List (Addr × Obj) → Prop} {n : Nat} {news : List (Addr × Obj)}
    (J : Nat → List Value → Prop)
    (turn : ∀ i ys v I oI C oC D m₂ h tk (E' : Value → Shared → Prop), J i ys → i < n → P i v → NsObj oC m₂ → m₂ x = some v → Fr h₀ L h m → News h₀ L h ((I, oI) :: (C, oC) :: (D, lst ys) :: news) → Off3 I C D news → ((@Ne Nat I C) ∧ (@Ne Nat I D) ∧ (@Ne Nat C D)) →
      wpAny (model prog w) A (eval elt (compEnvC scope cl C env)) (CompEnd h₀ L m { s with heap := h, toks := tk } I oI C oC D (lst ys) S (fun y news' => Stop (news' = news ∧ J (i + 1) (ys ++ [y])))) E' { s with heap := h, toks := tk })
    (done : ∀ ys, J n ys → Fin ys news) (h0 : J 0 []) : CompRest prog w A h₀ L m env elt x scope cl s S P Fin n 0 [] news :=
  compU_J (fun i ys nw => nw = news ∧ J i ys) (fun i ys nw v I oI C oC D m₂ h tk E' hJ hi hP hC hx F N o3 ne => by
    obtain ⟨rfl, hJ⟩ := hJ
    exact turn i ys v I oI C oC D m₂ h tk E' hJ hi hP hC hx F N o3 ne) (fun ys nw hJ => by obtain ⟨rfl, hJ⟩ := hJ; exact done ys hJ) n 0 [] news (Nat.zero_add _) ⟨rfl, h0⟩
end

/-- those items whose name is asked for -/
def fpair (q : PySem.Str → Bool) : List Value → List (PySem.Str × PySem.Str) → List Value
  | v :: vs, p :: ps => if q p.1 then v :: fpair q vs ps else fpair q vs ps
  | _, _ => []
theorem fpair_snoc {q : PySem.Str → Bool} {v : Value} {p : PySem.Str × PySem.Str} : ∀ {vs : List Value} {ps : List (PySem.Str × PySem.Str)}, vs.length = ps.length → fpair q (vs ++ [v]) (ps ++ [p]) = fpair q vs ps ++ (if q p.1 then [v] else [])
  | [], [], _ => by simp only [List.nil_append, fpair]
  | a :: vs, b :: ps, h => by
    have ih := fpair_snoc (q := q) (v := v) (p := p) (vs := vs) (ps := ps) (by simpa using h)
    show (if q b.1 then a :: fpair q (vs ++ [v]) (ps ++ [p]) else fpair q (vs ++ [v]) (ps ++ [p])) = (if q b.1 then a :: fpair q vs ps else fpair q vs ps) ++ _
    rw [ih]
    cases q b.1 <;> rfl
theorem fpair_take {q : PySem.Str → Bool} {i : Nat} {v : Value} {p : PySem.Str × PySem.Str} {vs : List Value} {ps : List (PySem.Str × PySem.Str)} (hl : vs.length = ps.length) (hv : vs[i]? = some v) (hp : ps[i]? = some p) :
    fpair q (vs.take (i + 1)) (ps.take (i + 1)) = fpair q (vs.take i) (ps.take i) ++ (if q p.1 then [v] else []) := by
  rw [List.take_add_one, List.take_add_one, hv, hp]
  exact fpair_snoc (by rw [List.length_take, List.length_take, hl])
theorem fpair_len {q : PySem.Str → Bool} : ∀ {vs : List Value} {ps : List (PySem.Str × PySem.Str)}, (fpair q vs ps).length ≤ vs.length
  | [], _ => Nat.le_of_eq (by simp only [fpair])
  | _ :: _, [] => by simp only [fpair]; exact Nat.zero_le _
  | v :: vs, p :: ps => by
    have ih := fpair_len (q := q) (vs := vs) (ps := ps)
    show (if q p.1 then v :: fpair q vs ps else fpair q vs ps).length ≤ vs.length + 1
    split
    · exact Nat.succ_le_succ ih
    · exact Nat.le_succ_of_le ih
theorem PairsAt.tail {h : Heap} {v : Value} {vs : List Value} {p : PySem.Str × PySem.Str} {ps : List (PySem.Str × PySem.Str)} (x : PairsAt h (v :: vs) (p :: ps)) : PairAt h v p ∧ PairsAt h vs ps := by
  refine ⟨?_, by simpa using x.1, fun i w e => ?_⟩
  · obtain ⟨p', e, y⟩ := x.2 0 v rfl
    exact Option.some.inj e ▸ y
  · exact x.2 (i + 1) w e
theorem PairsAt.cons {h : Heap} {v : Value} {vs : List Value} {p : PySem.Str × PySem.Str} {ps : List (PySem.Str × PySem.Str)} (y : PairAt h v p) (x : PairsAt h vs ps) : PairsAt h (v :: vs) (p :: ps) := by
  refine ⟨congrArg (· + 1) x.1, fun i w e => ?_⟩
  cases i with
  | zero => exact ⟨p, rfl, Option.some.inj e ▸ y⟩
  | succ i => exact x.2 i w e
theorem PairsAt.nil {h : Heap} : PairsAt h [] [] := ⟨rfl, fun i w e => by simp at e⟩
theorem PairsAt.app {h : Heap} : ∀ {vs ws : List Value} {ps qs : List (PySem.Str × PySem.Str)}, PairsAt h vs ps → PairsAt h ws qs → PairsAt h (vs ++ ws) (ps ++ qs)
  | [], _, [], _, _, y => y
  | _ :: _, _, _ :: _, _, x, y => PairsAt.cons x.tail.1 (PairsAt.app x.tail.2 y)
  | [], _, _ :: _, _, x, _ => absurd x.1 (by simp)
  | _ :: _, _, [], _, x, _ => absurd x.1 (by simp)
theorem PairsAt.filt {h : Heap} {q : PySem.Str → Bool} : ∀ {vs : List Value} {ps : List (PySem.Str × PySem.Str)}, PairsAt h vs ps → PairsAt h (fpair q vs ps) (ps.filter fun p => q p.1)
  | [], [], _ => PairsAt.nil
  | v :: vs, p :: ps, x => by
    have ih := PairsAt.filt (q := q) x.tail.2
    show PairsAt h (if q p.1 then v :: fpair q vs ps else fpair q vs ps) (List.filter (fun p => q p.1) (p :: ps))
    cases e : q p.1 with
    | true => rw [List.filter_cons_of_pos (by simpa using e)]; exact PairsAt.cons x.tail.1 ih
    | false => rw [List.filter_cons_of_neg (by simpa using e)]; exact ih
  | [], _ :: _, x => absurd x.1 (by simp)
  | _ :: _, [], x => absurd x.1 (by simp)
end B2s
section B3s
/-- a Headers as it lies -/
abbrev hdObjs (P : Params) (C x dx l : Addr) (k : Tok) (vs : List Value) (n : Nat) : List (Addr × Obj) :=
  [(x, instObj C dx), (dx, dictOf [strKey P "_headers" k (.ref l)] 1), (l, listOf vs.toArray n)]
section
variable {prog : Program} {w : World} {A : Around} {E : Value → Shared → Prop} {s : Shared}
theorem setItem_all {l sl d : Addr} {xs ys : Array Value} {n k : Nat} {Q : Unit → Shared → Prop} (hl : s.heap.get? l = some (seqObj "list" xs n)) (hd : s.heap.get? d = some (seqObj "list" ys k)) (hs : s.heap.IsSliceOf sl .none .none .none)
    (hx : xs.size ≤ 1000000) (hy : ys.size ≤ 1000000)
    (h : ∀ h' n', h'.get? l = some (seqObj "list" ys n') → (∀ b o, b ≠ l → s.heap.get? b = some o → h'.get? b = some o) → Q () { s with heap := h' }) :
    wpAny (model prog w) A (setItem (.ref l) (.ref sl) (.ref d)) Q E s := by
  have hL : s.heap.IsList l xs := ⟨_, hl, rfl, n, rfl⟩
  have hD : s.heap.IsList d ys := ⟨_, hd, rfl, k, rfl⟩
  obtain ⟨os, hos, hcs, hds⟩ := id hs
  have hTs : s.TypeIs (.ref sl) "slice" := ⟨os, hos, hcs⟩
  unfold setItem
  try with_reducible refine wpAny_holding ?_
  first | refine wpAny_bind (wpAny_pure ?_) | skip
  refine wpAny_bind (wpAny_sequenceKey hL.typeIs (by decide) ?_)
  refine wpAny_bind (wpAny_callSpecial?_slot (name := Str.ofString "__setitem__") hL.typeIs slot_list_setitem
    (wpAny_call_entry slot_list_setitem hL.typeIs entry_list_setitem ?_ (args_list_setitem _ _ _)))
  show wpAny _ _ (Builtin.List.listSubscript? (.ref sl) >>= _) _ _ s
  refine wpAny_bind ?_
  · unfold Builtin.List.listSubscript?
    refine wpAny_bind (wpAny_specialOf hTs slice_no_index ?_)
    simp only [Option.isNone_none, if_true]
    refine wpAny_pure ?_
    show wpAny _ _ (typeOf (.ref sl) >>= _) _ _ s
    refine wpAny_bind (wpAny_typeOf hTs ?_)
    rw [if_neg (by decide)]
    rw [listSliceParts_eq]
    refine wpAny_bind (wpAny_bind (wpAny_field hos hds (x := .none) rfl (wpAny_bind (wpAny_listPart .none ?_))))
    rw [if_neg (show ¬ ((rawPart none == rawInt 0) = true) from Bool.false_ne_true)]
    refine wpAny_bind (wpAny_field hos hds (x := .none) rfl (wpAny_bind (wpAny_listPart .none ?_)))
    refine wpAny_bind (wpAny_field hos hds (x := .none) rfl (wpAny_bind (wpAny_listPart .none (wpAny_pure ?_))))
    have hlt : ¬ (Builtin.List.listTooLong (xs.size + ys.size) = true) := by
      unfold Builtin.List.listTooLong
      rw [sizeLine_eq]
      simp only [decide_eq_true_eq]
      omega
    have e0 : (sliceBounds none none none xs.size) = (0, (xs.size : Int), 1) := rfl
    have em : (max (0 : Int) (xs.size : Int)).toNat = xs.size := by omega
    have ez : (xs.extract 0 (0 : Int).toNat ++ ys ++ xs.extract xs.size xs.size) = ys := by
      simp
    have ez2 : (xs.extract 0 (0 : Int).toNat ++ ys ++ xs.extract (max (0 : Int) (xs.size : Int)).toNat xs.size) = ys := by rw [em]; exact ez
    have fin : wpAny (model prog w) A.in1 (Builtin.List.listUpdate (.ref l) fun xs' => xs'.extract 0 (0 : Int).toNat ++ ys ++ xs'.extract (max (0 : Int) (xs.size : Int)).toNat xs'.size)
        (fun _ s' => Q () s') E s := by
      refine listUpdate_at hl rfl ?_ (by rw [sizeLine_eq]; omega) (by rw [ez2, sizeLine_eq]; omega)
      have q := get?_update_seq hl (fun xs' => xs'.extract 0 (0 : Int).toNat ++ ys ++ xs'.extract (max (0 : Int) (xs.size : Int)).toNat xs'.size)
      rw [ez2] at q
      exact h _ _ q fun b o hb e => (Heap.SameBut.update s.heap l _).extBut b o hb e
    split
    · refine wpAny_bind (listItems_at hd rfl ?_)
      refine wpAny_bind (listItems_at hl rfl ?_)
      refine wpAny_bind (wpAny_of_eq (sliceIndices_raw none none none xs.size (by simp)) ?_)
      rw [e0]
      dsimp only
      rw [if_pos (show ((1 : Int) == 1) = true from rfl)]
      refine wpAny_bind (wpAny_rule ?_)
      rw [if_neg hlt]
      refine wpAny_bind (wpAny_mono fin (fun _ s' hq => ?_) fun _ _ y => y)
      exact wpAny_bind (wpAny_letGo (wpAny_pure ⟨.none, rfl, wpAny_pure hq⟩))
    · refine wpAny_bind (m := Builtin.List.listAllItems (.ref d) "must assign iterable to extended slice") ?_
      unfold Builtin.List.listAllItems
      refine wpAny_bind (wpAny_typeOf hD.typeIs ?_)
      rw [if_pos (by decide)]
      refine listItems_at hd rfl ?_
      refine wpAny_bind (listItems_at hl rfl ?_)
      refine wpAny_bind (wpAny_of_eq (sliceIndices_raw none none none xs.size (by simp)) ?_)
      rw [e0]
      dsimp only
      rw [if_pos (show ((1 : Int) == 1) = true from rfl)]
      refine wpAny_bind (wpAny_rule ?_)
      rw [if_neg hlt]
      refine wpAny_bind (wpAny_mono fin (fun _ s' hq => ?_) fun _ _ y => y)
      exact wpAny_bind (wpAny_letGo (wpAny_pure ⟨.none, rfl, wpAny_pure hq⟩))
end
section
variable {prog : Program} {w : World} {A : Around} {E : Value → Shared → Prop} {s : Shared} {h₀ : Heap} {L : Addr} {m : PySem.Str → Option Value} {news : List (Addr × Obj)}
theorem setAll_K {l d : Addr} {xs ys : List Value} {n k : Nat} {Q : Unit → Shared → Prop} (rest : List (Addr × Obj)) (F : Fr h₀ L s.heap m) (N : News h₀ L s.heap news) (hl : (l, listOf xs.toArray n) ∈ news) (hd : (d, listOf ys.toArray k) ∈ news)
    (hr : ∀ p ∈ rest, p ∈ news ∧ p.1 ≠ l) (hx : xs.length ≤ 1000000) (hy : ys.length ≤ 1000000)
    (h : ∀ h' n', Fr h₀ L h' m → News h₀ L h' ((l, listOf ys.toArray n') :: rest) → Q () { s with heap := h' }) :
    wpAny (model prog w) A (setItem (.ref l) (.ref s.heap.objs.size) (.ref d)) Q E { s with heap := s.heap.push { cls := .type "slice", data := .fields #[.none, .none, .none] } } := by
  refine setItem_all (xs := xs.toArray) (ys := ys.toArray) (Heap.get?_push_of_some _ (N _ hl).1) (Heap.get?_push_of_some _ (N _ hd).1) (Heap.IsSliceOf.new ..) (by rw [List.size_toArray]; exact hx) (by rw [List.size_toArray]; exact hy) (fun h' n' e1 e2 => ?_)
  obtain ⟨e3, e4, e5⟩ := N _ hl
  have hs : SB s.heap h' [l] := fun b o e hb => e2 b o (fun q => hb (by rw [q]; exact .head _)) (Heap.get?_push_of_some _ e)
  refine h h' n' (after_fr F hs (fun q => e4 (List.mem_singleton.mp q).symm) (fun b hb => by rw [List.mem_singleton.mp hb]; exact e5)) (fun p hp => ?_)
  rcases List.mem_cons.mp hp with rfl | hp
  · exact ⟨e1, e4, e5⟩
  · exact after_news (fun q hq => N q (hr q hq).1 : News h₀ L s.heap rest) hs (fun q hq hb => (hr q hq).2 (List.mem_singleton.mp hb)) p hp
end
/-- a list's items are pairs of texts, by the ground or by the ledger -/
def PairsIn (h₀ : Heap) (led : List (Addr × Obj)) (vs : List Value) (tbl : List (PySem.Str × PySem.Str)) : Prop :=
  vs.length = tbl.length ∧ ∀ (i : Nat) v, vs[i]? = some v → ∃ p, tbl[i]? = some p ∧ ∃ a t1 t2, v = .ref a ∧ (h₀.get? a = some (tupO [.str p.1 t1, .str p.2 t2]) ∨ (a, tupO [.str p.1 t1, .str p.2 t2]) ∈ led)
theorem PairsIn.at {h₀ h : Heap} {L : Addr} {m : PySem.Str → Option Value} {led : List (Addr × Obj)} {vs : List Value} {tbl : List (PySem.Str × PySem.Str)} (x : PairsIn h₀ led vs tbl) (F : Fr h₀ L h m) (N : News h₀ L h led) : PairsAt h vs tbl :=
  ⟨x.1, fun i v e => by
    obtain ⟨p, e2, a, t1, t2, e3, e4⟩ := x.2 i v e
    refine ⟨p, e2, a, t1, t2, e3, ?_⟩
    rcases e4 with e4 | e4
    · exact F.keep _ _ e4
    · exact (N _ e4).1⟩
theorem PairsIn.nil {h₀ : Heap} {led : List (Addr × Obj)} : PairsIn h₀ led [] [] := ⟨rfl, fun i v e => by simp at e⟩
theorem PairsIn.cons {h₀ : Heap} {led : List (Addr × Obj)} {vs : List Value} {tbl : List (PySem.Str × PySem.Str)} {a : Addr} {t1 t2 : Tok} {p : PySem.Str × PySem.Str} (hm : (a, tupO [.str p.1 t1, .str p.2 t2]) ∈ led) (x : PairsIn h₀ led vs tbl) : PairsIn h₀ led (.ref a :: vs) (p :: tbl) := by
  refine ⟨congrArg (· + 1) x.1, fun i w e => ?_⟩
  cases i with
  | zero => exact ⟨p, rfl, a, t1, t2, (Option.some.inj e).symm, .inr hm⟩
  | succ i => exact x.2 i w e
theorem PairsIn.led {h₀ : Heap} {led led' : List (Addr × Obj)} {vs : List Value} {tbl : List (PySem.Str × PySem.Str)} (x : PairsIn h₀ led vs tbl) (hl : ∀ q ∈ led, q ∈ led') : PairsIn h₀ led' vs tbl :=
  ⟨x.1, fun i v e => let ⟨p, e2, a, t1, t2, e3, e4⟩ := x.2 i v e; ⟨p, e2, a, t1, t2, e3, e4.imp id (hl _)⟩⟩
theorem PairsIn.tail {h₀ : Heap} {led : List (Addr × Obj)} {v : Value} {vs : List Value} {p : PySem.Str × PySem.Str} {ps : List (PySem.Str × PySem.Str)} (x : PairsIn h₀ led (v :: vs) (p :: ps)) : (∃ a t1 t2, v = .ref a ∧ (h₀.get? a = some (tupO [.str p.1 t1, .str p.2 t2]) ∨ (a, tupO [.str p.1 t1, .str p.2 t2]) ∈ led)) ∧ PairsIn h₀ led vs ps := by
  refine ⟨?_, by simpa using x.1, fun i w e => ?_⟩
  · obtain ⟨p', e, y⟩ := x.2 0 v rfl
    exact Option.some.inj e ▸ y
  · exact x.2 (i + 1) w e
theorem PairsIn.cons' {h₀ : Heap} {led : List (Addr × Obj)} {v : Value} {vs : List Value} {p : PySem.Str × PySem.Str} {ps : List (PySem.Str × PySem.Str)} (y : ∃ a t1 t2, v = .ref a ∧ (h₀.get? a = some (tupO [.str p.1 t1, .str p.2 t2]) ∨ (a, tupO [.str p.1 t1, .str p.2 t2]) ∈ led)) (x : PairsIn h₀ led vs ps) : PairsIn h₀ led (v :: vs) (p :: ps) := by
  refine ⟨congrArg (· + 1) x.1, fun i w e => ?_⟩
  cases i with
  | zero => exact ⟨p, rfl, Option.some.inj e ▸ y⟩
  | succ i => exact x.2 i w e
theorem PairsIn.filt {h₀ : Heap} {led : List (Addr × Obj)} {q : PySem.Str → Bool} : ∀ {vs : List Value} {ps : List (PySem.Str × PySem.Str)}, PairsIn h₀ led vs ps → PairsIn h₀ led (fpair q vs ps) (ps.filter fun p => q p.1)
  | [], [], _ => PairsIn.nil
  | v :: vs, p :: ps, x => by
    have ih := PairsIn.filt (q := q) x.tail.2
    show PairsIn h₀ led (if q p.1 then v :: fpair q vs ps else fpair q vs ps) (List.filter (fun p => q p.1) (p :: ps))
    cases e : q p.1 with
    | true => rw [List.filter_cons_of_pos (by simpa using e)]; exact PairsIn.cons' x.tail.1 ih
    | false => rw [List.filter_cons_of_neg (by simpa using e)]; exact ih
  | [], _ :: _, x => absurd x.1 (by simp)
  | _ :: _, [], x => absurd x.1 (by simp)
theorem PairsIn.app {h₀ : Heap} {led : List (Addr × Obj)} : ∀ {vs ws : List Value} {ps qs : List (PySem.Str × PySem.Str)}, PairsIn h₀ led vs ps → PairsIn h₀ led ws qs → PairsIn h₀ led (vs ++ ws) (ps ++ qs)
  | [], _, [], _, _, y => y
  | _ :: _, _, _ :: _, _, x, y => PairsIn.cons' x.tail.1 (PairsIn.app x.tail.2 y)
  | [], _, _ :: _, _, x, _ => absurd x.1 (by simp)
  | _ :: _, _, [], _, x, _ => absurd x.1 (by simp)
/-- what a table says to a name in small letters -/
def tget (tbl : List (PySem.Str × PySem.Str)) (low : PySem.Str) : Option PySem.Str := (tbl.find? fun p => Txt.lower p.1 == low).map (·.2)
theorem none_of {h g : Heap} {xs : List Addr} {D : Addr} (hs : SB h g xs) (e : g.get? D = none) (hb : D ∉ xs) : h.get? D = none := by
  cases q : h.get? D with
  | none => rfl
  | some o => rw [hs _ _ q hb] at e; cases e
section
variable {M : Model} {A : Around} {E : Value → Shared → Prop} {s : Shared} {K : Frag} {x C L f : Addr} {h₀ : Heap} {m : PySem.Str → Option Value} {ox : Obj} {od : Option Obj} {i v : Value}
theorem my_delItem {Q : Unit → Shared → Prop} (F : Fr h₀ L s.heap m) (X₀ : K.In h₀) (I : InstAt s.heap x ox C od) (hq : noSeq K C = true) (hs : findIn K (.ref C) "__delitem__" = some (some (.ref f))) (hf : isFn K (.ref f) = true)
    (h : wpAny M A (call (.ref f) [.ref x, i]) (fun _ s' => Q () s') E s) : wpAny M A (delItem (.ref x) i) Q E s := by
  have X := X₀.keeps F.keep
  unfold delItem sequenceKey
  refine wpAny_holding (wpAny_bind (wpAny_bind (I.type.here ?_)))
  refine wpAny_bind ((anyM_none X hq).here ?_)
  rw [if_pos (show (!false) = true from rfl)]
  exact wpAny_pure (wpAny_bind (special_fn X I hs (beq_iff_eq.mp hf) (wpAny_mono h (fun _ _ z => wpAny_pure z) fun _ _ z => z)))
end
end B3s
section DCs
open Builtin
section
variable {b : Array UInt8} {c : UInt8} {cs : List UInt8} {t : Tok} {x : PySem.Str} {n : Nat}
theorem dc_road {id : String} : _codecs.decodeRoad id b (PySem.Str.ofString "ascii") none [] = (_codecs.runDecoder id _codecs.asciiDecoder none true b 0 [] >>= fun r => mkStr ⟨r.1⟩) := by kernel_rfl
theorem dc_entry {t1 : Tok} : «bytes.decode» ⟨[.bytes (c :: cs).toArray t, .str (PySem.Str.ofString "ascii") t1], []⟩ = (mkStr (PySem.Str.ofString "utf-8") >>= fun _ => mkStr (PySem.Str.ofString "ascii") >>= fun e => mkStr (PySem.Str.ofString "bytes.decode") >>= fun d =>
    call (.builtin "_codecs.decode.text") [.bytes (c :: cs).toArray t, e, .none, d] >>= fun v => ret v) := by kernel_rfl
theorem dc_args (a b : Value) : argsOk "bytes.decode" ⟨[a, b], []⟩ := by
  unfold argsOk; rw [signature?_of (id := "bytes.decode") (n := ['e', 'd', 'o', 'c', 'e', 'd']) (o := ['s', 'e', 't', 'y', 'b']) (by kernel_rfl) FB.owner_bytes]; kernel_rfl
theorem dc_loop {σ : Type} {f : Nat → (Nat × Array Nat × σ) → Sem (ForInStep (Nat × Array Nat × σ))} (b : List UInt8)
    (hf : ∀ x p out st, p < b.length → out.size ≤ p → f x (p, out, st) = pure (.yield (p + 1, out ++ [((b[p]?).getD 0).toNat].toArray, st))) :
    ∀ k a p out (st : σ), p + k = b.length → out.size ≤ p → forIn (List.range' a k) (p, out, st) f = (pure (b.length, out ++ ((b.drop p).map (·.toNat)).toArray, st) : Sem _)
  | 0, a, p, out, st, e, ho => by
    obtain rfl : p = b.length := by omega
    simp only [List.range'_zero, List.forIn_nil, List.drop_length, List.map_nil, Array.append_empty]
  | k + 1, a, p, out, st, e, ho => by
    rw [List.range'_succ, List.forIn_cons, hf a p out st (by omega) ho]
    have hp : p < b.length := by omega
    have hd : b.drop p = b[p] :: b.drop (p + 1) := List.drop_eq_getElem_cons hp
    rw [LawfulMonad.pure_bind]
    dsimp only
    rw [dc_loop b hf k (a + 1) (p + 1) _ st (by omega) (by rw [Array.size_append]; simp; omega), hd, List.map_cons]
    congr 2
    simp [hp]
theorem dc_run {id : String} {b : List UInt8} (h : ∀ c ∈ b, c.toNat < 128) (hz : b.length ≤ 1000000) : _codecs.runDecoder id _codecs.asciiDecoder none true b.toArray 0 [] = pure ((b.map (·.toNat)).toArray, b.length) := by
  unfold _codecs.runDecoder
  simp only [Std.Legacy.Range.forIn_eq_forIn_range', Std.Legacy.Range.size]
  rw [dc_loop b ?hf ((b.toArray.size - 0 + 1 - 1) / 1) 0 0 #[] _ (by simp) (by simp)]
  case hf =>
    intro x p out st hp ho
    have h1 : ¬ (out.size > sizeLine) := by rw [sizeLine_eq]; omega
    have h2 : ¬ (p ≥ b.toArray.size) := by simpa using hp
    dsimp only
    rw [if_neg h1, if_neg h2]
    have h3 : (b.toArray.getD p 0).toNat < 128 := by
      have : b.toArray.getD p 0 = b[p] := by simp [hp]
      rw [this]
      exact h _ (List.getElem_mem hp)
    have h4 : _codecs.asciiDecoder.find true b.toArray p = .text [(b.toArray.getD p 0).toNat] (p + 1) := by
      show (if (b.toArray.getD p 0).toNat < 128 then _ else _) = _
      rw [if_pos h3]; rfl
    rw [h4]
    simp [hp]
  · rw [LawfulMonad.pure_bind]
    simp
theorem dc_text {b : List UInt8} {t1 t2 : Tok} {d : PySem.Str} (h : ∀ c ∈ b, c.toNat < 128) (hz : b.length ≤ 1000000) :
    Meets («_codecs.decode.text» ⟨[.bytes b.toArray t, .str (PySem.Str.ofString "ascii") t1, .none, .str d t2], []⟩) (fun _ R s => R (.ok (.ret (.str ⟨(b.map (·.toNat)).toArray⟩ s.toks))) { s with toks := s.toks + 1 }) := by
  refine .of_wp fun prog w A R s hS => ?_
  show wpAny _ _ (Bytes.bytesLike _ (.bytes b.toArray t) >>= fun r => _) _ _ s
  refine wpAny_bind (wpAny_of_eq KBd.like_eq ?_)
  refine wpAny_bind (wpAny_of_eq KBd.held_eq ?_)
  show wpAny _ _ (_codecs.decodeRoad _ b.toArray (PySem.Str.ofString "ascii") none [] >>= fun v => _) _ _ s
  rw [dc_road, dc_run h hz]
  refine wpAny_bind (wpAny_bind (wpAny_pure ?_))
  exact wpAny_mkStr (wpAny_pure ⟨_, rfl, hS⟩) (by show ((b.map (·.toNat)).toArray).size ≤ sizeLine; rw [sizeLine_eq, List.size_toArray, List.length_map]; omega)
theorem dc_decode {t1 : Tok} (h : ∀ k ∈ c :: cs, k.toNat < 128) (hz : (c :: cs).length ≤ 1000000) :
    Meets («bytes.decode» ⟨[.bytes (c :: cs).toArray t, .str (PySem.Str.ofString "ascii") t1], []⟩) (fun _ R s => ∀ t' k, R (.ok (.ret (.str ⟨((c :: cs).map (·.toNat)).toArray⟩ t'))) { s with toks := k }) := by
  refine .of_wp fun prog w A R s hS => ?_
  rw [dc_entry]
  refine wpAny_bind (wpAny_mkStr ?_ (by decide))
  refine wpAny_bind (wpAny_mkStr ?_ (by decide))
  refine wpAny_bind (wpAny_mkStr ?_ (by decide))
  exact wpAny_bind (call_function_meets KBd.kind_text KBd.plain_text KBd.entry_text (KBd.args_text _ _ _ _) (dc_text h hz) (wpAny_pure ⟨_, rfl, hS _ _⟩))
end
section
variable {prog : Program} {w : World} {A : Around} {E : Value → Shared → Prop} {s : Shared} {bs : List UInt8} {t t1 : Tok} {Q : Value → Shared → Prop}
/-- bytes.decode('ascii') -/
theorem dc_call (h0 : bs ≠ []) (h : ∀ k ∈ bs, k.toNat < 128) (hz : bs.length ≤ 1000000) (hQ : ∀ t' k, Q (.str ⟨(bs.map (·.toNat)).toArray⟩ t') { s with toks := k }) :
    wpAny (model prog w) A (call (.builtin "bytes.decode") [.bytes bs.toArray t, .str (PySem.Str.ofString "ascii") t1]) Q E s := by
  cases bs with
  | nil => exact absurd rfl h0
  | cons c cs => exact call_meets FB.slot_bytes_decode (typeIs_bytes _ _ _) FB.entry_bytes_decode (dc_args _ _) (dc_decode h hz) hQ
end
end DCs
section B4s
theorem apN_ne {n : Nat} (h : n ≠ 0) : apN n ≠ [] := by rw [apN_pos h]; simp
theorem apN_mem (n : Nat) : ∀ k ∈ apN n, 65 ≤ k.toNat ∧ k.toNat ≤ 80 := by
  induction n using Nat.strongRecOn with
  | ind n ih =>
    intro k hk
    by_cases h : n = 0
    · rw [h, apN_zero] at hk; cases hk
    · rw [apN_pos h] at hk
      rcases List.mem_append.mp hk with hk | hk
      · exact ih (n / 16) (by omega) k hk
      · rw [List.mem_singleton.mp hk, UInt8.toNat_ofNat']
        omega
theorem apN_lt (n : Nat) : ∀ k ∈ apN n, k.toNat < 128 := fun k hk => by have := apN_mem n k hk; omega
theorem apN_len : ∀ (d n : Nat), n < 16 ^ d → (apN n).length ≤ d
  | 0, n, h => by
    obtain rfl : n = 0 := by simpa using h
    rw [apN_zero]; exact Nat.le_refl _
  | d + 1, n, h => by
    by_cases h0 : n = 0
    · rw [h0, apN_zero]; exact Nat.zero_le _
    · rw [apN_pos h0, List.length_append]
      have h2 : n / 16 < 16 ^ d := by
        rw [Nat.pow_succ] at h
        omega
      have := apN_len d (n / 16) h2
      simp only [List.length_singleton]
      omega
theorem cleanN_of {v : PySem.Str} (h : (v.cps.toList.all (fun c => decide (32 ≤ c) && decide (c < 127)) && decide (v.cps.size ≤ 1000000)) = true) : cleanN v := by
  rw [Bool.and_eq_true, List.all_eq_true] at h
  refine ⟨fun c hc => ?_, of_decide_eq_true h.2⟩
  have := h.1 c hc
  rw [Bool.and_eq_true] at this
  exact ⟨of_decide_eq_true this.1, of_decide_eq_true this.2⟩
theorem cleanV_of {v : PySem.Str} (h : cleanN v) : cleanV v := ⟨fun c hc => ⟨.inl (h.1 c hc).1, (h.1 c hc).2⟩, h.2⟩
/-- a number's word -/
def apT (n : Nat) : PySem.Str := ⟨((apN n).map (·.toNat)).toArray⟩
end B4s
section B5s
open LCg
section
variable {prog : Program} {w : World} {A : Around} {s : Shared} {h₀ : Heap} {L : Addr} {m : PySem.Str → Option Value} {env : Env}
end
theorem compEnd_one {h₀ h' : Heap} {L I C D T : Addr} {m : PySem.Str → Option Value} {s₁ : Shared} {oI oC oD oT : Obj} {S : List (Addr × Obj) → Prop} {rest : Value → List (Addr × Obj) → Prop} {y : Value} {tk : Nat} {base : List (Addr × Obj)}
    (F : Fr h₀ L h' m) (N : News h₀ L h' ((T, oT) :: (I, oI) :: (C, oC) :: (D, oD) :: base)) (o3 : Off3 I C D base) (h1 : @LT.lt Nat _ I T) (h2 : @LT.lt Nat _ C T) (h3 : @LT.lt Nat _ D T) (hS : S (base ++ [(T, oT)])) (r : rest y (base ++ [(T, oT)])) :
    CompEnd h₀ L m s₁ I oI C oC D oD S rest y { s₁ with heap := h', toks := tk } := by
  refine CompEnd.intro F N _ (fun p hp => ?_) (Off3.of fun p hp => ?_) hS r
  · rcases List.mem_cons.mp hp with rfl | hp
    · exact .tail _ (.head _)
    rcases List.mem_cons.mp hp with rfl | hp
    · exact .tail _ (.tail _ (.head _))
    rcases List.mem_cons.mp hp with rfl | hp
    · exact .tail _ (.tail _ (.tail _ (.head _)))
    rcases List.mem_append.mp hp with hp | hp
    · exact .tail _ (.tail _ (.tail _ (.tail _ hp)))
    · rw [List.mem_singleton.mp hp]; exact .head _
  · rcases List.mem_append.mp hp with hp | hp
    · exact o3.mem p hp
    · rw [List.mem_singleton.mp hp]; exact ⟨Nat.ne_of_gt h1, Nat.ne_of_gt h2, Nat.ne_of_gt h3⟩
theorem compEnd_none {h₀ h' : Heap} {L I C D : Addr} {m : PySem.Str → Option Value} {s₁ : Shared} {oI oC oD : Obj} {S : List (Addr × Obj) → Prop} {rest : Value → List (Addr × Obj) → Prop} {y : Value} {tk : Nat} {base : List (Addr × Obj)}
    (F : Fr h₀ L h' m) (N : News h₀ L h' ((I, oI) :: (C, oC) :: (D, oD) :: base)) (o3 : Off3 I C D base) (hS : S base) (r : rest y base) :
    CompEnd h₀ L m s₁ I oI C oC D oD S rest y { s₁ with heap := h', toks := tk } := CompEnd.intro F N _ (fun p hp => hp) o3 hS r
section
variable {prog : Program} {w : World} {A : Around} {E : Value → Shared → Prop} {s : Shared} {value slice : PySem.Expr} {t u : Tok} {i : Int} {Q : Value → Shared → Prop}
end
section
variable {prog : Program} {w : World} {A : Around} {E : Value → Shared → Prop} {s : Shared} {h₀ : Heap} {L : Addr} {m : PySem.Str → Option Value} {news : List (Addr × Obj)}
/-- a change of one object, seen by the ledger -/
theorem led_change {h' : Heap} {l : Addr} {o o' : Obj} {rest : List (Addr × Obj)} (F : Fr h₀ L s.heap m) (N : News h₀ L s.heap news) (hl : (l, o) ∈ news) (e1 : h'.get? l = some o') (e2 : ∀ b q, b ≠ l → s.heap.get? b = some q → h'.get? b = some q)
    (hr : ∀ p ∈ rest, p ∈ news ∧ p.1 ≠ l) : Fr h₀ L h' m ∧ News h₀ L h' ((l, o') :: rest) := by
  obtain ⟨e3, e4, e5⟩ := N _ hl
  have hs : SB s.heap h' [l] := fun b q e hb => e2 b q (fun z => hb (by rw [z]; exact .head _)) e
  refine ⟨after_fr F hs (fun q => e4 (List.mem_singleton.mp q).symm) (fun b hb => by rw [List.mem_singleton.mp hb]; exact e5), fun p hp => ?_⟩
  rcases List.mem_cons.mp hp with rfl | hp
  · exact ⟨e1, e4, e5⟩
  · exact after_news (fun q hq => N q (hr q hq).1 : News h₀ L s.heap rest) hs (fun q hq hb => (hr q hq).2 (List.mem_singleton.mp hb)) p hp
end
def AllTup (l : List (Addr × Obj)) : Prop := ∀ p ∈ l, p.2.cls = .type "tuple"
theorem AllTup.nil : AllTup [] := fun _ h => nomatch h
theorem AllTup.one {l : List (Addr × Obj)} {T : Addr} {o : Obj} (h : AllTup l) (e : o.cls = .type "tuple") : AllTup (l ++ [(T, o)]) := fun p hp => by
  rcases List.mem_append.mp hp with hp | hp
  · exact h p hp
  · rw [List.mem_singleton.mp hp]; exact e
theorem AllTup.app {l r : List (Addr × Obj)} (h : AllTup l) (h2 : AllTup r) : AllTup (l ++ r) := fun p hp => by
  rcases List.mem_append.mp hp with hp | hp
  · exact h p hp
  · exact h2 p hp
theorem AllTup.ne {h₀ h : Heap} {L l : Addr} {news tups : List (Addr × Obj)} {xs : Array Value} {n : Nat} (x : AllTup tups) (N : News h₀ L h news) (hs : ∀ p ∈ tups, p ∈ news) (hl : (l, listOf xs n) ∈ news) : ∀ p ∈ tups, p.1 ≠ l := by
  intro p hp e
  have h1 := (N p (hs p hp)).1
  rw [e, (N _ hl).1] at h1
  have h2 := x p hp
  rw [← Option.some.inj h1] at h2
  exact absurd (show Value.type "list" = Value.type "tuple" from h2) (by decide)
end B5s
section B6s
section
variable {prog : Program} {w : World} {A : Around} {E : Value → Shared → Prop} {s : Shared}
end
end B6s
section B7s
/-- what a tree of comparisons gives, if they are told by lt -/
def kRun {α : Type} (lt : Nat → Nat → Bool) : KasT α → α
  | .ret a => a
  | .ask i j k => kRun lt (k (lt i j))
/-- all its questions are about two of the first n -/
def kOk {α : Type} (n : Nat) : KasT α → Bool
  | .ret _ => true
  | .ask i j k => decide (i < n) && decide (j < n) && decide (i ≠ j) && kOk n (k true) && kOk n (k false)
def lt2 (a b : Bool) : Nat → Nat → Bool
  | 0, _ => a
  | _, _ => b
def lt3 (a b c d e f : Bool) : Nat → Nat → Bool
  | 0, 1 => a
  | 0, _ => b
  | 1, 0 => c
  | 1, _ => d
  | _, 0 => e
  | _, _ => f
def ok3 (a b c d e f : Bool) : Bool := !(a && c) && !(b && e) && !(d && f) && (a || d || !b) && (b || f || !a) && (c || b || !d) && (d || e || !c) && (e || a || !f) && (f || c || !e)
def good3 (lt : Nat → Nat → Bool) (l : List Nat) : Bool := decide (l.Perm [0, 1, 2]) && decide (l.Pairwise fun i j => lt j i = false)
end B7s
section B8s
/-- which of two pairs is the less -/
def ltP (a : Nat → Int) (eqS ltS : Nat → Nat → Bool) (i j : Nat) : Bool := if a i = a j then (!(eqS i j) && ltS i j) else decide (a i < a j)
section
variable {prog : Program} {w : World} {A : Around} {E : Value → Shared → Prop} {s : Shared} {h₀ : Heap} {L : Addr} {m : PySem.Str → Option Value} {news : List (Addr × Obj)}
end
end B8s
section B9s
/-- the order of pairs of numbers -/
def lexP (a r : Nat → Int) (i j : Nat) : Bool := decide (a i < a j ∨ (a i = a j ∧ r i < r j))
/-- the order in which items stand once sorted -/
def SortedBy (n : Nat) (lt : Nat → Nat → Bool) (ks : List Nat) : Prop := ks.Perm (List.range n) ∧ ks.Pairwise fun i j => lt j i = false
theorem SortedBy.congr {n : Nat} {lt lt' : Nat → Nat → Bool} {ks : List Nat} (h : SortedBy n lt ks) (hc : ∀ i j, i < n → j < n → i ≠ j → lt i j = lt' i j) : SortedBy n lt' ks := by
  refine ⟨h.1, ?_⟩
  have hnd : ks.Nodup := (h.1.nodup_iff).mpr List.nodup_range
  have hm : ∀ i ∈ ks, i < n := fun i hi => List.mem_range.mp ((h.1.mem_iff).mp hi)
  have h2 : ks.Pairwise fun i j => lt j i = false ∧ i ≠ j := h.2.and hnd
  refine h2.imp_of_mem fun {i j} hi hj hq => ?_
  rw [← hc j i (hm j hj) (hm i hi) (Ne.symm hq.2)]
  exact hq.1
section
variable {prog : Program} {w : World} {A : Around} {E : Value → Shared → Prop} {s : Shared}
end
end B9s
section C1s
/-- pairs of a cost and a place, kept in the ledger -/
def CostAt (c : Nat → Int) (tups : List (Addr × Obj)) (ys : List Value) (ks : List Nat) : Prop :=
  ys.length = ks.length ∧ ∀ (j k : Nat), ks[j]? = some k → ∃ (q : Addr) (t u : Tok), ys[j]? = some (Value.ref q) ∧ (q, tupO [.int (c k) t, .int (k : Int) u]) ∈ tups
theorem CostAt.nil {c : Nat → Int} : CostAt c [] [] [] := ⟨rfl, fun j k e => by simp at e⟩
theorem CostAt.one {c : Nat → Int} {tups : List (Addr × Obj)} {ys : List Value} {ks : List Nat} {k : Nat} {q : Addr} {t u : Tok} {o : Obj} (x : CostAt c tups ys ks) (e : o = tupO [.int (c k) t, .int (k : Int) u]) : CostAt c (tups ++ [(q, o)]) (ys ++ [.ref q]) (ks ++ [k]) := by
  refine ⟨by simp [x.1], fun j k' h => ?_⟩
  by_cases hj : j < ks.length
  · rw [List.getElem?_append_left hj] at h
    obtain ⟨q', t', u', e1, e2⟩ := x.2 j k' h
    exact ⟨q', t', u', by rw [List.getElem?_append_left (by rw [x.1]; exact hj)]; exact e1, List.mem_append_left _ e2⟩
  · rw [List.getElem?_append_right (by omega)] at h
    have hj0 : j - ks.length = 0 := by
      by_cases h0 : j - ks.length = 0
      · exact h0
      · rw [List.getElem?_eq_none (by simp; omega)] at h; cases h
    rw [hj0] at h
    obtain rfl : k = k' := Option.some.inj h
    refine ⟨q, t, u, ?_, List.mem_append_right _ (by rw [e]; exact .head _)⟩
    rw [List.getElem?_append_right (by rw [x.1]; omega), x.1, hj0]
    rfl
theorem CostAt.pick {c : Nat → Int} {tups : List (Addr × Obj)} {ys : List Value} {ks : List Nat} (x : CostAt c tups ys ks) : ∃ t u : Nat → Tok, ∀ i, i < ys.length → ∃ q, ys[i]? = some (.ref q) ∧ (q, tupO [.int (c (ks.getD i 0)) (t i), .int ((ks.getD i 0 : Nat) : Int) (u i)]) ∈ tups := by
  have h : ∀ i, ∃ tu : Tok × Tok, i < ys.length → ∃ q, ys[i]? = some (.ref q) ∧ (q, tupO [.int (c (ks.getD i 0)) tu.1, .int ((ks.getD i 0 : Nat) : Int) tu.2]) ∈ tups := by
    intro i
    by_cases hi : i < ys.length
    · have hk : i < ks.length := by rw [← x.1]; exact hi
      obtain ⟨q, t, u, e1, e2⟩ := x.2 i ks[i] (List.getElem?_eq_getElem hk)
      refine ⟨(t, u), fun _ => ⟨q, e1, ?_⟩⟩
      rw [List.getD_eq_getElem?_getD, List.getElem?_eq_getElem hk]
      exact e2
    · exact ⟨(default, default), fun h => absurd h hi⟩
  obtain ⟨f, hf⟩ := Classical.axiomOfChoice h
  exact ⟨fun i => (f i).1, fun i => (f i).2, hf⟩
section
variable {prog : Program} {w : World} {A : Around} {E : Value → Shared → Prop} {s : Shared} {h₀ : Heap} {L : Addr} {m : PySem.Str → Option Value} {news : List (Addr × Obj)}
theorem my_append {l : Addr} {xs : List Value} {n : Nat} {v : Value} {Q : Value → Shared → Prop} (rest : List (Addr × Obj)) (F : Fr h₀ L s.heap m) (N : News h₀ L s.heap news) (hl : (l, listOf xs.toArray n) ∈ news)
    (hr : ∀ p ∈ rest, p ∈ news ∧ p.1 ≠ l) (hx : xs.length ≤ 1000000)
    (h : ∀ h' n', Fr h₀ L h' m → News h₀ L h' ((l, listOf (xs ++ [v]).toArray n') :: rest) → Q .none { s with heap := h' }) :
    wpAny (model prog w) A (call (.builtin "list.append") [.ref l, v]) Q E s := by
  have z := N _ hl
  refine wpAny_call_entry PySem.F.slot_list_append ⟨_, z.1, rfl⟩ PySem.F.entry_list_append ?_ (PySem.F.args_list_append_2 _ _)
  show wpAny _ _ (updateSeq l (·.push v) >>= fun _ => ret .none) _ _ s
  refine wpAny_bind ?_
  refine wpAny_updateSeq z.1 rfl (wpAny_pure ⟨.none, rfl, ?_⟩) (hz := by rw [sizeLine_eq, List.size_toArray]; omega) (_hz' := by rw [sizeLine_eq, Array.size_push, List.size_toArray]; omega)
  have q := get?_update_seq (c := "list") z.1 (fun a => a.push v)
  obtain ⟨F', N'⟩ := led_change (rest := rest) F N hl q (fun b o hb e => (Heap.SameBut.update s.heap l _).extBut b o hb e) hr
  have e : xs.toArray.push v = (xs ++ [v]).toArray := by simp
  rw [e] at N'
  exact h _ _ F' N'
end
end C1s
section EQs
theorem strOk_low {x : PySem.Str} (h : ∀ c ∈ x.cps.toList, c < 1114112) : PyData.strOk x = true := by
  unfold PyData.strOk
  rw [Array.all_eq_true']
  intro c hc
  exact decide_eq_true (h c (Array.mem_toList_iff.mpr hc))
/-- a table of pairs, as data -/
def pdata (p : PySem.Str × PySem.Str) : PyData := .tuple [.str p.1, .str p.2]
section
variable {prog : Program} {w : World} {A : Around} {E : Value → Shared → Prop} {s : Shared}
end
end EQs
section SCs
open LCg
section
variable {prog : Program} {w : World} {A : Around} {E : Value → Shared → Prop} {s : Shared} {h₀ : Heap} {L : Addr} {m : PySem.Str → Option Value} {env : Env}
/-- a text as the source of a comprehension -/
def SrcS (prog : Program) (w : World) (A : Around) (h₀ : Heap) (L : Addr) (m : PySem.Str → Option Value) (env : Env) (elt : PySem.Expr) (x : PySem.Str) (scope : Scope) (cl : List (PySem.Str × Addr)) (Fin : Shared → List Value → List (Addr × Obj) → Prop) (xv : Value) (s₁ : Shared) : Prop :=
  ∃ ws t news, xv = .str ws t ∧ ws.cps.all (· < 128) = true ∧ A.handled = none ∧ Fr h₀ L s₁.heap m ∧ News h₀ L s₁.heap news ∧ ws.cps.size ≤ sizeLine ∧
    ∀ g, CompRest prog w A h₀ L m env elt x scope cl { s₁ with heap := g } (fun _ => True) (fun i v => ∃ c u, ws.cps[i]? = some c ∧ v = .str ⟨#[c]⟩ u) (Fin { s₁ with heap := g }) ws.cps.size 0 [] news
end
end SCs
section LDs
/-- runs of blanks, each with a tab behind it -/
def tabs : List Nat → List Nat
  | [] => []
  | c :: r => List.replicate c 32 ++ 9 :: tabs r
theorem tabs_app : ∀ a b : List Nat, tabs (a ++ b) = tabs a ++ tabs b
  | [], _ => rfl
  | c :: r, b => by
    show List.replicate c 32 ++ 9 :: tabs (r ++ b) = (List.replicate c 32 ++ 9 :: tabs r) ++ tabs b
    rw [tabs_app r b]; simp
theorem tabs_len : ∀ cs : List Nat, (tabs cs).length = cs.sum + cs.length
  | [] => rfl
  | c :: r => by
    show (List.replicate c 32 ++ 9 :: tabs r).length = _
    rw [List.length_append, List.length_cons, List.length_replicate, tabs_len r, List.sum_cons, List.length_cons]
    omega
theorem tabs_mem : ∀ (cs : List Nat), ∀ c ∈ tabs cs, c = 32 ∨ c = 9
  | [], _, h => nomatch h
  | k :: r, c, h => by
    rcases List.mem_append.mp (show c ∈ List.replicate k 32 ++ 9 :: tabs r from h) with h | h
    · exact .inl (List.eq_of_mem_replicate h)
    · rcases List.mem_cons.mp h with h | h
      · exact .inr h
      · exact tabs_mem r c h
theorem wsRun_blanks (r : List Nat) (cnt : List Int) (nt : Int) : ∀ (k : Nat) (b n : Int), wsRun (List.replicate k 32 ++ r) cnt b n nt = wsRun r cnt (b + (k : Int)) (n + (k : Int)) nt
  | 0, b, n => by simp
  | k + 1, b, n => by
    rw [List.replicate_succ, List.cons_append]
    show (if 32 = 32 then wsRun (List.replicate k 32 ++ r) cnt (b + 1) (n + 1) nt else _) = _
    rw [if_pos rfl, wsRun_blanks r cnt nt k]
    congr 1 <;> omega
def counts (cnt : List Int) (cs : List Nat) : List Int := cs.foldl (fun c (b : Nat) => bump c (b : Int)) cnt
theorem wsRun_tabs (r : List Nat) : ∀ (cs : List Nat) (cnt : List Int) (n nt : Int), wsRun (tabs cs ++ r) cnt 0 n nt = wsRun r (counts cnt cs) 0 (n + ((cs.sum + cs.length : Nat) : Int)) (nt + (cs.length : Int))
  | [], cnt, n, nt => by
    show wsRun r cnt 0 n nt = wsRun r cnt 0 (n + 0) (nt + 0)
    rw [Int.add_zero, Int.add_zero]
  | c :: cs, cnt, n, nt => by
    show wsRun ((List.replicate c 32 ++ 9 :: tabs cs) ++ r) cnt 0 n nt = _
    rw [List.append_assoc, wsRun_blanks]
    show (if 9 = 32 then _ else if 9 = 9 then wsRun (tabs cs ++ r) (bump cnt (0 + (c : Int))) 0 (n + (c : Int) + 1) (nt + 1) else _) = _
    rw [if_neg (by decide), if_pos rfl, wsRun_tabs r cs, Int.zero_add]
    show wsRun r (counts (bump cnt (c : Int)) cs) 0 _ _ = wsRun r (counts (bump cnt (c : Int)) cs) 0 _ _
    rw [List.sum_cons, List.length_cons]
    congr 1 <;> omega
/-- the column of all the counts up to n -/
def full (cnt : List Int) (z : Nat) : Nat → Int
  | 0 => 0
  | n + 1 => full cnt z n + ((n / z : Nat) : Int) * cnt.getD n 0
theorem full_stop {cnt : List Int} {z : Nat} : ∀ {n : Nat}, cnt.length ≤ n → full cnt z n = full cnt z cnt.length
  | 0, h => by rw [show cnt.length = 0 by omega]
  | n + 1, h => by
    by_cases e : cnt.length = n + 1
    · rw [e]
    · show full cnt z n + _ = _
      rw [full_stop (n := n) (by omega), List.getD_eq_getElem?_getD, List.getElem?_eq_none (by omega)]
      simp
theorem full_low {cnt : List Int} {z : Nat} : ∀ {n : Nat}, n ≤ z → full cnt z n = 0
  | 0, _ => rfl
  | n + 1, h => by
    show full cnt z n + _ = 0
    rw [full_low (by omega), Nat.div_eq_of_lt (by omega)]
    simp
theorem indIl_full {cnt : List Int} {z : Nat} (hz : 1 ≤ z) : ∀ k : Nat, indIl cnt (z : Int) k = full cnt z (z + k)
  | 0 => (full_low (Nat.le_refl _)).symm
  | k + 1 => by
    show indIl cnt (z : Int) k + Int.fdiv ((z : Int) + (k : Int)) (z : Int) * cnt.getD ((z : Int) + (k : Int)).toNat 0 = full cnt z (z + k) + _
    rw [indIl_full hz k, show ((z : Int) + (k : Int)) = ((z + k : Nat) : Int) by omega]
    rw [show Int.fdiv ((z + k : Nat) : Int) (z : Int) = (((z + k) / z : Nat) : Int) from (Int.ofNat_fdiv _ _).symm]
    rfl
theorem indent_full {cnt : List Int} {b nt : Int} {z : Nat} (hz : 1 ≤ z) : indent cnt b nt (z : Int) = b + (z : Int) * (full cnt z cnt.length + nt) := by
  unfold indent
  rw [indIl_full hz]
  by_cases h : cnt.length ≤ z
  · rw [show ((cnt.length : Int) - (z : Int)).toNat = 0 by omega, full_low (by omega), full_low h]
  · rw [show z + ((cnt.length : Int) - (z : Int)).toNat = cnt.length by omega]
theorem zeros_get : ∀ (k i : Nat), ((List.replicate k [(0 : Int)]).flatten)[i]?.getD 0 = 0
  | 0, i => by simp
  | k + 1, 0 => by rw [List.replicate_succ]; rfl
  | k + 1, i + 1 => by
    rw [List.replicate_succ, List.flatten_cons]
    have := zeros_get k i
    simpa using this
theorem bump_get {cnt : List Int} {b : Nat} (i : Nat) : (bump cnt (b : Int)).getD i 0 = cnt.getD i 0 + (if i = b then 1 else 0) := by
  unfold bump
  dsimp only
  generalize hc : (if (cnt.length : Int) ≤ (b : Int) then cnt ++ (List.replicate ((b : Int) - cnt.length + 1).toNat [(0 : Int)]).flatten else cnt) = c
  have h1 : ∀ i, c.getD i 0 = cnt.getD i 0 := by
    intro i
    rw [← hc]
    split
    · rw [List.getD_eq_getElem?_getD, List.getD_eq_getElem?_getD]
      by_cases hi : i < cnt.length
      · rw [List.getElem?_append_left hi]
      · rw [List.getElem?_append_right (by omega), zeros_get, List.getElem?_eq_none (by omega : cnt.length ≤ i)]
        rfl
    · rfl
  have h2 : b < c.length := by
    rw [← hc]
    split
    · rw [List.length_append, flat_len]; omega
    · omega
  rw [show ((b : Int)).toNat = b from Int.toNat_natCast b, List.getD_eq_getElem?_getD, List.getElem?_set]
  by_cases e : b = i
  · subst e
    rw [if_pos rfl, if_pos h2, if_pos rfl, ← h1 b]
    rfl
  · rw [if_neg e, if_neg (fun q => e q.symm), ← List.getD_eq_getElem?_getD, h1 i]
    omega
theorem full_bump {cnt : List Int} {b z : Nat} : ∀ n : Nat, full (bump cnt (b : Int)) z n = full cnt z n + (if b < n then ((b / z : Nat) : Int) else 0)
  | 0 => by simp [full]
  | n + 1 => by
    show full (bump cnt (b : Int)) z n + ((n / z : Nat) : Int) * (bump cnt (b : Int)).getD n 0 = full cnt z n + ((n / z : Nat) : Int) * cnt.getD n 0 + _
    rw [full_bump n, bump_get]
    by_cases e : n = b
    · subst e
      rw [if_neg (Nat.lt_irrefl _), if_pos rfl, if_pos (Nat.lt_succ_self _), Int.mul_add]
      omega
    · rw [if_neg e, Int.add_zero]
      by_cases h : b < n
      · rw [if_pos h, if_pos (by omega)]; omega
      · rw [if_neg h, if_neg (by omega)]; omega
theorem full_counts {z : Nat} : ∀ (cs : List Nat) (cnt : List Int), full (counts cnt cs) z (counts cnt cs).length = full cnt z cnt.length + (((cs.map (· / z)).sum : Nat) : Int)
  | [], cnt => by show full cnt z cnt.length = full cnt z cnt.length + 0; omega
  | c :: r, cnt => by
    show full (counts (bump cnt (c : Int)) r) z (counts (bump cnt (c : Int)) r).length = _
    rw [full_counts r, List.map_cons, List.sum_cons]
    have e : full (bump cnt (c : Int)) z (bump cnt (c : Int)).length = full cnt z cnt.length + ((c / z : Nat) : Int) := by
      have h1 := full_stop (cnt := bump cnt (c : Int)) (z := z) (n := (bump cnt (c : Int)).length + cnt.length + c + 1) (by omega)
      have h2 := full_stop (cnt := cnt) (z := z) (n := (bump cnt (c : Int)).length + cnt.length + c + 1) (by omega)
      rw [← h1, full_bump, if_pos (by omega), h2]
    rw [e]
    omega
/-- the column of a lead -/
def lcol (cs : List Nat) (z : Nat) : Nat := z * ((cs.map (· / z)).sum + cs.length)
theorem indent_tabs {cs : List Nat} {b : Int} {z : Nat} (hz : 1 ≤ z) : indent (counts [] cs) b (cs.length : Int) (z : Int) = b + ((lcol cs z : Nat) : Int) := by
  rw [indent_full hz, full_counts]
  unfold lcol
  show b + (z : Int) * (0 + (((cs.map (· / z)).sum : Nat) : Int) + (cs.length : Int)) = _
  rw [Int.zero_add, Int.natCast_mul, Int.natCast_add]
/-- texts, by their signs -/
theorem mul_list (n : Nat) : (Txt.mul " " (n : Int)).cps.toList = List.replicate n 32 := by
  unfold Txt.mul
  by_cases h0 : n = 0
  · subst h0; rw [if_pos (by decide)]; rfl
  rw [if_neg (by omega)]
  have key : ∀ (k : Nat) (acc : Array Nat), ((List.replicate k (" " : PySem.Str).cps).foldl (· ++ ·) acc).toList = acc.toList ++ List.replicate k 32 := by
    intro k
    induction k with
    | zero => intro acc; simp
    | succ k ih =>
      intro acc
      rw [List.replicate_succ, List.foldl_cons, ih, List.replicate_succ]
      have : (" " : PySem.Str).cps = #[32] := by decide +kernel
      rw [this]
      simp
  by_cases h1 : n = 1
  · subst h1; rw [if_pos (by decide +kernel)]; decide +kernel
  · rw [if_neg (by
      have : ((" " : PySem.Str).length == 0) = false := by decide +kernel
      rw [this]; simp; omega)]
    show ((List.replicate (n : Int).toNat (" " : PySem.Str).cps).foldl (· ++ ·) #[]).toList = _
    rw [Int.toNat_natCast, key]
    rfl
theorem app_list (a b : PySem.Str) : (a ++ b).cps.toList = a.cps.toList ++ b.cps.toList := by
  show (a.cps ++ b.cps).toList = _
  simp
theorem join_list0 (ys : List PySem.Str) : (Txt.join "" ys).cps.toList = (ys.map (·.cps.toList)).flatten := by
  show (Builtin.Str.glued "" ys).cps.toList = _
  rw [StrLaws.glued_eq_join]
  induction ys with
  | nil => rfl
  | cons a r ih =>
    cases r with
    | nil => show a.cps.toList = _; simp
    | cons b r =>
      show (a ++ "" ++ PySem.Str.join "" (b :: r)).cps.toList = _
      rw [app_list, app_list, ih]
      have : ("" : PySem.Str).cps.toList = [] := by decide +kernel
      rw [this]
      simp
theorem str_of_list {x : PySem.Str} {l : List Nat} (h : x.cps.toList = l) : x = ⟨l.toArray⟩ := by
  cases x with
  | mk c => rw [← h]
/-- how a turn of a while may end, told by frame and ledger -/
def WLEnd (s : Shared) (h₀ : Heap) (L : Addr) (J : Nat → (PySem.Str → Option Value) → List (Addr × Obj) → Prop) (k : Nat) (Q : Flow → Shared → Prop) (f : Flow) (s₃ : Shared) : Prop :=
  match f with
  | .ret v => Q (.ret v) s₃
  | .brk => Q .next s₃
  | _ => ∃ h tk m news k', s₃ = { s with heap := h, toks := tk } ∧ Fr h₀ L h m ∧ News h₀ L h news ∧ k' < k ∧ J k' m news
section
variable {prog : Program} {w : World} {A : Around} {s : Shared} {env : Env} {Q : Flow → Shared → Prop}
end
end LDs
section BYs
open LCg
section
variable {prog : Program} {w : World} {A : Around} {s : Shared} {env : Env} {Q : Flow → Shared → Prop}
end
section
variable {prog : Program} {w : World} {A : Around} {E : Value → Shared → Prop} {s : Shared} {h₀ : Heap} {L : Addr} {m : PySem.Str → Option Value} {env : Env}
/-- bytes as the source of a comprehension with a test -/
def SrcB (prog : Program) (w : World) (A : Around) (h₀ : Heap) (L : Addr) (m : PySem.Str → Option Value) (env : Env) (ct elt : PySem.Expr) (x : PySem.Str) (scope : Scope) (cl : List (PySem.Str × Addr)) (Fin : Shared → List Value → List (Addr × Obj) → Prop) (xv : Value) (s₁ : Shared) : Prop :=
  ∃ bs t news, xv = .bytes bs t ∧ A.handled = none ∧ Fr h₀ L s₁.heap m ∧ News h₀ L s₁.heap news ∧ bs.size ≤ sizeLine ∧
    ∀ g, LCt.CompRestT prog w A h₀ L m env ct elt x scope cl { s₁ with heap := g } (fun _ => True) (fun i v => ∃ c u, bs[i]? = some c ∧ v = .int (c.toNat : Int) u) (Fin { s₁ with heap := g }) bs.size 0 [] news
end
/-- the number of a word -/
def apVal : List UInt8 → Int → Int
  | [], n => n
  | c :: r, n => apVal r (16 * n + (c.toNat : Int) - 65)
theorem apVal_app : ∀ (a b : List UInt8) (n : Int), apVal (a ++ b) n = apVal b (apVal a n)
  | [], _, _ => rfl
  | _ :: r, b, n => apVal_app r b _
theorem apVal_ap (n : Nat) : apVal (apN n) 0 = (n : Int) := by
  induction n using Nat.strongRecOn with
  | ind n ih =>
    by_cases h : n = 0
    · rw [h, apN_zero]; rfl
    · rw [apN_pos h, apVal_app, ih (n / 16) (by omega)]
      show 16 * ((n / 16 : Nat) : Int) + ((UInt8.ofNat (65 + n % 16)).toNat : Int) - 65 = _
      rw [UInt8.toNat_ofNat']
      omega
end BYs
section EKs
/-- a call of a function that gathers keywords, of which none are given -/
theorem enterK {K : Frag} {prog : Program} {w : World} {s : Shared} {A : Around} {f : Addr} {args : Args} {name qual : PySem.Str} {params : Arguments} {body : List Stmt} {scope : Scope}
    {dV kV doc pm cdv ct oc : Value} {an od : Option Addr} {osl : Array (Option Value)} {binds : Addr → List (PySem.Str × Value)} {R : Result → Shared → Prop}
    {h₀ : Heap} {p : Program} {loose : List PySem.Str} {mean : ExcName → Option Value} {mg mb : PySem.Str → Option Value} {news : List (Addr × Obj)}
    (X : K.In h₀) (T : Top p loose mean mg mb h₀) (hk : h₀.StaysIn s.heap) (hn : ∀ q ∈ news, s.heap.get? q.1 = some q.2 ∧ h₀.get? q.1 = none)
    (ho : K.lookup f = some ⟨oc, od, .func (fnOf name qual params body scope dV kV doc pm an cdv ct), osl⟩) (hcd : codeIn K cdv qual = true) (hroom : A.depth < recursionLimit)
    (hb : bindArgs (fnOf name qual params body scope dV kV doc pm an cdv ct) args = (alloc { cls := .type "dict", data := .dict #[] } >>= fun d => pure (binds d))) (hloc : ∀ d, ∀ y ∈ binds d, scope.names.lookup y.1 = some .local)
    (h : ∀ g L h₁ D, h₀.StaysIn g → SB s.heap g (news.map (·.1)) → s.heap.get? D = none → Fr g L h₁ (fun y => (binds D).reverse.lookup y) → News g L h₁ ((D, { cls := .type "dict", data := .dict #[] }) :: news) → (∀ q ∈ news, q.1 < D) → (D == sysModules) = false → @Eq Nat D s.heap.objs.size → K.In g → Top p loose mean mg mb g →
      wpAny (model prog w) (A.deeper (envOf qual scope L f cdv)) (execs body (envOf qual scope L f cdv))
        (fun fl s' => R (.ok (.ret (match fl with | .ret v => v | _ => .none))) s') NoE { s with heap := h₁, toks := s.toks + (binds D).length })
    (hco : scope.isCoroutine = false) (hgen : scope.isGenerator = false) (hkd : scope.kind = .function) (hcell : ∀ x ∈ scope.names, x.2 ≠ .cell) :
    codeAny (model prog w) A (.call (.ref f) args) R s := by
  have Xs : K.In s.heap := X.keeps hk
  have hD0 : s.heap.get? s.heap.objs.size = none := by
    cases e : s.heap.get? s.heap.objs.size with
    | none => rfl
    | some o => exact absurd (Heap.lt_size e) (Nat.lt_irrefl _)
  refine codeAny_call_function (fd := fnOf name qual params body scope dV kV doc pm an cdv ct) (body := body) hroom (Xs _ _ ho) rfl hco hgen rfl (codeRec_of Xs hcd) ?_
  rw [hb]
  refine wpAny_bind (wpAny_alloc (wpAny_pure ?_))
  generalize hH : s.heap.push { cls := .type "dict", data := .dict #[] } = H
  have old : ∀ b o, s.heap.get? b = some o → H.get? b = some o := fun b o e => hH ▸ Heap.get?_push_of_some _ e
  have hDH : H.get? s.heap.objs.size = some { cls := .type "dict", data := .dict #[] } := hH ▸ Heap.get?_push_size _ rfl
  have hk' : h₀.StaysIn H := fun b o e => old b o (hk b o e)
  have hn' : ∀ q ∈ (s.heap.objs.size, ({ cls := .type "dict", data := .dict #[] } : Obj)) :: news, H.get? q.1 = some q.2 ∧ h₀.get? q.1 = none := by
    intro q hq
    rcases List.mem_cons.mp hq with rfl | hq
    · refine ⟨hDH, ?_⟩
      cases e : h₀.get? s.heap.objs.size with
      | none => rfl
      | some o => rw [hk _ _ e] at hD0; cases hD0
    · exact ⟨old _ _ (hn q hq).1, (hn q hq).2⟩
  generalize hN : (s.heap.objs.size, ({ cls := .type "dict", data := .dict #[] } : Obj)) :: news = news' at hn'
  have nm : ∀ b o, h₀.get? b = some o → b ∉ news'.map (·.1) := fun b o e q => by
    obtain ⟨p, hp, rfl⟩ := List.mem_map.mp q
    rw [(hn' p hp).2] at e; cases e
  have st : h₀.StaysIn (hideAll H (news'.map (·.1))) := fun b o e => hideAll_get _ (hk' b o e) (nm b o e)
  refine wpAny_newFunctionEnv hcell (hloc _) (fun h₁ hns hsb => ⟨(T.nolimit.keeps hk').fresh _ hsb, codeAny_func ?_⟩) hkd
  have hk₁ : ∀ b o, H.get? b = some o → h₁.get? b = some o := fun b o e => hsb.extBut b o (Nat.ne_of_lt (Heap.lt_size e)) (Heap.get?_push_of_some _ e)
  refine wpAny_mono (h (hideAll H (news'.map (·.1))) _ h₁ s.heap.objs.size st (fun b o e hb' => hideAll_get _ (old b o e) ?_) hD0 ⟨hns, fun b o e => hk₁ b o (of_hideAll _ e), Nat.le_of_eq (hideAll_size _ _)⟩ ?_ (fun q hq => Heap.lt_size (hn q hq).1) (beq_eq_false_iff_ne.mpr (Nat.ne_of_gt (modules_low (T.nolimit.keeps hk)))) rfl (X.keeps fun b o e => st b o e) (T.keeps fun b o e => st b o e)) (fun fl s' hq => hq) fun _ _ e => e.elim
  · rw [← hN, List.map_cons]
    intro q
    rcases List.mem_cons.mp q with q | q
    · rw [q, hD0] at e; cases e
    · exact hb' q
  · rw [hN]
    intro q hq
    exact ⟨hk₁ _ _ (hn' q hq).1, Nat.ne_of_lt (Heap.lt_size (hn' q hq).1), hideAll_none _ (List.mem_map_of_mem hq)⟩
theorem empty_dict {prog : Program} {w : World} : (dictOf [] 0 : Obj).IsDictOf (PySem.strKind prog w) [] :=
  ⟨#[], 0, ⟨rfl, rfl, rfl⟩, rfl, fun e he => absurd he (by simp), Pairs.nil, List.nodup_nil⟩
section
variable {prog : Program} {w : World} {A : Around} {s : Shared} {env : Env} {Q : Flow → Shared → Prop} {h₀ : Heap}
/-- over the items of a dict that has none -/
theorem for_items0 {target : PySem.Expr} {body : List Stmt} {vw D : Addr} {m : PySem.Str → Option Value} {news : List (Addr × Obj)} (hh : A.handled = none) (F : Fr h₀ env.locals s.heap m) (N : News h₀ env.locals s.heap news)
    (hv : s.heap.IsItemsView vw D) (hD : (D, (dictOf [] 0 : Obj)) ∈ news)
    (done : ∀ h tk, Fr h₀ env.locals h m → News h₀ env.locals h news → Q .next { s with heap := h, toks := tk }) :
    wpAny (model prog w) A (pyIter (.ref vw)) (ForOn prog w A target body env Q) NoE s := by
  obtain ⟨ep, hat⟩ := (kda_dict N hD (empty_dict (prog := prog) (w := w))).dictAt
  refine wpAny_pyIter_items (knd := PySem.strKind prog w) hv hat ?_
  refine codeAny_forLoop_any (fun _ s' => s' = { s with heap := s.heap.push { cls := .type "dict_itemiterator", data := .fields #[.none, .bool false, .ref D, .int 0 0, .int ([] : List (PySem.Str × Value)).length 0, .int ep 0, .none, .none] } }) ?_ 0 rfl
  rintro n s' rfl
  refine wpAny_pyNext_items_end (knd := PySem.strKind prog w) (kvs := []) hh (Heap.get?_push_size _ rfl) (hat.push _) rfl fun h' hx => ?_
  dsimp only
  refine wpAny_execs_nil ?_
  have old : ∀ b o, s.heap.get? b = some o → h'.get? b = some o := fun b o e => hx _ _ (Nat.ne_of_lt (Heap.lt_size e)) (Heap.get?_push_of_some _ e)
  exact done h' s.toks (F.keeps old) (N.grown old)
end
end EKs
section SRs
section
variable {prog : Program} {w : World} {A : Around} {E : Value → Shared → Prop} {s : Shared} {h₀ : Heap} {L a : Addr} {m : PySem.Str → Option Value} {news : List (Addr × Obj)} {vs : List Value}
end
/-- a rank among three texts -/
def rank3 (x : Nat → PySem.Str) (i : Nat) : Int := (if (x 0).cps.toList < (x i).cps.toList then 1 else 0) + (if (x 1).cps.toList < (x i).cps.toList then 1 else 0) + (if (x 2).cps.toList < (x i).cps.toList then 1 else 0)
/-- three in their order -/
def Three (a : Nat → Int) (k0 k1 k2 : Nat) : Prop := [k0, k1, k2].Perm [0, 1, 2] ∧ a k0 ≤ a k1 ∧ a k1 ≤ a k2
section
variable {prog : Program} {w : World} {A : Around} {E : Value → Shared → Prop} {s : Shared} {h₀ : Heap} {L l : Addr} {m : PySem.Str → Option Value} {news : List (Addr × Obj)}
end
end SRs
section TXs
theorem strs_snoc {x : PySem.Str} {t : Tok} : ∀ {ys : List Value} {xs : List PySem.Str}, StrsAre ys xs → StrsAre (ys ++ [.str x t]) (xs ++ [x])
  | _, _, .nil => .cons _ _ .nil
  | _, _, .cons a b h => .cons a b (strs_snoc h)
theorem all_take {q : PySem.Str × PySem.Str → Bool} {tbl : List (PySem.Str × PySem.Str)} {i : Nat} {p : PySem.Str × PySem.Str} {ys : List Value} {t : Tok} (hi : tbl[i]? = some p) (e : q p = true) (h : StrsAre ys (((tbl.take i).filter q).map (·.2))) :
    StrsAre (ys ++ [.str p.2 t]) (((tbl.take (i + 1)).filter q).map (·.2)) := by
  rw [List.take_add_one, hi, List.filter_append, List.map_append]
  have : ((some p).toList.filter q).map (·.2) = [p.2] := by simp [e]
  rw [this]
  exact strs_snoc h
theorem all_skip {q : PySem.Str × PySem.Str → Bool} {tbl : List (PySem.Str × PySem.Str)} {i : Nat} {p : PySem.Str × PySem.Str} {ys : List Value} (hi : tbl[i]? = some p) (e : q p = false) (h : StrsAre ys (((tbl.take i).filter q).map (·.2))) :
    StrsAre ys (((tbl.take (i + 1)).filter q).map (·.2)) := by
  rw [List.take_add_one, hi, List.filter_append, List.map_append]
  have : ((some p).toList.filter q).map (·.2) = [] := by simp [e]
  rw [this, List.append_nil]
  exact h
end TXs
section PCs
open LCg LCp
section
variable {prog : Program} {w : World} {A : Around} {s : Shared} {h₀ : Heap} {L : Addr} {m : PySem.Str → Option Value} {env : Env}
/-- the turns of a comprehension over pairs, by an invariant, over a ledger that stays -/
theorem compP_K {elt : PySem.Expr} {x x₂ : PySem.Str} {scope : Scope} {cl : List (PySem.Str × Addr)} {S : List (Addr × Obj) → Prop} {P : Nat → Value → Prop} {Fin : List Value → List (Addr × Obj) → Prop} {n : Nat} {news : List (Addr × Obj)}
    (W : Nat → Value → Value → Prop) (J : Nat → List Value → Prop)
    (src : ∀ i v, i < n → P i v → ∃ (t : Addr) (ot : Obj) (v₁ v₂ : Value) (nt : Nat), v = .ref t ∧ (t, ot) ∈ news ∧ ot.cls = .type "tuple" ∧ ot.data = .seq #[v₁, v₂] nt ∧ W i v₁ v₂)
    (turn : ∀ i ys v₁ v₂ I oI C oC D m₂ h tk (E' : Value → Shared → Prop), J i ys → i < n → W i v₁ v₂ → NsObj oC m₂ → m₂ x = some v₁ → m₂ x₂ = some v₂ → Fr h₀ L h m → News h₀ L h ((I, oI) :: (C, oC) :: (D, lst ys) :: news) → Off3 I C D news → ((@Ne Nat I C) ∧ (@Ne Nat I D) ∧ (@Ne Nat C D)) →
      wpAny (model prog w) A (eval elt (compEnvC scope cl C env)) (CompEnd h₀ L m { s with heap := h, toks := tk } I oI C oC D (lst ys) S (fun y news' => Stop (news' = news ∧ J (i + 1) (ys ++ [y])))) E' { s with heap := h, toks := tk })
    (done : ∀ ys, J n ys → Fin ys news) : ∀ k i ys, i + k = n → J i ys → CompRestP prog w A h₀ L m env elt x x₂ scope cl s S P Fin k i ys news
  | 0, i, ys, e, hJ => by
    obtain rfl : i = n := by omega
    exact done ys hJ
  | k + 1, i, ys, e, hJ => by
    intro v hP
    obtain ⟨t, ot, v₁, v₂, nt, e1, e2, e3, e4, hW⟩ := src i v (by omega) hP
    refine ⟨t, ot, v₁, v₂, nt, e1, e2, e3, e4, ?_⟩
    intro I oI C oC D m₂ h tk E' hC hx hx2 F N o3 ne
    refine wpAny_mono (turn i ys v₁ v₂ I oI C oC D m₂ h tk E' hJ (by omega) hW hC hx hx2 F N o3 ne) (fun y s' hc => ?_) fun _ _ y => y
    obtain ⟨h', tk', news', e1, F', N', o', S', rfl, r⟩ := hc
    exact ⟨h', tk', _, e1, F', N', o', S', compP_K W J src turn done k (i + 1) _ (by omega) r⟩
/-- a comprehension over a text, as a value -/
theorem comp_strE {E : Value → Shared → Prop} {elt iter : PySem.Expr} {x : PySem.Str} {px : Pos} {scope : Scope} {cl : List (PySem.Str × Addr)} {pos : Pos} {Q : Value → Shared → Prop} (_F₀ : Fr h₀ L s.heap m)
    (hclos : closureFor scope env = pure cl) (hcell : ∀ z ∈ scope.names, z.2 ≠ .cell) (hkind : scope.kind = .function)
    (hnames : ∀ z ∈ scope.names, z.2 = .local → scope.names.lookup z.1 = some .local) (hx : scope.names.lookup x = some .local)
    (h : wpAny (model prog w) A (eval iter env) (SrcS prog w A h₀ L m env elt x scope cl (fun s₂ => FinE h₀ L m s₂ Q)) E s)
    (hs : ∀ x, foldedSetIterable iter env x = pure x := by intro _; rfl) :
    wpAny (model prog w) A (eval (.ListComp elt [⟨.Name x px, iter, [], 0⟩] scope pos) env) Q E s := by
  rw [eval_ListComp]
  refine wpAny_comprehension_free (use := none) rfl hs hclos hkind hnames (wpAny_mono h (fun xv s₁ h₁ => ?_) fun _ _ e => e)
  obtain ⟨ws, t, news, rfl, ha, hh, F, N, hsz, R⟩ := h₁
  refine wpAny_pyIter_ascii ha ?_
  refine block_U (Walks.strAscii hh s₁.heap.objs.size ws t) hsz (fun i h st => ?io) (fun i h h' o nw st e e' _ _ _ => ?st) hcell hkind hx ⟨_, Heap.get?_push_size _ rfl, rfl, rfl⟩ (fun b hb => ?fp)
    (F.keeps fun _ _ e => Heap.get?_push_of_some _ e) (N.grown fun _ _ e => Heap.get?_push_of_some _ e) (Nat.ne_of_lt F.ns.lt) (next_is_new F) (fun p hp => Nat.ne_of_lt (Heap.lt_size (N p hp).1)) trivial (R _) ?fin
  case io =>
    obtain ⟨o, ho, _⟩ := st
    exact ⟨o, ho⟩
  case st =>
    obtain ⟨o1, ho, r⟩ := st
    rw [e] at ho
    obtain rfl := Option.some.inj ho
    exact ⟨_, e', r⟩
  case fp =>
    rw [List.mem_singleton.mp hb]
    show s₁.heap.objs.size < (s₁.heap.push _).objs.size
    rw [Heap.size_push]
    exact Nat.lt_succ_self _
  case fin =>
    intro D C h tk m' ys news' F' N' o1 hn hC₀ hD₀ hCL hDL hCD offC fin
    refine ⟨m', hn, fun h'' hs'' => fin D h'' tk (F'.change hs'' hCL hC₀) (fun p hp => ?_) o1⟩
    refine ⟨hs''.extBut _ _ ?_ (N' p hp).1, (N' p hp).2⟩
    rcases List.mem_cons.mp hp with rfl | hp
    · exact Ne.symm hCD
    · exact offC p hp
end
end PCs
section UPs
section
variable {prog : Program} {w : World} {A : Around} {E : Value → Shared → Prop}
theorem draw_walk {I : Addr} {fp wr : List Addr} {n : Nat} {P : Nat → Value → Prop} {St : Nat → Heap → Prop} (W : Walks prog w A I fp wr n P St) : ∀ (k i : Nat) (s : Shared) (Q : List Value → Shared → Prop), St i s.heap → i + k ≤ n →
    (∀ vs h' tk, vs.length = k → (∀ j v, vs[j]? = some v → P (i + j) v) → St (i + k) h' → (∀ b o, b ∉ wr → s.heap.get? b = some o → h'.get? b = some o) → Q vs { s with heap := h', toks := tk }) → wpAny (model prog w) A (draw (.ref I) k) Q E s
  | 0, i, s, Q, hs, _, hQ => by
    show wpAny _ _ (pure []) Q E s
    exact wpAny_pure (hQ [] s.heap s.toks rfl (fun j v e => by simp at e) hs fun _ _ _ e => e)
  | k + 1, i, s, Q, hs, hle, hQ => by
    show wpAny _ _ (pyNext (.ref I) >>= _) Q E s
    refine wpAny_bind (W.item i s _ _ (by omega) hs fun v h₁ tk₁ hP hs₁ st₁ => ?_)
    refine wpAny_bind (wpAny_holding (draw_walk W k (i + 1) _ _ hs₁ (by omega) fun vs h₂ tk₂ hl hPs hs₂ st₂ => wpAny_pure ?_))
    refine hQ (v :: vs) h₂ tk₂ (by rw [List.length_cons, hl]) (fun j u e => ?_) (by rw [show i + (k + 1) = i + 1 + k by omega]; exact hs₂) fun b o hb e => st₂ b o hb (st₁ b o hb e)
    cases j with
    | zero => obtain rfl := Option.some.inj e; exact hP
    | succ j => rw [show i + (j + 1) = i + 1 + j by omega]; exact hPs j u e
theorem unpack_str {s : Shared} {x : PySem.Str} {t : Tok} {targets : List (Bool × (Value → Sem Unit))} {Q : Unit → Shared → Prop} (hh : A.handled = none) (ha : x.cps.all (· < 128) = true) (hn : targets.length = x.cps.size) (hstar : targets.findIdx? (·.1) = none)
    (h : ∀ vs h' tk, vs.length = x.cps.size → (∀ (j : Nat) (v : Value), vs[j]? = some v → ∃ c u, x.cps[j]? = some c ∧ v = Value.str ⟨#[c]⟩ u) → Heap.ExtBut s.heap.objs.size s.heap h' → wpAny (model prog w) A (assignInOrder (targets.map (·.2)) vs) Q E { s with heap := h', toks := tk }) :
    wpAny (model prog w) A (unpack (.str x t) targets) Q E s := by
  unfold unpack
  rw [hn, hstar]
  refine wpAny_bind (wpAny_holding ?_)
  unfold unpackItems
  refine wpAny_bind ?_
  unfold notIterableAtAll
  refine wpAny_bind (wpAny_specialOf (typeIs_str s x t) PySem.F.slot_str_iter.lookup ?_)
  refine wpAny_pure ?_
  simp only [Bool.false_eq_true, if_false]
  refine wpAny_bind (wpAny_holding (wpAny_pyIter_ascii ha ?_))
  have W := Walks.strAscii (prog := prog) (w := w) hh s.heap.objs.size x t
  refine wpAny_bind (wpAny_holding (draw_walk W x.cps.size 0 _ _ ⟨_, Heap.get?_push_size _ rfl, rfl, rfl⟩ (by omega) fun vs h₁ tk₁ hl hP hs₁ st₁ => ?_))
  rw [if_neg (by omega)]
  rw [Nat.zero_add] at hs₁
  refine wpAny_bind (wpAny_holding (W.done _ _ _ hs₁ fun h₂ tk₂ st₂ => ?_))
  simp only [Option.isSome_none, Bool.false_eq_true, if_false]
  refine wpAny_pure (h vs h₂ tk₂ hl (fun j v e => by have := hP j v e; rwa [Nat.zero_add] at this) fun b o hb e => ?_)
  have hbw : b ∉ [s.heap.objs.size] := fun q => hb (List.mem_singleton.mp q)
  exact st₂ b o hbw (st₁ b o hbw (Heap.get?_push_of_some _ e))
theorem strs_items {x : PySem.Str} : ∀ (vs : List Value) (i : Nat), (∀ (j : Nat) (v : Value), vs[j]? = some v → SignAt x (i + j) v) → StrsAre vs ((vs.length, i) |> fun p => ((x.cps.toList.drop p.2).take p.1).map fun c => (⟨#[c]⟩ : PySem.Str))
  | [], i, _ => by show StrsAre [] (((x.cps.toList.drop i).take 0).map _); rw [List.take_zero]; exact .nil
  | v :: r, i, h => by
    obtain ⟨c, u, hc, rfl⟩ := h 0 v rfl
    have ih := strs_items r (i + 1) fun j v e => by have := h (j + 1) v e; rwa [show i + (j + 1) = i + 1 + j by omega] at this
    have h2 : x.cps.toList[i]? = some c := by rw [Array.getElem?_toList]; exact hc
    obtain ⟨hl, he⟩ := List.getElem?_eq_some_iff.mp h2
    show StrsAre _ (((x.cps.toList.drop i).take (r.length + 1)).map _)
    rw [List.drop_eq_getElem_cons hl, he, List.take_succ_cons, List.map_cons]
    exact .cons _ _ ih
theorem sorted_strN {s : Shared} {x : PySem.Str} {t : Tok} {Q : Value → Shared → Prop} {h₀ : Heap} {L : Addr} {m : PySem.Str → Option Value} {news : List (Addr × Obj)} (hh : A.handled = none) (F : Fr h₀ L s.heap m) (N : News h₀ L s.heap news) (h64 : x.cps.size < 64)
    (h : ∀ h' tk D vs' ss' e, Fr h₀ L h' m → News h₀ L h' ((D, seqObj "list" (List.toArray vs') e) :: news) → (∀ p ∈ news, p.1 < D) → StrsAre vs' ss' → ss'.Perm (x.cps.toList.map fun c => (⟨#[c]⟩ : PySem.Str)) → sortedS ss' = true → Q (.ref D) { s with heap := h', toks := tk }) :
    wpAny (model prog w) A (call (.builtin "sorted") [.str x t]) Q E s := by
  refine Calls.call_function_entry kind_sorted plain_sorted entry_sorted (args_sorted1 _) ?_
  unfold Builtin.«sorted»
  refine wpAny_bind (m := checkCount "sorted" 1 1 _) (wpAny_pure ?_)
  refine wpAny_bind (wpAny_collect_str (show A.in1.handled = none from hh) x t ?_ (by rw [sizeLine_eq]; omega))
  intro s1 acc hk hg hd ho hacc
  obtain ⟨h1, g1, d1, k1, o1⟩ := s1
  dsimp only at hk hg hd ho
  subst hg
  subst hd
  subst ho
  obtain ⟨vs, rfl⟩ : ∃ vs : List Value, acc = vs.toArray := ⟨acc.toList, rfl⟩
  have hlen : vs.length = x.cps.size := by have := hacc.1; rwa [List.size_toArray] at this
  have hS : StrsAre vs (x.cps.toList.map fun c => (⟨#[c]⟩ : PySem.Str)) := by
    have := strs_items (x := x) vs 0 fun j v e => by rw [Nat.zero_add]; exact hacc.2 j v (by rw [List.getElem?_toArray]; exact e)
    dsimp only at this
    rwa [List.drop_zero, List.take_of_length_le (by rw [Array.length_toList, hlen]; exact Nat.le_refl _)] at this
  have h64' : vs.length < 64 := by rw [hlen]; exact h64
  refine wpAny_bind (wpAny_newList ?_)
  have hoL : (h1.push (seqObj "list" vs.toArray 0)).get? h1.objs.size = some (seqObj "list" vs.toArray 0) := Heap.get?_push_size _ rfl
  show wpAny _ _ _ _ _ { heap := h1.push (seqObj "list" vs.toArray 0), gens := s.gens, drawn := s.drawn, toks := k1, os := s.os }
  refine wpAny_bind (wpAny_holding (wpAny_call_entry slot_list_sort ⟨_, hoL, rfl⟩ entry_list_sort (list_sort_treeK strKind_oneLt hoL hS.keysOf (fun v₁ v₂ rest e => keyKind_strs (by rw [← e]; exact hS)) h64' fun st' a1 a2 => ⟨_, rfl, ?_⟩) (args_list_sort _)))
  refine wpAny_pure ⟨_, rfl, ?_⟩
  obtain ⟨ss', b1, b2, b3⟩ := sorted_out_str hS a1 a2
  obtain ⟨e, he⟩ := sortedHeap_at (out := (arrOf st').map (·.2)) hoL
  have kk : ∀ b o, s.heap.get? b = some o → (sortedHeap (h1.push (seqObj "list" vs.toArray 0)) h1.objs.size vs ((arrOf st').map (·.2))).get? b = some o := fun b o q => by
    have q1 := hk b o q
    rw [sortedHeap_old (Nat.ne_of_lt (Heap.lt_size q1)) (by rw [size_push']; exact Nat.lt_succ_of_lt (Heap.lt_size q1)), Heap.get?_push_ne _ _ _ (Nat.ne_of_lt (Heap.lt_size q1))]
    exact q1
  have hle : ∀ p ∈ news, p.1 < h1.objs.size := fun p hp => Heap.lt_size (hk _ _ (N p hp).1)
  refine h _ _ _ _ ss' e (F.kept kk) (fun p hp => ?_) hle b1 b2 b3
  rcases List.mem_cons.mp hp with rfl | hp
  · refine ⟨he, ?_, ?_⟩
    · obtain ⟨oL, _, _, hL, _⟩ := F.ns
      exact Ne.symm (Nat.ne_of_lt (Heap.lt_size (hk _ _ hL)))
    · cases q : h₀.get? h1.objs.size with
      | none => rfl
      | some o => exact absurd (Heap.lt_size (hk _ _ (F.keep _ _ q))) (Nat.lt_irrefl _)
  · exact ⟨kk _ _ (N p hp).1, (N p hp).2⟩
/-- unpacking a text of three signs -/
theorem assign_str3 {s : Shared} {env : Env} {elts : List PySem.Expr} {k9 : Nat} {pos : Pos} {x : PySem.Str} {c0 c1 c2 : Nat} {t : Tok} {Q : Unit → Shared → Prop} {h₀ : Heap} {L : Addr} {m : PySem.Str → Option Value} {news : List (Addr × Obj)} (hh : A.handled = none) (F : Fr h₀ L s.heap m) (N : News h₀ L s.heap news)
    (hx : x = ⟨#[c0, c1, c2]⟩) (ha : c0 < 128 ∧ c1 < 128 ∧ c2 < 128) (hn : (assignEach elts env).length = 3) (hstar : (assignEach elts env).findIdx? (·.1) = none)
    (h : ∀ h' tk t0 t1 t2, Fr h₀ L h' m → News h₀ L h' news → wpAny (model prog w) A (assignInOrder ((assignEach elts env).map (·.2)) [Value.str ⟨#[c0]⟩ t0, Value.str ⟨#[c1]⟩ t1, Value.str ⟨#[c2]⟩ t2]) Q E { s with heap := h', toks := tk }) :
    wpAny (model prog w) A (assign (.Tuple elts k9 pos) env (.str x t)) Q E s := by
  subst hx
  rw [assign_Tuple]
  refine wpAny_bind (wpAny_standAt (unpack_str hh ?_ hn hstar fun vs h' tk hl hv he => ?_))
  · show (#[c0, c1, c2] : Array Nat).all (· < 128) = true
    simp [ha.1, ha.2.1, ha.2.2]
  · have hk : ∀ b o, s.heap.get? b = some o → h'.get? b = some o := fun b o e => he b o (Nat.ne_of_lt (Heap.lt_size e)) e
    obtain ⟨a, b, c, rfl⟩ := len_c3 hl
    · obtain ⟨d0, u0, e0, rfl⟩ := hv 0 _ rfl
      obtain ⟨d1, u1, e1, rfl⟩ := hv 1 _ rfl
      obtain ⟨d2, u2, e2, rfl⟩ := hv 2 _ rfl
      obtain rfl : c0 = d0 := Option.some.inj e0
      obtain rfl : c1 = d1 := Option.some.inj e1
      obtain rfl : c2 = d2 := Option.some.inj e2
      exact h h' tk u0 u1 u2 (F.kept hk) (fun p hp => ⟨hk _ _ (N p hp).1, (N p hp).2⟩)
theorem item_at {s : Shared} {value slice : PySem.Expr} {l : Addr} {vs : List Value} {n k : Nat} {u : Tok} {v : Value} {Q : Value → Shared → Prop} {h₀ : Heap} {L : Addr} {news : List (Addr × Obj)} (N : News h₀ L s.heap news) (hm : (l, listOf vs.toArray n) ∈ news)
    (hx : vs[k]? = some v) (hk : k < 1000) (h : Q v s)
    (hs : subscripted slice false (.ref l) (.int (k : Int) u) = operate [.ref l, .int (k : Int) u] (getItem (.ref l) (.int (k : Int) u)) := by with_unfolding_all rfl) :
    wpAny (model prog w) A (subscriptTail value slice (.ref l) (.int (k : Int) u)) Q E s :=
  have hl : s.heap.IsList l vs.toArray := News.isList N hm
  tail_any hl.typeIs slot_list_getitem.lookup (wpAny_getItem_list hl (Int.natCast_nonneg k) (by omega) (by simpa using hx) h) hs
end
end UPs
section FTs
section
variable {prog : Program} {w : World} {A : Around} {s : Shared} {env : Env} {Q : Flow → Shared → Prop}
/-- over a tuple of the ledger -/
theorem for_tup {h₀ : Heap} {target : PySem.Expr} {body : List Stmt} {l : Addr} {vs : List Value} {m₀ : PySem.Str → Option Value} {news₀ : List (Addr × Obj)}
    (hl : (l, tupO vs) ∈ news₀) (hh : A.handled = none) (F : Fr h₀ env.locals s.heap m₀) (N : News h₀ env.locals s.heap news₀)
    (J : Nat → (PySem.Str → Option Value) → List (Addr × Obj) → Prop) (Jx : (PySem.Str → Option Value) → List (Addr × Obj) → Prop) (hkl : ∀ i m news, J i m news → (l, tupO vs) ∈ news) (h0 : J 0 m₀ news₀)
    (turn : ∀ (i : Nat) v m₁ news₁ h tk I o, vs[i]? = some v → J i m₁ news₁ → (∀ p ∈ news₁, p.1 ≠ I) → Fr h₀ env.locals h m₁ → News h₀ env.locals h ((I, o) :: news₁) →
      wpAny (model prog w) A (assign target env v) (fun _ s₂ => wpAny (model prog w) A (execs body env) (FEnd s h₀ env.locals I o (J (i + 1)) Jx Q) NoE s₂) NoE { s with heap := h, toks := tk })
    (hJx : ∀ m news, J vs.length m news → Jx m news)
    (done : ∀ h tk m₁ news₁, Jx m₁ news₁ → Fr h₀ env.locals h m₁ → News h₀ env.locals h news₁ → Q .next { s with heap := h, toks := tk }) :
    wpAny (model prog w) A (pyIter (.ref l)) (ForOn prog w A target body env Q) NoE s := by
  have nn : ∀ p ∈ news₀, p.1 ≠ s.heap.objs.size := fun p hp e => absurd (Heap.lt_size (N p hp).1) (by rw [e]; exact Nat.lt_irrefl _)
  have ht : s.heap.IsTuple l vs.toArray := ⟨_, (N _ hl).1, rfl, _, rfl⟩
  have hne : l ≠ s.heap.objs.size := Nat.ne_of_lt (Heap.lt_size (N _ hl).1)
  refine wpAny_pyIter_tuple ht ?_
  have W := Walks.tuple (prog := prog) (w := w) hh s.heap.objs.size l hne vs.toArray
  rw [List.size_toArray] at W
  refine for_led (kl := [(l, tupO vs)]) W (.head _) (fun b hb => ?_) (next_is_new F) (Nat.ne_of_lt F.ns.lt) (fun b hb => List.mem_singleton.mp hb) (fun i h hs => ?_) (fun i s' v Q' st hq => letGo_tupleiter st.1 hq)
    J Jx (fun i m news h p hp => by rw [List.mem_singleton.mp hp]; exact hkl i m news h) h0 ⟨⟨_, Heap.get?_push_size _ rfl, rfl, rfl⟩, ht.push _⟩ (F.push _) (fun p hp => ⟨Heap.get?_push_of_some _ (N p hp).1, (N p hp).2⟩) nn ?_ hJx done
  · rcases List.mem_cons.mp hb with e | hb
    · exact .inl e
    · rw [List.mem_singleton.mp hb]; exact .inr (.inr ⟨_, .head _⟩)
  · obtain ⟨⟨o, ho, _⟩, _⟩ := hs
    exact ⟨o, ho⟩
  · intro i v m₁ news₁ h tk o hi hP hJ hnI F₁ N₁
    exact turn i v m₁ news₁ h tk _ o (by simpa using hP) hJ hnI F₁ N₁
end
section
variable {prog : Program} {w : World} {A : Around} {E : Value → Shared → Prop} {s : Shared}
theorem find_abc {i : Nat} (h : i < 3) : Txt.find "abc" (⟨#[97 + i]⟩ : PySem.Str) = (i : Int) := by
  obtain rfl | rfl | rfl : i = 0 ∨ i = 1 ∨ i = 2 := by omega
  all_goals decide +kernel
theorem index_abc {i : Nat} {t u : Tok} {Q : Value → Shared → Prop} (hh : A.handled = none) (hi : i < 3) (h : Q (.int (i : Int) s.toks) { s with toks := s.toks + 1 }) :
    wpAny (model prog w) A (call (.builtin "str.index") [.str "abc" t, .str ⟨#[97 + i]⟩ u]) Q E s := by
  refine index_or hh (fun e => ?_) fun _ _ => ?_
  · rw [find_abc hi] at e; omega
  · rw [find_abc hi]; exact h
end
end FTs
section RXs
open Builtin Builtin.Re
theorem rx_plain : PlainAttrs "re.Pattern" :=
  ⟨⟨"object.__getattribute__", by rw [typeLookup_type, builtinLookup_eq_fast]; kernel_rfl, by decide +kernel⟩, by rw [typeLookup_type, builtinLookup_eq_fast]; kernel_rfl⟩
theorem rx_slot : Slot "re.Pattern" "search" "re.Pattern.search" :=
  .of (owner := "re.Pattern") (n := "search") (by rw [typeLookup_type, builtinLookup_eq_fast]; kernel_rfl) (by decide +kernel) (by decide +kernel) (by decide +kernel)
    (by first | exact .inl (by decide +kernel) | exact .inr (by decide +kernel)) (by rw [isSubtype_type]; kernel_rfl)
theorem rx_entry : entryFor table "re.Pattern.search" = some Builtin.«re.Pattern.search» := entryFor_of_tree (by kernel_rfl)
theorem rx_args (a b : Value) : argsOk "re.Pattern.search" ⟨[a, b], []⟩ := by unfold argsOk; kernel_rfl
theorem rx_type : typeOf (.builtin "re.Pattern.search") = pure (.type "method_descriptor") := by show builtinType _ = _; rw [builtinType_eq_fast]; kernel_rfl

section
variable {M : Model} {A : Around} {E : Value → Shared → Prop} {s : Shared}
theorem rx_rules (m : Sre.M) : ∀ (l : List Nat) {Q : PUnit → Shared → Prop}, Q ⟨⟩ s →
    wpAny M A (forIn l PUnit.unit fun i _ => do
      if m.seen.has i then rule (Sre.names.getD i "")
      pure (ForInStep.yield PUnit.unit)) Q E s
  | [], Q, h => wpAny_pure h
  | i :: r, Q, h => by
    rw [List.forIn_cons]
    refine wpAny_bind ?_
    split
    · exact wpAny_bind (wpAny_rule (wpAny_pure (rx_rules m r h)))
    · exact wpAny_pure (rx_rules m r h)
theorem rx_run {m m' : Sre.M} {Q : Option Sre.M → Shared → Prop} (h1 : m.runFor reTurnSteps = m') (h2 : m'.outcome = some .failed) (h : Q none s) : wpAny M A (reRunToEnd m) Q E s := by
  unfold reRunToEnd
  have e : (2 ^ 64 : Nat) = 18446744073709551615 + 1 := by decide
  rw [e]
  unfold reDrive
  rw [h1]
  simp only [h2, Option.isSome_some, if_true]
  refine wpAny_bind (wpAny_pure ?_)
  refine wpAny_bind ?_
  refine rx_rules m' _ ?_
  simp only [h2]
  exact wpAny_pure h
end

/-- a text in which no sign is one of the set's -/
def rxClear (code : Array Nat) (c : Nat) : Prop := ∀ seen, ∃ seen', Sre.inSet code c code.size 5 true seen = .ok (false, seen')

theorem rx_admitted {m : Sre.M} {code : Array Nat} (hc : m.code = code) (hx : ∀ c ∈ m.text.toList, rxClear code c) (hl : m.lim = m.text.size) :
    ∀ (fuel k : Nat) (seen : Sre.Seen), ∃ seen', Sre.M.admitted m fuel k seen = .ok (none, seen')
  | 0, k, seen => ⟨seen, rfl⟩
  | fuel + 1, k, seen => by
    unfold Sre.M.admitted
    by_cases q : k ≥ m.lim
    · exact ⟨seen, by rw [if_pos q]⟩
    · rw [if_neg q]
      have hk : k < m.text.size := by omega
      have e : m.text.getD k 0 = m.text[k] := by simp [hk]
      obtain ⟨s2, h2⟩ := hx (m.text.getD k 0) (by rw [e]; simp) seen
      rw [hc, h2]
      exact rx_admitted hc hx hl fuel (k + 1) s2

def rxName : Array Nat := #[14, 10, 4, 1, 1, 22, 0, 31, 16, 127, 0, 13, 7, 22, 0, 31, 16, 127, 0, 1]
def rxVal : Array Nat := #[14, 14, 4, 1, 1, 9, 4294966783, 0, 0, 2147483648, 0, 0, 0, 0, 0, 13, 11, 9, 4294966783, 0, 0, 2147483648, 0, 0, 0, 0, 0, 1]
theorem rx_say {m : Sre.M} (h1 : m.outcome = none) (h2 : m.frames = []) : ((m.say false).runFor reTurnSteps).outcome = some .failed := by
  have a1 : (m.say false).outcome = none := h1
  have a2 : (m.say false).answer = some false := rfl
  have a3 : (m.say false).frames = [] := h2
  generalize m.say false = n at a1 a2 a3
  have st : n.step = { n with outcome := some .failed } := by
    unfold Sre.M.step
    rw [a1, a2, a3]
    rfl
  show (Sre.M.runFor 4 n).outcome = _
  unfold Sre.M.runFor
  rw [a1, st]
  rfl
theorem rx_fails {code text : Array Nat} (hi : (match Sre.ops[code.getD 0 0]? with | some .INFO => true | _ => false) = true) (h4 : code.getD 2 0 = 4)
    (hx : ∀ c ∈ text.toList, rxClear code c) :
    ((Sre.forSearch code text 0 0 text.size false).runFor reTurnSteps).outcome = some .failed := by
  let m0 : Sre.M := { code, text, lim := text.size, start := 0, pc := (Sre.header code).2, pos := 0, handed := 0, marks := Array.replicate (2 * 0) none, mustAdvance := false, seen := if (Sre.header code).2 == 0 then {} else ({} : Sre.Seen).add 14 }
  show ((if ((decide (0 > text.size) || decide (text.size - 0 < (Sre.header code).1)) = true) then m0.say false else
    ({ m0 with lastStart := if ((decide ((Sre.header code).1 > 1) && !((Sre.header code).2 != 0 && code.getD 2 0 &&& 5 != 0)) = true) then max 0 (text.size - ((Sre.header code).1 - 1)) else text.size } : Sre.M).attemptFrom 0 true).runFor reTurnSteps).outcome = _
  split
  · exact rx_say rfl rfl
  · generalize hm : ({ m0 with lastStart := _ } : Sre.M) = m
    have c1 : m.code = code := by rw [← hm]
    have c2 : m.text = text := by rw [← hm]
    have c3 : m.lim = text.size := by rw [← hm]
    have c4 : m.outcome = none := by rw [← hm]
    have c5 : m.frames = [] := by rw [← hm]
    clear hm
    have hf : m.hasFirstSet = true := by
      unfold Sre.M.hasFirstSet
      rw [c1, h4, Bool.and_eq_true]
      exact ⟨hi, rfl⟩
    unfold Sre.M.attemptFrom
    rw [hf]
    simp only [Bool.not_true, Bool.false_eq_true, if_false]
    obtain ⟨s2, h2⟩ := rx_admitted (m := m) c1 (by rw [c2]; exact hx) (by rw [c2, c3]) (m.lim + 1 - 0) 0 m.seen
    rw [h2]
    exact rx_say c4 c5

theorem rx_clearN {c : Nat} (h : 32 ≤ c) (h2 : c < 127) : rxClear rxName c := by
  intro seen
  have e1 : Sre.inSet rxName c 20 5 true seen = (if (decide (0 ≤ c) && decide (c ≤ 31)) = true then .ok (true, seen.add 22) else Sre.inSet rxName c 19 8 true (seen.add 22)) := rfl
  have e2 : Sre.inSet rxName c 19 8 true (seen.add 22) = (if (c == 127) = true then .ok (true, (seen.add 22).add 16) else Sre.inSet rxName c 18 10 true ((seen.add 22).add 16)) := rfl
  refine ⟨((seen.add 22).add 16).add 0, ?_⟩
  show Sre.inSet rxName c 20 5 true seen = _
  have b1 : ¬ ((decide (0 ≤ c) && decide (c ≤ 31)) = true) := by simp; omega
  have b2 : ¬ ((c == 127) = true) := by simp; omega
  rw [e1, if_neg b1, e2, if_neg b2]
  rfl
theorem rx_clearV {c : Nat} (h : 32 ≤ c ∨ c = 9) (h2 : c < 127) : rxClear rxVal c := by
  intro seen
  have h3 : ∀ k : _root_.Fin 127, (32 ≤ k.val ∨ k.val = 9) → (decide (k.val < 256) && (rxVal.getD (5 + (1 + k.val / 32)) 0).testBit (k.val % 32)) = false := by decide +kernel
  have e1 : Sre.inSet rxVal c 28 5 true seen = (if (decide (c < 256) && (rxVal.getD (5 + (1 + c / 32)) 0).testBit (c % 32)) = true then .ok (true, seen.add 9) else Sre.inSet rxVal c 27 14 true (seen.add 9)) := rfl
  refine ⟨(seen.add 9).add 0, ?_⟩
  show Sre.inSet rxVal c 28 5 true seen = _
  rw [e1, h3 ⟨c, h2⟩ h]
  rfl

section
variable {prog : Program} {w : World} {A : Around} {E : Value → Shared → Prop} {s : Shared}
/-- a pattern's search that finds nothing -/
theorem rx_search {p cd : Addr} {pat : Value} {k1 k2 k3 : Tok} {its : Array Value} {code : Array Nat} {v : PySem.Str} {t : Tok} {Q : Value → Shared → Prop}
    (hp : s.heap.get? p = some { cls := .type "re.Pattern", data := .fields #[pat, .int 32 k1, .int 0 k2, .none, .none, .ref cd, .int 0 k3] })
    (hc : s.heap.get? cd = some { cls := .type "tuple", data := .seq its }) (hcode : (its.map reRawOf).map (·.toNat) = code)
    (hf : ((Sre.forSearch code v.cps 0 0 v.cps.size false).runFor reTurnSteps).outcome = some .failed) (hz : v.cps.size ≤ 16777216) (h : Q .none s) :
    wpAny (model prog w) A (call (.builtin "re.Pattern.search") [.ref p, .str v t]) Q E s := by
  refine wpAny_call_entry rx_slot ⟨_, hp, rfl⟩ rx_entry ?_ (rx_args _ _)
  show wpAny (model prog w) A.in1 (reTarget "re.Pattern.search" "search" ⟨[.ref p, .str v t], []⟩ >>= fun t => reAnswer t (Sre.forSearch t.code t.text t.groups t.pos t.lim false)) _ E s
  refine wpAny_bind ?_
  unfold reTarget
  have hn : reNamed "re.Pattern.search" "search" ["string", "pos", "endpos"] 1 [.str v t] [] = pure [some (.str v t), none, none] := rfl
  refine wpAny_bind (wpAny_of_eq hn ?_)
  refine wpAny_bind (wpAny_pure ?_)
  refine wpAny_bind (wpAny_pure ?_)
  refine wpAny_bind (wpAny_fieldsOf hp rfl ?_)
  have ht : reTextOf (.str v t) = pure (v.cps, 0) := rfl
  refine wpAny_bind (wpAny_of_eq ht ?_)
  show wpAny (model prog w) A.in1 (reNoCollectionInside (.str v t) 0 >>= fun _ => reRawItems (.ref cd) >>= fun l =>
    pure ({ pattern := .ref p, string := .str v t, code := l.map (·.toNat), text := v.cps, kind := 0, groups := 0, pos := min (0 : Int).toNat v.cps.size, lim := min ((2 ^ 63 - 1 : Int)).toNat v.cps.size } : ReTarget)) _ E s
  have h0 : reNoCollectionInside (.str v t) 0 = pure () := rfl
  refine wpAny_bind (wpAny_of_eq h0 ?_)
  refine wpAny_bind ?_
  unfold reRawItems
  refine wpAny_bind ?_
  refine wpAny_seqItems hc rfl (wpAny_pure (wpAny_pure ?_))
  have e1 : min (0 : Int).toNat v.cps.size = 0 := by simp
  have e3 : (2 ^ 63 - 1 : Int).toNat = 9223372036854775807 := by decide
  have e2 : min ((2 ^ 63 - 1 : Int)).toNat v.cps.size = v.cps.size := by rw [e3]; omega
  rw [e1, e2]
  dsimp only
  simp only [Option.getD_some, hcode]
  unfold reAnswer
  refine wpAny_bind (rx_run rfl hf (wpAny_pure ⟨_, rfl, h⟩))

theorem rx_methodK {K : Frag} {p : Addr} {fs : Array Value} {pl : Sem Bool} {Q : Value × List Value → Shared → Prop} (X : K.In s.heap) (hl : K.lookup p = some { cls := .type "re.Pattern", data := .fields fs }) (h : Q (.builtin "re.Pattern.search", [.ref p]) s) :
    wpAny (model prog w) A (getMethod (.ref p) "search" pl) Q E s :=
  getMethod_builtin ⟨_, X _ _ hl, rfl⟩ rx_plain rx_slot rx_type (fun a e => by cases e; exact ⟨_, X _ _ hl, rfl⟩) h
theorem rx_searchK {K : Frag} {p cd : Addr} {pat : Value} {k1 k2 k3 : Tok} {its : Array Value} {v : PySem.Str} {t : Tok} {nm : Bool} {Q : Value → Shared → Prop} (X : K.In s.heap)
    (hl : K.lookup p = some { cls := .type "re.Pattern", data := .fields #[pat, .int 32 k1, .int 0 k2, .none, .none, .ref cd, .int 0 k3] })
    (hc : K.lookup cd = some { cls := .type "tuple", data := .seq its }) (hcode : (its.toList.map fun v => (reRawOf v).toNat) = (if nm then rxName else rxVal).toList)
    (hv : ∀ c ∈ v.cps.toList, (32 ≤ c ∨ (nm = false ∧ c = 9)) ∧ c < 127) (hz : v.cps.size ≤ 1000000) (h : Q .none s) :
    wpAny (model prog w) A (call (.builtin "re.Pattern.search") [.ref p, .str v t]) Q E s := by
  have hcode' : (its.map reRawOf).map (·.toNat) = if nm then rxName else rxVal := by
    apply Array.ext'
    rw [← hcode, Array.toList_map, Array.toList_map, List.map_map]
    rfl
  refine rx_search (X _ _ hl) (X _ _ hc) hcode' ?_ (by omega) h
  cases nm with
  | true => exact rx_fails (code := rxName) rfl rfl fun c hc => rx_clearN (by have := hv c hc; simpa using this.1) (hv c hc).2
  | false => exact rx_fails (code := rxVal) rfl rfl fun c hc => rx_clearV (by have := hv c hc; simpa using this.1) (hv c hc).2
end
end RXs
section WSt
theorem offWS : True := by w_top off; trivial
local macro_rules | `(tactic| walk_at "exec For") => `(tactic| refine stop ?_)
local macro_rules | `(tactic| walk_at "exec For Name Attribute cons nil") => `(tactic| refine stop ?_)
local macro_rules | `(tactic| walk_at "pyIter") => `(tactic| refine stop ?_)
local macro_rules | `(tactic| walk_at "pyIter str") => `(tactic| refine stop ?_)
local macro_rules | `(tactic| walk_at "sub") => `(tactic| first | exact List.forall_mem_nil _ | (refine' List.forall_mem_cons.mpr ⟨?a, ?b⟩; (case a => k_mem); (case b => walk_at "sub")))
local macro_rules | `(tactic| walk_at "call type:tuple") => `(tactic| (k_here; (with_reducible show wpAny _ _ (call (Value.type _) [Value.ref _]) _ _ _); k_dflt (refine' my_tuple ?k1 ?k2 ?k3 ?k4 ?_; (case k1 => k_asm); (case k2 => k_asm); (case k3 => k_mem); (case k4 => (rw [IntsAre.length (by assumption)]; omega)); k_whole); intro D' h' F' N' l1; (try k_lt l1); (try k_sweep)))
/-- the count of the signs so far, as it lies -/
inductive WsJ (P : Params) (ws : PySem.Str) (t : Tok) (x dx : Addr) (i : Nat) (m : PySem.Str → Option Value) (news : List (Addr × Obj)) : Prop
  | mk (cnt : List Int) (vs : List Value) (b : Int) (tb : Tok) (n : Int) (tn : Tok) (nt : Int) (tnt : Tok) (l : Addr) (k : Nat) (tr tS tT : Tok) (hi : IntsAre vs cnt) (h0 : 0 ≤ b) (hb : b ≤ (i : Int)) (hc : cnt.length ≤ i)
      (hr : wsRun (ws.cps.toList.drop i) cnt b n nt = wsRun ws.cps.toList [] 0 0 0) (hm : lks m [("self", .ref x), ("S", .str " " tS), ("T", .str "\t" tT), ("count", .ref l), ("b", .int b tb), ("n", .int n tn), ("nt", .int nt tnt)])
      (hn : news = [(l, listOf vs.toArray k), (x, instObj 255 dx), (dx, dictOf [⟨PyData.keyHash P "raw", .str "raw" tr, .str ws t⟩] 1)]) (hl : @LT.lt Nat _ x l) : WsJ P ws t x dx i m news
/-- and behind the last of them -/
inductive WsX (P : Params) (ws : PySem.Str) (t : Tok) (x dx : Addr) (m : PySem.Str → Option Value) (news : List (Addr × Obj)) : Prop
  | mk (cnt : List Int) (vs : List Value) (b : Int) (tb : Tok) (n : Int) (tn : Tok) (nt : Int) (tnt : Tok) (l : Addr) (k : Nat) (tr tS tT : Tok) (hi : IntsAre vs cnt) (hc : cnt.length ≤ 1000000)
      (hr : (cnt, b, n, nt) = wsRun ws.cps.toList [] 0 0 0) (hm : lks m [("self", .ref x), ("S", .str " " tS), ("T", .str "\t" tT), ("count", .ref l), ("b", .int b tb), ("n", .int n tn), ("nt", .int nt tnt)])
      (hn : news = [(l, listOf vs.toArray k), (x, instObj 255 dx), (dx, dictOf [⟨PyData.keyHash P "raw", .str "raw" tr, .str ws t⟩] 1)]) (hl : @LT.lt Nat _ x l) : WsX P ws t x dx m news
theorem c_wsinit (w : World) (loose : List PySem.Str) (mean : ExcName → Option Value) (mg mb : PySem.Str → Option Value) (s : Shared) (h₀ : Heap) (X : (Mine.frag.heap_1 w.params).In h₀) (T : Top Mine.view loose mean mg mb h₀) (hk : h₀.StaysIn s.heap)
  (x dx : Addr) (ws : PySem.Str) (t : Tok) (R : Result → Shared → Prop) (ha : ws.cps.all (· < 128) = true) (hz : ws.cps.size ≤ 1000000)
  (hn : Has h₀ s.heap [(x, instObj 255 dx), (dx, dictOf [] 0)]) (hlt : @LT.lt Nat _ dx x)
  (hR : ∀ h' tk tn tc vs cnt b n nt tb tn' tnt k1 k2 k3 k4 k5, IntsAre vs cnt → cnt.length ≤ 1000000 → (cnt, b, n, nt) = wsRun ws.cps.toList [] 0 0 0 → Has h₀ h' (wsObjs w.params 255 x dx tn tc ws t tb tn' tnt k1 k2 k3 k4 k5 vs cnt b n nt) →
    SB s.heap h' [x, dx] → s.heap.get? tn = none → s.heap.get? tc = none → @LT.lt Nat _ tc tn → @LT.lt Nat _ x tc → R (.ok (.ret .none)) { s with heap := h', toks := tk }) :
  codeAny (model PySem.Challenge.rw_ta0081_03.row.prog w) (AC 5) (.call (.ref 210) ⟨[.ref x, .str ws t], []⟩) R s := by
  revert X
  k_fill
  intro X
  k_dflt (refine' enter (binds := [("self", .ref x), ("ws", .str ws t)]) (news := [(x, instObj 255 dx), (dx, dictOf [] 0)]) X T hk ?kn ?k6 ?k7 ?k8 ?k9 ?kB ?h ?c2 ?c3 ?c4 ?c5; (case kn => assumption); (case k6 => k_is); (case k7 => k_is); (case k8 => decide); (case k9 => exact BindsTo.of_eq rfl); (case c5 => decide); (case kB => exact locs rfl); (case c2 => exact rfl); (case c3 => exact rfl); (case c4 => exact rfl))
  clear X T
  intro g L h₁ hg hs F N X T
  (try dsimp only)
  k_steps
  unfold Stop
  refine For_led ?_ (fun _ => rfl)
  k_steps
  unfold Stop
  rename Fr _ _ _ _ => F
  rename News _ _ _ _ => N
  refine' for_str (J := WsJ w.params ws t x dx) (Jx := WsX w.params ws t x dx) ha ?h1 F ?N ?j0 ?turn ?jx ?done
  case h1 => rfl
  case' j0 =>
    refine' ⟨[], [], 0, _, 0, _, 0, _, _, _, _, _, _, .nil, by omega, by omega, by decide, by rfl, ⟨rfl, rfl, rfl, rfl, rfl, rfl, rfl, trivial⟩, rfl, ?lt⟩
    case lt => exact (by assumption : @LT.lt Nat _ _ _ ∧ @LT.lt Nat _ _ _ ∧ @LT.lt Nat _ _ _).2.1
  case N => exact cb_drop N (by walk_at "sub")
  case jx =>
    rintro m news ⟨cnt, vs, b, tb, n, tn, nt, tnt, l, k, tr, tS, tT, hi, h0, hb, hc, hr, hm, hn, hl⟩
    refine ⟨cnt, vs, b, tb, n, tn, nt, tnt, l, k, tr, tS, tT, hi, by omega, ?_, hm, hn, hl⟩
    rw [← hr, List.drop_eq_nil_of_le (by simp)]
    rfl
  case turn =>
    clear F N
    rintro i c u m news h tk I o hc ⟨cnt, vs, b, tb, n, tn, nt, tnt, l, k, tr, tS, tT, hi, h0, hb, hcl, hr, hm, rfl, hl⟩ hnI F N
    replace F := fr_bd F _ hm
    dsimp only [bd] at F
    obtain ⟨hI1, hI2, hI3⟩ : @Ne Nat l I ∧ @Ne Nat x I ∧ @Ne Nat dx I := ⟨hnI _ (.head _), hnI _ (.tail _ (.head _)), hnI _ (.tail _ (.tail _ (.head _)))⟩
    have hM : KstMark := kstMark
    have hib : i ≤ 1000000 := by have := (Array.getElem?_eq_some_iff.mp hc).1; omega
    have hcz : cnt.length ≤ 1000000 := by omega
    refine genF fun P hP => ?_
    dsimp only
    k_steps
    · have e : true = decide (c = 32) := sgn_of (x := " ") (by decide) (by assumption)
      have e1 : c = 32 := by simpa using e.symm
      have hr2 := ws_step hc hr
      rw [if_pos e1] at hr2
      refine hP _ _ ⟨_, _, _, [(l, _), (x, _), (dx, _)], rfl, by assumption, by assumption, hnI, ?_⟩
      exact ⟨cnt, vs, b + 1, _, n + 1, _, nt, _, l, k, tr, tS, tT, hi, by omega, by omega, by omega, hr2, ⟨rfl, rfl, rfl, rfl, rfl, rfl, rfl, trivial⟩, rfl, hl⟩
    · have e : false = decide (c = 32) := sgn_of (x := " ") (by decide) (by assumption)
      have e1 : ¬ c = 32 := by simpa using e.symm
      have e' : true = decide (c = 9) := sgn_of (x := "\t") (by decide) (by assumption)
      have e2 : c = 9 := by simpa using e'.symm
      have hr2 := ws_step hc hr
      rw [if_neg e1, if_pos e2] at hr2
      rename IntsAre _ (List.set _ _ _) => hi2
      rw [bump_pos (by assumption)] at hi2
      refine' hP _ _ ⟨_, _, _, _, rfl, ?F1, cb_drop ?N1 ?S1, ?ne1, ?J1⟩
      case F1 => assumption
      case' J1 => refine' ⟨bump cnt b, _, 0, _, n + 1, _, nt + 1, _, _, _, tr, tS, tT, hi2, by omega, by omega, bump_len hb hcl, hr2, ⟨rfl, rfl, rfl, rfl, rfl, rfl, rfl, trivial⟩, rfl, ?lt1⟩
      case N1 => assumption
      case S1 => walk_at "sub"
      case ne1 => k_all
      case lt1 => omega
    · have e : false = decide (c = 32) := sgn_of (x := " ") (by decide) (by assumption)
      have e1 : ¬ c = 32 := by simpa using e.symm
      have e' : true = decide (c = 9) := sgn_of (x := "\t") (by decide) (by assumption)
      have e2 : c = 9 := by simpa using e'.symm
      have hr2 := ws_step hc hr
      rw [if_neg e1, if_pos e2] at hr2
      rename IntsAre _ (List.set _ _ _) => hi2
      rw [bump_neg (by assumption)] at hi2
      refine' hP _ _ ⟨_, _, _, _, rfl, ?F2, cb_drop ?N2 ?S2, ?ne2, ?J2⟩
      case F2 => assumption
      case' J2 => refine' ⟨bump cnt b, _, 0, _, n + 1, _, nt + 1, _, _, _, tr, tS, tT, hi2, by omega, by omega, bump_len hb hcl, hr2, ⟨rfl, rfl, rfl, rfl, rfl, rfl, rfl, trivial⟩, rfl, ?lt2⟩
      case N2 => assumption
      case S2 => walk_at "sub"
      case ne2 => k_all
      case lt2 => omega
    · have e : false = decide (c = 32) := sgn_of (x := " ") (by decide) (by assumption)
      have e1 : ¬ c = 32 := by simpa using e.symm
      have e' : false = decide (c = 9) := sgn_of (x := "\t") (by decide) (by assumption)
      have e2 : ¬ c = 9 := by simpa using e'.symm
      have hr2 := ws_step hc hr
      rw [if_neg e1, if_neg e2] at hr2
      refine hP _ _ ⟨_, _, _, _, rfl, by assumption, cb_drop (by assumption) (by walk_at "sub"), ⟨cnt, vs, b, tb, n, tn, nt, tnt, l, k, tr, tS, tT, hi, by omega, hr2, ⟨rfl, rfl, rfl, rfl, rfl, rfl, rfl, trivial⟩, rfl, hl⟩⟩
  case done =>
    clear F N
    rintro h tk m news ⟨cnt, vs, b, tb, n, tn, nt, tnt, l, k, tr, tS, tT, hi, hcz, hr, hm, rfl, hl⟩ F N
    replace F := fr_bd F _ hm
    dsimp only [bd] at F
    have hM : KstMark := kstMark
    dsimp only
    k_steps
    rename Fr _ _ _ _ => F
    rename News _ _ _ _ => N
    have fresh : ∀ {a : Addr} {o : Obj}, (a, o) ∈ _ → @Ne Nat a x → @Ne Nat a dx → s.heap.get? a = none := fun {a o} hm h1 h2 => by
      cases q : s.heap.get? a with
      | none => rfl
      | some o' =>
        have := hs a o' q (fun hb => by
          rcases List.mem_cons.mp hb with e | hb
          · exact h1 e
          · exact h2 (List.mem_singleton.mp hb))
        rw [(N _ hm).2.2] at this
        cases this
    have hc := (by assumption : @LT.lt Nat _ _ _ ∧ @LT.lt Nat _ l _ ∧ @LT.lt Nat _ x _ ∧ @LT.lt Nat _ dx _)
    have hd := (by assumption : @LT.lt Nat _ l _ ∧ @LT.lt Nat _ x _ ∧ @LT.lt Nat _ dx _)
    refine' hR _ _ _ _ vs cnt b n nt _ _ _ _ _ _ _ _ hi hcz hr (has_of (cb_drop N ?S3) hg) (fun b o e hb => F.keep b o (hs b o e hb)) (fresh (.head _) ?n1 ?n2) (fresh (.tail _ (.head _)) ?n3 ?n4) hc.1 hd.2.1
    case S3 => walk_at "sub"
    all_goals omega
end WSt
section WCt
theorem offWC : True := by w_top off; trivial
/-- the same, told by what lies below what -/
theorem c_wsL (w : World) (loose : List PySem.Str) (mean : ExcName → Option Value) (mg mb : PySem.Str → Option Value) (s : Shared) (h₀ : Heap) (X : (Mine.frag.heap_1 w.params).In h₀) (T : Top Mine.view loose mean mg mb h₀) (hk : h₀.StaysIn s.heap) {L : Addr} {m : PySem.Str → Option Value} {news : List (Addr × Obj)} (F : Fr h₀ L s.heap m) (N : News h₀ L s.heap news)
  (ws : PySem.Str) (t : Tok) (Q : Value → Shared → Prop) (ha : ws.cps.all (· < 128) = true) (hz : ws.cps.size ≤ 1000000)
  (hQ : ∀ h' tk x dx tn tc vs cnt b n nt tb tn' tnt k1 k2 k3 k4 k5, IntsAre vs cnt → cnt.length ≤ 1000000 → (cnt, b, n, nt) = wsRun ws.cps.toList [] 0 0 0 → Fr h₀ L h' m →
    News h₀ L h' (wsObjs w.params 255 x dx tn tc ws t tb tn' tnt k1 k2 k3 k4 k5 vs cnt b n nt ++ news) → AllLt dx news → @LT.lt Nat _ dx x → @LT.lt Nat _ x tc → @LT.lt Nat _ tc tn → Q (.ref x) { s with heap := h', toks := tk }) :
  wpAny (model PySem.Challenge.rw_ta0081_03.row.prog w) (AC 4) (call (.ref 255) [.str ws t]) Q NoE s := by
  revert X
  k_fill
  intro X
  k_dflt (refine' call_cls F X N ?k1 ?k2 ?k3 ?h; (case k1 => k_is); (case k2 => k_is); (case k3 => k_is))
  intro x dx h' F' N' hlt hxd
  refine' lift_C (A := AC 5) (c_wsinit w loose mean mg mb { s with heap := h' } h₀ X T (fun b o e => F'.keep b o e) x dx ws t _ ha hz ?hn hxd ?hR) rfl ?d ?u rfl rfl
  case d => exact Nat.le_of_ble_eq_true rfl
  case u => exact Nat.le_of_ble_eq_true rfl
  case hn => exact fun q hq => ⟨(N' q (by rcases hq with _ | ⟨_, _ | ⟨_, _ | _⟩⟩ <;> first | exact .head _ | exact .tail _ (.head _))).1, (N' q (by rcases hq with _ | ⟨_, _ | ⟨_, _ | _⟩⟩ <;> first | exact .head _ | exact .tail _ (.head _))).2.2⟩
  case hR =>
    intro h2 tk tn tc vs cnt b n nt tb tn' tnt k1 k2 k3 k4 k5 hi hcz hr hH hs hn1 hn2 hct hxt
    have N1 : News h₀ L h' news := fun p hp => N' p (.tail _ (.tail _ hp))
    have hx := N' _ (.head _)
    have hdx := N' _ (.tail _ (.head _))
    have ne1 : ∀ {a : Addr}, h'.get? a = none → @Ne Nat a x := fun {a} e q => by subst q; have := hx.1; rw [e] at this; cases this
    have ne2 : ∀ {a : Addr}, h'.get? a = none → @Ne Nat a dx := fun {a} e q => by subst q; have := hdx.1; rw [e] at this; cases this
    refine ⟨rfl, hQ h2 tk x dx tn tc vs cnt b n nt tb tn' tnt k1 k2 k3 k4 k5 hi hcz hr (after_fr F' hs ?a1 ?a2) ?a3 (allLt_of hlt) hxd hxt hct⟩
    case a1 =>
      intro hb
      rcases List.mem_cons.mp hb with e | hb
      · exact hx.2.1 e.symm
      · exact hdx.2.1 (List.mem_singleton.mp hb).symm
    case a2 =>
      intro b hb
      rcases List.mem_cons.mp hb with e | hb
      · rw [e]; exact hx.2.2
      · rw [List.mem_singleton.mp hb]; exact hdx.2.2
    case a3 =>
      intro p hp
      rcases List.mem_append.mp hp with hp | hp
      · refine after_led hH ?_ p hp
        intro q hq
        rcases List.mem_cons.mp hq with rfl | hq
        · exact fr_ne F' hn1
        rcases List.mem_cons.mp hq with rfl | hq
        · exact fr_ne F' hn2
        rcases List.mem_cons.mp hq with rfl | hq
        · exact hx.2.1
        rcases List.mem_cons.mp hq with rfl | hq
        · exact hdx.2.1
        · cases hq
      · refine after_news N1 hs ?_ p hp
        intro q hq hb
        have h1 : @LT.lt Nat _ q.1 dx := hlt q hq
        have hxd' : @LT.lt Nat _ dx x := hxd
        rcases List.mem_cons.mp hb with e | hb
        · have e' : @Eq Nat q.1 x := e
          omega
        · have e' : @Eq Nat q.1 dx := List.mem_singleton.mp hb
          omega
end WCt
section ILt
local macro_rules | `(tactic| walk_at "pad") => `(tactic| fail)
theorem offIL : True := by w_top off; trivial
local macro_rules | `(tactic| walk_at "exec For") => `(tactic| refine stop ?_)
local macro_rules | `(tactic| walk_at "exec For Name Call cons nil") => `(tactic| refine stop ?_)
local macro_rules | `(tactic| walk_at "pyIter") => `(tactic| refine stop ?_)
local macro_rules | `(tactic| walk_at "pyIter ref") => `(tactic| refine stop ?_)
local macro_rules | `(tactic| walk_at "sub") => `(tactic| first | exact List.forall_mem_nil _ | (refine' List.forall_mem_cons.mpr ⟨?a, ?b⟩; (case a => k_mem); (case b => walk_at "sub")))
local macro_rules | `(tactic| walk_at "call builtin:len") => `(tactic| (k_here; (with_reducible show wpAny _ _ (call (Value.builtin "len") [Value.ref _]) _ _ _); k_dflt (refine' my_lenT ?k1 ?k2 ?k3 ?k4 ?_; (case k1 => k_asm); (case k2 => k_mem); (case k3 => exact IntsAre.length (by assumption)); (case k4 => omega); k_whole)))
theorem c_indent (w : World) (loose : List PySem.Str) (mean : ExcName → Option Value) (mg mb : PySem.Str → Option Value) (s : Shared) (h₀ : Heap) (X : (Mine.frag.heap_1 w.params).In h₀) (T : Top Mine.view loose mean mg mb h₀) (hk : h₀.StaysIn s.heap) (x dx tn tc : Addr) (ws : PySem.Str) (t tb tn' tnt k1 k2 k3 k4 k5 : Tok) (vs : List Value) (cnt : List Int) (b n nt : Int) (size : Int) (tz : Tok) (R : Result → Shared → Prop)
  (hi : IntsAre vs cnt) (hcz : cnt.length ≤ 1000000) (h1 : 1 ≤ size) (hs16 : size ≤ 1000000)
  (hn : Has h₀ s.heap (wsObjs w.params 255 x dx tn tc ws t tb tn' tnt k1 k2 k3 k4 k5 vs cnt b n nt))
  (hR : ∀ h' tk tok, s.heap.StaysIn h' → R (.ok (.ret (.int (indent cnt b nt size) tok))) { s with heap := h', toks := tk }) :
  codeAny (model PySem.Challenge.rw_ta0081_03.row.prog w) (AC 5) (.call (.ref 224) ⟨[.ref x, .int size tz], []⟩) R s := by
  revert X
  k_fill
  intro X
  k_dflt (refine' enter (binds := [("self", .ref x), ("tabsize", .int size tz)]) (news := (wsObjs w.params 255 x dx tn tc ws t tb tn' tnt k1 k2 k3 k4 k5 vs cnt b n nt)) X T hk ?kn ?k6 ?k7 ?k8 ?k9 ?kB ?h ?c2 ?c3 ?c4 ?c5; (case kn => assumption); (case k6 => k_is); (case k7 => k_is); (case k8 => decide); (case k9 => exact BindsTo.of_eq rfl); (case c5 => decide); (case kB => exact locs rfl); (case c2 => exact rfl); (case c3 => exact rfl); (case c4 => exact rfl))
  clear X T
  intro g L h₁ hg hs F N X T
  (try dsimp only)
  dsimp only [wsObjs] at N
  k_steps
  unfold Stop
  refine For_led ?_ (fun _ => rfl)
  k_steps
  unfold Stop
  rename IsRange _ _ _ _ _ _ _ _ => hr
  rename Fr _ _ _ _ => F
  rename News _ _ _ _ => N
  refine' for_range (J := fun i m news => ∃ til, lks m [("self", .ref x), ("tabsize", .int size tz), ("count", .ref tc), ("trailing", .int b tb), ("il", .int (indIl cnt size i) til)] ∧ news = wsObjs w.params 255 x dx tn tc ws t tb tn' tnt k1 k2 k3 k4 k5 vs cnt b n nt)
     (Jx := fun m news => ∃ til, lks m [("self", .ref x), ("tabsize", .int size tz), ("count", .ref tc), ("trailing", .int b tb), ("il", .int (indIl cnt size ((cnt.length : Int) - size).toNat) til)] ∧ news = wsObjs w.params 255 x dx tn tc ws t tb tn' tnt k1 k2 k3 k4 k5 vs cnt b n nt) hr ?sm (rangeSize_nat _ _) ?h1 F N ?j0 ?turn ?jx ?done
  case sm => exact small_one (by omega) (by omega) (by omega) (by omega)
  case h1 => rfl
  case j0 => exact ⟨_, ⟨rfl, rfl, rfl, rfl, rfl, trivial⟩, rfl⟩
  case jx => exact fun m news h => h
  case turn =>
    clear F N
    rintro i u m news h tk I o hlt ⟨til, hm, rfl⟩ hnI F N
    replace F := fr_bd F _ hm
    dsimp only [bd] at F
    rw [Int.mul_one]
    have hq : 0 ≤ Int.fdiv (size + i) size ∧ Int.fdiv (size + i) size ≤ 2000000 := by
      rw [Int.fdiv_eq_ediv_of_nonneg _ (by omega)]
      refine ⟨Int.ediv_nonneg (by omega) (by omega), ?_⟩
      exact Int.le_trans (Int.ediv_le_self _ (by omega)) (by omega)
    k_steps
    exact ⟨_, _, _, _, rfl, by assumption, by assumption, hnI, _, ⟨rfl, rfl, rfl, rfl, rfl, trivial⟩, rfl⟩
  case done =>
    clear F N
    rintro h tk m news ⟨til, hm, rfl⟩ F N
    replace F := fr_bd F _ hm
    dsimp only [bd] at F
    k_steps
    exact hR _ _ _ (stays_of hs hn F.keep N)

theorem c_indentC {w : World} {loose : List PySem.Str} {mean : ExcName → Option Value} {mg mb : PySem.Str → Option Value} {s : Shared} {h₀ : Heap} {L : Addr} {m : PySem.Str → Option Value} {news : List (Addr × Obj)} {A' : Around} (F : Fr h₀ L s.heap m) (N : News h₀ L s.heap news) (X : (Mine.frag.heap_1 w.params).In h₀) (T : Top Mine.view loose mean mg mb h₀) (hA : A'.handled = none) (hAd : A'.depth ≤ 300 + 20 * 5) (hAu : A'.units ≤ 1000 * 5) {x dx tn tc : Addr} {ws : PySem.Str} {t tb tn' tnt k1 k2 k3 k4 k5 : Tok} {vs : List Value} {cnt : List Int} {b n nt : Int} {size : Int} {tz : Tok} {Q : Value → Shared → Prop}
  (hm : ∀ q ∈ wsObjs w.params 255 x dx tn tc ws t tb tn' tnt k1 k2 k3 k4 k5 vs cnt b n nt, q ∈ news) (hi : IntsAre vs cnt) (hcz : cnt.length ≤ 1000000) (h1 : 1 ≤ size) (hs16 : size ≤ 1000000)
  (hQ : ∀ h' tk tok, Fr h₀ L h' m → News h₀ L h' news → Q (.int (indent cnt b nt size) tok) { s with heap := h', toks := tk }) :
  wpAny (model PySem.Challenge.rw_ta0081_03.row.prog w) A' (call (.ref 224) [.ref x, .int size tz]) Q NoE s :=
  lift_A (A := AC 5) (wpAny_call (c_indent w loose mean mg mb s h₀ X T F.keep x dx tn tc ws t tb tn' tnt k1 k2 k3 k4 k5 vs cnt b n nt size tz _ hi hcz h1 hs16 (fun q hq => ⟨(N q (hm q hq)).1, (N q (hm q hq)).2.2⟩) fun h' tk tok k => hQ h' tk tok (fr_stay F k) (news_stay N k))) hA.symm hAd hAu rfl rfl
end ILt
section UXt
theorem offUX : True := by w_top off; trivial
theorem offE {α : Type} {M : Model} {A : Around} {t : Sem α} {Q : α → Shared → Prop} {E : Value → Shared → Prop} {s : Shared} (h : wpAny M A t Q NoE s) : wpAny M A t Q E s := wpAny_mono h (fun _ _ q => q) fun _ _ e => e.elim
/-- numbers that are not below nought -/
def SJ (ys : List Value) : Prop := ∃ ns : List Int, IntsAre ys ns ∧ ∀ n ∈ ns, 0 ≤ n
theorem slice_in {w : List Value} {ns : List Int} {lo hi st : Option Int} {i : Nat} {v : Value} (hI : IntsAre w ns) (h : (slicePick w.toArray lo hi st)[i]? = some v) : ∃ n t, v = .int n t := by
  have h1 : v ∈ (slicePick w.toArray lo hi st).toList := by
    have := Array.getElem?_toList (xs := slicePick w.toArray lo hi st) (i := i)
    rw [h] at this
    exact List.mem_of_getElem? this
  unfold slicePick at h1
  obtain ⟨k, _, hk⟩ := List.mem_filterMap.mp h1
  have h2 : v ∈ w := by simpa using Array.mem_of_getElem? hk
  exact hI.all v h2
theorem sum_low : ∀ ns : List Int, (∀ n ∈ ns, 0 ≤ n) → 0 ≤ ns.sum
  | [], _ => Int.le_refl 0
  | a :: r, h => by
    have := sum_low r fun n hn => h n (.tail _ hn)
    have := h a (.head _)
    rw [List.sum_cons]; omega
theorem tabs_run (cs : List Nat) : wsRun (⟨(tabs cs).toArray⟩ : PySem.Str).cps.toList [] 0 0 0 = (counts [] cs, 0, ((cs.sum + cs.length : Nat) : Int), (cs.length : Int)) := by
  have := wsRun_tabs [] cs [] 0 0
  rw [List.append_nil] at this
  show wsRun (tabs cs) [] 0 0 0 = _
  rw [this, Int.zero_add, Int.zero_add]
  rfl
section
variable {prog : Program} {w : World} {A : Around} {s : Shared} {env : Env} {Q : Flow → Shared → Prop}
end
/-- a list of the numbers told so far -/
def VJ (o : Nat → Nat) (i : Nat) (ys : List Value) : Prop := ys.length = i ∧ ∀ k, k < i → ∃ t, ys[k]? = some (.int (o k : Int) t)
theorem VJ.nil {o : Nat → Nat} : VJ o 0 [] := ⟨rfl, fun k h => absurd h (Nat.not_lt_zero _)⟩
theorem VJ.snoc {o : Nat → Nat} {i : Nat} {ys : List Value} {n : Int} {t : Tok} (h : VJ o i ys) (e : n = (o i : Int)) : VJ o (i + 1) (ys ++ [.int n t]) := by
  refine ⟨by simp [h.1], fun k hk => ?_⟩
  by_cases e2 : k < i
  · obtain ⟨u, hu⟩ := h.2 k e2
    exact ⟨u, by rw [List.getElem?_append_left (by rw [h.1]; exact e2)]; exact hu⟩
  · obtain rfl : k = i := by omega
    exact ⟨t, by rw [List.getElem?_append_right (by rw [h.1]; exact Nat.le_refl _), h.1, Nat.sub_self, e]; rfl⟩
section
open LCg
variable {prog : Program} {w : World} {A : Around} {s : Shared} {h₀ : Heap} {L : Addr} {m : PySem.Str → Option Value} {env : Env}
/-- turns without a test that add objects behind a ledger that stays -/
theorem compU_B {elt : PySem.Expr} {x : PySem.Str} {scope : Scope} {cl : List (PySem.Str × Addr)} {S : List (Addr × Obj) → Prop} {P : Nat → Value → Prop} {Fin : List Value → List (Addr × Obj) → Prop} {n : Nat} {news : List (Addr × Obj)}
    (J : Nat → List Value → List (Addr × Obj) → Prop)
    (turn : ∀ i ys tups v I oI C oC D m₂ h tk (E' : Value → Shared → Prop), J i ys tups → i < n → P i v → NsObj oC m₂ → m₂ x = some v → Fr h₀ L h m → News h₀ L h ((I, oI) :: (C, oC) :: (D, lst ys) :: (news ++ tups)) → Off3 I C D (news ++ tups) → ((@Ne Nat I C) ∧ (@Ne Nat I D) ∧ (@Ne Nat C D)) →
      wpAny (model prog w) A (eval elt (compEnvC scope cl C env)) (CompEnd h₀ L m { s with heap := h, toks := tk } I oI C oC D (lst ys) S (fun y news' => Stop (∃ tups', news' = news ++ tups' ∧ J (i + 1) (ys ++ [y]) tups'))) E' { s with heap := h, toks := tk })
    (done : ∀ ys tups, J n ys tups → Fin ys (news ++ tups)) (h0 : J 0 [] []) : CompRest prog w A h₀ L m env elt x scope cl s S P Fin n 0 [] news :=
  compU_J (fun i ys nw => ∃ tups, nw = news ++ tups ∧ J i ys tups) (fun i ys nw v I oI C oC D m₂ h tk E' hJ hi hP hC hx F N o3 ne => by
    obtain ⟨tups, rfl, hJ⟩ := hJ
    exact turn i ys tups v I oI C oC D m₂ h tk E' hJ hi hP hC hx F N o3 ne) (fun ys nw hJ => by obtain ⟨tups, rfl, hJ⟩ := hJ; exact done ys tups hJ) n 0 [] news (Nat.zero_add _) ⟨[], (List.append_nil _).symm, h0⟩
end
theorem lcol_app (a b : List Nat) (z : Nat) : lcol (a ++ b) z = lcol a z + lcol b z := by
  unfold lcol
  rw [List.map_append, List.sum_append, List.length_append, ← Nat.mul_add]
  congr 1; omega
theorem div_sum (z : Nat) : ∀ cs : List Nat, (cs.map (· / z)).sum ≤ cs.sum
  | [] => Nat.le_refl 0
  | a :: r => by
    have := div_sum z r
    have := Nat.div_le_self a z
    rw [List.map_cons, List.sum_cons, List.sum_cons]
    omega
/-- pairs told so far, as tuples behind the ledger -/
def TupJ (o : Nat → Tok → Tok → Obj) (i : Nat) (ys : List Value) (tups : List (Addr × Obj)) : Prop :=
  ∃ (q : Nat → Addr) (t u : Nat → Tok), ys = (List.range i).map (fun k => Value.ref (q k)) ∧ tups = (List.range i).map fun k => (q k, o k (t k) (u k))
theorem TupJ.nil {o : Nat → Tok → Tok → Obj} : TupJ o 0 [] [] := ⟨fun _ => 0, fun _ => 0, fun _ => 0, rfl, rfl⟩
theorem TupJ.snoc {o : Nat → Tok → Tok → Obj} {i : Nat} {ys : List Value} {tups : List (Addr × Obj)} {T : Addr} {ob : Obj} {t' u' : Tok} (h : TupJ o i ys tups) (e : ob = o i t' u') : TupJ o (i + 1) (ys ++ [.ref T]) (tups ++ [(T, ob)]) := by
  obtain ⟨q, t, u, rfl, rfl⟩ := h
  refine ⟨fun k => if k = i then T else q k, fun k => if k = i then t' else t k, fun k => if k = i then u' else u k, ?_, ?_⟩
  · rw [List.range_succ, List.map_append, List.map_cons, List.map_nil]
    dsimp only
    rw [if_pos rfl]
    congr 1
    exact List.map_congr_left fun k hk => by rw [if_neg (Nat.ne_of_lt (List.mem_range.mp hk))]
  · rw [List.range_succ, List.map_append, List.map_cons, List.map_nil, e]
    dsimp only
    rw [if_pos rfl, if_pos rfl, if_pos rfl]
    congr 1
    exact List.map_congr_left fun k hk => by rw [if_neg (Nat.ne_of_lt (List.mem_range.mp hk)), if_neg (Nat.ne_of_lt (List.mem_range.mp hk)), if_neg (Nat.ne_of_lt (List.mem_range.mp hk))]
theorem TupJ.three {o : Nat → Tok → Tok → Obj} {ys : List Value} {tups : List (Addr × Obj)} (h : TupJ o 3 ys tups) : ∃ (q : Nat → Addr) (t u : Nat → Tok), ys = [.ref (q 0), .ref (q 1), .ref (q 2)] ∧ tups = [(q 0, o 0 (t 0) (u 0)), (q 1, o 1 (t 1) (u 1)), (q 2, o 2 (t 2) (u 2))] := by
  obtain ⟨q, t, u, h1, h2⟩ := h
  exact ⟨q, t, u, h1, h2⟩
theorem TupJ.four {o : Nat → Tok → Tok → Obj} {ys : List Value} {tups : List (Addr × Obj)} (h : TupJ o 4 ys tups) : ∃ (q : Nat → Addr) (t u : Nat → Tok), ys = [.ref (q 0), .ref (q 1), .ref (q 2), .ref (q 3)] ∧ tups = [(q 0, o 0 (t 0) (u 0)), (q 1, o 1 (t 1) (u 1)), (q 2, o 2 (t 2) (u 2)), (q 3, o 3 (t 3) (u 3))] := by
  obtain ⟨q, t, u, h1, h2⟩ := h
  exact ⟨q, t, u, h1, h2⟩
end UXt
section WTt
theorem offWT : True := by w_top off; trivial
/-- a made Whitespace -/
structure WsT where
  x : Addr
  dx : Addr
  tn : Addr
  tc : Addr
  t : Tok
  tb : Tok
  tn' : Tok
  tnt : Tok
  k1 : Tok
  k2 : Tok
  k3 : Tok
  k4 : Tok
  k5 : Tok
  vs : List Value
abbrev tabsT (cs : List Nat) : PySem.Str := ⟨(tabs cs).toArray⟩
/-- its objects, for the runs cs -/
def wsOf (P : Params) (r : WsT) (cs : List Nat) : List (Addr × Obj) :=
  wsObjs P 255 r.x r.dx r.tn r.tc (tabsT cs) r.t r.tb r.tn' r.tnt r.k1 r.k2 r.k3 r.k4 r.k5 r.vs (counts [] cs) 0 ((cs.sum + cs.length : Nat) : Int) (cs.length : Int)
def WsOk (r : WsT) (cs : List Nat) : Prop := IntsAre r.vs (counts [] cs) ∧ (counts [] cs).length ≤ 1000000
theorem tabsT_ok {cs : List Nat} (h : cs.sum + cs.length ≤ 1000000) : (tabsT cs).cps.all (· < 128) = true ∧ (tabsT cs).cps.size ≤ 1000000 := by
  constructor
  · rw [Array.all_eq_true']
    intro k hk
    have hk : k ∈ tabs cs := by simpa using hk
    refine decide_eq_true ?_
    rcases tabs_mem _ _ hk with e | e <;> omega
  · show (tabs cs).toArray.size ≤ _
    rw [List.size_toArray, tabs_len]; exact h
theorem c_wsT (w : World) (loose : List PySem.Str) (mean : ExcName → Option Value) (mg mb : PySem.Str → Option Value) (s : Shared) (h₀ : Heap) (X : (Mine.frag.heap_1 w.params).In h₀) (T : Top Mine.view loose mean mg mb h₀) (hk : h₀.StaysIn s.heap) {L : Addr} {m : PySem.Str → Option Value} {news : List (Addr × Obj)} (F : Fr h₀ L s.heap m) (N : News h₀ L s.heap news)
  (cs : List Nat) (t : Tok) (Q : Value → Shared → Prop) (hz : cs.sum + cs.length ≤ 1000000)
  (hQ : ∀ h' tk r, WsOk r cs → Fr h₀ L h' m → News h₀ L h' (wsOf w.params r cs ++ news) → AllLt r.dx news → @LT.lt Nat _ r.dx r.x → @LT.lt Nat _ r.x r.tc → @LT.lt Nat _ r.tc r.tn → Q (.ref r.x) { s with heap := h', toks := tk }) :
  wpAny (model PySem.Challenge.rw_ta0081_03.row.prog w) (AC 4) (call (.ref 255) [.str (tabsT cs) t]) Q NoE s := by
  refine c_wsL w loose mean mg mb s h₀ X T hk F N (tabsT cs) t Q (tabsT_ok hz).1 (tabsT_ok hz).2 ?_
  intro h' tk x dx tn tc vs cnt b n nt tb tn' tnt k1 k2 k3 k4 k5 hi hl hr F N al be ce de
  rw [tabs_run] at hr
  obtain ⟨rfl, hw2⟩ := Prod.mk.inj hr
  obtain ⟨rfl, hw4⟩ := Prod.mk.inj hw2
  obtain ⟨rfl, rfl⟩ := Prod.mk.inj hw4
  exact hQ h' tk ⟨x, dx, tn, tc, t, tb, tn', tnt, k1, k2, k3, k4, k5, vs⟩ ⟨hi, hl⟩ F N al be ce de
theorem c_indentT {w : World} {loose : List PySem.Str} {mean : ExcName → Option Value} {mg mb : PySem.Str → Option Value} {s : Shared} {h₀ : Heap} {L : Addr} {m : PySem.Str → Option Value} {news : List (Addr × Obj)} {A' : Around} (F : Fr h₀ L s.heap m) (N : News h₀ L s.heap news) (X : (Mine.frag.heap_1 w.params).In h₀) (T : Top Mine.view loose mean mg mb h₀) (hA : A'.handled = none) (hAd : A'.depth ≤ 300 + 20 * 5) (hAu : A'.units ≤ 1000 * 5) {r : WsT} {cs : List Nat} {z : Nat} {tz : Tok} {Q : Value → Shared → Prop}
  (hm : ∀ q ∈ wsOf w.params r cs, q ∈ news) (ho : WsOk r cs) (h1 : 1 ≤ z) (h2 : z ≤ 1000000)
  (hQ : ∀ h' tk tok, Fr h₀ L h' m → News h₀ L h' news → Q (.int ((lcol cs z : Nat) : Int) tok) { s with heap := h', toks := tk }) :
  wpAny (model PySem.Challenge.rw_ta0081_03.row.prog w) A' (call (.ref 224) [.ref r.x, .int (z : Int) tz]) Q NoE s := by
  refine c_indentC F N X T hA hAd hAu hm ho.1 ho.2 (by omega) (by omega) ?_
  intro h' tk tok F N
  rw [indent_tabs h1, Int.zero_add]
  exact hQ h' tk tok F N
/-- the longest run, by the counts -/
def lrun (cs : List Nat) : Int := if (0 : Int) > ((counts [] cs).length : Int) - 1 then 0 else ((counts [] cs).length : Int) - 1
local macro_rules | `(tactic| walk_at "call builtin:len") => `(tactic| (k_here; (with_reducible show wpAny _ _ (call (Value.builtin "len") [Value.ref _]) _ _ _); k_dflt (refine' my_lenT ?k1 ?k2 ?k3 ?k4 ?_; (case k1 => k_asm); (case k2 => k_mem); (case k3 => exact IntsAre.length (by assumption)); (case k4 => omega); k_whole)))
theorem c_longest (w : World) (loose : List PySem.Str) (mean : ExcName → Option Value) (mg mb : PySem.Str → Option Value) (s : Shared) (h₀ : Heap) (X : (Mine.frag.heap_1 w.params).In h₀) (T : Top Mine.view loose mean mg mb h₀) (hk : h₀.StaysIn s.heap) (r : WsT) (cs : List Nat) (R : Result → Shared → Prop) (hn : Has h₀ s.heap (wsOf w.params r cs)) (ho : WsOk r cs)
  (hR : ∀ h' tk tok, s.heap.StaysIn h' → R (.ok (.ret (.int (lrun cs) tok))) { s with heap := h', toks := tk }) :
  codeAny (model PySem.Challenge.rw_ta0081_03.row.prog w) (AC 5) (.call (.ref 217) ⟨[.ref r.x], []⟩) R s := by
  revert X
  k_fill
  intro X
  k_dflt (refine' enter (binds := [("self", .ref r.x)]) (news := (wsOf w.params r cs)) X T hk ?kn ?k6 ?k7 ?k8 ?k9 ?kB ?h ?c2 ?c3 ?c4 ?c5; (case kn => assumption); (case k6 => k_is); (case k7 => k_is); (case k8 => decide); (case k9 => exact BindsTo.of_eq rfl); (case c5 => decide); (case kB => exact locs rfl); (case c2 => exact rfl); (case c3 => exact rfl); (case c4 => exact rfl))
  clear X T
  intro g L h₁ hg hs F N X T
  (try dsimp only)
  obtain ⟨hi, hlz⟩ := ho
  have N0 := N
  dsimp only [wsOf, wsObjs] at N
  k_steps
  rename Fr _ _ _ _ => F1
  rename News _ _ _ _ => N1
  exact hR _ _ _ (stays_of hs hn F1.keep N1)
theorem c_longestC {w : World} {loose : List PySem.Str} {mean : ExcName → Option Value} {mg mb : PySem.Str → Option Value} {s : Shared} {h₀ : Heap} {L : Addr} {m : PySem.Str → Option Value} {news : List (Addr × Obj)} {A' : Around} (F : Fr h₀ L s.heap m) (N : News h₀ L s.heap news) (X : (Mine.frag.heap_1 w.params).In h₀) (T : Top Mine.view loose mean mg mb h₀) (hA : A'.handled = none) (hAd : A'.depth ≤ 300 + 20 * 5) (hAu : A'.units ≤ 1000 * 5) {r : WsT} {cs : List Nat} {Q : Value → Shared → Prop}
  (hm : ∀ q ∈ wsOf w.params r cs, q ∈ news) (ho : WsOk r cs)
  (hQ : ∀ h' tk tok, Fr h₀ L h' m → News h₀ L h' news → Q (.int (lrun cs) tok) { s with heap := h', toks := tk }) :
  wpAny (model PySem.Challenge.rw_ta0081_03.row.prog w) A' (call (.ref 217) [.ref r.x]) Q NoE s :=
  lift_A (A := AC 5) (wpAny_call (c_longest w loose mean mg mb s h₀ X T F.keep r cs _ (fun q hq => ⟨(N q (hm q hq)).1, (N q (hm q hq)).2.2⟩) ho fun h' tk tok k => hQ h' tk tok (fr_stay F k) (news_stay N k))) hA.symm hAd hAu rfl rfl
end WTt
section WLt
theorem offWL : True := by w_top off; trivial
local macro_rules | `(tactic| walk_at "exec For") => `(tactic| refine stop ?_)
local macro_rules | `(tactic| walk_at "exec For Name Call cons nil") => `(tactic| refine stop ?_)
local macro_rules | `(tactic| walk_at "pyIter") => `(tactic| refine stop ?_)
local macro_rules | `(tactic| walk_at "pyIter ref") => `(tactic| refine stop ?_)
local macro_rules | `(tactic| walk_at "call ref") => `(tactic| refine stop ?_)
/-- how many sizes less looks at -/
def lsz (a b : List Nat) : Nat := (if lrun b > lrun a then lrun b else lrun a).toNat
/-- what less says -/
def lessB (a b : List Nat) : Bool :=
  if b.sum + b.length ≤ a.sum + a.length then false
  else if ((counts [] a).length : Int) ≤ 1 ∧ ((counts [] b).length : Int) ≤ 1 then decide (a.length ≤ b.length)
  else (List.range (lsz a b)).all fun i => decide (lcol a (i + 2) < lcol b (i + 2))
theorem less_1 {a b : List Nat} (h : ((b.sum + b.length : Nat) : Int) ≤ ((a.sum + a.length : Nat) : Int)) : lessB a b = false := by
  unfold lessB; rw [if_pos (by omega)]
theorem less_2 {a b : List Nat} (h : ¬ ((b.sum + b.length : Nat) : Int) ≤ ((a.sum + a.length : Nat) : Int)) (h1 : ((counts [] a).length : Int) ≤ 1) (h2 : ((counts [] b).length : Int) ≤ 1) : lessB a b = decide (((a.length : Nat) : Int) ≤ ((b.length : Nat) : Int)) := by
  unfold lessB; rw [if_neg (by omega), if_pos ⟨h1, h2⟩]; exact decide_eq_decide.mpr (by omega)
theorem lrun_small {r : WsT} {cs : List Nat} (h : WsOk r cs) : 0 ≤ lrun cs ∧ lrun cs ≤ 999999 := by
  have := h.2
  unfold lrun
  split <;> omega
theorem less_no {a b : List Nat} {i : Nat} (h : ¬ ((b.sum + b.length : Nat) : Int) ≤ ((a.sum + a.length : Nat) : Int)) (hns : ¬ (((counts [] a).length : Int) ≤ 1 ∧ ((counts [] b).length : Int) ≤ 1)) (hb : ¬ lcol a (i + 2) < lcol b (i + 2)) (hi : i < lsz a b) : lessB a b = false := by
  unfold lessB
  rw [if_neg (by omega), if_neg hns, List.all_eq_false]
  exact ⟨i, List.mem_range.mpr hi, by simpa using hb⟩
theorem less_yes {a b : List Nat} (h : ¬ ((b.sum + b.length : Nat) : Int) ≤ ((a.sum + a.length : Nat) : Int)) (hns : ¬ (((counts [] a).length : Int) ≤ 1 ∧ ((counts [] b).length : Int) ≤ 1)) (hb : ∀ k, k < lsz a b → lcol a (k + 2) < lcol b (k + 2)) : lessB a b = true := by
  unfold lessB
  rw [if_neg (by omega), if_neg hns, List.all_eq_true]
  exact fun k hk => decide_eq_true (hb k (List.mem_range.mp hk))
theorem c_less (w : World) (loose : List PySem.Str) (mean : ExcName → Option Value) (mg mb : PySem.Str → Option Value) (s : Shared) (h₀ : Heap) (X : (Mine.frag.heap_1 w.params).In h₀) (T : Top Mine.view loose mean mg mb h₀) (hk : h₀.StaysIn s.heap) (r q : WsT) (a b : List Nat) (t : Tok) (R : Result → Shared → Prop) (hn : Has h₀ s.heap (wsOf w.params r a ++ wsOf w.params q b)) (hra : WsOk r a) (hqb : WsOk q b)
  (hR : ∀ h' tk, s.heap.StaysIn h' → R (.ok (.ret (.bool (lessB a b)))) { s with heap := h', toks := tk }) :
  codeAny (model PySem.Challenge.rw_ta0081_03.row.prog w) (AC 4) (.call (.ref 245) ⟨[.ref r.x, .ref q.x], []⟩) R s := by
  revert X
  k_fill
  intro X
  k_dflt (refine' enter (binds := [("self", .ref r.x), ("other", .ref q.x)]) (news := (wsOf w.params r a ++ wsOf w.params q b)) X T hk ?kn ?k6 ?k7 ?k8 ?k9 ?kB ?h ?c2 ?c3 ?c4 ?c5; (case kn => assumption); (case k6 => k_is); (case k7 => k_is); (case k8 => decide); (case k9 => exact BindsTo.of_eq rfl); (case c5 => decide); (case kB => exact locs rfl); (case c2 => exact rfl); (case c3 => exact rfl); (case c4 => exact rfl))
  clear X T
  intro g L h₁ hg hs F N X T
  (try dsimp only)
  have N0 := N
  dsimp only [wsOf, wsObjs, List.cons_append, List.nil_append] at N
  k_steps
  · rename Fr _ _ _ _ => F1
    refine hR _ _ (stays_of hs hn F1.keep N0) |> cast (by rw [show lessB a b = false from less_1 (by assumption)])
  · rename Fr _ _ _ _ => F1
    refine hR _ _ (stays_of hs hn F1.keep N0) |> cast (by rw [show lessB a b = decide (((a.length : Nat) : Int) ≤ ((b.length : Nat) : Int)) from less_2 (by assumption) (by assumption) (by assumption)])
  · have hns : ¬ (((counts [] a).length : Int) ≤ 1 ∧ ((counts [] b).length : Int) ≤ 1) := fun h => absurd h.2 (by assumption)
    unfold Stop
    rename Fr _ _ _ _ => F1
    refine offE ?_
    refine c_longestC F1 N0 (by assumption) (by assumption) rfl (Nat.le_of_ble_eq_true rfl) (Nat.le_of_ble_eq_true rfl) (fun p hp => List.mem_append_left _ hp) hra ?_
    clear F1 N N0
    intro h2 tk2 tok2 F N0
    have N := N0
    dsimp only [wsOf, wsObjs, List.cons_append, List.nil_append] at N
    k_steps
    unfold Stop
    rename Fr _ _ _ _ => F1
    refine offE ?_
    refine c_longestC F1 N0 (by assumption) (by assumption) rfl (Nat.le_of_ble_eq_true rfl) (Nat.le_of_ble_eq_true rfl) (fun p hp => List.mem_append_right _ hp) hqb ?_
    clear F1 N N0
    intro h3 tk3 tok3 F N0
    have N := N0
    dsimp only [wsOf, wsObjs, List.cons_append, List.nil_append] at N
    obtain ⟨M, hM⟩ : ∃ M, M = (if lrun b > lrun a then lrun b else lrun a) := ⟨_, rfl⟩
    have hMz : 0 ≤ M ∧ M ≤ 999999 := by
      have hlra := lrun_small hra
      have hlqb := lrun_small hqb
      rw [hM]; split <;> omega
    have hMl : lsz a b = M.toNat := by rw [hM]; rfl
    k_steps
    unfold Stop
    rename Fr _ _ _ _ => F1
    rename News _ _ _ _ => N1
    rw [← hM] at F1
    refine For_led ?_ (fun _ => rfl)
    k_steps
    unfold Stop
    rename IsRange _ _ _ _ _ _ _ _ => hr
    rename Fr _ _ _ _ => F
    rename News _ _ _ _ => N9'
    have N9 : News g L _ (wsOf w.params r a ++ wsOf w.params q b) := N9'
    refine' for_range (J := fun i m news => lks m [("self", .ref r.x), ("other", .ref q.x)] ∧ news = wsOf w.params r a ++ wsOf w.params q b ∧ ∀ k, k < i → lcol a (k + 2) < lcol b (k + 2))
       (Jx := fun m news => news = wsOf w.params r a ++ wsOf w.params q b ∧ ∀ k, k < (M + 1 + 1 - 2).toNat → lcol a (k + 2) < lcol b (k + 2)) hr ?smA (rangeSize_nat _ _) ?h1A F N9 ?j0A ?turnA ?jxA ?doneA
    case smA => exact small_one (by omega) (by omega) (by omega) (by omega)
    case h1A => rfl
    case j0A => exact ⟨⟨rfl, rfl, trivial⟩, rfl, fun k h => absurd h (Nat.not_lt_zero _)⟩
    case jxA => exact fun m news h => ⟨h.2.1, h.2.2⟩
    case turnA =>
      clear F N9 N9'
      rintro i u m news h tk I o hlt ⟨hm, rfl, hJ⟩ hnI F N0
      replace F := fr_bd F _ hm
      dsimp only [bd] at F
      have N := N0
      dsimp only [wsOf, wsObjs, List.cons_append, List.nil_append] at N
      obtain ⟨z, hz⟩ : ∃ z : Nat, z = i + 2 := ⟨_, rfl⟩
      rw [show (2 : Int) + (i : Int) * 1 = (z : Int) by omega]
      k_steps
      unfold Stop
      rename Fr _ _ _ _ => F1
      rename News _ _ _ _ => N1
      have N2 : News g L _ ((I, o) :: (wsOf w.params r a ++ wsOf w.params q b)) := N1
      refine offE ?_
      refine c_indentT F1 N2 (by assumption) (by assumption) rfl (Nat.le_of_ble_eq_true rfl) (Nat.le_of_ble_eq_true rfl) (fun p hp => .tail _ (List.mem_append_left _ hp)) hra (by omega) (by omega) ?_
      clear F1 N1 N2 N0
      (try clear N)
      (try clear F)
      intro h2 tk2 tok2 F N0
      have N := N0
      dsimp only [wsOf, wsObjs, List.cons_append, List.nil_append] at N
      k_steps
      unfold Stop
      rename Fr _ _ _ _ => F1
      rename News _ _ _ _ => N1
      have N2 : News g L _ ((I, o) :: (wsOf w.params r a ++ wsOf w.params q b)) := N1
      refine offE ?_
      refine c_indentT F1 N2 (by assumption) (by assumption) rfl (Nat.le_of_ble_eq_true rfl) (Nat.le_of_ble_eq_true rfl) (fun p hp => .tail _ (List.mem_append_right _ hp)) hqb (by omega) (by omega) ?_
      clear F1 N1 N2 N0
      (try clear N)
      (try clear F)
      intro h3 tk3 tok3 F N0
      have N := N0
      dsimp only [wsOf, wsObjs, List.cons_append, List.nil_append] at N
      k_steps
      · rename Fr _ _ _ _ => F1
        rename News _ _ _ _ => N1
        have N2 : News g L _ ((I, o) :: (wsOf w.params r a ++ wsOf w.params q b)) := N1
        have hbad : ¬ lcol a (i + 2) < lcol b (i + 2) := by rw [← hz]; omega
        exact hR _ _ (stays_of hs hn F1.keep fun p hp => N2 p (.tail _ hp)) |> cast (by rw [less_no (by assumption) hns hbad (by omega)]; rfl)
      · rename Fr _ _ _ _ => F1
        rename News _ _ _ _ => N1
        have N2 : News g L _ ((I, o) :: (wsOf w.params r a ++ wsOf w.params q b)) := N1
        refine ⟨_, _, _, _, rfl, F1, N2, hnI, ⟨rfl, rfl, trivial⟩, rfl, fun k hk => ?_⟩
        by_cases e : k < i
        · exact hJ k e
        · obtain rfl : k = i := by omega
          rw [← hz]; omega
    case doneA =>
      clear F N9 N9'
      rintro h tk m news ⟨rfl, hJ⟩ F N0
      k_steps
      rename Fr _ _ _ _ => F1
      exact hR _ _ (stays_of hs hn F1.keep N0) |> cast (by rw [less_yes (by assumption) hns fun k hk => hJ k (by omega)])
  · have hns : ¬ (((counts [] a).length : Int) ≤ 1 ∧ ((counts [] b).length : Int) ≤ 1) := fun h => absurd h.1 (by assumption)
    unfold Stop
    rename Fr _ _ _ _ => F1
    refine offE ?_
    refine c_longestC F1 N0 (by assumption) (by assumption) rfl (Nat.le_of_ble_eq_true rfl) (Nat.le_of_ble_eq_true rfl) (fun p hp => List.mem_append_left _ hp) hra ?_
    clear F1 N N0
    intro h2 tk2 tok2 F N0
    have N := N0
    dsimp only [wsOf, wsObjs, List.cons_append, List.nil_append] at N
    k_steps
    unfold Stop
    rename Fr _ _ _ _ => F1
    refine offE ?_
    refine c_longestC F1 N0 (by assumption) (by assumption) rfl (Nat.le_of_ble_eq_true rfl) (Nat.le_of_ble_eq_true rfl) (fun p hp => List.mem_append_right _ hp) hqb ?_
    clear F1 N N0
    intro h3 tk3 tok3 F N0
    have N := N0
    dsimp only [wsOf, wsObjs, List.cons_append, List.nil_append] at N
    obtain ⟨M, hM⟩ : ∃ M, M = (if lrun b > lrun a then lrun b else lrun a) := ⟨_, rfl⟩
    have hMz : 0 ≤ M ∧ M ≤ 999999 := by
      have hlra := lrun_small hra
      have hlqb := lrun_small hqb
      rw [hM]; split <;> omega
    have hMl : lsz a b = M.toNat := by rw [hM]; rfl
    k_steps
    unfold Stop
    rename Fr _ _ _ _ => F1
    rename News _ _ _ _ => N1
    rw [← hM] at F1
    refine For_led ?_ (fun _ => rfl)
    k_steps
    unfold Stop
    rename IsRange _ _ _ _ _ _ _ _ => hr
    rename Fr _ _ _ _ => F
    rename News _ _ _ _ => N9'
    have N9 : News g L _ (wsOf w.params r a ++ wsOf w.params q b) := N9'
    refine' for_range (J := fun i m news => lks m [("self", .ref r.x), ("other", .ref q.x)] ∧ news = wsOf w.params r a ++ wsOf w.params q b ∧ ∀ k, k < i → lcol a (k + 2) < lcol b (k + 2))
       (Jx := fun m news => news = wsOf w.params r a ++ wsOf w.params q b ∧ ∀ k, k < (M + 1 + 1 - 2).toNat → lcol a (k + 2) < lcol b (k + 2)) hr ?smB (rangeSize_nat _ _) ?h1B F N9 ?j0B ?turnB ?jxB ?doneB
    case smB => exact small_one (by omega) (by omega) (by omega) (by omega)
    case h1B => rfl
    case j0B => exact ⟨⟨rfl, rfl, trivial⟩, rfl, fun k h => absurd h (Nat.not_lt_zero _)⟩
    case jxB => exact fun m news h => ⟨h.2.1, h.2.2⟩
    case turnB =>
      clear F N9 N9'
      rintro i u m news h tk I o hlt ⟨hm, rfl, hJ⟩ hnI F N0
      replace F := fr_bd F _ hm
      dsimp only [bd] at F
      have N := N0
      dsimp only [wsOf, wsObjs, List.cons_append, List.nil_append] at N
      obtain ⟨z, hz⟩ : ∃ z : Nat, z = i + 2 := ⟨_, rfl⟩
      rw [show (2 : Int) + (i : Int) * 1 = (z : Int) by omega]
      k_steps
      unfold Stop
      rename Fr _ _ _ _ => F1
      rename News _ _ _ _ => N1
      have N2 : News g L _ ((I, o) :: (wsOf w.params r a ++ wsOf w.params q b)) := N1
      refine offE ?_
      refine c_indentT F1 N2 (by assumption) (by assumption) rfl (Nat.le_of_ble_eq_true rfl) (Nat.le_of_ble_eq_true rfl) (fun p hp => .tail _ (List.mem_append_left _ hp)) hra (by omega) (by omega) ?_
      clear F1 N1 N2 N0
      (try clear N)
      (try clear F)
      intro h2 tk2 tok2 F N0
      have N := N0
      dsimp only [wsOf, wsObjs, List.cons_append, List.nil_append] at N
      k_steps
      unfold Stop
      rename Fr _ _ _ _ => F1
      rename News _ _ _ _ => N1
      have N2 : News g L _ ((I, o) :: (wsOf w.params r a ++ wsOf w.params q b)) := N1
      refine offE ?_
      refine c_indentT F1 N2 (by assumption) (by assumption) rfl (Nat.le_of_ble_eq_true rfl) (Nat.le_of_ble_eq_true rfl) (fun p hp => .tail _ (List.mem_append_right _ hp)) hqb (by omega) (by omega) ?_
      clear F1 N1 N2 N0
      (try clear N)
      (try clear F)
      intro h3 tk3 tok3 F N0
      have N := N0
      dsimp only [wsOf, wsObjs, List.cons_append, List.nil_append] at N
      k_steps
      · rename Fr _ _ _ _ => F1
        rename News _ _ _ _ => N1
        have N2 : News g L _ ((I, o) :: (wsOf w.params r a ++ wsOf w.params q b)) := N1
        have hbad : ¬ lcol a (i + 2) < lcol b (i + 2) := by rw [← hz]; omega
        exact hR _ _ (stays_of hs hn F1.keep fun p hp => N2 p (.tail _ hp)) |> cast (by rw [less_no (by assumption) hns hbad (by omega)]; rfl)
      · rename Fr _ _ _ _ => F1
        rename News _ _ _ _ => N1
        have N2 : News g L _ ((I, o) :: (wsOf w.params r a ++ wsOf w.params q b)) := N1
        refine ⟨_, _, _, _, rfl, F1, N2, hnI, ⟨rfl, rfl, trivial⟩, rfl, fun k hk => ?_⟩
        by_cases e : k < i
        · exact hJ k e
        · obtain rfl : k = i := by omega
          rw [← hz]; omega
    case doneB =>
      clear F N9 N9'
      rintro h tk m news ⟨rfl, hJ⟩ F N0
      k_steps
      rename Fr _ _ _ _ => F1
      exact hR _ _ (stays_of hs hn F1.keep N0) |> cast (by rw [less_yes (by assumption) hns fun k hk => hJ k (by omega)])
theorem c_lessC {w : World} {loose : List PySem.Str} {mean : ExcName → Option Value} {mg mb : PySem.Str → Option Value} {s : Shared} {h₀ : Heap} {L : Addr} {m : PySem.Str → Option Value} {news : List (Addr × Obj)} {A' : Around} (F : Fr h₀ L s.heap m) (N : News h₀ L s.heap news) (X : (Mine.frag.heap_1 w.params).In h₀) (T : Top Mine.view loose mean mg mb h₀) (hA : A'.handled = none) (hAd : A'.depth ≤ 300 + 20 * 4) (hAu : A'.units ≤ 1000 * 4) {r q : WsT} {a b : List Nat} {Q : Value → Shared → Prop}
  (hm : ∀ p ∈ wsOf w.params r a ++ wsOf w.params q b, p ∈ news) (hra : WsOk r a) (hqb : WsOk q b)
  (hQ : ∀ h' tk, Fr h₀ L h' m → News h₀ L h' news → Q (.bool (lessB a b)) { s with heap := h', toks := tk }) :
  wpAny (model PySem.Challenge.rw_ta0081_03.row.prog w) A' (call (.ref 245) [.ref r.x, .ref q.x]) Q NoE s :=
  lift_A (A := AC 4) (wpAny_call (c_less w loose mean mg mb s h₀ X T F.keep r q a b 0 _ (fun q hq => ⟨(N q (hm q hq)).1, (N q (hm q hq)).2.2⟩) hra hqb fun h' tk k => hQ h' tk (fr_stay F k) (news_stay N k))) hA.symm hAd hAu rfl rfl
end WLt
section WEt
theorem offWE : True := by w_top off; trivial
local macro_rules | `(tactic| walk_at "compareOp") => `(tactic| refine stop ?_)
local macro_rules | `(tactic| walk_at "compareOp Eq ref ref") => `(tactic| refine stop ?_)
local macro_rules | `(tactic| walk_at "compareOp Eq") => `(tactic| refine stop ?_)
theorem ints_lay : ∀ ns : List Int, PyData.canLayAll0 (ns.map PyData.int) = true
  | [] => by simp [PyData.canLayAll0]
  | _ :: r => by
    have := ints_lay r
    simp [PyData.canLayAll0, PyData.canLay0, this]
theorem ints_depth : ∀ ns : List Int, PyData.depthAll (ns.map PyData.int) = 0
  | [] => by simp [PyData.depthAll]
  | _ :: r => by
    have := ints_depth r
    simp [PyData.depthAll, PyData.depth, this]
theorem ints_eqv : ∀ a b : List Int, PyData.eqvAll (a.map PyData.int) (b.map PyData.int) = decide (a = b)
  | [], [] => by simp [PyData.eqvAll]
  | [], _ :: _ => by simp [PyData.eqvAll]
  | _ :: _, [] => by simp [PyData.eqvAll]
  | x :: a, y :: b => by
    have := ints_eqv a b
    simp only [List.map_cons, PyData.eqvAll, PyData.eqv, this, List.cons.injEq, Bool.decide_and]
    rfl
/-- the norm, as data -/
def normD (ns : List Int) : PyData := .tuple [.tuple (ns.map PyData.int), .int 0]
theorem norm_shaped (ns : List Int) : SeqAt.shaped (normD ns) = true := by
  simp [SeqAt.shaped, normD, PyData.canLay0, PyData.canLayAll0, PyData.depth, PyData.depthAll, ints_lay, ints_depth]
theorem norm_eqv (a b : List Int) : PyData.eqv (normD a) (normD b) = decide (a = b) := by
  simp [normD, PyData.eqv, PyData.eqvAll, ints_eqv]
theorem c_equal (w : World) (loose : List PySem.Str) (mean : ExcName → Option Value) (mg mb : PySem.Str → Option Value) (s : Shared) (h₀ : Heap) (X : (Mine.frag.heap_1 w.params).In h₀) (T : Top Mine.view loose mean mg mb h₀) (hk : h₀.StaysIn s.heap) (r q : WsT) (a b : List Nat) (t : Tok) (R : Result → Shared → Prop) (hn : Has h₀ s.heap (wsOf w.params r a ++ wsOf w.params q b)) (hra : WsOk r a) (hqb : WsOk q b)
  (hR : ∀ h' tk, s.heap.StaysIn h' → R (.ok (.ret (.bool (decide (counts [] a = counts [] b))))) { s with heap := h', toks := tk }) :
  codeAny (model PySem.Challenge.rw_ta0081_03.row.prog w) (AC 4) (.call (.ref 231) ⟨[.ref r.x, .ref q.x], []⟩) R s := by
  revert X
  k_fill
  intro X
  k_dflt (refine' enter (binds := [("self", .ref r.x), ("other", .ref q.x)]) (news := (wsOf w.params r a ++ wsOf w.params q b)) X T hk ?kn ?k6 ?k7 ?k8 ?k9 ?kB ?h ?c2 ?c3 ?c4 ?c5; (case kn => assumption); (case k6 => k_is); (case k7 => k_is); (case k8 => decide); (case k9 => exact BindsTo.of_eq rfl); (case c5 => decide); (case kB => exact locs rfl); (case c2 => exact rfl); (case c3 => exact rfl); (case c4 => exact rfl))
  clear X T
  intro g L h₁ hg hs F N X T
  (try dsimp only)
  have N0 := N
  dsimp only [wsOf, wsObjs, List.cons_append, List.nil_append] at N
  k_steps
  unfold Stop
  rename Fr _ _ _ _ => F1
  have hgo : ∀ (r : WsT) (a : List Nat), WsOk r a → (∀ p ∈ wsOf w.params r a, p ∈ wsOf w.params r a) → News g L h₁ (wsOf w.params r a) → ∃ as, Reads h₁ (.ref r.tn) (normD (counts [] a)) as := by
    intro r a hr _ N
    have e1 := (N _ (.head _)).1
    have e2 := (N _ (.tail _ (.head _))).1
    exact ⟨_, reads_tuple_at e1 rfl rfl (ReadsAll.cons (reads_tuple_at e2 rfl rfl (IntsAre.reads _ hr.1)) (ReadsAll.cons (Reads.int _ _) ReadsAll.nil))⟩
  obtain ⟨as, r1⟩ := hgo r a hra (fun _ h => h) (fun p hp => N0 p (List.mem_append_left _ hp))
  obtain ⟨bs, r2⟩ := hgo q b hqb (fun _ h => h) (fun p hp => N0 p (List.mem_append_right _ hp))
  refine eq_dataH r1 r2 (norm_shaped _) (norm_shaped _) (Nat.le_of_ble_eq_true rfl) ?_
  rw [norm_eqv]
  exact hR _ _ (stays_of hs hn F1.keep N0)
theorem c_equalC {w : World} {loose : List PySem.Str} {mean : ExcName → Option Value} {mg mb : PySem.Str → Option Value} {s : Shared} {h₀ : Heap} {L : Addr} {m : PySem.Str → Option Value} {news : List (Addr × Obj)} {A' : Around} (F : Fr h₀ L s.heap m) (N : News h₀ L s.heap news) (X : (Mine.frag.heap_1 w.params).In h₀) (T : Top Mine.view loose mean mg mb h₀) (hA : A'.handled = none) (hAd : A'.depth ≤ 300 + 20 * 4) (hAu : A'.units ≤ 1000 * 4) {r q : WsT} {a b : List Nat} {Q : Value → Shared → Prop}
  (hm : ∀ p ∈ wsOf w.params r a ++ wsOf w.params q b, p ∈ news) (hra : WsOk r a) (hqb : WsOk q b)
  (hQ : ∀ h' tk, Fr h₀ L h' m → News h₀ L h' news → Q (.bool (decide (counts [] a = counts [] b))) { s with heap := h', toks := tk }) :
  wpAny (model PySem.Challenge.rw_ta0081_03.row.prog w) A' (call (.ref 231) [.ref r.x, .ref q.x]) Q NoE s :=
  lift_A (A := AC 4) (wpAny_call (c_equal w loose mean mg mb s h₀ X T F.keep r q a b 0 _ (fun q hq => ⟨(N q (hm q hq)).1, (N q (hm q hq)).2.2⟩) hra hqb fun h' tk k => hQ h' tk (fr_stay F k) (news_stay N k))) hA.symm hAd hAu rfl rfl
end WEt
section CVt
theorem offCV : True := by w_top off; trivial
local macro_rules | `(tactic| walk_at "getMethod ref") => `(tactic| (k_here; k_dflt (refine' rx_methodK ?k1 ?k2 ?_; (case k1 => k_in); (case k2 => k_is); k_whole)))
local macro_rules | `(tactic| walk_at "call builtin:re.Pattern.search") => `(tactic| (k_here; k_dflt (refine' rx_searchK ?k1 ?k2 ?k3 ?k4 ?k5 ?k6 ?_; (case k1 => k_in); (case k2 => k_is); (case k3 => k_is); (case k5 => assumption); (case k4 => exact rfl); (case k6 => assumption); k_whole)))
theorem c_conv (w : World) (loose : List PySem.Str) (mean : ExcName → Option Value) (mg mb : PySem.Str → Option Value) (s : Shared) (h₀ : Heap) (X : (Mine.frag.heap_1 w.params).In h₀) (T : Top Mine.view loose mean mg mb h₀) (hk : h₀.StaysIn s.heap) (x : Value) (v : PySem.Str) (t : Tok) (nm : Bool) (R : Result → Shared → Prop) (hv : ∀ c ∈ v.cps.toList, (32 ≤ c ∨ (nm = false ∧ c = 9)) ∧ c < 127) (hz : v.cps.size ≤ 1000000)
  (hR : ∀ h' tk, s.heap.StaysIn h' → R (.ok (.ret (.str v t))) { s with heap := h', toks := tk }) :
  codeAny (model PySem.Challenge.rw_ta0081_03.row.prog w) (AC 8) (.call (.ref 83) ⟨[x, .str v t], [("name", .bool nm)]⟩) R s := by
  revert X
  k_fill
  intro X
  k_dflt (refine' enter (binds := [("self", x), ("value", .str v t), ("name", .bool nm)]) (news := []) X T hk ?kn ?k6 ?k7 ?k8 ?k9 ?kB ?h ?c2 ?c3 ?c4 ?c5; (case kn => exact fun q hq => nomatch hq); (case k6 => k_is); (case k7 => k_is); (case k8 => decide); (case k9 => exact BindsTo.of_eq rfl); (case c5 => decide); (case kB => exact locs rfl); (case c2 => exact rfl); (case c3 => exact rfl); (case c4 => exact rfl))
  clear X T
  intro g L h₁ hg hs F N X T
  (try dsimp only)
  cases nm <;> k_steps
  all_goals exact hR _ _ (fun b o e => Fr.keep (by assumption) b o (hs b o e (fun h => nomatch h)))
theorem c_convC {w : World} {loose : List PySem.Str} {mean : ExcName → Option Value} {mg mb : PySem.Str → Option Value} {s : Shared} {h₀ : Heap} {L : Addr} {m : PySem.Str → Option Value} {news : List (Addr × Obj)} {A' : Around} (F : Fr h₀ L s.heap m) (N : News h₀ L s.heap news) (X : (Mine.frag.heap_1 w.params).In h₀) (T : Top Mine.view loose mean mg mb h₀) (hA : A'.handled = none) (hAd : A'.depth ≤ 300 + 20 * 8) (hAu : A'.units ≤ 1000 * 8) (x : Value) (v : PySem.Str) (t : Tok) (nm : Bool) (Q : Value → Shared → Prop) (hv : ∀ c ∈ v.cps.toList, (32 ≤ c ∨ (nm = false ∧ c = 9)) ∧ c < 127) (hz : v.cps.size ≤ 1000000)
  (hQ : ∀ h' tk, Fr h₀ L h' m → News h₀ L h' news → Q (.str v t) { s with heap := h', toks := tk }) :
  wpAny (model PySem.Challenge.rw_ta0081_03.row.prog w) A' (call (.ref 83) [x, .str v t] [("name", .bool nm)]) Q NoE s :=
  lift_A (A := AC 8) (wpAny_call (c_conv w loose mean mg mb s h₀ X T F.keep x v t nm _ hv hz fun h' tk k => hQ h' tk (fr_stay F k) (news_stay N k))) hA.symm hAd hAu rfl rfl
end CVt
section HIt
theorem offHI : True := by w_top off; trivial
local macro_rules | `(tactic| walk_at "exec For") => `(tactic| refine stop ?_)
local macro_rules | `(tactic| walk_at "exec For Tuple") => `(tactic| refine stop ?_)
local macro_rules | `(tactic| walk_at "exec For Tuple Name cons nil") => `(tactic| refine stop ?_)
local macro_rules | `(tactic| walk_at "pyIter") => `(tactic| refine stop ?_)
local macro_rules | `(tactic| walk_at "pyIter ref") => `(tactic| refine stop ?_)
local macro_rules | `(tactic| walk_at "sub") => `(tactic| first | exact List.forall_mem_nil _ | (refine' List.forall_mem_cons.mpr ⟨?a, ?b⟩; (case a => k_mem); (case b => walk_at "sub")))
local macro_rules | `(tactic| walk_at "call ref") => `(tactic| (k_here; k_dflt (refine' c_convC ?k1 ?k2 ?k3 ?k4 ?a1 ?a2 ?a3 _ _ _ _ _ ?k5 ?k6 ?_; (case k1 => k_asm); (case k2 => k_asm); (case k3 => k_asm); (case k4 => k_asm); (case a1 => exact rfl); (case a2 => exact Nat.le_of_ble_eq_true rfl); (case a3 => exact Nat.le_of_ble_eq_true rfl); (case k5 => first | exact cleanN.ok (by assumption) | exact cleanV.ok (by assumption)); (case k6 => first | exact And.right (a := ∀ c ∈ _, 32 ≤ c ∧ c < 127) (by assumption) | exact And.right (a := ∀ c ∈ _, (32 ≤ c ∨ c = 9) ∧ c < 127) (by assumption)); k_whole); intro h' tk' F' N'))
theorem c_hinit (w : World) (loose : List PySem.Str) (mean : ExcName → Option Value) (mg mb : PySem.Str → Option Value) (s : Shared) (h₀ : Heap) (X : (Mine.frag.heap_1 w.params).In h₀) (T : Top Mine.view loose mean mg mb h₀) (hk : h₀.StaysIn s.heap) (x dx l : Addr) (vs : List Value) (n : Nat) (tbl : List (PySem.Str × PySem.Str)) (R : Result → Shared → Prop)
  (hn : Has h₀ s.heap [(x, instObj 182 dx), (dx, dictOf [] 0), (l, listOf vs.toArray n)]) (hp : PairsAt s.heap vs tbl) (hc : ∀ p ∈ tbl, cleanN p.1 ∧ cleanV p.2) (hz : vs.length ≤ 1000) (hlt : @LT.lt Nat _ dx x) (hne : @Ne Nat l dx)
  (hR : ∀ h' tk k, SB s.heap h' [dx] → h'.get? dx = some (dictOf [strKey w.params "_headers" k (.ref l)] 1) → R (.ok (.ret .none)) { s with heap := h', toks := tk }) :
  codeAny (model PySem.Challenge.rw_ta0081_03.row.prog w) (AC 6) (.call (.ref 76) ⟨[.ref x, .ref l], []⟩) R s := by
  revert X
  k_fill
  intro X
  k_dflt (refine' enter (binds := [("self", .ref x), ("headers", .ref l)]) (news := [(x, instObj 182 dx), (dx, dictOf [] 0), (l, listOf vs.toArray n)]) X T hk ?kn ?k6 ?k7 ?k8 ?k9 ?kB ?h ?c2 ?c3 ?c4 ?c5; (case kn => assumption); (case k6 => k_is); (case k7 => k_is); (case k8 => decide); (case k9 => (refine' binds_K (X.keeps fun b o e => hk b o e) ?d1 ?d2 ?d3 ?d4 ?d5; (case d1 => exact rfl); (case d2 => k_is); (case d3 => exact rfl); (case d4 => exact rfl); (case d5 => exact rfl))); (case c5 => decide); (case kB => exact locs rfl); (case c2 => exact rfl); (case c3 => exact rfl); (case c4 => exact rfl))
  clear X T
  intro g L h₁ hg hs F N X T
  (try dsimp only)
  have hpg := hp.sub hs (fun q hq => (hn q hq).1) rfl
  k_steps
  unfold Stop
  refine For_led ?_ (fun _ => rfl)
  k_steps
  unfold Stop
  rename Fr _ _ _ _ => F
  rename News _ _ _ _ => N
  refine' for_list (vs := vs) (kl := [(l, listOf vs.toArray n)]) (J := fun i m news => ∃ k, lks m [("self", .ref x), ("headers", .ref l)] ∧ news = [(x, instObj 182 dx), (dx, dictOf [strKey w.params "_headers" k (.ref l)] 1), (l, listOf vs.toArray n)])
     (Jx := fun m news => ∃ k, lks m [("self", .ref x), ("headers", .ref l)] ∧ news = [(x, instObj 182 dx), (dx, dictOf [strKey w.params "_headers" k (.ref l)] 1), (l, listOf vs.toArray n)]) ?hl (.inr ⟨_, .head _⟩) ?hA F N ?kl ?j0 ?turn ?jx ?done
  case hl => exact ⟨_, (N _ (.tail _ (.tail _ (.head _)))).1, rfl, n, rfl⟩
  case hA => rfl
  case kl =>
    rintro i m news ⟨k, _, rfl⟩ p hp
    rw [List.mem_singleton.mp hp]
    exact .tail _ (.tail _ (.head _))
  case j0 => exact ⟨_, ⟨rfl, rfl, trivial⟩, rfl⟩
  case jx => exact fun m news h => h
  case turn =>
    clear F N
    rintro i v m news h tk I o hv ⟨k, hm, rfl⟩ hnI F N
    obtain ⟨p, hpi, a, t1, t2, rfl, ha⟩ := hpg.2 i v hv
    have ht : IsTup g a #[.str p.1 t1, .str p.2 t2] := ⟨_, ha, rfl, 0, rfl⟩
    obtain ⟨hc1, hc2⟩ := hc p (List.mem_of_getElem? hpi)
    replace F := fr_bd F _ hm
    dsimp only [bd] at F
    k_steps
    exact ⟨_, _, _, _, rfl, by assumption, by assumption, hnI, k, ⟨rfl, rfl, trivial⟩, rfl⟩
  case done =>
    clear F N
    rintro h tk m news ⟨k, hm, rfl⟩ F N
    k_steps
    refine hR _ _ k (sb_of hs hn F.keep N ?_) (N _ (.tail _ (.head _))).1
    intro q hq
    rcases List.mem_cons.mp hq with rfl | hq
    · exact .inr (.head _)
    rcases List.mem_cons.mp hq with rfl | hq
    · exact .inl (.head _)
    rcases List.mem_cons.mp hq with rfl | hq
    · exact .inr (.tail _ (.tail _ (.head _)))
    · cases hq
end HIt
section HNt
theorem offHN : True := by w_top off; trivial
theorem c_hnew (w : World) (loose : List PySem.Str) (mean : ExcName → Option Value) (mg mb : PySem.Str → Option Value) (s : Shared) (h₀ : Heap) (X : (Mine.frag.heap_1 w.params).In h₀) (T : Top Mine.view loose mean mg mb h₀) (hk : h₀.StaysIn s.heap) {L : Addr} {m : PySem.Str → Option Value} {news : List (Addr × Obj)} (F : Fr h₀ L s.heap m) (N : News h₀ L s.heap news)
  (l : Addr) (vs : List Value) (n : Nat) (tbl : List (PySem.Str × PySem.Str)) (Q : Value → Shared → Prop) (hl : (l, listOf vs.toArray n) ∈ news) (hp : PairsIn h₀ news vs tbl) (hc : ∀ p ∈ tbl, cleanN p.1 ∧ cleanV p.2) (hz : vs.length ≤ 1000)
  (hQ : ∀ h' tk x dx k, Fr h₀ L h' m → News h₀ L h' ((x, instObj 182 dx) :: (dx, dictOf [strKey w.params "_headers" k (.ref l)] 1) :: news) → AllLt dx news → @LT.lt Nat _ dx x → Q (.ref x) { s with heap := h', toks := tk }) :
  wpAny (model PySem.Challenge.rw_ta0081_03.row.prog w) (AC 5) (call (.ref 182) [.ref l]) Q NoE s := by
  revert X
  k_fill
  intro X
  k_dflt (refine' call_cls F X N ?k1 ?k2 ?k3 ?h; (case k1 => k_is); (case k2 => k_is); (case k3 => k_is))
  intro x dx h' F' N' hlt hxd
  have hxd' : @LT.lt Nat _ dx x := hxd
  have hll : @LT.lt Nat _ l dx := hlt _ hl
  have hpp := hp.at F' (fun p hp => N' p (.tail _ (.tail _ hp)))
  refine' lift_C (A := AC 6) (c_hinit w loose mean mg mb { s with heap := h' } h₀ X T (fun b o e => F'.keep b o e) x dx l vs n tbl _ ?hn hpp hc hz hxd ?hne ?hR) rfl ?d ?u rfl rfl
  case d => exact Nat.le_of_ble_eq_true rfl
  case u => exact Nat.le_of_ble_eq_true rfl
  case hne => exact Nat.ne_of_lt hll
  case hn =>
    intro q hq
    rcases List.mem_cons.mp hq with rfl | hq
    · exact ⟨(N' _ (.head _)).1, (N' _ (.head _)).2.2⟩
    rcases List.mem_cons.mp hq with rfl | hq
    · exact ⟨(N' _ (.tail _ (.head _))).1, (N' _ (.tail _ (.head _))).2.2⟩
    · rw [List.mem_singleton.mp hq]
      exact ⟨(N' _ (.tail _ (.tail _ hl))).1, (N' _ (.tail _ (.tail _ hl))).2.2⟩
  case hR =>
    intro h2 tk k hs hd
    have hx := N' _ (.head _)
    have hdx := N' _ (.tail _ (.head _))
    refine ⟨rfl, hQ h2 tk x dx k (after_fr F' hs ?a1 ?a2) ?a3 (allLt_of hlt) hxd⟩
    case a1 => exact fun q => hdx.2.1 (List.mem_singleton.mp q).symm
    case a2 => exact fun b hb => by rw [List.mem_singleton.mp hb]; exact hdx.2.2
    case a3 =>
      intro p hp'
      rcases List.mem_cons.mp hp' with rfl | hp'
      · exact ⟨hs _ _ hx.1 (fun q => Nat.ne_of_gt hxd' (List.mem_singleton.mp q)), hx.2⟩
      rcases List.mem_cons.mp hp' with rfl | hp'
      · exact ⟨hd, hdx.2⟩
      · exact ⟨hs _ _ (N' p (.tail _ (.tail _ hp'))).1 (fun q => Nat.ne_of_lt (hlt p hp') (List.mem_singleton.mp q)), (N' p (.tail _ (.tail _ hp'))).2⟩
end HNt
section HDt
theorem offHD : True := by w_top off; trivial
local macro_rules | `(tactic| walk_at "sub") => `(tactic| first | exact List.forall_mem_nil _ | (refine' List.forall_mem_cons.mpr ⟨?a, ?b⟩; (case a => k_mem); (case b => walk_at "sub")))
local macro_rules | `(tactic| walk_at "call ref") => `(tactic| (k_here; k_dflt (refine' c_convC ?k1 ?k2 ?k3 ?k4 ?a1 ?a2 ?a3 _ _ _ _ _ ?k5 ?k6 ?_; (case k1 => k_asm); (case k2 => k_asm); (case k3 => k_asm); (case k4 => k_asm); (case a1 => exact rfl); (case a2 => exact Nat.le_of_ble_eq_true rfl); (case a3 => exact Nat.le_of_ble_eq_true rfl); (case k5 => first | exact cleanN.ok (by assumption) | exact cleanV.ok (by assumption)); (case k6 => first | exact And.right (a := ∀ c ∈ _, 32 ≤ c ∧ c < 127) (by assumption) | exact And.right (a := ∀ c ∈ _, (32 ≤ c ∨ c = 9) ∧ c < 127) (by assumption)); k_whole); intro h' tk' F' N'))
local macro_rules | `(tactic| walk_at "call builtin:str.lower") => `(tactic| (k_here; (with_reducible show wpAny _ _ (call (Value.builtin "str.lower") [Value.str _ _]) _ _ _); k_dflt (refine' SCL.lower ?k1 ?_; (case k1 => first | exact cleanN.low (by assumption))); intro _))
local macro_rules | `(tactic| walk_at "CompSrcT") => `(tactic| refine stop ?_)
theorem c_hdel (w : World) (loose : List PySem.Str) (mean : ExcName → Option Value) (mg mb : PySem.Str → Option Value) (s : Shared) (h₀ : Heap) (X : (Mine.frag.heap_1 w.params).In h₀) (T : Top Mine.view loose mean mg mb h₀) (hk : h₀.StaysIn s.heap) (x dx l : Addr) (vs : List Value) (n : Nat) (tbl : List (PySem.Str × PySem.Str)) (k : Tok) (nm : PySem.Str) (t : Tok) (R : Result → Shared → Prop)
  (hn : Has h₀ s.heap [(x, instObj 182 dx), (dx, dictOf [strKey w.params "_headers" k (.ref l)] 1), (l, listOf vs.toArray n)]) (hp : PairsAt s.heap vs tbl) (hc : ∀ p ∈ tbl, cleanN p.1 ∧ cleanV p.2) (hcn : cleanN nm) (hcl : cleanN (Txt.lower nm)) (hz : vs.length ≤ 1000) (hxd : @Ne Nat dx x) (hld : @Ne Nat l dx) (hlx : @Ne Nat l x)
  (hR : ∀ h' tk n', SB s.heap h' [l] → h'.get? l = some (listOf (fpair (fun y => !(Txt.lower y == Txt.lower nm)) vs tbl).toArray n') → R (.ok (.ret .none)) { s with heap := h', toks := tk }) :
  codeAny (model PySem.Challenge.rw_ta0081_03.row.prog w) (AC 7) (.call (.ref 102) ⟨[.ref x, .str nm t], []⟩) R s := by
  revert X
  k_fill
  intro X
  k_dflt (refine' enterC (binds := [("self", .ref x), ("name", .str nm t)]) (news := [(x, instObj 182 dx), (dx, dictOf [strKey w.params "_headers" k (.ref l)] 1), (l, listOf vs.toArray n)]) X T hk ?kn ?k6 ?k7 ?k8 ?k9 ?kB ?kD ?h ?c2 ?c3 ?c4; (case kn => assumption); (case k6 => k_is); (case k7 => k_is); (case k8 => decide); (case k9 => exact BindsTo.of_eq rfl); (case kB => exact rfl); (case kD => decide +kernel); (case c2 => exact rfl); (case c3 => exact rfl); (case c4 => exact rfl))
  clear X T
  intro g L h₁ tk cells hg hs F N Y X T l1
  (try k_lt l1)
  k_cells Y
  (try simp only [List.cons_append, List.nil_append] at N)
  (try dsimp only)
  have hpg := hp.sub hs (fun q hq => (hn q hq).1) rfl
  k_steps
  unfold Stop
  rename Fr _ _ _ _ => F
  rename News _ _ _ _ => N
  refine LCt.CompSrcT.ledger (by rfl) F N (by k_mem) (by rw [List.size_toArray]; exact Nat.le_trans hz (Nat.le_of_ble_eq_true rfl)) ?_
  intro g1
  refine compT_K (fun i ys => ys = fpair (fun y => !(Txt.lower y == Txt.lower nm)) (vs.take i) (tbl.take i)) ?turn ?done rfl
  case turn =>
    clear F N
    intro i ys v I oI C oC D m₂ h tk E' hJ hi hv hC hx F N o3 ne
    have hv : vs[i]? = some v := by simpa using hv
    obtain ⟨p, hpi, a, t1, t2, rfl, ha⟩ := hpg.2 i v hv
    have ht : IsTup g a #[.str p.1 t1, .str p.2 t2] := ⟨_, ha, rfl, 0, rfl⟩
    obtain ⟨hc1, hc2⟩ := hc p (List.mem_of_getElem? hpi)
    (try simp only [LCg.Off3, and_true] at o3)
    k_steps
    · refine ⟨rfl, ?_⟩
      rw [fpair_take hp.1 hv hpi, hJ, if_pos (by assumption)]
    · refine ⟨rfl, ?_⟩
      rename (Txt.lower p.1 != Txt.lower nm) = false => e
      rw [fpair_take hp.1 hv hpi, hJ, if_neg (by rw [Bool.not_eq_true]; exact e), List.append_nil]
  case done =>
    clear F N
    intro ys hJ
    have hJ : ys = fpair (fun y => !(Txt.lower y == Txt.lower nm)) vs tbl := by
      rw [hJ, List.size_toArray, List.take_length, hp.1, List.take_length]
    have hlen : ys.length ≤ vs.length := hJ ▸ fpair_len
    k_steps
    rename Fr _ _ _ _ => F
    rename News _ _ _ _ => N
    refine setAll_K [(x, instObj 182 dx), (dx, dictOf [strKey w.params "_headers" k (.ref l)] 1)] F N (by k_mem) (by k_mem) ?_ (Nat.le_trans hz (Nat.le_of_ble_eq_true rfl)) (Nat.le_trans hlen (Nat.le_trans hz (Nat.le_of_ble_eq_true rfl))) ?_
    · intro p hp
      rcases List.mem_cons.mp hp with rfl | hp
      · exact ⟨by k_mem, Ne.symm hlx⟩
      · rw [List.mem_singleton.mp hp]
        exact ⟨by k_mem, Ne.symm hld⟩
    clear F N
    intro h2 n2 F N
    k_steps
    refine hR _ _ n2 (sb_of hs hn F.keep N ?_) (hJ ▸ (N _ (.head _)).1)
    intro q hq
    rcases List.mem_cons.mp hq with rfl | hq
    · exact .inr (.tail _ (.head _))
    rcases List.mem_cons.mp hq with rfl | hq
    · exact .inr (.tail _ (.tail _ (.head _)))
    rcases List.mem_cons.mp hq with rfl | hq
    · exact .inl (.head _)
    · cases hq

theorem c_hdelC {w : World} {loose : List PySem.Str} {mean : ExcName → Option Value} {mg mb : PySem.Str → Option Value} {s : Shared} {h₀ : Heap} {L : Addr} {m : PySem.Str → Option Value} {news : List (Addr × Obj)} {A' : Around} (F : Fr h₀ L s.heap m) (N : News h₀ L s.heap news) (X : (Mine.frag.heap_1 w.params).In h₀) (T : Top Mine.view loose mean mg mb h₀) (hA : A'.handled = none) (hAd : A'.depth ≤ 300 + 20 * 7) (hAu : A'.units ≤ 1000 * 7) {x dx l : Addr} {vs : List Value} {n : Nat} {tbl : List (PySem.Str × PySem.Str)} {k : Tok} {nm : PySem.Str} {t : Tok} {Q : Value → Shared → Prop} (rest : List (Addr × Obj))
  (hm : ∀ q ∈ hdObjs w.params 182 x dx l k vs n, q ∈ news) (hr : ∀ p ∈ rest, p ∈ news ∧ p.1 ≠ l) (hp : PairsAt s.heap vs tbl) (hc : ∀ p ∈ tbl, cleanN p.1 ∧ cleanV p.2) (hcn : cleanN nm) (hcl : cleanN (Txt.lower nm)) (hz : vs.length ≤ 1000) (hxd : @Ne Nat dx x) (hld : @Ne Nat l dx) (hlx : @Ne Nat l x)
  (hQ : ∀ h' tk n', Fr h₀ L h' m → News h₀ L h' ((l, listOf (fpair (fun y => !(Txt.lower y == Txt.lower nm)) vs tbl).toArray n') :: rest) → Q .none { s with heap := h', toks := tk }) :
  wpAny (model PySem.Challenge.rw_ta0081_03.row.prog w) A' (call (.ref 102) [.ref x, .str nm t]) Q NoE s := by
  refine lift_A (A := AC 7) (wpAny_call (c_hdel w loose mean mg mb s h₀ X T F.keep x dx l vs n tbl k nm t _ (fun q hq => ⟨(N q (hm q hq)).1, (N q (hm q hq)).2.2⟩) hp hc hcn hcl hz hxd hld hlx fun h' tk n' hs hl => ?_)) hA.symm hAd hAu rfl rfl
  obtain ⟨e3, e4, e5⟩ := N _ (hm _ (.tail _ (.tail _ (.head _))))
  refine hQ h' tk n' (after_fr F hs (fun q => e4 (List.mem_singleton.mp q).symm) (fun b hb => by rw [List.mem_singleton.mp hb]; exact e5)) (fun p hp => ?_)
  rcases List.mem_cons.mp hp with rfl | hp
  · exact ⟨hl, e4, e5⟩
  · exact after_news (fun q hq => N q (hr q hq).1 : News h₀ L s.heap rest) hs (fun q hq hb => (hr q hq).2 (List.mem_singleton.mp hb)) p hp
end HDt
section HSt
local macro_rules | `(tactic| walk_at "pad") => `(tactic| fail)
theorem offHS : True := by w_top off; trivial
local macro_rules | `(tactic| walk_at "sub") => `(tactic| first | exact List.forall_mem_nil _ | (refine' List.forall_mem_cons.mpr ⟨?a, ?b⟩; (case a => k_mem); (case b => walk_at "sub")))
local macro_rules | `(tactic| walk_at "delItem ref str") => `(tactic| (k_here; k_dflt (refine' my_delItem ?F ?X ?I ?hQ ?hS ?hF ?_; (case F => k_asm); (case X => k_asm); (case I => k_inst); (case hS => k_is); (case hF => k_is); (case hQ => k_is); k_whole)))
local macro_rules | `(tactic| walk_at "call ref") => `(tactic| (k_here; k_dflt (refine' c_convC ?k1 ?k2 ?k3 ?k4 ?a1 ?a2 ?a3 _ _ _ _ _ ?k5 ?k6 ?_; (case k1 => k_asm); (case k2 => k_asm); (case k3 => k_asm); (case k4 => k_asm); (case a1 => exact rfl); (case a2 => exact Nat.le_of_ble_eq_true rfl); (case a3 => exact Nat.le_of_ble_eq_true rfl); (case k5 => first | exact cleanN.ok (by assumption) | exact cleanV.ok (by assumption)); (case k6 => first | exact And.right (a := ∀ c ∈ _, 32 ≤ c ∧ c < 127) (by assumption) | exact And.right (a := ∀ c ∈ _, (32 ≤ c ∨ c = 9) ∧ c < 127) (by assumption)); k_whole); intro h' tk' F' N'))
local macro_rules | `(tactic| walk_at "call ref") => `(tactic| ((with_reducible show wpAny _ _ (call (Value.ref 102) _ _) _ _ _); refine stop ?_))
theorem c_hset (w : World) (loose : List PySem.Str) (mean : ExcName → Option Value) (mg mb : PySem.Str → Option Value) (s : Shared) (h₀ : Heap) (X : (Mine.frag.heap_1 w.params).In h₀) (T : Top Mine.view loose mean mg mb h₀) (hk : h₀.StaysIn s.heap) (x dx l : Addr) (vs : List Value) (n : Nat) (tbl : List (PySem.Str × PySem.Str)) (k : Tok) (nm : PySem.Str) (t : Tok) (v : PySem.Str) (tv : Tok) (R : Result → Shared → Prop)
  (hn : Has h₀ s.heap (hdObjs w.params 182 x dx l k vs n)) (hp : PairsAt s.heap vs tbl) (hc : ∀ p ∈ tbl, cleanN p.1 ∧ cleanV p.2) (hcn : cleanN nm) (hcl : cleanN (Txt.lower nm)) (hcv : cleanV v) (hz : vs.length ≤ 1000) (hxd : @Ne Nat dx x) (hld : @Ne Nat l dx) (hlx : @Ne Nat l x)
  (hR : ∀ h' tk n' D, SB s.heap h' [l] → h'.get? l = some (listOf (fpair (fun y => !(Txt.lower y == Txt.lower nm)) vs tbl ++ [Value.ref D]).toArray n') → h'.get? D = some (tupO [.str nm t, .str v tv]) → s.heap.get? D = none → R (.ok (.ret .none)) { s with heap := h', toks := tk }) :
  codeAny (model PySem.Challenge.rw_ta0081_03.row.prog w) (AC 6) (.call (.ref 97) ⟨[.ref x, .str nm t, .str v tv], []⟩) R s := by
  revert X
  k_fill
  intro X
  k_dflt (refine' enter (binds := [("self", .ref x), ("name", .str nm t), ("val", .str v tv)]) (news := hdObjs w.params 182 x dx l k vs n) X T hk ?kn ?k6 ?k7 ?k8 ?k9 ?kB ?h ?c2 ?c3 ?c4 ?c5; (case kn => assumption); (case k6 => k_is); (case k7 => k_is); (case k8 => decide); (case k9 => exact BindsTo.of_eq rfl); (case c5 => decide); (case kB => exact locs rfl); (case c2 => exact rfl); (case c3 => exact rfl); (case c4 => exact rfl))
  clear X T
  intro g L h₁ hg hs F N X T
  (try dsimp only)
  have hpg := hp.sub hs (fun q hq => (hn q hq).1) rfl
  dsimp only [hdObjs] at N
  k_steps
  unfold Stop
  refine c_hdelC F N X T rfl (Nat.le_of_ble_eq_true rfl) (Nat.le_of_ble_eq_true rfl) [(x, instObj 182 dx), (dx, dictOf [strKey w.params "_headers" k (.ref l)] 1)] (fun q hq => hq) ?_ (hpg.keeps F.keep) hc hcn hcl hz hxd hld hlx ?_
  · intro p hp
    rcases List.mem_cons.mp hp with rfl | hp
    · exact ⟨by k_mem, Ne.symm hlx⟩
    · rw [List.mem_singleton.mp hp]
      exact ⟨by k_mem, Ne.symm hld⟩
  intro h2 tk2 n2 F2 N2
  have hlen : (fpair (fun y => !(Txt.lower y == Txt.lower nm)) vs tbl).length ≤ 1000 := Nat.le_trans fpair_len hz
  generalize hvs2 : fpair (fun y => !(Txt.lower y == Txt.lower nm)) vs tbl = vs2 at N2 hlen
  clear F N
  have hM : KstMark := kstMark
  k_steps
  rename Fr _ _ _ _ => F
  rename News _ _ _ _ => N
  rename _ ∧ _ => hlt
  rw [hvs2] at hR
  have hD := (N _ (.head _))
  refine hR _ _ (n2 + 1) _ (sb_of hs hn F.keep N ?_) ?_ hD.1 ?_
  · intro q hq
    rcases List.mem_cons.mp hq with rfl | hq
    · exact .inr (.tail _ (.tail _ (.head _)))
    rcases List.mem_cons.mp hq with rfl | hq
    · exact .inr (.tail _ (.tail _ (.tail _ (.head _))))
    rcases List.mem_cons.mp hq with rfl | hq
    · exact .inl (.head _)
    · cases hq
  · rw [← List.push_toArray]
    exact (N _ (.tail _ (.head _))).1
  · refine none_of hs hD.2.2 ?_
    intro hb
    rcases List.mem_cons.mp hb with e | hb
    · exact Nat.ne_of_gt hlt.2.1 e
    rcases List.mem_cons.mp hb with e | hb
    · exact Nat.ne_of_gt hlt.2.2 e
    · exact Nat.ne_of_gt hlt.1 (List.mem_singleton.mp hb)

theorem c_hsetC {w : World} {loose : List PySem.Str} {mean : ExcName → Option Value} {mg mb : PySem.Str → Option Value} {s : Shared} {h₀ : Heap} {L : Addr} {m : PySem.Str → Option Value} {news : List (Addr × Obj)} {A' : Around} (F : Fr h₀ L s.heap m) (N : News h₀ L s.heap news) (X : (Mine.frag.heap_1 w.params).In h₀) (T : Top Mine.view loose mean mg mb h₀) (hA : A'.handled = none) (hAd : A'.depth ≤ 300 + 20 * 6) (hAu : A'.units ≤ 1000 * 6) {x dx l : Addr} {vs : List Value} {n : Nat} {tbl : List (PySem.Str × PySem.Str)} {k : Tok} {nm : PySem.Str} {t : Tok} {v : PySem.Str} {tv : Tok} {Q : Value → Shared → Prop} (rest : List (Addr × Obj))
  (hm : ∀ q ∈ hdObjs w.params 182 x dx l k vs n, q ∈ news) (hr : ∀ p ∈ rest, p ∈ news ∧ p.1 ≠ l) (hp : PairsAt s.heap vs tbl) (hc : ∀ p ∈ tbl, cleanN p.1 ∧ cleanV p.2) (hcn : cleanN nm) (hcl : cleanN (Txt.lower nm)) (hcv : cleanV v) (hz : vs.length ≤ 1000) (hxd : @Ne Nat dx x) (hld : @Ne Nat l dx) (hlx : @Ne Nat l x)
  (hQ : ∀ h' tk n' D, Fr h₀ L h' m → News h₀ L h' ((D, tupO [.str nm t, .str v tv]) :: (l, listOf (fpair (fun y => !(Txt.lower y == Txt.lower nm)) vs tbl ++ [Value.ref D]).toArray n') :: rest) → SB s.heap h' [l] → s.heap.get? D = none → Q .none { s with heap := h', toks := tk }) :
  wpAny (model PySem.Challenge.rw_ta0081_03.row.prog w) A' (call (.ref 97) [.ref x, .str nm t, .str v tv]) Q NoE s := by
  refine lift_A (A := AC 6) (wpAny_call (c_hset w loose mean mg mb s h₀ X T F.keep x dx l vs n tbl k nm t v tv _ (fun q hq => ⟨(N q (hm q hq)).1, (N q (hm q hq)).2.2⟩) hp hc hcn hcl hcv hz hxd hld hlx fun h' tk n' D hs hl hD hD0 => ?_)) hA.symm hAd hAu rfl rfl
  obtain ⟨e3, e4, e5⟩ := N _ (hm _ (.tail _ (.tail _ (.head _))))
  refine hQ h' tk n' D (after_fr F hs (fun q => e4 (List.mem_singleton.mp q).symm) (fun b hb => by rw [List.mem_singleton.mp hb]; exact e5)) (fun p hp => ?_) hs hD0
  rcases List.mem_cons.mp hp with rfl | hp
  · refine ⟨hD, fr_ne F hD0, ?_⟩
    cases q : h₀.get? D with
    | none => rfl
    | some o => rw [F.keep _ _ q] at hD0; cases hD0
  rcases List.mem_cons.mp hp with rfl | hp
  · exact ⟨hl, e4, e5⟩
  · exact after_news (fun q hq => N q (hr q hq).1 : News h₀ L s.heap rest) hs (fun q hq hb => (hr q hq).2 (List.mem_singleton.mp hb)) p hp
end HSt
section HLt
theorem offHL : True := by w_top off; trivial
local macro_rules | `(tactic| walk_at "sub") => `(tactic| first | exact List.forall_mem_nil _ | (refine' List.forall_mem_cons.mpr ⟨?a, ?b⟩; (case a => k_mem); (case b => walk_at "sub")))
local macro_rules | `(tactic| walk_at "call ref") => `(tactic| (k_here; k_dflt (refine' c_convC ?k1 ?k2 ?k3 ?k4 ?a1 ?a2 ?a3 _ _ _ _ _ ?k5 ?k6 ?_; (case k1 => k_asm); (case k2 => k_asm); (case k3 => k_asm); (case k4 => k_asm); (case a1 => exact rfl); (case a2 => exact Nat.le_of_ble_eq_true rfl); (case a3 => exact Nat.le_of_ble_eq_true rfl); (case k5 => first | exact cleanN.ok (by assumption) | exact cleanV.ok (by assumption)); (case k6 => first | exact And.right (a := ∀ c ∈ _, 32 ≤ c ∧ c < 127) (by assumption) | exact And.right (a := ∀ c ∈ _, (32 ≤ c ∨ c = 9) ∧ c < 127) (by assumption)); k_whole); intro h' tk' F' N'))
local macro_rules | `(tactic| walk_at "call builtin:str.lower") => `(tactic| (k_here; (with_reducible show wpAny _ _ (call (Value.builtin "str.lower") [Value.str _ _]) _ _ _); k_dflt (refine' SCL.lower ?k1 ?_; (case k1 => first | exact cleanN.low (by assumption))); intro _))
local macro_rules | `(tactic| walk_at "CompSrcT") => `(tactic| refine stop ?_)
theorem c_hall (w : World) (loose : List PySem.Str) (mean : ExcName → Option Value) (mg mb : PySem.Str → Option Value) (s : Shared) (h₀ : Heap) (X : (Mine.frag.heap_1 w.params).In h₀) (T : Top Mine.view loose mean mg mb h₀) (hk : h₀.StaysIn s.heap) (x dx l : Addr) (vs : List Value) (n : Nat) (tbl : List (PySem.Str × PySem.Str)) (k : Tok) (nm : PySem.Str) (t : Tok) (R : Result → Shared → Prop)
  (hn : Has h₀ s.heap (hdObjs w.params 182 x dx l k vs n)) (hp : PairsAt s.heap vs tbl) (hc : ∀ p ∈ tbl, cleanN p.1 ∧ cleanV p.2) (hcn : cleanN nm) (hcl : cleanN (Txt.lower nm)) (hz : vs.length ≤ 1000)
  (hR : ∀ h' tk D n' ys, StrsAre ys ((tbl.filter fun p => Txt.lower p.1 == Txt.lower nm).map (·.2)) → s.heap.StaysIn h' → h'.get? D = some (listOf ys.toArray n') → s.heap.get? D = none → R (.ok (.ret (.ref D))) { s with heap := h', toks := tk }) :
  codeAny (model PySem.Challenge.rw_ta0081_03.row.prog w) (AC 5) (.call (.ref 121) ⟨[.ref x, .str nm t], []⟩) R s := by
  revert X
  k_fill
  intro X
  k_dflt (refine' enterC (binds := [("self", .ref x), ("name", .str nm t)]) (news := hdObjs w.params 182 x dx l k vs n) X T hk ?kn ?k6 ?k7 ?k8 ?k9 ?kB ?kD ?h ?c2 ?c3 ?c4; (case kn => assumption); (case k6 => k_is); (case k7 => k_is); (case k8 => decide); (case k9 => exact BindsTo.of_eq rfl); (case kB => exact rfl); (case kD => decide +kernel); (case c2 => exact rfl); (case c3 => exact rfl); (case c4 => exact rfl))
  clear X T
  intro g L h₁ tk cells hg hs F N Y X T l1
  (try k_lt l1)
  k_cells Y
  (try simp only [List.cons_append, List.nil_append] at N)
  (try dsimp only)
  have hpg := hp.sub hs (fun q hq => (hn q hq).1) rfl
  dsimp only [hdObjs] at N
  k_steps
  unfold Stop
  rename Fr _ _ _ _ => F
  rename News _ _ _ _ => N
  refine LCt.CompSrcT.ledger (by rfl) F N (by k_mem) (by rw [List.size_toArray]; exact Nat.le_trans hz (Nat.le_of_ble_eq_true rfl)) ?_
  intro g1
  refine compT_K (fun i ys => StrsAre ys (((tbl.take i).filter fun p => Txt.lower p.1 == Txt.lower nm).map (·.2))) ?turn ?done StrsAre.nil
  case turn =>
    clear F N
    intro i ys v I oI C oC D m₂ h tk E' hJ hi hv hC hx F N o3 ne
    have hv : vs[i]? = some v := by simpa using hv
    obtain ⟨p, hpi, a, t1, t2, rfl, ha⟩ := hpg.2 i v hv
    have ht : IsTup g a #[.str p.1 t1, .str p.2 t2] := ⟨_, ha, rfl, 0, rfl⟩
    obtain ⟨hc1, hc2⟩ := hc p (List.mem_of_getElem? hpi)
    (try simp only [LCg.Off3, and_true] at o3)
    k_steps
    · refine ⟨rfl, ?_⟩
      rename (Txt.lower p.1 == Txt.lower nm) = true => e
      exact all_take hpi e hJ
    · refine ⟨rfl, ?_⟩
      rename (Txt.lower p.1 == Txt.lower nm) = false => e
      exact all_skip hpi e hJ
  case done =>
    clear F N
    intro ys hJ
    rw [List.size_toArray, hp.1, List.take_length] at hJ
    k_steps
    rename Fr _ _ _ _ => F
    rename News _ _ _ _ => N
    rename (_ ∧ _) => o4
    have hD := N _ (.head _)
    refine hR _ _ _ _ ys hJ (stays_of hs hn F.keep fun q hq => N q (.tail _ (.tail _ hq))) hD.1 (none_of hs hD.2.2 ?_)
    intro hb
    rcases List.mem_cons.mp hb with e | hb
    · exact o4.2.1 e.symm
    rcases List.mem_cons.mp hb with e | hb
    · exact o4.2.2.1 e.symm
    · exact o4.2.2.2 (List.mem_singleton.mp hb).symm
theorem c_hallC {w : World} {loose : List PySem.Str} {mean : ExcName → Option Value} {mg mb : PySem.Str → Option Value} {s : Shared} {h₀ : Heap} {L : Addr} {m : PySem.Str → Option Value} {news : List (Addr × Obj)} {A' : Around} (F : Fr h₀ L s.heap m) (N : News h₀ L s.heap news) (X : (Mine.frag.heap_1 w.params).In h₀) (T : Top Mine.view loose mean mg mb h₀) (hA : A'.handled = none) (hAd : A'.depth ≤ 300 + 20 * 5) (hAu : A'.units ≤ 1000 * 5) {x dx l : Addr} {vs : List Value} {n : Nat} {tbl : List (PySem.Str × PySem.Str)} {k : Tok} {nm : PySem.Str} {t : Tok} {Q : Value → Shared → Prop} (xs : List PySem.Str)
  (hm : ∀ q ∈ hdObjs w.params 182 x dx l k vs n, q ∈ news) (hp : PairsAt s.heap vs tbl) (hc : ∀ p ∈ tbl, cleanN p.1 ∧ cleanV p.2) (hcn : cleanN nm) (hcl : cleanN (Txt.lower nm)) (hz : vs.length ≤ 1000)
  (hxs : (tbl.filter fun p => Txt.lower p.1 == Txt.lower nm).map (·.2) = xs)
  (hQ : ∀ h' tk D n' ys, StrsAre ys xs → Fr h₀ L h' m → News h₀ L h' ((D, listOf ys.toArray n') :: news) → AllNe D news → Q (.ref D) { s with heap := h', toks := tk }) :
  wpAny (model PySem.Challenge.rw_ta0081_03.row.prog w) A' (call (.ref 121) [.ref x, .str nm t]) Q NoE s := by
  refine lift_A (A := AC 5) (wpAny_call (c_hall w loose mean mg mb s h₀ X T F.keep x dx l vs n tbl k nm t _ (fun q hq => ⟨(N q (hm q hq)).1, (N q (hm q hq)).2.2⟩) hp hc hcn hcl hz fun h' tk D n' ys hy hst hD hD0 => ?_)) hA.symm hAd hAu rfl rfl
  rw [hxs] at hy
  refine hQ h' tk D n' ys hy (fr_stay F hst) (fun p hp => ?_) (allNe_of (news_ne N hD0))
  rcases List.mem_cons.mp hp with rfl | hp
  · refine ⟨hD, fr_ne F hD0, ?_⟩
    cases q : h₀.get? D with
    | none => rfl
    | some o => rw [F.keep _ _ q] at hD0; cases hD0
  · exact news_stay N hst p hp
end HLt
section HZt
theorem offHZ : True := by w_top off; trivial
local macro_rules | `(tactic| walk_at "sub") => `(tactic| first | exact List.forall_mem_nil _ | (refine' List.forall_mem_cons.mpr ⟨?a, ?b⟩; (case a => k_mem); (case b => walk_at "sub")))
theorem c_hinit0 (w : World) (loose : List PySem.Str) (mean : ExcName → Option Value) (mg mb : PySem.Str → Option Value) (s : Shared) (h₀ : Heap) (X : (Mine.frag.heap_1 w.params).In h₀) (T : Top Mine.view loose mean mg mb h₀) (hk : h₀.StaysIn s.heap) (x dx : Addr) (R : Result → Shared → Prop)
  (hn : Has h₀ s.heap [(x, instObj 182 dx), (dx, dictOf [] 0)]) (hlt : @LT.lt Nat _ dx x)
  (hR : ∀ h' tk k l n, SB s.heap h' [dx] → h'.get? dx = some (dictOf [strKey w.params "_headers" k (.ref l)] 1) → h'.get? l = some (listOf #[] n) → s.heap.get? l = none → @LT.lt Nat _ x l → R (.ok (.ret .none)) { s with heap := h', toks := tk }) :
  codeAny (model PySem.Challenge.rw_ta0081_03.row.prog w) (AC 6) (.call (.ref 76) ⟨[.ref x], []⟩) R s := by
  revert X
  k_fill
  intro X
  k_dflt (refine' enter (binds := [("self", .ref x), ("headers", .none)]) (news := [(x, instObj 182 dx), (dx, dictOf [] 0)]) X T hk ?kn ?k6 ?k7 ?k8 ?k9 ?kB ?h ?c2 ?c3 ?c4 ?c5; (case kn => assumption); (case k6 => k_is); (case k7 => k_is); (case k8 => decide); (case k9 => (refine' binds_K (X.keeps fun b o e => hk b o e) ?d1 ?d2 ?d3 ?d4 ?d5; (case d1 => exact rfl); (case d2 => k_is); (case d3 => exact rfl); (case d4 => exact rfl); (case d5 => exact rfl))); (case c5 => decide); (case kB => exact locs rfl); (case c2 => exact rfl); (case c3 => exact rfl); (case c4 => exact rfl))
  clear X T
  intro g L h₁ hg hs F N X T
  (try dsimp only)
  k_steps
  show R _ _
  rename Fr _ _ _ _ => F
  rename News _ _ _ _ => N
  have l2 := (by assumption : @LT.lt Nat _ x _ ∧ @LT.lt Nat _ dx _)
  have hl := N _ (.head _)
  refine hR _ _ _ _ _ (sb_of hs hn F.keep N ?_) (N _ (.tail _ (.tail _ (.head _)))).1 hl.1 (none_of hs hl.2.2 ?_) l2.1
  · intro q hq
    rcases List.mem_cons.mp hq with rfl | hq
    · exact .inr (.tail _ (.head _))
    · rw [List.mem_singleton.mp hq]; exact .inl (.head _)
  · intro hb
    rcases List.mem_cons.mp hb with e | hb
    · exact Nat.ne_of_gt l2.1 e
    · exact Nat.ne_of_gt l2.2 (List.mem_singleton.mp hb)
theorem c_hnew0 (w : World) (loose : List PySem.Str) (mean : ExcName → Option Value) (mg mb : PySem.Str → Option Value) (s : Shared) (h₀ : Heap) (X : (Mine.frag.heap_1 w.params).In h₀) (T : Top Mine.view loose mean mg mb h₀) (hk : h₀.StaysIn s.heap) {L : Addr} {m : PySem.Str → Option Value} {news : List (Addr × Obj)} (F : Fr h₀ L s.heap m) (N : News h₀ L s.heap news) (Q : Value → Shared → Prop)
  (hQ : ∀ h' tk x dx k l n, Fr h₀ L h' m → News h₀ L h' (hdObjs w.params 182 x dx l k [] n ++ news) → AllLt dx news → @LT.lt Nat _ dx x → @LT.lt Nat _ x l → Q (.ref x) { s with heap := h', toks := tk }) :
  wpAny (model PySem.Challenge.rw_ta0081_03.row.prog w) (AC 5) (call (.ref 182) []) Q NoE s := by
  revert X
  k_fill
  intro X
  k_dflt (refine' call_cls F X N ?k1 ?k2 ?k3 ?h; (case k1 => k_is); (case k2 => k_is); (case k3 => k_is))
  intro x dx h' F' N' hlt hxd
  have hxd' : @LT.lt Nat _ dx x := hxd
  refine' lift_C (A := AC 6) (c_hinit0 w loose mean mg mb { s with heap := h' } h₀ X T (fun b o e => F'.keep b o e) x dx _ ?hn hxd ?hR) rfl ?d ?u rfl rfl
  case d => exact Nat.le_of_ble_eq_true rfl
  case u => exact Nat.le_of_ble_eq_true rfl
  case hn =>
    intro q hq
    rcases List.mem_cons.mp hq with rfl | hq
    · exact ⟨(N' _ (.head _)).1, (N' _ (.head _)).2.2⟩
    · rw [List.mem_singleton.mp hq]
      exact ⟨(N' _ (.tail _ (.head _))).1, (N' _ (.tail _ (.head _))).2.2⟩
  case hR =>
    intro h2 tk k l n hs hd hl hl0 hxl
    have hx := N' _ (.head _)
    have hdx := N' _ (.tail _ (.head _))
    refine ⟨rfl, hQ h2 tk x dx k l n (after_fr F' hs ?a1 ?a2) ?a3 (allLt_of hlt) hxd hxl⟩
    case a1 => exact fun q => hdx.2.1 (List.mem_singleton.mp q).symm
    case a2 => exact fun b hb => by rw [List.mem_singleton.mp hb]; exact hdx.2.2
    case a3 =>
      intro p hp'
      rcases List.mem_cons.mp hp' with rfl | hp'
      · exact ⟨hs _ _ hx.1 (fun q => Nat.ne_of_gt hxd' (List.mem_singleton.mp q)), hx.2⟩
      rcases List.mem_cons.mp hp' with rfl | hp'
      · exact ⟨hd, hdx.2⟩
      rcases List.mem_cons.mp hp' with rfl | hp'
      · refine ⟨hl, fr_ne F' hl0, ?_⟩
        cases q : h₀.get? l with
        | none => rfl
        | some o => rw [F'.keep _ _ q] at hl0; cases hl0
      · exact ⟨hs _ _ (N' p (.tail _ (.tail _ hp'))).1 (fun q => Nat.ne_of_lt (hlt p hp') (List.mem_singleton.mp q)), (N' p (.tail _ (.tail _ hp'))).2⟩
end HZt
section AHt
theorem offAH : True := by w_top off; trivial
local macro_rules | `(tactic| walk_at "sub") => `(tactic| first | exact List.forall_mem_nil _ | (refine' List.forall_mem_cons.mpr ⟨?a, ?b⟩; (case a => k_mem); (case b => walk_at "sub")))
local macro_rules | `(tactic| walk_at "call ref") => `(tactic| (k_here; k_dflt (refine' c_convC ?k1 ?k2 ?k3 ?k4 ?a1 ?a2 ?a3 _ _ _ _ _ ?k5 ?k6 ?_; (case k1 => k_asm); (case k2 => k_asm); (case k3 => k_asm); (case k4 => k_asm); (case a1 => exact rfl); (case a2 => exact Nat.le_of_ble_eq_true rfl); (case a3 => exact Nat.le_of_ble_eq_true rfl); (case k5 => first | exact cleanN.ok (by assumption) | exact cleanV.ok (by assumption)); (case k6 => first | exact And.right (a := ∀ c ∈ _, 32 ≤ c ∧ c < 127) (by assumption) | exact And.right (a := ∀ c ∈ _, (32 ≤ c ∨ c = 9) ∧ c < 127) (by assumption)); k_whole); intro h' tk' F' N'))
theorem join_alone (v : PySem.Str) : Txt.join "; " [v] = v := by
  show Builtin.Str.glued "; " [v] = v
  rw [StrLaws.glued_eq_join]
  rfl
theorem c_addh (w : World) (loose : List PySem.Str) (mean : ExcName → Option Value) (mg mb : PySem.Str → Option Value) (s : Shared) (h₀ : Heap) (X : (Mine.frag.heap_1 w.params).In h₀) (T : Top Mine.view loose mean mg mb h₀) (hk : h₀.StaysIn s.heap) (x dx l : Addr) (vs : List Value) (n : Nat) (k : Tok) (nm : PySem.Str) (t : Tok) (v : PySem.Str) (tv : Tok) (R : Result → Shared → Prop)
  (hn : Has h₀ s.heap (hdObjs w.params 182 x dx l k vs n)) (hcn : cleanN nm) (hcv : cleanV v) (hz : vs.length ≤ 1000) (hxd : @Ne Nat dx x) (hld : @Ne Nat l dx) (hlx : @Ne Nat l x)
  (hR : ∀ h' tk n' D tv', SB s.heap h' [l] → h'.get? l = some (listOf (vs ++ [Value.ref D]).toArray n') → h'.get? D = some (tupO [.str nm t, .str v tv']) → s.heap.get? D = none → @LT.lt Nat _ s.heap.objs.size D → R (.ok (.ret .none)) { s with heap := h', toks := tk }) :
  codeAny (model PySem.Challenge.rw_ta0081_03.row.prog w) (AC 6) (.call (.ref 179) ⟨[.ref x, .str nm t, .str v tv], []⟩) R s := by
  revert X
  k_fill
  intro X
  k_dflt (refine' enterK (binds := fun D => [("self", .ref x), ("_name", .str nm t), ("_value", .str v tv), ("_params", .ref D)]) (news := hdObjs w.params 182 x dx l k vs n) X T hk ?kn ?k6 ?k7 ?k8 ?kb ?kl ?h ?c2 ?c3 ?c4 ?c5; (case kn => assumption); (case k6 => k_is); (case k7 => k_is); (case k8 => decide); (case kb => exact rfl); (case kl => exact fun d => locs rfl); (case c2 => exact rfl); (case c3 => exact rfl); (case c4 => exact rfl); (case c5 => decide))
  clear X T
  intro g L h₁ D hg hs hD0 F N hlt hDm hDe X T
  replace N : News g L h₁ ((D, dictOf [] 0) :: hdObjs w.params 182 x dx l k vs n) := N
  dsimp only [hdObjs] at N
  k_steps
  refine For_led ?_ (fun _ => rfl)
  k_steps
  rename Fr _ _ _ _ => F
  rename News _ _ _ _ => N
  refine kdl_method (knd := PySem.strKind _ _) PySem.F.slot_dict_items PySem.F.type_dict_items N (by k_mem) empty_dict ?_
  k_steps
  rename Fr _ _ _ _ => F
  rename News _ _ _ _ => N
  refine kta_callItems (knd := PySem.strKind _ _) F N (by k_mem) empty_dict hDm ?_
  clear F N
  intro h2 hv F N
  k_steps
  rename Fr _ _ _ _ => F
  rename News _ _ _ _ => N
  refine for_items0 rfl F N hv (by k_mem) ?_
  clear F N
  intro h3 tk3 F N
  replace F : Fr g L h3 _ := F
  replace N : News g L h3 _ := N
  k_steps
  rename Fr _ _ _ _ => F
  rename News _ _ _ _ => N
  refine join_listC ⟨_, (N _ (.head _)).1, rfl, _, rfl⟩ (StrsAre.cons _ _ .nil) ?js ?jz ?_
  case js => exact Nat.le_of_ble_eq_true rfl
  case jz =>
    have hv2 : v.length ≤ 1000000 := hcv.2
    simp only [List.map_cons, List.map_nil, List.sum_cons, List.sum_nil, List.length_cons, List.length_nil]
    omega
  rw [join_alone]
  intro t9 k9
  k_steps
  rename Fr _ _ _ _ => F
  rename News _ _ _ _ => N
  rename _ ∧ _ => hlt2
  rename Addr => D2
  refine my_append [(D2, tupO [.str nm t, .str v t9]), (x, instObj 182 dx), (dx, dictOf [strKey w.params "_headers" k (.ref l)] 1)] F N (.tail _ (.tail _ (.tail _ (.tail _ (.tail _ (.head _)))))) ?hr (Nat.le_trans hz (Nat.le_of_ble_eq_true rfl)) ?_
  case hr =>
    intro p hp
    rcases List.mem_cons.mp hp with rfl | hp
    · exact ⟨.head _, Nat.ne_of_gt hlt2.2.2.2.2⟩
    rcases List.mem_cons.mp hp with rfl | hp
    · exact ⟨by k_mem, Ne.symm hlx⟩
    · rw [List.mem_singleton.mp hp]
      exact ⟨by k_mem, Ne.symm hld⟩
  clear F N
  intro h4 n4 F N
  k_steps
  rename Fr _ _ _ _ => F
  rename News _ _ _ _ => N
  have hDn := N _ (.tail _ (.head _))
  refine hR _ _ n4 _ t9 (sb_of hs hn F.keep N ?_) (N _ (.head _)).1 hDn.1 (none_of hs hDn.2.2 ?_) ?_
  · intro q hq
    rcases List.mem_cons.mp hq with rfl | hq
    · exact .inr (.tail _ (.tail _ (.head _)))
    rcases List.mem_cons.mp hq with rfl | hq
    · exact .inr (.tail _ (.tail _ (.tail _ (.head _))))
    rcases List.mem_cons.mp hq with rfl | hq
    · exact .inl (.head _)
    · cases hq
  · intro hb
    rcases List.mem_cons.mp hb with e | hb
    · exact Nat.ne_of_gt hlt2.2.2.1 e
    rcases List.mem_cons.mp hb with e | hb
    · exact Nat.ne_of_gt hlt2.2.2.2.1 e
    · exact Nat.ne_of_gt hlt2.2.2.2.2 (List.mem_singleton.mp hb)
  · exact Nat.lt_of_le_of_lt (Nat.le_of_eq hDe.symm) hlt2.2.1
theorem c_addhC {w : World} {loose : List PySem.Str} {mean : ExcName → Option Value} {mg mb : PySem.Str → Option Value} {s : Shared} {h₀ : Heap} {L : Addr} {m : PySem.Str → Option Value} {news : List (Addr × Obj)} {A' : Around} (F : Fr h₀ L s.heap m) (N : News h₀ L s.heap news) (X : (Mine.frag.heap_1 w.params).In h₀) (T : Top Mine.view loose mean mg mb h₀) (hA : A'.handled = none) (hAd : A'.depth ≤ 300 + 20 * 6) (hAu : A'.units ≤ 1000 * 6) {x dx l : Addr} {vs : List Value} {n : Nat} {k : Tok} {nm : PySem.Str} {t : Tok} {v : PySem.Str} {tv : Tok} {Q : Value → Shared → Prop} (rest : List (Addr × Obj))
  (hm : ∀ q ∈ hdObjs w.params 182 x dx l k vs n, q ∈ news) (hr : ∀ p ∈ rest, p ∈ news ∧ p.1 ≠ l) (hcn : cleanN nm) (hcv : cleanV v) (hz : vs.length ≤ 1000) (hxd : @Ne Nat dx x) (hld : @Ne Nat l dx) (hlx : @Ne Nat l x)
  (hQ : ∀ h' tk n' D tv', Fr h₀ L h' m → News h₀ L h' ((D, tupO [.str nm t, .str v tv']) :: (l, listOf (vs ++ [Value.ref D]).toArray n') :: rest) → AllLt D news → Q .none { s with heap := h', toks := tk }) :
  wpAny (model PySem.Challenge.rw_ta0081_03.row.prog w) A' (call (.ref 179) [.ref x, .str nm t, .str v tv]) Q NoE s := by
  refine lift_A (A := AC 6) (wpAny_call (c_addh w loose mean mg mb s h₀ X T F.keep x dx l vs n k nm t v tv _ (fun q hq => ⟨(N q (hm q hq)).1, (N q (hm q hq)).2.2⟩) hcn hcv hz hxd hld hlx fun h' tk n' D tv' hs hl hD hD0 hDz => ?_)) hA.symm hAd hAu rfl rfl
  obtain ⟨e3, e4, e5⟩ := N _ (hm _ (.tail _ (.tail _ (.head _))))
  refine hQ h' tk n' D tv' (after_fr F hs (fun q => e4 (List.mem_singleton.mp q).symm) (fun b hb => by rw [List.mem_singleton.mp hb]; exact e5)) (fun p hp => ?_) (allLt_of fun p hp => Nat.lt_trans (Heap.lt_size (N p hp).1) hDz)
  rcases List.mem_cons.mp hp with rfl | hp
  · refine ⟨hD, fr_ne F hD0, ?_⟩
    cases q : h₀.get? D with
    | none => rfl
    | some o => rw [F.keep _ _ q] at hD0; cases hD0
  rcases List.mem_cons.mp hp with rfl | hp
  · exact ⟨hl, e4, e5⟩
  · exact after_news (fun q hq => N q (hr q hq).1 : News h₀ L s.heap rest) hs (fun q hq hb => (hr q hq).2 (List.mem_singleton.mp hb)) p hp

/-- the same, the list changed in its place in the ledger -/
theorem c_addhU {w : World} {loose : List PySem.Str} {mean : ExcName → Option Value} {mg mb : PySem.Str → Option Value} {s : Shared} {h₀ : Heap} {L : Addr} {m : PySem.Str → Option Value} {news : List (Addr × Obj)} {A' : Around} (F : Fr h₀ L s.heap m) (N : News h₀ L s.heap news) (X : (Mine.frag.heap_1 w.params).In h₀) (T : Top Mine.view loose mean mg mb h₀) (hA : A'.handled = none) (hAd : A'.depth ≤ 300 + 20 * 6) (hAu : A'.units ≤ 1000 * 6) {x dx l : Addr} {vs : List Value} {n : Nat} {k : Tok} {nm : PySem.Str} {t : Tok} {v : PySem.Str} {tv : Tok} {g : Obj → List (Addr × Obj)} {Q : Value → Shared → Prop}
  (hx : (x, instObj 182 dx) ∈ news) (hd : (dx, dictOf [strKey w.params "_headers" k (.ref l)] 1) ∈ news) (U : UpdF l (listOf vs.toArray n) news g) (hcn : cleanN nm) (hcv : cleanV v) (hz : vs.length ≤ 1000) (hxd : @Ne Nat dx x) (hld : @Ne Nat l dx) (hlx : @Ne Nat l x)
  (hQ : ∀ h' tk n' D t2 tv', Fr h₀ L h' m → News h₀ L h' ((D, tupO [.str nm t2, .str v tv']) :: g (listOf (vs ++ [Value.ref D]).toArray n')) → AllLt D news → Q .none { s with heap := h', toks := tk }) :
  wpAny (model PySem.Challenge.rw_ta0081_03.row.prog w) A' (call (.ref 179) [.ref x, .str nm t, .str v tv]) Q NoE s := by
  obtain ⟨pre, post, e0, hg, x1, x2⟩ := U.split
  have hl : (l, listOf vs.toArray n) ∈ news := by rw [e0]; exact List.mem_append_right _ (.head _)
  refine c_addhC (k := k) (n := n) F N X T hA hAd hAu (pre ++ post) (fun q hq => ?_) (fun p hp => ?_) hcn hcv hz hxd hld hlx fun h' tk n' D tv' F' N' e => hQ h' tk n' D t tv' F' (fun p hp => ?_) e
  · rcases List.mem_cons.mp hq with rfl | hq
    · exact hx
    rcases List.mem_cons.mp hq with rfl | hq
    · exact hd
    · rw [List.mem_singleton.mp hq]; exact hl
  · rcases List.mem_append.mp hp with hp | hp
    · exact ⟨by rw [e0]; exact List.mem_append_left _ hp, x1 p hp⟩
    · exact ⟨by rw [e0]; exact List.mem_append_right _ (.tail _ hp), x2 p hp⟩
  · rw [hg] at hp
    rcases List.mem_cons.mp hp with rfl | hp
    · exact N' _ (.head _)
    rcases List.mem_append.mp hp with hp | hp
    · exact N' p (.tail _ (.tail _ (List.mem_append_left _ hp)))
    rcases List.mem_cons.mp hp with rfl | hp
    · exact N' _ (.tail _ (.head _))
    · exact N' p (.tail _ (.tail _ (List.mem_append_right _ hp)))
end AHt
section APt
local macro_rules | `(tactic| walk_at "pad") => `(tactic| fail)
theorem offAP : True := by w_top off; trivial
local macro_rules | `(tactic| walk_at "exec While") => `(tactic| refine stop ?_)
local macro_rules | `(tactic| walk_at "subscriptTail") => `(tactic| (k_here; (with_reducible show wpAny _ _ (subscriptTail _ (Expr.Slice _ _ none _) (Value.bytes _ _) (Value.ref _)) _ _ _); (with_reducible rename Fr _ _ _ _ => F'); (with_reducible rename News _ _ _ _ => N'); (refine ap_slice (s := ⟨_, _, _, _, _⟩) F' N' (by omega) (by omega) ?_); intro _ _ _ _ _))
theorem c_int2ap (w : World) (loose : List PySem.Str) (mean : ExcName → Option Value) (mg mb : PySem.Str → Option Value) (s : Shared) (h₀ : Heap) (X : (Mine.frag.heap_1 w.params).In h₀) (T : Top Mine.view loose mean mg mb h₀) (hk : h₀.StaysIn s.heap) (n : Int) (t : Tok) (R : Result → Shared → Prop) (hz : n.natAbs < 16 ^ 16)
  (hR : ∀ h' tk tok, s.heap.StaysIn h' → R (.ok (.ret (.bytes (apN n.natAbs).toArray tok))) { s with heap := h', toks := tk }) :
  codeAny (model PySem.Challenge.rw_ta0081_03.row.prog w) (AC 5) (.call (.ref 193) ⟨[.int n t], []⟩) R s := by
  revert X
  k_fill
  intro X
  k_dflt (refine' enter (binds := [("num", .int n t)]) (news := []) X T hk ?kn ?k6 ?k7 ?k8 ?k9 ?kB ?h ?c2 ?c3 ?c4 ?c5; (case kn => exact fun q hq => nomatch hq); (case k6 => k_is); (case k7 => k_is); (case k8 => decide); (case k9 => exact BindsTo.of_eq rfl); (case c5 => decide); (case kB => exact locs rfl); (case c2 => exact rfl); (case c3 => exact rfl); (case c4 => exact rfl))
  clear X T
  intro g L h₁ hg hs F N X T
  (try dsimp only)
  k_steps
  unfold Stop
  rename Fr _ _ _ _ => F
  refine' while_rule (I := fun k s' => ∃ h tk m num tn val tv ta j, s' = { s with heap := h, toks := tk } ∧ Fr g L h m ∧ lks m [("num", .int num tn), ("val", .bytes val.toArray tv), ("AP", .bytes APs ta)] ∧ 0 ≤ num ∧ num.toNat < 16 ^ j ∧ j + val.length ≤ 16 ∧ apN num.toNat ++ val = apN n.natAbs ∧ k = num.toNat) (if n < 0 then -n else n).toNat ?i0 ?it
  case i0 => 
    have e : (if n < 0 then -n else n).toNat = n.natAbs := by split <;> omega
    refine ⟨_, _, _, _, _, [], _, _, 16, rfl, F, ⟨rfl, rfl, rfl, trivial⟩, ?_, ?_, ?_, ?_, rfl⟩
    · split <;> omega
    · rw [e]; exact hz
    · decide
    · rw [e, List.append_nil]
  case it =>
    clear F
    rintro k s' ⟨h, tk, m, num, tn, val, tv, ta, j, rfl, F, hm, h0, hj, hv, hr, rfl⟩
    replace F := fr_bd F _ hm
    dsimp only [bd] at F
    have N : News g L h [] := News.nil
    have hf : 0 ≤ Int.fmod num 16 ∧ Int.fmod num 16 < 16 := by
      rw [Int.fmod_eq_emod_of_nonneg _ (by omega)]; omega
    have hM : KstMark := kstMark
    k_steps
    · have e1 : (Int.fdiv num 16).toNat = num.toNat / 16 := by rw [Int.fdiv_eq_ediv_of_nonneg _ (by omega)]; omega
      have e2 : (Int.fmod num 16).toNat = num.toNat % 16 := by rw [Int.fmod_eq_emod_of_nonneg _ (by omega)]; omega
      have e0 : num.toNat ≠ 0 := by omega
      cases j with
      | zero => exfalso; rw [Nat.pow_zero] at hj; omega
      | succ j =>
      rw [Nat.pow_succ] at hj
      refine ⟨num.toNat / 16, by omega, _, _, _, Int.fdiv num 16, _, UInt8.ofNat (65 + (Int.fmod num 16).toNat) :: val, _, _, j, rfl, by assumption, ⟨rfl, rfl, rfl, trivial⟩, ?_, ?_, ?_, ?_, ?_⟩
      · rw [Int.fdiv_eq_ediv_of_nonneg _ (by omega)]; omega
      · rw [e1]; omega
      · rw [List.length_cons]; omega
      · rw [e1, e2, ← hr, apN_pos e0, List.append_assoc]; rfl
      · rw [e1]
    · have e0 : num.toNat = 0 := by omega
      rw [e0, apN_zero, List.nil_append] at hr
      subst hr
      exact hR _ _ _ (fun b o e => F.keep b o (hs b o e (fun h => nomatch h)))
theorem c_int2apC {w : World} {loose : List PySem.Str} {mean : ExcName → Option Value} {mg mb : PySem.Str → Option Value} {s : Shared} {h₀ : Heap} {L : Addr} {m : PySem.Str → Option Value} {news : List (Addr × Obj)} {A' : Around} (F : Fr h₀ L s.heap m) (N : News h₀ L s.heap news) (X : (Mine.frag.heap_1 w.params).In h₀) (T : Top Mine.view loose mean mg mb h₀) (hA : A'.handled = none) (hAd : A'.depth ≤ 300 + 20 * 5) (hAu : A'.units ≤ 1000 * 5) {n : Int} {t : Tok} {Q : Value → Shared → Prop} (hz : n.natAbs < 16 ^ 16)
  (hQ : ∀ h' tk tok, Fr h₀ L h' m → News h₀ L h' news → Q (.bytes (apN n.natAbs).toArray tok) { s with heap := h', toks := tk }) :
  wpAny (model PySem.Challenge.rw_ta0081_03.row.prog w) A' (call (.ref 193) [.int n t]) Q NoE s :=
  lift_A (A := AC 5) (wpAny_call (c_int2ap w loose mean mg mb s h₀ X T F.keep n t _ hz fun h' tk tok k => hQ h' tk tok (fr_stay F k) (news_stay N k))) hA.symm hAd hAu rfl rfl
end APt
section HKt
theorem offHK : True := by w_top off; trivial
local macro_rules | `(tactic| walk_at "eval ListComp") => `(tactic| refine stop ?_)
/-- a Headers of three pairs -/
def hkObjs (P : Params) (cls x dx l : Addr) (k : Tok) (n : Nat) (q : Nat → Addr) (a v : Nat → PySem.Str) (t u : Nat → Tok) : List (Addr × Obj) :=
  hdObjs P cls x dx l k [.ref (q 0), .ref (q 1), .ref (q 2)] n ++ [(q 0, tupO [.str (a 0) (t 0), .str (v 0) (u 0)]), (q 1, tupO [.str (a 1) (t 1), .str (v 1) (u 1)]), (q 2, tupO [.str (a 2) (t 2), .str (v 2) (u 2)])]
local macro_rules | `(tactic| walk_at "SrcLP") => `(tactic| refine stop ?_)
theorem c_hkeys (w : World) (loose : List PySem.Str) (mean : ExcName → Option Value) (mg mb : PySem.Str → Option Value) (s : Shared) (h₀ : Heap) (X : (Mine.frag.heap_1 w.params).In h₀) (T : Top Mine.view loose mean mg mb h₀) (hk : h₀.StaysIn s.heap) (x dx l : Addr) (n : Nat) (k : Tok) (q : Nat → Addr) (a v : Nat → PySem.Str) (t u : Nat → Tok) (R : Result → Shared → Prop)
  (hn : Has h₀ s.heap (hkObjs w.params 182 x dx l k n q a v t u))
  (hR : ∀ h' tk D n' t0 t1 t2, s.heap.StaysIn h' → h'.get? D = some (listOf #[.str (a 0) t0, .str (a 1) t1, .str (a 2) t2] n') → s.heap.get? D = none → R (.ok (.ret (.ref D))) { s with heap := h', toks := tk }) :
  codeAny (model PySem.Challenge.rw_ta0081_03.row.prog w) (AC 5) (.call (.ref 134) ⟨[.ref x], []⟩) R s := by
  revert X
  k_fill
  intro X
  k_dflt (refine' enter (binds := [("self", .ref x)]) (news := hkObjs w.params 182 x dx l k n q a v t u) X T hk ?kn ?k6 ?k7 ?k8 ?k9 ?kB ?h ?c2 ?c3 ?c4 ?c5; (case kn => assumption); (case k6 => k_is); (case k7 => k_is); (case k8 => decide); (case k9 => exact BindsTo.of_eq rfl); (case c5 => decide); (case kB => exact locs rfl); (case c2 => exact rfl); (case c3 => exact rfl); (case c4 => exact rfl))
  clear X T
  intro g L h₁ hg hs F N X T
  (try dsimp only)
  dsimp only [hkObjs, hdObjs, List.cons_append, List.nil_append] at N
  k_steps
  unfold Stop
  rename Fr _ _ _ _ => F
  refine LCp.ListComp_P (F₀ := F) (by with_unfolding_all rfl) (by decide) (by rfl) (by decide) (by rfl) (by rfl) (by decide) ?_
  k_steps
  unfold Stop
  rename Fr _ _ _ _ => F
  rename News _ _ _ _ => N
  refine LCp.SrcLP.ledger (by rfl) F N (by k_mem) (Nat.le_of_ble_eq_true rfl) fun g1 => ?_
  refine compP_K (fun i v₁ v₂ => ∃ t1 t2, v₁ = .str (a i) t1 ∧ v₂ = .str (v i) t2) (fun i ys => ys.length = i ∧ ∀ j, j < i → ∃ t, ys[j]? = some (.str (a j) t)) ?src ?turnK ?turnD 3 0 [] (Nat.zero_add _) ⟨rfl, fun j h => absurd h (Nat.not_lt_zero _)⟩
  case src =>
    intro i w hi hv
    obtain rfl | rfl | rfl : i = 0 ∨ i = 1 ∨ i = 2 := by omega
    · exact ⟨_, _, _, _, _, (Option.some.inj hv).symm, by k_mem, rfl, rfl, _, _, rfl, rfl⟩
    · exact ⟨_, _, _, _, _, (Option.some.inj hv).symm, by k_mem, rfl, rfl, _, _, rfl, rfl⟩
    · exact ⟨_, _, _, _, _, (Option.some.inj hv).symm, by k_mem, rfl, rfl, _, _, rfl, rfl⟩
  case turnK =>
    clear F N
    rintro i ys v₁ v₂ I oI C oC D m₂ h tk E' hJ hi ⟨t1, t2, rfl, rfl⟩ hC hx hx2 F N o3 ne
    clear hx2
    have o3' := o3
    clear o3
    k_steps
    rename Fr _ _ _ _ => F1
    rename News _ _ _ _ => N1
    refine compEnd_none F1 N1 o3' (.inr ⟨_, by k_mem, rfl, _, rfl⟩) ⟨rfl, by rw [List.length_append, hJ.1]; rfl, fun j hj => ?_⟩
    by_cases e : j < i
    · obtain ⟨t9, ht9⟩ := hJ.2 j e
      exact ⟨t9, by rw [List.getElem?_append_left (by rw [hJ.1]; exact e)]; exact ht9⟩
    · obtain rfl : j = i := by omega
      exact ⟨_, by rw [List.getElem?_append_right (by rw [hJ.1]; exact Nat.le_refl _), hJ.1, Nat.sub_self]; rfl⟩
  case turnD =>
    clear F
    rintro ys hJ
    k_steps
    rename Fr _ _ _ _ => F1
    rename News _ _ _ _ => N1
    rename (_ ∧ _) => o4
    obtain ⟨t0, h0⟩ := hJ.2 0 (by omega)
    obtain ⟨t1, h1⟩ := hJ.2 1 (by omega)
    obtain ⟨t2, h2⟩ := hJ.2 2 (by omega)
    obtain ⟨y0, y1, y2, rfl⟩ := len_c3 hJ.1
    obtain rfl := Option.some.inj h0
    obtain rfl := Option.some.inj h1
    obtain rfl := Option.some.inj h2
    have hD := N1 _ (.head _)
    refine hR _ _ _ _ t0 t1 t2 (stays_of hs hn F1.keep fun p hp => N1 p (.tail _ hp)) hD.1 (none_of hs hD.2.2 ?_)
    intro hb
    rcases List.mem_cons.mp hb with e | hb
    · exact o4.1 e.symm
    rcases List.mem_cons.mp hb with e | hb
    · exact o4.2.1 e.symm
    rcases List.mem_cons.mp hb with e | hb
    · exact o4.2.2.1 e.symm
    rcases List.mem_cons.mp hb with e | hb
    · exact o4.2.2.2.1 e.symm
    rcases List.mem_cons.mp hb with e | hb
    · exact o4.2.2.2.2.1 e.symm
    · exact o4.2.2.2.2.2 (List.mem_singleton.mp hb).symm
theorem c_hkeysC {w : World} {loose : List PySem.Str} {mean : ExcName → Option Value} {mg mb : PySem.Str → Option Value} {s : Shared} {h₀ : Heap} {L : Addr} {m : PySem.Str → Option Value} {news : List (Addr × Obj)} {A' : Around} (F : Fr h₀ L s.heap m) (N : News h₀ L s.heap news) (X : (Mine.frag.heap_1 w.params).In h₀) (T : Top Mine.view loose mean mg mb h₀) (hA : A'.handled = none) (hAd : A'.depth ≤ 300 + 20 * 5) (hAu : A'.units ≤ 1000 * 5) {x dx l : Addr} {n : Nat} {k : Tok} {q : Nat → Addr} {a v : Nat → PySem.Str} {t u : Nat → Tok} {Q : Value → Shared → Prop}
  (hm : ∀ p ∈ hkObjs w.params 182 x dx l k n q a v t u, p ∈ news)
  (hQ : ∀ h' tk D n' t0 t1 t2, Fr h₀ L h' m → News h₀ L h' ((D, listOf #[.str (a 0) t0, .str (a 1) t1, .str (a 2) t2] n') :: news) → AllNe D news → Q (.ref D) { s with heap := h', toks := tk }) :
  wpAny (model PySem.Challenge.rw_ta0081_03.row.prog w) A' (call (.ref 134) [.ref x]) Q NoE s := by
  refine lift_A (A := AC 5) (wpAny_call (c_hkeys w loose mean mg mb s h₀ X T F.keep x dx l n k q a v t u _ (fun p hp => ⟨(N p (hm p hp)).1, (N p (hm p hp)).2.2⟩) fun h' tk D n' t0 t1 t2 hst hD hD0 => ?_)) hA.symm hAd hAu rfl rfl
  refine hQ h' tk D n' t0 t1 t2 (fr_stay F hst) (fun p hp => ?_) (allNe_of (news_ne N hD0))
  rcases List.mem_cons.mp hp with rfl | hp
  · refine ⟨hD, fr_ne F hD0, ?_⟩
    cases q : h₀.get? D with
    | none => rfl
    | some o => rw [F.keep _ _ q] at hD0; cases hD0
  · exact news_stay N hst p hp
end HKt
section AKt
theorem offAK : True := by w_top off; trivial
structure StopHere : Prop where
  ok : True
local macro_rules | `(tactic| walk_at "sub") => `(tactic| first | exact List.forall_mem_nil _ | (refine' List.forall_mem_cons.mpr ⟨?a, ?b⟩; (case a => k_mem); (case b => walk_at "sub")))
local macro_rules | `(tactic| walk_at "call ref") => `(tactic| refine stop ?_)
local macro_rules | `(tactic| walk_at "eval ListComp") => `(tactic| ((have _q : StopHere := by assumption); clear _q; refine stop ?_))
local macro_rules | `(tactic| walk_at "SrcS") => `(tactic| refine stop ?_)
/-- the three letters of an order -/
def ordT (a : Nat → Nat) : PySem.Str := ⟨#[a 0, a 1, a 2]⟩
def lowT (c : Nat) : PySem.Str := Txt.lower ⟨#[c]⟩
def fst3 (j : Nat) : Nat := if j = 0 then 1 else 0
def snd3 (j : Nat) : Nat := if j = 2 then 1 else 2
/-- the order behind the asking: the name goes to the end -/
def askT (a : Nat → Nat) (j c : Nat) : PySem.Str := ⟨#[a (fst3 j), a (snd3 j), c]⟩
theorem ord_at {a : Nat → Nat} {i c : Nat} (h : (ordT a).cps[i]? = some c) : i < 3 ∧ c = a i := by
  have hi : i < 3 := (Array.getElem?_eq_some_iff.mp h).1
  obtain rfl | rfl | rfl : i = 0 ∨ i = 1 ∨ i = 2 := by omega
  all_goals exact ⟨by decide, (Option.some.inj h).symm⟩
def shO (a : Nat → Nat) (k : Nat) (t u : Tok) : Obj := tupO [.str ⟨#[a k]⟩ t, .str "on the shelf" u]
theorem fp3 {a : Nat → Nat} {j c : Nat} {q : Nat → Addr} {x : PySem.Str} (hj : j < 3) (hl : ∀ i, i < 3 → (lowT (a i) == lowT c) = decide (i = j)) :
    fpair (fun y => !(Txt.lower y == Txt.lower (⟨#[c]⟩ : PySem.Str))) [.ref (q 0), .ref (q 1), .ref (q 2)] [(⟨#[a 0]⟩, x), (⟨#[a 1]⟩, x), (⟨#[a 2]⟩, x)] = [.ref (q (fst3 j)), .ref (q (snd3 j))] := by
  have h0 : (Txt.lower (⟨#[a 0]⟩ : PySem.Str) == Txt.lower (⟨#[c]⟩ : PySem.Str)) = decide (0 = j) := hl 0 (by decide)
  have h1 : (Txt.lower (⟨#[a 1]⟩ : PySem.Str) == Txt.lower (⟨#[c]⟩ : PySem.Str)) = decide (1 = j) := hl 1 (by decide)
  have h2 : (Txt.lower (⟨#[a 2]⟩ : PySem.Str) == Txt.lower (⟨#[c]⟩ : PySem.Str)) = decide (2 = j) := hl 2 (by decide)
  unfold fpair fpair fpair fpair
  dsimp only
  rw [h0, h1, h2]
  obtain rfl | rfl | rfl : j = 0 ∨ j = 1 ∨ j = 2 := by omega
  all_goals rfl
theorem c_asked (w : World) (loose : List PySem.Str) (mean : ExcName → Option Value) (mg mb : PySem.Str → Option Value) (s : Shared) (h₀ : Heap) (X : (Mine.frag.heap_1 w.params).In h₀) (T : Top Mine.view loose mean mg mb h₀) (hk : h₀.StaysIn s.heap) (a : Nat → Nat) (j c : Nat) (t tc : Tok) (R : Result → Shared → Prop) (ha : ∀ i, i < 3 → cleanN ⟨#[a i]⟩ ∧ a i < 128) (hc : cleanN ⟨#[c]⟩ ∧ cleanN (Txt.lower ⟨#[c]⟩)) (hj : j < 3)
  (hl : ∀ i, i < 3 → (lowT (a i) == lowT c) = decide (i = j))
  (hR : ∀ h' tk tx, s.heap.StaysIn h' → R (.ok (.ret (.str (askT a j c) tx))) { s with heap := h', toks := tk }) :
  codeAny (model PySem.Challenge.rw_ta0081_03.row.prog w) (AC 4) (.call (.ref 278) ⟨[.str (ordT a) t, .str ⟨#[c]⟩ tc], []⟩) R s := by
  revert X
  k_fill
  intro X
  k_dflt (refine' enter (binds := [("order", .str (ordT a) t), ("name", .str ⟨#[c]⟩ tc)]) (news := []) X T hk ?kn ?k6 ?k7 ?k8 ?k9 ?kB ?h ?c2 ?c3 ?c4 ?c5; (case kn => exact fun q hq => nomatch hq); (case k6 => k_is); (case k7 => k_is); (case k8 => decide); (case k9 => exact BindsTo.of_eq rfl); (case c5 => decide); (case kB => exact locs rfl); (case c2 => exact rfl); (case c3 => exact rfl); (case c4 => exact rfl))
  clear X T
  intro g L h₁ hg hs F N X T
  (try dsimp only)
  have hS : StopHere := ⟨trivial⟩
  k_steps
  unfold Stop
  rename Fr _ _ _ _ => F
  refine comp_strE F (by with_unfolding_all rfl) (by decide) (by rfl) (by decide) (by rfl) ?_
  k_steps
  rename Fr _ _ _ _ => F
  rename News _ _ _ _ => N
  refine ⟨_, _, _, rfl, ?asc, rfl, F, N, ?szs, fun g1 => ?_⟩
  case asc =>
    rw [Array.all_eq_true]
    intro i hi
    obtain ⟨h3, e⟩ := ord_at (a := a) (Array.getElem?_eq_getElem hi)
    rw [e]
    exact decide_eq_true (ha i h3).2
  case szs => exact Nat.le_of_ble_eq_true rfl
  clear F N
  refine compU_B (fun i ys tups => TupJ (shO a) i ys tups) ?turnK ?doneK TupJ.nil
  case turnK =>
    rintro j ys tups v I2 oI2 C2 oC2 D2 m₂ h tk E' hJ hj hv hC hx F N o3 ne
    obtain ⟨c9, u9, hc9, rfl⟩ := hv
    obtain ⟨hi9, rfl⟩ := ord_at hc9
    have o3' := o3
    clear o3
    simp only [List.cons_append, List.nil_append] at N
    k_steps
    rename Fr _ _ _ _ => F1
    rename News _ _ _ _ => N1
    rename _ ∧ _ => l1'
    exact compEnd_one F1 N1 o3' l1'.1 l1'.2.1 l1'.2.2.1 trivial ⟨tups ++ [_], rfl, hJ.snoc (i := j) rfl⟩
  case doneK =>
    rintro ys tups hJ
    obtain ⟨q, t', u', rfl, rfl⟩ := hJ.three
    clear hJ
    intro l h3 tk3 F3 N3 o13
    simp only [LCg.Off1, List.nil_append, List.cons_append, and_true] at o13 N3
    k_steps
    unfold Stop
    rename Fr _ _ _ _ => F1
    rename News _ _ _ _ => N1
    have hsh : cleanV "on the shelf" := cleanV_of (cleanN_of (by decide +kernel))
    have hsf : cleanV "asked for" := cleanV_of (cleanN_of (by decide +kernel))
    have hct : ∀ p ∈ ([(⟨#[a 0]⟩, "on the shelf"), (⟨#[a 1]⟩, "on the shelf"), (⟨#[a 2]⟩, "on the shelf")] : List (PySem.Str × PySem.Str)), cleanN p.1 ∧ cleanV p.2 := by
      intro p hp
      simp only [List.mem_cons, List.not_mem_nil, or_false] at hp
      rcases hp with rfl | rfl | rfl
      · exact ⟨(ha 0 (by decide)).1, hsh⟩
      · exact ⟨(ha 1 (by decide)).1, hsh⟩
      · exact ⟨(ha 2 (by decide)).1, hsh⟩
    refine offE (lift_A (A := AC 5) (c_hnew _ _ _ _ _ _ _ (by assumption) (by assumption) (fun _ _ q => F1.keep _ _ q) F1 N1 _ _ _ [(⟨#[a 0]⟩, "on the shelf"), (⟨#[a 1]⟩, "on the shelf"), (⟨#[a 2]⟩, "on the shelf")] _ (.head _) ?pin hct (Nat.le_of_ble_eq_true rfl) ?_) rfl (Nat.le_of_ble_eq_true rfl) (Nat.le_of_ble_eq_true rfl) rfl rfl)
    case pin => exact PairsIn.cons (.tail _ (.head _)) (PairsIn.cons (.tail _ (.tail _ (.head _))) (PairsIn.cons (.tail _ (.tail _ (.tail _ (.head _)))) PairsIn.nil))
    clear F1 N1
    intro h5 tk5 xs ds ks F5 N5 al5 be5
    have hPI := PairsIn.cons (h₀ := g) (led := [(q 0, shO a 0 (t' 0) (u' 0)), (q 1, shO a 1 (t' 1) (u' 1)), (q 2, shO a 2 (t' 2) (u' 2))]) (p := (⟨#[a 0]⟩, "on the shelf")) (.head _) (PairsIn.cons (p := (⟨#[a 1]⟩, "on the shelf")) (.tail _ (.head _)) (PairsIn.cons (p := (⟨#[a 2]⟩, "on the shelf")) (.tail _ (.tail _ (.head _))) PairsIn.nil))
    k_steps
    unfold Stop
    rename Fr _ _ _ _ => F1
    rename News _ _ _ _ => N1
    simp only [AllLt, and_true] at al5
    have hPA := hPI.at F1 (fun p hp => N1 p (.tail _ (.tail _ (.tail _ hp))))
    refine offE ?_
    k_dflt (refine' c_hsetC F1 N1 ?k3 ?k4 ?a1 ?a2 ?a3 [(xs, instObj 182 ds), (ds, dictOf [strKey w.params "_headers" ks (.ref l)] 1), (q 0, shO a 0 (t' 0) (u' 0)), (q 1, shO a 1 (t' 1) (u' 1)), (q 2, shO a 2 (t' 2) (u' 2))] ?m ?r hPA hct hc.1 hc.2 hsf ?zz (Nat.ne_of_lt be5) ?ld ?lx ?_; (case m => (dsimp only [hdObjs]; walk_at "sub")); (case ld => exact Nat.ne_of_lt al5.1); (case lx => exact Nat.ne_of_lt (Nat.lt_trans al5.1 be5)); (case k3 => k_asm); (case k4 => k_asm); (case a1 => exact rfl); (case a2 => exact Nat.le_of_ble_eq_true rfl); (case a3 => exact Nat.le_of_ble_eq_true rfl); (case zz => exact Nat.le_of_ble_eq_true rfl); k_whole)
    case r =>
      intro p hp
      simp only [List.mem_cons, List.not_mem_nil, or_false] at hp
      rcases hp with rfl | rfl | rfl | rfl | rfl
      · exact ⟨by k_mem, Ne.symm (Nat.ne_of_lt (Nat.lt_trans al5.1 be5))⟩
      · exact ⟨by k_mem, Ne.symm (Nat.ne_of_lt al5.1)⟩
      · exact ⟨by k_mem, o13.1⟩
      · exact ⟨by k_mem, o13.2.1⟩
      · exact ⟨by k_mem, o13.2.2⟩
    clear F1 N1 hPA
    intro h6 tk6 n6 D6 F6 N6 hs6 hD6
    rw [fp3 hj hl] at N6
    obtain ⟨t9, N6⟩ : ∃ t9, News g L h6 [(D6, tupO [.str ⟨#[c]⟩ tc, .str "asked for" t9]), (l, listOf #[.ref (q (fst3 j)), .ref (q (snd3 j)), .ref D6] n6), (xs, instObj 182 ds), (ds, dictOf [strKey w.params "_headers" ks (.ref l)] 1), (q 0, shO a 0 (t' 0) (u' 0)), (q 1, shO a 1 (t' 1) (u' 1)), (q 2, shO a 2 (t' 2) (u' 2))] := ⟨_, N6⟩
    k_steps
    unfold Stop
    rename Fr _ _ _ _ => F1
    rename News _ _ _ _ => N1
    refine offE ?_
    refine c_hkeysC (x := xs) (dx := ds) (l := l) (n := n6) (k := ks) (q := fun i => [q (fst3 j), q (snd3 j), D6].getD i 0) (a := fun i => [(⟨#[a (fst3 j)]⟩ : PySem.Str), ⟨#[a (snd3 j)]⟩, ⟨#[c]⟩].getD i "") (v := fun i => ["on the shelf", "on the shelf", "asked for"].getD i "") (t := fun i => [t' (fst3 j), t' (snd3 j), tc].getD i 0) (u := fun i => [u' (fst3 j), u' (snd3 j), t9].getD i 0) F1 N1 (by assumption) (by assumption) rfl (Nat.le_of_ble_eq_true rfl) (Nat.le_of_ble_eq_true rfl) ?mk ?_
    case mk =>
      intro p hp
      have hp : p ∈ [(xs, instObj 182 ds), (ds, dictOf [strKey w.params "_headers" ks (.ref l)] 1), (l, listOf #[.ref (q (fst3 j)), .ref (q (snd3 j)), .ref D6] n6), (q (fst3 j), shO a (fst3 j) (t' (fst3 j)) (u' (fst3 j))), (q (snd3 j), shO a (snd3 j) (t' (snd3 j)) (u' (snd3 j))), (D6, tupO [.str ⟨#[c]⟩ tc, .str "asked for" t9])] := hp
      have hq : ∀ i, i < 3 → (q i, shO a i (t' i) (u' i)) ∈ [(q 0, shO a 0 (t' 0) (u' 0)), (q 1, shO a 1 (t' 1) (u' 1)), (q 2, shO a 2 (t' 2) (u' 2))] := by
        intro i hi
        obtain rfl | rfl | rfl : i = 0 ∨ i = 1 ∨ i = 2 := by omega
        · exact .head _
        · exact .tail _ (.head _)
        · exact .tail _ (.tail _ (.head _))
      simp only [List.mem_cons, List.not_mem_nil, or_false] at hp
      rcases hp with rfl | rfl | rfl | rfl | rfl | rfl
      · exact .tail _ (.tail _ (.head _))
      · exact .tail _ (.tail _ (.tail _ (.head _)))
      · exact .tail _ (.head _)
      · exact .tail _ (.tail _ (.tail _ (.tail _ (hq _ (by unfold fst3; split <;> omega)))))
      · exact .tail _ (.tail _ (.tail _ (.tail _ (hq _ (by unfold snd3; split <;> omega)))))
      · exact .head _
    clear F1 N1
    intro h7 tk7 D7 n7 t0 t1 t2 F7 N7 _
    replace N7 : News g L h7 ((D7, listOf #[.str ⟨#[a (fst3 j)]⟩ t0, .str ⟨#[a (snd3 j)]⟩ t1, .str ⟨#[c]⟩ t2] n7) :: _) := N7
    k_steps
    rename Fr _ _ _ _ => F
    rename News _ _ _ _ => N
    refine join_listC ⟨_, (N _ (.head _)).1, rfl, _, rfl⟩ (StrsAre.cons _ _ (StrsAre.cons _ _ (StrsAre.cons _ _ .nil))) (by decide +kernel) ?js ?_
    case js => exact Nat.le_of_ble_eq_true rfl
    rw [show Txt.join "" [(⟨#[a (fst3 j)]⟩ : PySem.Str), ⟨#[a (snd3 j)]⟩, ⟨#[c]⟩] = askT a j c from str_of_list (join_list0 _)]
    intro t9 k9
    exact hR _ _ _ fun b o e => F.keep b o (hs b o e (fun q => nomatch q))
theorem c_askedC {w : World} {loose : List PySem.Str} {mean : ExcName → Option Value} {mg mb : PySem.Str → Option Value} {s : Shared} {h₀ : Heap} {L : Addr} {m : PySem.Str → Option Value} {news : List (Addr × Obj)} {A' : Around} (F : Fr h₀ L s.heap m) (N : News h₀ L s.heap news) (X : (Mine.frag.heap_1 w.params).In h₀) (T : Top Mine.view loose mean mg mb h₀) (hA : A'.handled = none) (hAd : A'.depth ≤ 300 + 20 * 4) (hAu : A'.units ≤ 1000 * 4) {a : Nat → Nat} {j c : Nat} {t tc : Tok} {Q : Value → Shared → Prop} (ha : ∀ i, i < 3 → cleanN ⟨#[a i]⟩ ∧ a i < 128) (hc : cleanN ⟨#[c]⟩ ∧ cleanN (Txt.lower ⟨#[c]⟩)) (hj : j < 3)
  (hl : ∀ i, i < 3 → (lowT (a i) == lowT c) = decide (i = j))
  (hQ : ∀ h' tk tx, Fr h₀ L h' m → News h₀ L h' news → Q (.str (askT a j c) tx) { s with heap := h', toks := tk }) :
  wpAny (model PySem.Challenge.rw_ta0081_03.row.prog w) A' (call (.ref 278) [.str (ordT a) t, .str ⟨#[c]⟩ tc]) Q NoE s :=
  lift_A (A := AC 4) (wpAny_call (c_asked w loose mean mg mb s h₀ X T F.keep a j c t tc _ ha hc hj hl fun h' tk tx k => hQ h' tk tx (fr_stay F k) (news_stay N k))) hA.symm hAd hAu rfl rfl
end AKt
section COt
local macro_rules | `(tactic| walk_at "pad") => `(tactic| fail)
theorem offCO : True := by w_top off; trivial
local macro_rules | `(tactic| walk_at "exec For") => `(tactic| refine stop ?_)
local macro_rules | `(tactic| walk_at "exec For Name Name cons nil") => `(tactic| refine stop ?_)
local macro_rules | `(tactic| walk_at "pyIter") => `(tactic| refine stop ?_)
local macro_rules | `(tactic| walk_at "pyIter str") => `(tactic| refine stop ?_)
/-- the column of a text, sign by sign -/
def colRun (z : Nat) : List Nat → Nat → Nat
  | [], c => c
  | k :: r, c => colRun z r (if k = 9 then c + (z - c % z) else c + 1)
theorem co_step {z c i k W : Nat} {ws : PySem.Str} (h : ws.cps[i]? = some k) (hr : colRun z (ws.cps.toList.drop i) c = W) : colRun z (ws.cps.toList.drop (i + 1)) (if k = 9 then c + (z - c % z) else c + 1) = W := by
  rw [← hr]
  have h1 : ws.cps.toList.drop i = k :: ws.cps.toList.drop (i + 1) := by
    have h2 : ws.cps.toList[i]? = some k := by simpa using h
    obtain ⟨hl, he⟩ := List.getElem?_eq_some_iff.mp h2
    rw [List.drop_eq_getElem_cons hl, he]
  rw [h1]
  rfl
theorem co_tab {c z : Nat} (h : 1 ≤ z) : (c : Int) + ((z : Int) - (c : Int).fmod (z : Int)) = ((c + (z - c % z) : Nat) : Int) := by
  rw [Int.fmod_eq_emod_of_nonneg _ (by omega)]
  have := Nat.mod_lt c (show 0 < z by omega)
  omega
theorem c_column (w : World) (loose : List PySem.Str) (mean : ExcName → Option Value) (mg mb : PySem.Str → Option Value) (s : Shared) (h₀ : Heap) (X : (Mine.frag.heap_1 w.params).In h₀) (T : Top Mine.view loose mean mg mb h₀) (hk : h₀.StaysIn s.heap) (ws : PySem.Str) (t : Tok) (z : Nat) (tz : Tok) (R : Result → Shared → Prop) (ha : ws.cps.all (· < 128) = true) (hz : ws.cps.size ≤ 1000000) (h1 : 1 ≤ z) (h2 : z ≤ 1000000)
  (hR : ∀ h' tk tx, s.heap.StaysIn h' → R (.ok (.ret (.int ((colRun z ws.cps.toList 0 : Nat) : Int) tx))) { s with heap := h', toks := tk }) :
  codeAny (model PySem.Challenge.rw_ta0081_03.row.prog w) (AC 4) (.call (.ref 273) ⟨[.str ws t, .int (z : Int) tz], []⟩) R s := by
  revert X
  k_fill
  intro X
  k_dflt (refine' enter (binds := [("text", .str ws t), ("size", .int (z : Int) tz)]) (news := []) X T hk ?kn ?k6 ?k7 ?k8 ?k9 ?kB ?h ?c2 ?c3 ?c4 ?c5; (case kn => exact fun q hq => nomatch hq); (case k6 => k_is); (case k7 => k_is); (case k8 => decide); (case k9 => exact BindsTo.of_eq rfl); (case c5 => decide); (case kB => exact locs rfl); (case c2 => exact rfl); (case c3 => exact rfl); (case c4 => exact rfl))
  clear X T
  intro g L h₁ hg hs F N X T
  (try dsimp only)
  k_steps
  unfold Stop
  refine For_led ?_ (fun _ => rfl)
  k_steps
  unfold Stop
  rename Fr _ _ _ _ => F
  rename News _ _ _ _ => N
  refine' for_str (J := fun i m news => ∃ (c : Nat) (tc : Tok), lks m [("text", .str ws t), ("size", .int (z : Int) tz), ("column", .int (c : Int) tc)] ∧ news = [] ∧ colRun z (ws.cps.toList.drop i) c = colRun z ws.cps.toList 0)
    (Jx := fun m news => ∃ (tc : Tok), lks m [("column", .int ((colRun z ws.cps.toList 0 : Nat) : Int) tc)] ∧ news = []) ha ?hA F N ?j0 ?turn ?jx ?done
  case hA => rfl
  case j0 => exact ⟨0, _, ⟨rfl, rfl, rfl, trivial⟩, rfl, rfl⟩
  case jx =>
    rintro m news ⟨c, tc, hm, rfl, hc⟩
    rw [List.drop_of_length_le (by rw [Array.length_toList]; exact Nat.le_refl _)] at hc
    obtain rfl : c = _ := hc
    exact ⟨tc, ⟨hm.2.2.1, trivial⟩, rfl⟩
  case turn =>
    clear F N
    rintro i k u m news h tk I o hk ⟨c, tc, hm, rfl, hc⟩ hnI F N
    replace F := fr_bd F _ hm
    dsimp only [bd] at F
    have hst := co_step hk hc
    have hM : KstMark := kstMark
    k_steps
    · have e : true = decide (k = 9) := sgn_of (x := "\t") (by decide) (by assumption)
      have e1 : k = 9 := by simpa using e.symm
      rename Fr _ _ _ _ => F1
      rename News _ _ _ _ => N1
      rw [co_tab h1] at F1
      rw [if_pos e1] at hst
      exact ⟨_, _, _, _, rfl, F1, N1, hnI, _, _, ⟨rfl, rfl, rfl, trivial⟩, rfl, hst⟩
    · have e : false = decide (k = 9) := sgn_of (x := "\t") (by decide) (by assumption)
      have e1 : ¬ k = 9 := by simpa using e.symm
      rename Fr _ _ _ _ => F1
      rename News _ _ _ _ => N1
      rw [if_neg e1] at hst
      exact ⟨_, _, _, _, rfl, F1, N1, hnI, c + 1, _, ⟨rfl, rfl, rfl, trivial⟩, rfl, hst⟩
  case done =>
    clear F N
    rintro h tk m news ⟨tc, hm, rfl⟩ F N
    replace F := fr_bd F _ hm
    dsimp only [bd] at F
    k_steps
    show R _ _
    exact hR _ _ _ fun b o e => F.keep b o (hs b o e (fun q => nomatch q))
theorem c_columnC {w : World} {loose : List PySem.Str} {mean : ExcName → Option Value} {mg mb : PySem.Str → Option Value} {s : Shared} {h₀ : Heap} {L : Addr} {m : PySem.Str → Option Value} {news : List (Addr × Obj)} {A' : Around} (F : Fr h₀ L s.heap m) (N : News h₀ L s.heap news) (X : (Mine.frag.heap_1 w.params).In h₀) (T : Top Mine.view loose mean mg mb h₀) (hA : A'.handled = none) (hAd : A'.depth ≤ 300 + 20 * 4) (hAu : A'.units ≤ 1000 * 4) {ws : PySem.Str} {t : Tok} {z : Nat} {tz : Tok} {Q : Value → Shared → Prop} (ha : ws.cps.all (· < 128) = true) (hz : ws.cps.size ≤ 1000000) (h1 : 1 ≤ z) (h2 : z ≤ 1000000)
  (hQ : ∀ h' tk tx, Fr h₀ L h' m → News h₀ L h' news → Q (.int ((colRun z ws.cps.toList 0 : Nat) : Int) tx) { s with heap := h', toks := tk }) :
  wpAny (model PySem.Challenge.rw_ta0081_03.row.prog w) A' (call (.ref 273) [.str ws t, .int (z : Int) tz]) Q NoE s :=
  lift_A (A := AC 4) (wpAny_call (c_column w loose mean mg mb s h₀ X T F.keep ws t z tz _ ha hz h1 h2 fun h' tk tx k => hQ h' tk tx (fr_stay F k) (news_stay N k))) hA.symm hAd hAu rfl rfl
theorem colRun_blanks (z : Nat) (r : List Nat) : ∀ (k c : Nat), colRun z (List.replicate k 32 ++ r) c = colRun z r (c + k)
  | 0, c => rfl
  | k + 1, c => by
    rw [List.replicate_succ, List.cons_append]
    show colRun z (List.replicate k 32 ++ r) (if 32 = 9 then _ else c + 1) = _
    rw [if_neg (by decide), colRun_blanks z r k]
    congr 1; omega
theorem tab_at {z : Nat} (h : 1 ≤ z) (q k : Nat) : z * q + k + (z - (z * q + k) % z) = z * (q + (k / z + 1)) := by
  rw [Nat.mul_add_mod]
  have h1 := Nat.div_add_mod k z
  have h2 := Nat.mod_lt k (show 0 < z by omega)
  rw [Nat.mul_add, Nat.mul_add]
  omega
theorem colRun_tabs {z : Nat} (h : 1 ≤ z) : ∀ (cs : List Nat) (q : Nat), colRun z (tabs cs) (z * q) = z * q + lcol cs z
  | [], q => by show z * q = z * q + z * 0; omega
  | c :: r, q => by
    show colRun z (List.replicate c 32 ++ 9 :: tabs r) (z * q) = _
    rw [colRun_blanks]
    show colRun z (tabs r) (if 9 = 9 then z * q + c + (z - (z * q + c) % z) else _) = _
    rw [if_pos rfl, tab_at h, colRun_tabs h r]
    unfold lcol
    rw [List.map_cons, List.sum_cons, List.length_cons, ← Nat.mul_add, ← Nat.mul_add]
    congr 1; omega
end COt
section EAt
theorem offEA : True := by w_top off; trivial
/-- a run with a tab, if the number is above nought -/
def oneCs (r : Nat) : List Nat := if 0 < r then [r - 1] else []
/-- the runs of a lead of law 3 -/
def leadCs (x : Nat) : List Nat := (x % 4) :: (oneCs (x / 4 % 5) ++ oneCs (x / 20 % 5))
/-- a lead as text -/
def leadT (x : Nat) : PySem.Str := ⟨(tabs (leadCs x)).toArray⟩
theorem le_mod (x : Nat) : (x : Int).fmod 4 = ((x % 4 : Nat) : Int) := by rw [Int.fmod_eq_emod_of_nonneg _ (by decide)]; rfl
theorem le_rest (x k : Nat) : ((x : Int).fdiv (k : Int)).fmod 5 = ((x / k % 5 : Nat) : Int) := by
  rw [Int.fmod_eq_emod_of_nonneg _ (by decide), show (x : Int).fdiv (k : Int) = ((x / k : Nat) : Int) from (Int.ofNat_fdiv x k).symm]; rfl
theorem le_app {cs : List Nat} {T : PySem.Str} {r : Nat} (h : T.cps.toList = tabs cs) (hr : 0 < r) : (T ++ (Txt.mul " " ((r : Int) - 1) ++ "\t")).cps.toList = tabs (cs ++ oneCs r) := by
  rw [show (r : Int) - 1 = ((r - 1 : Nat) : Int) by omega]
  simp only [app_list, mul_list]
  rw [h, tabs_app]
  unfold oneCs
  rw [if_pos hr]
  rfl
theorem le_same {cs : List Nat} {T : PySem.Str} {r : Nat} (h : T.cps.toList = tabs cs) (hr : ¬ 0 < r) : T.cps.toList = tabs (cs ++ oneCs r) := by
  unfold oneCs
  rw [if_neg hr, List.append_nil, h]
theorem le_first (x : Nat) : (Txt.mul " " ((x % 4 : Nat) : Int) ++ "\t").cps.toList = tabs [x % 4] := by
  simp only [app_list, mul_list]
  rfl
theorem le_4 (x : Nat) : ((x : Int).fdiv 4).fmod 5 = ((x / 4 % 5 : Nat) : Int) := le_rest x 4
theorem le_20 (x : Nat) : ((x : Int).fdiv 20).fmod 5 = ((x / 20 % 5 : Nat) : Int) := le_rest x 20
theorem leadT_is (x : Nat) : leadT x = ⟨(tabs ([x % 4] ++ oneCs (x / 4 % 5) ++ oneCs (x / 20 % 5))).toArray⟩ := by
  show (⟨(tabs ((x % 4) :: (oneCs (x / 4 % 5) ++ oneCs (x / 20 % 5)))).toArray⟩ : PySem.Str) = _
  rw [List.append_assoc]; rfl
theorem le_pp {x : Nat} (h1 : (0 : Int) < ((x : Int).fdiv 4).fmod 5) (h2 : (0 : Int) < ((x : Int).fdiv 20).fmod 5) :
    Txt.mul " " ((x : Int).fmod 4) ++ "\t" ++ (Txt.mul " " (((x : Int).fdiv 4).fmod 5 - 1) ++ "\t") ++ (Txt.mul " " (((x : Int).fdiv 20).fmod 5 - 1) ++ "\t") = leadT x := by
  rw [le_4] at *; rw [le_20] at *; rw [le_mod, leadT_is]
  exact str_of_list (le_app (le_app (le_first x) (by omega)) (by omega))
theorem le_pn {x : Nat} (h1 : (0 : Int) < ((x : Int).fdiv 4).fmod 5) (h2 : ¬ (0 : Int) < ((x : Int).fdiv 20).fmod 5) :
    Txt.mul " " ((x : Int).fmod 4) ++ "\t" ++ (Txt.mul " " (((x : Int).fdiv 4).fmod 5 - 1) ++ "\t") = leadT x := by
  rw [le_4] at *; rw [le_20] at *; rw [le_mod, leadT_is]
  exact str_of_list (le_same (le_app (le_first x) (by omega)) (by omega))
theorem le_np {x : Nat} (h1 : ¬ (0 : Int) < ((x : Int).fdiv 4).fmod 5) (h2 : (0 : Int) < ((x : Int).fdiv 20).fmod 5) :
    Txt.mul " " ((x : Int).fmod 4) ++ "\t" ++ (Txt.mul " " (((x : Int).fdiv 20).fmod 5 - 1) ++ "\t") = leadT x := by
  rw [le_4] at *; rw [le_20] at *; rw [le_mod, leadT_is]
  exact str_of_list (le_app (le_same (le_first x) (by omega)) (by omega))
theorem le_nn {x : Nat} (h1 : ¬ (0 : Int) < ((x : Int).fdiv 4).fmod 5) (h2 : ¬ (0 : Int) < ((x : Int).fdiv 20).fmod 5) :
    Txt.mul " " ((x : Int).fmod 4) ++ "\t" = leadT x := by
  rw [le_4] at *; rw [le_20] at *; rw [le_mod, leadT_is]
  exact str_of_list (le_same (le_same (le_first x) (by omega)) (by omega))
theorem c_lead (w : World) (loose : List PySem.Str) (mean : ExcName → Option Value) (mg mb : PySem.Str → Option Value) (s : Shared) (h₀ : Heap) (X : (Mine.frag.heap_1 w.params).In h₀) (T : Top Mine.view loose mean mg mb h₀) (hk : h₀.StaysIn s.heap) (x : Nat) (t : Tok) (R : Result → Shared → Prop)
  (hR : ∀ h' tk tx, s.heap.StaysIn h' → R (.ok (.ret (.str (leadT x) tx))) { s with heap := h', toks := tk }) :
  codeAny (model PySem.Challenge.rw_ta0081_03.row.prog w) (AC 4) (.call (.ref 266) ⟨[.int (x : Int) t], []⟩) R s := by
  revert X
  k_fill
  intro X
  k_dflt (refine' enter (binds := [("x", .int (x : Int) t)]) (news := []) X T hk ?kn ?k6 ?k7 ?k8 ?k9 ?kB ?h ?c2 ?c3 ?c4 ?c5; (case kn => exact fun q hq => nomatch hq); (case k6 => k_is); (case k7 => k_is); (case k8 => decide); (case k9 => exact BindsTo.of_eq rfl); (case c5 => decide); (case kB => exact locs rfl); (case c2 => exact rfl); (case c3 => exact rfl); (case c4 => exact rfl))
  clear X T
  intro g L h₁ hg hs F N X T
  (try dsimp only)
  have hf : 0 ≤ (x : Int).fmod 4 ∧ (x : Int).fmod 4 < 4 := by rw [le_mod]; omega
  have hf2 : 0 ≤ ((x : Int).fdiv 4).fmod 5 ∧ ((x : Int).fdiv 4).fmod 5 < 5 := by rw [show (4 : Int) = ((4 : Nat) : Int) from rfl, le_rest]; omega
  have hf3 : 0 ≤ ((x : Int).fdiv 20).fmod 5 ∧ ((x : Int).fdiv 20).fmod 5 < 5 := by rw [show (20 : Int) = ((20 : Nat) : Int) from rfl, le_rest]; omega
  k_steps
  all_goals rename Fr _ _ _ _ => F1
  all_goals dsimp only
  all_goals first | rw [le_pp (x := x) (by assumption) (by assumption)] | rw [le_pn (x := x) (by assumption) (by assumption)] | rw [le_np (x := x) (by assumption) (by assumption)] | rw [le_nn (x := x) (by assumption) (by assumption)]
  all_goals exact hR _ _ _ fun b o e => F1.keep b o (hs b o e (fun q => nomatch q))
theorem c_leadC {w : World} {loose : List PySem.Str} {mean : ExcName → Option Value} {mg mb : PySem.Str → Option Value} {s : Shared} {h₀ : Heap} {L : Addr} {m : PySem.Str → Option Value} {news : List (Addr × Obj)} {A' : Around} (F : Fr h₀ L s.heap m) (N : News h₀ L s.heap news) (X : (Mine.frag.heap_1 w.params).In h₀) (T : Top Mine.view loose mean mg mb h₀) (hA : A'.handled = none) (hAd : A'.depth ≤ 300 + 20 * 4) (hAu : A'.units ≤ 1000 * 4) {x : Nat} {t : Tok} {Q : Value → Shared → Prop}
  (hQ : ∀ h' tk tx, Fr h₀ L h' m → News h₀ L h' news → Q (.str (leadT x) tx) { s with heap := h', toks := tk }) :
  wpAny (model PySem.Challenge.rw_ta0081_03.row.prog w) A' (call (.ref 266) [.int (x : Int) t]) Q NoE s :=
  lift_A (A := AC 4) (wpAny_call (c_lead w loose mean mg mb s h₀ X T F.keep x t _ fun h' tk tx k => hQ h' tk tx (fr_stay F k) (news_stay N k))) hA.symm hAd hAu rfl rfl
end EAt
section NSt
theorem offNS : True := by w_top off; trivial
local macro_rules | `(tactic| walk_at "exec For") => `(tactic| refine stop ?_)
local macro_rules | `(tactic| walk_at "exec For Name Name cons nil") => `(tactic| refine stop ?_)
local macro_rules | `(tactic| walk_at "pyIter") => `(tactic| refine stop ?_)
local macro_rules | `(tactic| walk_at "pyIter str") => `(tactic| refine stop ?_)
/-- the number of a word -/
def numRun : List Nat → Int → Int
  | [], n => n
  | k :: r, n => numRun r (16 * n + (k : Int) - 65)
theorem ns_step {c i : Nat} {n W : Int} {ws : PySem.Str} (h : ws.cps[i]? = some c) (hr : numRun (ws.cps.toList.drop i) n = W) : numRun (ws.cps.toList.drop (i + 1)) (16 * n + (c : Int) - 65) = W := by
  rw [← hr]
  have h1 : ws.cps.toList.drop i = c :: ws.cps.toList.drop (i + 1) := by
    have h2 : ws.cps.toList[i]? = some c := by simpa using h
    obtain ⟨hl, he⟩ := List.getElem?_eq_some_iff.mp h2
    rw [List.drop_eq_getElem_cons hl, he]
  rw [h1]
  rfl
theorem numRun_ap : ∀ (bs : List UInt8) (n : Int), numRun (bs.map (·.toNat)) n = apVal bs n
  | [], _ => rfl
  | _ :: r, _ => numRun_ap r _
theorem c_number (w : World) (loose : List PySem.Str) (mean : ExcName → Option Value) (mg mb : PySem.Str → Option Value) (s : Shared) (h₀ : Heap) (X : (Mine.frag.heap_1 w.params).In h₀) (T : Top Mine.view loose mean mg mb h₀) (hk : h₀.StaysIn s.heap) (ws : PySem.Str) (t : Tok) (R : Result → Shared → Prop) (ha : ws.cps.all (· < 128) = true)
  (hR : ∀ h' tk tx, s.heap.StaysIn h' → R (.ok (.ret (.int (numRun ws.cps.toList 0) tx))) { s with heap := h', toks := tk }) :
  codeAny (model PySem.Challenge.rw_ta0081_03.row.prog w) (AC 4) (.call (.ref 292) ⟨[.str ws t], []⟩) R s := by
  revert X
  k_fill
  intro X
  k_dflt (refine' enter (binds := [("word", .str ws t)]) (news := []) X T hk ?kn ?k6 ?k7 ?k8 ?k9 ?kB ?h ?c2 ?c3 ?c4 ?c5; (case kn => exact fun q hq => nomatch hq); (case k6 => k_is); (case k7 => k_is); (case k8 => decide); (case k9 => exact BindsTo.of_eq rfl); (case c5 => decide); (case kB => exact locs rfl); (case c2 => exact rfl); (case c3 => exact rfl); (case c4 => exact rfl))
  clear X T
  intro g L h₁ hg hs F N X T
  (try dsimp only)
  k_steps
  unfold Stop
  refine For_led ?_ (fun _ => rfl)
  k_steps
  unfold Stop
  rename Fr _ _ _ _ => F
  rename News _ _ _ _ => N
  refine' for_str (J := fun i m news => ∃ (n : Int) (tc : Tok), lks m [("word", .str ws t), ("number", .int n tc)] ∧ news = [] ∧ numRun (ws.cps.toList.drop i) n = numRun ws.cps.toList 0)
    (Jx := fun m news => ∃ (tc : Tok), lks m [("number", .int (numRun ws.cps.toList 0) tc)] ∧ news = []) ha ?hA F N ?j0 ?turn ?jx ?done
  case hA => rfl
  case j0 => exact ⟨0, _, ⟨rfl, rfl, trivial⟩, rfl, rfl⟩
  case jx =>
    rintro m news ⟨c, tc, hm, rfl, hc⟩
    rw [List.drop_of_length_le (by rw [Array.length_toList]; exact Nat.le_refl _)] at hc
    obtain rfl : c = _ := hc
    exact ⟨tc, ⟨hm.2.1, trivial⟩, rfl⟩
  case turn =>
    clear F N
    rintro i k u m news h tk I o hk ⟨n, tc, hm, rfl, hc⟩ hnI F N
    replace F := fr_bd F _ hm
    dsimp only [bd] at F
    have hst := ns_step hk hc
    k_steps
    rename Fr _ _ _ _ => F1
    rename News _ _ _ _ => N1
    exact ⟨_, _, _, _, rfl, F1, N1, hnI, _, _, ⟨rfl, rfl, trivial⟩, rfl, hst⟩
  case done =>
    clear F N
    rintro h tk m news ⟨tc, hm, rfl⟩ F N
    replace F := fr_bd F _ hm
    dsimp only [bd] at F
    k_steps
    show R _ _
    exact hR _ _ _ fun b o e => F.keep b o (hs b o e (fun q => nomatch q))
theorem c_numberC {w : World} {loose : List PySem.Str} {mean : ExcName → Option Value} {mg mb : PySem.Str → Option Value} {s : Shared} {h₀ : Heap} {L : Addr} {m : PySem.Str → Option Value} {news : List (Addr × Obj)} {A' : Around} (F : Fr h₀ L s.heap m) (N : News h₀ L s.heap news) (X : (Mine.frag.heap_1 w.params).In h₀) (T : Top Mine.view loose mean mg mb h₀) (hA : A'.handled = none) (hAd : A'.depth ≤ 300 + 20 * 4) (hAu : A'.units ≤ 1000 * 4) {ws : PySem.Str} {t : Tok} {Q : Value → Shared → Prop} (ha : ws.cps.all (· < 128) = true)
  (hQ : ∀ h' tk tx, Fr h₀ L h' m → News h₀ L h' news → Q (.int (numRun ws.cps.toList 0) tx) { s with heap := h', toks := tk }) :
  wpAny (model PySem.Challenge.rw_ta0081_03.row.prog w) A' (call (.ref 292) [.str ws t]) Q NoE s :=
  lift_A (A := AC 4) (wpAny_call (c_number w loose mean mg mb s h₀ X T F.keep ws t _ ha fun h' tk tx k => hQ h' tk tx (fr_stay F k) (news_stay N k))) hA.symm hAd hAu rfl rfl
end NSt
section LIt
theorem offLI : True := by w_top off; trivial
local macro_rules | `(tactic| walk_at "sub") => `(tactic| first | exact List.forall_mem_nil _ | (refine' List.forall_mem_cons.mpr ⟨?a, ?b⟩; (case a => k_mem); (case b => walk_at "sub")))
local macro_rules | `(tactic| walk_at "call ref") => `(tactic| refine stop ?_)
local macro_rules | `(tactic| walk_at "eval ListComp") => `(tactic| refine stop ?_)
local macro_rules | `(tactic| walk_at "SrcS") => `(tactic| refine stop ?_)
local macro_rules | `(tactic| walk_at "exec For") => `(tactic| refine stop ?_)
local macro_rules | `(tactic| walk_at "exec For Name Tuple") => `(tactic| refine stop ?_)
local macro_rules | `(tactic| walk_at "exec For Name Tuple cons nil") => `(tactic| refine stop ?_)
local macro_rules | `(tactic| walk_at "subscriptTail") => `(tactic| (k_here; (with_reducible show wpAny _ _ (subscriptTail _ _ (Value.ref _) (Value.int _ _)) _ _ _); k_dflt (refine' item_at ?N ?m ?x ?k ?_; (case N => k_asm); (case m => k_mem); (case x => assumption); (case k => omega); k_whole)))
local macro_rules | `(tactic| walk_at "call builtin:str.index") => `(tactic| (k_here; (with_reducible show wpAny _ _ (call (Value.builtin _) [Value.str _ _, Value.str _ _]) _ _ _); k_dflt (refine' index_abc rfl ?i ?_; (case i => assumption); k_whole)))
local macro_rules | `(tactic| walk_at "setItem ref str") => `(tactic| (k_here; k_dflt (refine' kda_set (knd := PySem.strKind _ _) ?F ?N ?U ?d (strKind_is _ _ _ _) ?z ?_; (case F => k_asm); (case N => k_asm); (case U => k_updF); (case d => k_asm); (case z => assumption); k_whole); intro h' o' F' N' hd'; (try dsimp only at N')))
/-- the runs of leads, one behind the other -/
def csOf (xs : List Nat) : List Nat := (xs.map leadCs).flatten
theorem leadCs_small (x : Nat) : (leadCs x).sum + (leadCs x).length ≤ 100 := by
  unfold leadCs oneCs
  split <;> split <;> simp only [List.sum_cons, List.sum_nil, List.length_cons, List.length_nil, List.nil_append, List.cons_append] <;> omega
theorem csum_le : ∀ xs : List Nat, (csOf xs).sum + (csOf xs).length ≤ 100 * xs.length
  | [] => Nat.le_refl _
  | x :: r => by
    have h1 := csum_le r
    have h2 := leadCs_small x
    show (leadCs x ++ csOf r).sum + (leadCs x ++ csOf r).length ≤ 100 * (r.length + 1)
    rw [List.sum_append, List.length_append]
    omega
theorem csum_small (xs : List Nat) (h : xs.length ≤ 1000) : (csOf xs).sum + (csOf xs).length ≤ 1000000 := by
  have := csum_le xs
  omega
theorem join_leads (xs : List Nat) : Txt.join "" (xs.map leadT) = tabsT (csOf xs) := by
  refine str_of_list ?_
  rw [join_list0]
  induction xs with
  | nil => rfl
  | cons x r ih =>
    show (leadT x).cps.toList ++ _ = tabs (leadCs x ++ csOf r)
    rw [tabs_app]
    exact congrArg _ ih
theorem leadT_len (x : Nat) : (leadT x).length ≤ 100 := by
  show (tabs (leadCs x)).toArray.size ≤ 100
  rw [List.size_toArray, tabs_len]
  exact leadCs_small x
theorem join_small (xs : List Nat) (h : xs.length ≤ 100) : ((xs.map leadT).map (·.length)).sum + (xs.map leadT).length * 64 ≤ 16777216 := by
  have key : ∀ xs : List Nat, ((xs.map leadT).map (·.length)).sum ≤ 100 * xs.length := by
    intro xs
    induction xs with
    | nil => exact Nat.le_refl _
    | cons x r ih =>
      have := leadT_len x
      simp only [List.map_cons, List.sum_cons, List.length_cons]
      omega
  have := key xs
  rw [List.length_map]
  omega
theorem let_mem {T : PySem.Str} {i c : Nat} (h : T.cps[i]? = some c) : c ∈ T.cps.toList := by
  have := Array.getElem?_toList (xs := T.cps) (i := i)
  rw [h] at this
  exact List.mem_of_getElem? this
theorem let_snoc {T : PySem.Str} {i c : Nat} {t : Tok} {f : Nat → PySem.Str} {ys : List Value} (h : T.cps[i]? = some c) (hJ : StrsAre ys ((T.cps.toList.take i).map f)) : StrsAre (ys ++ [.str (f c) t]) ((T.cps.toList.take (i + 1)).map f) := by
  have h2 : T.cps.toList[i]? = some c := by rw [Array.getElem?_toList]; exact h
  rw [List.take_add_one, h2, List.map_append]
  exact strs_snoc hJ
theorem allLt_mem {d : Addr} {p : Addr × Obj} : ∀ {l : List (Addr × Obj)}, AllLt d l → p ∈ l → @LT.lt Nat _ p.1 d
  | _ :: _, h, .head _ => h.1
  | _ :: _, h, .tail _ q => allLt_mem h.2 q
/-- the leads of the line i -/
def linesX (x : Nat → Nat) (i : Nat) : List Nat := ([[x 0], [x 1], [x 2], [x 0, x 1], [x 0, x 2], [x 1, x 2], [x 0, x 1, x 2]] : List (List Nat)).getD i []
def linesKv (r : Nat → WsT) : List (PySem.Str × Value) := [("a", .ref (r 0).x), ("b", .ref (r 1).x), ("c", .ref (r 2).x), ("ab", .ref (r 3).x), ("ac", .ref (r 4).x), ("bc", .ref (r 5).x), ("abc", .ref (r 6).x)]
/-- the table of the lines, as it lies -/
def LinesAt (prog : Program) (w : World) (D : Addr) (o : Obj) (x : Nat → Nat) (r : Nat → WsT) (LN : List (Addr × Obj)) : Prop :=
  (D, o) ∈ LN ∧ o.IsDictOf (strKind prog w) (linesKv r) ∧ ∀ i, i < 7 → WsOk (r i) (csOf (linesX x i)) ∧ ∀ q ∈ wsOf w.params (r i) (csOf (linesX x i)), q ∈ LN
/-- the names of the lines -/
def nmT (i : Nat) : PySem.Str := (["a", "b", "c", "ab", "ac", "bc", "abc"] : List PySem.Str).getD i ""
theorem nm_at {t0 t1 t2 t3 t4 t5 t6 : Tok} {i : Nat} {v : Value} (h : ([.str "a" t0, .str "b" t1, .str "c" t2, .str "ab" t3, .str "ac" t4, .str "bc" t5, .str "abc" t6] : List Value)[i]? = some v) : i < 7 ∧ ∃ t, v = .str (nmT i) t := by
  match i, h with
  | 0, h => exact ⟨by decide, t0, (Option.some.inj h).symm⟩
  | 1, h => exact ⟨by decide, t1, (Option.some.inj h).symm⟩
  | 2, h => exact ⟨by decide, t2, (Option.some.inj h).symm⟩
  | 3, h => exact ⟨by decide, t3, (Option.some.inj h).symm⟩
  | 4, h => exact ⟨by decide, t4, (Option.some.inj h).symm⟩
  | 5, h => exact ⟨by decide, t5, (Option.some.inj h).symm⟩
  | 6, h => exact ⟨by decide, t6, (Option.some.inj h).symm⟩
  | k + 7, h => cases h
theorem seven {i : Nat} (h : i < 7) : i = 0 ∨ i = 1 ∨ i = 2 ∨ i = 3 ∨ i = 4 ∨ i = 5 ∨ i = 6 := by omega
theorem nm_low {i : Nat} (h : i < 7) : (nmT i).cps.all (· < 128) = true ∧ (nmT i).cps.size ≤ 3 ∧ ∀ c ∈ (nmT i).cps.toList, 97 ≤ c ∧ c < 100 := by
  rcases seven h with rfl | rfl | rfl | rfl | rfl | rfl | rfl
  all_goals exact ⟨by decide +kernel, by decide +kernel, by decide +kernel⟩
theorem nm_done {x : Nat → Nat} {i : Nat} (h : i < 7) : ((nmT i).cps.toList.take (nmT i).cps.size).map (fun c => leadT (x (c - 97))) = (linesX x i).map leadT := by
  rcases seven h with rfl | rfl | rfl | rfl | rfl | rfl | rfl
  all_goals rfl
theorem lines_len (x : Nat → Nat) {i : Nat} (h : i < 7) : (linesX x i).length ≤ 3 := by
  rcases seven h with rfl | rfl | rfl | rfl | rfl | rfl | rfl
  all_goals exact Nat.le_of_ble_eq_true rfl
/-- the made lines with one more -/
def rUp (r : Nat → WsT) (i : Nat) (q : WsT) (j : Nat) : WsT := if j = i then q else r j
theorem kv_next {r : Nat → WsT} {q : WsT} {i : Nat} (h : i < 7) : stored ((linesKv r).take i) (nmT i) (.ref q.x) = (linesKv (rUp r i q)).take (i + 1) := by
  rcases seven h with rfl | rfl | rfl | rfl | rfl | rfl | rfl
  all_goals rfl
theorem text_of {x : Nat → Nat} {u : Nat → Tok} {j : Nat} (hj : j < 3) : ([.str (leadT (x 0)) (u 0), .str (leadT (x 1)) (u 1), .str (leadT (x 2)) (u 2)] : List Value)[j]? = some (.str (leadT (x j)) (u j)) := by
  obtain rfl | rfl | rfl : j = 0 ∨ j = 1 ∨ j = 2 := by omega
  all_goals rfl
/-- the table of the first lines, and what stays -/
def liJ (prog : Program) (w : World) (x : Nat → Nat) (D : Addr) (c l T : Addr × Obj) (i : Nat) (m : PySem.Str → Option Value) (news : List (Addr × Obj)) : Prop :=
  ∃ (o : Obj) (r : Nat → WsT) (LN : List (Addr × Obj)), lks m [("lines", .ref D)] ∧ o.IsDictOf (strKind prog w) ((linesKv r).take i) ∧ (∀ j, j < i → WsOk (r j) (csOf (linesX x j)) ∧ ∀ q ∈ wsOf w.params (r j) (csOf (linesX x j)), q ∈ LN) ∧
    (∀ p ∈ LN, p.1 ≠ D) ∧ (∀ p ∈ LN, p.1 ≠ l.1) ∧ news = (D, o) :: c :: l :: T :: LN
theorem li_start {prog : Program} {w : World} {x : Nat → Nat} {g h : Heap} {L D T : Addr} {o : Obj} {c l : Addr × Obj} {m : PySem.Str → Option Value} {t0 t1 t2 t3 t4 t5 t6 : Tok}
    (_F : Fr g L h m) (N : News g L h [(T, tupO [.str "a" t0, .str "b" t1, .str "c" t2, .str "ab" t3, .str "ac" t4, .str "bc" t5, .str "abc" t6]), (D, o), c, l]) (hm : lks m [("lines", .ref D)]) (hd : o.IsDictOf (strKind prog w) []) :
    ∃ vs J, vs = [.str "a" t0, .str "b" t1, .str "c" t2, .str "ab" t3, .str "ac" t4, .str "bc" t5, .str "abc" t6] ∧ J = liJ prog w x D c l (T, tupO vs) ∧ J 0 m [(D, o), c, l, (T, tupO vs)] ∧ News g L h [(D, o), c, l, (T, tupO vs)] :=
  ⟨_, _, rfl, rfl, ⟨o, fun _ => ⟨0, 0, 0, 0, 0, 0, 0, 0, 0, 0, 0, 0, 0, []⟩, [], hm, hd, fun j h => absurd h (Nat.not_lt_zero _), (fun _ h => nomatch h), (fun _ h => nomatch h), rfl⟩, fun p hp => N p (by
    simp only [List.mem_cons, List.not_mem_nil, or_false] at hp ⊢
    rcases hp with h | h | h | h <;> simp [h])⟩
theorem li_fold {g h : Heap} {L D I : Addr} {P : Params} {cs : List Nat} {o oI : Obj} {y c l T : Addr × Obj} {q : WsT} {LN : List (Addr × Obj)}
    (N : News g L h (wsOf P q cs ++ y :: (I, oI) :: (D, o) :: c :: l :: T :: LN)) (h1 : ∀ p ∈ LN, p.1 ≠ D) (h2 : ∀ p ∈ LN, p.1 ≠ l.1) (hI : ∀ p ∈ (D, o) :: c :: l :: T :: LN, p.1 ≠ I)
    (al : AllLt q.dx (y :: (I, oI) :: (D, o) :: c :: l :: T :: LN)) (be : @LT.lt Nat _ q.dx q.x) (ce : @LT.lt Nat _ q.x q.tc) (de : @LT.lt Nat _ q.tc q.tn) :
    ∃ LN', (∀ p ∈ wsOf P q cs, p ∈ LN') ∧ (∀ p ∈ LN, p ∈ LN') ∧ (∀ p ∈ LN', p.1 ≠ D) ∧ (∀ p ∈ LN', p.1 ≠ l.1) ∧ (∀ p ∈ LN', p.1 ≠ I) ∧ News g L h ((I, oI) :: (D, o) :: c :: l :: T :: LN') := by
  have key : ∀ z : Nat, @LT.lt Nat _ z q.dx → (∀ p ∈ LN, p.1 ≠ z) → ∀ p ∈ wsOf P q cs ++ LN, p.1 ≠ z := by
    intro z hz hL p hp
    dsimp only [wsOf, wsObjs, List.cons_append, List.nil_append] at hp
    rcases List.mem_cons.mp hp with rfl | hp
    · exact Nat.ne_of_gt (Nat.lt_trans hz (Nat.lt_trans be (Nat.lt_trans ce de)))
    rcases List.mem_cons.mp hp with rfl | hp
    · exact Nat.ne_of_gt (Nat.lt_trans hz (Nat.lt_trans be ce))
    rcases List.mem_cons.mp hp with rfl | hp
    · exact Nat.ne_of_gt (Nat.lt_trans hz be)
    rcases List.mem_cons.mp hp with rfl | hp
    · exact Nat.ne_of_gt hz
    · exact hL p hp
  refine ⟨wsOf P q cs ++ LN, fun p hp => List.mem_append_left _ hp, fun p hp => List.mem_append_right _ hp, key _ al.2.2.1 h1, key _ al.2.2.2.2.1 h2, key _ al.2.1 fun p hp => hI p (.tail _ (.tail _ (.tail _ (.tail _ hp)))), fun p hp => N p ?_⟩
  simp only [List.mem_cons, List.mem_append] at hp ⊢
  rcases hp with h | h | h | h | h | h | h <;> simp [h]
theorem li_end {prog : Program} {w : World} {x : Nat → Nat} {g h : Heap} {L D I : Addr} {o o' : Obj} {c l T : Addr × Obj} {m : PySem.Str → Option Value} {i : Nat} {r : Nat → WsT} {q : WsT} {LN LN' : List (Addr × Obj)} {J : Nat → (PySem.Str → Option Value) → List (Addr × Obj) → Prop}
    (_F : Fr g L h m) (hJ : J = liJ prog w x D c l T) (hi : i < 7) (hm : lks m [("lines", .ref D)]) (hd : o'.IsDictOf (strKind prog w) (stored ((linesKv r).take i) (nmT i) (.ref q.x)))
    (hr : ∀ j, j < i → WsOk (r j) (csOf (linesX x j)) ∧ ∀ p ∈ wsOf w.params (r j) (csOf (linesX x j)), p ∈ LN) (hq : WsOk q (csOf (linesX x i))) (s1 : ∀ p ∈ wsOf w.params q (csOf (linesX x i)), p ∈ LN') (s2 : ∀ p ∈ LN, p ∈ LN') (h1 : ∀ p ∈ LN', p.1 ≠ D) (h2 : ∀ p ∈ LN', p.1 ≠ l.1)
    (hI : ∀ p ∈ (D, o) :: c :: l :: T :: LN, p.1 ≠ I) (hI' : ∀ p ∈ LN', p.1 ≠ I) :
    (∀ p ∈ (D, o') :: c :: l :: T :: LN', p.1 ≠ I) ∧ J (i + 1) m ((D, o') :: c :: l :: T :: LN') := by
  refine ⟨fun p hp => ?_, ?_⟩
  · rcases List.mem_cons.mp hp with rfl | hp
    · exact hI (D, o) (.head _)
    rcases List.mem_cons.mp hp with rfl | hp
    · exact hI _ (.tail _ (.head _))
    rcases List.mem_cons.mp hp with rfl | hp
    · exact hI _ (.tail _ (.tail _ (.head _)))
    rcases List.mem_cons.mp hp with rfl | hp
    · exact hI _ (.tail _ (.tail _ (.tail _ (.head _))))
    · exact hI' p hp
  · rw [hJ]
    refine ⟨o', rUp r i q, LN', hm, by rw [← kv_next hi]; exact hd, fun j hj => ?_, h1, h2, rfl⟩
    by_cases e : j = i
    · subst e
      rw [show rUp r j q j = q from if_pos rfl]
      exact ⟨hq, s1⟩
    · rw [show rUp r i q j = r j from if_neg e]
      have := hr j (by omega)
      exact ⟨this.1, fun p hp => s2 p (this.2 p hp)⟩
local macro_rules | `(tactic| k_all) => `(tactic| assumption)
theorem c_lines (w : World) (loose : List PySem.Str) (mean : ExcName → Option Value) (mg mb : PySem.Str → Option Value) (s : Shared) (h₀ : Heap) (X : (Mine.frag.heap_1 w.params).In h₀) (T : Top Mine.view loose mean mg mb h₀) (hk : h₀.StaysIn s.heap) (l : Addr) (x : Nat → Nat) (u : Nat → Tok) (n : Nat) (R : Result → Shared → Prop)
  (hn : Has h₀ s.heap [(l, listOf #[.str (leadT (x 0)) (u 0), .str (leadT (x 1)) (u 1), .str (leadT (x 2)) (u 2)] n)])
  (hR : ∀ h' tk D o r LN, LinesAt PySem.Challenge.rw_ta0081_03.row.prog w D o x r LN → s.heap.StaysIn h' → (∀ p ∈ LN, h'.get? p.1 = some p.2 ∧ s.heap.get? p.1 = none) → R (.ok (.ret (.ref D))) { s with heap := h', toks := tk }) :
  codeAny (model PySem.Challenge.rw_ta0081_03.row.prog w) (AC 3) (.call (.ref 302) ⟨[.ref l], []⟩) R s := by
  revert X
  k_fill
  intro X
  k_dflt (refine' enterC (binds := [("texts", .ref l)]) (news := [(l, listOf #[.str (leadT (x 0)) (u 0), .str (leadT (x 1)) (u 1), .str (leadT (x 2)) (u 2)] n)]) X T hk ?kn ?k6 ?k7 ?k8 ?k9 ?kB ?kD ?h ?c2 ?c3 ?c4; (case kn => assumption); (case k6 => k_is); (case k7 => k_is); (case k8 => decide); (case k9 => exact BindsTo.of_eq rfl); (case kB => exact rfl); (case kD => decide +kernel); (case c2 => exact rfl); (case c3 => exact rfl); (case c4 => exact rfl))
  clear X T
  intro g L h₁ tk cells hg hs F N Y X T l1
  (try k_lt l1)
  k_cells Y
  (try simp only [List.cons_append, List.nil_append] at N)
  (try dsimp only)
  k_steps
  unfold Stop
  rename Fr _ _ _ _ => F
  refine offE (For_led ?_ (fun _ => rfl))
  k_steps
  rename Fr _ _ _ _ => F
  rename News _ _ _ _ => N
  rename Obj.IsDictOf (strKind _ _) _ _ => hd0
  rename (@LT.lt Nat _ _ _ ∧ @LT.lt Nat _ l _) => hDl
  obtain ⟨vs, JJ, hvs, hJJ, hJ0, NJ⟩ := li_start (x := x) F N ⟨rfl, trivial⟩ hd0
  refine' for_tup (vs := vs) (J := JJ) (Jx := JJ 7) ?hl rfl F NJ ?hkl hJ0 ?turnL ?jx ?doneL
  case hl => exact .tail _ (.tail _ (.tail _ (.head _)))
  case hkl =>
    intro i m news hJ
    rw [hJJ] at hJ
    obtain ⟨o, r, LN, hm, hd, hr, h1, h2, rfl⟩ := hJ
    exact .tail _ (.tail _ (.tail _ (.head _)))
  case jx => exact fun m news h => by rw [hvs] at h; exact h
  case turnL =>
    clear F N NJ hJ0
    intro i v m news h tk I oI hv hJ hnI F N
    rw [hvs] at hv
    rw [hJJ] at hJ
    obtain ⟨hi, tv, rfl⟩ := nm_at hv
    obtain ⟨o, r, LN, hm, hd, hr, h1, h2, rfl⟩ := hJ
    clear hv
    obtain ⟨hna, hnz, hnc⟩ := nm_low hi
    replace F := fr_bd F _ hm
    dsimp only [bd] at F
    have hnD : @Ne Nat _ I := hnI _ (.head _)
    dsimp only at hnD
    have hzk : ((linesKv r).take i).length ≤ sizeLine := by
      rw [List.length_take, sizeLine_eq]
      omega
    refine genF fun P hP => ?_
    (try dsimp only)
    k_steps
    unfold Stop
    rename Fr _ _ _ _ => F
    refine comp_strE F (by with_unfolding_all rfl) (by decide) (by rfl) (by decide) (by rfl) ?_
    k_steps
    rename Fr _ _ _ _ => F
    rename News _ _ _ _ => N
    refine ⟨_, _, _, rfl, hna, rfl, F, N, Nat.le_trans hnz (Nat.le_of_ble_eq_true rfl), fun g1 => ?_⟩
    clear F N
    refine compU_K (fun k ys => StrsAre ys (((nmT i).cps.toList.take k).map fun c => leadT (x (c - 97)))) ?turnK ?doneK StrsAre.nil
    case turnK =>
      rintro k ys v I2 oI2 C2 oC2 D2 m₂ h tk E' hJ hj hv hC hx F N o3 ne
      obtain ⟨c9, u9, hc9, rfl⟩ := hv
      have o3' := o3
      clear o3
      obtain ⟨hc1, hc2⟩ := hnc c9 (let_mem hc9)
      obtain ⟨j, rfl⟩ : ∃ j, c9 = 97 + j := ⟨c9 - 97, by omega⟩
      have hj3 : j < 3 := by omega
      have htx := text_of (x := x) (u := u) hj3
      have hnx := let_snoc (t := u j) (f := fun c => leadT (x (c - 97))) hc9 hJ
      (try dsimp only at hnx)
      rw [Nat.add_sub_cancel_left] at hnx
      refine genQ fun Q hQ => ?_
      k_steps
      rename Fr _ _ _ _ => F1
      rename News _ _ _ _ => N1
      exact hQ _ _ (compEnd_none F1 N1 o3' trivial ⟨rfl, hnx⟩)
    case doneK =>
      rintro ys hJ
      rw [nm_done hi] at hJ
      k_steps
      rename Fr _ _ _ _ => F
      rename News _ _ _ _ => N
      refine join_listC ⟨_, (N _ (.head _)).1, rfl, _, rfl⟩ hJ (by decide +kernel) (join_small (linesX x i) (Nat.le_trans (lines_len x hi) (by decide))) ?_
      rw [join_leads (linesX x i)]
      intro t9 k9
      k_steps
      unfold Stop
      rename Fr _ _ _ _ => F
      rename News _ _ _ _ => N
      refine offE (lift_A (A := AC 4) (c_wsT _ _ _ _ _ _ _ (by assumption) (by assumption) (fun _ _ q => F.keep _ _ q) F N _ _ _ (csum_small (linesX x i) (Nat.le_trans (lines_len x hi) (by decide))) ?_) rfl (Nat.le_of_ble_eq_true rfl) (Nat.le_of_ble_eq_true rfl) rfl rfl)
      clear F N
      intro h3 tk3 q hq F N al be ce de
      obtain ⟨LN', s1, s2, n1, n2, n3, N'⟩ := li_fold N h1 h2 hnI al be ce de
      clear N al be ce de
      k_steps
      rename Fr _ _ _ _ => F1
      rename News _ _ _ _ => N1
      rename Obj.IsDictOf (strKind _ _) _ (stored _ _ _) => hd'
      have e := li_end F1 hJJ hi ⟨rfl, trivial⟩ hd' hr hq s1 s2 n1 n2 hnI n3
      exact hP _ _ ⟨_, _, _, _, rfl, F1, N1, e⟩
  case doneL =>
    clear F N NJ hJ0
    intro h tk m news hJ F N
    rw [hJJ] at hJ
    obtain ⟨o, r, LN, hm, hd, hr, h1, h2, rfl⟩ := hJ
    replace F := fr_bd F _ hm
    dsimp only [bd] at F
    k_steps
    dsimp only
    rename Fr _ _ _ _ => F9
    rename News _ _ _ _ => N9
    refine hR _ _ _ o r (_ :: LN) ⟨.head _, hd, fun i hi => ⟨(hr i hi).1, fun q hq => .tail _ ((hr i hi).2 q hq)⟩⟩ (stays_of hs hn F9.keep fun p hp => N9 p (by rw [List.mem_singleton.mp hp]; exact .tail _ (.tail _ (.head _)))) ?nw
    intro p hp
    rcases List.mem_cons.mp hp with rfl | hp
    · have e := N9 _ (.head _)
      exact ⟨e.1, none_of hs e.2.2 fun q => Nat.ne_of_gt hDl.2 (List.mem_singleton.mp q)⟩
    · have e := N9 p (.tail _ (.tail _ (.tail _ (.tail _ hp))))
      exact ⟨e.1, none_of hs e.2.2 fun q => h2 p hp (List.mem_singleton.mp q)⟩
theorem c_linesC {w : World} {loose : List PySem.Str} {mean : ExcName → Option Value} {mg mb : PySem.Str → Option Value} {s : Shared} {h₀ : Heap} {L : Addr} {m : PySem.Str → Option Value} {news : List (Addr × Obj)} {A' : Around} (F : Fr h₀ L s.heap m) (N : News h₀ L s.heap news) (X : (Mine.frag.heap_1 w.params).In h₀) (T : Top Mine.view loose mean mg mb h₀) (hA : A'.handled = none) (hAd : A'.depth ≤ 300 + 20 * 3) (hAu : A'.units ≤ 1000 * 3) {l : Addr} {x : Nat → Nat} {u : Nat → Tok} {n : Nat} {Q : Value → Shared → Prop}
  (hm : (l, listOf #[.str (leadT (x 0)) (u 0), .str (leadT (x 1)) (u 1), .str (leadT (x 2)) (u 2)] n) ∈ news)
  (hQ : ∀ h' tk D o r LN, LinesAt PySem.Challenge.rw_ta0081_03.row.prog w D o x r LN → Fr h₀ L h' m → News h₀ L h' (LN ++ news) → (∀ p ∈ LN, ∀ q ∈ news, p.1 ≠ q.1) → Q (.ref D) { s with heap := h', toks := tk }) :
  wpAny (model PySem.Challenge.rw_ta0081_03.row.prog w) A' (call (.ref 302) [.ref l]) Q NoE s := by
  refine lift_A (A := AC 3) (wpAny_call (c_lines w loose mean mg mb s h₀ X T F.keep l x u n _ (fun q hq => by rw [List.mem_singleton.mp hq]; exact ⟨(N _ hm).1, (N _ hm).2.2⟩) fun h' tk D o r LN hL hst hnw => ?_)) hA.symm hAd hAu rfl rfl
  refine hQ h' tk D o r LN hL (fr_stay F hst) (fun p hp => ?_) (fun p hp q hq e => ?_)
  · rcases List.mem_append.mp hp with hp | hp
    · obtain ⟨e1, e2⟩ := hnw p hp
      refine ⟨e1, fr_ne F e2, ?_⟩
      cases q : h₀.get? p.1 with
      | none => rfl
      | some o => rw [F.keep _ _ q] at e2; cases e2
    · exact news_stay N hst p hp
  · have e2 := (hnw p hp).2
    rw [e, (N q hq).1] at e2
    cases e2
end LIt
section SHt
theorem offSH : True := by w_top off; trivial
local macro_rules | `(tactic| walk_at "sub") => `(tactic| first | exact List.forall_mem_nil _ | (refine' List.forall_mem_cons.mpr ⟨?a, ?b⟩; (case a => k_mem); (case b => walk_at "sub")))
local macro_rules | `(tactic| walk_at "call ref") => `(tactic| (k_here; (with_reducible show wpAny _ _ (call (Value.ref _) [Value.ref _, Value.int _ _]) _ _ _); refine offE ?_; k_dflt (refine' c_indentT ?F ?N ?X ?T ?a1 ?a2 ?a3 ?m ?o ?z1 ?z2 ?_; (case F => k_asm); (case N => k_asm); (case X => k_asm); (case T => k_asm); (case a1 => exact rfl); (case a2 => exact Nat.le_of_ble_eq_true rfl); (case a3 => exact Nat.le_of_ble_eq_true rfl); (case o => assumption); (case m => (dsimp only [wsOf, wsObjs]; walk_at "sub")); (case z1 => exact And.left (by assumption)); (case z2 => exact Nat.le_trans (And.right (by assumption)) (Nat.le_of_ble_eq_true rfl)); k_whole); intro h' tk' tx' F' N'))
local macro_rules | `(tactic| walk_at "subscriptTail") => `(tactic| (k_here; (with_reducible show wpAny _ _ (subscriptTail _ _ (Value.ref _) (Value.str _ _)) _ _ _); k_dflt (refine' kda_item (knd := PySem.strKind _ _) ?N ?m ?d (strKind_is _ _ _ _) ?l ?_; (case N => k_asm); (case m => k_mem); (case d => k_asm); (case l => assumption); k_whole)))
local macro_rules | `(tactic| walk_at "call builtin:sorted") => `(tactic| (k_here; (with_reducible show wpAny _ _ (call (Value.builtin _) [Value.str _ _]) _ _ _); k_dflt (refine' sorted_strN ?hh ?F ?N ?z ?_; (case hh => exact rfl); (case F => k_asm); (case N => k_asm); (case z => exact Nat.le_of_ble_eq_true rfl); k_whole); intro h' tk' D' vs' ss' e' F' N' lt' hS' hp' hs'; (have lt' := allLt_of lt')))
theorem pair_join {ss : List PySem.Str} {a c : Nat} (h : ss.Perm [(⟨#[a]⟩ : PySem.Str), ⟨#[c]⟩]) : (ss.map (·.length)).sum + ss.length * 64 ≤ 16777216 := by
  have h1 := (h.map (·.length)).sum_nat
  have h2 := h.length_eq
  rw [h1, h2]
  exact Nat.le_of_ble_eq_true rfl
local macro_rules | `(tactic| walk_at "assignInOrder") => `(tactic| first | refine assignInOrder_cons ?_ | refine assignInOrder_nil ?_)
local macro_rules | `(tactic| walk_at "assign Tuple") => `(tactic| (k_here; (with_reducible rename Fr _ _ _ _ => F'); (with_reducible rename News _ _ _ _ => N'); refine assign_str3 rfl F' N' rfl (by assumption) rfl rfl ?_; clear F' N'; intro h' tk' t0' t1' t2' F' N'))
theorem c_shareI (w : World) (loose : List PySem.Str) (mean : ExcName → Option Value) (mg mb : PySem.Str → Option Value) (s : Shared) (h₀ : Heap) (X : (Mine.frag.heap_1 w.params).In h₀) (T : Top Mine.view loose mean mg mb h₀) (hk : h₀.StaysIn s.heap) (D : Addr) (o : Obj) (kvs : List (PySem.Str × Value)) (rz ry ru rv : WsT) (cz cy cu cv : List Nat) (a b c : Nat) (U V : PySem.Str) (z : Nat) (t tz : Tok) (R : Result → Shared → Prop)
  (hd : o.IsDictOf (strKind PySem.Challenge.rw_ta0081_03.row.prog w) kvs) (hz : 1 ≤ z ∧ z ≤ 4) (hrz : WsOk rz cz) (hry : WsOk ry cy) (hru : WsOk ru cu) (hrv : WsOk rv cv) (habc : a < 128 ∧ b < 128 ∧ c < 128) (hbz : lcol cz z ≤ 10000) (hby : lcol cy z ≤ 10000) (hbu : lcol cu z ≤ 10000) (hbv : lcol cv z ≤ 10000)
  (lz : valueAt kvs ⟨#[c]⟩ = some (.ref rz.x)) (ly : valueAt kvs ⟨#[b]⟩ = some (.ref ry.x)) (lu : valueAt kvs U = some (.ref ru.x)) (lv : valueAt kvs V = some (.ref rv.x))
  (hU : ∀ ss, ss.Perm [(⟨#[a]⟩ : PySem.Str), ⟨#[c]⟩] → sortedS ss = true → Txt.join "" ss = U) (hV : ∀ ss, ss.Perm [(⟨#[b]⟩ : PySem.Str), ⟨#[c]⟩] → sortedS ss = true → Txt.join "" ss = V)
  (hn : Has h₀ s.heap ((D, o) :: (wsOf w.params rz cz ++ wsOf w.params ry cy ++ wsOf w.params ru cu ++ wsOf w.params rv cv)))
  (hR : ∀ h' tk tx, s.heap.StaysIn h' → R (.ok (.ret (.int ((lcol cz z * lcol cy z * lcol cu z * lcol cv z : Nat) : Int) tx))) { s with heap := h', toks := tk }) :
  codeAny (model PySem.Challenge.rw_ta0081_03.row.prog w) (AC 4) (.call (.ref 285) ⟨[.ref D, .str ⟨#[a, b, c]⟩ t, .int (z : Int) tz], []⟩) R s := by
  revert X
  k_fill
  intro X
  k_dflt (refine' enter (binds := [("lines", .ref D), ("order", .str ⟨#[a, b, c]⟩ t), ("size", .int (z : Int) tz)]) (news := ((D, o) :: (wsOf w.params rz cz ++ wsOf w.params ry cy ++ wsOf w.params ru cu ++ wsOf w.params rv cv))) X T hk ?kn ?k6 ?k7 ?k8 ?k9 ?kB ?h ?c2 ?c3 ?c4 ?c5; (case kn => assumption); (case k6 => k_is); (case k7 => k_is); (case k8 => decide); (case k9 => exact BindsTo.of_eq rfl); (case c5 => decide); (case kB => exact locs rfl); (case c2 => exact rfl); (case c3 => exact rfl); (case c4 => exact rfl))
  clear X T
  intro g L h₁ hg hs F N X T
  (try dsimp only)
  dsimp only [wsOf, wsObjs, List.cons_append, List.nil_append, List.append_assoc] at N
  k_steps
  rename News _ _ _ _ => N
  rename StrsAre _ _ => hS
  rename List.Perm _ _ => hp
  rename sortedS _ = true => hs1
  refine join_listC ⟨_, (N _ (.head _)).1, rfl, _, rfl⟩ hS (by decide +kernel) (pair_join (a := a) (c := c) hp) ?_
  rw [hU _ hp hs1]
  clear hS hp hs1 hU
  intro t8 k8
  k_steps
  rename News _ _ _ _ => N
  rename StrsAre _ _ => hS
  rename List.Perm _ _ => hp
  rename sortedS _ = true => hs1
  refine join_listC ⟨_, (N _ (.head _)).1, rfl, _, rfl⟩ hS (by decide +kernel) (pair_join (a := b) (c := c) hp) ?_
  rw [hV _ hp hs1]
  clear hS hp hs1 hV
  intro t9 k9
  k_steps
  rename Fr _ _ _ _ => F9
  rename News _ _ _ _ => N9
  rw [← Int.natCast_mul, ← Int.natCast_mul, ← Int.natCast_mul]
  exact hR _ _ _ (stays_of hs hn F9.keep fun p hp => N9 p (.tail _ (.tail _ hp)))
/-- an order, by the places of its names -/
def ordP (p : Nat → Nat) : PySem.Str := ⟨#[97 + p 0, 97 + p 1, 97 + p 2]⟩
def OrdOk (p : Nat → Nat) : Prop := p 0 < 3 ∧ p 1 < 3 ∧ p 2 < 3 ∧ p 0 ≠ p 2 ∧ p 1 ≠ p 2 ∧ p 0 ≠ p 1
/-- the share of an order, by the columns -/
def shareN (c : Nat → Nat) (p : Nat → Nat) : Nat := c (p 2) * c (p 1) * (c (p 0) + c (p 2)) * (c (p 1) + c (p 2))
def pairT (i j : Nat) : PySem.Str := ⟨#[97 + (if i < j then i else j), 97 + (if i < j then j else i)]⟩
theorem perm_two {α : Type} {ss : List α} {a b : α} (h : ss.Perm [a, b]) : ss = [a, b] ∨ ss = [b, a] := by
  match ss, h.length_eq with
  | [u, v], _ =>
    have hu : u ∈ [a, b] := h.mem_iff.mp (.head _)
    rcases List.mem_cons.mp hu with rfl | hu
    · have := List.perm_singleton.mp ((List.perm_cons u).mp h)
      exact .inl (by rw [this])
    · obtain rfl := List.mem_singleton.mp hu
      have h2 : [u, v].Perm [u, a] := h.trans (List.Perm.swap _ _ _)
      have := List.perm_singleton.mp ((List.perm_cons u).mp h2)
      exact .inr (by rw [this])
theorem pair_name {i j : Nat} (hi : i < 3) (hj : j < 3) (hij : i ≠ j) : ∀ ss, ss.Perm [(⟨#[97 + i]⟩ : PySem.Str), ⟨#[97 + j]⟩] → sortedS ss = true → Txt.join "" ss = pairT i j := by
  intro ss hp hs
  have hs' := hs
  rcases perm_two hp with rfl | rfl
  all_goals
    refine str_of_list ?_
    rw [join_list0]
    obtain rfl | rfl | rfl : i = 0 ∨ i = 1 ∨ i = 2 := by omega
    all_goals obtain rfl | rfl | rfl : j = 0 ∨ j = 1 ∨ j = 2 := by omega
    all_goals first | exact absurd rfl hij | rfl | exact absurd hs' (by decide +kernel)
theorem line_one (r : Nat → WsT) {i : Nat} (hi : i < 3) : valueAt (linesKv r) ⟨#[97 + i]⟩ = some (.ref (r i).x) := by
  obtain rfl | rfl | rfl : i = 0 ∨ i = 1 ∨ i = 2 := by omega
  all_goals rfl
theorem line_two (r : Nat → WsT) {i j : Nat} (hi : i < 3) (hj : j < 3) (hij : i ≠ j) : valueAt (linesKv r) (pairT i j) = some (.ref (r (2 + i + j)).x) := by
  obtain rfl | rfl | rfl : i = 0 ∨ i = 1 ∨ i = 2 := by omega
  all_goals obtain rfl | rfl | rfl : j = 0 ∨ j = 1 ∨ j = 2 := by omega
  all_goals first | exact absurd rfl hij | rfl
theorem lcol_one (x : Nat → Nat) (z : Nat) {i : Nat} (hi : i < 3) : lcol (csOf (linesX x i)) z = lcol (leadCs (x i)) z := by
  have e : linesX x i = [x i] := by
    obtain rfl | rfl | rfl : i = 0 ∨ i = 1 ∨ i = 2 := by omega
    all_goals rfl
  rw [e]
  show lcol (leadCs (x i) ++ []) z = _
  rw [List.append_nil]
theorem lcol_two (x : Nat → Nat) (z : Nat) {i j : Nat} (hi : i < 3) (hj : j < 3) (hij : i ≠ j) : lcol (csOf (linesX x (2 + i + j))) z = lcol (leadCs (x i)) z + lcol (leadCs (x j)) z := by
  have key : ∀ a b : Nat, lcol (csOf [a, b]) z = lcol (leadCs a) z + lcol (leadCs b) z := fun a b => by
    show lcol (leadCs a ++ (leadCs b ++ [])) z = _
    rw [List.append_nil, lcol_app]
  have e : linesX x (2 + i + j) = [x i, x j] ∨ linesX x (2 + i + j) = [x j, x i] := by
    obtain rfl | rfl | rfl : i = 0 ∨ i = 1 ∨ i = 2 := by omega
    all_goals obtain rfl | rfl | rfl : j = 0 ∨ j = 1 ∨ j = 2 := by omega
    all_goals first | exact absurd rfl hij | exact .inl rfl | exact .inr rfl
  rcases e with e | e
  · rw [e, key]
  · rw [e, key, Nat.add_comm]
theorem lcol_small {z : Nat} (h : z ≤ 4) (x : Nat) : lcol (leadCs x) z ≤ 400 := by
  have h1 := div_sum z (leadCs x)
  have h2 := leadCs_small x
  unfold lcol
  calc z * (((leadCs x).map (· / z)).sum + (leadCs x).length) ≤ 4 * 100 := Nat.mul_le_mul h (by omega)
    _ = 400 := rfl
theorem c_share (w : World) (loose : List PySem.Str) (mean : ExcName → Option Value) (mg mb : PySem.Str → Option Value) (s : Shared) (h₀ : Heap) (X : (Mine.frag.heap_1 w.params).In h₀) (T : Top Mine.view loose mean mg mb h₀) (hk : h₀.StaysIn s.heap) (D : Addr) (o : Obj) (x : Nat → Nat) (r : Nat → WsT) (LN : List (Addr × Obj)) (p : Nat → Nat) (z : Nat) (t tz : Tok) (R : Result → Shared → Prop)
  (hL : LinesAt PySem.Challenge.rw_ta0081_03.row.prog w D o x r LN) (hn : Has h₀ s.heap LN) (hp : OrdOk p) (hz : 1 ≤ z ∧ z ≤ 4)
  (hR : ∀ h' tk tx, s.heap.StaysIn h' → R (.ok (.ret (.int ((shareN (fun i => lcol (leadCs (x i)) z) p : Nat) : Int) tx))) { s with heap := h', toks := tk }) :
  codeAny (model PySem.Challenge.rw_ta0081_03.row.prog w) (AC 4) (.call (.ref 285) ⟨[.ref D, .str (ordP p) t, .int (z : Int) tz], []⟩) R s := by
  obtain ⟨hm, hd, hw⟩ := hL
  obtain ⟨h0, h1, h2, h02, h12, h01⟩ := hp
  have b1 : ∀ i, i < 3 → lcol (csOf (linesX x i)) z ≤ 10000 := fun i hi => by
    rw [lcol_one x z hi]; exact Nat.le_trans (lcol_small hz.2 _) (by decide)
  have b2 : ∀ i j, i < 3 → j < 3 → i ≠ j → lcol (csOf (linesX x (2 + i + j))) z ≤ 10000 := fun i j hi hj hij => by
    rw [lcol_two x z hi hj hij]
    have := lcol_small hz.2 (x i)
    have := lcol_small hz.2 (x j)
    omega
  have w1 : ∀ i, i < 3 → ∀ q ∈ wsOf w.params (r i) (csOf (linesX x i)), q ∈ LN := fun i hi => (hw i (by omega)).2
  have w2 : ∀ i j, i < 3 → j < 3 → i ≠ j → ∀ q ∈ wsOf w.params (r (2 + i + j)) (csOf (linesX x (2 + i + j))), q ∈ LN := fun i j hi hj hij => (hw _ (by omega)).2
  refine c_shareI w loose mean mg mb s h₀ X T hk D o (linesKv r) (r (p 2)) (r (p 1)) (r (2 + p 0 + p 2)) (r (2 + p 1 + p 2)) _ _ _ _ (97 + p 0) (97 + p 1) (97 + p 2) (pairT (p 0) (p 2)) (pairT (p 1) (p 2)) z t tz R
    hd hz (hw _ (by omega)).1 (hw _ (by omega)).1 (hw _ (by omega)).1 (hw _ (by omega)).1 ⟨by omega, by omega, by omega⟩ (b1 _ h2) (b1 _ h1) (b2 _ _ h0 h2 h02) (b2 _ _ h1 h2 h12) (line_one r h2) (line_one r h1) (line_two r h0 h2 h02) (line_two r h1 h2 h12)
    (pair_name h0 h2 h02) (pair_name h1 h2 h12) (fun q hq => ?_) (fun h' tk tx hst => ?_)
  · refine hn q ?_
    rcases List.mem_cons.mp hq with rfl | hq
    · exact hm
    rcases List.mem_append.mp hq with hq | hq
    · rcases List.mem_append.mp hq with hq | hq
      · rcases List.mem_append.mp hq with hq | hq
        · exact w1 _ h2 q hq
        · exact w1 _ h1 q hq
      · exact w2 _ _ h0 h2 h02 q hq
    · exact w2 _ _ h1 h2 h12 q hq
  · rw [lcol_one x z h2, lcol_one x z h1, lcol_two x z h0 h2 h02, lcol_two x z h1 h2 h12]
    exact hR h' tk tx hst
theorem c_shareC {w : World} {loose : List PySem.Str} {mean : ExcName → Option Value} {mg mb : PySem.Str → Option Value} {s : Shared} {h₀ : Heap} {L : Addr} {m : PySem.Str → Option Value} {news : List (Addr × Obj)} {A' : Around} (F : Fr h₀ L s.heap m) (N : News h₀ L s.heap news) (X : (Mine.frag.heap_1 w.params).In h₀) (T : Top Mine.view loose mean mg mb h₀) (hA : A'.handled = none) (hAd : A'.depth ≤ 300 + 20 * 4) (hAu : A'.units ≤ 1000 * 4) {D : Addr} {o : Obj} {x : Nat → Nat} {r : Nat → WsT} {LN : List (Addr × Obj)} {p : Nat → Nat} {z : Nat} {t tz : Tok} {Q : Value → Shared → Prop}
  (hm : ∀ q ∈ LN, q ∈ news) (hL : LinesAt PySem.Challenge.rw_ta0081_03.row.prog w D o x r LN) (hp : OrdOk p) (hz : 1 ≤ z ∧ z ≤ 4)
  (hQ : ∀ h' tk tx, Fr h₀ L h' m → News h₀ L h' news → Q (.int ((shareN (fun i => lcol (leadCs (x i)) z) p : Nat) : Int) tx) { s with heap := h', toks := tk }) :
  wpAny (model PySem.Challenge.rw_ta0081_03.row.prog w) A' (call (.ref 285) [.ref D, .str (ordP p) t, .int (z : Int) tz]) Q NoE s :=
  lift_A (A := AC 4) (wpAny_call (c_share w loose mean mg mb s h₀ X T F.keep D o x r LN p z t tz _ hL (fun q hq => ⟨(N q (hm q hq)).1, (N q (hm q hq)).2.2⟩) hp hz fun h' tk tx k => hQ h' tk tx (fr_stay F k) (news_stay N k))) hA.symm hAd hAu rfl rfl
end SHt
section SPt
theorem offSP : True := by w_top off; trivial
/-- the six orders -/
def perm (k i : Nat) : Nat := (([[0, 1, 2], [0, 2, 1], [1, 0, 2], [1, 2, 0], [2, 0, 1], [2, 1, 0]] : List (List Nat)).getD k []).getD i 0
theorem perm_ok {k : Nat} (h : k < 6) : OrdOk (perm k) := by
  obtain rfl | rfl | rfl | rfl | rfl | rfl : k = 0 ∨ k = 1 ∨ k = 2 ∨ k = 3 ∨ k = 4 ∨ k = 5 := by omega
  all_goals exact ⟨by decide, by decide, by decide, by decide, by decide, by decide⟩
def ordVs (u : Nat → Tok) : List Value := [.str (ordP (perm 0)) (u 0), .str (ordP (perm 1)) (u 1), .str (ordP (perm 2)) (u 2), .str (ordP (perm 3)) (u 3), .str (ordP (perm 4)) (u 4), .str (ordP (perm 5)) (u 5)]
theorem ordVs_at {u : Nat → Tok} {k : Nat} (h : k < 6) : (ordVs u)[k]? = some (.str (ordP (perm k)) (u k)) := by
  obtain rfl | rfl | rfl | rfl | rfl | rfl : k = 0 ∨ k = 1 ∨ k = 2 ∨ k = 3 ∨ k = 4 ∨ k = 5 := by omega
  all_goals rfl
theorem text_at {x : Nat → Nat} {u : Nat → Tok} {j : Nat} {v : Value} (hj : j < 3) (h : (#[.str (leadT (x 0)) (u 0), .str (leadT (x 1)) (u 1), .str (leadT (x 2)) (u 2)] : Array Value)[j]? = some v) : ∃ u', v = .str (leadT (x j)) u' := by
  obtain rfl | rfl | rfl : j = 0 ∨ j = 1 ∨ j = 2 := by omega
  all_goals exact ⟨_, (Option.some.inj h).symm⟩
theorem leadT_ok (x : Nat) : (leadT x).cps.all (· < 128) = true ∧ (leadT x).cps.size ≤ 1000000 := by
  have := leadCs_small x
  exact tabsT_ok (cs := leadCs x) (by omega)
theorem col_lead {z : Nat} (h : 1 ≤ z) (x : Nat) : ((colRun z (leadT x).cps.toList 0 : Nat) : Int) = ((lcol (leadCs x) z : Nat) : Int) := by
  have := colRun_tabs h (leadCs x) 0
  rw [Nat.mul_zero, Nat.zero_add] at this
  show ((colRun z (tabs (leadCs x)) 0 : Nat) : Int) = _
  rw [this]
theorem ne_up {a b : Nat} (k : Nat) (h : a < b) : a ≠ b + k := by omega
/-- what stays in the ledger of the loops -/
def stFX (P : Params) (xb db : Addr) (kb : Tok) (lb L : Addr) (oz oc os od oo ol : Obj) (ls lc lo : Addr) (ys cs : List Value) (ou : Nat → Tok) (no : Nat) : List (Addr × Obj) :=
  [(xb, instObj 182 db), (db, dictOf [strKey P "_headers" kb (.ref lb)] 1), (L + 1 + 1 + 1 + 1 + 1 + 1, oz), (L + 1 + 1 + 1 + 1 + 1, oc), (L + 1 + 1 + 1 + 1, os), (L + 1 + 1 + 1, od), (L + 1 + 1, oo), (L + 1, ol), (ls, LCg.lst ys), (lc, LCg.lst cs), (lo, listOf (ordVs ou).toArray no)]
theorem st_mem13 {α : Type} {lb xb db z c s d o l ls lc lo lt p : α} {r : List α} (h : p ∈ lb :: xb :: db :: z :: c :: s :: d :: o :: l :: ls :: lc :: lo :: lt :: r) : p ∈ lc :: ls :: xb :: db :: lb :: z :: c :: s :: d :: o :: l :: lt :: lo :: r := by
  simp only [List.mem_cons] at h ⊢
  rcases h with h | h | h | h | h | h | h | h | h | h | h | h | h | h <;> simp [h]
theorem st_fold {P : Params} {g h : Heap} {L xb db lb ls lc lo lt : Addr} {kb : Tok} {nb no : Nat} {oz oc os od oo ol ot : Obj} {ys cs : List Value} {ou : Nat → Tok} {LN : List (Addr × Obj)} {v1 v2 v3 v4 v5 v6 : Option Value}
    (N : News g L h ((lc, LCg.lst cs) :: (ls, LCg.lst ys) :: (xb, instObj 182 db) :: (db, dictOf [strKey P "_headers" kb (.ref lb)] 1) :: (lb, listOf #[] nb) :: (L + 1 + 1 + 1 + 1 + 1 + 1, oz) :: (L + 1 + 1 + 1 + 1 + 1, oc) :: (L + 1 + 1 + 1 + 1, os) :: (L + 1 + 1 + 1, od) :: (L + 1 + 1, oo) :: (L + 1, ol) :: (lt, ot) :: (lo, listOf (ordVs ou).toArray no) :: LN))
    (h1 : oz.data = .cell v1) (h2 : oc.data = .cell v2) (h3 : os.data = .cell v3) (h4 : od.data = .cell v4) (h5 : oo.data = .cell v5) (h6 : ol.data = .cell v6) :
    ∃ oz oc os od oo ol, News g L h ((lb, listOf #[] nb) :: (stFX P xb db kb lb L oz oc os od oo ol ls lc lo ys cs ou no ++ (lt, ot) :: LN)) ∧ oc.data = .cell v2 ∧ os.data = .cell v3 ∧ od.data = .cell v4 ∧ oo.data = .cell v5 ∧ ol.data = .cell v6 ∧ oz.data = .cell v1 := by
  exact ⟨oz, oc, os, od, oo, ol, fun p hp => N p (st_mem13 hp), h2, h3, h4, h5, h6, h1⟩
structure SubW (l TL : List (Addr × Obj)) : Prop where
  ok : ∀ p ∈ l, p ∈ TL
/-- the place of a name in an order -/
def inv (k j : Nat) : Nat := if perm k 0 = j then 0 else if perm k 1 = j then 1 else 2
/-- the shelf behind the asking -/
def nameT (k j : Nat) : PySem.Str := if k % 2 = 0 then askT (fun i => 97 + perm k i) (inv k j) (65 + j) else askT (fun i => 65 + perm k i) (inv k j) (97 + j)
def wordT (n : Nat) : PySem.Str := ⟨((apN n).map (·.toNat)).toArray⟩
/-- the book, told up to the entry i -/
def stTbl (sh c : Nat → Nat) (i : Nat) : List (PySem.Str × PySem.Str) := (List.range i).map fun e => (nameT (e / 3) (e % 3), wordT (sh (e / 3) * c (e % 3)))
/-- the loops' invariant -/
def stJ (g : Heap) (LN FX : List (Addr × Obj)) (lb lz xb : Addr) (sh c : Nat → Nat) (f : Nat) (i : Nat) (m : PySem.Str → Option Value) (news : List (Addr × Obj)) : Prop :=
  ∃ vs n TL, lks m [("book", .ref xb)] ∧ news = (lb, listOf (List.toArray vs) n) :: (FX ++ TL) ∧ PairsIn g TL vs (stTbl sh c (f * i)) ∧ (∀ p ∈ TL, p.1 ≠ lb ∧ p.1 ≠ lz) ∧ SubW LN TL
def stJ2 (g : Heap) (LN FX : List (Addr × Obj)) (lb lz xb I : Addr) (oI : Obj) (sh c : Nat → Nat) (k : Nat) (j : Nat) (m : PySem.Str → Option Value) (news : List (Addr × Obj)) : Prop :=
  ∃ vs n TL tk, lks m [("book", .ref xb), ("k", .int (k : Int) tk)] ∧ news = (I, oI) :: (lb, listOf (List.toArray vs) n) :: (FX ++ TL) ∧ PairsIn g TL vs (stTbl sh c (3 * k + j)) ∧ (∀ p ∈ TL, p.1 ≠ lb ∧ p.1 ≠ lz) ∧ SubW LN TL ∧ ∀ p ∈ TL, p.1 ≠ I
theorem stJ.start {g : Heap} {LN FX : List (Addr × Obj)} {lb lz xb : Addr} {sh c : Nat → Nat} {f n : Nat} {m : PySem.Str → Option Value} (hm : lks m [("book", .ref xb)]) (h : ∀ p ∈ LN, p.1 ≠ lb ∧ p.1 ≠ lz) : stJ g LN FX lb lz xb sh c f 0 m ((lb, listOf #[] n) :: (FX ++ LN)) :=
  ⟨[], n, LN, hm, rfl, PairsIn.nil, h, ⟨fun q hq => hq⟩⟩
theorem st_off {P : Params} {L xb db lb ls lc lo lt : Addr} {kb : Tok} {no : Nat} {oz oc os od oo ol : Obj} {ys cs : List Value} {ou : Nat → Tok} {LN : List (Addr × Obj)} {A1 A2 A3 : Prop}
    (alb : (@LT.lt Nat _ (L + 1 + 1 + 1 + 1 + 1 + 1) db) ∧ (@LT.lt Nat _ (L + 1 + 1 + 1 + 1 + 1) db) ∧ (@LT.lt Nat _ (L + 1 + 1 + 1 + 1) db) ∧ (@LT.lt Nat _ (L + 1 + 1 + 1) db) ∧ (@LT.lt Nat _ (L + 1 + 1) db) ∧ (@LT.lt Nat _ (L + 1) db) ∧ (@LT.lt Nat _ lt db) ∧ (@LT.lt Nat _ lo db) ∧ A1) (beb : @LT.lt Nat _ db xb) (ceb : @LT.lt Nat _ xb lb)
    (o13 : (@Ne Nat xb ls) ∧ (@Ne Nat db ls) ∧ (@Ne Nat lb ls) ∧ A2) (o14 : (@Ne Nat ls lc) ∧ (@Ne Nat xb lc) ∧ (@Ne Nat db lc) ∧ (@Ne Nat lb lc) ∧ A3) (hlt : ∀ p ∈ LN, @LT.lt Nat _ p.1 L) :
    ∀ p ∈ stFX P xb db kb lb L oz oc os od oo ol ls lc lo ys cs ou no ++ LN, p.1 ≠ lb := by
  intro p hp
  obtain ⟨a1, a2, a3, a4, a5, a6, a7, a8, _⟩ := alb
  have hdb : @LT.lt Nat _ db lb := Nat.lt_trans beb ceb
  rcases List.mem_append.mp hp with hp | hp
  · unfold stFX at hp
    simp only [List.mem_cons, List.not_mem_nil, or_false] at hp
    rcases hp with rfl | rfl | rfl | rfl | rfl | rfl | rfl | rfl | rfl | rfl | rfl
    · exact Nat.ne_of_lt ceb
    · exact Nat.ne_of_lt hdb
    · exact Nat.ne_of_lt (Nat.lt_trans a1 hdb)
    · exact Nat.ne_of_lt (Nat.lt_trans a2 hdb)
    · exact Nat.ne_of_lt (Nat.lt_trans a3 hdb)
    · exact Nat.ne_of_lt (Nat.lt_trans a4 hdb)
    · exact Nat.ne_of_lt (Nat.lt_trans a5 hdb)
    · exact Nat.ne_of_lt (Nat.lt_trans a6 hdb)
    · exact Ne.symm o13.2.2.1
    · exact Ne.symm o14.2.2.2.1
    · exact Nat.ne_of_lt (Nat.lt_trans a8 hdb)
  · have h1 : @LT.lt Nat _ p.1 L := hlt p hp
    have h2 : @LT.lt Nat _ L (L + 1) := Nat.lt_succ_self L
    exact Nat.ne_of_lt (Nat.lt_trans h1 (Nat.lt_trans h2 (Nat.lt_trans a6 hdb)))
theorem inv_lt (k j : Nat) : inv k j < 3 := by
  unfold inv
  split
  · decide
  · split <;> decide
theorem item_up {j : Nat} (h : j < 3) : Txt.item "ABC" (j : Int) = (⟨#[65 + j]⟩ : PySem.Str) := by
  obtain rfl | rfl | rfl : j = 0 ∨ j = 1 ∨ j = 2 := by omega
  all_goals rfl
theorem item_low {j : Nat} (h : j < 3) : Txt.item "abc" (j : Int) = (⟨#[97 + j]⟩ : PySem.Str) := by
  obtain rfl | rfl | rfl : j = 0 ∨ j = 1 ∨ j = 2 := by omega
  all_goals rfl
theorem permI_lt {k i : Nat} (h : k < 6) (hi : i < 3) : perm k i < 3 := by
  have := perm_ok h
  obtain rfl | rfl | rfl : i = 0 ∨ i = 1 ∨ i = 2 := by omega
  · exact this.1
  · exact this.2.1
  · exact this.2.2.1
theorem one_low {v : Nat} (h : v < 3) : cleanN (⟨#[97 + v]⟩ : PySem.Str) ∧ cleanN (Txt.lower (⟨#[97 + v]⟩ : PySem.Str)) := by
  obtain rfl | rfl | rfl : v = 0 ∨ v = 1 ∨ v = 2 := by omega
  all_goals exact ⟨cleanN_of (by decide +kernel), cleanN_of (by decide +kernel)⟩
theorem one_up {v : Nat} (h : v < 3) : cleanN (⟨#[65 + v]⟩ : PySem.Str) ∧ cleanN (Txt.lower (⟨#[65 + v]⟩ : PySem.Str)) := by
  obtain rfl | rfl | rfl : v = 0 ∨ v = 1 ∨ v = 2 := by omega
  all_goals exact ⟨cleanN_of (by decide +kernel), cleanN_of (by decide +kernel)⟩
theorem low_clean {k : Nat} (h : k < 6) : ∀ i, i < 3 → cleanN (⟨#[97 + perm k i]⟩ : PySem.Str) ∧ 97 + perm k i < 128 := fun i hi => ⟨(one_low (permI_lt h hi)).1, by have := permI_lt h hi; omega⟩
theorem high_clean {k : Nat} (h : k < 6) : ∀ i, i < 3 → cleanN (⟨#[65 + perm k i]⟩ : PySem.Str) ∧ 65 + perm k i < 128 := fun i hi => ⟨(one_up (permI_lt h hi)).1, by have := permI_lt h hi; omega⟩
theorem up_clean {j : Nat} (h : j < 3) : cleanN (⟨#[65 + j]⟩ : PySem.Str) ∧ cleanN (Txt.lower (⟨#[65 + j]⟩ : PySem.Str)) := one_up h
theorem low_is {k j : Nat} (hk : k < 6) (hj : j < 3) : ∀ i, i < 3 → (lowT (97 + perm k i) == lowT (65 + j)) = decide (i = inv k j) := by
  have : ∀ k < 6, ∀ j < 3, ∀ i < 3, (lowT (97 + perm k i) == lowT (65 + j)) = decide (i = inv k j) := by decide +kernel
  exact this k hk j hj
theorem high_is {k j : Nat} (hk : k < 6) (hj : j < 3) : ∀ i, i < 3 → (lowT (65 + perm k i) == lowT (97 + j)) = decide (i = inv k j) := by
  have : ∀ k < 6, ∀ j < 3, ∀ i < 3, (lowT (65 + perm k i) == lowT (97 + j)) = decide (i = inv k j) := by decide +kernel
  exact this k hk j hj
theorem nameT_even {k j : Nat} (h : Int.fmod (k : Int) 2 = 0) : nameT k j = askT (fun i => 97 + perm k i) (inv k j) (65 + j) := by
  unfold nameT
  rw [Int.fmod_eq_emod_of_nonneg _ (by decide)] at h
  rw [if_pos (by omega)]
theorem nameT_odd {k j : Nat} (h : ¬ Int.fmod (k : Int) 2 = 0) : nameT k j = askT (fun i => 65 + perm k i) (inv k j) (97 + j) := by
  unfold nameT
  rw [Int.fmod_eq_emod_of_nonneg _ (by decide)] at h
  rw [if_neg (by omega)]
theorem nameT_len (k j : Nat) : (nameT k j).length = 3 := by
  unfold nameT
  split <;> rfl
theorem upper_ord {k : Nat} (h : k < 6) : Txt.upper (ordP (perm k)) = ordT (fun i => 65 + perm k i) := by
  obtain rfl | rfl | rfl | rfl | rfl | rfl : k = 0 ∨ k = 1 ∨ k = 2 ∨ k = 3 ∨ k = 4 ∨ k = 5 := by omega
  all_goals decide +kernel
theorem then_ok {k j : Nat} (hk : k < 6) (hj : j < 3) : ([Txt.lower (nameT k j), Txt.upper (nameT k j)].any fun x => x == Txt.slice (nameT k j) none (some 2) ++ Txt.swapcase (Txt.slice (nameT k j) (some 2) none)) = true := by
  have : ∀ k < 6, ∀ j < 3, ([Txt.lower (nameT k j), Txt.upper (nameT k j)].any fun x => x == Txt.slice (nameT k j) none (some 2) ++ Txt.swapcase (Txt.slice (nameT k j) (some 2) none)) = true := by decide +kernel
  exact this k hk j hj
def MidS (h₀ : Heap) (L : Addr) (m : PySem.Str → Option Value) (news : List (Addr × Obj)) (s : Shared) (T : PySem.Str) (v : Value) (s' : Shared) : Prop :=
  ∃ h' tk tx, v = .str T tx ∧ s' = { s with heap := h', toks := tk } ∧ Fr h₀ L h' m ∧ News h₀ L h' news
theorem mid_str {M : Model} {A : Around} {t : Sem Value} {s : Shared} {Q : Value → Shared → Prop} {h₀ : Heap} {L : Addr} {m : PySem.Str → Option Value} {news : List (Addr × Obj)} (_ : Fr h₀ L s.heap m) (_ : News h₀ L s.heap news) (T : PySem.Str)
    (hA : wpAny M A t (MidS h₀ L m news s T) NoE s) (hB : ∀ h' tk tx, Fr h₀ L h' m → News h₀ L h' news → Q (.str T tx) { s with heap := h', toks := tk }) : wpAny M A t Q NoE s :=
  wpAny_mono hA (fun v s' ⟨h', tk, tx, e1, e2, F, N⟩ => by rw [e1, e2]; exact hB h' tk tx F N) fun _ _ e => e.elim
theorem share_small {c : Nat → Nat} (h : ∀ i, c i ≤ 400) (p : Nat → Nat) : shareN c p ≤ 10 ^ 12 := by
  unfold shareN
  have h0 := h (p 0)
  have h1 := h (p 1)
  have h2 := h (p 2)
  calc c (p 2) * c (p 1) * (c (p 0) + c (p 2)) * (c (p 1) + c (p 2)) ≤ 400 * 400 * 800 * 800 := Nat.mul_le_mul (Nat.mul_le_mul (Nat.mul_le_mul h2 h1) (by omega)) (by omega)
    _ ≤ 10 ^ 12 := by decide
theorem share_pos {c : Nat → Nat} (h : ∀ i, 0 < c i) (p : Nat → Nat) : 0 < shareN c p := by
  unfold shareN
  have h0 := h (p 0)
  have h1 := h (p 1)
  have h2 := h (p 2)
  exact Nat.mul_pos (Nat.mul_pos (Nat.mul_pos h2 h1) (by omega)) (by omega)
theorem lcol_pos {z : Nat} (h : 1 ≤ z) (x : Nat) : 0 < lcol (leadCs x) z := by
  unfold lcol
  refine Nat.mul_pos h ?_
  have : 0 < (leadCs x).length := by unfold leadCs; exact Nat.succ_pos _
  omega
theorem name_ok {k j : Nat} (hk : k < 6) (hj : j < 3) : cleanN (nameT k j) := by
  have : ∀ k < 6, ∀ j < 3, ((nameT k j).cps.toList.all (fun c => decide (32 ≤ c) && decide (c < 127)) && decide ((nameT k j).cps.size ≤ 1000000)) = true := by decide +kernel
  exact cleanN_of (this k hk j hj)
theorem word_clean {n : Nat} (h : n < 16 ^ 16) : cleanV (wordT n) := by
  refine ⟨fun c hc => ?_, ?_⟩
  · have hc : c ∈ (apN n).map (·.toNat) := hc
    obtain ⟨b, hb, rfl⟩ := List.mem_map.mp hc
    have := apN_mem n b hb
    exact ⟨.inl (by omega), by omega⟩
  · show ((apN n).map (·.toNat)).toArray.size ≤ 1000000
    rw [List.size_toArray, List.length_map]
    exact Nat.le_trans (apN_len 16 _ h) (by decide)
theorem stTbl_succ {sh c : Nat → Nat} {k j : Nat} (hj : j < 3) : stTbl sh c (3 * k + (j + 1)) = stTbl sh c (3 * k + j) ++ [(nameT k j, wordT (sh k * c j))] := by
  unfold stTbl
  rw [show 3 * k + (j + 1) = 3 * k + j + 1 by omega, List.range_succ, List.map_append, List.map_cons, List.map_nil]
  rw [show (3 * k + j) / 3 = k by omega, show (3 * k + j) % 3 = j by omega]
theorem st_next {g h : Heap} {L : Addr} {d a b l : Addr × Obj} {FX TL : List (Addr × Obj)} (N : News g L h (d :: a :: b :: l :: (FX ++ TL))) : News g L h (a :: b :: l :: (FX ++ d :: TL)) := fun p hp => N p (by
  simp only [List.mem_cons, List.mem_append] at hp ⊢
  rcases hp with h | h | h | h | h | h <;> simp [h])
theorem st_ne {I lb I2 : Addr} {oI o1 o2 : Obj} {d : Addr × Obj} {FX TL : List (Addr × Obj)} (h : ∀ p ∈ (I, oI) :: (lb, o1) :: (FX ++ TL), p.1 ≠ I2) (hd : d.1 ≠ I2) : ∀ p ∈ (I, oI) :: (lb, o2) :: (FX ++ d :: TL), p.1 ≠ I2 := by
  intro p hp
  rcases List.mem_cons.mp hp with rfl | hp
  · exact h (I, oI) (.head _)
  rcases List.mem_cons.mp hp with rfl | hp
  · exact h (lb, o1) (.tail _ (.head _))
  rcases List.mem_append.mp hp with hp | hp
  · exact h p (.tail _ (.tail _ (List.mem_append_left _ hp)))
  rcases List.mem_cons.mp hp with rfl | hp
  · exact hd
  · exact h p (.tail _ (.tail _ (List.mem_append_right _ hp)))
theorem drop1 {g h : Heap} {L : Addr} {a : Addr × Obj} {l : List (Addr × Obj)} (N : News g L h (a :: l)) : News g L h l := fun p hp => N p (.tail _ hp)
theorem st_lines {prog : Program} {w : World} {g h : Heap} {L D : Addr} {o : Obj} {x : Nat → Nat} {r : Nat → WsT} {LN FX TL : List (Addr × Obj)} {l : Addr × Obj} (N : News g L h (l :: (FX ++ TL))) (hL : LinesAt prog w D o x r LN) (hT : ∀ p ∈ LN, p ∈ TL) :
    News g L h ((D, o) :: (wsOf w.params (r 6) (csOf (linesX x 6)) ++ (l :: (FX ++ TL)))) := fun p hp => by
  have ht : ∀ p ∈ LN, p ∈ l :: (FX ++ TL) := fun p hp => .tail _ (List.mem_append_right _ (hT p hp))
  rcases List.mem_cons.mp hp with rfl | hp
  · exact N _ (ht _ hL.1)
  rcases List.mem_append.mp hp with hp | hp
  · exact N _ (ht _ ((hL.2.2 6 (by decide)).2 p hp))
  · exact N p hp
theorem lcol_whole (x : Nat → Nat) (z : Nat) : lcol (csOf (linesX x 6)) z = lcol (leadCs (x 0)) z + lcol (leadCs (x 1)) z + lcol (leadCs (x 2)) z := by
  show lcol (leadCs (x 0) ++ (leadCs (x 1) ++ (leadCs (x 2) ++ []))) z = _
  rw [List.append_nil, lcol_app, lcol_app, Nat.add_assoc]
def stRS (P : Params) (xb db : Addr) (kb : Tok) (lb L : Addr) (oc os oo : Obj) (ls lc lo : Addr) (ys cs : List Value) (ou : Nat → Tok) (no : Nat) (vs : List Value) (nn : Nat) : List (Addr × Obj) :=
  [(lb, listOf vs.toArray nn), (xb, instObj 182 db), (db, dictOf [strKey P "_headers" kb (.ref lb)] 1), (L + 1 + 1 + 1 + 1 + 1, oc), (L + 1 + 1 + 1 + 1, os), (L + 1 + 1, oo), (ls, LCg.lst ys), (lc, LCg.lst cs), (lo, listOf (ordVs ou).toArray no)]
theorem st_mem12 {α : Type} {lb xb db z c s d o l ls lc lo p : α} {r : List α} (h : p ∈ z :: lb :: xb :: db :: c :: s :: o :: ls :: lc :: lo :: r) : p ∈ lb :: xb :: db :: z :: c :: s :: d :: o :: l :: ls :: lc :: lo :: r := by
  simp only [List.mem_cons] at h ⊢
  rcases h with h | h | h | h | h | h | h | h | h | h | h <;> simp [h]
theorem st_rest {P : Params} {g h : Heap} {L xb db lb ls lc lo : Addr} {kb : Tok} {no nn : Nat} {oz oc os od oo ol : Obj} {ys cs vs : List Value} {ou : Nat → Tok} {TL : List (Addr × Obj)}
    (N : News g L h ((lb, listOf vs.toArray nn) :: (stFX P xb db kb lb L oz oc os od oo ol ls lc lo ys cs ou no ++ TL))) : News g L h ((L + 1 + 1 + 1 + 1 + 1 + 1, oz) :: (stRS P xb db kb lb L oc os oo ls lc lo ys cs ou no vs nn ++ TL)) := fun p hp => N p (st_mem12 hp)
def stJ3 (RT : List (Addr × Obj)) (lz xb : Addr) (wh : Nat) (_ : Nat) (m : PySem.Str → Option Value) (news : List (Addr × Obj)) : Prop :=
  ∃ oz vz tw, oz.data = .cell vz ∧ lks m [("book", .ref xb), ("whole", .int (wh : Int) tw)] ∧ news = (lz, oz) :: RT
theorem st_offz {P : Params} {L xb db lb ls lc lo : Addr} {kb : Tok} {no nn : Nat} {oc os oo : Obj} {ys cs vs : List Value} {ou : Nat → Tok} {TL : List (Addr × Obj)} {A1 A2 A3 : Prop}
    (alb : (@LT.lt Nat _ (L + 1 + 1 + 1 + 1 + 1 + 1) db) ∧ A1) (beb : @LT.lt Nat _ db xb) (ceb : @LT.lt Nat _ xb lb)
    (o13 : (@Ne Nat xb ls) ∧ (@Ne Nat db ls) ∧ (@Ne Nat lb ls) ∧ (@Ne Nat (L + 1 + 1 + 1 + 1 + 1 + 1) ls) ∧ A2) (o14 : (@Ne Nat ls lc) ∧ (@Ne Nat xb lc) ∧ (@Ne Nat db lc) ∧ (@Ne Nat lb lc) ∧ (@Ne Nat (L + 1 + 1 + 1 + 1 + 1 + 1) lc) ∧ A3) (hlo : @LT.lt Nat _ lo L) (hT : ∀ p ∈ TL, p.1 ≠ L + 1 + 1 + 1 + 1 + 1 + 1) :
    ∀ p ∈ stRS P xb db kb lb L oc os oo ls lc lo ys cs ou no vs nn ++ TL, p.1 ≠ L + 1 + 1 + 1 + 1 + 1 + 1 := by
  intro p hp
  have hdz := alb.1
  rcases List.mem_append.mp hp with hp | hp
  · unfold stRS at hp
    simp only [List.mem_cons, List.not_mem_nil, or_false] at hp
    rcases hp with rfl | rfl | rfl | rfl | rfl | rfl | rfl | rfl | rfl
    · exact Nat.ne_of_gt (Nat.lt_trans hdz (Nat.lt_trans beb ceb))
    · exact Nat.ne_of_gt (Nat.lt_trans hdz beb)
    · exact Nat.ne_of_gt hdz
    · exact Nat.ne_of_lt (Nat.lt_succ_self (L + 1 + 1 + 1 + 1 + 1))
    · exact Nat.ne_of_lt (show L + 4 < L + 6 from Nat.add_lt_add_left (by decide) L)
    · exact Nat.ne_of_lt (show L + 2 < L + 6 from Nat.add_lt_add_left (by decide) L)
    · exact Ne.symm o13.2.2.2.1
    · exact Ne.symm o14.2.2.2.2.1
    · exact Nat.ne_of_lt (Nat.lt_of_lt_of_le hlo (Nat.le_add_right L 6))
  · exact hT p hp
theorem cut_len {k : Nat} (h : k < 6) : (Txt.slice (ordP (perm k)) none (some 1)).length = 1 := by
  obtain rfl | rfl | rfl | rfl | rfl | rfl : k = 0 ∨ k = 1 ∨ k = 2 ∨ k = 3 ∨ k = 4 ∨ k = 5 := by omega
  all_goals decide +kernel
def capT (k : Nat) : PySem.Str := ⟨#[65 + perm k 0, 97 + perm k 1, 97 + perm k 2]⟩
theorem cap_is {k : Nat} (h : k < 6) : Txt.upper (Txt.slice (ordP (perm k)) none (some 1)) ++ Txt.slice (ordP (perm k)) (some 1) none = capT k := by
  obtain rfl | rfl | rfl | rfl | rfl | rfl : k = 0 ∨ k = 1 ∨ k = 2 ∨ k = 3 ∨ k = 4 ∨ k = 5 := by omega
  all_goals decide +kernel
theorem cap_clean {k : Nat} (h : k < 6) : cleanN (capT k) ∧ cleanN (Txt.lower (capT k)) := by
  obtain rfl | rfl | rfl | rfl | rfl | rfl : k = 0 ∨ k = 1 ∨ k = 2 ∨ k = 3 ∨ k = 4 ∨ k = 5 := by omega
  all_goals exact ⟨cleanN_of (by decide +kernel), cleanN_of (by decide +kernel)⟩
/-- the orders from which asking for the last name leads to the order k -/
def src (k i : Nat) : Nat := (([[0, 1, 4], [0, 1, 2], [2, 3, 5], [0, 2, 3], [3, 4, 5], [1, 4, 5]] : List (List Nat)).getD k []).getD i 0
theorem cap_words {sh c : Nat → Nat} {k : Nat} (h : k < 6) : ((stTbl sh c (3 * 6)).filter fun p => Txt.lower p.1 == Txt.lower (capT k)).map (·.2) = [wordT (sh (src k 0) * c (perm k 2)), wordT (sh (src k 1) * c (perm k 2)), wordT (sh (src k 2) * c (perm k 2))] := by
  obtain rfl | rfl | rfl | rfl | rfl | rfl : k = 0 ∨ k = 1 ∨ k = 2 ∨ k = 3 ∨ k = 4 ∨ k = 5 := by omega
  all_goals kernel_rfl
theorem tbl_clean {sh c : Nat → Nat} {n : Nat} (h : ∀ k j, sh k * c j < 16 ^ 16) (hn : n ≤ 18 := by decide) : ∀ p ∈ stTbl sh c n, cleanN p.1 ∧ cleanV p.2 := by
  intro p hp
  obtain ⟨e, he, rfl⟩ := List.mem_map.mp hp
  have he := List.mem_range.mp he
  exact ⟨name_ok (by omega) (Nat.mod_lt _ (by decide)), word_clean (h _ _)⟩
theorem st_tail {g h : Heap} {L : Addr} {a b b1 b2 b3 b4 b5 b6 b7 b8 b9 : Addr × Obj} {TL : List (Addr × Obj)} (N : News g L h (a :: b :: b1 :: b2 :: b3 :: b4 :: b5 :: b6 :: b7 :: b8 :: b9 :: TL)) : News g L h TL := fun p hp => N p (by
  simp only [List.mem_cons, hp, or_true])
theorem none_words {sh c : Nat → Nat} : ((stTbl sh c (3 * 6)).filter fun p => Txt.lower p.1 == Txt.lower "a").map (·.2) = [] := by kernel_rfl
theorem none_words4 {sh c : Nat → Nat} : ((stTbl sh c (3 * 6)).filter fun p => Txt.lower p.1 == Txt.lower "abca").map (·.2) = [] := by kernel_rfl
end SPt
section SQt
theorem offSQ : True := by w_top off; trivial
theorem len_s {α : Type} {l : List α} {n : Nat} (h : l.length = n + 1) : ∃ a r, l = a :: r ∧ r.length = n := by
  cases l with
  | nil => cases h
  | cons a r => exact ⟨a, r, rfl, Nat.succ.inj h⟩
theorem perm_three {α : Type} {ss : List α} {a b c : α} (h : ss.Perm [a, b, c]) : ss = [a, b, c] ∨ ss = [a, c, b] ∨ ss = [b, a, c] ∨ ss = [b, c, a] ∨ ss = [c, a, b] ∨ ss = [c, b, a] := by
  obtain ⟨u, r, rfl, _⟩ := len_s (n := 2) h.length_eq
  have hu : u ∈ [a, b, c] := h.mem_iff.mp (.head _)
  rcases List.mem_cons.mp hu with rfl | hu
  · rcases perm_two ((List.perm_cons u).mp h) with rfl | rfl
    · exact .inl rfl
    · exact .inr (.inl rfl)
  rcases List.mem_cons.mp hu with rfl | hu
  · have h2 : (u :: r).Perm [u, a, c] := h.trans (List.Perm.swap _ _ _)
    rcases perm_two ((List.perm_cons u).mp h2) with rfl | rfl
    · exact .inr (.inr (.inl rfl))
    · exact .inr (.inr (.inr (.inl rfl)))
  · obtain rfl := List.mem_singleton.mp hu
    have h2 : (u :: r).Perm [u, a, b] := h.trans ((List.Perm.cons a (List.Perm.swap _ _ _)).trans (List.Perm.swap _ _ _))
    rcases perm_two ((List.perm_cons u).mp h2) with rfl | rfl
    · exact .inr (.inr (.inr (.inr (.inl rfl))))
    · exact .inr (.inr (.inr (.inr (.inr rfl))))
theorem src_lt {k i : Nat} (hk : k < 6) (hi : i < 3) : src k i < 6 := by
  have : ∀ k < 6, ∀ i < 3, src k i < 6 := by decide
  exact this k hk i hi
/-- the three orders, sorted -/
theorem came_is {k : Nat} (hk : k < 6) {css : List PySem.Str}
    (hp : css.Perm [(⟨#[97 + perm k 2]⟩ : PySem.Str) ++ ⟨#[97 + perm k 0]⟩ ++ ⟨#[97 + perm k 1]⟩, (⟨#[97 + perm k 0]⟩ : PySem.Str) ++ ⟨#[97 + perm k 2]⟩ ++ ⟨#[97 + perm k 1]⟩, (⟨#[97 + perm k 0]⟩ : PySem.Str) ++ ⟨#[97 + perm k 1]⟩ ++ ⟨#[97 + perm k 2]⟩]) (hs : sortedS css = true) :
    css = [ordP (perm (src k 0)), ordP (perm (src k 1)), ordP (perm (src k 2))] := by
  have hs' := hs
  have e : ∀ k < 6, ∀ l ∈ ([[0, 1, 2], [0, 2, 1], [1, 0, 2], [1, 2, 0], [2, 0, 1], [2, 1, 0]] : List (List Nat)),
      (let t := [(⟨#[97 + perm k 2]⟩ : PySem.Str) ++ ⟨#[97 + perm k 0]⟩ ++ ⟨#[97 + perm k 1]⟩, (⟨#[97 + perm k 0]⟩ : PySem.Str) ++ ⟨#[97 + perm k 2]⟩ ++ ⟨#[97 + perm k 1]⟩, (⟨#[97 + perm k 0]⟩ : PySem.Str) ++ ⟨#[97 + perm k 1]⟩ ++ ⟨#[97 + perm k 2]⟩]
       let u := l.map fun i => t.getD i ""
       sortedS u = true → u = [ordP (perm (src k 0)), ordP (perm (src k 1)), ordP (perm (src k 2))]) := by decide +kernel
  rcases perm_three hp with h | h | h | h | h | h
  · rw [h] at hs' ⊢; exact e k hk [0, 1, 2] (by decide) hs'
  · rw [h] at hs' ⊢; exact e k hk [0, 2, 1] (by decide) hs'
  · rw [h] at hs' ⊢; exact e k hk [1, 0, 2] (by decide) hs'
  · rw [h] at hs' ⊢; exact e k hk [1, 2, 0] (by decide) hs'
  · rw [h] at hs' ⊢; exact e k hk [2, 0, 1] (by decide) hs'
  · rw [h] at hs' ⊢; exact e k hk [2, 1, 0] (by decide) hs'
theorem word_num (n : Nat) : numRun (wordT n).cps.toList 0 = (n : Int) := by
  show numRun ((apN n).map (·.toNat)) 0 = _
  rw [numRun_ap, apVal_ap]
theorem word_low (n : Nat) : (wordT n).cps.all (· < 128) = true := by
  rw [Array.all_eq_true']
  intro c hc
  have hc : c ∈ (apN n).map (·.toNat) := by simpa [wordT] using hc
  obtain ⟨b, hb, rfl⟩ := List.mem_map.mp hc
  exact decide_eq_true (apN_lt n b hb)
theorem strs_at {ys : List Value} {xs : List PySem.Str} (h : StrsAre ys xs) {j : Nat} {v : Value} (hv : ys[j]? = some v) : ∃ x t, xs[j]? = some x ∧ v = .str x t := by
  induction h generalizing j with
  | nil => simp at hv
  | cons x t _ ih =>
    cases j with
    | zero => exact ⟨x, t, rfl, (Option.some.inj hv).symm⟩
    | succ j => exact ih hv
/-- asking leaves the shares as they are -/
theorem stays_nat {c : Nat → Nat} {k : Nat} (hk : k < 6) : shareN c (perm (src k 0)) * c (perm k 2) + (shareN c (perm (src k 1)) * c (perm k 2) + (shareN c (perm (src k 2)) * c (perm k 2) + 0)) = (c 0 + c 1 + c 2) * shareN c (perm k) := by
  obtain rfl | rfl | rfl | rfl | rfl | rfl : k = 0 ∨ k = 1 ∨ k = 2 ∨ k = 3 ∨ k = 4 ∨ k = 5 := by omega
  all_goals simp only [shareN, perm, src, List.getD_cons_zero, List.getD_cons_succ]
  all_goals generalize c 0 = x
  all_goals generalize c 1 = y
  all_goals generalize c 2 = z
  all_goals grind
theorem stays_sum {c sh : Nat → Nat} {k : Nat} (hsh : sh = fun k => shareN c (perm k)) (hk : k < 6) : ((List.range 3).map fun i => ((sh (src k i) * c (perm k 2) : Nat) : Int)).sum = ((c 0 + c 1 + c 2 : Nat) : Int) * (sh k : Int) := by
  rw [← Int.natCast_mul]
  have e := stays_nat (c := c) hk
  rw [hsh]
  dsimp only
  rw [← e]
  rw [Int.natCast_add, Int.natCast_add, Int.natCast_add]
  rfl
section
variable {prog : Program} {w : World} {A : Around} {E : Value → Shared → Prop} {s : Shared}
theorem sorted_L {h₀ : Heap} {L : Addr} {m : PySem.Str → Option Value} {news : List (Addr × Obj)} {l : Addr} {vs : List Value} {ss : List PySem.Str} {Q : Value → Shared → Prop}
    (F : Fr h₀ L s.heap m) (N : News h₀ L s.heap news) (hl : s.heap.IsList l vs.toArray) (hS : StrsAre vs ss) (h64 : vs.length < 64)
    (h : ∀ (h' : Heap) (D : Addr) (vs' : List Value) (ss' : List PySem.Str) (e : Nat), Fr h₀ L h' m → News h₀ L h' ((D, seqObj "list" vs'.toArray e) :: news) → AllLt D news →
      StrsAre vs' ss' → ss'.Perm ss → sortedS ss' = true → Q (.ref D) { s with heap := h' }) :
    wpAny (model prog w) A (call (.builtin "sorted") [.ref l]) Q E s :=
  sorted_N_str F N hl hS h64 fun h' vs' ss' e F' N' a b c => h h' _ vs' ss' e F' N' (allLt_of fun p hp => Nat.lt_succ_of_lt (Heap.lt_size (N p hp).1)) a b c
theorem strs_lay : ∀ xs : List PySem.Str, (∀ x ∈ xs, PyData.strOk x = true) → PyData.canLayAll0 (xs.map PyData.str) = true
  | [], _ => by simp [PyData.canLayAll0]
  | x :: r, h => by
    have h1 := h x (.head _)
    simp [PyData.canLayAll0, PyData.canLay0, h1, strs_lay r fun q hq => h q (.tail _ hq)]
theorem strs_depth : ∀ xs : List PySem.Str, PyData.depthAll (xs.map PyData.str) = 0
  | [] => by simp [PyData.depthAll]
  | _ :: r => by
    have := strs_depth r
    simp [PyData.depthAll, PyData.depth, this]
theorem strs_shaped {xs : List PySem.Str} (h : ∀ x ∈ xs, PyData.strOk x = true) : SeqAt.shaped (.list (xs.map PyData.str)) = true := by
  simp [SeqAt.shaped, PyData.canLay0, PyData.depth, strs_lay xs h, strs_depth]
theorem ints_shaped (ns : List Int) : SeqAt.shaped (.list (ns.map PyData.int)) = true := by
  simp [SeqAt.shaped, PyData.canLay0, PyData.depth, ints_lay, ints_depth]
/-- two lists of the same texts do not differ -/
theorem ne_strs {l l' : Addr} {n n' : Nat} {vs ws : List Value} {xs : List PySem.Str} {Q : Value → Shared → Prop} (h1 : s.heap.get? l = some (listOf vs.toArray n)) (h2 : s.heap.get? l' = some (listOf ws.toArray n'))
    (p1 : StrsAre vs xs) (p2 : StrsAre ws xs) (hx : ∀ x ∈ xs, PyData.strOk x = true) (hu : A.units + 64 < cLine) (h : Q (.bool false) s) : wpAny (model prog w) A (compareOp .NotEq (.ref l) (.ref l')) Q E s := by
  refine ne_dataH (reads_list_at h1 rfl rfl (p1.reads _)) (reads_list_at h2 rfl rfl (p2.reads _)) (strs_shaped hx) (strs_shaped hx) hu ?_
  rw [SeqAt.eqv_refl _ (SeqAt.canLay_of_shaped (strs_shaped hx))]
  exact h
/-- two lists of the same numbers do not differ -/
theorem ne_ints {l l' : Addr} {n n' : Nat} {vs ws : List Value} {ns : List Int} {Q : Value → Shared → Prop} (h1 : s.heap.get? l = some (listOf vs.toArray n)) (h2 : s.heap.get? l' = some (listOf ws.toArray n'))
    (p1 : IntsAre vs ns) (p2 : IntsAre ws ns) (hu : A.units + 64 < cLine) (h : Q (.bool false) s) : wpAny (model prog w) A (compareOp .NotEq (.ref l) (.ref l')) Q E s := by
  refine ne_dataH (reads_list_at h1 rfl rfl (IntsAre.reads _ p1)) (reads_list_at h2 rfl rfl (IntsAre.reads _ p2)) (ints_shaped ns) (ints_shaped ns) hu ?_
  rw [SeqAt.eqv_refl _ (SeqAt.canLay_of_shaped (ints_shaped ns))]
  exact h
theorem vj_ints {o : Nat → Nat} : ∀ {n : Nat} {ys : List Value}, VJ o n ys → IntsAre ys ((List.range n).map fun i => (o i : Int))
  | 0, ys, h => by
    obtain rfl := List.eq_nil_of_length_eq_zero h.1
    exact .nil
  | n + 1, ys, h => by
    obtain ⟨t, ht⟩ := h.2 n (Nat.lt_succ_self n)
    have e : ys = ys.take n ++ [.int (o n : Int) t] := by
      have h1 : (ys.take (n + 1)) = ys.take n ++ [.int (o n : Int) t] := by rw [List.take_add_one, ht]; rfl
      rwa [List.take_of_length_le (by rw [h.1]; exact Nat.le_refl _)] at h1
    have h2 : VJ o n (ys.take n) := by
      refine ⟨by rw [List.length_take, h.1]; omega, fun k hk => ?_⟩
      obtain ⟨u, hu⟩ := h.2 k (by omega)
      exact ⟨u, by rw [List.getElem?_take, if_pos hk]; exact hu⟩
    rw [e, List.range_succ, List.map_append, List.map_cons, List.map_nil]
    exact (vj_ints h2).append (.cons _ _ .nil)
theorem word_ok (n : Nat) : PyData.strOk (wordT n) = true := strOk_low fun c hc => by
  have hc : c ∈ (apN n).map (·.toNat) := hc
  obtain ⟨b, hb, rfl⟩ := List.mem_map.mp hc
  have := apN_lt n b hb
  omega
theorem ord_strs (ou : Nat → Tok) : StrsAre (ordVs ou) ((List.range 6).map fun k => ordP (perm k)) := .cons _ _ (.cons _ _ (.cons _ _ (.cons _ _ (.cons _ _ (.cons _ _ .nil)))))
/-- the place of an order among the six -/
theorem index_ord {h₀ : Heap} {L D : Addr} {news : List (Addr × Obj)} {ou : Nat → Tok} {no k : Nat} {t : Tok} {Q : Value → Shared → Prop} (N : News h₀ L s.heap news) (hm : (D, listOf (ordVs ou).toArray no) ∈ news) (hk : k < 6)
    (h : Q (.int (k : Int) s.toks) { s with toks := s.toks + 1 }) : wpAny (model prog w) A (call (.builtin "list.index") [.ref D, .str (ordP (perm k)) t]) Q E s := by
  refine call_meets PySem.F.slot_list_index ⟨_, (N _ hm).1, rfl⟩ PySem.F.entry_list_index (PySem.F.args_list_index_2 _ _)
    (MeetsSeq.list_index D (ordVs ou).toArray no (.str (ordP (perm k)) t) (isStrOf (ordP (perm k))) (fun y hy => eq_isStrOf _ _ (ord_strs ou) y (by simpa using hy)) k hk (by omega) ?hit ?hno) ⟨(N _ hm).1, h⟩
  case hit =>
    obtain rfl | rfl | rfl | rfl | rfl | rfl : k = 0 ∨ k = 1 ∨ k = 2 ∨ k = 3 ∨ k = 4 ∨ k = 5 := by omega
    all_goals rfl
  case hno =>
    intro m hm2 hlt
    obtain rfl | rfl | rfl | rfl | rfl | rfl : k = 0 ∨ k = 1 ∨ k = 2 ∨ k = 3 ∨ k = 4 ∨ k = 5 := by omega
    all_goals obtain rfl | rfl | rfl | rfl | rfl : m = 0 ∨ m = 1 ∨ m = 2 ∨ m = 3 ∨ m = 4 := by omega
    all_goals first | rfl | omega
end
end SQt
section LXt
theorem offLX : True := by w_top off; trivial
/-- two leads at the four sizes: what less and equal say -/
def leadQ (x y : Nat) : Bool :=
  let a := leadCs x
  let b := leadCs y
  (lessB a b == (decide (lcol a 1 < lcol b 1) && (decide (lcol a 2 < lcol b 2) && (decide (lcol a 3 < lcol b 3) && decide (lcol a 4 < lcol b 4))))) &&
  (decide (counts [] a = counts [] b) == (decide (lcol a 1 = lcol b 1) && (decide (lcol a 2 = lcol b 2) && (decide (lcol a 3 = lcol b 3) && decide (lcol a 4 = lcol b 4)))))
theorem leadQ_all : ((List.range 100).all fun x => (List.range 100).all fun y => leadQ x y) = true := by decide +kernel
theorem leadCs_mod (x : Nat) : leadCs x = leadCs (x % 100) := by
  unfold leadCs
  rw [show x % 100 % 4 = x % 4 by omega, show x % 100 / 4 % 5 = x / 4 % 5 by omega, show x % 100 / 20 % 5 = x / 20 % 5 by omega]
theorem leadQ_at (x y : Nat) : lessB (leadCs x) (leadCs y) = (decide (lcol (leadCs x) 1 < lcol (leadCs y) 1) && (decide (lcol (leadCs x) 2 < lcol (leadCs y) 2) && (decide (lcol (leadCs x) 3 < lcol (leadCs y) 3) && decide (lcol (leadCs x) 4 < lcol (leadCs y) 4)))) ∧
    decide (counts [] (leadCs x) = counts [] (leadCs y)) = (decide (lcol (leadCs x) 1 = lcol (leadCs y) 1) && (decide (lcol (leadCs x) 2 = lcol (leadCs y) 2) && (decide (lcol (leadCs x) 3 = lcol (leadCs y) 3) && decide (lcol (leadCs x) 4 = lcol (leadCs y) 4)))) := by
  have h := List.all_eq_true.mp (List.all_eq_true.mp leadQ_all (x % 100) (List.mem_range.mpr (Nat.mod_lt _ (by decide)))) (y % 100) (List.mem_range.mpr (Nat.mod_lt _ (by decide)))
  rw [leadCs_mod x, leadCs_mod y]
  unfold leadQ at h
  dsimp only at h
  rw [Bool.and_eq_true, beq_iff_eq, beq_iff_eq] at h
  exact h
/-- the orders' shares, apart by the columns -/
theorem share_lt {ci cj cx : Nat} (hi : 0 < ci) (hj : 0 < cj) : ci * cj * (cx + ci) * (cj + ci) < cj * ci * (cx + cj) * (ci + cj) ↔ ci < cj := by
  have hK : 0 < ci * cj * (ci + cj) := Nat.mul_pos (Nat.mul_pos hi hj) (by omega)
  rw [show ci * cj * (cx + ci) * (cj + ci) = (ci * cj * (ci + cj)) * (cx + ci) by grind, show cj * ci * (cx + cj) * (ci + cj) = (ci * cj * (ci + cj)) * (cx + cj) by grind]
  rw [Nat.mul_lt_mul_left hK]
  omega
theorem share_eq {ci cj cx : Nat} (hi : 0 < ci) (hj : 0 < cj) : cj * ci * (cx + cj) * (ci + cj) = ci * cj * (cx + ci) * (cj + ci) ↔ ci = cj := by
  have hK : 0 < ci * cj * (ci + cj) := Nat.mul_pos (Nat.mul_pos hi hj) (by omega)
  rw [show ci * cj * (cx + ci) * (cj + ci) = (ci * cj * (ci + cj)) * (cx + ci) by grind, show cj * ci * (cx + cj) * (ci + cj) = (ci * cj * (ci + cj)) * (cx + cj) by grind]
  constructor
  · intro h
    have := Nat.eq_of_mul_eq_mul_left hK h
    omega
  · rintro rfl; rfl
end LXt
section STt
theorem offST : True := by w_top off; trivial
structure StopST : Prop where
  ok : True
structure StopAsg : Prop where
  ok : True
local macro_rules | `(tactic| walk_at "sub") => `(tactic| first | exact List.forall_mem_nil _ | (refine' List.forall_mem_cons.mpr ⟨?a, ?b⟩; (case a => k_mem); (case b => walk_at "sub")))
local macro_rules | `(tactic| walk_at "call ref") => `(tactic| refine stop ?_)
local macro_rules | `(tactic| walk_at "exec For") => `(tactic| refine stop ?_)
local macro_rules | `(tactic| walk_at "exec For Name Call cons nil") => `(tactic| refine stop ?_)
local macro_rules | `(tactic| walk_at "eval ListComp") => `(tactic| ((have _q : StopST := by assumption); clear _q; refine stop ?_))
local macro_rules | `(tactic| walk_at "CompSrc") => `(tactic| ((have _q : StopST := by assumption); clear _q; refine stop ?_))
local macro_rules | `(tactic| walk_at "CompEnd") => `(tactic| ((have _q : StopST := by assumption); clear _q; refine stop ?_))
local macro_rules | `(tactic| walk_at "exec Assign cons ListComp") => `(tactic| ((have _q : StopAsg := by assumption); clear _q; refine stop ?_))
local macro_rules | `(tactic| k_all) => `(tactic| assumption)
local macro_rules | `(tactic| walk_at "subscriptTail") => `(tactic| (k_here; (with_reducible show wpAny _ _ (subscriptTail _ _ (Value.ref _) (Value.int _ _)) _ _ _); k_dflt (refine' item_at ?N ?m ?x ?k ?_; (case N => k_asm); (case m => k_mem); (case x => assumption); (case k => omega); k_whole)))
local macro_rules | `(tactic| walk_at "to_tail") => `(tactic| (intro q hq; repeat' first | exact hq | apply List.Mem.tail))
local macro_rules | `(tactic| walk_at "eval IfExp") => `(tactic| ((have _q : StopAsg := by assumption); clear _q; refine stop ?_))
local macro_rules | `(tactic| walk_at "subscriptTail") => `(tactic| (k_here; (with_reducible show wpAny _ _ (subscriptTail _ _ (Value.ref _) (Value.str _ _)) _ _ _); k_dflt (refine' kda_item (knd := PySem.strKind _ _) ?N ?m ?d (strKind_is _ _ _ _) ?l ?_; (case N => k_asm); (case m => k_mem); (case d => k_asm); (case l => assumption); k_whole)))
local macro_rules | `(tactic| walk_at "assignInOrder") => `(tactic| first | refine assignInOrder_cons ?_ | refine assignInOrder_nil ?_)
local macro_rules | `(tactic| walk_at "assign Tuple") => `(tactic| (k_here; (with_reducible rename Fr _ _ _ _ => F'); (with_reducible rename News _ _ _ _ => N'); refine assign_str3 rfl F' N' rfl (by assumption) rfl rfl ?_; clear F' N'; intro h' tk' t0' t1' t2' F' N'))
local macro_rules | `(tactic| walk_at "call builtin:sorted") => `(tactic| refine stop ?_)
local macro_rules | `(tactic| walk_at "compareOp NotEq ref ref") => `(tactic| refine stop ?_)
local macro_rules | `(tactic| walk_at "call builtin:list.index") => `(tactic| (k_here; (with_reducible show wpAny _ _ (call (Value.builtin _) [Value.ref _, Value.str _ _]) _ _ _); k_dflt (refine' index_ord ?N ?m ?k ?_; (case N => k_asm); (case m => k_mem); (case k => assumption); k_whole)))
local macro_rules | `(tactic| walk_at "call builtin:str.index") => `(tactic| (k_here; (with_reducible show wpAny _ _ (call (Value.builtin _) [Value.str _ _, Value.str _ _]) _ _ _); k_dflt (refine' index_abc rfl ?i ?_; (case i => assumption); k_whole)))
theorem a_clean : cleanN ("a" : PySem.Str) ∧ cleanN (Txt.lower "a") := ⟨⟨by decide +kernel, by decide +kernel⟩, ⟨by decide +kernel, by decide +kernel⟩⟩
theorem abca_clean : cleanN ("abca" : PySem.Str) ∧ cleanN (Txt.lower "abca") := ⟨⟨by decide +kernel, by decide +kernel⟩, ⟨by decide +kernel, by decide +kernel⟩⟩
theorem c_stays (w : World) (loose : List PySem.Str) (mean : ExcName → Option Value) (mg mb : PySem.Str → Option Value) (s : Shared) (h₀ : Heap) (X : (Mine.frag.heap_1 w.params).In h₀) (T : Top Mine.view loose mean mg mb h₀) (hk : h₀.StaysIn s.heap) (lt lo D : Addr) (o : Obj) (x : Nat → Nat) (u ou : Nat → Tok) (n no : Nat) (r : Nat → WsT) (LN : List (Addr × Obj)) (z : Nat) (tz : Tok) (R : Result → Shared → Prop)
  (hL : LinesAt PySem.Challenge.rw_ta0081_03.row.prog w D o x r LN) (hz : 1 ≤ z ∧ z ≤ 4)
  (hn : Has h₀ s.heap ((lt, listOf #[.str (leadT (x 0)) (u 0), .str (leadT (x 1)) (u 1), .str (leadT (x 2)) (u 2)] n) :: (lo, listOf (ordVs ou).toArray no) :: LN))
  (hR : ∀ h' tk, s.heap.StaysIn h' → R (.ok (.ret (.bool true))) { s with heap := h', toks := tk }) :
  codeAny (model PySem.Challenge.rw_ta0081_03.row.prog w) (AC 3) (.call (.ref 297) ⟨[.ref lt, .ref D, .ref lo, .int (z : Int) tz], []⟩) R s := by
  revert X
  k_fill
  intro X
  k_dflt (refine' enterC (binds := [("texts", .ref lt), ("lines", .ref D), ("orders", .ref lo), ("size", .int (z : Int) tz)]) (news := ((lt, listOf #[.str (leadT (x 0)) (u 0), .str (leadT (x 1)) (u 1), .str (leadT (x 2)) (u 2)] n) :: (lo, listOf (ordVs ou).toArray no) :: LN)) X T hk ?kn ?k6 ?k7 ?k8 ?k9 ?kB ?kD ?h ?c2 ?c3 ?c4; (case kn => assumption); (case k6 => k_is); (case k7 => k_is); (case k8 => decide); (case k9 => exact BindsTo.of_eq rfl); (case kB => exact rfl); (case kD => decide +kernel); (case c2 => exact rfl); (case c3 => exact rfl); (case c4 => exact rfl))
  clear X T
  intro g L h₁ tk cells hg hs F N Y X T l1
  (try k_lt l1)
  k_cells Y
  (try simp only [List.cons_append, List.nil_append] at N)
  (try dsimp only)
  have hS : StopST := ⟨trivial⟩
  have hlt : ∀ p ∈ LN, @LT.lt Nat _ p.1 L := fun p hp => allLt_mem l1.2.2 hp
  have q4 : ∀ p ∈ LN, p.1 ≠ L + 1 + 1 + 1 + 1 := fun p hp => ne_up 4 (hlt p hp)
  have q5 : ∀ p ∈ LN, p.1 ≠ L + 1 + 1 + 1 + 1 + 1 := fun p hp => ne_up 5 (hlt p hp)
  have q6 : ∀ p ∈ LN, p.1 ≠ L + 1 + 1 + 1 + 1 + 1 + 1 := fun p hp => ne_up 6 (hlt p hp)
  k_steps
  unfold Stop
  rename Fr _ _ _ _ => F
  rename News _ _ _ _ => N
  refine offE (lift_A (A := AC 5) (c_hnew0 _ _ _ _ _ _ _ (by assumption) (by assumption) (fun _ _ q => F.keep _ _ q) F N _ ?_) rfl (Nat.le_of_ble_eq_true rfl) (Nat.le_of_ble_eq_true rfl) rfl rfl)
  clear F N
  intro h2 tk2 xb db kb lb nb F N alb beb ceb
  dsimp only [hdObjs, List.cons_append, List.nil_append] at N
  simp only [AllLt, and_true] at alb
  have hca : ∀ i, i < 3 → lcol (leadCs (x i)) z ≤ 400 := fun i _ => lcol_small hz.2 _
  obtain ⟨c, hc⟩ : ∃ c : Nat → Nat, c = fun i => lcol (leadCs (x i)) z := ⟨_, rfl⟩
  obtain ⟨sh, hsh⟩ : ∃ sh : Nat → Nat, sh = fun k => shareN c (perm k) := ⟨_, rfl⟩
  k_steps
  unfold Stop
  rename Fr _ _ _ _ => F
  refine LCg.ListComp_U (F₀ := F) (by with_unfolding_all rfl) (by decide) (by rfl) (by decide) (by rfl) ?_
  k_steps
  unfold Stop
  rename Fr _ _ _ _ => F
  rename News _ _ _ _ => N
  refine LCg.CompSrc.ledger (by rfl) F N (by k_mem) (Nat.le_of_ble_eq_true rfl) fun g1 => ?_
  clear F N
  refine compU_K (fun i ys => VJ sh i ys) ?turnS ?doneS VJ.nil
  case turnS =>
    rintro j ys v I oI C oC E2 m₂ h tk E' hJ hj hv hC hx F N o3 ne
    have hj6 : j < 6 := hj
    obtain rfl : v = .str (ordP (perm j)) (ou j) := by
      have e := ordVs_at (u := ou) hj6
      have hv : (ordVs ou)[j]? = some v := by simpa using hv
      rw [e] at hv
      exact (Option.some.inj hv).symm
    have o3' := o3
    clear o3
    refine genQ fun QS hQS => ?_
    k_steps
    unfold Stop
    rename Fr _ _ _ _ => F1
    rename News _ _ _ _ => N1
    refine offE ?_
    k_dflt (refine' c_shareC F1 N1 ?k3 ?k4 ?a1 ?a2 ?a3 ?m hL (perm_ok hj6) hz ?_; (case k3 => k_asm); (case k4 => k_asm); (case a1 => exact rfl); (case a2 => exact Nat.le_of_ble_eq_true rfl); (case a3 => exact Nat.le_of_ble_eq_true rfl); (case m => walk_at "to_tail"); k_whole)
    clear F1 N1
    intro h9 tk9 tx9 F1 N1
    k_steps
    rename Fr _ _ _ _ => F1
    rename News _ _ _ _ => N1
    exact hQS _ _ (compEnd_none F1 N1 o3' (.inr ⟨_, by k_mem, rfl, _, rfl⟩) ⟨rfl, hJ.snoc (by rw [hsh, hc])⟩)
  case doneS =>
    rintro ys hJS
    intro ls h3 tk3 F N o13
    simp only [LCg.Off1, and_true] at o13
    k_steps
    unfold Stop
    rename Fr _ _ _ _ => F
    refine LCg.ListComp_U (F₀ := F) (by with_unfolding_all rfl) (by decide) (by rfl) (by decide) (by rfl) ?_
    k_steps
    unfold Stop
    rename Fr _ _ _ _ => F
    rename News _ _ _ _ => N
    refine LCg.CompSrc.ledger (by rfl) F N (by k_mem) (Nat.le_of_ble_eq_true rfl) fun g2 => ?_
    clear F N
    refine compU_K (fun i ys => VJ c i ys) ?turnC ?doneC VJ.nil
    case turnC =>
      rintro j ys v I oI C oC E2 m₂ h tk E' hJ hj hv hC hx F N o3 ne
      have hj3 : j < 3 := hj
      obtain ⟨uj, rfl⟩ := text_at hj3 hv
      have o3' := o3
      clear o3
      refine genQ fun QC hQC => ?_
      k_steps
      unfold Stop
      rename Fr _ _ _ _ => F1
      rename News _ _ _ _ => N1
      refine offE ?_
      k_dflt (refine' c_columnC F1 N1 ?k3 ?k4 ?a1 ?a2 ?a3 (leadT_ok _).1 (leadT_ok _).2 ?z1 ?z2 ?_; (case k3 => k_asm); (case k4 => k_asm); (case a1 => exact rfl); (case a2 => exact Nat.le_of_ble_eq_true rfl); (case a3 => exact Nat.le_of_ble_eq_true rfl); (case z1 => omega); (case z2 => omega); k_whole)
      clear F1 N1
      intro h9 tk9 tx9 F1 N1
      k_steps
      rename Fr _ _ _ _ => F1
      rename News _ _ _ _ => N1
      exact hQC _ _ (compEnd_none F1 N1 o3' (.inr ⟨_, by k_mem, rfl, _, rfl⟩) ⟨rfl, hJ.snoc (by rw [col_lead hz.1, hc])⟩)
    case doneC =>
      rintro cs hJC
      intro lc h4 tk4 F N o14
      simp only [LCg.Off1, and_true] at o14
      k_steps
      unfold Stop
      rename Fr _ _ _ _ => F
      refine offE (For_led ?_ (fun _ => rfl))
      k_steps
      rename IsRange _ _ _ _ _ _ _ _ => hr1
      rename Fr _ _ _ _ => F
      rename News _ _ _ _ => N
      obtain ⟨oz, oc, os, od, oo, ol, NJ, hoc, hos, hod, hoo, hol, ozd⟩ := st_fold N (by assumption) (by assumption) (by assumption) (by assumption) (by assumption) (by assumption)
      obtain ⟨FX, hFX⟩ : ∃ FX, FX = stFX w.params xb db kb lb L oz oc os od oo ol ls lc lo ys cs ou no := ⟨_, rfl⟩
      rw [← hFX] at NJ
      clear N
      obtain ⟨LM, hLM⟩ : ∃ LM, LM = (lt, listOf #[.str (leadT (x 0)) (u 0), .str (leadT (x 1)) (u 1), .str (leadT (x 2)) (u 2)] n) :: LN := ⟨_, rfl⟩
      rw [← hLM] at NJ
      have hltM : ∀ p ∈ LM, @LT.lt Nat _ p.1 L := by rw [hLM]; exact List.forall_mem_cons.mpr ⟨l1.1, hlt⟩
      have q6M : ∀ p ∈ LM, p.1 ≠ L + 1 + 1 + 1 + 1 + 1 + 1 := fun p hp => ne_up 6 (hltM p hp)
      obtain ⟨J1, hJ1⟩ : ∃ J1, J1 = stJ g LM FX lb (L + 1 + 1 + 1 + 1 + 1 + 1) xb sh c 3 := ⟨_, rfl⟩
      have hF0 : (∀ p ∈ FX ++ LM, p.1 ≠ lb) := by
        rw [hFX]
        exact st_off alb beb ceb o13 o14 (fun p hp => hltM p hp)
      refine' for_range (n := 6) (J := J1) (Jx := J1 6) hr1 ?smA rfl ?hA F NJ ?j0 ?turnA ?jx ?doneA
      case smA => decide
      case hA => rfl
      case j0 => rw [hJ1]; exact stJ.start ⟨rfl, trivial⟩ fun p hp => ⟨hF0 p (List.mem_append_right _ hp), q6M p hp⟩
      case jx => exact fun m news h => h
      case turnA =>
        clear F NJ hr1
        intro k tkk m news h tk I oI hk hJ hnI F N
        rw [hJ1] at hJ
        obtain ⟨vs, nn, TL, hm, rfl, hP, hTl, hTL⟩ := hJ
        rw [show (0 : Int) + (k : Int) * 1 = (k : Int) by omega]
        replace F := fr_bd F _ hm
        dsimp only [bd] at F
        have hnl : @Ne Nat lb I := hnI _ (.head _)
        rw [hFX] at N
        unfold stFX at N
        simp only [List.cons_append, List.nil_append] at N
        refine genF fun PA hPA => ?_
        (try dsimp only)
        k_steps
        unfold Stop
        rename Fr _ _ _ _ => F
        refine offE (For_led ?_ (fun _ => rfl))
        k_steps
        rename IsRange _ _ _ _ _ _ _ _ => hr2
        rename Fr _ _ _ _ => F
        rename News _ _ _ _ => N
        have NI := (show News g L _ ((I, oI) :: (lb, listOf vs.toArray nn) :: (stFX w.params xb db kb lb L oz oc os od oo ol ls lc lo ys cs ou no ++ TL)) from N)
        rw [← hFX] at NI
        clear N
        have hFI : ∀ p ∈ FX, p.1 ≠ I := fun p hp => hnI p (.tail _ (List.mem_append_left _ hp))
        obtain ⟨J2, hJ2⟩ : ∃ J2, J2 = stJ2 g LM FX lb (L + 1 + 1 + 1 + 1 + 1 + 1) xb I oI sh c k := ⟨_, rfl⟩
        refine' for_range (n := 3) (J := J2) (Jx := J2 3) hr2 ?smB rfl ?hB F NI ?j0B ?turnB ?jxB ?doneB
        case smB => decide
        case hB => rfl
        case j0B => rw [hJ2]; exact ⟨vs, nn, TL, _, ⟨rfl, rfl, trivial⟩, rfl, hP, hTl, hTL, fun p hp => hnI p (.tail _ (List.mem_append_right _ hp))⟩
        case jxB => exact fun m news h => h
        case turnB =>
          clear F NI hr2 hm hP hTl hTL hnI
          intro j tkj m news h tk I2 oI2 hj hJ hnI2 F N
          rw [hJ2] at hJ
          obtain ⟨vs, nn, TL, tkk, hm, rfl, hP, hTl, hTL, hTI⟩ := hJ
          rw [show (0 : Int) + (j : Int) * 1 = (j : Int) by omega]
          replace F := fr_bd F _ hm
          dsimp only [bd] at F
          have hn2l : @Ne Nat lb I2 := hnI2 _ (.tail _ (.head _))
          have hko := ordVs_at (u := ou) hk
          obtain ⟨tks, hks⟩ := hJS.2 k hk
          obtain ⟨tjc, hjc⟩ := hJC.2 j hj
          rw [hFX] at N
          unfold stFX at N
          simp only [List.cons_append, List.nil_append] at N
          have hl3 : (ordP (perm k)).length = 3 := rfl
          have hIf : StopAsg := ⟨trivial⟩
          refine genF fun PB hPB => ?_
          (try dsimp only)
          k_steps
          unfold Stop
          rename Fr _ _ _ _ => F
          rename News _ _ _ _ => N
          refine offE (mid_str F N (nameT k j) ?mA ?mB)
          case mA =>
            clear hIf
            k_steps
            · rename Int.fmod _ _ = _ => he
              unfold Stop
              rename Fr _ _ _ _ => F1
              rename News _ _ _ _ => N1
              rw [item_up hj]
              refine c_askedC (a := fun i => 97 + perm k i) (j := inv k j) (c := 65 + j) F1 N1 (by assumption) (by assumption) rfl (Nat.le_of_ble_eq_true rfl) (Nat.le_of_ble_eq_true rfl) (low_clean hk) (up_clean hj) (inv_lt k j) (low_is hk hj) ?_
              intro h9 tk9 tx9 F9 N9
              rw [← nameT_even (k := k) (j := j) he]
              exact ⟨h9, tk9, tx9, rfl, rfl, F9, N9⟩
            · rename ¬ (Int.fmod _ _ = _) => he
              unfold Stop
              rename Fr _ _ _ _ => F1
              rename News _ _ _ _ => N1
              rw [item_low hj, upper_ord hk]
              refine c_askedC (a := fun i => 65 + perm k i) (j := inv k j) (c := 97 + j) F1 N1 (by assumption) (by assumption) rfl (Nat.le_of_ble_eq_true rfl) (Nat.le_of_ble_eq_true rfl) (high_clean hk) (one_low hj) (inv_lt k j) (high_is hk hj) ?_
              intro h9 tk9 tx9 F9 N9
              rw [← nameT_odd (k := k) (j := j) he]
              exact ⟨h9, tk9, tx9, rfl, rfl, F9, N9⟩
          case mB =>
            clear F N hIf
            intro h9 tk9 tx9 F N
            have hlT : (nameT k j).length = 3 := nameT_len k j
            have hcj : c j ≤ 400 := by rw [hc]; exact lcol_small hz.2 _
            k_steps
            · unfold Stop
              rename Fr _ _ _ _ => F1
              rename News _ _ _ _ => N1
              refine offE ?_
              have hsk : sh k ≤ 10 ^ 12 := by rw [hsh]; exact share_small (fun i => by rw [hc]; exact lcol_small hz.2 _) _
              have hpos : 0 < sh k * c j := Nat.mul_pos (by rw [hsh]; exact share_pos (fun i => by rw [hc]; exact lcol_pos hz.1 _) _) (by rw [hc]; exact lcol_pos hz.1 _)
              have hnz : (-(sh k : Int) * (c j : Int)).natAbs = sh k * c j := by rw [Int.natAbs_mul, Int.natAbs_neg, Int.natAbs_natCast, Int.natAbs_natCast]
              have hb : sh k * c j ≤ 10 ^ 15 := Nat.le_trans (Nat.mul_le_mul hsk hcj) (by decide)
              have hb16 : (-(sh k : Int) * (c j : Int)).natAbs < 16 ^ 16 := by rw [hnz]; exact Nat.lt_of_le_of_lt hb (by decide)
              k_dflt (refine' c_int2apC F1 N1 ?k3 ?k4 ?a1 ?a2 ?a3 hb16 ?_; (case k3 => k_asm); (case k4 => k_asm); (case a1 => exact rfl); (case a2 => exact Nat.le_of_ble_eq_true rfl); (case a3 => exact Nat.le_of_ble_eq_true rfl); k_whole)
              rw [hnz]
              clear F1 N1
              intro h10 tk10 tx10 F N
              k_steps
              refine' dc_call (apN_ne (Nat.ne_of_gt hpos)) (apN_lt _) (Nat.le_trans (apN_len 16 _ (Nat.lt_of_le_of_lt hb (by decide))) (by decide)) ?_
              intro t11 k11
              k_steps
              unfold Stop
              rename Fr _ _ _ _ => F1
              rename News _ _ _ _ => N1
              refine offE ?_
              have hall : ∀ p ∈ FX ++ TL, p.1 ≠ lb := fun p hp => (List.mem_append.mp hp).elim (fun q => hF0 p (List.mem_append_left _ q)) (fun q => (hTl p q).1)
              rw [hFX] at hall
              refine c_addhU (k := kb) (n := nn) (vs := vs) F1 (drop1 N1) (by assumption) (by assumption) rfl (Nat.le_of_ble_eq_true rfl) (Nat.le_of_ble_eq_true rfl) (by k_mem) (by k_mem) (g := fun o' => (I2, oI2) :: (I, oI) :: (lb, o') :: (stFX w.params xb db kb lb L oz oc os od oo ol ls lc lo ys cs ou no ++ TL)) (UpdF.tail (Ne.symm hn2l) (UpdF.tail (Ne.symm hnl) (UpdF.head hall))) (name_ok hk hj) (word_clean (n := sh k * c j) (Nat.lt_of_le_of_lt hb (by decide))) ?zz (Nat.ne_of_lt beb) (Nat.ne_of_gt (Nat.lt_trans beb ceb)) (Nat.ne_of_gt ceb) ?_
              case zz =>
                rw [hP.1]
                unfold stTbl
                rw [List.length_map, List.length_range]
                omega
              clear F1 N1
              intro h12 tk12 n12 D12 t12 u12 F N al12
              have dI2 : @LT.lt Nat _ I2 D12 := al12.1
              have dI : @LT.lt Nat _ I D12 := al12.2.1
              have dl : @LT.lt Nat _ lb D12 := al12.2.2.1
              have dz : @LT.lt Nat _ (L + 1 + 1 + 1 + 1 + 1 + 1) D12 := al12.2.2.2.2.2.1
              clear al12 hall
              k_steps
              have N5 := (show News g L _ ((D12, tupO [.str (nameT k j) t12, .str (wordT (sh k * c j)) u12]) :: (I2, oI2) :: (I, oI) :: (lb, listOf (vs ++ [Value.ref D12]).toArray n12) :: (stFX w.params xb db kb lb L oz oc os od oo ol ls lc lo ys cs ou no ++ TL)) from N)
              rw [← hFX] at N5
              refine hPB _ _ ⟨_, _, _, _, rfl, F, st_next N5, st_ne (o1 := listOf vs.toArray nn) hnI2 (Nat.ne_of_gt dI2), ?_⟩
              rw [hJ2]
              refine ⟨vs ++ [Value.ref D12], n12, _, _, ⟨rfl, rfl, trivial⟩, rfl, ?_, ?_, ⟨fun q hq => .tail _ (hTL.ok q hq)⟩, ?_⟩
              · rw [stTbl_succ hj]
                exact (hP.led (fun q h => .tail _ h)).app (PairsIn.cons (p := (nameT k j, wordT (sh k * c j))) (.head _) PairsIn.nil)
              · intro p hp
                rcases List.mem_cons.mp hp with rfl | hp
                · exact ⟨Nat.ne_of_gt dl, Nat.ne_of_gt dz⟩
                · exact hTl p hp
              · intro p hp
                rcases List.mem_cons.mp hp with rfl | hp
                · exact Nat.ne_of_gt dI
                · exact hTI p hp
            · rename (List.any _ _ = false) => hb
              exact absurd hb (by rw [then_ok hk hj]; decide)
        case doneB =>
          clear F NI hr2 hm hP hTl hTL
          intro h tk m news hJ F N
          rw [hJ2] at hJ
          obtain ⟨vs, nn, TL, tkk, hm, rfl, hP, hTl, hTL, hTI⟩ := hJ
          k_steps
          refine hPA _ _ ⟨_, _, _, _, rfl, F, N, ?_, ?_⟩
          · intro p hp
            rcases List.mem_cons.mp hp with rfl | hp
            · exact hnl
            · exact (List.mem_append.mp hp).elim (hFI p) (hTI p)
          · rw [hJ1]
            exact ⟨vs, nn, TL, ⟨hm.1, trivial⟩, rfl, by rw [show 3 * (k + 1) = 3 * k + 3 by omega]; exact hP, hTl, hTL⟩
      case doneA =>
        clear F NJ hr1
        intro h tk m news hJ F N
        rw [hJ1] at hJ
        obtain ⟨vs, nn, TL, hm, rfl, hP, hTl, hTL⟩ := hJ
        replace F := fr_bd F _ hm
        dsimp only [bd] at F
        rw [hFX] at N
        have N2 := st_lines (g := g) N hL fun p hp => hTL.ok p (by rw [hLM]; exact .tail _ hp)
        clear N
        unfold stFX at N2
        dsimp only [wsOf, wsObjs, List.cons_append, List.nil_append] at N2
        have hdo := hL.2.1
        have h6 := (hL.2.2 6 (by decide)).1
        have hv6 : valueAt (linesKv r) "abc" = some (.ref (r 6).x) := rfl
        k_steps
        unfold Stop
        rename Fr _ _ _ _ => F1
        rename News _ _ _ _ => N1
        refine offE ?_
        refine c_indentT (cs := csOf (linesX x 6)) F1 N1 (by assumption) (by assumption) rfl (Nat.le_of_ble_eq_true rfl) (Nat.le_of_ble_eq_true rfl) ?ml h6 hz.1 (Nat.le_trans hz.2 (by decide)) ?_
        case ml =>
          dsimp only [wsOf, wsObjs]
          walk_at "sub"
        clear F1 N1 h6 hdo hv6
        intro h9 tk9 tx9 F N1
        rw [lcol_whole x z]
        obtain ⟨wh, hwh⟩ : ∃ wh : Nat, wh = lcol (leadCs (x 0)) z + lcol (leadCs (x 1)) z + lcol (leadCs (x 2)) z := ⟨_, rfl⟩
        rw [← hwh]
        have N := drop1 (drop1 (drop1 (drop1 (drop1 N1))))
        clear N1
        have hwb : wh ≤ 1200 := by
          have e0 := lcol_small hz.2 (x 0)
          have e1 := lcol_small hz.2 (x 1)
          have e2 := lcol_small hz.2 (x 2)
          omega
        k_steps
        unfold Stop
        rename Fr _ _ _ _ => F
        refine offE (For_led ?_ (fun _ => rfl))
        k_steps
        rename IsRange _ _ _ _ _ _ _ _ => hr3
        rename Fr _ _ _ _ => F
        rename News _ _ _ _ => N
        have N3 := st_rest N
        clear N
        obtain ⟨RS, hRS⟩ : ∃ RS, RS = stRS w.params xb db kb lb L oc os oo ls lc lo ys cs ou no vs nn := ⟨_, rfl⟩
        rw [← hRS] at N3
        have hcs : ∀ k j, sh k * c j < 16 ^ 16 := fun k j => by
          have e1 : sh k ≤ 10 ^ 12 := by rw [hsh]; exact share_small (fun i => by rw [hc]; exact lcol_small hz.2 _) _
          have e2 : c j ≤ 400 := by rw [hc]; exact lcol_small hz.2 _
          exact Nat.lt_of_le_of_lt (Nat.mul_le_mul e1 e2) (by decide)
        have hoff : ∀ p ∈ RS ++ TL, p.1 ≠ L + 1 + 1 + 1 + 1 + 1 + 1 := by
          rw [hRS]
          exact st_offz alb beb ceb o13 o14 l1.2.1 fun p hp => (hTl p hp).2
        obtain ⟨J3, hJ3⟩ : ∃ J3, J3 = stJ3 (RS ++ TL) (L + 1 + 1 + 1 + 1 + 1 + 1) xb wh := ⟨_, rfl⟩
        refine' for_range (n := 6) (J := J3) (Jx := J3 6) hr3 ?smC rfl ?hC F N3 ?j0C ?turnK ?jxC ?doneK
        case smC => decide
        case hC => rfl
        case j0C => rw [hJ3]; exact ⟨oz, _, _, ozd, ⟨rfl, rfl, trivial⟩, rfl⟩
        case jxC => exact fun m news h => h
        case turnK =>
          clear F N3 hr3
          intro k tkk m news h tk I oI hk hJ hnI F N
          rw [hJ3] at hJ
          obtain ⟨oz, vz, tkw, hvz, hm, rfl⟩ := hJ
          rw [show (0 : Int) + (k : Int) * 1 = (k : Int) by omega]
          replace F := fr_bd F _ hm
          dsimp only [bd] at F
          have hnz : @Ne Nat (L + 1 + 1 + 1 + 1 + 1 + 1) I := hnI _ (.head _)
          have hko := ordVs_at (u := ou) hk
          have hl3 : (ordP (perm k)).length = 3 := rfl
          have hls := cut_len hk
          rw [hRS] at N
          unfold stRS at N
          simp only [List.cons_append, List.nil_append] at N
          refine genF fun PK hPK => ?_
          (try dsimp only)
          k_steps
          unfold Stop
          rename Fr _ _ _ _ => F1
          rename News _ _ _ _ => N1
          rw [cap_is hk]
          refine offE ?_
          have hPat := hP.at F1 (st_tail N1)
          refine c_hallC (x := xb) (dx := db) (l := lb) (vs := vs) (k := kb) (n := nn) F1 N1 (by assumption) (by assumption) rfl (Nat.le_of_ble_eq_true rfl) (Nat.le_of_ble_eq_true rfl) [wordT (sh (src k 0) * c (perm k 2)), wordT (sh (src k 1) * c (perm k 2)), wordT (sh (src k 2) * c (perm k 2))] ?mm hPat (tbl_clean hcs) (cap_clean hk).1 (cap_clean hk).2 ?zz (cap_words hk) ?_
          case mm =>
            dsimp only [hdObjs]
            walk_at "sub"
          case zz =>
            rw [hP.1]
            unfold stTbl
            rw [List.length_map, List.length_range]
            decide
          clear F1 N1 hPat
          intro h11 tk11 D11 n11 wys hwy F N al11
          simp only [AllNe] at al11
          have hpl : 97 + perm k 0 < 128 ∧ 97 + perm k 1 < 128 ∧ 97 + perm k 2 < 128 := ⟨(low_clean hk 0 (by decide)).2, (low_clean hk 1 (by decide)).2, (low_clean hk 2 (by decide)).2⟩
          have hoffN := hoff
          rw [hRS] at hoffN
          unfold stRS at hoffN
          simp only [List.cons_append, List.nil_append] at hoffN
          have hAsg : StopAsg := ⟨trivial⟩
          k_steps
          unfold Stop
          rename Fr _ _ _ _ => F1
          rename News _ _ _ _ => N1
          refine sorted_L F1 N1 (News.isList N1 (.head _)) (StrsAre.cons _ _ (StrsAre.cons _ _ (StrsAre.cons _ _ .nil))) (Nat.le_of_ble_eq_true rfl) ?_
          clear F1 N1
          intro h12 D12 cvs css e12 F N al12 hcS hcp hcs2
          obtain rfl := came_is hk hcp hcs2
          clear hcp hcs2
          simp only [AllLt] at al12
          k_steps
          unfold Stop
          rename Fr _ _ _ _ => F
          refine LCg.Assign_ListComp_U (F₀ := F) (by rfl) (by with_unfolding_all rfl) (by with_unfolding_all rfl) (by decide) (by rfl) (by decide) (by rfl) (by rfl) (by rfl) ?_
          k_steps
          unfold Stop
          rename Fr _ _ _ _ => F
          rename News _ _ _ _ => N
          refine LCg.CompSrc.ledger (by rfl) F N (by k_mem) (by rw [List.size_toArray, hwy.length]; exact Nat.le_of_ble_eq_true rfl) fun g5 => ?_
          clear F N
          refine compU_K (fun i ys => VJ (fun i => sh (src k i) * c (perm k 2)) i ys) ?turnN ?doneN VJ.nil
          case turnN =>
            rintro j ys v I2 oI2 C2 oC2 E2 m₂ h tk E' hJ hj hv hC hx F N o3 ne
            have hj3 : j < 3 := by rw [List.size_toArray, hwy.length] at hj; exact hj
            obtain ⟨T9, t9, hT9, rfl⟩ := strs_at hwy (by simpa using hv)
            obtain rfl : T9 = wordT (sh (src k j) * c (perm k 2)) := by
              obtain rfl | rfl | rfl : j = 0 ∨ j = 1 ∨ j = 2 := by omega
              all_goals exact (Option.some.inj hT9).symm
            have o3' := o3
            clear o3
            refine genQ fun QN hQN => ?_
            k_steps
            unfold Stop
            rename Fr _ _ _ _ => F1
            rename News _ _ _ _ => N1
            refine offE ?_
            refine c_numberC F1 N1 (by assumption) (by assumption) rfl (Nat.le_of_ble_eq_true rfl) (Nat.le_of_ble_eq_true rfl) (word_low _) ?_
            rw [word_num]
            clear F1 N1
            intro h9 tk9 tx9 F1 N1
            k_steps
            rename Fr _ _ _ _ => F1
            rename News _ _ _ _ => N1
            exact hQN _ _ (compEnd_none F1 N1 o3' (.inr ⟨_, by k_mem, rfl, _, rfl⟩) ⟨rfl, hJ.snoc rfl⟩)
          case doneN =>
            rintro nys hJN
            rw [List.size_toArray, hwy.length] at hJN
            have hw3 : ∀ x ∈ [wordT (sh (src k 0) * c (perm k 2)), wordT (sh (src k 1) * c (perm k 2)), wordT (sh (src k 2) * c (perm k 2))], PyData.strOk x = true := by
              intro x hx
              simp only [List.mem_cons, List.not_mem_nil, or_false] at hx
              rcases hx with rfl | rfl | rfl
              all_goals exact word_ok _
            k_steps
            unfold Stop
            rename News _ _ _ _ => N1
            refine ne_strs (N1 (D11, listOf wys.toArray n11) (by k_mem)).1 (N1 _ (.head _)).1 hwy hwy hw3 (Nat.le_of_ble_eq_true rfl) ?_
            clear hw3
            k_steps
            unfold Stop
            rename Fr _ _ _ _ => F
            refine LCg.ListComp_U (F₀ := F) (by with_unfolding_all rfl) (by decide) (by rfl) (by decide) (by rfl) ?_
            k_steps
            unfold Stop
            rename Fr _ _ _ _ => F
            rename News _ _ _ _ => N
            refine LCg.CompSrc.ledger (by rfl) F N (by k_mem) (by rw [List.size_toArray, hcS.length]; exact Nat.le_of_ble_eq_true rfl) fun g6 => ?_
            clear F N
            refine compU_K (fun i ys => VJ (fun i => sh (src k i) * c (perm k 2)) i ys) ?turnX ?doneX VJ.nil
            case turnX =>
              rintro j ys2 v I2 oI2 C2 oC2 E2 m₂ h tk E' hJ hj hv hC hx F N o3 ne
              have hj3 : j < 3 := by rw [List.size_toArray, hcS.length] at hj; exact hj
              obtain ⟨T9, t9, hT9, rfl⟩ := strs_at hcS (by simpa using hv)
              obtain rfl : T9 = ordP (perm (src k j)) := by
                obtain rfl | rfl | rfl : j = 0 ∨ j = 1 ∨ j = 2 := by omega
                all_goals exact (Option.some.inj hT9).symm
              have hsj : src k j < 6 := src_lt hk hj3
              obtain ⟨tks, hks⟩ := hJS.2 (src k j) hsj
              obtain ⟨tjc, hjc⟩ := hJC.2 (perm k 2) (permI_lt hk (by decide))
              have hp2 : perm k 2 < 3 := permI_lt hk (by decide)
              have hcj : c (perm k 2) ≤ 400 := by rw [hc]; exact lcol_small hz.2 _
              have o3' := o3
              clear o3 hT9 hv
              refine genQ fun QX hQX => ?_
              k_steps
              rename Fr _ _ _ _ => F1
              rename News _ _ _ _ => N1
              exact hQX _ _ (compEnd_none F1 N1 o3' (.inr ⟨_, by k_mem, rfl, _, rfl⟩) ⟨rfl, hJ.snoc (Int.natCast_mul _ _).symm⟩)
            case doneX =>
              rintro zys hJZ
              rw [List.size_toArray, hcS.length] at hJZ
              have hIN := vj_ints hJN
              have hIZ := vj_ints hJZ
              intro D15 h15 tk15 F N o15
              k_steps
              unfold Stop
              rename News _ _ _ _ => N1
              refine ne_ints (N1 (_, LCg.lst nys) (by k_mem)).1 (N1 _ (.head _)).1 hIN hIZ (Nat.le_of_ble_eq_true rfl) ?_
              clear hIZ
              obtain ⟨tk9, hk9⟩ := hJS.2 k hk
              have hwc : wh = c 0 + c 1 + c 2 := by rw [hwh, hc]
              have hst := stays_sum hsh hk
              rw [← hwc] at hst
              k_steps
              · rename (_ : Int) ≠ _ => hbad
                exact (hbad hst).elim
              · rename Fr _ _ _ _ => F1
                rename News _ _ _ _ => N1
                have N9 := cb_drop N1 (show ∀ p ∈ (I, oI) :: (L + 1 + 1 + 1 + 1 + 1 + 1, _) :: (RS ++ TL), p ∈ _ from by rw [hRS]; intro p hp; repeat' first | exact hp | apply List.Mem.tail)
                refine hPK _ _ ⟨_, _, _, _, rfl, F1, N9, fun p hp => (List.mem_cons.mp hp).elim (fun e => by rw [e]; exact hnz) (fun q => hnI p (.tail _ q)), ?_⟩
                rw [hJ3]
                exact ⟨_, _, _, by assumption, ⟨rfl, rfl, trivial⟩, rfl⟩
        case doneK =>
          clear F N3 hr3
          intro h tk m news hJ F N
          rw [hJ3] at hJ
          obtain ⟨oz, vz, tkw, hvz, hm, rfl⟩ := hJ
          replace F := fr_bd F _ hm
          dsimp only [bd] at F
          rw [hRS] at N
          unfold stRS at N
          simp only [List.cons_append, List.nil_append] at N
          have hsz : vs.length ≤ 1000 := by
            rw [hP.1]
            unfold stTbl
            rw [List.length_map, List.length_range]
            decide
          k_steps
          unfold Stop
          rename Fr _ _ _ _ => F1
          rename News _ _ _ _ => N1
          refine offE ?_
          refine c_hallC (x := xb) (dx := db) (l := lb) (vs := vs) (k := kb) (n := nn) F1 N1 (by assumption) (by assumption) rfl (Nat.le_of_ble_eq_true rfl) (Nat.le_of_ble_eq_true rfl) [] ?mm2 (hP.at F1 (cb_drop N1 (by walk_at "to_tail"))) (tbl_clean hcs) a_clean.1 a_clean.2 hsz none_words ?_
          case mm2 =>
            dsimp only [hdObjs]
            walk_at "sub"
          clear F1 N1
          intro h11 tk11 D11 n11 wys hwy F N al11
          cases hwy
          k_steps
          unfold Stop
          rename Fr _ _ _ _ => F1
          rename News _ _ _ _ => N1
          refine offE ?_
          refine c_hallC (x := xb) (dx := db) (l := lb) (vs := vs) (k := kb) (n := nn) F1 N1 (by assumption) (by assumption) rfl (Nat.le_of_ble_eq_true rfl) (Nat.le_of_ble_eq_true rfl) [] ?mm4 (hP.at F1 (cb_drop N1 (by walk_at "to_tail"))) (tbl_clean hcs) abca_clean.1 abca_clean.2 hsz none_words4 ?_
          case mm4 =>
            dsimp only [hdObjs]
            walk_at "sub"
          clear F1 N1
          intro h12 tk12 D12 n12 wys2 hwy2 F N al12
          cases hwy2
          k_steps
          rename Fr _ _ _ _ => F9
          rename News _ _ _ _ => N9
          refine hR _ _ (stays_of hs hn F9.keep fun p hp => N9 p ?_)
          have hTM : ∀ q ∈ LM, q ∈ TL := hTL.ok
          rw [hLM] at hTM
          rcases List.mem_cons.mp hp with rfl | hp
          · have e := hTM _ (.head _)
            repeat' first | exact e | apply List.Mem.tail
          rcases List.mem_cons.mp hp with rfl | hp
          · k_mem
          · have e := hTM _ (.tail _ hp)
            repeat' first | exact e | apply List.Mem.tail
theorem c_staysC {w : World} {loose : List PySem.Str} {mean : ExcName → Option Value} {mg mb : PySem.Str → Option Value} {s : Shared} {h₀ : Heap} {L : Addr} {m : PySem.Str → Option Value} {news : List (Addr × Obj)} {A' : Around} (F : Fr h₀ L s.heap m) (N : News h₀ L s.heap news) (X : (Mine.frag.heap_1 w.params).In h₀) (T : Top Mine.view loose mean mg mb h₀) (hA : A'.handled = none) (hAd : A'.depth ≤ 300 + 20 * 3) (hAu : A'.units ≤ 1000 * 3) {lt lo D : Addr} {o : Obj} {x : Nat → Nat} {u ou : Nat → Tok} {n no : Nat} {r : Nat → WsT} {LN : List (Addr × Obj)} {z : Nat} {tz : Tok} {Q : Value → Shared → Prop}
  (hL : LinesAt PySem.Challenge.rw_ta0081_03.row.prog w D o x r LN) (hz : 1 ≤ z ∧ z ≤ 4)
  (hm1 : (lt, listOf #[.str (leadT (x 0)) (u 0), .str (leadT (x 1)) (u 1), .str (leadT (x 2)) (u 2)] n) ∈ news) (hm2 : (lo, listOf (ordVs ou).toArray no) ∈ news) (hm3 : ∀ p ∈ LN, p ∈ news)
  (hQ : ∀ h' tk, Fr h₀ L h' m → News h₀ L h' news → Q (.bool true) { s with heap := h', toks := tk }) :
  wpAny (model PySem.Challenge.rw_ta0081_03.row.prog w) A' (call (.ref 297) [.ref lt, .ref D, .ref lo, .int (z : Int) tz]) Q NoE s :=
  lift_A (A := AC 3) (wpAny_call (c_stays w loose mean mg mb s h₀ X T F.keep lt lo D o x u ou n no r LN z tz _ hL hz (fun q hq => (by
    have hq' : q ∈ news := by
      rcases List.mem_cons.mp hq with rfl | hq
      · exact hm1
      rcases List.mem_cons.mp hq with rfl | hq
      · exact hm2
      · exact hm3 q hq
    exact ⟨(N q hq').1, (N q hq').2.2⟩)) fun h' tk k => hQ h' tk (fr_stay F k) (news_stay N k))) hA.symm hAd hAu rfl rfl
end STt
section LVt
theorem offLV : True := by w_top off; trivial
structure StopHereV : Prop where
  ok : True
structure StopAsgV : Prop where
  ok : True
local macro_rules | `(tactic| walk_at "sub") => `(tactic| first | exact List.forall_mem_nil _ | (refine' List.forall_mem_cons.mpr ⟨?a, ?b⟩; (case a => k_mem); (case b => walk_at "sub")))
local macro_rules | `(tactic| walk_at "exec For") => `(tactic| refine stop ?_)
local macro_rules | `(tactic| walk_at "exec For Name Call cons nil") => `(tactic| refine stop ?_)
local macro_rules | `(tactic| walk_at "exec For Tuple Tuple") => `(tactic| refine stop ?_)
local macro_rules | `(tactic| walk_at "exec For Tuple Tuple cons nil") => `(tactic| refine stop ?_)
local macro_rules | `(tactic| walk_at "call ref") => `(tactic| refine stop ?_)
local macro_rules | `(tactic| walk_at "exec Assign cons ListComp") => `(tactic| ((have _q : StopAsgV := by assumption); clear _q; refine stop ?_))
local macro_rules | `(tactic| walk_at "eval ListComp") => `(tactic| ((have _q : StopHereV := by assumption); clear _q; refine stop ?_))
local macro_rules | `(tactic| walk_at "CompSrc") => `(tactic| ((have _q : StopHereV := by assumption); clear _q; refine stop ?_))
local macro_rules | `(tactic| walk_at "CompEnd") => `(tactic| ((have _q : StopHereV := by assumption); clear _q; refine stop ?_))
local macro_rules | `(tactic| walk_at "call builtin:sum") => `(tactic| ((have _q : StopHereV := by assumption); clear _q; refine stop ?_))
theorem base_low (k : Nat) : (0 : Int) ≤ [5, 46, 19].getD k 0 := by
  match k with
  | 0 | 1 | 2 => decide
  | k + 3 => exact Int.le_refl 0
theorem base_sum (k : Nat) (ns : List Int) (h : ∀ n ∈ ns, 0 ≤ n) : ∃ x : Nat, ([5, 46, 19] : List Int).getD k 0 + ns.sum = (x : Int) := by
  have e1 := sum_low ns h
  have e2 := base_low k
  exact ⟨(([5, 46, 19] : List Int).getD k 0 + ns.sum).toNat, (Int.toNat_of_nonneg (by omega)).symm⟩
/-- the numbers drawn so far -/
def DJ (i : Nat) (ys : List Value) : Prop := ∃ o : Nat → Nat, VJ o i ys
theorem DJ.snoc {i x : Nat} {ys : List Value} {t : Tok} (h : DJ i ys) : DJ (i + 1) (ys ++ [.int (x : Int) t]) := by
  obtain ⟨o, h1, h2⟩ := h
  refine ⟨fun k => if k = i then x else o k, VJ.snoc (n := (x : Int)) ⟨h1, fun k hk => ?_⟩ ?_⟩
  · obtain ⟨u, hu⟩ := h2 k hk
    exact ⟨u, by dsimp only; rw [if_neg (Nat.ne_of_lt hk)]; exact hu⟩
  · rw [if_pos rfl]
theorem len_sv {α : Type} {l : List α} {n : Nat} (h : l.length = n + 1) : ∃ a r, l = a :: r ∧ r.length = n := by
  cases l with
  | nil => cases h
  | cons a r => exact ⟨a, r, rfl, Nat.succ.inj h⟩
theorem VJ.three {o : Nat → Nat} {ys : List Value} (h : VJ o 3 ys) : ∃ t0 t1 t2, ys = [.int (o 0 : Int) t0, .int (o 1 : Int) t1, .int (o 2 : Int) t2] := by
  obtain ⟨t0, h0⟩ := h.2 0 (by omega)
  obtain ⟨t1, h1⟩ := h.2 1 (by omega)
  obtain ⟨t2, h2⟩ := h.2 2 (by omega)
  have hl := h.1
  obtain ⟨a, r1, rfl, hl1⟩ := len_sv hl
  obtain ⟨b, r2, rfl, hl2⟩ := len_sv hl1
  obtain ⟨c, r3, rfl, hl3⟩ := len_sv hl2
  obtain rfl := List.eq_nil_of_length_eq_zero hl3
  exact ⟨t0, t1, t2, by rw [Option.some.inj h0, Option.some.inj h1, Option.some.inj h2]⟩
/-- the leads told so far -/
def XJ (o : Nat → Nat) (i : Nat) (ys : List Value) : Prop := ∃ u : Nat → Tok, ys = (List.range i).map fun k => .str (leadT (o k)) (u k)
theorem XJ.snoc {o : Nat → Nat} {i : Nat} {ys : List Value} {t : Tok} (h : XJ o i ys) : XJ o (i + 1) (ys ++ [.str (leadT (o i)) t]) := by
  obtain ⟨u, rfl⟩ := h
  refine ⟨fun k => if k = i then t else u k, ?_⟩
  rw [List.range_succ, List.map_append, List.map_cons, List.map_nil]
  dsimp only
  rw [if_pos rfl]
  congr 1
  exact List.map_congr_left fun k hk => by rw [if_neg (Nat.ne_of_lt (List.mem_range.mp hk))]
theorem int_at {o : Nat → Nat} {t0 t1 t2 : Tok} {j : Nat} {v : Value} (hj : j < 3) (h : ([.int (o 0 : Int) t0, .int (o 1 : Int) t1, .int (o 2 : Int) t2] : List Value).toArray[j]? = some v) : ∃ u, v = .int (o j : Int) u := by
  obtain rfl | rfl | rfl : j = 0 ∨ j = 1 ∨ j = 2 := by omega
  all_goals exact ⟨_, (Option.some.inj h).symm⟩
theorem ne_cons {LN l : List (Addr × Obj)} {a : Addr} {o : Obj} (h : ∀ p ∈ LN, ∀ q ∈ (a, o) :: l, p.1 ≠ q.1) : (∀ p ∈ LN, p.1 ≠ a) ∧ (∀ p ∈ LN, ∀ q ∈ l, p.1 ≠ q.1) :=
  ⟨fun p hp => h p hp _ (.head _), fun p hp q hq => h p hp q (.tail _ hq)⟩
theorem swapN {g h : Heap} {L : Addr} {l r : List (Addr × Obj)} (N : News g L h (l ++ r)) : News g L h (r ++ l) := fun p hp => N p (List.mem_append.mpr (List.mem_append.mp hp).symm)
theorem ord_led {g h : Heap} {L l : Addr} {t : Tok} {n : Nat} {r : List (Addr × Obj)} (N : News g L h ((l, listOf #[.str "abc" t, .str "acb" (t + 1), .str "bac" (t + 1 + 1), .str "bca" (t + 1 + 1 + 1), .str "cab" (t + 1 + 1 + 1 + 1), .str "cba" (t + 1 + 1 + 1 + 1 + 1)] n) :: r)) : ∃ ou : Nat → Tok, News g L h ((l, listOf (ordVs ou).toArray n) :: r) :=
  ⟨fun k => t + k, N⟩
theorem size_ok (n : Int) : ∃ z : Nat, 1 + Int.fmod (Int.fdiv n 100) 4 = (z : Int) ∧ 1 ≤ z ∧ z ≤ 4 := by
  have h1 := Int.fmod_nonneg_of_pos (Int.fdiv n 100) (show (0 : Int) < 4 by decide)
  have h2 := Int.fmod_lt_of_pos (Int.fdiv n 100) (show (0 : Int) < 4 by decide)
  exact ⟨(1 + Int.fmod (Int.fdiv n 100) 4).toNat, by omega, by omega, by omega⟩
def cyc (k i : Nat) : Nat := (([[0, 1, 2], [1, 2, 0], [2, 0, 1]] : List (List Nat)).getD k []).getD i 0
def swp (p : Nat → Nat) (i : Nat) : Nat := if i = 0 then p 0 else if i = 1 then p 2 else p 1
theorem cyc_at {t0 t1 t2 : Tok} {k : Nat} {v : Value} (h : ([.str "abc" t0, .str "bca" t1, .str "cab" t2] : List Value)[k]? = some v) : k < 3 ∧ ∃ t, v = .str (ordP (cyc k)) t := by
  match k, h with
  | 0, h => exact ⟨by decide, t0, (Option.some.inj h).symm⟩
  | 1, h => exact ⟨by decide, t1, (Option.some.inj h).symm⟩
  | 2, h => exact ⟨by decide, t2, (Option.some.inj h).symm⟩
  | k + 3, h => cases h
theorem cyc_ok {k : Nat} (h : k < 3) : OrdOk (cyc k) := by
  obtain rfl | rfl | rfl : k = 0 ∨ k = 1 ∨ k = 2 := by omega
  all_goals exact ⟨by decide, by decide, by decide, by decide, by decide, by decide⟩
theorem swp_ok {p : Nat → Nat} (h : OrdOk p) : OrdOk (swp p) := ⟨h.1, h.2.2.1, h.2.1, h.2.2.2.2.2, fun e => h.2.2.2.2.1 e.symm, h.2.2.2.1⟩
/-- the names' cells and what stays behind them -/
def lvJ (c6 c5 c4 : Addr) (RS : List (Addr × Obj)) (_ : Nat) (_ : PySem.Str → Option Value) (news : List (Addr × Obj)) : Prop :=
  ∃ (ox oi oj : Obj) (vx vi vj : Option Value), ox.data = .cell vx ∧ oi.data = .cell vi ∧ oj.data = .cell vj ∧ news = (c6, oj) :: (c5, oi) :: (c4, ox) :: RS
theorem lv_mem {α : Type} {T lo lt ld lb c6 c5 c4 c3 c2 c1 p : α} {r : List α} (h : p ∈ c6 :: c5 :: c4 :: c3 :: T :: r) : p ∈ T :: lo :: lt :: ld :: lb :: c6 :: c5 :: c4 :: c3 :: c2 :: c1 :: r := by
  simp only [List.mem_cons] at h ⊢
  rcases h with h | h | h | h | h | h <;> simp [h]
theorem lv_start {g h : Heap} {L c1 c2 c3 c4 c5 c6 lo lt ld lb T : Addr} {o1 o2 o3 o4 o5 o6 oo ot od ob : Obj} {t0 t1 t2 : Tok} {v4 v5 v6 : Option Value} {LN : List (Addr × Obj)}
    (N : News g L h ((T, tupO [.str "abc" t0, .str "bca" t1, .str "cab" t2]) :: (lo, oo) :: (lt, ot) :: (ld, od) :: (lb, ob) :: (c6, o6) :: (c5, o5) :: (c4, o4) :: (c3, o3) :: (c2, o2) :: (c1, o1) :: LN))
    (h6 : o6.data = .cell v6) (h5 : o5.data = .cell v5) (h4 : o4.data = .cell v4) : ∃ RS J vs, vs = [.str "abc" t0, .str "bca" t1, .str "cab" t2] ∧ RS = (c3, o3) :: (T, tupO vs) :: LN ∧ J = lvJ c6 c5 c4 RS ∧ (∀ m, J 0 m ((c6, o6) :: (c5, o5) :: (c4, o4) :: RS)) ∧ News g L h ((c6, o6) :: (c5, o5) :: (c4, o4) :: RS) :=
  ⟨_, _, _, rfl, rfl, rfl, fun _ => ⟨_, _, _, _, _, _, h4, h5, h6, rfl⟩, fun p hp => N p (lv_mem hp)⟩
theorem cat_ord (p : Nat → Nat) : (⟨#[97 + p 0]⟩ : PySem.Str) ++ ⟨#[97 + p 1]⟩ ++ ⟨#[97 + p 2]⟩ = ordP p := str_of_list rfl
theorem cat_swp (p : Nat → Nat) : (⟨#[97 + p 0]⟩ : PySem.Str) ++ ⟨#[97 + p 2]⟩ ++ ⟨#[97 + p 1]⟩ = ordP (swp p) := str_of_list rfl
theorem lv_more {g h : Heap} {L : Addr} {a b c6 c5 c4 c3 T : Addr × Obj} {LN W tups : List (Addr × Obj)} (N : News g L h (a :: b :: c6 :: c5 :: c4 :: c3 :: T :: (LN ++ tups))) (hW : ∀ q ∈ W, q ∈ LN) :
    News g L h (a :: (tups ++ (b :: c6 :: c5 :: c4 :: c3 :: T :: (W ++ LN)))) := fun p hp => N p (by
  simp only [List.mem_cons, List.mem_append] at hp ⊢
  rcases hp with h | h | h | h | h | h | h | h | h | h
  all_goals first | (simp [h]; done) | (have := hW _ h; simp [this]))
theorem cs_one (x : Nat → Nat) {i : Nat} (hi : i < 3) : csOf (linesX x i) = leadCs (x i) := by
  have e : linesX x i = [x i] := by
    obtain rfl | rfl | rfl : i = 0 ∨ i = 1 ∨ i = 2 := by omega
    all_goals rfl
  rw [e]
  show leadCs (x i) ++ [] = _
  rw [List.append_nil]
/-- the ledger of two leads -/
theorem lv_lines {prog : Program} {w : World} {D : Addr} {o : Obj} {x : Nat → Nat} {r : Nat → WsT} {LN : List (Addr × Obj)} {i j : Nat} (hL : LinesAt prog w D o x r LN) (hi : i < 3) (hj : j < 3) :
    ∀ q ∈ (D, o) :: (wsOf w.params (r i) (leadCs (x i)) ++ wsOf w.params (r j) (leadCs (x j))), q ∈ LN := by
  intro q hq
  rcases List.mem_cons.mp hq with rfl | hq
  · exact hL.1
  rcases List.mem_append.mp hq with hq | hq
  · rw [← cs_one x hi] at hq; exact (hL.2.2 i (by omega)).2 q hq
  · rw [← cs_one x hj] at hq; exact (hL.2.2 j (by omega)).2 q hq
theorem lv_ws {prog : Program} {w : World} {D : Addr} {o : Obj} {x : Nat → Nat} {r : Nat → WsT} {LN : List (Addr × Obj)} {i : Nat} (hL : LinesAt prog w D o x r LN) (hi : i < 3) : WsOk (r i) (leadCs (x i)) := by
  have h := (hL.2.2 i (by omega)).1
  rw [cs_one x hi] at h
  exact h
section
variable {o p sA sB : Nat → Nat}
theorem lv_gt (hsA : sA = fun k => shareN (fun i => lcol (leadCs (o i)) (k + 1)) p) (hsB : sB = fun k => shareN (fun i => lcol (leadCs (o i)) (k + 1)) (swp p)) (k : Nat) :
    (sB k < sA k ↔ lcol (leadCs (o (p 1))) (k + 1) < lcol (leadCs (o (p 2))) (k + 1)) ∧ (sA k < sB k ↔ lcol (leadCs (o (p 2))) (k + 1) < lcol (leadCs (o (p 1))) (k + 1)) ∧ (sA k = sB k ↔ lcol (leadCs (o (p 1))) (k + 1) = lcol (leadCs (o (p 2))) (k + 1)) := by
  rw [hsA, hsB]
  have c1 := lcol_pos (z := k + 1) (Nat.succ_le_succ (Nat.zero_le _)) (o (p 1))
  have c2 := lcol_pos (z := k + 1) (Nat.succ_le_succ (Nat.zero_le _)) (o (p 2))
  exact ⟨share_lt c1 c2, share_lt c2 c1, share_eq c1 c2⟩
theorem in_four {f : Nat → Int} (k : Nat) (h : k < 4) : f k ∈ (List.range 4).map f := List.mem_map.mpr ⟨k, List.mem_range.mpr h, rfl⟩
theorem of_four {f : Nat → Int} {M : Int} (h : M ∈ (List.range 4).map f) : M = f 0 ∨ M = f 1 ∨ M = f 2 ∨ M = f 3 := by
  obtain ⟨k, hk, rfl⟩ := List.mem_map.mp h
  have := List.mem_range.mp hk
  obtain rfl | rfl | rfl | rfl : k = 0 ∨ k = 1 ∨ k = 2 ∨ k = 3 := by omega
  all_goals simp
theorem lv_less {M : Int} (hsA : sA = fun k => shareN (fun i => lcol (leadCs (o i)) (k + 1)) p) (hsB : sB = fun k => shareN (fun i => lcol (leadCs (o i)) (k + 1)) (swp p))
    (h1 : M ∈ (List.range 4).map fun k => (sA k : Int) - (sB k : Int)) (h2 : ∀ a ∈ (List.range 4).map fun k => (sA k : Int) - (sB k : Int), M ≤ a) : lessB (leadCs (o (p 1))) (leadCs (o (p 2))) = decide (0 < M) := by
  have e := fun k => (lv_gt hsA hsB k).1
  rw [(leadQ_at _ _).1, Bool.eq_iff_iff]
  simp only [Bool.and_eq_true, decide_eq_true_eq]
  have m0 := h2 _ (in_four 0 (by decide))
  have m1 := h2 _ (in_four 1 (by decide))
  have m2 := h2 _ (in_four 2 (by decide))
  have m3 := h2 _ (in_four 3 (by decide))
  have hm := of_four h1
  have e0 := e 0
  have e1 := e 1
  have e2 := e 2
  have e3 := e 3
  clear h1 h2 e hsA hsB
  constructor
  · rintro ⟨a0, a1, a2, a3⟩
    have b0 := e0.mpr a0
    have b1 := e1.mpr a1
    have b2 := e2.mpr a2
    have b3 := e3.mpr a3
    rcases hm with rfl | rfl | rfl | rfl <;> omega
  · intro h
    exact ⟨e0.mp (by omega), e1.mp (by omega), e2.mp (by omega), e3.mp (by omega)⟩
theorem lv_more_less {M : Int} (hsA : sA = fun k => shareN (fun i => lcol (leadCs (o i)) (k + 1)) p) (hsB : sB = fun k => shareN (fun i => lcol (leadCs (o i)) (k + 1)) (swp p))
    (h1 : M ∈ (List.range 4).map fun k => (sA k : Int) - (sB k : Int)) (h2 : ∀ a ∈ (List.range 4).map fun k => (sA k : Int) - (sB k : Int), a ≤ M) : lessB (leadCs (o (p 2))) (leadCs (o (p 1))) = decide (M < 0) := by
  have e := fun k => (lv_gt hsA hsB k).2.1
  rw [(leadQ_at _ _).1, Bool.eq_iff_iff]
  simp only [Bool.and_eq_true, decide_eq_true_eq]
  have m0 := h2 _ (in_four 0 (by decide))
  have m1 := h2 _ (in_four 1 (by decide))
  have m2 := h2 _ (in_four 2 (by decide))
  have m3 := h2 _ (in_four 3 (by decide))
  have hm := of_four h1
  have e0 := e 0
  have e1 := e 1
  have e2 := e 2
  have e3 := e 3
  clear h1 h2 e hsA hsB
  constructor
  · rintro ⟨a0, a1, a2, a3⟩
    have b0 := e0.mpr a0
    have b1 := e1.mpr a1
    have b2 := e2.mpr a2
    have b3 := e3.mpr a3
    rcases hm with rfl | rfl | rfl | rfl <;> omega
  · intro h
    exact ⟨e0.mp (by omega), e1.mp (by omega), e2.mp (by omega), e3.mp (by omega)⟩
theorem lv_equal (hsA : sA = fun k => shareN (fun i => lcol (leadCs (o i)) (k + 1)) p) (hsB : sB = fun k => shareN (fun i => lcol (leadCs (o i)) (k + 1)) (swp p)) :
    decide (counts [] (leadCs (o (p 1))) = counts [] (leadCs (o (p 2)))) = decide (((List.range 4).map fun k => (sA k : Int)) = (List.range 4).map fun k => (sB k : Int)) := by
  have e := fun k => (lv_gt hsA hsB k).2.2
  rw [(leadQ_at _ _).2, Bool.eq_iff_iff]
  simp only [Bool.and_eq_true, decide_eq_true_eq]
  rw [← (e 0), ← (e 1), ← (e 2), ← (e 3)]
  have r4 : List.range 4 = [0, 1, 2, 3] := rfl
  rw [r4]
  simp only [List.map_cons, List.map_nil, List.cons.injEq, and_true, Int.ofNat.injEq, Int.natCast_inj]
end
section
variable {prog : Program} {w : World} {A : Around} {s : Shared} {E : Value → Shared → Prop}
theorem eq_ints {l l' : Addr} {n n' : Nat} {vs ws : List Value} {ns ns' : List Int} {Q : Value → Shared → Prop} (h1 : s.heap.get? l = some (listOf vs.toArray n)) (h2 : s.heap.get? l' = some (listOf ws.toArray n'))
    (p1 : IntsAre vs ns) (p2 : IntsAre ws ns') (hu : A.units + 64 < cLine) (h : Q (.bool (decide (ns = ns'))) s) : wpAny (model prog w) A (compareOp .Eq (.ref l) (.ref l')) Q E s := by
  refine eq_dataH (reads_list_at h1 rfl rfl (IntsAre.reads _ p1)) (reads_list_at h2 rfl rfl (IntsAre.reads _ p2)) (ints_shaped ns) (ints_shaped ns') hu ?_
  rw [show PyData.eqv (.list (ns.map PyData.int)) (.list (ns'.map PyData.int)) = decide (ns = ns') from by simp [PyData.eqv, ints_eqv]]
  exact h
end
theorem lv_same {c6 c5 c4 I : Addr} {o6 o5 o4 q6 q5 q4 : Obj} {RS : List (Addr × Obj)} (h : ∀ p ∈ (c6, o6) :: (c5, o5) :: (c4, o4) :: RS, p.1 ≠ I) : ∀ p ∈ (c6, q6) :: (c5, q5) :: (c4, q4) :: RS, p.1 ≠ I := by
  intro p hp
  rcases List.mem_cons.mp hp with rfl | hp
  · exact h (c6, o6) (.head _)
  rcases List.mem_cons.mp hp with rfl | hp
  · exact h (c5, o5) (.tail _ (.head _))
  rcases List.mem_cons.mp hp with rfl | hp
  · exact h (c4, o4) (.tail _ (.tail _ (.head _)))
  · exact h p (.tail _ (.tail _ (.tail _ hp)))
theorem lvJ_mk {c6 c5 c4 : Addr} {RS : List (Addr × Obj)} {i : Nat} {m : PySem.Str → Option Value} {ox oi oj : Obj} {vx vi vj : Option Value} {JJ : Nat → (PySem.Str → Option Value) → List (Addr × Obj) → Prop} (h : JJ = lvJ c6 c5 c4 RS) (qx : ox.data = .cell vx) (qi : oi.data = .cell vi) (qj : oj.data = .cell vj) :
    JJ i m ((c6, oj) :: (c5, oi) :: (c4, ox) :: RS) := by
  rw [h]
  exact ⟨_, _, _, _, _, _, qx, qi, qj, rfl⟩
theorem fold5 {g h : Heap} {L : Addr} {a b c d e : Addr × Obj} {r : List (Addr × Obj)} (N : News g L h (a :: b :: c :: d :: e :: r)) : ∃ R, R = r ∧ News g L h (a :: b :: c :: d :: e :: R) := ⟨r, rfl, N⟩
theorem ij_snoc {f : Nat → Int} {i : Nat} {ys : List Value} {n : Int} {t : Tok} (h : IntsAre ys ((List.range i).map f)) (e : n = f i) : IntsAre (ys ++ [.int n t]) ((List.range (i + 1)).map f) := by
  rw [List.range_succ, List.map_append, e]
  exact h.append (.cons _ _ .nil)
local macro_rules | `(tactic| walk_at "eval Name") => `(tactic| ((with_reducible show wpAny _ _ (eval (Expr.Name _ _) (compEnvC _ _ _ _)) _ _ _); k_here; k_dflt (refine' LCgL.ld_own ?N ?m ?c ?x ?_; (case N => k_asm); (case m => k_mem); (case c => with_reducible assumption); (case x => with_reducible assumption); k_whole)))
local macro_rules | `(tactic| walk_at "subscriptTail") => `(tactic| (k_here; (with_reducible show wpAny _ _ (subscriptTail _ _ (Value.ref _) (Value.str _ _)) _ _ _); k_dflt (refine' kda_item (knd := PySem.strKind _ _) ?N ?m ?d (strKind_is _ _ _ _) ?l ?_; (case N => k_asm); (case m => k_mem); (case d => k_asm); (case l => assumption); k_whole)))
local macro_rules | `(tactic| walk_at "call builtin:min") => `(tactic| refine stop ?_)
local macro_rules | `(tactic| walk_at "call builtin:max") => `(tactic| refine stop ?_)
local macro_rules | `(tactic| walk_at "SrcLP") => `(tactic| refine stop ?_)
local macro_rules | `(tactic| walk_at "compareOp Eq ref ref") => `(tactic| refine stop ?_)
local macro_rules | `(tactic| k_all) => `(tactic| assumption)
local macro_rules | `(tactic| walk_at "assignInOrder") => `(tactic| first | refine assignInOrder_cons ?_ | refine assignInOrder_nil ?_)
local macro_rules | `(tactic| walk_at "assign Tuple") => `(tactic| (k_here; (with_reducible rename Fr _ _ _ _ => F'); (with_reducible rename News _ _ _ _ => N'); refine assign_str3 rfl F' N' rfl (by assumption) rfl rfl ?_; clear F' N'; intro h' tk' t0' t1' t2' F' N'))
local macro_rules | `(tactic| k_qdec) => `(tactic| decide +kernel)
theorem final : PySem.Challenge.rw_ta0081_03.Holds := hd (by
  k_go0
  have hS : StopHereV := ⟨trivial⟩
  have hA : StopAsgV := ⟨trivial⟩
  refine genQE fun QF EF hQF hEF => ?_
  k_steps
  unfold Stop
  rename Fr _ _ _ _ => F
  refine LCg.Assign_ListComp_U (F₀ := F) (by rfl) (by with_unfolding_all rfl) (by with_unfolding_all rfl) (by decide) (by rfl) (by decide) (by rfl) (by rfl) (by rfl) ?_
  k_steps
  unfold Stop
  rename Fr _ _ _ _ => F
  rename News _ _ _ _ => N
  rename IsRange _ _ _ _ _ _ _ _ => hr
  refine LCg.CompSrc.range (n := 3) (by rfl) F N hr (by decide) (by decide) (by decide) fun g => ?_
  clear F N
  refine compU_K (fun i ys => DJ i ys) ?turnV ?doneV ⟨fun _ => 0, VJ.nil⟩
  case turnV =>
    rintro i ys v I oI C oC D m₂ h tk E' hJ hi hv hC hx F N o3 ne
    obtain ⟨u, rfl⟩ := hv
    have o3' := o3
    simp only [List.cons_append, List.nil_append, LCg.Off3] at N o3
    refine genQ fun QV hQV => ?_
    k_steps
    unfold Stop
    rename IntsAre _ _ => hI
    refine LCg.ListComp_U (F₀ := F) (by with_unfolding_all rfl) (by decide) (by rfl) (by decide) (by rfl) ?_
    k_steps
    unfold Stop
    rename Fr _ _ _ _ => F
    rename News _ _ _ _ => N
    refine LCg.CompSrc.ledger (by rfl) F N (by k_mem) ?sz fun g => ?_
    case sz =>
      refine Nat.le_trans (slicePick_size_le _ _ _ _) ?_
      rw [List.size_toArray, hI.length, sizeLine_eq]
      omega
    clear F N
    refine compU_K (fun i ys => SJ ys) ?turnI ?doneI ⟨[], .nil, fun _ h => nomatch h⟩
    case turnI =>
      rintro i2 ys2 v I2 oI2 C2 oC2 D2 m3 h tk E2 hJ2 hi2 hv2 hC2 hx2 F N p3 ne2
      obtain ⟨z, t, rfl⟩ := slice_in hI hv2
      have p3' := p3
      simp only [List.cons_append, List.nil_append, LCg.Off3] at N p3
      refine genQ fun QI hQI => ?_
      k_steps
      rename Fr _ _ _ _ => F1
      rename News _ _ _ _ => N1
      refine hQI _ _ (compEnd_none F1 N1 p3' (.inr ⟨_, by k_mem, rfl, _, rfl⟩) ⟨rfl, ?_⟩)
      obtain ⟨ns, h1, h2⟩ := hJ2
      refine ⟨ns ++ [_], h1.append (.cons _ _ .nil), fun n hn => ?_⟩
      rcases List.mem_append.mp hn with hn | hn
      · exact h2 n hn
      · rw [List.mem_singleton.mp hn]
        exact Int.fmod_nonneg_of_pos _ (by decide)
    case doneI =>
      rintro ys2 ⟨ns, h1, h2⟩
      k_steps
      unfold Stop
      rename Fr _ _ _ _ => F
      rename News _ _ _ _ => N
      refine offE (sumK rfl F N (News.isList N (by k_mem)) h1 ?_)
      clear F N
      intro h1 tk1 t1 F N
      obtain ⟨x, hx⟩ := base_sum (0 + (i : Int)).toNat ns h2
      k_steps
      rw [hx]
      rename Fr _ _ _ _ => F1
      rename News _ _ _ _ => N1
      exact hQV _ _ (compEnd_none F1 (cb_drop N1 (by walk_at "sub")) o3' trivial ⟨rfl, hJ.snoc⟩)
  case doneV =>
    rintro ys hJ
    obtain ⟨o, hJ⟩ := hJ
    obtain ⟨v0, v1, v2, rfl⟩ := hJ.three
    clear hJ
    k_steps
    unfold Stop
    rename Fr _ _ _ _ => F
    refine LCg.Assign_ListComp_U (F₀ := F) (by rfl) (by with_unfolding_all rfl) (by with_unfolding_all rfl) (by decide) (by rfl) (by decide) (by rfl) (by rfl) (by rfl) ?_
    k_steps
    unfold Stop
    rename Fr _ _ _ _ => F
    rename News _ _ _ _ => N
    refine LCg.CompSrc.ledger (by rfl) F N (by k_mem) (Nat.le_of_ble_eq_true rfl) fun g2 => ?_
    clear F N
    refine compU_K (fun i ys => XJ o i ys) ?turnT ?doneT ⟨fun _ => 0, rfl⟩
    case turnT =>
      rintro j ys v I oI C oC D m₂ h tk E' hJ hj hv hC hx F N o3 ne
      have hj3 : j < 3 := hj
      obtain ⟨u, rfl⟩ := int_at hj3 hv
      have o3' := o3
      clear o3
      refine genQ fun QT hQT => ?_
      k_steps
      unfold Stop
      rename Fr _ _ _ _ => F
      rename News _ _ _ _ => N
      refine offE ?_
      k_dflt (refine' c_leadC F N ?k3 ?k4 ?a1 ?a2 ?a3 ?_; (case k3 => k_asm); (case k4 => k_asm); (case a1 => exact rfl); (case a2 => exact Nat.le_of_ble_eq_true rfl); (case a3 => exact Nat.le_of_ble_eq_true rfl); k_whole)
      clear F N
      intro h2 tk2 tx2 F N
      k_steps
      rename Fr _ _ _ _ => F1
      rename News _ _ _ _ => N1
      exact hQT _ _ (compEnd_none F1 N1 o3' (.inr ⟨_, by k_mem, rfl, _, rfl⟩) ⟨rfl, hJ.snoc⟩)
    case doneT =>
      rintro ys ⟨ux, hys⟩
      obtain rfl : ys = [.str (leadT (o 0)) (ux 0), .str (leadT (o 1)) (ux 1), .str (leadT (o 2)) (ux 2)] := hys
      k_steps
      unfold Stop
      rename Fr _ _ _ _ => F
      rename News _ _ _ _ => N
      refine offE ?_
      k_dflt (refine' c_linesC F N ?k3 ?k4 ?a1 ?a2 ?a3 ?m ?_; (case k3 => k_asm); (case k4 => k_asm); (case a1 => exact rfl); (case a2 => exact Nat.le_of_ble_eq_true rfl); (case a3 => exact Nat.le_of_ble_eq_true rfl); (case m => k_mem); k_whole)
      clear F N
      intro h3 tk3 D oD r LN hL F N hLne
      have N2 := swapN N
      clear N
      simp only [List.cons_append, List.nil_append] at N2
      obtain ⟨e1, hLne⟩ := ne_cons hLne
      obtain ⟨e2, hLne⟩ := ne_cons hLne
      obtain ⟨e3, hLne⟩ := ne_cons hLne
      obtain ⟨e4, hLne⟩ := ne_cons hLne
      obtain ⟨e5, hLne⟩ := ne_cons hLne
      obtain ⟨e6, hLne⟩ := ne_cons hLne
      obtain ⟨e7, hLne⟩ := ne_cons hLne
      obtain ⟨e8, hLne⟩ := ne_cons hLne
      obtain ⟨e9, hLne⟩ := ne_cons hLne
      clear hLne
      k_steps
      unfold Stop
      rename Fr _ _ _ _ => F
      rename News _ _ _ _ => N
      obtain ⟨ou, NO⟩ := ord_led N
      clear N
      refine offE (sumK rfl F NO (News.isList NO (by k_mem)) (.cons _ _ (.cons _ _ (.cons _ _ .nil))) ?_)
      clear F NO
      intro h4 tk4 t4 F N
      k_steps
      unfold Stop
      rename Fr _ _ _ _ => F
      rename News _ _ _ _ => N
      obtain ⟨z, hz, hzr⟩ := size_ok [(o 0 : Int), (o 1 : Int), (o 2 : Int)].sum
      rw [hz]
      refine offE ?_
      k_dflt (refine' c_staysC F N ?k3 ?k4 ?a1 ?a2 ?a3 hL hzr ?m1 ?m2 ?m3 ?_; (case k3 => k_asm); (case k4 => k_asm); (case a1 => exact rfl); (case a2 => exact Nat.le_of_ble_eq_true rfl); (case a3 => exact Nat.le_of_ble_eq_true rfl); (case m1 => k_mem); (case m2 => k_mem); (case m3 => (intro q hq; repeat' first | exact hq | apply List.Mem.tail)); k_whole)
      clear F N hz hzr
      intro h5 tk5 F N
      k_steps
      unfold Stop
      rename Fr _ _ _ _ => F
      refine offE (For_led ?_ (fun _ => rfl))
      k_steps
      rename Fr _ _ _ _ => F
      rename News _ _ _ _ => N
      rename (Obj.data _ = Data.cell (some (Value.ref D))) => hlc
      obtain ⟨RS, JJ, vs, hvs, hRS, hJJ, hJ0, NJ⟩ := lv_start N (by assumption) (by assumption) (by assumption)
      clear N
      refine' for_tup (vs := vs) (J := JJ) (Jx := JJ 3) ?hl rfl F NJ ?hkl (hJ0 _) ?turnL ?jx ?doneL
      case hl =>
        rw [hRS]
        exact .tail _ (.tail _ (.tail _ (.tail _ (.head _))))
      case hkl =>
        intro i m news hJ
        rw [hJJ] at hJ
        obtain ⟨ox, oi, oj, vx, vi, vj, q1, q2, q3, rfl⟩ := hJ
        rw [hRS]
        exact .tail _ (.tail _ (.tail _ (.tail _ (.head _))))
      case jx => exact fun m news h => by rw [hvs] at h; exact h
      case turnL =>
        clear F NJ hJ0
        intro k v m news h tk I oI hv hJ hnI F N
        rw [hvs] at hv
        rw [hJJ] at hJ
        obtain ⟨hk, tv, rfl⟩ := cyc_at hv
        obtain ⟨ox, oi, oj, vx, vi, vj, qx, qi, qj, rfl⟩ := hJ
        clear hv
        rw [hRS] at N
        have hn6 : @Ne Nat _ I := hnI _ (.head _)
        have hn5 : @Ne Nat _ I := hnI _ (.tail _ (.head _))
        have hn4 : @Ne Nat _ I := hnI _ (.tail _ (.tail _ (.head _)))
        dsimp only at hn6 hn5 hn4
        obtain ⟨p, hp⟩ : ∃ p, p = cyc k := ⟨_, rfl⟩
        have hpo := cyc_ok hk
        rw [← hp] at hpo
        rw [← hp]
        clear hp
        have hpl : 97 + p 0 < 128 ∧ 97 + p 1 < 128 ∧ 97 + p 2 < 128 := ⟨by have := hpo.1; omega, by have := hpo.2.1; omega, by have := hpo.2.2.1; omega⟩
        refine genF fun PL hPL => ?_
        (try dsimp only)
        k_steps
        unfold Stop
        rename Fr _ _ _ _ => F
        refine LCg.Assign_ListComp_U (F₀ := F) (by rfl) (by with_unfolding_all rfl) (by with_unfolding_all rfl) (by decide) (by rfl) (by decide) (by rfl) (by rfl) (by rfl) ?_
        k_steps
        unfold Stop
        rename Fr _ _ _ _ => F
        rename News _ _ _ _ => N
        rename IsRange _ _ _ _ _ _ _ _ => hr2
        refine LCg.CompSrc.range (n := 4) (by rfl) F N hr2 (by decide) (by decide) (by decide) fun g3 => ?_
        clear F N hr2
        obtain ⟨sA, hsA⟩ : ∃ sA : Nat → Nat, sA = fun k => shareN (fun i => lcol (leadCs (o i)) (k + 1)) p := ⟨_, rfl⟩
        obtain ⟨sB, hsB⟩ : ∃ sB : Nat → Nat, sB = fun k => shareN (fun i => lcol (leadCs (o i)) (k + 1)) (swp p) := ⟨_, rfl⟩
        refine compU_B (fun i ys tups => TupJ (fun k t u => tupO [.int (sA k : Int) t, .int (sB k : Int) u]) i ys tups) ?turnP ?doneP TupJ.nil
        case turnP =>
          rintro i ys tups v I2 oI2 C oC D2 m₂ h tk E' hJ hi hv hC hx F N o3 ne
          obtain ⟨u, rfl⟩ := hv
          have o3' := o3
          clear o3
          simp only [List.cons_append, List.nil_append] at N
          rw [show (1 : Int) + (i : Int) = ((i + 1 : Nat) : Int) by omega] at hx
          refine genQ fun QP hQP => ?_
          k_steps
          unfold Stop
          rename Fr _ _ _ _ => F1
          rename News _ _ _ _ => N1
          rw [cat_ord]
          refine offE ?_
          k_dflt (refine' c_shareC F1 N1 ?k3 ?k4 ?a1 ?a2 ?a3 ?m hL hpo ⟨Nat.succ_le_succ (Nat.zero_le _), hi⟩ ?_; (case k3 => k_asm); (case k4 => k_asm); (case a1 => exact rfl); (case a2 => exact Nat.le_of_ble_eq_true rfl); (case a3 => exact Nat.le_of_ble_eq_true rfl); (case m => (intro q hq; repeat' first | exact List.mem_append_left _ hq | apply List.Mem.tail)); k_whole)
          clear F1 N1
          intro h8 tk8 tx8 F N
          k_steps
          unfold Stop
          rename Fr _ _ _ _ => F1
          rename News _ _ _ _ => N1
          rw [cat_swp]
          refine offE ?_
          k_dflt (refine' c_shareC F1 N1 ?k3 ?k4 ?a1 ?a2 ?a3 ?m hL (swp_ok hpo) ⟨Nat.succ_le_succ (Nat.zero_le _), hi⟩ ?_; (case k3 => k_asm); (case k4 => k_asm); (case a1 => exact rfl); (case a2 => exact Nat.le_of_ble_eq_true rfl); (case a3 => exact Nat.le_of_ble_eq_true rfl); (case m => (intro q hq; repeat' first | exact List.mem_append_left _ hq | apply List.Mem.tail)); k_whole)
          clear F1 N1
          intro h9 tk9 tx9 F N
          k_steps
          rename Fr _ _ _ _ => F1
          rename News _ _ _ _ => N1
          rename _ ∧ _ => l1'
          exact hQP _ _ (compEnd_one F1 N1 o3' l1'.1 l1'.2.1 l1'.2.2.1 trivial ⟨tups ++ [_], by simp only [List.cons_append, List.append_assoc, List.nil_append]; rfl, hJ.snoc (i := i) (by rw [hsA, hsB])⟩)
        case doneP =>
          rintro ys tups hJ
          obtain ⟨q, t', u', rfl, rfl⟩ := hJ.four
          clear hJ
          intro D3 h10 tk10 F N3 o13
          have N4 := lv_more N3 (lv_lines hL hpo.2.1 hpo.2.2.1)
          clear N3 o13
          dsimp only [wsOf, wsObjs, List.cons_append, List.nil_append] at N4
          have hdo := hL.2.1
          have hv1 := line_one r hpo.2.1
          have hv2 := line_one r hpo.2.2.1
          k_steps
          unfold Stop
          rename Fr _ _ _ _ => F1
          rename News _ _ _ _ => N1
          refine offE ?_
          k_dflt (refine' c_lessC F1 N1 ?k3 ?k4 ?a1 ?a2 ?a3 ?m (lv_ws hL hpo.2.1) (lv_ws hL hpo.2.2.1) ?_; (case k3 => k_asm); (case k4 => k_asm); (case a1 => exact rfl); (case a2 => exact Nat.le_of_ble_eq_true rfl); (case a3 => exact Nat.le_of_ble_eq_true rfl); (case m => (dsimp only [wsOf, wsObjs, List.cons_append, List.nil_append]; walk_at "sub")); k_whole)
          clear F1 N1
          intro h11 tk11 F N
          k_steps
          unfold Stop
          rename Fr _ _ _ _ => F
          rename News _ _ _ _ => N
          obtain ⟨RT0, hRT0, NF0⟩ := fold5 N
          clear N
          refine LCp.ListComp_P (F₀ := F) (by with_unfolding_all rfl) (by decide) (by rfl) (by decide) (by rfl) (by rfl) (by decide) ?_
          k_steps
          unfold Stop
          rename Fr _ _ _ _ => F
          rename News _ _ _ _ => N
          refine LCp.SrcLP.ledger (by rfl) F N (by k_mem) (Nat.le_of_ble_eq_true rfl) fun g4 => ?_
          refine compP_K (fun i v₁ v₂ => ∃ t1 t2, v₁ = .int (sA i : Int) t1 ∧ v₂ = .int (sB i : Int) t2) (fun i ys => IntsAre ys ((List.range i).map fun k => (sA k : Int) - (sB k : Int))) ?src ?turnM ?doneM 4 0 [] (Nat.zero_add _) .nil
          case src =>
            intro i w hi hv
            obtain rfl | rfl | rfl | rfl : i = 0 ∨ i = 1 ∨ i = 2 ∨ i = 3 := by omega
            all_goals exact ⟨_, _, _, _, _, (Option.some.inj hv).symm, by k_mem, rfl, rfl, _, _, rfl, rfl⟩
          case turnM =>
            clear F N
            rintro i ys v₁ v₂ I2 oI2 C2 oC2 D2 m2 h tk E' hJ hi ⟨t1, t2, rfl, rfl⟩ hC hx hx2 F N o3 ne
            have o3' := o3
            clear o3
            refine genQ fun QM hQM => ?_
            k_steps
            rename Fr _ _ _ _ => F1
            rename News _ _ _ _ => N1
            exact hQM _ _ (compEnd_none F1 N1 o3' (.inr ⟨_, by k_mem, rfl, _, rfl⟩) ⟨rfl, ij_snoc hJ rfl⟩)
          case doneM =>
            clear F N
            rintro zs hZ
            k_steps
            unfold Stop
            rename Fr _ _ _ _ => F
            rename News _ _ _ _ => N
            refine offE (kso_min F N (News.isList N (by k_mem)) hZ (Nat.le_of_ble_eq_true rfl) rfl ?_)
            clear F N
            intro h12 M tM tk12 F N hM1 hM2
            rw [hRT0] at N
            clear hRT0
            have hle := lv_less hsA hsB hM1 hM2
            clear hM1 hM2
            k_steps
            · rename (_ != _) = true => hb
              exact absurd hle (bne_iff_ne.mp hb)
            clear hle
            unfold Stop
            rename Fr _ _ _ _ => F1
            rename News _ _ _ _ => N1
            refine offE ?_
            k_dflt (refine' c_lessC F1 N1 ?k3 ?k4 ?a1 ?a2 ?a3 ?m (lv_ws hL hpo.2.2.1) (lv_ws hL hpo.2.1) ?_; (case k3 => k_asm); (case k4 => k_asm); (case a1 => exact rfl); (case a2 => exact Nat.le_of_ble_eq_true rfl); (case a3 => exact Nat.le_of_ble_eq_true rfl); (case m => (dsimp only [wsOf, wsObjs, List.cons_append, List.nil_append]; walk_at "sub")); k_whole)
            clear F1 N1
            intro h13 tk13 F N1
            have N := drop1 N1
            clear N1
            k_steps
            unfold Stop
            rename Fr _ _ _ _ => F
            rename News _ _ _ _ => N
            obtain ⟨RT1, hRT1, NF1⟩ := fold5 N
            clear N
            refine LCp.ListComp_P (F₀ := F) (by with_unfolding_all rfl) (by decide) (by rfl) (by decide) (by rfl) (by rfl) (by decide) ?_
            k_steps
            unfold Stop
            rename Fr _ _ _ _ => F
            rename News _ _ _ _ => N
            refine LCp.SrcLP.ledger (by rfl) F N (by k_mem) (Nat.le_of_ble_eq_true rfl) fun g2 => ?_
            refine compP_K (fun i v₁ v₂ => ∃ t1 t2, v₁ = .int (sA i : Int) t1 ∧ v₂ = .int (sB i : Int) t2) (fun i ys => IntsAre ys ((List.range i).map fun k => (sA k : Int) - (sB k : Int))) ?src2 ?turnM2 ?doneM2 4 0 [] (Nat.zero_add _) .nil
            case src2 =>
              intro i w hi hv
              obtain rfl | rfl | rfl | rfl : i = 0 ∨ i = 1 ∨ i = 2 ∨ i = 3 := by omega
              all_goals exact ⟨_, _, _, _, _, (Option.some.inj hv).symm, by k_mem, rfl, rfl, _, _, rfl, rfl⟩
            case turnM2 =>
              clear F N
              rintro i ys v₁ v₂ I2 oI2 C2 oC2 D2 m2 h tk E' hJ hi ⟨t1, t2, rfl, rfl⟩ hC hx hx2 F N o3 ne
              have o3' := o3
              clear o3
              refine genQ fun QM2 hQM2 => ?_
              k_steps
              rename Fr _ _ _ _ => F1
              rename News _ _ _ _ => N1
              exact hQM2 _ _ (compEnd_none F1 N1 o3' (.inr ⟨_, by k_mem, rfl, _, rfl⟩) ⟨rfl, ij_snoc hJ rfl⟩)
            case doneM2 =>
              clear F N
              rintro zs2 hZ2
              k_steps
              unfold Stop
              rename Fr _ _ _ _ => F
              rename News _ _ _ _ => N
              refine offE (kso_max F N (News.isList N (by k_mem)) hZ2 (Nat.le_of_ble_eq_true rfl) rfl ?_)
              clear F N
              intro h14 M2 tM2 tk14 F N hM1 hM2
              rw [hRT1] at N
              clear hRT1
              have hle := lv_more_less hsA hsB hM1 hM2
              clear hM1 hM2
              k_steps
              · rename (_ != _) = true => hb
                exact absurd hle (bne_iff_ne.mp hb)
              clear hle
              unfold Stop
              rename Fr _ _ _ _ => F1
              rename News _ _ _ _ => N1
              refine offE ?_
              k_dflt (refine' c_equalC F1 N1 ?k3 ?k4 ?a1 ?a2 ?a3 ?m (lv_ws hL hpo.2.1) (lv_ws hL hpo.2.2.1) ?_; (case k3 => k_asm); (case k4 => k_asm); (case a1 => exact rfl); (case a2 => exact Nat.le_of_ble_eq_true rfl); (case a3 => exact Nat.le_of_ble_eq_true rfl); (case m => (dsimp only [wsOf, wsObjs, List.cons_append, List.nil_append]; walk_at "sub")); k_whole)
              clear F1 N1
              intro h15 tk15 F N1
              have N := drop1 N1
              clear N1
              k_steps
              unfold Stop
              rename Fr _ _ _ _ => F
              rename News _ _ _ _ => N
              obtain ⟨RT2, hRT2, NF2⟩ := fold5 N
              clear N
              refine LCp.ListComp_P (F₀ := F) (by with_unfolding_all rfl) (by decide) (by rfl) (by decide) (by rfl) (by rfl) (by decide) ?_
              k_steps
              unfold Stop
              rename Fr _ _ _ _ => F
              rename News _ _ _ _ => N
              refine LCp.SrcLP.ledger (by rfl) F N (by k_mem) (Nat.le_of_ble_eq_true rfl) fun g3 => ?_
              refine compP_K (fun i v₁ v₂ => ∃ t1 t2, v₁ = .int (sA i : Int) t1 ∧ v₂ = .int (sB i : Int) t2) (fun i ys => IntsAre ys ((List.range i).map fun k => (sA k : Int))) ?src3 ?turnM3 ?doneM3 4 0 [] (Nat.zero_add _) .nil
              case src3 =>
                intro i w hi hv
                obtain rfl | rfl | rfl | rfl : i = 0 ∨ i = 1 ∨ i = 2 ∨ i = 3 := by omega
                all_goals exact ⟨_, _, _, _, _, (Option.some.inj hv).symm, by k_mem, rfl, rfl, _, _, rfl, rfl⟩
              case turnM3 =>
                clear F N
                rintro i ys v₁ v₂ I2 oI2 C2 oC2 D2 m2 h tk E' hJ hi ⟨t1, t2, rfl, rfl⟩ hC hx hx2 F N o3 ne
                have o3' := o3
                clear o3
                refine genQ fun QM3 hQM3 => ?_
                k_steps
                rename Fr _ _ _ _ => F1
                rename News _ _ _ _ => N1
                exact hQM3 _ _ (compEnd_none F1 N1 o3' (.inr ⟨_, by k_mem, rfl, _, rfl⟩) ⟨rfl, ij_snoc hJ rfl⟩)
              case doneM3 =>
                clear F N
                rintro zs3 hZ3
                k_steps
                unfold Stop
                rename Fr _ _ _ _ => F
                rename News _ _ _ _ => N
                refine LCp.ListComp_P (F₀ := F) (by with_unfolding_all rfl) (by decide) (by rfl) (by decide) (by rfl) (by rfl) (by decide) ?_
                k_steps
                unfold Stop
                rename Fr _ _ _ _ => F
                rename News _ _ _ _ => N
                refine LCp.SrcLP.ledger (by rfl) F N (by k_mem) (Nat.le_of_ble_eq_true rfl) fun g4 => ?_
                refine compP_K (fun i v₁ v₂ => ∃ t1 t2, v₁ = .int (sA i : Int) t1 ∧ v₂ = .int (sB i : Int) t2) (fun i ys => IntsAre ys ((List.range i).map fun k => (sB k : Int))) ?src4 ?turnM4 ?doneM4 4 0 [] (Nat.zero_add _) .nil
                case src4 =>
                  intro i w hi hv
                  obtain rfl | rfl | rfl | rfl : i = 0 ∨ i = 1 ∨ i = 2 ∨ i = 3 := by omega
                  all_goals exact ⟨_, _, _, _, _, (Option.some.inj hv).symm, by k_mem, rfl, rfl, _, _, rfl, rfl⟩
                case turnM4 =>
                  clear F N
                  rintro i ys v₁ v₂ I2 oI2 C2 oC2 D2 m2 h tk E' hJ hi ⟨t1, t2, rfl, rfl⟩ hC hx hx2 F N o3 ne
                  have o3' := o3
                  clear o3
                  refine genQ fun QM4 hQM4 => ?_
                  k_steps
                  rename Fr _ _ _ _ => F1
                  rename News _ _ _ _ => N1
                  exact hQM4 _ _ (compEnd_none F1 N1 o3' (.inr ⟨_, by k_mem, rfl, _, rfl⟩) ⟨rfl, ij_snoc hJ rfl⟩)
                case doneM4 =>
                  clear F N
                  rintro zs4 hZ4
                  k_steps
                  unfold Stop
                  rename Fr _ _ _ _ => F1
                  rename News _ _ _ _ => N1
                  refine eq_ints (N1 _ (.tail _ (.head _))).1 (N1 _ (.head _)).1 hZ3 hZ4 (Nat.le_of_ble_eq_true rfl) ?_
                  have hle := lv_equal hsA hsB
                  k_steps
                  · rename (_ != _) = true => hb
                    exact absurd hle (bne_iff_ne.mp hb)
                  rename Fr _ _ _ _ => F2
                  rename News _ _ _ _ => N2
                  rw [hRT2] at N2
                  rename (Obj.data _ = Data.cell (some (Value.str ⟨#[97 + p 0]⟩ _))) => qx'
                  rename (Obj.data _ = Data.cell (some (Value.str ⟨#[97 + p 1]⟩ _))) => qi'
                  rename (Obj.data _ = Data.cell (some (Value.str ⟨#[97 + p 2]⟩ _))) => qj'
                  exact hPL _ _ ⟨_, _, _, _, rfl, F2, cb_drop N2 (by rw [hRS]; intro p hp; (iterate 6 (rcases List.mem_cons.mp hp with rfl | hp; · k_mem)); repeat' first | exact hp | apply List.Mem.tail), lv_same hnI, lvJ_mk hJJ qx' qi' qj'⟩
      case doneL =>
        clear F NJ hJ0
        intro h tk m news hJ F N
        rw [hJJ] at hJ
        obtain ⟨ox, oi, oj, vx, vi, vj, qx, qi, qj, rfl⟩ := hJ
        k_steps
        refine hQF _ _ ?_
        k_steps)
end LVt
end Mine
theorem PySem.Challenge.cw_ta0081_03_holds : PySem.Challenge.rw_ta0081_03.Holds := by
  exact Mine.final
