import PyProof.Rows.All
import Wide.All
import OpenK.AllK
import Wide.FinOn
import PySem.Challenge.RW_ta0081_01
set_option linter.all false
open PySem PySem.W PyProof.Rows
set_option Elab.async false
set_option maxRecDepth 100000
set_option maxHeartbeats 8000000
namespace Mine
def pick (l : List Stmt) (ks : List Nat) : List Stmt := ks.filterMap fun k => l[k]?
def viewOf (p : Program) (ks : List Nat) : Program := { p with main := { p.main with body := pick p.main.body ks } }
def view : Program := viewOf PySem.Challenge.rw_ta0081_01.row.prog [0, 1, 3, 5, 7, 8, 9, 11, 12, 13]
theorem viewEq : view = viewOf PySem.Challenge.rw_ta0081_01.row.prog [0, 1, 3, 5, 7, 8, 9, 11, 12, 13] := rfl
def loose : List PySem.Str := [PySem.Str.ofString "Whitespace", PySem.Str.ofString "_name_disallowed_re", PySem.Str.ofString "_value_disallowed_re"]
theorem look : PySem.Challenge.rw_ta0081_01.row.prog.absent.isEmpty = true := by k_qdec
theorem ofSplit {p q : Program} {loose : List PySem.Str} {Xt : Shared → Bool} {α : Type} {Yf : Shared → α} {Ya : World → α} {N : Nat} {g0 : Bool} (row : String)
    (h1 : ∀ w : World, (fencedOpening treeTable p w N).map (fun s₀ => (topFrom treeTable p (w.withFollow row false) N s₀).map (fun s => (openSeen q loose (importedModules p.main.body) Xt g0 s, Yf s))) = some (some (openGood q loose, Ya (w.withFollow row false))))
    (h2 : ∀ w : World, (fencedOpening treeTable p w N).map (fun s₀ => (topFrom treeTable p (w.withFollow row true) N s₀).map (fun s => (openSeen q loose (importedModules p.main.body) Xt g0 s, Yf s))) = some (some (openGood q loose, Ya (w.withFollow row true)))) :
    LeftO p q loose Xt Yf Ya N g0 := by
  refine LeftO.of_split row fun w => ?_
  have e1 := h1 w
  have e2 := h2 w
  cases hx : fencedOpening treeTable p w N with
  | none => rw [hx] at e1; cases e1
  | some s =>
    rw [hx, Option.map_some] at e1 e2
    rw [Option.map_some, Option.some.inj e1, Option.some.inj e2]
section
local macro_rules | `(tactic| o_head $H) => `(tactic| (have hook := $H; clear hook; assumption))
theorem frag (h : PySem.Challenge.rw_ta0081_01.row.Holds) : PySem.Challenge.rw_ta0081_01.row.Holds := by k_head
end
def addrs : List Addr := [2, 3, 32, 34, 35, 37, 38, 49, 51, 52, 54, 55, 56, 58, 59, 61, 62, 63, 65, 66, 68, 69, 70, 72, 73, 75, 76, 77, 79, 80, 82, 83, 84, 86, 87, 89, 90, 91, 93, 94, 96, 97, 98, 99, 100, 101, 102, 105, 107, 108, 110, 111, 115, 116, 120, 121, 129, 130, 132, 133, 135, 136, 137, 139, 140, 142, 143, 144, 146, 147, 149, 150, 151, 153, 154, 156, 157, 158, 161, 162, 163, 165, 166, 168, 169, 170, 172, 173, 175, 176, 177, 179, 180, 182, 183, 184, 185, 187, 188, 190, 191, 192, 195, 196, 197, 200, 201, 202, 204, 205, 207, 208, 209, 211, 212, 214, 215, 216, 219, 220, 221, 223, 224, 226, 227, 228, 230, 231, 233, 234, 235, 237, 238, 240, 241, 242, 243, 244, 245, 246, 249, 251, 252, 254, 255, 256, 259, 260, 261, 264, 265]
theorem addrsOk (P : Params) : addrs = (Mine.frag.heap_1 P).map (·.1) := by kernel_rfl
noncomputable abbrev hook : Hook := kHook Mine.frag.heap_1 addrs addrsOk
abbrev seenX : Shared → Bool := fun s => xlAt view [] s && recOk (RowW.records (OpenRow.toRowW PySem.Challenge.rw_ta0081_01.row)) s
abbrev Half (b : Bool) : Prop := ∀ w : World, (fencedOpening treeTable PySem.Challenge.rw_ta0081_01.row.prog w 3220).map (fun s₀ => (topFrom treeTable PySem.Challenge.rw_ta0081_01.row.prog (w.withFollow "special-get-raises" b) 3220 s₀).map (fun s => (openSeen view loose (importedModules PySem.Challenge.rw_ta0081_01.row.prog.main.body) seenX true s, hook.obs s))) = some (some (openGood view loose, hook.val (w.withFollow "special-get-raises" b)))
theorem halfF : Half false := by
  unfold Half seenX
  rw [viewEq, PySem.W.Fast.te14364793385576792824, PySem.W.Fast.te5031745931406616365, PySem.W.Fast.te4187177175401517315, PySem.W.Fast.te5923862056798008813]
  intro w
  kernel_rfl
theorem halfT : Half true := by
  unfold Half seenX
  rw [viewEq, PySem.W.Fast.te14364793385576792824, PySem.W.Fast.te5031745931406616365, PySem.W.Fast.te4187177175401517315, PySem.W.Fast.te5923862056798008813]
  intro w
  kernel_rfl
theorem left : LeftO PySem.Challenge.rw_ta0081_01.row.prog view loose seenX hook.obs hook.val 3220 true := ofSplit "special-get-raises" halfF halfT
local macro_rules | `(tactic| k_head) => `(tactic|
  refine holds_open (q := Mine.view) (loose := Mine.loose) (Xt := fun s => xlAt Mine.view [] s && recOk (RowW.records (OpenRow.toRowW PySem.Challenge.rw_ta0081_01.row)) s) (XP := XL Mine.view []) (Yf := Hook.obs (kHook Mine.frag.heap_1 Mine.addrs Mine.addrsOk)) (Ya := Hook.val (kHook Mine.frag.heap_1 Mine.addrs Mine.addrsOk)) (YP := Hook.says (kHook Mine.frag.heap_1 Mine.addrs Mine.addrsOk)) (N := 3220) Mine.left (Hook.of (kHook Mine.frag.heap_1 Mine.addrs Mine.addrsOk)) (Hook.keeps (kHook Mine.frag.heap_1 Mine.addrs Mine.addrsOk)) (fun s e => xl_of s (Bool.and_eq_true_iff.mp e).1) XL.keeps (by rfl) (by rfl) (by rfl) (fun s e => recFacts_of (Bool.and_eq_true_iff.mp e).2) (by rfl) (by first | assumption | decide +kernel) (by decide +kernel) ⟨rfl, rfl, rfl, rfl, rfl, by decide +kernel⟩ ?hw ?hc)
open_top hd for PySem.Challenge.rw_ta0081_01
end Mine
namespace Mine
open PySem.Calls
section B0s
/-- no exception comes out -/
abbrev NoE : Value → Shared → Prop := fun _ _ => False

/-- a wider surround serves a narrower one -/
theorem lift_A {α : Type} {M : Model} {A A' : Around} {t : Sem α} {Q : α → Shared → Prop} {E : Value → Shared → Prop} {s : Shared}
    (h : wpAny M A t Q E s) (hh : A.handled = A'.handled) (hd : A'.depth ≤ A.depth) (hu : A'.units ≤ A.units) (hf : A.frames = none) (hg : A.guards = none) :
    wpAny M A' t Q E s := by
  intro Γ p hΓ
  obtain ⟨a, b, c, d, e⟩ := hΓ
  refine h Γ p ?_
  refine ⟨a.trans hh.symm, Nat.le_trans b hd, ?_, ?_, Nat.le_trans e hu⟩
  · intro l hl
    rw [hf] at hl
    cases hl
  · intro l hl
    rw [hg] at hl
    cases hl

/-- the surround of level k -/
abbrev AC (k : Nat) : Around := { handled := none, depth := 300 + 20 * k, frames := none, guards := none, units := 1000 * k }

def Stop (P : Prop) : Prop := P
theorem stop {P : Prop} (h : Stop P) : P := h

/-- all stays but what stands at these places -/
def SB (h h' : Heap) (xs : List Addr) : Prop := ∀ b o, h.get? b = some o → b ∉ xs → h'.get? b = some o

theorem enter {K : Frag} {prog : Program} {w : World} {s : Shared} {A : Around} {f : Addr} {args : Args} {name qual : PySem.Str} {params : Arguments} {body : List Stmt} {scope : Scope}
    {dV kV doc pm cdv ct oc : Value} {an od : Option Addr} {osl : Array (Option Value)} {binds : List (PySem.Str × Value)} {R : Result → Shared → Prop}
    {h₀ : Heap} {p : Program} {loose : List PySem.Str} {mean : ExcName → Option Value} {mg mb : PySem.Str → Option Value} {news : List (Addr × Obj)}
    (X : K.In h₀) (T : Top p loose mean mg mb h₀) (hk : h₀.StaysIn s.heap) (hn : ∀ q ∈ news, s.heap.get? q.1 = some q.2 ∧ h₀.get? q.1 = none)
    (ho : K.lookup f = some ⟨oc, od, .func (fnOf name qual params body scope dV kV doc pm an cdv ct), osl⟩) (hcd : codeIn K cdv qual = true) (hroom : A.depth < recursionLimit)
    (hbind : BindsTo s (fnOf name qual params body scope dV kV doc pm an cdv ct) args binds) (hloc : ∀ y ∈ binds, scope.names.lookup y.1 = some .local)
    (h : ∀ g L h₁, h₀.StaysIn g → SB s.heap g (news.map (·.1)) → Fr g L h₁ (fun y => binds.reverse.lookup y) → News g L h₁ news → K.In g → Top p loose mean mg mb g →
      wpAny (model prog w) (A.deeper (envOf qual scope L f cdv)) (execs body (envOf qual scope L f cdv))
        (fun fl s' => R (.ok (.ret (match fl with | .ret v => v | _ => .none))) s') NoE { s with heap := h₁, toks := s.toks + binds.length })
    (hco : scope.isCoroutine = false) (hgen : scope.isGenerator = false) (hkd : scope.kind = .function) (hcell : ∀ x ∈ scope.names, x.2 ≠ .cell) :
    codeAny (model prog w) A (.call (.ref f) args) R s := by
  have Xs : K.In s.heap := X.keeps hk
  have nm : ∀ b o, h₀.get? b = some o → b ∉ news.map (·.1) := fun b o e q => by
    obtain ⟨p, hp, rfl⟩ := List.mem_map.mp q
    rw [(hn p hp).2] at e; cases e
  have st : h₀.StaysIn (hideAll s.heap (news.map (·.1))) := fun b o e => hideAll_get _ (hk b o e) (nm b o e)
  refine codeAny_call_def (fd := fnOf name qual params body scope dV kV doc pm an cdv ct) (body := body) (binds := binds) hroom (Xs _ _ ho) rfl (T.nolimit.keeps hk) (codeRec_of Xs hcd) rfl hbind hcell hloc (fun h₁ hns hk₁ => ?_) hco hgen hkd
  refine wpAny_mono (h (hideAll s.heap (news.map (·.1))) _ h₁ st (fun b o e hb => hideAll_get _ e hb) ⟨hns, fun b o e => hk₁ b o (of_hideAll _ e), Nat.le_of_eq (hideAll_size _ _)⟩ ?_ (X.keeps fun b o e => st b o e) (T.keeps fun b o e => st b o e)) (fun fl s' hq => hq) fun _ _ e => e.elim
  intro q hq
  exact ⟨hk₁ _ _ (hn q hq).1, Nat.ne_of_lt (Heap.lt_size (hn q hq).1), hideAll_none _ (List.mem_map_of_mem hq)⟩
theorem lift_C {M : Model} {A A' : Around} {c : Code} {R : Result → Shared → Prop} {s : Shared}
    (h : codeAny M A c R s) (hh : A.handled = A'.handled) (hd : A'.depth ≤ A.depth) (hu : A'.units ≤ A.units) (hf : A.frames = none) (hg : A.guards = none) :
    codeAny M A' c R s := by
  intro Γ p hc hΓ
  obtain ⟨a, b, c, d, e⟩ := hΓ
  refine h Γ p hc ?_
  refine ⟨a.trans hh.symm, Nat.le_trans b hd, ?_, ?_, Nat.le_trans e hu⟩
  · intro l hl
    rw [hf] at hl
    cases hl
  · intro l hl
    rw [hg] at hl
    cases hl
theorem fr_stay {h₀ h h' : Heap} {L : Addr} {m : PySem.Str → Option Value} (F : Fr h₀ L h m) (k : h.StaysIn h') : Fr h₀ L h' m :=
  ⟨F.ns.keeps k, fun b o e => k _ _ (F.keep b o e), F.above⟩
theorem news_stay {h₀ h h' : Heap} {L : Addr} {news : List (Addr × Obj)} (N : News h₀ L h news) (k : h.StaysIn h') : News h₀ L h' news :=
  fun p hp => ⟨k _ _ (N p hp).1, (N p hp).2⟩

/-- how a turn of a while may end -/
def WEnd (n : Nat) (I : Nat → Shared → Prop) (s : Shared) : Prop := ∃ m, m < n ∧ I m s
section
variable {prog : Program} {w : World} {A : Around} {s : Shared} {env : Env} {Q : Flow → Shared → Prop}
theorem while_rule {test : PySem.Expr} {body : List Stmt} {pos : Pos} (I : Nat → Shared → Prop) (n : Nat) (h0 : I n s)
    (turn : ∀ n s, I n s → wpAny (model prog w) A (isTrue test env (eval test env)) (fun b s₂ => if b then wpAny (model prog w) A (execs body env) (fun f s₃ => match f with
        | .next | .cont => WEnd n I s₃
        | .brk => Q .next s₃
        | .ret v => Q (.ret v) s₃) NoE s₂ else Q .next s₂) NoE s) :
    wpAny (model prog w) A (exec (.While test body [] pos) env) Q NoE s := by
  refine wpAny_While (codeAny_whileLoop I (fun n s hI => ?_) n h0)
  refine wpAny_mono (turn n s hI) (fun b s₂ h₂ => ?_) fun _ _ e => e.elim
  cases b with
  | true =>
    refine wpAny_mono h₂ (fun f s₃ h₃ => ?_) fun _ _ e => e.elim
    cases f <;> exact h₃
  | false => exact wpAny_execs_nil h₂
end

/-- names that a frame holds, ahead of whatever else it holds -/
def bd : List (PySem.Str × Value) → (PySem.Str → Option Value) → PySem.Str → Option Value
  | [], u, y => u y
  | p :: r, u, y => if y = p.1 then some p.2 else bd r u y
def lks (m : PySem.Str → Option Value) : List (PySem.Str × Value) → Prop
  | [] => True
  | p :: r => m p.1 = some p.2 ∧ lks m r
theorem bd_eq {m : PySem.Str → Option Value} : ∀ {l : List (PySem.Str × Value)}, lks m l → bd l m = m
  | [], _ => rfl
  | p :: r, h => by
    funext y
    show (if y = p.1 then some p.2 else bd r m y) = m y
    by_cases e : y = p.1
    · rw [if_pos e, e, h.1]
    · rw [if_neg e, bd_eq h.2]
theorem fr_bd {h₀ h : Heap} {L : Addr} {m : PySem.Str → Option Value} (F : Fr h₀ L h m) (l : List (PySem.Str × Value)) (e : lks m l) : Fr h₀ L h (bd l m) := by
  rw [bd_eq e]; exact F


/-- how a turn of a for may end -/
def FEnd (s : Shared) (h₀ : Heap) (L I : Addr) (o : Obj) (J Jx : (PySem.Str → Option Value) → List (Addr × Obj) → Prop) (Q : Flow → Shared → Prop) (f : Flow) (s₂ : Shared) : Prop :=
  match f with
  | .ret v => Q (.ret v) s₂
  | .brk => ∃ h' tk m' news', s₂ = { s with heap := h', toks := tk } ∧ Fr h₀ L h' m' ∧ News h₀ L h' news' ∧ Jx m' news'
  | _ => ∃ h' tk m' news', s₂ = { s with heap := h', toks := tk } ∧ Fr h₀ L h' m' ∧ News h₀ L h' ((I, o) :: news') ∧ (∀ p ∈ news', p.1 ≠ I) ∧ J m' news'

section
variable {prog : Program} {w : World} {A : Around} {s : Shared} {env : Env} {Q : Flow → Shared → Prop}

theorem for_led {h₀ : Heap} {target : PySem.Expr} {body : List Stmt} {I : Addr} {fp wr : List Addr} {n : Nat} {P : Nat → Value → Prop} {St : Nat → Heap → Prop} {m₀ : PySem.Str → Option Value} {news₀ kl : List (Addr × Obj)}
    (W : Walks prog w A I fp wr n P St) (hIf : I ∈ fp) (hfp : ∀ b ∈ fp, b = I ∨ (∃ q, h₀.get? b = some q) ∨ (∃ q, (b, q) ∈ kl)) (hI0 : h₀.get? I = none) (hIL : env.locals ≠ I) (hwr : ∀ b ∈ wr, b = I)
    (hob : ∀ i h, St i h → ∃ o, h.get? I = some o)
    (hgo : ∀ i (s' : Shared) v (Q' : Unit → Shared → Prop), St i s'.heap → Q' () s' → wpAny (model prog w) A (letOwnedTupleGo target (.ref I) v) Q' NoE s')
    (J : Nat → (PySem.Str → Option Value) → List (Addr × Obj) → Prop) (Jx : (PySem.Str → Option Value) → List (Addr × Obj) → Prop) (hkl : ∀ i m news, J i m news → ∀ p ∈ kl, p ∈ news)
    (h0 : J 0 m₀ news₀) (hst : St 0 s.heap) (F : Fr h₀ env.locals s.heap m₀) (N : News h₀ env.locals s.heap news₀) (hnI : ∀ p ∈ news₀, p.1 ≠ I)
    (turn : ∀ i v m₁ news₁ h tk o, i < n → P i v → J i m₁ news₁ → (∀ p ∈ news₁, p.1 ≠ I) → Fr h₀ env.locals h m₁ → News h₀ env.locals h ((I, o) :: news₁) →
      wpAny (model prog w) A (assign target env v) (fun _ s₂ => wpAny (model prog w) A (execs body env) (FEnd s h₀ env.locals I o (J (i + 1)) Jx Q) NoE s₂) NoE { s with heap := h, toks := tk })
    (hJx : ∀ m news, J n m news → Jx m news)
    (done : ∀ h tk m₁ news₁, Jx m₁ news₁ → Fr h₀ env.locals h m₁ → News h₀ env.locals h news₁ → Q .next { s with heap := h, toks := tk }) :
    codeAny (model prog w) A (.forLoop target (.ref I) body [] env) (fun r s' => match r with | .ok f => Q f s' | .error _ => False) s := by
  have hLw : env.locals ∉ wr := fun h => hIL (hwr _ h)
  have old : ∀ b o, h₀.get? b = some o → b ∉ wr := fun b o e hb => by rw [hwr b hb, hI0] at e; cases e
  refine codeAny_forLoop_any
    (fun k s' => ∃ h' tk m' news' i, s' = { s with heap := h', toks := tk } ∧ St i h' ∧ Fr h₀ env.locals h' m' ∧ News h₀ env.locals h' news' ∧ (∀ p ∈ news', p.1 ≠ I) ∧ J i m' news' ∧ i ≤ n ∧ k = n + 1 - i) ?_ (n + 1)
    ⟨s.heap, s.toks, m₀, news₀, 0, rfl, hst, F, N, hnI, h0, Nat.zero_le _, rfl⟩
  rintro k s' ⟨h', tk, m', news', i, rfl, hst', F', N', hnw', hJ, hi, rfl⟩
  have next : ∀ h₁ : Heap, (∀ b o, b ∉ wr → h'.get? b = some o → h₁.get? b = some o) → Fr h₀ env.locals h₁ m' ∧ News h₀ env.locals h₁ news' := fun h₁ hk₁ =>
    ⟨⟨F'.ns.at' fun o e => hk₁ _ o hLw e, fun b o e => hk₁ b o (old b o e) (F'.keep b o e), F'.above⟩, fun p hp => ⟨hk₁ _ _ (fun hb => hnw' p hp (hwr _ hb)) (N' p hp).1, (N' p hp).2⟩⟩
  by_cases hlt : i < n
  · refine W.item i _ _ _ hlt hst' fun v h₁ tk₁ hP hst₁ hk₁ => ?_
    obtain ⟨F₁, N₁⟩ := next h₁ hk₁
    obtain ⟨o, ho⟩ := hob _ _ hst₁
    have Nown : News h₀ env.locals h₁ ((I, o) :: news') := by
      intro p hp
      rcases List.mem_cons.mp hp with rfl | hp
      · exact ⟨ho, Ne.symm hIL, hI0⟩
      · exact N₁ p hp
    refine wpAny_mono (hgo (i + 1) _ v (fun _ s₁' => wpAny (model prog w) A (assign target env v) (fun _ s₂ => wpAny (model prog w) A (execs body env) (FEnd s h₀ env.locals I o (J (i + 1)) Jx Q) NoE s₂) NoE s₁') hst₁ (turn i v m' news' h₁ tk₁ o hlt hP hJ hnw' F₁ Nown)) (fun _ s₁' h₁' => ?_) fun _ _ e => e.elim
    refine wpAny_mono h₁' (fun _ s₂ h₂ => wpAny_mono h₂ (fun f s₃ h₃ => ?_) fun _ _ e => e.elim) fun _ _ e => e.elim
    have fin : (∃ h' tk m' news', s₃ = { s with heap := h', toks := tk } ∧ Fr h₀ env.locals h' m' ∧ News h₀ env.locals h' ((I, o) :: news') ∧ (∀ p ∈ news', p.1 ≠ I) ∧ J (i + 1) m' news') →
        ∃ m, m < n + 1 - i ∧ ∃ h' tk m' news' j, s₃ = { s with heap := h', toks := tk } ∧ St j h' ∧ Fr h₀ env.locals h' m' ∧ News h₀ env.locals h' news' ∧ (∀ p ∈ news', p.1 ≠ I) ∧ J j m' news' ∧ j ≤ n ∧ m = n + 1 - j := by
      rintro ⟨h₃', tk₃, m₂, news₂, rfl, F₃, N₃, hn₃, hJ₃⟩
      refine ⟨n + 1 - (i + 1), by omega, h₃', tk₃, m₂, news₂, i + 1, rfl, ?_, F₃, fun p hp => N₃ p (.tail _ hp), hn₃, hJ₃, hlt, rfl⟩
      refine W.frame _ _ _ hst₁ fun b hb o' e => ?_
      rcases hfp b hb with hbI | ⟨q, hq⟩ | ⟨q, hq⟩
      · subst hbI
        have : o' = o := Option.some.inj (e.symm.trans ho)
        exact this ▸ (N₃ _ (.head _)).1
      · have : q = o' := Option.some.inj ((F₁.keep b q hq).symm.trans e)
        exact this ▸ F₃.keep b q hq
      · have h1 := (N₁ _ (hkl _ _ _ hJ _ hq)).1
        have : q = o' := Option.some.inj (h1.symm.trans e)
        exact this ▸ (N₃ _ (.tail _ (hkl _ _ _ hJ₃ _ hq))).1
    cases f with
    | ret v => exact h₃
    | brk =>
      obtain ⟨h₃', tk₃, m₂, news₂, rfl, F₃, N₃, hJ₃⟩ := h₃
      exact done h₃' tk₃ m₂ news₂ hJ₃ F₃ N₃
    | cont => exact fin h₃
    | next => exact fin h₃
  · have hin : i = n := by omega
    subst hin
    refine W.done _ _ _ hst' fun h₁ tk₁ hk₁ => wpAny_execs_nil ?_
    obtain ⟨F₁, N₁⟩ := next h₁ hk₁
    exact done h₁ tk₁ m' news' (hJx _ _ hJ) F₁ N₁

/-- what stands behind the iterator's making -/
abbrev ForOn (prog : Program) (w : World) (A : Around) (target : PySem.Expr) (body : List Stmt) (env : Env) (Q : Flow → Shared → Prop) (it : Value) (s₂ : Shared) : Prop :=
  codeAny (model prog w) A (.forLoop target it body [] env) (fun r s' => match r with | .ok f => Q f s' | .error _ => False) s₂

theorem For_led {target iter : PySem.Expr} {body : List Stmt} {pos : Pos}
    (h : wpAny (model prog w) A (eval iter env) (fun xv s₁ => wpAny (model prog w) A (pyIter xv) (ForOn prog w A target body env Q) NoE s₁) NoE s)
    (hs : ∀ x, foldedSetIterable iter env x = pure x) :
    wpAny (model prog w) A (exec (.For target iter body [] pos) env) Q NoE s := by
  refine wpAny_For (wpAny_mono h (fun xv s₁ h₁ => wpAny_mono h₁ (fun it s₂ h₂ => ?_) fun _ _ e => e) fun _ _ e => e) hs
  refine codeAny_mono h₂ fun r s' hr => ?_
  cases r with
  | ok f => exact hr
  | error e => exact hr.elim

theorem letGo_striter {target : PySem.Expr} {I : Addr} {x : PySem.Str} {t : Tok} {i : Nat} {v : Value} {Q' : Unit → Shared → Prop} {s' : Shared} (hit : s'.heap.IsStrIter I "str_ascii_iterator" x t i) (h : Q' () s') :
    wpAny (model prog w) A (letOwnedTupleGo target (.ref I) v) Q' NoE s' := by
  obtain ⟨o, ho, hc, hd⟩ := hit
  unfold letOwnedTupleGo
  cases target <;> first
    | exact wpAny_pure h
    | (cases v <;> first
        | exact wpAny_pure h
        | (refine wpAny_bind (wpAny_load ho ?_)
           rw [hc, hd]
           exact wpAny_pure h))

theorem for_str {h₀ : Heap} {target : PySem.Expr} {body : List Stmt} {ws : PySem.Str} {t : Tok} {m₀ : PySem.Str → Option Value} {news₀ : List (Addr × Obj)}
    (ha : ws.cps.all (· < 128) = true) (hh : A.handled = none) (F : Fr h₀ env.locals s.heap m₀) (N : News h₀ env.locals s.heap news₀)
    (J : Nat → (PySem.Str → Option Value) → List (Addr × Obj) → Prop) (Jx : (PySem.Str → Option Value) → List (Addr × Obj) → Prop) (h0 : J 0 m₀ news₀)
    (turn : ∀ i c u m₁ news₁ h tk I o, ws.cps[i]? = some c → J i m₁ news₁ → (∀ p ∈ news₁, p.1 ≠ I) → Fr h₀ env.locals h m₁ → News h₀ env.locals h ((I, o) :: news₁) →
      wpAny (model prog w) A (assign target env (.str ⟨#[c]⟩ u)) (fun _ s₂ => wpAny (model prog w) A (execs body env) (FEnd s h₀ env.locals I o (J (i + 1)) Jx Q) NoE s₂) NoE { s with heap := h, toks := tk })
    (hJx : ∀ m news, J ws.cps.size m news → Jx m news)
    (done : ∀ h tk m₁ news₁, Jx m₁ news₁ → Fr h₀ env.locals h m₁ → News h₀ env.locals h news₁ → Q .next { s with heap := h, toks := tk }) :
    wpAny (model prog w) A (pyIter (.str ws t)) (ForOn prog w A target body env Q) NoE s := by
  have nn : ∀ p ∈ news₀, p.1 ≠ s.heap.objs.size := fun p hp e => absurd (Heap.lt_size (N p hp).1) (by rw [e]; exact Nat.lt_irrefl _)
  refine wpAny_pyIter_ascii ha ?_
  refine for_led (kl := []) (Walks.strAscii hh _ ws t) (.head _) (fun b hb => .inl (List.mem_singleton.mp hb)) (next_is_new F) (Nat.ne_of_lt F.ns.lt) (fun b hb => List.mem_singleton.mp hb) (fun i h hs => ?_) (fun i s' v Q' st hq => letGo_striter st hq)
    J Jx (fun _ _ _ _ p hp => nomatch hp) h0 ⟨_, Heap.get?_push_size _ rfl, rfl, rfl⟩ (F.push _) (fun p hp => ⟨Heap.get?_push_of_some _ (N p hp).1, (N p hp).2⟩) nn ?_ hJx done
  · obtain ⟨o, ho, _⟩ := hs
    exact ⟨o, ho⟩
  · rintro i v m₁ news₁ h tk o hi ⟨c, u, hc, rfl⟩ hJ hnI F₁ N₁
    exact turn i c u m₁ news₁ h tk _ o hc hJ hnI F₁ N₁

theorem letGo_rangeiter {target : PySem.Expr} {I : Addr} {a b c : Int} {v : Value} {Q' : Unit → Shared → Prop} {s' : Shared} (hit : IsRangeIter s'.heap I a b c) (h : Q' () s') :
    wpAny (model prog w) A (letOwnedTupleGo target (.ref I) v) Q' NoE s' := by
  unfold letOwnedTupleGo
  cases target <;> first
    | exact wpAny_pure h
    | (cases v <;> first
        | exact wpAny_pure h
        | (refine wpAny_bind (wpAny_load hit ?_)
           exact wpAny_pure h))

theorem for_range {h₀ : Heap} {target : PySem.Expr} {body : List Stmt} {r : Addr} {a b c : Int} {t u v : Tok} {n : Nat} {m₀ : PySem.Str → Option Value} {news₀ : List (Addr × Obj)}
    (hr : IsRange s.heap r a b c t u v) (hsmall : Builtin.Range.small a b c = true) (hn : Builtin.Range.rangeSize a b c = (n : Int)) (hh : A.handled = none) (F : Fr h₀ env.locals s.heap m₀) (N : News h₀ env.locals s.heap news₀)
    (J : Nat → (PySem.Str → Option Value) → List (Addr × Obj) → Prop) (Jx : (PySem.Str → Option Value) → List (Addr × Obj) → Prop) (h0 : J 0 m₀ news₀)
    (turn : ∀ (i : Nat) u m₁ news₁ h tk I o, i < n → J i m₁ news₁ → (∀ p ∈ news₁, p.1 ≠ I) → Fr h₀ env.locals h m₁ → News h₀ env.locals h ((I, o) :: news₁) →
      wpAny (model prog w) A (assign target env (.int (a + i * c) u)) (fun _ s₂ => wpAny (model prog w) A (execs body env) (FEnd s h₀ env.locals I o (J (i + 1)) Jx Q) NoE s₂) NoE { s with heap := h, toks := tk })
    (hJx : ∀ m news, J n m news → Jx m news)
    (done : ∀ h tk m₁ news₁, Jx m₁ news₁ → Fr h₀ env.locals h m₁ → News h₀ env.locals h news₁ → Q .next { s with heap := h, toks := tk }) :
    wpAny (model prog w) A (pyIter (.ref r)) (ForOn prog w A target body env Q) NoE s := by
  have nn : ∀ p ∈ news₀, p.1 ≠ s.heap.objs.size := fun p hp e => absurd (Heap.lt_size (N p hp).1) (by rw [e]; exact Nat.lt_irrefl _)
  refine wpAny_pyIter_range hr hsmall ?_
  refine for_led (kl := []) (Walks.range hh _ a c n) (.head _) (fun b hb => .inl (List.mem_singleton.mp hb)) (next_is_new F) (Nat.ne_of_lt F.ns.lt) (fun b hb => List.mem_singleton.mp hb) (fun i h hs => ⟨_, hs⟩) (fun i s' v Q' st hq => letGo_rangeiter st hq)
    J Jx (fun _ _ _ _ p hp => nomatch hp) h0 (by show IsRangeIter _ _ _ _ _; rw [hn]; simpa using Heap.get?_push_size _ rfl) (F.push _) (fun p hp => ⟨Heap.get?_push_of_some _ (N p hp).1, (N p hp).2⟩) nn ?_ hJx done
  rintro i v m₁ news₁ h tk o hi ⟨u, rfl⟩ hJ hnI F₁ N₁
  exact turn i u m₁ news₁ h tk _ o hi hJ hnI F₁ N₁

/-- over a list that the ground holds, or the ledger -/
theorem for_list {h₀ : Heap} {target : PySem.Expr} {body : List Stmt} {l : Addr} {vs : List Value} {m₀ : PySem.Str → Option Value} {news₀ kl : List (Addr × Obj)}
    (hl : s.heap.IsList l vs.toArray) (hin : (∃ q, h₀.get? l = some q) ∨ (∃ q, (l, q) ∈ kl)) (hh : A.handled = none) (F : Fr h₀ env.locals s.heap m₀) (N : News h₀ env.locals s.heap news₀)
    (J : Nat → (PySem.Str → Option Value) → List (Addr × Obj) → Prop) (Jx : (PySem.Str → Option Value) → List (Addr × Obj) → Prop) (hkl : ∀ i m news, J i m news → ∀ p ∈ kl, p ∈ news) (h0 : J 0 m₀ news₀)
    (turn : ∀ (i : Nat) v m₁ news₁ h tk I o, vs[i]? = some v → J i m₁ news₁ → (∀ p ∈ news₁, p.1 ≠ I) → Fr h₀ env.locals h m₁ → News h₀ env.locals h ((I, o) :: news₁) →
      wpAny (model prog w) A (assign target env v) (fun _ s₂ => wpAny (model prog w) A (execs body env) (FEnd s h₀ env.locals I o (J (i + 1)) Jx Q) NoE s₂) NoE { s with heap := h, toks := tk })
    (hJx : ∀ m news, J vs.length m news → Jx m news)
    (done : ∀ h tk m₁ news₁, Jx m₁ news₁ → Fr h₀ env.locals h m₁ → News h₀ env.locals h news₁ → Q .next { s with heap := h, toks := tk }) :
    wpAny (model prog w) A (pyIter (.ref l)) (ForOn prog w A target body env Q) NoE s := by
  have nn : ∀ p ∈ news₀, p.1 ≠ s.heap.objs.size := fun p hp e => absurd (Heap.lt_size (N p hp).1) (by rw [e]; exact Nat.lt_irrefl _)
  obtain ⟨ol, hol, _⟩ := id hl
  have hne : l ≠ s.heap.objs.size := Nat.ne_of_lt (Heap.lt_size hol)
  refine wpAny_pyIter_list hl ?_
  have W := Walks.list (prog := prog) (w := w) hh s.heap.objs.size l hne vs.toArray
  rw [List.size_toArray] at W
  refine for_led (kl := kl) W (.head _) (fun b hb => ?_) (next_is_new F) (Nat.ne_of_lt F.ns.lt) (fun b hb => List.mem_singleton.mp hb) (fun i h hs => ?_) (fun i s' v Q' st hq => letGo_listiter st.1 hq)
    J Jx hkl h0 ⟨⟨_, Heap.get?_push_size _ rfl, rfl, rfl⟩, hl.at fun o e => Heap.get?_push_of_some _ e⟩ (F.push _) (fun p hp => ⟨Heap.get?_push_of_some _ (N p hp).1, (N p hp).2⟩) nn ?_ hJx done
  · rcases List.mem_cons.mp hb with e | hb
    · exact .inl e
    · rw [List.mem_singleton.mp hb]; exact .inr hin
  · obtain ⟨⟨o, ho, _⟩, _⟩ := hs
    exact ⟨o, ho⟩
  · intro i v m₁ news₁ h tk o hi hP hJ hnI F₁ N₁
    exact turn i v m₁ news₁ h tk _ o (by simpa using hP) hJ hnI F₁ N₁
end

def bump (cnt : List Int) (b : Int) : List Int :=
  let c := if (cnt.length : Int) ≤ b then cnt ++ (List.replicate (b - cnt.length + 1).toNat [0]).flatten else cnt
  c.set b.toNat (c.getD b.toNat 0 + 1)
def wsRun : List Nat → List Int → Int → Int → Int → List Int × Int × Int × Int
  | [], cnt, b, n, nt => (cnt, b, n, nt)
  | c :: r, cnt, b, n, nt => if c = 32 then wsRun r cnt (b + 1) (n + 1) nt else if c = 9 then wsRun r (bump cnt b) 0 (n + 1) (nt + 1) else (cnt, b, n, nt)
theorem flat_len (k : Nat) : (List.replicate k [(0 : Int)]).flatten.length = k := by
  induction k with
  | zero => rfl
  | succ k ih => rw [List.replicate_succ, List.flatten_cons, List.length_append, ih]; simp; omega
theorem bump_len {cnt : List Int} {b : Int} {i : Nat} (hb : b ≤ (i : Int)) (hc : cnt.length ≤ i) : (bump cnt b).length ≤ i + 1 := by
  unfold bump
  simp only [List.length_set]
  split
  · rw [List.length_append, flat_len]; omega
  · omega
theorem ws_step {ws : PySem.Str} {i c : Nat} {cnt : List Int} {b n nt : Int} {W : List Int × Int × Int × Int} (hc : ws.cps[i]? = some c) (hr : wsRun (ws.cps.toList.drop i) cnt b n nt = W) :
    (if c = 32 then wsRun (ws.cps.toList.drop (i + 1)) cnt (b + 1) (n + 1) nt else if c = 9 then wsRun (ws.cps.toList.drop (i + 1)) (bump cnt b) 0 (n + 1) (nt + 1) else (cnt, b, n, nt)) = W := by
  rw [← hr]
  have h : ws.cps.toList.drop i = c :: ws.cps.toList.drop (i + 1) := by
    have h2 : ws.cps.toList[i]? = some c := by simpa using hc
    obtain ⟨hl, he⟩ := List.getElem?_eq_some_iff.mp h2
    rw [List.drop_eq_getElem_cons hl, he]
  rw [h]
  rfl
theorem sgn_of {c k : Nat} {x : PySem.Str} (e : x = ⟨#[k]⟩) {r : Bool} (h : ((⟨#[c]⟩ : PySem.Str) == x) = r) : r = decide (c = k) := by
  rw [← h, e]
  by_cases q : c = k
  · subst q; simp
  · have : ¬ ((⟨#[c]⟩ : PySem.Str) = ⟨#[k]⟩) := by
      intro z
      injection z with z
      simp at z
      exact q z
    simp [this, q]

/-- what the ledger asks of the ground and the heap -/
def Has (h₀ h : Heap) (led : List (Addr × Obj)) : Prop := ∀ q ∈ led, h.get? q.1 = some q.2 ∧ h₀.get? q.1 = none
def AllAbove (news led : List (Addr × Obj)) : Prop := ∀ p ∈ news, ∀ q ∈ led, @LT.lt Nat _ p.1 q.1
abbrev tupO (vs : List Value) : Obj := { cls := .type "tuple", data := .seq vs.toArray }

section
variable {prog : Program} {w : World} {A : Around} {E : Value → Shared → Prop} {s : Shared} {h₀ : Heap} {L l : Addr} {m : PySem.Str → Option Value} {news : List (Addr × Obj)}
theorem my_tuple {vs : List Value} {k : Nat} {Q : Value → Shared → Prop} (F : Fr h₀ L s.heap m) (N : News h₀ L s.heap news) (hm : (l, listOf vs.toArray k) ∈ news) (hz : vs.length ≤ 16777216)
    (h : ∀ D h', Fr h₀ L h' m → News h₀ L h' ((D, tupO vs) :: news) → (∀ p ∈ news, p.1 < D) → Q (.ref D) { s with heap := h' }) :
    wpAny (model prog w) A (call (.type "tuple") [.ref l]) Q E s := by
  refine call_tuple_list ⟨_, (N _ hm).1, rfl, k, rfl⟩ (fun h' hk => ?_) (by rw [List.size_toArray, sizeLine_eq]; exact hz)
  have F' : Fr h₀ L h' m := F.keeps hk
  have N' : News h₀ L h' news := fun p hp => ⟨hk _ _ (N p hp).1, (N p hp).2⟩
  exact h _ _ (F'.push _) (N'.push F' _) fun p hp => Heap.lt_size (N' p hp).1
end


abbrev strKey (P : Params) (x : PySem.Str) (t : Tok) (v : Value) : DictEntry := ⟨PyData.keyHash P x, .str x t, v⟩
/-- a Whitespace as it lies: its norm, its counts, itself, its names -/
abbrev wsObjs (P : Params) (C x dx tn tc : Addr) (ws : PySem.Str) (t tb tn' tnt k1 k2 k3 k4 k5 : Tok) (vs : List Value) (cnt : List Int) (b n nt : Int) : List (Addr × Obj) :=
  [(tn, tupO [.ref tc, .int b tb]), (tc, tupO vs), (x, instObj C dx),
   (dx, dictOf [strKey P "raw" k1 (.str ws t), strKey P "n" k2 (.int n tn'), strKey P "nt" k3 (.int nt tnt), strKey P "norm" k4 (.ref tn), strKey P "is_simple" k5 (.bool (decide ((cnt.length : Int) ≤ 1)))] 5)]
def AllNe (d : Nat) : List (Addr × Obj) → Prop
  | [] => True
  | p :: r => @Ne Nat p.1 d ∧ AllNe d r
theorem allNe_of {d : Addr} : ∀ {l : List (Addr × Obj)}, (∀ p ∈ l, p.1 ≠ d) → AllNe d l
  | [], _ => trivial
  | p :: _, h => ⟨h p (.head _), allNe_of fun q hq => h q (.tail _ hq)⟩
/-- the column of a lead that is told by its counts -/
def indIl (cnt : List Int) (size : Int) : Nat → Int
  | 0 => 0
  | k + 1 => indIl cnt size k + Int.fdiv (size + k) size * cnt.getD (size + k).toNat 0
def indent (cnt : List Int) (b nt size : Int) : Int := b + size * (indIl cnt size ((cnt.length : Int) - size).toNat + nt)


theorem bump_pos {cnt : List Int} {b : Int} (h : (cnt.length : Int) ≤ b) : (cnt ++ (List.replicate (b - cnt.length + 1).toNat [0]).flatten).set b.toNat ((cnt ++ (List.replicate (b - cnt.length + 1).toNat [0]).flatten).getD b.toNat 0 + 1) = bump cnt b := by
  unfold bump; rw [if_pos h]
theorem bump_neg {cnt : List Int} {b : Int} (h : ¬ (cnt.length : Int) ≤ b) : cnt.set b.toNat (cnt.getD b.toNat 0 + 1) = bump cnt b := by
  unfold bump; rw [if_neg h]
theorem has_of {h₀ g h : Heap} {L : Addr} {led : List (Addr × Obj)} (N : News g L h led) (hg : h₀.StaysIn g) : Has h₀ h led := fun q hq => ⟨(N q hq).1, by
  cases e : h₀.get? q.1 with
  | none => rfl
  | some o' =>
    have h1 := (N q hq).2.2
    rw [hg _ _ e] at h1
    cases h1⟩


theorem after_fr {h₀ h h' : Heap} {L : Addr} {m : PySem.Str → Option Value} {xs : List Addr} (F : Fr h₀ L h m) (hs : SB h h' xs) (hL : L ∉ xs) (h0 : ∀ b ∈ xs, h₀.get? b = none) : Fr h₀ L h' m := by
  obtain ⟨o, es, ep, ho, r⟩ := F.ns
  exact ⟨⟨o, es, ep, hs _ _ ho hL, r⟩, fun b o e => hs _ _ (F.keep b o e) (fun hb => by rw [h0 b hb] at e; cases e), F.above⟩
theorem after_news {h₀ h h' : Heap} {L : Addr} {news : List (Addr × Obj)} {xs : List Addr} (N : News h₀ L h news) (hs : SB h h' xs) (hn : ∀ p ∈ news, p.1 ∉ xs) : News h₀ L h' news :=
  fun p hp => ⟨hs _ _ (N p hp).1 (hn p hp), (N p hp).2⟩
theorem after_led {h₀ h' : Heap} {L : Addr} {led : List (Addr × Obj)} (H : Has h₀ h' led) (hL : ∀ q ∈ led, q.1 ≠ L) : News h₀ L h' led :=
  fun p hp => ⟨(H p hp).1, hL p hp, (H p hp).2⟩
theorem fr_ne {h₀ h : Heap} {L a : Addr} {m : PySem.Str → Option Value} (F : Fr h₀ L h m) (e : h.get? a = none) : a ≠ L := by
  obtain ⟨o, _, _, ho, _⟩ := F.ns
  rintro rfl
  rw [ho] at e; cases e
theorem news_ne {h₀ h : Heap} {L a : Addr} {news : List (Addr × Obj)} (N : News h₀ L h news) (e : h.get? a = none) : ∀ p ∈ news, p.1 ≠ a := by
  rintro p hp rfl
  rw [(N p hp).1] at e; cases e


theorem stays_of {h₀ h g h' : Heap} {L : Addr} {led : List (Addr × Obj)} (hs : SB h g (led.map (·.1))) (hn : Has h₀ h led) (k : ∀ b o, g.get? b = some o → h'.get? b = some o) (N : News g L h' led) : h.StaysIn h' := by
  intro b o e
  by_cases hb : b ∈ led.map (·.1)
  · obtain ⟨q, hq, rfl⟩ := List.mem_map.mp hb
    have h1 := (hn q hq).1
    rw [e] at h1
    rw [(N q hq).1, Option.some.inj h1]
  · exact k _ _ (hs _ _ e hb)
section
variable {prog : Program} {w : World} {A : Around} {E : Value → Shared → Prop} {s : Shared} {h₀ : Heap} {L l : Addr} {m : PySem.Str → Option Value} {news : List (Addr × Obj)}
theorem my_lenT {vs : List Value} {k : Nat} {Q : Value → Shared → Prop} (N : News h₀ L s.heap news) (hm : (l, tupO vs) ∈ news) (hz : vs.length = k) (hk : k ≤ 1000000)
    (h : Q (.int (k : Int) (s.toks + 1)) { s with toks := s.toks + 1 + 1 }) : wpAny (model prog w) A (call (.builtin "len") [.ref l]) Q E s := by
  have e : (vs.toArray.size : Int) = (k : Int) := by rw [List.size_toArray, hz]
  refine len_tuple (items := vs.toArray) ⟨_, (N _ hm).1, rfl, 0, rfl⟩ (by rw [e]; omega) ?_
  rw [e]; exact h
end


/-- a number's letters, sixteen of them, the first for nought -/
def apN (n : Nat) : List UInt8 := if _h : n = 0 then [] else apN (n / 16) ++ [UInt8.ofNat (65 + n % 16)]
termination_by n
decreasing_by omega
theorem apN_pos {n : Nat} (h : n ≠ 0) : apN n = apN (n / 16) ++ [UInt8.ofNat (65 + n % 16)] := by rw [apN, dif_neg h]
theorem apN_zero : apN 0 = [] := by rw [apN, dif_pos rfl]
abbrev APs : Array UInt8 := #[65, 66, 67, 68, 69, 70, 71, 72, 73, 74, 75, 76, 77, 78, 79, 80]
theorem ap_picked {i : Int} (h0 : 0 ≤ i) (h16 : i < 16) : KBy.picked APs (some i) (some (i + 1)) = #[UInt8.ofNat (65 + i.toNat)] := by
  have h : ∀ k : Fin 16, KBy.picked APs (some (k.val : Int)) (some ((k.val : Int) + 1)) = #[UInt8.ofNat (65 + k.val)] := by decide +kernel
  have := h ⟨i.toNat, by omega⟩
  simp only at this
  rw [Int.toNat_of_nonneg h0] at this
  exact this
section
variable {prog : Program} {w : World} {A : Around} {E : Value → Shared → Prop} {s : Shared} {value slice : PySem.Expr} {t ti ti2 : Tok} {h₀ : Heap} {L : Addr} {m : PySem.Str → Option Value} {news : List (Addr × Obj)} {Q : Value → Shared → Prop} {i : Int}
theorem ap_slice (hF : Fr h₀ L s.heap m) (hN : News h₀ L s.heap news) (h0 : 0 ≤ i) (h16 : i < 16)
    (h : ∀ h' t' k, Fr h₀ L h' m → News h₀ L h' news → Q (.bytes #[UInt8.ofNat (65 + i.toNat)] t') { s with heap := h', toks := k })
    (hs : subscripted slice false (.bytes APs t) (.ref s.heap.objs.size) = operate [.ref s.heap.objs.size, .bytes APs t] (getItem (.bytes APs t) (.ref s.heap.objs.size)) := by with_unfolding_all rfl)
    (ht : ∀ r, letTemporaryGo value (.bytes APs t) r = pure () := by intro _; with_unfolding_all rfl) :
    wpAny (model prog w) A (subscriptTail value slice (.bytes APs t) (.ref s.heap.objs.size)) Q E { s with heap := s.heap.push { cls := .type "slice", data := .fields #[.int i ti, .int (i + 1) ti2, .none] } } := by
  refine KBc.slice_K (ks := KBw.bInts APs) hF hN rfl (lo := some i) (hi := some (i + 1)) (by constructor) (by constructor) (by decide +kernel) (fun h' t' k F' N' _ => ?_) hs ht
  rw [ap_picked h0 h16]
  exact h h' t' k F' N'
end
end B0s
section B1s
def PairAt (h : Heap) (v : Value) (p : PySem.Str × PySem.Str) : Prop := ∃ a t1 t2, v = .ref a ∧ h.get? a = some (tupO [.str p.1 t1, .str p.2 t2])
/-- a list's items are pairs of texts -/
def PairsAt (h : Heap) (vs : List Value) (tbl : List (PySem.Str × PySem.Str)) : Prop := vs.length = tbl.length ∧ ∀ (i : Nat) v, vs[i]? = some v → ∃ p, tbl[i]? = some p ∧ PairAt h v p
def notTup (led : List (Addr × Obj)) : Bool := led.all fun q => match q.2.cls with | .type "tuple" => false | _ => true
theorem PairAt.sub {h g : Heap} {v : Value} {p : PySem.Str × PySem.Str} {led : List (Addr × Obj)} (x : PairAt h v p) (hs : SB h g (led.map (·.1))) (hl : ∀ q ∈ led, h.get? q.1 = some q.2) (hn : notTup led = true) : PairAt g v p := by
  obtain ⟨a, t1, t2, rfl, ha⟩ := x
  refine ⟨a, t1, t2, rfl, hs _ _ ha fun hb => ?_⟩
  obtain ⟨q, hq, rfl⟩ := List.mem_map.mp hb
  have h1 := List.all_eq_true.mp hn q hq
  have h2 := hl q hq
  rw [ha] at h2
  rw [← Option.some.inj h2] at h1
  cases h1
theorem PairsAt.sub {h g : Heap} {vs : List Value} {tbl : List (PySem.Str × PySem.Str)} {led : List (Addr × Obj)} (x : PairsAt h vs tbl) (hs : SB h g (led.map (·.1))) (hl : ∀ q ∈ led, h.get? q.1 = some q.2) (hn : notTup led = true) : PairsAt g vs tbl :=
  ⟨x.1, fun i v e => let ⟨p, e2, y⟩ := x.2 i v e; ⟨p, e2, y.sub hs hl hn⟩⟩
theorem PairsAt.keeps {h g : Heap} {vs : List Value} {tbl : List (PySem.Str × PySem.Str)} (x : PairsAt h vs tbl) (k : ∀ b o, h.get? b = some o → g.get? b = some o) : PairsAt g vs tbl :=
  ⟨x.1, fun i v e => let ⟨p, e2, a, t1, t2, e3, e4⟩ := x.2 i v e; ⟨p, e2, a, t1, t2, e3, k _ _ e4⟩⟩
def cleanN (v : PySem.Str) : Prop := (∀ c ∈ v.cps.toList, 32 ≤ c ∧ c < 127) ∧ v.cps.size ≤ 1000000
def cleanV (v : PySem.Str) : Prop := (∀ c ∈ v.cps.toList, (32 ≤ c ∨ c = 9) ∧ c < 127) ∧ v.cps.size ≤ 1000000
theorem cleanN.ok {v : PySem.Str} (h : cleanN v) : ∀ c ∈ v.cps.toList, (32 ≤ c ∨ (true = false ∧ c = 9)) ∧ c < 127 := fun c hc => ⟨.inl (h.1 c hc).1, (h.1 c hc).2⟩
theorem cleanV.ok {v : PySem.Str} (h : cleanV v) : ∀ c ∈ v.cps.toList, (32 ≤ c ∨ (false = false ∧ c = 9)) ∧ c < 127 := fun c hc => ⟨(h.1 c hc).1.imp id fun e => ⟨rfl, e⟩, (h.1 c hc).2⟩


theorem sb_of {h₀ h g h' : Heap} {L : Addr} {led led' : List (Addr × Obj)} {xs : List Addr} (hs : SB h g (led.map (·.1))) (hn : Has h₀ h led) (k : ∀ b o, g.get? b = some o → h'.get? b = some o) (N : News g L h' led') (hx : ∀ q ∈ led, q.1 ∈ xs ∨ q ∈ led') : SB h h' xs := by
  intro b o e hb
  by_cases hb2 : b ∈ led.map (·.1)
  · obtain ⟨q, hq, rfl⟩ := List.mem_map.mp hb2
    have h1 := (hn q hq).1
    rw [e] at h1
    rcases hx q hq with h2 | h2
    · exact absurd h2 hb
    · rw [(N q h2).1, Option.some.inj h1]
  · exact k _ _ (hs _ _ e hb2)


theorem enterC {K : Frag} {prog : Program} {w : World} {s : Shared} {A : Around} {f : Addr} {args : Args} {name qual : PySem.Str} {params : Arguments} {body : List Stmt} {scope : Scope}
    {dV kV doc pm cdv ct oc : Value} {an od : Option Addr} {osl : Array (Option Value)} {binds : List (PySem.Str × Value)} {R : Result → Shared → Prop}
    {h₀ : Heap} {p : Program} {loose : List PySem.Str} {mean : ExcName → Option Value} {mg mb : PySem.Str → Option Value} {news : List (Addr × Obj)}
    (X : K.In h₀) (T : Top p loose mean mg mb h₀) (hk : h₀.StaysIn s.heap) (hn : ∀ q ∈ news, s.heap.get? q.1 = some q.2 ∧ h₀.get? q.1 = none)
    (ho : K.lookup f = some ⟨oc, od, .func (fnOf name qual params body scope dV kV doc pm an cdv ct), osl⟩) (hcd : codeIn K cdv qual = true) (hroom : A.depth < recursionLimit)
    (hbind : BindsTo s (fnOf name qual params body scope dV kV doc pm an cdv ct) args binds)
    (hkind : (binds.all fun y => scope.names.lookup y.1 == some .local || scope.names.lookup y.1 == some .cell) = true)
    (hnd : ((cellsFrom 0 scope.names []).map (·.1)).Nodup)
    (h : ∀ g L h₁ tk cells, h₀.StaysIn g → SB s.heap g (news.map (·.1)) → Fr g L h₁ (bindL (envOfC qual scope L f cdv).kindOf binds fun _ => none) → News g L h₁ (cells ++ news) →
      CellsAre (bindC (envOfC qual scope L f cdv).kindOf binds fun _ => none) (cellsFrom (L + 1) scope.names []) cells → K.In g → Top p loose mean mg mb g → (∀ p ∈ news, p.1 < L) →
      wpAny (model prog w) (A.deeper (envOfC qual scope L f cdv)) (execs body (envOfC qual scope L f cdv))
        (fun fl s' => R (.ok (.ret (match fl with | .ret v => v | _ => .none))) s') NoE { s with heap := h₁, toks := tk })
    (hco : scope.isCoroutine = false) (hgen : scope.isGenerator = false) (hkd : scope.kind = .function) :
    codeAny (model prog w) A (.call (.ref f) args) R s := by
  have Xs : K.In s.heap := X.keeps hk
  have nm : ∀ b o, h₀.get? b = some o → b ∉ news.map (·.1) := fun b o e q => by
    obtain ⟨p, hp, rfl⟩ := List.mem_map.mp q
    rw [(hn p hp).2] at e; cases e
  have st : h₀.StaysIn (hideAll s.heap (news.map (·.1))) := fun b o e => hideAll_get _ (hk b o e) (nm b o e)
  refine codeAny_call_function hroom (Xs _ _ ho) rfl hco hgen rfl (codeRec_of Xs hcd) (hbind _ _ _ _ ?_)
  refine wpAny_newFunctionEnv_cells hkd (kindsX hkind _) fun env' he s' x => ?_
  subst he
  refine ⟨(T.nolimit.keeps hk).keeps x.toInCall.keep, codeAny_func ?_⟩
  obtain ⟨h₁, tk, rfl, _⟩ := x.done
  have hk₁ := x.toInCall.keep
  obtain ⟨cells, NC, Y⟩ := Cl.news (h₀ := s.heap) (Nat.le_refl _) fun n c hm => ⟨x.cell n c (lookup_of_mem_nodup (cellsFrom_names scope.names 0 (s.heap.objs.size + 1) [] [] rfl ▸ hnd) hm), x.above n c hm⟩
  refine wpAny_mono (h (hideAll s.heap (news.map (·.1))) s.heap.objs.size h₁ tk cells st (fun b o e hb => hideAll_get _ e hb) ⟨x.toInCall.ns, fun b o e => hk₁ b o (of_hideAll _ e), Nat.le_of_eq (hideAll_size _ _)⟩ (fun p hp => ?_) Y (X.keeps fun b o e => st b o e) (T.keeps fun b o e => st b o e) (fun p hp => Heap.lt_size (hn p hp).1)) (fun fl s' hl => hl) fun _ _ y => y.elim
  rcases List.mem_append.mp hp with hp | hp
  · refine ⟨(NC p hp).1, (NC p hp).2.1, ?_⟩
    cases q : (hideAll s.heap (news.map (·.1))).get? p.1 with
    | none => rfl
    | some o => have := of_hideAll _ q; rw [(NC p hp).2.2] at this; cases this
  · exact ⟨hk₁ _ _ (hn p hp).1, Nat.ne_of_lt (Heap.lt_size (hn p hp).1), hideAll_none _ (List.mem_map_of_mem hp)⟩
end B1s
section B2s
open LCg
theorem cleanN.low {v : PySem.Str} (h : cleanN v) : v.length ≤ 5592405 := Nat.le_trans h.2 (Nat.le_of_ble_eq_true rfl)
section
variable {prog : Program} {w : World} {A : Around} {s : Shared} {h₀ : Heap} {L : Addr} {m : PySem.Str → Option Value} {env : Env}
/-- the turns of a comprehension with a test, by an invariant -/
theorem compT_J {ct elt : PySem.Expr} {x : PySem.Str} {scope : Scope} {cl : List (PySem.Str × Addr)} {S : List (Addr × Obj) → Prop} {P : Nat → Value → Prop} {Fin : List Value → List (Addr × Obj) → Prop} {n : Nat}
    (J : Nat → List Value → List (Addr × Obj) → Prop)
    (turn : ∀ i ys news v I oI C oC D m₂ h tk (E' : Value → Shared → Prop), J i ys news → i < n → P i v → NsObj oC m₂ → m₂ x = some v → Fr h₀ L h m → News h₀ L h ((I, oI) :: (C, oC) :: (D, lst ys) :: news) → Off3 I C D news → ((@Ne Nat I C) ∧ (@Ne Nat I D) ∧ (@Ne Nat C D)) →
      wpAny (model prog w) A (isTrue ct (compEnvC scope cl C env) (eval ct (compEnvC scope cl C env))) (fun ok s' => if ok = true then
        wpAny (model prog w) A (eval elt (compEnvC scope cl C env)) (CompEnd h₀ L m { s with heap := h, toks := tk } I oI C oC D (lst ys) S (fun y news' => Stop (J (i + 1) (ys ++ [y]) news'))) E' s'
        else CompEnd h₀ L m { s with heap := h, toks := tk } I oI C oC D (lst ys) S (fun _ news' => Stop (J (i + 1) ys news')) Value.none s') E' { s with heap := h, toks := tk })
    (done : ∀ ys news, J n ys news → Fin ys news) : ∀ k i ys news, i + k = n → J i ys news → LCt.CompRestT prog w A h₀ L m env ct elt x scope cl s S P Fin k i ys news
  | 0, i, ys, news, e, hJ => by
    obtain rfl : i = n := by omega
    exact done ys news hJ
  | k + 1, i, ys, news, e, hJ => by
    intro v I oI C oC D m₂ h tk E' hP hC hx F N o3 ne
    refine wpAny_mono (turn i ys news v I oI C oC D m₂ h tk E' hJ (by omega) hP hC hx F N o3 ne) (fun ok s' hq => ?_) fun _ _ y => y
    cases ok with
    | true =>
      simp only [if_true] at hq ⊢
      refine wpAny_mono hq (fun y s₂ hc => ?_) fun _ _ y => y
      obtain ⟨h', tk', news', e1, F', N', o', S', r⟩ := hc
      exact ⟨h', tk', news', e1, F', N', o', S', compT_J J turn done k (i + 1) _ _ (by omega) r⟩
    | false =>
      simp only [Bool.false_eq_true, if_false] at hq ⊢
      obtain ⟨h', tk', news', e1, F', N', o', S', r⟩ := hq
      exact ⟨h', tk', news', e1, F', N', o', S', compT_J J turn done k (i + 1) _ _ (by omega) r⟩
/-- the turns of a comprehension without a test, by an invariant -/
theorem compU_J {elt : PySem.Expr} {x : PySem.Str} {scope : Scope} {cl : List (PySem.Str × Addr)} {S : List (Addr × Obj) → Prop} {P : Nat → Value → Prop} {Fin : List Value → List (Addr × Obj) → Prop} {n : Nat}
    (J : Nat → List Value → List (Addr × Obj) → Prop)
    (turn : ∀ i ys news v I oI C oC D m₂ h tk (E' : Value → Shared → Prop), J i ys news → i < n → P i v → NsObj oC m₂ → m₂ x = some v → Fr h₀ L h m → News h₀ L h ((I, oI) :: (C, oC) :: (D, lst ys) :: news) → Off3 I C D news → ((@Ne Nat I C) ∧ (@Ne Nat I D) ∧ (@Ne Nat C D)) →
      wpAny (model prog w) A (eval elt (compEnvC scope cl C env)) (CompEnd h₀ L m { s with heap := h, toks := tk } I oI C oC D (lst ys) S (fun y news' => Stop (J (i + 1) (ys ++ [y]) news'))) E' { s with heap := h, toks := tk })
    (done : ∀ ys news, J n ys news → Fin ys news) : ∀ k i ys news, i + k = n → J i ys news → CompRest prog w A h₀ L m env elt x scope cl s S P Fin k i ys news
  | 0, i, ys, news, e, hJ => by
    obtain rfl : i = n := by omega
    exact done ys news hJ
  | k + 1, i, ys, news, e, hJ => by
    intro v I oI C oC D m₂ h tk E' hP hC hx F N o3 ne
    refine wpAny_mono (turn i ys news v I oI C oC D m₂ h tk E' hJ (by omega) hP hC hx F N o3 ne) (fun y s' hc => ?_) fun _ _ y => y
    obtain ⟨h', tk', news', e1, F', N', o', S', r⟩ := hc
    exact ⟨h', tk', news', e1, F', N', o', S', compU_J J turn done k (i + 1) _ _ (by omega) r⟩
/-- the same with a ledger that stays -/
theorem compT_K {ct elt : PySem.Expr} {x : PySem.Str} {scope : Scope} {cl : List (PySem.Str × Addr)} {S : List (Addr × Obj) → Prop} {P : Nat → Value → Prop} {Fin : List Value → List (Addr × Obj) → Prop} {n : Nat} {news : List (Addr × Obj)}
    (J : Nat → List Value → Prop)
    (turn : ∀ i ys v I oI C oC D m₂ h tk (E' : Value → Shared → Prop), J i ys → i < n → P i v → NsObj oC m₂ → m₂ x = some v → Fr h₀ L h m → News h₀ L h ((I, oI) :: (C, oC) :: (D, lst ys) :: news) → Off3 I C D news → ((@Ne Nat I C) ∧ (@Ne Nat I D) ∧ (@Ne Nat C D)) →
      wpAny (model prog w) A (isTrue ct (compEnvC scope cl C env) (eval ct (compEnvC scope cl C env))) (fun ok s' => if ok = true then
        wpAny (model prog w) A (eval elt (compEnvC scope cl C env)) (CompEnd h₀ L m { s with heap := h, toks := tk } I oI C oC D (lst ys) S (fun y news' => Stop (news' = news ∧ J (i + 1) (ys ++ [y])))) E' s'
        else CompEnd h₀ L m { s with heap := h, toks := tk } I oI C oC D (lst ys) S (fun _ news' => Stop (news' = news ∧ J (i + 1) ys)) Value.none s') E' { s with heap := h, toks := tk })
    (done : ∀ ys, J n ys → Fin ys news) (h0 : J 0 []) : LCt.CompRestT prog w A h₀ L m env ct elt x scope cl s S P Fin n 0 [] news :=
  compT_J (fun i ys nw => nw = news ∧ J i ys) (fun i ys nw v I oI C oC D m₂ h tk E' hJ hi hP hC hx F N o3 ne => by
    obtain ⟨rfl, hJ⟩ := hJ
    exact turn i ys v I oI C oC D m₂ h tk E' hJ hi hP hC hx F N o3 ne) (fun ys nw hJ => by obtain ⟨rfl, hJ⟩ := hJ; exact done ys hJ) n 0 [] news (Nat.zero_add _) ⟨rfl, h0⟩
theorem compU_K {elt : PySem.Expr} {x : PySem.Str} {scope : Scope} {cl : List (PySem.Str × Addr)} {S : List (Addr × Obj) → Prop} {P : Nat → Value → Prop} {Fin : List Value → List (Addr × Obj) → Prop} {n : Nat} {news : List (Addr × Obj)}
    (J : Nat → List Value → Prop)
    (turn : ∀ i ys v I oI C oC D m₂ h tk (E' : Value → Shared → Prop), J i ys → i < n → P i v → NsObj oC m₂ → m₂ x = some v → Fr h₀ L h m → News h₀ L h ((I, oI) :: (C, oC) :: (D, lst ys) :: news) → Off3 I C D news → ((@Ne Nat I C) ∧ (@Ne Nat I D) ∧ (@Ne Nat C D)) →
      wpAny (model prog w) A (eval elt (compEnvC scope cl C env)) (CompEnd h₀ L m { s with heap := h, toks := tk } I oI C oC D (lst ys) S (fun y news' => Stop (news' = news ∧ J (i + 1) (ys ++ [y])))) E' { s with heap := h, toks := tk })
    (done : ∀ ys, J n ys → Fin ys news) (h0 : J 0 []) : CompRest prog w A h₀ L m env elt x scope cl s S P Fin n 0 [] news :=
  compU_J (fun i ys nw => nw = news ∧ J i ys) (fun i ys nw v I oI C oC D m₂ h tk E' hJ hi hP hC hx F N o3 ne => by
    obtain ⟨rfl, hJ⟩ := hJ
    exact turn i ys v I oI C oC D m₂ h tk E' hJ hi hP hC hx F N o3 ne) (fun ys nw hJ => by obtain ⟨rfl, hJ⟩ := hJ; exact done ys hJ) n 0 [] news (Nat.zero_add _) ⟨rfl, h0⟩
end

/-- those items whose name is asked for -/
def fpair (q : PySem.Str → Bool) : List Value → List (PySem.Str × PySem.Str) → List Value
  | v :: vs, p :: ps => if q p.1 then v :: fpair q vs ps else fpair q vs ps
  | _, _ => []
theorem fpair_snoc {q : PySem.Str → Bool} {v : Value} {p : PySem.Str × PySem.Str} : ∀ {vs : List Value} {ps : List (PySem.Str × PySem.Str)}, vs.length = ps.length → fpair q (vs ++ [v]) (ps ++ [p]) = fpair q vs ps ++ (if q p.1 then [v] else [])
  | [], [], _ => by simp only [List.nil_append, fpair]
  | a :: vs, b :: ps, h => by
    have ih := fpair_snoc (q := q) (v := v) (p := p) (vs := vs) (ps := ps) (by simpa using h)
    show (if q b.1 then a :: fpair q (vs ++ [v]) (ps ++ [p]) else fpair q (vs ++ [v]) (ps ++ [p])) = (if q b.1 then a :: fpair q vs ps else fpair q vs ps) ++ _
    rw [ih]
    cases q b.1 <;> rfl
theorem fpair_take {q : PySem.Str → Bool} {i : Nat} {v : Value} {p : PySem.Str × PySem.Str} {vs : List Value} {ps : List (PySem.Str × PySem.Str)} (hl : vs.length = ps.length) (hv : vs[i]? = some v) (hp : ps[i]? = some p) :
    fpair q (vs.take (i + 1)) (ps.take (i + 1)) = fpair q (vs.take i) (ps.take i) ++ (if q p.1 then [v] else []) := by
  rw [List.take_add_one, List.take_add_one, hv, hp]
  exact fpair_snoc (by rw [List.length_take, List.length_take, hl])
theorem fpair_len {q : PySem.Str → Bool} : ∀ {vs : List Value} {ps : List (PySem.Str × PySem.Str)}, (fpair q vs ps).length ≤ vs.length
  | [], _ => Nat.le_of_eq (by simp only [fpair])
  | _ :: _, [] => by simp only [fpair]; exact Nat.zero_le _
  | v :: vs, p :: ps => by
    have ih := fpair_len (q := q) (vs := vs) (ps := ps)
    show (if q p.1 then v :: fpair q vs ps else fpair q vs ps).length ≤ vs.length + 1
    split
    · exact Nat.succ_le_succ ih
    · exact Nat.le_succ_of_le ih
theorem PairsAt.tail {h : Heap} {v : Value} {vs : List Value} {p : PySem.Str × PySem.Str} {ps : List (PySem.Str × PySem.Str)} (x : PairsAt h (v :: vs) (p :: ps)) : PairAt h v p ∧ PairsAt h vs ps := by
  refine ⟨?_, by simpa using x.1, fun i w e => ?_⟩
  · obtain ⟨p', e, y⟩ := x.2 0 v rfl
    exact Option.some.inj e ▸ y
  · exact x.2 (i + 1) w e
theorem PairsAt.cons {h : Heap} {v : Value} {vs : List Value} {p : PySem.Str × PySem.Str} {ps : List (PySem.Str × PySem.Str)} (y : PairAt h v p) (x : PairsAt h vs ps) : PairsAt h (v :: vs) (p :: ps) := by
  refine ⟨congrArg (· + 1) x.1, fun i w e => ?_⟩
  cases i with
  | zero => exact ⟨p, rfl, Option.some.inj e ▸ y⟩
  | succ i => exact x.2 i w e
theorem PairsAt.nil {h : Heap} : PairsAt h [] [] := ⟨rfl, fun i w e => by simp at e⟩
theorem PairsAt.app {h : Heap} : ∀ {vs ws : List Value} {ps qs : List (PySem.Str × PySem.Str)}, PairsAt h vs ps → PairsAt h ws qs → PairsAt h (vs ++ ws) (ps ++ qs)
  | [], _, [], _, _, y => y
  | _ :: _, _, _ :: _, _, x, y => PairsAt.cons x.tail.1 (PairsAt.app x.tail.2 y)
  | [], _, _ :: _, _, x, _ => absurd x.1 (by simp)
  | _ :: _, _, [], _, x, _ => absurd x.1 (by simp)
theorem PairsAt.filt {h : Heap} {q : PySem.Str → Bool} : ∀ {vs : List Value} {ps : List (PySem.Str × PySem.Str)}, PairsAt h vs ps → PairsAt h (fpair q vs ps) (ps.filter fun p => q p.1)
  | [], [], _ => PairsAt.nil
  | v :: vs, p :: ps, x => by
    have ih := PairsAt.filt (q := q) x.tail.2
    show PairsAt h (if q p.1 then v :: fpair q vs ps else fpair q vs ps) (List.filter (fun p => q p.1) (p :: ps))
    cases e : q p.1 with
    | true => rw [List.filter_cons_of_pos (by simpa using e)]; exact PairsAt.cons x.tail.1 ih
    | false => rw [List.filter_cons_of_neg (by simpa using e)]; exact ih
  | [], _ :: _, x => absurd x.1 (by simp)
  | _ :: _, [], x => absurd x.1 (by simp)
end B2s
section B3s
/-- a Headers as it lies -/
abbrev hdObjs (P : Params) (C x dx l : Addr) (k : Tok) (vs : List Value) (n : Nat) : List (Addr × Obj) :=
  [(x, instObj C dx), (dx, dictOf [strKey P "_headers" k (.ref l)] 1), (l, listOf vs.toArray n)]
section
variable {prog : Program} {w : World} {A : Around} {E : Value → Shared → Prop} {s : Shared}
theorem setItem_all {l sl d : Addr} {xs ys : Array Value} {n k : Nat} {Q : Unit → Shared → Prop} (hl : s.heap.get? l = some (seqObj "list" xs n)) (hd : s.heap.get? d = some (seqObj "list" ys k)) (hs : s.heap.IsSliceOf sl .none .none .none)
    (hx : xs.size ≤ 1000000) (hy : ys.size ≤ 1000000)
    (h : ∀ h' n', h'.get? l = some (seqObj "list" ys n') → (∀ b o, b ≠ l → s.heap.get? b = some o → h'.get? b = some o) → Q () { s with heap := h' }) :
    wpAny (model prog w) A (setItem (.ref l) (.ref sl) (.ref d)) Q E s := by
  have hL : s.heap.IsList l xs := ⟨_, hl, rfl, n, rfl⟩
  have hD : s.heap.IsList d ys := ⟨_, hd, rfl, k, rfl⟩
  obtain ⟨os, hos, hcs, hds⟩ := id hs
  have hTs : s.TypeIs (.ref sl) "slice" := ⟨os, hos, hcs⟩
  unfold setItem
  try with_reducible refine wpAny_holding ?_
  first | refine wpAny_bind (wpAny_pure ?_) | skip
  refine wpAny_bind (wpAny_sequenceKey hL.typeIs (by decide) ?_)
  refine wpAny_bind (wpAny_callSpecial?_slot (name := Str.ofString "__setitem__") hL.typeIs slot_list_setitem
    (wpAny_call_entry slot_list_setitem hL.typeIs entry_list_setitem ?_ (args_list_setitem _ _ _)))
  show wpAny _ _ (Builtin.List.listSubscript? (.ref sl) >>= _) _ _ s
  refine wpAny_bind ?_
  · unfold Builtin.List.listSubscript?
    refine wpAny_bind (wpAny_specialOf hTs slice_no_index ?_)
    simp only [Option.isNone_none, if_true]
    refine wpAny_pure ?_
    show wpAny _ _ (typeOf (.ref sl) >>= _) _ _ s
    refine wpAny_bind (wpAny_typeOf hTs ?_)
    rw [if_neg (by decide)]
    rw [listSliceParts_eq]
    refine wpAny_bind (wpAny_bind (wpAny_field hos hds (x := .none) rfl (wpAny_bind (wpAny_listPart .none ?_))))
    rw [if_neg (show ¬ ((rawPart none == rawInt 0) = true) from Bool.false_ne_true)]
    refine wpAny_bind (wpAny_field hos hds (x := .none) rfl (wpAny_bind (wpAny_listPart .none ?_)))
    refine wpAny_bind (wpAny_field hos hds (x := .none) rfl (wpAny_bind (wpAny_listPart .none (wpAny_pure ?_))))
    have hlt : ¬ (Builtin.List.listTooLong (xs.size + ys.size) = true) := by
      unfold Builtin.List.listTooLong
      rw [sizeLine_eq]
      simp only [decide_eq_true_eq]
      omega
    have e0 : (sliceBounds none none none xs.size) = (0, (xs.size : Int), 1) := rfl
    have em : (max (0 : Int) (xs.size : Int)).toNat = xs.size := by omega
    have ez : (xs.extract 0 (0 : Int).toNat ++ ys ++ xs.extract xs.size xs.size) = ys := by
      simp
    have ez2 : (xs.extract 0 (0 : Int).toNat ++ ys ++ xs.extract (max (0 : Int) (xs.size : Int)).toNat xs.size) = ys := by rw [em]; exact ez
    have fin : wpAny (model prog w) A.in1 (Builtin.List.listUpdate (.ref l) fun xs' => xs'.extract 0 (0 : Int).toNat ++ ys ++ xs'.extract (max (0 : Int) (xs.size : Int)).toNat xs'.size)
        (fun _ s' => Q () s') E s := by
      refine listUpdate_at hl rfl ?_ (by rw [sizeLine_eq]; omega) (by rw [ez2, sizeLine_eq]; omega)
      have q := get?_update_seq hl (fun xs' => xs'.extract 0 (0 : Int).toNat ++ ys ++ xs'.extract (max (0 : Int) (xs.size : Int)).toNat xs'.size)
      rw [ez2] at q
      exact h _ _ q fun b o hb e => (Heap.SameBut.update s.heap l _).extBut b o hb e
    split
    · refine wpAny_bind (listItems_at hd rfl ?_)
      refine wpAny_bind (listItems_at hl rfl ?_)
      refine wpAny_bind (wpAny_of_eq (sliceIndices_raw none none none xs.size (by simp)) ?_)
      rw [e0]
      dsimp only
      rw [if_pos (show ((1 : Int) == 1) = true from rfl)]
      refine wpAny_bind (wpAny_rule ?_)
      rw [if_neg hlt]
      refine wpAny_bind (wpAny_mono fin (fun _ s' hq => ?_) fun _ _ y => y)
      exact wpAny_bind (wpAny_letGo (wpAny_pure ⟨.none, rfl, wpAny_pure hq⟩))
    · refine wpAny_bind (m := Builtin.List.listAllItems (.ref d) "must assign iterable to extended slice") ?_
      unfold Builtin.List.listAllItems
      refine wpAny_bind (wpAny_typeOf hD.typeIs ?_)
      rw [if_pos (by decide)]
      refine listItems_at hd rfl ?_
      refine wpAny_bind (listItems_at hl rfl ?_)
      refine wpAny_bind (wpAny_of_eq (sliceIndices_raw none none none xs.size (by simp)) ?_)
      rw [e0]
      dsimp only
      rw [if_pos (show ((1 : Int) == 1) = true from rfl)]
      refine wpAny_bind (wpAny_rule ?_)
      rw [if_neg hlt]
      refine wpAny_bind (wpAny_mono fin (fun _ s' hq => ?_) fun _ _ y => y)
      exact wpAny_bind (wpAny_letGo (wpAny_pure ⟨.none, rfl, wpAny_pure hq⟩))
end
section
variable {prog : Program} {w : World} {A : Around} {E : Value → Shared → Prop} {s : Shared} {h₀ : Heap} {L : Addr} {m : PySem.Str → Option Value} {news : List (Addr × Obj)}
theorem setAll_K {l d : Addr} {xs ys : List Value} {n k : Nat} {Q : Unit → Shared → Prop} (rest : List (Addr × Obj)) (F : Fr h₀ L s.heap m) (N : News h₀ L s.heap news) (hl : (l, listOf xs.toArray n) ∈ news) (hd : (d, listOf ys.toArray k) ∈ news)
    (hr : ∀ p ∈ rest, p ∈ news ∧ p.1 ≠ l) (hx : xs.length ≤ 1000000) (hy : ys.length ≤ 1000000)
    (h : ∀ h' n', Fr h₀ L h' m → News h₀ L h' ((l, listOf ys.toArray n') :: rest) → Q () { s with heap := h' }) :
    wpAny (model prog w) A (setItem (.ref l) (.ref s.heap.objs.size) (.ref d)) Q E { s with heap := s.heap.push { cls := .type "slice", data := .fields #[.none, .none, .none] } } := by
  refine setItem_all (xs := xs.toArray) (ys := ys.toArray) (Heap.get?_push_of_some _ (N _ hl).1) (Heap.get?_push_of_some _ (N _ hd).1) (Heap.IsSliceOf.new ..) (by rw [List.size_toArray]; exact hx) (by rw [List.size_toArray]; exact hy) (fun h' n' e1 e2 => ?_)
  obtain ⟨e3, e4, e5⟩ := N _ hl
  have hs : SB s.heap h' [l] := fun b o e hb => e2 b o (fun q => hb (by rw [q]; exact .head _)) (Heap.get?_push_of_some _ e)
  refine h h' n' (after_fr F hs (fun q => e4 (List.mem_singleton.mp q).symm) (fun b hb => by rw [List.mem_singleton.mp hb]; exact e5)) (fun p hp => ?_)
  rcases List.mem_cons.mp hp with rfl | hp
  · exact ⟨e1, e4, e5⟩
  · exact after_news (fun q hq => N q (hr q hq).1 : News h₀ L s.heap rest) hs (fun q hq hb => (hr q hq).2 (List.mem_singleton.mp hb)) p hp
end
/-- a list's items are pairs of texts, by the ground or by the ledger -/
def PairsIn (h₀ : Heap) (led : List (Addr × Obj)) (vs : List Value) (tbl : List (PySem.Str × PySem.Str)) : Prop :=
  vs.length = tbl.length ∧ ∀ (i : Nat) v, vs[i]? = some v → ∃ p, tbl[i]? = some p ∧ ∃ a t1 t2, v = .ref a ∧ (h₀.get? a = some (tupO [.str p.1 t1, .str p.2 t2]) ∨ (a, tupO [.str p.1 t1, .str p.2 t2]) ∈ led)
theorem PairsIn.at {h₀ h : Heap} {L : Addr} {m : PySem.Str → Option Value} {led : List (Addr × Obj)} {vs : List Value} {tbl : List (PySem.Str × PySem.Str)} (x : PairsIn h₀ led vs tbl) (F : Fr h₀ L h m) (N : News h₀ L h led) : PairsAt h vs tbl :=
  ⟨x.1, fun i v e => by
    obtain ⟨p, e2, a, t1, t2, e3, e4⟩ := x.2 i v e
    refine ⟨p, e2, a, t1, t2, e3, ?_⟩
    rcases e4 with e4 | e4
    · exact F.keep _ _ e4
    · exact (N _ e4).1⟩
theorem PairsIn.nil {h₀ : Heap} {led : List (Addr × Obj)} : PairsIn h₀ led [] [] := ⟨rfl, fun i v e => by simp at e⟩
theorem PairsIn.cons {h₀ : Heap} {led : List (Addr × Obj)} {vs : List Value} {tbl : List (PySem.Str × PySem.Str)} {a : Addr} {t1 t2 : Tok} {p : PySem.Str × PySem.Str} (hm : (a, tupO [.str p.1 t1, .str p.2 t2]) ∈ led) (x : PairsIn h₀ led vs tbl) : PairsIn h₀ led (.ref a :: vs) (p :: tbl) := by
  refine ⟨congrArg (· + 1) x.1, fun i w e => ?_⟩
  cases i with
  | zero => exact ⟨p, rfl, a, t1, t2, (Option.some.inj e).symm, .inr hm⟩
  | succ i => exact x.2 i w e
theorem PairsIn.led {h₀ : Heap} {led led' : List (Addr × Obj)} {vs : List Value} {tbl : List (PySem.Str × PySem.Str)} (x : PairsIn h₀ led vs tbl) (hl : ∀ q ∈ led, q ∈ led') : PairsIn h₀ led' vs tbl :=
  ⟨x.1, fun i v e => let ⟨p, e2, a, t1, t2, e3, e4⟩ := x.2 i v e; ⟨p, e2, a, t1, t2, e3, e4.imp id (hl _)⟩⟩
theorem PairsIn.tail {h₀ : Heap} {led : List (Addr × Obj)} {v : Value} {vs : List Value} {p : PySem.Str × PySem.Str} {ps : List (PySem.Str × PySem.Str)} (x : PairsIn h₀ led (v :: vs) (p :: ps)) : (∃ a t1 t2, v = .ref a ∧ (h₀.get? a = some (tupO [.str p.1 t1, .str p.2 t2]) ∨ (a, tupO [.str p.1 t1, .str p.2 t2]) ∈ led)) ∧ PairsIn h₀ led vs ps := by
  refine ⟨?_, by simpa using x.1, fun i w e => ?_⟩
  · obtain ⟨p', e, y⟩ := x.2 0 v rfl
    exact Option.some.inj e ▸ y
  · exact x.2 (i + 1) w e
theorem PairsIn.cons' {h₀ : Heap} {led : List (Addr × Obj)} {v : Value} {vs : List Value} {p : PySem.Str × PySem.Str} {ps : List (PySem.Str × PySem.Str)} (y : ∃ a t1 t2, v = .ref a ∧ (h₀.get? a = some (tupO [.str p.1 t1, .str p.2 t2]) ∨ (a, tupO [.str p.1 t1, .str p.2 t2]) ∈ led)) (x : PairsIn h₀ led vs ps) : PairsIn h₀ led (v :: vs) (p :: ps) := by
  refine ⟨congrArg (· + 1) x.1, fun i w e => ?_⟩
  cases i with
  | zero => exact ⟨p, rfl, Option.some.inj e ▸ y⟩
  | succ i => exact x.2 i w e
theorem PairsIn.filt {h₀ : Heap} {led : List (Addr × Obj)} {q : PySem.Str → Bool} : ∀ {vs : List Value} {ps : List (PySem.Str × PySem.Str)}, PairsIn h₀ led vs ps → PairsIn h₀ led (fpair q vs ps) (ps.filter fun p => q p.1)
  | [], [], _ => PairsIn.nil
  | v :: vs, p :: ps, x => by
    have ih := PairsIn.filt (q := q) x.tail.2
    show PairsIn h₀ led (if q p.1 then v :: fpair q vs ps else fpair q vs ps) (List.filter (fun p => q p.1) (p :: ps))
    cases e : q p.1 with
    | true => rw [List.filter_cons_of_pos (by simpa using e)]; exact PairsIn.cons' x.tail.1 ih
    | false => rw [List.filter_cons_of_neg (by simpa using e)]; exact ih
  | [], _ :: _, x => absurd x.1 (by simp)
  | _ :: _, [], x => absurd x.1 (by simp)
theorem PairsIn.app {h₀ : Heap} {led : List (Addr × Obj)} : ∀ {vs ws : List Value} {ps qs : List (PySem.Str × PySem.Str)}, PairsIn h₀ led vs ps → PairsIn h₀ led ws qs → PairsIn h₀ led (vs ++ ws) (ps ++ qs)
  | [], _, [], _, _, y => y
  | _ :: _, _, _ :: _, _, x, y => PairsIn.cons' x.tail.1 (PairsIn.app x.tail.2 y)
  | [], _, _ :: _, _, x, _ => absurd x.1 (by simp)
  | _ :: _, _, [], _, x, _ => absurd x.1 (by simp)
/-- what a table says to a name in small letters -/
def tget (tbl : List (PySem.Str × PySem.Str)) (low : PySem.Str) : Option PySem.Str := (tbl.find? fun p => Txt.lower p.1 == low).map (·.2)
theorem tget_some {tbl : List (PySem.Str × PySem.Str)} {low : PySem.Str} {i : Nat} {p : PySem.Str × PySem.Str} (hi : tbl[i]? = some p) (e : Txt.lower p.1 = low) (hno : ∀ (j : Nat) (q : PySem.Str × PySem.Str), j < i → tbl[j]? = some q → Txt.lower q.1 ≠ low) : tget tbl low = some p.2 := by
  unfold tget
  have : tbl.find? (fun p => Txt.lower p.1 == low) = some p := by
    induction tbl generalizing i with
    | nil => simp at hi
    | cons a r ih =>
      cases i with
      | zero =>
        obtain rfl : a = p := by simpa using hi
        rw [List.find?_cons_of_pos (by rw [e]; exact beq_self_eq_true low)]
      | succ i =>
        rw [List.find?_cons_of_neg (by
          have := hno 0 a (Nat.succ_pos i) rfl
          intro h
          exact this (eq_of_beq h))]
        exact ih (by simpa using hi) fun j q hj hq => hno (j + 1) q (Nat.succ_lt_succ hj) (by simpa using hq)
  rw [this]; rfl
theorem tget_none {tbl : List (PySem.Str × PySem.Str)} {low : PySem.Str} (h : ∀ q ∈ tbl, Txt.lower q.1 ≠ low) : tget tbl low = none := by
  unfold tget
  rw [List.find?_eq_none.mpr (fun q hq e => h q hq (eq_of_beq e))]; rfl
theorem none_of {h g : Heap} {xs : List Addr} {D : Addr} (hs : SB h g xs) (e : g.get? D = none) (hb : D ∉ xs) : h.get? D = none := by
  cases q : h.get? D with
  | none => rfl
  | some o => rw [hs _ _ q hb] at e; cases e
theorem new_off {h₀ h : Heap} {L D : Addr} {news : List (Addr × Obj)} (N : News h₀ L h news) (hD : @LE.le Nat _ h.objs.size D) : D ∉ news.map (·.1) := by
  intro hb
  obtain ⟨q, hq, e⟩ := List.mem_map.mp hb
  have h1 : @LT.lt Nat _ q.1 h.objs.size := Heap.lt_size (N q hq).1
  have h2 : @Eq Nat q.1 D := e
  omega
section
variable {M : Model} {A : Around} {E : Value → Shared → Prop} {s : Shared} {K : Frag} {x C L f : Addr} {h₀ : Heap} {m : PySem.Str → Option Value} {ox : Obj} {od : Option Obj} {i v : Value}
theorem my_delItem {Q : Unit → Shared → Prop} (F : Fr h₀ L s.heap m) (X₀ : K.In h₀) (I : InstAt s.heap x ox C od) (hq : noSeq K C = true) (hs : findIn K (.ref C) "__delitem__" = some (some (.ref f))) (hf : isFn K (.ref f) = true)
    (h : wpAny M A (call (.ref f) [.ref x, i]) (fun _ s' => Q () s') E s) : wpAny M A (delItem (.ref x) i) Q E s := by
  have X := X₀.keeps F.keep
  unfold delItem sequenceKey
  refine wpAny_holding (wpAny_bind (wpAny_bind (I.type.here ?_)))
  refine wpAny_bind ((anyM_none X hq).here ?_)
  rw [if_pos (show (!false) = true from rfl)]
  exact wpAny_pure (wpAny_bind (special_fn X I hs (beq_iff_eq.mp hf) (wpAny_mono h (fun _ _ z => wpAny_pure z) fun _ _ z => z)))
end
end B3s
section DCs
open Builtin
section
variable {b : Array UInt8} {c : UInt8} {cs : List UInt8} {t : Tok} {x : PySem.Str} {n : Nat}
theorem dc_road {id : String} : _codecs.decodeRoad id b (PySem.Str.ofString "ascii") none [] = (_codecs.runDecoder id _codecs.asciiDecoder none true b 0 [] >>= fun r => mkStr ⟨r.1⟩) := by kernel_rfl
theorem dc_entry {t1 : Tok} : «bytes.decode» ⟨[.bytes (c :: cs).toArray t, .str (PySem.Str.ofString "ascii") t1], []⟩ = (mkStr (PySem.Str.ofString "utf-8") >>= fun _ => mkStr (PySem.Str.ofString "ascii") >>= fun e => mkStr (PySem.Str.ofString "bytes.decode") >>= fun d =>
    call (.builtin "_codecs.decode.text") [.bytes (c :: cs).toArray t, e, .none, d] >>= fun v => ret v) := by kernel_rfl
theorem dc_args (a b : Value) : argsOk "bytes.decode" ⟨[a, b], []⟩ := by
  unfold argsOk; rw [signature?_of (id := "bytes.decode") (n := ['e', 'd', 'o', 'c', 'e', 'd']) (o := ['s', 'e', 't', 'y', 'b']) (by kernel_rfl) FB.owner_bytes]; kernel_rfl
theorem dc_loop {σ : Type} {f : Nat → (Nat × Array Nat × σ) → Sem (ForInStep (Nat × Array Nat × σ))} (b : List UInt8)
    (hf : ∀ x p out st, p < b.length → out.size ≤ p → f x (p, out, st) = pure (.yield (p + 1, out ++ [((b[p]?).getD 0).toNat].toArray, st))) :
    ∀ k a p out (st : σ), p + k = b.length → out.size ≤ p → forIn (List.range' a k) (p, out, st) f = (pure (b.length, out ++ ((b.drop p).map (·.toNat)).toArray, st) : Sem _)
  | 0, a, p, out, st, e, ho => by
    obtain rfl : p = b.length := by omega
    simp only [List.range'_zero, List.forIn_nil, List.drop_length, List.map_nil, Array.append_empty]
  | k + 1, a, p, out, st, e, ho => by
    rw [List.range'_succ, List.forIn_cons, hf a p out st (by omega) ho]
    have hp : p < b.length := by omega
    have hd : b.drop p = b[p] :: b.drop (p + 1) := List.drop_eq_getElem_cons hp
    rw [LawfulMonad.pure_bind]
    dsimp only
    rw [dc_loop b hf k (a + 1) (p + 1) _ st (by omega) (by rw [Array.size_append]; simp; omega), hd, List.map_cons]
    congr 2
    simp [hp]
theorem dc_run {id : String} {b : List UInt8} (h : ∀ c ∈ b, c.toNat < 128) (hz : b.length ≤ 1000000) : _codecs.runDecoder id _codecs.asciiDecoder none true b.toArray 0 [] = pure ((b.map (·.toNat)).toArray, b.length) := by
  unfold _codecs.runDecoder
  simp only [Std.Legacy.Range.forIn_eq_forIn_range', Std.Legacy.Range.size]
  rw [dc_loop b ?hf ((b.toArray.size - 0 + 1 - 1) / 1) 0 0 #[] _ (by simp) (by simp)]
  case hf =>
    intro x p out st hp ho
    have h1 : ¬ (out.size > sizeLine) := by rw [sizeLine_eq]; omega
    have h2 : ¬ (p ≥ b.toArray.size) := by simpa using hp
    dsimp only
    rw [if_neg h1, if_neg h2]
    have h3 : (b.toArray.getD p 0).toNat < 128 := by
      have : b.toArray.getD p 0 = b[p] := by simp [hp]
      rw [this]
      exact h _ (List.getElem_mem hp)
    have h4 : _codecs.asciiDecoder.find true b.toArray p = .text [(b.toArray.getD p 0).toNat] (p + 1) := by
      show (if (b.toArray.getD p 0).toNat < 128 then _ else _) = _
      rw [if_pos h3]; rfl
    rw [h4]
    simp [hp]
  · rw [LawfulMonad.pure_bind]
    simp
theorem dc_text {b : List UInt8} {t1 t2 : Tok} {d : PySem.Str} (h : ∀ c ∈ b, c.toNat < 128) (hz : b.length ≤ 1000000) :
    Meets («_codecs.decode.text» ⟨[.bytes b.toArray t, .str (PySem.Str.ofString "ascii") t1, .none, .str d t2], []⟩) (fun _ R s => R (.ok (.ret (.str ⟨(b.map (·.toNat)).toArray⟩ s.toks))) { s with toks := s.toks + 1 }) := by
  refine .of_wp fun prog w A R s hS => ?_
  show wpAny _ _ (Bytes.bytesLike _ (.bytes b.toArray t) >>= fun r => _) _ _ s
  refine wpAny_bind (wpAny_of_eq KBd.like_eq ?_)
  refine wpAny_bind (wpAny_of_eq KBd.held_eq ?_)
  show wpAny _ _ (_codecs.decodeRoad _ b.toArray (PySem.Str.ofString "ascii") none [] >>= fun v => _) _ _ s
  rw [dc_road, dc_run h hz]
  refine wpAny_bind (wpAny_bind (wpAny_pure ?_))
  exact wpAny_mkStr (wpAny_pure ⟨_, rfl, hS⟩) (by show ((b.map (·.toNat)).toArray).size ≤ sizeLine; rw [sizeLine_eq, List.size_toArray, List.length_map]; omega)
theorem dc_decode {t1 : Tok} (h : ∀ k ∈ c :: cs, k.toNat < 128) (hz : (c :: cs).length ≤ 1000000) :
    Meets («bytes.decode» ⟨[.bytes (c :: cs).toArray t, .str (PySem.Str.ofString "ascii") t1], []⟩) (fun _ R s => ∀ t' k, R (.ok (.ret (.str ⟨((c :: cs).map (·.toNat)).toArray⟩ t'))) { s with toks := k }) := by
  refine .of_wp fun prog w A R s hS => ?_
  rw [dc_entry]
  refine wpAny_bind (wpAny_mkStr ?_ (by decide))
  refine wpAny_bind (wpAny_mkStr ?_ (by decide))
  refine wpAny_bind (wpAny_mkStr ?_ (by decide))
  exact wpAny_bind (call_function_meets KBd.kind_text KBd.plain_text KBd.entry_text (KBd.args_text _ _ _ _) (dc_text h hz) (wpAny_pure ⟨_, rfl, hS _ _⟩))
end
section
variable {prog : Program} {w : World} {A : Around} {E : Value → Shared → Prop} {s : Shared} {bs : List UInt8} {t t1 : Tok} {Q : Value → Shared → Prop}
/-- bytes.decode('ascii') -/
theorem dc_call (h0 : bs ≠ []) (h : ∀ k ∈ bs, k.toNat < 128) (hz : bs.length ≤ 1000000) (hQ : ∀ t' k, Q (.str ⟨(bs.map (·.toNat)).toArray⟩ t') { s with toks := k }) :
    wpAny (model prog w) A (call (.builtin "bytes.decode") [.bytes bs.toArray t, .str (PySem.Str.ofString "ascii") t1]) Q E s := by
  cases bs with
  | nil => exact absurd rfl h0
  | cons c cs => exact call_meets FB.slot_bytes_decode (typeIs_bytes _ _ _) FB.entry_bytes_decode (dc_args _ _) (dc_decode h hz) hQ
end
end DCs
section B4s
theorem apN_ne {n : Nat} (h : n ≠ 0) : apN n ≠ [] := by rw [apN_pos h]; simp
theorem apN_mem (n : Nat) : ∀ k ∈ apN n, 65 ≤ k.toNat ∧ k.toNat ≤ 80 := by
  induction n using Nat.strongRecOn with
  | ind n ih =>
    intro k hk
    by_cases h : n = 0
    · rw [h, apN_zero] at hk; cases hk
    · rw [apN_pos h] at hk
      rcases List.mem_append.mp hk with hk | hk
      · exact ih (n / 16) (by omega) k hk
      · rw [List.mem_singleton.mp hk, UInt8.toNat_ofNat']
        omega
theorem apN_lt (n : Nat) : ∀ k ∈ apN n, k.toNat < 128 := fun k hk => by have := apN_mem n k hk; omega
theorem apN_len : ∀ (d n : Nat), n < 16 ^ d → (apN n).length ≤ d
  | 0, n, h => by
    obtain rfl : n = 0 := by simpa using h
    rw [apN_zero]; exact Nat.le_refl _
  | d + 1, n, h => by
    by_cases h0 : n = 0
    · rw [h0, apN_zero]; exact Nat.zero_le _
    · rw [apN_pos h0, List.length_append]
      have h2 : n / 16 < 16 ^ d := by
        rw [Nat.pow_succ] at h
        omega
      have := apN_len d (n / 16) h2
      simp only [List.length_singleton]
      omega
theorem apN_one {n : Nat} (h0 : 1 ≤ n) (h : n ≤ 15) : apN n = [UInt8.ofNat (65 + n)] := by
  rw [apN_pos (by omega), show n / 16 = 0 by omega, apN_zero, show n % 16 = n by omega, List.nil_append]
theorem cleanN_of {v : PySem.Str} (h : (v.cps.toList.all (fun c => decide (32 ≤ c) && decide (c < 127)) && decide (v.cps.size ≤ 1000000)) = true) : cleanN v := by
  rw [Bool.and_eq_true, List.all_eq_true] at h
  refine ⟨fun c hc => ?_, of_decide_eq_true h.2⟩
  have := h.1 c hc
  rw [Bool.and_eq_true] at this
  exact ⟨of_decide_eq_true this.1, of_decide_eq_true this.2⟩
theorem cleanV_of {v : PySem.Str} (h : cleanN v) : cleanV v := ⟨fun c hc => ⟨.inl (h.1 c hc).1, (h.1 c hc).2⟩, h.2⟩
/-- a number's word -/
def apT (n : Nat) : PySem.Str := ⟨((apN n).map (·.toNat)).toArray⟩
end B4s
section B5s
open LCg
section
variable {prog : Program} {w : World} {A : Around} {s : Shared} {h₀ : Heap} {L : Addr} {m : PySem.Str → Option Value} {env : Env}
/-- turns that add objects behind a ledger that stays -/
theorem compT_B {ct elt : PySem.Expr} {x : PySem.Str} {scope : Scope} {cl : List (PySem.Str × Addr)} {S : List (Addr × Obj) → Prop} {P : Nat → Value → Prop} {Fin : List Value → List (Addr × Obj) → Prop} {n : Nat} {news : List (Addr × Obj)}
    (J : Nat → List Value → List (Addr × Obj) → Prop)
    (turn : ∀ i ys tups v I oI C oC D m₂ h tk (E' : Value → Shared → Prop), J i ys tups → i < n → P i v → NsObj oC m₂ → m₂ x = some v → Fr h₀ L h m → News h₀ L h ((I, oI) :: (C, oC) :: (D, lst ys) :: (news ++ tups)) → Off3 I C D (news ++ tups) → ((@Ne Nat I C) ∧ (@Ne Nat I D) ∧ (@Ne Nat C D)) →
      wpAny (model prog w) A (isTrue ct (compEnvC scope cl C env) (eval ct (compEnvC scope cl C env))) (fun ok s' => if ok = true then
        wpAny (model prog w) A (eval elt (compEnvC scope cl C env)) (CompEnd h₀ L m { s with heap := h, toks := tk } I oI C oC D (lst ys) S (fun y news' => Stop (∃ tups', news' = news ++ tups' ∧ J (i + 1) (ys ++ [y]) tups'))) E' s'
        else CompEnd h₀ L m { s with heap := h, toks := tk } I oI C oC D (lst ys) S (fun _ news' => Stop (∃ tups', news' = news ++ tups' ∧ J (i + 1) ys tups')) Value.none s') E' { s with heap := h, toks := tk })
    (done : ∀ ys tups, J n ys tups → Fin ys (news ++ tups)) (h0 : J 0 [] []) : LCt.CompRestT prog w A h₀ L m env ct elt x scope cl s S P Fin n 0 [] news :=
  compT_J (fun i ys nw => ∃ tups, nw = news ++ tups ∧ J i ys tups) (fun i ys nw v I oI C oC D m₂ h tk E' hJ hi hP hC hx F N o3 ne => by
    obtain ⟨tups, rfl, hJ⟩ := hJ
    exact turn i ys tups v I oI C oC D m₂ h tk E' hJ hi hP hC hx F N o3 ne) (fun ys nw hJ => by obtain ⟨tups, rfl, hJ⟩ := hJ; exact done ys tups hJ) n 0 [] news (Nat.zero_add _) ⟨[], (List.append_nil _).symm, h0⟩
end
theorem compEnd_one {h₀ h' : Heap} {L I C D T : Addr} {m : PySem.Str → Option Value} {s₁ : Shared} {oI oC oD oT : Obj} {S : List (Addr × Obj) → Prop} {rest : Value → List (Addr × Obj) → Prop} {y : Value} {tk : Nat} {base : List (Addr × Obj)}
    (F : Fr h₀ L h' m) (N : News h₀ L h' ((T, oT) :: (I, oI) :: (C, oC) :: (D, oD) :: base)) (o3 : Off3 I C D base) (h1 : @LT.lt Nat _ I T) (h2 : @LT.lt Nat _ C T) (h3 : @LT.lt Nat _ D T) (hS : S (base ++ [(T, oT)])) (r : rest y (base ++ [(T, oT)])) :
    CompEnd h₀ L m s₁ I oI C oC D oD S rest y { s₁ with heap := h', toks := tk } := by
  refine CompEnd.intro F N _ (fun p hp => ?_) (Off3.of fun p hp => ?_) hS r
  · rcases List.mem_cons.mp hp with rfl | hp
    · exact .tail _ (.head _)
    rcases List.mem_cons.mp hp with rfl | hp
    · exact .tail _ (.tail _ (.head _))
    rcases List.mem_cons.mp hp with rfl | hp
    · exact .tail _ (.tail _ (.tail _ (.head _)))
    rcases List.mem_append.mp hp with hp | hp
    · exact .tail _ (.tail _ (.tail _ (.tail _ hp)))
    · rw [List.mem_singleton.mp hp]; exact .head _
  · rcases List.mem_append.mp hp with hp | hp
    · exact o3.mem p hp
    · rw [List.mem_singleton.mp hp]; exact ⟨Nat.ne_of_gt h1, Nat.ne_of_gt h2, Nat.ne_of_gt h3⟩
theorem compEnd_none {h₀ h' : Heap} {L I C D : Addr} {m : PySem.Str → Option Value} {s₁ : Shared} {oI oC oD : Obj} {S : List (Addr × Obj) → Prop} {rest : Value → List (Addr × Obj) → Prop} {y : Value} {tk : Nat} {base : List (Addr × Obj)}
    (F : Fr h₀ L h' m) (N : News h₀ L h' ((I, oI) :: (C, oC) :: (D, oD) :: base)) (o3 : Off3 I C D base) (hS : S base) (r : rest y base) :
    CompEnd h₀ L m s₁ I oI C oC D oD S rest y { s₁ with heap := h', toks := tk } := CompEnd.intro F N _ (fun p hp => hp) o3 hS r
/-- the letter of a number, by its place among the sixteen -/
theorem letters_item {i : Int} (h0 : 0 ≤ i) (h : i ≤ 15) : Txt.item "ABCDEFGHIJKLMNOP" i = (⟨#[65 + i.toNat]⟩ : PySem.Str) := by
  obtain ⟨n, rfl⟩ := Int.eq_ofNat_of_zero_le h0
  have hn : n ≤ 15 := by omega
  have : ∀ k : Fin 16, Txt.item "ABCDEFGHIJKLMNOP" ((k.val : Nat) : Int) = (⟨#[65 + k.val]⟩ : PySem.Str) := by decide +kernel
  exact this ⟨n, by omega⟩
section
variable {prog : Program} {w : World} {A : Around} {E : Value → Shared → Prop} {s : Shared} {value slice : PySem.Expr} {t u : Tok} {i : Int} {Q : Value → Shared → Prop}
theorem letters_at (hb : 0 ≤ i ∧ i ≤ 15) (h : Q (.str ⟨#[65 + i.toNat]⟩ s.toks) { s with toks := s.toks + 1 })
    (hs : subscripted slice false (.str "ABCDEFGHIJKLMNOP" t) (.int i u) = operate [.str "ABCDEFGHIJKLMNOP" t, .int i u] (getItem (.str "ABCDEFGHIJKLMNOP" t) (.int i u)) := by with_unfolding_all rfl)
    (ht : ∀ r, letTemporaryGo value (.str "ABCDEFGHIJKLMNOP" t) r = pure () := by intro _; with_unfolding_all rfl) :
    wpAny (model prog w) A (subscriptTail value slice (.str "ABCDEFGHIJKLMNOP" t) (.int i u)) Q E s := by
  refine KXi.item (n := 16) (by decide +kernel) (by omega) (by omega) (by decide) (fun _ => ?_) hs ht
  rw [letters_item hb.1 hb.2]
  exact h
end
section
variable {prog : Program} {w : World} {A : Around} {E : Value → Shared → Prop} {s : Shared} {h₀ : Heap} {L : Addr} {m : PySem.Str → Option Value} {news : List (Addr × Obj)}
/-- a change of one object, seen by the ledger -/
theorem led_change {h' : Heap} {l : Addr} {o o' : Obj} {rest : List (Addr × Obj)} (F : Fr h₀ L s.heap m) (N : News h₀ L s.heap news) (hl : (l, o) ∈ news) (e1 : h'.get? l = some o') (e2 : ∀ b q, b ≠ l → s.heap.get? b = some q → h'.get? b = some q)
    (hr : ∀ p ∈ rest, p ∈ news ∧ p.1 ≠ l) : Fr h₀ L h' m ∧ News h₀ L h' ((l, o') :: rest) := by
  obtain ⟨e3, e4, e5⟩ := N _ hl
  have hs : SB s.heap h' [l] := fun b q e hb => e2 b q (fun z => hb (by rw [z]; exact .head _)) e
  refine ⟨after_fr F hs (fun q => e4 (List.mem_singleton.mp q).symm) (fun b hb => by rw [List.mem_singleton.mp hb]; exact e5), fun p hp => ?_⟩
  rcases List.mem_cons.mp hp with rfl | hp
  · exact ⟨e1, e4, e5⟩
  · exact after_news (fun q hq => N q (hr q hq).1 : News h₀ L s.heap rest) hs (fun q hq hb => (hr q hq).2 (List.mem_singleton.mp hb)) p hp
theorem my_extend {l d : Addr} {xs ys : List Value} {n k : Nat} {Q : Value → Shared → Prop} (rest : List (Addr × Obj)) (F : Fr h₀ L s.heap m) (N : News h₀ L s.heap news) (hl : (l, listOf xs.toArray n) ∈ news) (hd : (d, listOf ys.toArray k) ∈ news)
    (hr : ∀ p ∈ rest, p ∈ news ∧ p.1 ≠ l) (hx : xs.length ≤ 1000000) (hy : ys.length ≤ 1000000)
    (h : ∀ h' n', Fr h₀ L h' m → News h₀ L h' ((l, listOf (xs ++ ys).toArray n') :: rest) → Q .none { s with heap := h' }) :
    wpAny (model prog w) A (call (.builtin "list.extend") [.ref l, .ref d]) Q E s := by
  have z := N _ hl
  have hlt : Builtin.List.listTooLong (xs.toArray.size + ys.toArray.size) = false := by
    unfold Builtin.List.listTooLong
    rw [sizeLine_eq, List.size_toArray, List.size_toArray]
    simp only [decide_eq_false_iff_not]
    omega
  refine call_meets PySem.F.slot_list_extend ⟨_, z.1, rfl⟩ PySem.F.entry_list_extend (PySem.F.args_list_extend_2 _ _) (PySem.AutoSeq1.list_extend_list_list_0 l xs.toArray n d ys.toArray k (by rw [hlt, Bool.and_false]; exact Bool.false_ne_true) (by rw [sizeLine_eq, List.size_toArray]; omega) (by rw [sizeLine_eq, List.size_toArray, List.size_toArray]; omega)) ⟨z.1, (N _ hd).1, ?_⟩
  have q := get?_update_seq (c := "list") z.1 (fun a => a ++ ys.toArray)
  obtain ⟨F', N'⟩ := led_change (rest := rest) F N hl q (fun b o hb e => (Heap.SameBut.update s.heap l _).extBut b o hb e) hr
  have e : xs.toArray ++ ys.toArray = (xs ++ ys).toArray := by simp
  rw [e] at N'
  exact h _ _ F' N'
end
def AllTup (l : List (Addr × Obj)) : Prop := ∀ p ∈ l, p.2.cls = .type "tuple"
theorem AllTup.nil : AllTup [] := fun _ h => nomatch h
theorem AllTup.one {l : List (Addr × Obj)} {T : Addr} {o : Obj} (h : AllTup l) (e : o.cls = .type "tuple") : AllTup (l ++ [(T, o)]) := fun p hp => by
  rcases List.mem_append.mp hp with hp | hp
  · exact h p hp
  · rw [List.mem_singleton.mp hp]; exact e
theorem AllTup.app {l r : List (Addr × Obj)} (h : AllTup l) (h2 : AllTup r) : AllTup (l ++ r) := fun p hp => by
  rcases List.mem_append.mp hp with hp | hp
  · exact h p hp
  · exact h2 p hp
theorem AllTup.ne {h₀ h : Heap} {L l : Addr} {news tups : List (Addr × Obj)} {xs : Array Value} {n : Nat} (x : AllTup tups) (N : News h₀ L h news) (hs : ∀ p ∈ tups, p ∈ news) (hl : (l, listOf xs n) ∈ news) : ∀ p ∈ tups, p.1 ≠ l := by
  intro p hp e
  have h1 := (N p (hs p hp)).1
  rw [e, (N _ hl).1] at h1
  have h2 := x p hp
  rw [← Option.some.inj h1] at h2
  exact absurd (show Value.type "list" = Value.type "tuple" from h2) (by decide)
end B5s
section B6s
section
variable {prog : Program} {w : World} {A : Around} {E : Value → Shared → Prop} {s : Shared}
/-- list.sort on a list of one item or none -/
theorem sort_short_tree {a : Addr} {vs : List Value} {n : Nat} {P : PySem.Fin → Shared → Prop} (ho : s.heap.get? a = some (seqObj "list" vs.toArray n)) (hz : vs.length < 2)
    (h : P (.done (.ret .none)) { s with heap := sortedHeap s.heap a vs vs.toArray }) : wpAny (model prog w) A (Builtin.«list.sort» ⟨[.ref a], []⟩) P E s := by
  rw [list_sort_plain]
  have ha : a < s.heap.objs.size := Heap.lt_size ho
  refine wpAny_bind (listItems_at ho rfl ?_)
  refine wpAny_bind (listUpdate_at ho rfl ?_ (by rw [List.size_toArray, sizeLine_eq]; omega) (Nat.zero_le _))
  obtain ⟨e1, ho1⟩ : ∃ e1, (s.heap.update a (Obj.mapSeq fun _ => #[])).get? a = some (seqObj "list" #[] e1) := ⟨_, get?_update_seq ho (fun _ => #[])⟩
  refine wpAny_bind (seqEpoch_at ho1 rfl ?_)
  refine wpAny_bind (wpAny_newTuple ?_ (by show vs.length ≤ _; rw [sizeLine_eq]; omega))
  refine wpAny_bind (wpAny_newList ?_ (Nat.zero_le _))
  refine wpAny_holding ?_
  have ho6 : (((s.heap.update a (Obj.mapSeq fun _ => #[])).push (seqObj "tuple" vs.toArray 0)).push (seqObj "list" #[] 0)).get? a = some (seqObj "list" #[] e1) := by
    exact Heap.get?_push_of_some _ (Heap.get?_push_of_some _ ho1)
  show wpAny (model prog w) A _ P E { s with heap := ((s.heap.update a (Obj.mapSeq fun _ => #[])).push (seqObj "tuple" vs.toArray 0)).push (seqObj "list" #[] 0) }
  dsimp only
  have h2 : vs.toArray.size < 2 := by rw [List.size_toArray]; exact hz
  have hm : (arrOf (SortSt.mk' general' (vs.toArray.zip vs.toArray) #[] 7 none)).map (·.2) = vs.toArray := by
    show (vs.toArray.zip vs.toArray).map (·.2) = vs.toArray
    match vs, hz with
    | [], _ => simp
    | [v], _ => simp
  rw [if_pos h2, if_pos h2]
  refine wpAny_bind (wpAny_pure ?_)
  rw [StateT.run_pure]
  refine wpAny_bind (wpAny_pure ?_)
  dsimp only
  rw [hm]
  refine wpAny_bind (seqEpoch_at ho6 rfl ?_)
  refine wpAny_bind (listUpdate_at ho6 rfl ?_ (Nat.zero_le _) (by rw [sizeLine_eq]; omega))
  simp only [bne_self_eq_false, Bool.false_eq_true, if_false]
  exact wpAny_pure h
theorem sorted_short {h₀ : Heap} {L : Addr} {m : PySem.Str → Option Value} {news : List (Addr × Obj)} {l : Addr} {vs : List Value} {Q : Value → Shared → Prop}
    (F : Fr h₀ L s.heap m) (N : News h₀ L s.heap news) (hl : s.heap.IsList l vs.toArray) (hz : vs.length < 2)
    (h : ∀ D h' e, Fr h₀ L h' m → News h₀ L h' ((D, listOf vs.toArray e) :: news) → (∀ q ∈ news, q.1 < D) → Q (.ref D) { s with heap := h' }) :
    wpAny (model prog w) A (call (.builtin "sorted") [.ref l]) Q E s := by
  refine Calls.call_function_entry kind_sorted plain_sorted entry_sorted (args_sorted1 _) ?_
  unfold Builtin.«sorted»
  refine wpAny_bind (m := checkCount "sorted" 1 1 _) (wpAny_pure ?_)
  refine wpAny_bind (collect_list hl ?_ (by rw [sizeLine_eq]; omega))
  refine wpAny_bind (wpAny_newList ?_ (by rw [sizeLine_eq]; omega))
  have hsz : ((s.heap.push (seqObj "list" #[] 0)).update s.heap.objs.size (Obj.mapSeq (· ++ vs.toArray))).objs.size = s.heap.objs.size + 1 := by
    rw [Heap.size_update, size_push']
  have hoL : (((s.heap.push (seqObj "list" #[] 0)).update s.heap.objs.size (Obj.mapSeq (· ++ vs.toArray))).push (seqObj "list" vs.toArray 0)).get? (s.heap.objs.size + 1) = some (seqObj "list" vs.toArray 0) := by
    rw [← hsz]; exact Heap.get?_push_size _ rfl
  show wpAny _ _ _ _ _ { s with heap := ((s.heap.push (seqObj "list" #[] 0)).update s.heap.objs.size (Obj.mapSeq (· ++ vs.toArray))).push (seqObj "list" vs.toArray 0) }
  rw [hsz]
  refine wpAny_bind (wpAny_holding (wpAny_call_entry slot_list_sort ⟨_, hoL, rfl⟩ entry_list_sort (sort_short_tree hoL hz ⟨_, rfl, ?_⟩) (args_list_sort _)))
  obtain ⟨e, he⟩ := sortedAll_at s.heap vs vs.toArray
  exact wpAny_pure ⟨_, rfl, h _ _ e (F.kept fun _ _ => sortedAll_old) (N.kept_cons F (fun _ _ => sortedAll_old) (Nat.le_succ _) he) fun q hq => Nat.lt_succ_of_lt (Heap.lt_size (N q hq).1)⟩
end
end B6s
section B7s
/-- what a tree of comparisons gives, if they are told by lt -/
def kRun {α : Type} (lt : Nat → Nat → Bool) : KasT α → α
  | .ret a => a
  | .ask i j k => kRun lt (k (lt i j))
/-- all its questions are about two of the first n -/
def kOk {α : Type} (n : Nat) : KasT α → Bool
  | .ret _ => true
  | .ask i j k => decide (i < n) && decide (j < n) && decide (i ≠ j) && kOk n (k true) && kOk n (k false)
theorem kas_run {α : Type} {cmp : Nat → Nat → (Bool → Shared → Prop) → Shared → Prop} {n : Nat} {lt : Nat → Nat → Bool} {s : Shared} {Q : α → Shared → Prop} (hc : ∀ i j C, i < n → j < n → C (lt i j) s → cmp i j C s) :
    ∀ t : KasT α, kOk n t = true → Q (kRun lt t) s → t.kasWp cmp Q s
  | .ret a, _, h => h
  | .ask i j k, ho, h => by
    simp only [kOk, Bool.and_eq_true, decide_eq_true_eq] at ho
    refine hc i j _ ho.1.1.1.1 ho.1.1.1.2 ?_
    refine kas_run hc (k (lt i j)) ?_ h
    cases lt i j
    · exact ho.2
    · exact ho.1.2
theorem kRun_congr {α : Type} {n : Nat} {lt lt' : Nat → Nat → Bool} (hc : ∀ i j, i < n → j < n → i ≠ j → lt i j = lt' i j) : ∀ t : KasT α, kOk n t = true → kRun lt t = kRun lt' t
  | .ret a, _ => rfl
  | .ask i j k, ho => by
    simp only [kOk, Bool.and_eq_true, decide_eq_true_eq] at ho
    show kRun lt (k (lt i j)) = kRun lt' (k (lt' i j))
    rw [hc i j ho.1.1.1.1 ho.1.1.1.2 ho.1.1.2]
    refine kRun_congr hc _ ?_
    cases lt' i j
    · exact ho.2
    · exact ho.1.2
theorem kOk2 : kOk 2 (kas_sort 2) = true := by decide +kernel
theorem kOk3 : kOk 3 (kas_sort 3) = true := by decide +kernel
def lt2 (a b : Bool) : Nat → Nat → Bool
  | 0, _ => a
  | _, _ => b
def lt3 (a b c d e f : Bool) : Nat → Nat → Bool
  | 0, 1 => a
  | 0, _ => b
  | 1, 0 => c
  | 1, _ => d
  | _, 0 => e
  | _, _ => f
theorem run2 : ∀ a b : Bool, ¬ (a = true ∧ b = true) → (kRun (lt2 a b) (kas_sort 2)).toList.Perm [0, 1] ∧ (kRun (lt2 a b) (kas_sort 2)).toList.Pairwise (fun i j => lt2 a b j i = false) := by decide +kernel
def ok3 (a b c d e f : Bool) : Bool := !(a && c) && !(b && e) && !(d && f) && (a || d || !b) && (b || f || !a) && (c || b || !d) && (d || e || !c) && (e || a || !f) && (f || c || !e)
def good3 (lt : Nat → Nat → Bool) (l : List Nat) : Bool := decide (l.Perm [0, 1, 2]) && decide (l.Pairwise fun i j => lt j i = false)
theorem run3 : ∀ a b c d e f : Bool, (!(ok3 a b c d e f) || good3 (lt3 a b c d e f) (kRun (lt3 a b c d e f) (kas_sort 3)).toList) = true := by decide +kernel
end B7s
section B8s
/-- which of two pairs is the less -/
def ltP (a : Nat → Int) (eqS ltS : Nat → Nat → Bool) (i j : Nat) : Bool := if a i = a j then (!(eqS i j) && ltS i j) else decide (a i < a j)
section
variable {prog : Program} {w : World} {A : Around} {E : Value → Shared → Prop} {s : Shared} {h₀ : Heap} {L : Addr} {m : PySem.Str → Option Value} {news : List (Addr × Obj)}
theorem cmp_tups {b : Bool} {i j : Nat} {ai aj : Addr} {a : Nat → Int} {ti tj : Tok} {x : Nat → Value} {eqS ltS : Nat → Nat → Bool} {C : Bool → Shared → Prop} (hi : s.heap.get? ai = some (tupO [.int (a i) ti, x i])) (hj : s.heap.get? aj = some (tupO [.int (a j) tj, x j]))
    (he : ∀ C' : Bool → Shared → Prop, C' (eqS i j) s → wpAny (model prog w) A (eqBool (x i) (x j)) C' (fun _ _ => False) s)
    (hl : ∀ C' : Bool → Shared → Prop, C' (ltS i j) s → wpAny (model prog w) A (compareOp .Lt (x i) (x j)) (PySem.W.BoolBack C') (fun _ _ => False) s)
    (h : C (ltP a eqS ltS i j) s) : wpAny (model prog w) A (keyLt' (tuples' true) (.ref ai) (.ref aj)) C E s := by
  refine kat_lt hi rfl hj rfl ?_
  show KatLex prog w A true _ C [(Value.int (a i) ti, Value.int (a j) tj), (x i, x j)] 0 s
  refine kat_cons (wpAny_eqBool_int ?_)
  refine kat_go (fun e => ?_) (fun e => ?_)
  · have e : a i = a j := eq_of_beq e
    refine kat_yes (kat_cons (he _ ?_))
    refine kat_go (fun e2 => ?_) (fun e2 => ?_)
    · refine kat_yes (kat_nil ?_)
      have : ltP a eqS ltS i j = false := by unfold ltP; rw [if_pos e, e2]; simp
      rw [this] at h
      exact h
    · refine kat_no (kat_one _ _ (hl _ ?_))
      have : ltP a eqS ltS i j = ltS i j := by unfold ltP; rw [if_pos e, e2]; simp
      rw [this] at h
      exact h
  · have e : ¬ a i = a j := fun q => by rw [q, beq_self_eq_true] at e; cases e
    refine kat_no (oneLt_int ?_)
    have : ltP a eqS ltS i j = decide (a i < a j) := by unfold ltP; rw [if_neg e]
    rw [this] at h
    exact h
end
end B8s
section B9s
/-- the order of pairs of numbers -/
def lexP (a r : Nat → Int) (i j : Nat) : Bool := decide (a i < a j ∨ (a i = a j ∧ r i < r j))
theorem lexP_iff {a r : Nat → Int} {i j : Nat} : lexP a r i j = true ↔ (a i < a j ∨ (a i = a j ∧ r i < r j)) := decide_eq_true_iff
theorem ltP_lex {a r : Nat → Int} {i j : Nat} : ltP a (fun i j => r i == r j) (fun i j => decide (r i < r j)) i j = lexP a r i j := by
  rw [Bool.eq_iff_iff, lexP_iff]
  unfold ltP
  split
  · rename_i e
    simp only [Bool.and_eq_true, Bool.not_eq_true', beq_eq_false_iff_ne, ne_eq, decide_eq_true_eq]
    omega
  · rename_i e
    simp only [decide_eq_true_eq]
    omega
theorem ok2_lex (a r : Nat → Int) : ¬ (lexP a r 0 1 = true ∧ lexP a r 1 0 = true) := by
  simp only [lexP_iff]; omega
theorem or3 {p q r : Bool} (h : p = false → q = false → r = true → False) : (p || q || !r) = true := by
  cases p <;> cases q <;> cases r <;> simp_all
theorem and2 {p q : Bool} (h : p = true → q = true → False) : (!(p && q)) = true := by
  cases p <;> cases q <;> simp_all
theorem lexP_not {a r : Nat → Int} {i j : Nat} : lexP a r i j = false ↔ ¬ (a i < a j ∨ (a i = a j ∧ r i < r j)) := by
  rw [← lexP_iff]; simp
theorem ok3_lex (a r : Nat → Int) : ok3 (lexP a r 0 1) (lexP a r 0 2) (lexP a r 1 0) (lexP a r 1 2) (lexP a r 2 0) (lexP a r 2 1) = true := by
  unfold ok3
  simp only [Bool.and_eq_true]
  refine ⟨⟨⟨⟨⟨⟨⟨⟨?_, ?_⟩, ?_⟩, ?_⟩, ?_⟩, ?_⟩, ?_⟩, ?_⟩, ?_⟩
  all_goals first
    | refine and2 fun h1 h2 => ?_
      rw [lexP_iff] at h1 h2
      omega
    | refine or3 fun h1 h2 h3 => ?_
      rw [lexP_not] at h1 h2
      rw [lexP_iff] at h3
      omega
/-- the order in which items stand once sorted -/
def SortedBy (n : Nat) (lt : Nat → Nat → Bool) (ks : List Nat) : Prop := ks.Perm (List.range n) ∧ ks.Pairwise fun i j => lt j i = false
theorem SortedBy.congr {n : Nat} {lt lt' : Nat → Nat → Bool} {ks : List Nat} (h : SortedBy n lt ks) (hc : ∀ i j, i < n → j < n → i ≠ j → lt i j = lt' i j) : SortedBy n lt' ks := by
  refine ⟨h.1, ?_⟩
  have hnd : ks.Nodup := (h.1.nodup_iff).mpr List.nodup_range
  have hm : ∀ i ∈ ks, i < n := fun i hi => List.mem_range.mp ((h.1.mem_iff).mp hi)
  have h2 : ks.Pairwise fun i j => lt j i = false ∧ i ≠ j := h.2.and hnd
  refine h2.imp_of_mem fun {i j} hi hj hq => ?_
  rw [← hc j i (hm j hj) (hm i hi) (Ne.symm hq.2)]
  exact hq.1
theorem tree_sorts {a r : Nat → Int} : ∀ {n : Nat}, 2 ≤ n → n ≤ 3 → kOk n (kas_sort n) = true ∧ SortedBy n (lexP a r) (kRun (lexP a r) (kas_sort n)).toList
  | 2, _, _ => by
    refine ⟨kOk2, ?_⟩
    have hc : ∀ i j, i < 2 → j < 2 → i ≠ j → lexP a r i j = lt2 (lexP a r 0 1) (lexP a r 1 0) i j := by
      intro i j hi hj hne
      obtain rfl | rfl : i = 0 ∨ i = 1 := by omega
      · obtain rfl : j = 1 := by omega
        rfl
      · obtain rfl : j = 0 := by omega
        rfl
    rw [kRun_congr hc _ kOk2]
    have z := run2 _ _ (ok2_lex a r)
    exact SortedBy.congr ⟨z.1, z.2⟩ fun i j hi hj hne => (hc i j hi hj hne).symm
  | 3, _, _ => by
    refine ⟨kOk3, ?_⟩
    have hc : ∀ i j, i < 3 → j < 3 → i ≠ j → lexP a r i j = lt3 (lexP a r 0 1) (lexP a r 0 2) (lexP a r 1 0) (lexP a r 1 2) (lexP a r 2 0) (lexP a r 2 1) i j := by
      intro i j hi hj hne
      obtain rfl | rfl | rfl : i = 0 ∨ i = 1 ∨ i = 2 := by omega
      · obtain rfl | rfl : j = 1 ∨ j = 2 := by omega
        · rfl
        · rfl
      · obtain rfl | rfl : j = 0 ∨ j = 2 := by omega
        · rfl
        · rfl
      · obtain rfl | rfl : j = 0 ∨ j = 1 := by omega
        · rfl
        · rfl
    rw [kRun_congr hc _ kOk3]
    have z := run3 (lexP a r 0 1) (lexP a r 0 2) (lexP a r 1 0) (lexP a r 1 2) (lexP a r 2 0) (lexP a r 2 1)
    rw [ok3_lex, Bool.not_true, Bool.false_or] at z
    unfold good3 at z
    rw [Bool.and_eq_true, decide_eq_true_eq, decide_eq_true_eq] at z
    exact SortedBy.congr ⟨z.1, z.2⟩ fun i j hi hj hne => (hc i j hi hj hne).symm
section
variable {prog : Program} {w : World} {A : Around} {E : Value → Shared → Prop} {s : Shared}
theorem tups_firsts {h : Heap} : ∀ {vs : List Value} {a : Nat → Int} {t : Nat → Tok} {x : Nat → Value}, (∀ i, i < vs.length → ∃ q, vs[i]? = some (.ref q) ∧ h.get? q = some (tupO [.int (a i) (t i), x i])) →
    KatTups h vs ((List.range vs.length).map fun i => .int (a i) (t i))
  | [], _, _, _, _ => KatTups.nil
  | v :: vs, a, t, x, hv => by
    obtain ⟨q, e, ho⟩ := hv 0 (Nat.succ_pos _)
    have ih := tups_firsts (h := h) (vs := vs) (a := fun i => a (i + 1)) (t := fun i => t (i + 1)) (x := fun i => x (i + 1)) fun i hi => hv (i + 1) (Nat.succ_lt_succ hi)
    obtain rfl : v = .ref q := Option.some.inj e
    rw [List.length_cons, List.range_succ_eq_map, List.map_cons, List.map_map]
    exact KatTups.cons ho rfl rfl rfl ih
theorem short_sorted {vs : List Value} (lt : Nat → Nat → Bool) (h2 : vs.length < 2) : ∃ ks, SortedBy vs.length lt ks ∧ ks.map (fun i => vs.getD i .none) = vs := by
  match vs, h2 with
  | [], _ => exact ⟨[], ⟨.refl _, .nil⟩, rfl⟩
  | [v], _ => exact ⟨[0], ⟨.refl _, List.pairwise_singleton _ _⟩, rfl⟩
/-- sorted, of at most three pairs whose first is a number and whose second tells by a rank -/
theorem sorted_tups {h₀ : Heap} {L : Addr} {m : PySem.Str → Option Value} {news : List (Addr × Obj)} {l : Addr} {vs : List Value} {Q : Value → Shared → Prop} (a r : Nat → Int) (t : Nat → Tok) (x : Nat → Value)
    (F : Fr h₀ L s.heap m) (N : News h₀ L s.heap news) (hl : s.heap.IsList l vs.toArray) (hz : vs.length ≤ 3)
    (hv : ∀ i, i < vs.length → ∃ q, vs[i]? = some (.ref q) ∧ (q, tupO [.int (a i) (t i), x i]) ∈ news)
    (he : ∀ i j (C' : Bool → Shared → Prop) (s' : Shared), i < vs.length → j < vs.length → C' (r i == r j) s' → wpAny (model prog w) A.in1.in1 (eqBool (x i) (x j)) C' (fun _ _ => False) s')
    (hlt : ∀ i j (C' : Bool → Shared → Prop) (s' : Shared), i < vs.length → j < vs.length → C' (decide (r i < r j)) s' → wpAny (model prog w) A.in1.in1 (compareOp .Lt (x i) (x j)) (PySem.W.BoolBack C') (fun _ _ => False) s')
    (h : ∀ D h' e ks, SortedBy vs.length (lexP a r) ks → Fr h₀ L h' m → News h₀ L h' ((D, listOf (ks.map fun i => vs.getD i .none).toArray e) :: news) → (∀ q ∈ news, q.1 < D) → Q (.ref D) { s with heap := h' }) :
    wpAny (model prog w) A (call (.builtin "sorted") [.ref l]) Q E s := by
  by_cases h2 : vs.length < 2
  · refine sorted_short F N hl h2 fun D h' e F' N' hD => ?_
    obtain ⟨ks, hs, e1⟩ := short_sorted (lexP a r) h2
    rw [← e1] at N'
    exact h D h' e ks hs F' N' hD
  · have h2 : 2 ≤ vs.length := by omega
    obtain ⟨ok, so⟩ := tree_sorts (a := a) (r := r) h2 hz
    refine kat_sorted F N hl h2 (by omega) fun D e1 h' F' N' hD => ?_
    have N2 : News h₀ L h' news := fun p hp => N' p (.tail _ hp)
    refine kat_kind (T := .type "int") (tups_firsts (vs := vs) (a := a) (t := t) (x := x) fun i hi => ?_) (by rw [List.length_map, List.length_range]; omega) (fun v hv' => ?_) (by decide) ?_
    · obtain ⟨q, e, hm⟩ := hv i hi
      exact ⟨q, e, (N2 _ hm).1⟩
    · obtain ⟨i, _, rfl⟩ := List.mem_map.mp hv'
      exact Looks.of_pure rfl
    · refine kas_run (lt := lexP a r) (fun i j C hi hj hC => ?_) (kas_sort vs.length) ok ?_
      · obtain ⟨qi, ei, hmi⟩ := hv i hi
        obtain ⟨qj, ej, hmj⟩ := hv j hj
        have gi : vs.getD i .none = .ref qi := by rw [List.getD_eq_getElem?_getD, ei]; rfl
        have gj : vs.getD j .none = .ref qj := by rw [List.getD_eq_getElem?_getD, ej]; rfl
        show wpAny (model prog w) A.in1.in1 (keyLt' _ (vs.getD i .none) (vs.getD j .none)) C _ _
        rw [gi, gj]
        rw [← ltP_lex] at hC
        exact cmp_tups (b := true) (eqS := fun i j => r i == r j) (ltS := fun i j => decide (r i < r j)) (N2 _ hmi).1 (N2 _ hmj).1 (fun C' hc => he i j C' _ hi hj hc) (fun C' hc => hlt i j C' _ hi hj hc) hC
      · exact KasFin.intro F' N' (UpdF.head fun p hp => Nat.ne_of_lt (hD p hp)) fun h3 c F3 N3 => h D h3 c _ so F3 N3 hD
end
end B9s
section C1s
/-- pairs of a cost and a place, kept in the ledger -/
def CostAt (c : Nat → Int) (tups : List (Addr × Obj)) (ys : List Value) (ks : List Nat) : Prop :=
  ys.length = ks.length ∧ ∀ (j k : Nat), ks[j]? = some k → ∃ (q : Addr) (t u : Tok), ys[j]? = some (Value.ref q) ∧ (q, tupO [.int (c k) t, .int (k : Int) u]) ∈ tups
theorem CostAt.nil {c : Nat → Int} : CostAt c [] [] [] := ⟨rfl, fun j k e => by simp at e⟩
theorem CostAt.one {c : Nat → Int} {tups : List (Addr × Obj)} {ys : List Value} {ks : List Nat} {k : Nat} {q : Addr} {t u : Tok} {o : Obj} (x : CostAt c tups ys ks) (e : o = tupO [.int (c k) t, .int (k : Int) u]) : CostAt c (tups ++ [(q, o)]) (ys ++ [.ref q]) (ks ++ [k]) := by
  refine ⟨by simp [x.1], fun j k' h => ?_⟩
  by_cases hj : j < ks.length
  · rw [List.getElem?_append_left hj] at h
    obtain ⟨q', t', u', e1, e2⟩ := x.2 j k' h
    exact ⟨q', t', u', by rw [List.getElem?_append_left (by rw [x.1]; exact hj)]; exact e1, List.mem_append_left _ e2⟩
  · rw [List.getElem?_append_right (by omega)] at h
    have hj0 : j - ks.length = 0 := by
      by_cases h0 : j - ks.length = 0
      · exact h0
      · rw [List.getElem?_eq_none (by simp; omega)] at h; cases h
    rw [hj0] at h
    obtain rfl : k = k' := Option.some.inj h
    refine ⟨q, t, u, ?_, List.mem_append_right _ (by rw [e]; exact .head _)⟩
    rw [List.getElem?_append_right (by rw [x.1]; omega), x.1, hj0]
    rfl
theorem CostAt.pick {c : Nat → Int} {tups : List (Addr × Obj)} {ys : List Value} {ks : List Nat} (x : CostAt c tups ys ks) : ∃ t u : Nat → Tok, ∀ i, i < ys.length → ∃ q, ys[i]? = some (.ref q) ∧ (q, tupO [.int (c (ks.getD i 0)) (t i), .int ((ks.getD i 0 : Nat) : Int) (u i)]) ∈ tups := by
  have h : ∀ i, ∃ tu : Tok × Tok, i < ys.length → ∃ q, ys[i]? = some (.ref q) ∧ (q, tupO [.int (c (ks.getD i 0)) tu.1, .int ((ks.getD i 0 : Nat) : Int) tu.2]) ∈ tups := by
    intro i
    by_cases hi : i < ys.length
    · have hk : i < ks.length := by rw [← x.1]; exact hi
      obtain ⟨q, t, u, e1, e2⟩ := x.2 i ks[i] (List.getElem?_eq_getElem hk)
      refine ⟨(t, u), fun _ => ⟨q, e1, ?_⟩⟩
      rw [List.getD_eq_getElem?_getD, List.getElem?_eq_getElem hk]
      exact e2
    · exact ⟨(default, default), fun h => absurd h hi⟩
  obtain ⟨f, hf⟩ := Classical.axiomOfChoice h
  exact ⟨fun i => (f i).1, fun i => (f i).2, hf⟩
section
variable {prog : Program} {w : World} {A : Around} {E : Value → Shared → Prop} {s : Shared} {h₀ : Heap} {L : Addr} {m : PySem.Str → Option Value} {news : List (Addr × Obj)}
theorem my_append {l : Addr} {xs : List Value} {n : Nat} {v : Value} {Q : Value → Shared → Prop} (rest : List (Addr × Obj)) (F : Fr h₀ L s.heap m) (N : News h₀ L s.heap news) (hl : (l, listOf xs.toArray n) ∈ news)
    (hr : ∀ p ∈ rest, p ∈ news ∧ p.1 ≠ l) (hx : xs.length ≤ 1000000)
    (h : ∀ h' n', Fr h₀ L h' m → News h₀ L h' ((l, listOf (xs ++ [v]).toArray n') :: rest) → Q .none { s with heap := h' }) :
    wpAny (model prog w) A (call (.builtin "list.append") [.ref l, v]) Q E s := by
  have z := N _ hl
  refine wpAny_call_entry PySem.F.slot_list_append ⟨_, z.1, rfl⟩ PySem.F.entry_list_append ?_ (PySem.F.args_list_append_2 _ _)
  show wpAny _ _ (updateSeq l (·.push v) >>= fun _ => ret .none) _ _ s
  refine wpAny_bind ?_
  refine wpAny_updateSeq z.1 rfl (wpAny_pure ⟨.none, rfl, ?_⟩) (hz := by rw [sizeLine_eq, List.size_toArray]; omega) (_hz' := by rw [sizeLine_eq, Array.size_push, List.size_toArray]; omega)
  have q := get?_update_seq (c := "list") z.1 (fun a => a.push v)
  obtain ⟨F', N'⟩ := led_change (rest := rest) F N hl q (fun b o hb e => (Heap.SameBut.update s.heap l _).extBut b o hb e) hr
  have e : xs.toArray.push v = (xs ++ [v]).toArray := by simp
  rw [e] at N'
  exact h _ _ F' N'
end
end C1s
section EQs
theorem strOk_low {x : PySem.Str} (h : ∀ c ∈ x.cps.toList, c < 1114112) : PyData.strOk x = true := by
  unfold PyData.strOk
  rw [Array.all_eq_true']
  intro c hc
  exact decide_eq_true (h c (Array.mem_toList_iff.mpr hc))
/-- a table of pairs, as data -/
def pdata (p : PySem.Str × PySem.Str) : PyData := .tuple [.str p.1, .str p.2]
theorem pairs_reads {h : Heap} : ∀ {vs : List Value} {tbl : List (PySem.Str × PySem.Str)}, PairsAt h vs tbl → ∃ as, ReadsAll h vs (tbl.map pdata) as
  | [], [], _ => ⟨_, ReadsAll.nil⟩
  | v :: vs, p :: ps, x => by
    obtain ⟨as, ih⟩ := pairs_reads x.tail.2
    obtain ⟨a, t1, t2, rfl, ha⟩ := x.tail.1
    exact ⟨_, ReadsAll.cons (reads_tuple_at ha rfl rfl (ReadsAll.cons (Reads.str _ _) (ReadsAll.cons (Reads.str _ _) ReadsAll.nil))) ih⟩
  | [], _ :: _, x => absurd x.1 (by simp)
  | _ :: _, [], x => absurd x.1 (by simp)
theorem pairs_lay : ∀ tbl : List (PySem.Str × PySem.Str), (∀ p ∈ tbl, PyData.strOk p.1 = true ∧ PyData.strOk p.2 = true) → PyData.canLayAll0 (tbl.map pdata) = true
  | [], _ => by simp [PyData.canLayAll0]
  | p :: ps, h => by
    have h1 := h p (.head _)
    simp [pdata, PyData.canLayAll0, PyData.canLay0, h1.1, h1.2, pairs_lay ps fun q hq => h q (.tail _ hq)]
theorem pairs_depth : ∀ tbl : List (PySem.Str × PySem.Str), PyData.depthAll (tbl.map pdata) ≤ 1
  | [] => by simp [PyData.depthAll]
  | p :: ps => by
    have := pairs_depth ps
    simp [pdata, PyData.depthAll, PyData.depth]
    omega
theorem pairs_shaped (tbl : List (PySem.Str × PySem.Str)) (h : ∀ p ∈ tbl, PyData.strOk p.1 = true ∧ PyData.strOk p.2 = true) : SeqAt.shaped (.list (tbl.map pdata)) = true := by
  have := pairs_depth tbl
  simp [SeqAt.shaped, PyData.canLay0, PyData.depth, pairs_lay tbl h]
  omega
section
variable {prog : Program} {w : World} {A : Around} {E : Value → Shared → Prop} {s : Shared}
/-- two lists of the same pairs do not differ -/
theorem ne_pairs {l l' : Addr} {n n' : Nat} {vs ws : List Value} {tbl : List (PySem.Str × PySem.Str)} {Q : Value → Shared → Prop} (h1 : s.heap.get? l = some (listOf vs.toArray n)) (h2 : s.heap.get? l' = some (listOf ws.toArray n'))
    (p1 : PairsAt s.heap vs tbl) (p2 : PairsAt s.heap ws tbl) (hc : ∀ p ∈ tbl, cleanN p.1 ∧ cleanV p.2) (hu : A.units + 64 < cLine) (h : Q (.bool false) s) : wpAny (model prog w) A (compareOp .NotEq (.ref l) (.ref l')) Q E s := by
  have hs : ∀ p ∈ tbl, PyData.strOk p.1 = true ∧ PyData.strOk p.2 = true := fun p hp => ⟨strOk_low fun c hc' => by have := (hc p hp).1.1 c hc'; omega, strOk_low fun c hc' => by have := (hc p hp).2.1 c hc'; omega⟩
  obtain ⟨as, r1⟩ := pairs_reads p1
  obtain ⟨bs, r2⟩ := pairs_reads p2
  refine ne_dataH (reads_list_at h1 rfl rfl r1) (reads_list_at h2 rfl rfl r2) (pairs_shaped tbl hs) (pairs_shaped tbl hs) hu ?_
  rw [SeqAt.eqv_refl _ (SeqAt.canLay_of_shaped (pairs_shaped tbl hs))]
  exact h
end
end EQs
section SCs
open LCg
section
variable {prog : Program} {w : World} {A : Around} {E : Value → Shared → Prop} {s : Shared} {h₀ : Heap} {L : Addr} {m : PySem.Str → Option Value} {env : Env}
/-- a text as the source of a comprehension -/
def SrcS (prog : Program) (w : World) (A : Around) (h₀ : Heap) (L : Addr) (m : PySem.Str → Option Value) (env : Env) (elt : PySem.Expr) (x : PySem.Str) (scope : Scope) (cl : List (PySem.Str × Addr)) (Fin : Shared → List Value → List (Addr × Obj) → Prop) (xv : Value) (s₁ : Shared) : Prop :=
  ∃ ws t news, xv = .str ws t ∧ ws.cps.all (· < 128) = true ∧ A.handled = none ∧ Fr h₀ L s₁.heap m ∧ News h₀ L s₁.heap news ∧ ws.cps.size ≤ sizeLine ∧
    ∀ g, CompRest prog w A h₀ L m env elt x scope cl { s₁ with heap := g } (fun _ => True) (fun i v => ∃ c u, ws.cps[i]? = some c ∧ v = .str ⟨#[c]⟩ u) (Fin { s₁ with heap := g }) ws.cps.size 0 [] news
theorem asg_str {elt iter : PySem.Expr} {x y : PySem.Str} {px py : Pos} {scope : Scope} {cl : List (PySem.Str × Addr)} {pos spos : Pos} {Q : Flow → Shared → Prop} (_F₀ : Fr h₀ L s.heap m) (hLe : env.locals = L)
    (hsw : swapsWith (.ListComp elt [⟨.Name x px, iter, [], 0⟩] scope pos) (some (.Name y py)) spos.line env = pure true)
    (hclos : closureFor scope env = pure cl) (hcell : ∀ z ∈ scope.names, z.2 ≠ .cell) (hkind : scope.kind = .function)
    (hnames : ∀ z ∈ scope.names, z.2 = .local → scope.names.lookup z.1 = some .local) (hx : scope.names.lookup x = some .local)
    (hy : env.kindOf y = some .local) (hp : (env.scope.kind == .class || (env.scope.kind == .module && env.locals != env.globals)) = false)
    (h : wpAny (model prog w) A (eval iter env) (SrcS prog w A h₀ L m env elt x scope cl (fun s₂ => FinA h₀ L m s₂ y Q)) E s)
    (hs : ∀ x, foldedSetIterable iter env x = pure x := by intro _; rfl) :
    wpAny (model prog w) A (exec (.Assign [.Name y py] (.ListComp elt [⟨.Name x px, iter, [], 0⟩] scope pos) spos) env) Q E s := by
  subst hLe
  rw [exec_Assign_Name_used _ _ _ _ hsw]
  refine wpAny_bind (wpAny_standAt (wpAny_bind ?_))
  show wpAny _ A (do let _ ← comprehension (.ListComp elt [⟨.Name x px, iter, [], 0⟩] scope pos) scope env _ (newList []) false (eval iter env) (some (assign (.Name y py) env))) _ _ s
  refine wpAny_bind (wpAny_mono (wpAny_comprehension_free (use := some (assign (.Name y py) env)) (Q := fun _ s' => Q .next s') rfl hs hclos hkind hnames
    (wpAny_mono h (fun xv s₁ h₁ => ?_) fun _ _ e => e)) (fun _ s' hq => wpAny_pure (wpAny_pure hq)) fun _ _ e => e)
  obtain ⟨ws, t, news, rfl, ha, hh, F, N, hsz, R⟩ := h₁
  refine wpAny_pyIter_ascii ha ?_
  refine block_U (Walks.strAscii hh s₁.heap.objs.size ws t) hsz (fun i h st => ?io) (fun i h h' o nw st e e' _ _ _ => ?st) hcell hkind hx ⟨_, Heap.get?_push_size _ rfl, rfl, rfl⟩ (fun b hb => ?fp)
    (F.keeps fun _ _ e => Heap.get?_push_of_some _ e) (N.grown fun _ _ e => Heap.get?_push_of_some _ e) (Nat.ne_of_lt F.ns.lt) (next_is_new F) (fun p hp => Nat.ne_of_lt (Heap.lt_size (N p hp).1)) trivial (R _) ?fin
  case io =>
    obtain ⟨o, ho, _⟩ := st
    exact ⟨o, ho⟩
  case st =>
    obtain ⟨o1, ho, r⟩ := st
    rw [e] at ho
    obtain rfl := Option.some.inj ho
    exact ⟨_, e', r⟩
  case fp =>
    rw [List.mem_singleton.mp hb]
    show s₁.heap.objs.size < (s₁.heap.push _).objs.size
    rw [Heap.size_push]
    exact Nat.lt_succ_self _
  case fin =>
    intro D C h' tk m' ys news' F' N' o1 hn hC₀ hD₀ hCL hDL hCD offC fin
    show wpAny _ A (assign (.Name y py) env (.ref D)) _ _ _
    refine wpAny_assign_Name (wpAny_storeName_local hy F'.ns (fun h₂ hn₂ hs₂ => ?_) hp)
    have hL₀ : h₀.get? env.locals = none := Heap.get?_none_of_le F'.above
    have F₂ : Fr h₀ env.locals h₂ (fun z => if z = y then some (.ref D) else m z) := ⟨hn₂, fun b o e => hs₂.extBut b o (fun q => by rw [q, hL₀] at e; cases e) (F'.keep b o e), F'.above⟩
    refine ⟨m', hn.sameBut hs₂ hCL, fun h'' hs'' => fin D h'' _ (F₂.change hs'' hCL hC₀) (fun p hp => ?_) o1⟩
    have z : h₂.get? p.1 = some p.2 := hs₂.extBut _ _ (N' p hp).2.1 (N' p hp).1
    refine ⟨hs''.extBut _ _ ?_ z, (N' p hp).2⟩
    rcases List.mem_cons.mp hp with rfl | hp
    · exact Ne.symm hCD
    · exact offC p hp
end
end SCs
section LDs
/-- runs of blanks, each with a tab behind it -/
def tabs : List Nat → List Nat
  | [] => []
  | c :: r => List.replicate c 32 ++ 9 :: tabs r
theorem tabs_app : ∀ a b : List Nat, tabs (a ++ b) = tabs a ++ tabs b
  | [], _ => rfl
  | c :: r, b => by
    show List.replicate c 32 ++ 9 :: tabs (r ++ b) = (List.replicate c 32 ++ 9 :: tabs r) ++ tabs b
    rw [tabs_app r b]; simp
theorem tabs_len : ∀ cs : List Nat, (tabs cs).length = cs.sum + cs.length
  | [] => rfl
  | c :: r => by
    show (List.replicate c 32 ++ 9 :: tabs r).length = _
    rw [List.length_append, List.length_cons, List.length_replicate, tabs_len r, List.sum_cons, List.length_cons]
    omega
theorem tabs_mem : ∀ (cs : List Nat), ∀ c ∈ tabs cs, c = 32 ∨ c = 9
  | [], _, h => nomatch h
  | k :: r, c, h => by
    rcases List.mem_append.mp (show c ∈ List.replicate k 32 ++ 9 :: tabs r from h) with h | h
    · exact .inl (List.eq_of_mem_replicate h)
    · rcases List.mem_cons.mp h with h | h
      · exact .inr h
      · exact tabs_mem r c h
theorem wsRun_blanks (r : List Nat) (cnt : List Int) (nt : Int) : ∀ (k : Nat) (b n : Int), wsRun (List.replicate k 32 ++ r) cnt b n nt = wsRun r cnt (b + (k : Int)) (n + (k : Int)) nt
  | 0, b, n => by simp
  | k + 1, b, n => by
    rw [List.replicate_succ, List.cons_append]
    show (if 32 = 32 then wsRun (List.replicate k 32 ++ r) cnt (b + 1) (n + 1) nt else _) = _
    rw [if_pos rfl, wsRun_blanks r cnt nt k]
    congr 1 <;> omega
def counts (cnt : List Int) (cs : List Nat) : List Int := cs.foldl (fun c (b : Nat) => bump c (b : Int)) cnt
theorem wsRun_tabs (r : List Nat) : ∀ (cs : List Nat) (cnt : List Int) (n nt : Int), wsRun (tabs cs ++ r) cnt 0 n nt = wsRun r (counts cnt cs) 0 (n + ((cs.sum + cs.length : Nat) : Int)) (nt + (cs.length : Int))
  | [], cnt, n, nt => by
    show wsRun r cnt 0 n nt = wsRun r cnt 0 (n + 0) (nt + 0)
    rw [Int.add_zero, Int.add_zero]
  | c :: cs, cnt, n, nt => by
    show wsRun ((List.replicate c 32 ++ 9 :: tabs cs) ++ r) cnt 0 n nt = _
    rw [List.append_assoc, wsRun_blanks]
    show (if 9 = 32 then _ else if 9 = 9 then wsRun (tabs cs ++ r) (bump cnt (0 + (c : Int))) 0 (n + (c : Int) + 1) (nt + 1) else _) = _
    rw [if_neg (by decide), if_pos rfl, wsRun_tabs r cs, Int.zero_add]
    show wsRun r (counts (bump cnt (c : Int)) cs) 0 _ _ = wsRun r (counts (bump cnt (c : Int)) cs) 0 _ _
    rw [List.sum_cons, List.length_cons]
    congr 1 <;> omega
/-- the column of all the counts up to n -/
def full (cnt : List Int) (z : Nat) : Nat → Int
  | 0 => 0
  | n + 1 => full cnt z n + ((n / z : Nat) : Int) * cnt.getD n 0
theorem full_stop {cnt : List Int} {z : Nat} : ∀ {n : Nat}, cnt.length ≤ n → full cnt z n = full cnt z cnt.length
  | 0, h => by rw [show cnt.length = 0 by omega]
  | n + 1, h => by
    by_cases e : cnt.length = n + 1
    · rw [e]
    · show full cnt z n + _ = _
      rw [full_stop (n := n) (by omega), List.getD_eq_getElem?_getD, List.getElem?_eq_none (by omega)]
      simp
theorem full_low {cnt : List Int} {z : Nat} : ∀ {n : Nat}, n ≤ z → full cnt z n = 0
  | 0, _ => rfl
  | n + 1, h => by
    show full cnt z n + _ = 0
    rw [full_low (by omega), Nat.div_eq_of_lt (by omega)]
    simp
theorem indIl_full {cnt : List Int} {z : Nat} (hz : 1 ≤ z) : ∀ k : Nat, indIl cnt (z : Int) k = full cnt z (z + k)
  | 0 => (full_low (Nat.le_refl _)).symm
  | k + 1 => by
    show indIl cnt (z : Int) k + Int.fdiv ((z : Int) + (k : Int)) (z : Int) * cnt.getD ((z : Int) + (k : Int)).toNat 0 = full cnt z (z + k) + _
    rw [indIl_full hz k, show ((z : Int) + (k : Int)) = ((z + k : Nat) : Int) by omega]
    rw [show Int.fdiv ((z + k : Nat) : Int) (z : Int) = (((z + k) / z : Nat) : Int) from (Int.ofNat_fdiv _ _).symm]
    rfl
theorem indent_full {cnt : List Int} {b nt : Int} {z : Nat} (hz : 1 ≤ z) : indent cnt b nt (z : Int) = b + (z : Int) * (full cnt z cnt.length + nt) := by
  unfold indent
  rw [indIl_full hz]
  by_cases h : cnt.length ≤ z
  · rw [show ((cnt.length : Int) - (z : Int)).toNat = 0 by omega, full_low (by omega), full_low h]
  · rw [show z + ((cnt.length : Int) - (z : Int)).toNat = cnt.length by omega]
theorem zeros_get : ∀ (k i : Nat), ((List.replicate k [(0 : Int)]).flatten)[i]?.getD 0 = 0
  | 0, i => by simp
  | k + 1, 0 => by rw [List.replicate_succ]; rfl
  | k + 1, i + 1 => by
    rw [List.replicate_succ, List.flatten_cons]
    have := zeros_get k i
    simpa using this
theorem bump_get {cnt : List Int} {b : Nat} (i : Nat) : (bump cnt (b : Int)).getD i 0 = cnt.getD i 0 + (if i = b then 1 else 0) := by
  unfold bump
  dsimp only
  generalize hc : (if (cnt.length : Int) ≤ (b : Int) then cnt ++ (List.replicate ((b : Int) - cnt.length + 1).toNat [(0 : Int)]).flatten else cnt) = c
  have h1 : ∀ i, c.getD i 0 = cnt.getD i 0 := by
    intro i
    rw [← hc]
    split
    · rw [List.getD_eq_getElem?_getD, List.getD_eq_getElem?_getD]
      by_cases hi : i < cnt.length
      · rw [List.getElem?_append_left hi]
      · rw [List.getElem?_append_right (by omega), zeros_get, List.getElem?_eq_none (by omega : cnt.length ≤ i)]
        rfl
    · rfl
  have h2 : b < c.length := by
    rw [← hc]
    split
    · rw [List.length_append, flat_len]; omega
    · omega
  rw [show ((b : Int)).toNat = b from Int.toNat_natCast b, List.getD_eq_getElem?_getD, List.getElem?_set]
  by_cases e : b = i
  · subst e
    rw [if_pos rfl, if_pos h2, if_pos rfl, ← h1 b]
    rfl
  · rw [if_neg e, if_neg (fun q => e q.symm), ← List.getD_eq_getElem?_getD, h1 i]
    omega
theorem full_bump {cnt : List Int} {b z : Nat} : ∀ n : Nat, full (bump cnt (b : Int)) z n = full cnt z n + (if b < n then ((b / z : Nat) : Int) else 0)
  | 0 => by simp [full]
  | n + 1 => by
    show full (bump cnt (b : Int)) z n + ((n / z : Nat) : Int) * (bump cnt (b : Int)).getD n 0 = full cnt z n + ((n / z : Nat) : Int) * cnt.getD n 0 + _
    rw [full_bump n, bump_get]
    by_cases e : n = b
    · subst e
      rw [if_neg (Nat.lt_irrefl _), if_pos rfl, if_pos (Nat.lt_succ_self _), Int.mul_add]
      omega
    · rw [if_neg e, Int.add_zero]
      by_cases h : b < n
      · rw [if_pos h, if_pos (by omega)]; omega
      · rw [if_neg h, if_neg (by omega)]; omega
theorem full_counts {z : Nat} : ∀ (cs : List Nat) (cnt : List Int), full (counts cnt cs) z (counts cnt cs).length = full cnt z cnt.length + (((cs.map (· / z)).sum : Nat) : Int)
  | [], cnt => by show full cnt z cnt.length = full cnt z cnt.length + 0; omega
  | c :: r, cnt => by
    show full (counts (bump cnt (c : Int)) r) z (counts (bump cnt (c : Int)) r).length = _
    rw [full_counts r, List.map_cons, List.sum_cons]
    have e : full (bump cnt (c : Int)) z (bump cnt (c : Int)).length = full cnt z cnt.length + ((c / z : Nat) : Int) := by
      have h1 := full_stop (cnt := bump cnt (c : Int)) (z := z) (n := (bump cnt (c : Int)).length + cnt.length + c + 1) (by omega)
      have h2 := full_stop (cnt := cnt) (z := z) (n := (bump cnt (c : Int)).length + cnt.length + c + 1) (by omega)
      rw [← h1, full_bump, if_pos (by omega), h2]
    rw [e]
    omega
/-- the column of a lead -/
def lcol (cs : List Nat) (z : Nat) : Nat := z * ((cs.map (· / z)).sum + cs.length)
theorem indent_tabs {cs : List Nat} {b : Int} {z : Nat} (hz : 1 ≤ z) : indent (counts [] cs) b (cs.length : Int) (z : Int) = b + ((lcol cs z : Nat) : Int) := by
  rw [indent_full hz, full_counts]
  unfold lcol
  show b + (z : Int) * (0 + (((cs.map (· / z)).sum : Nat) : Int) + (cs.length : Int)) = _
  rw [Int.zero_add, Int.natCast_mul, Int.natCast_add]
/-- texts, by their signs -/
theorem mul_list (n : Nat) : (Txt.mul " " (n : Int)).cps.toList = List.replicate n 32 := by
  unfold Txt.mul
  by_cases h0 : n = 0
  · subst h0; rw [if_pos (by decide)]; rfl
  rw [if_neg (by omega)]
  have key : ∀ (k : Nat) (acc : Array Nat), ((List.replicate k (" " : PySem.Str).cps).foldl (· ++ ·) acc).toList = acc.toList ++ List.replicate k 32 := by
    intro k
    induction k with
    | zero => intro acc; simp
    | succ k ih =>
      intro acc
      rw [List.replicate_succ, List.foldl_cons, ih, List.replicate_succ]
      have : (" " : PySem.Str).cps = #[32] := by decide +kernel
      rw [this]
      simp
  by_cases h1 : n = 1
  · subst h1; rw [if_pos (by decide +kernel)]; decide +kernel
  · rw [if_neg (by
      have : ((" " : PySem.Str).length == 0) = false := by decide +kernel
      rw [this]; simp; omega)]
    show ((List.replicate (n : Int).toNat (" " : PySem.Str).cps).foldl (· ++ ·) #[]).toList = _
    rw [Int.toNat_natCast, key]
    rfl
theorem app_list (a b : PySem.Str) : (a ++ b).cps.toList = a.cps.toList ++ b.cps.toList := by
  show (a.cps ++ b.cps).toList = _
  simp
theorem join_list0 (ys : List PySem.Str) : (Txt.join "" ys).cps.toList = (ys.map (·.cps.toList)).flatten := by
  show (Builtin.Str.glued "" ys).cps.toList = _
  rw [StrLaws.glued_eq_join]
  induction ys with
  | nil => rfl
  | cons a r ih =>
    cases r with
    | nil => show a.cps.toList = _; simp
    | cons b r =>
      show (a ++ "" ++ PySem.Str.join "" (b :: r)).cps.toList = _
      rw [app_list, app_list, ih]
      have : ("" : PySem.Str).cps.toList = [] := by decide +kernel
      rw [this]
      simp
theorem str_of_list {x : PySem.Str} {l : List Nat} (h : x.cps.toList = l) : x = ⟨l.toArray⟩ := by
  cases x with
  | mk c => rw [← h]
/-- how a turn of a while may end, told by frame and ledger -/
def WLEnd (s : Shared) (h₀ : Heap) (L : Addr) (J : Nat → (PySem.Str → Option Value) → List (Addr × Obj) → Prop) (k : Nat) (Q : Flow → Shared → Prop) (f : Flow) (s₃ : Shared) : Prop :=
  match f with
  | .ret v => Q (.ret v) s₃
  | .brk => Q .next s₃
  | _ => ∃ h tk m news k', s₃ = { s with heap := h, toks := tk } ∧ Fr h₀ L h m ∧ News h₀ L h news ∧ k' < k ∧ J k' m news
section
variable {prog : Program} {w : World} {A : Around} {s : Shared} {env : Env} {Q : Flow → Shared → Prop}
theorem while_led {h₀ : Heap} {test : PySem.Expr} {body : List Stmt} {pos : Pos} {m₀ : PySem.Str → Option Value} {news₀ : List (Addr × Obj)} (J : Nat → (PySem.Str → Option Value) → List (Addr × Obj) → Prop) (n : Nat) (F : Fr h₀ env.locals s.heap m₀) (N : News h₀ env.locals s.heap news₀) (h0 : J n m₀ news₀)
    (turn : ∀ k m₁ news₁ h tk, J k m₁ news₁ → Fr h₀ env.locals h m₁ → News h₀ env.locals h news₁ → wpAny (model prog w) A (isTrue test env (eval test env)) (fun b s₂ => if b = true then wpAny (model prog w) A (execs body env) (WLEnd s h₀ env.locals J k Q) NoE s₂ else Q .next s₂) NoE { s with heap := h, toks := tk }) :
    wpAny (model prog w) A (exec (.While test body [] pos) env) Q NoE s := by
  refine while_rule (fun k s' => ∃ h tk m news, s' = { s with heap := h, toks := tk } ∧ Fr h₀ env.locals h m ∧ News h₀ env.locals h news ∧ J k m news) n ⟨_, _, _, _, rfl, F, N, h0⟩ ?_
  rintro k s' ⟨h, tk, m, news, rfl, F', N', hJ⟩
  refine wpAny_mono (turn k m news h tk hJ F' N') (fun b s₂ h₂ => ?_) fun _ _ e => e.elim
  cases b with
  | true =>
    simp only [if_true] at h₂ ⊢
    refine wpAny_mono h₂ (fun f s₃ h₃ => ?_) fun _ _ e => e.elim
    cases f with
    | ret v => exact h₃
    | brk => exact h₃
    | next => obtain ⟨h, tk, m, news, k', e, F, N, hk, hJ⟩ := h₃; exact ⟨k', hk, h, tk, m, news, e, F, N, hJ⟩
    | cont => obtain ⟨h, tk, m, news, k', e, F, N, hk, hJ⟩ := h₃; exact ⟨k', hk, h, tk, m, news, e, F, N, hJ⟩
  | false =>
    simp only [Bool.false_eq_true, if_false] at h₂ ⊢
    exact h₂
end
end LDs
section RXs
open Builtin Builtin.Re
theorem rx_plain : PlainAttrs "re.Pattern" :=
  ⟨⟨"object.__getattribute__", by rw [typeLookup_type, builtinLookup_eq_fast]; kernel_rfl, by decide +kernel⟩, by rw [typeLookup_type, builtinLookup_eq_fast]; kernel_rfl⟩
theorem rx_slot : Slot "re.Pattern" "search" "re.Pattern.search" :=
  .of (owner := "re.Pattern") (n := "search") (by rw [typeLookup_type, builtinLookup_eq_fast]; kernel_rfl) (by decide +kernel) (by decide +kernel) (by decide +kernel)
    (by first | exact .inl (by decide +kernel) | exact .inr (by decide +kernel)) (by rw [isSubtype_type]; kernel_rfl)
theorem rx_entry : entryFor table "re.Pattern.search" = some Builtin.«re.Pattern.search» := entryFor_of_tree (by kernel_rfl)
theorem rx_args (a b : Value) : argsOk "re.Pattern.search" ⟨[a, b], []⟩ := by unfold argsOk; kernel_rfl
theorem rx_type : typeOf (.builtin "re.Pattern.search") = pure (.type "method_descriptor") := by show builtinType _ = _; rw [builtinType_eq_fast]; kernel_rfl

section
variable {M : Model} {A : Around} {E : Value → Shared → Prop} {s : Shared}
theorem rx_rules (m : Sre.M) : ∀ (l : List Nat) {Q : PUnit → Shared → Prop}, Q ⟨⟩ s →
    wpAny M A (forIn l PUnit.unit fun i _ => do
      if m.seen.has i then rule (Sre.names.getD i "")
      pure (ForInStep.yield PUnit.unit)) Q E s
  | [], Q, h => wpAny_pure h
  | i :: r, Q, h => by
    rw [List.forIn_cons]
    refine wpAny_bind ?_
    split
    · exact wpAny_bind (wpAny_rule (wpAny_pure (rx_rules m r h)))
    · exact wpAny_pure (rx_rules m r h)
theorem rx_run {m m' : Sre.M} {Q : Option Sre.M → Shared → Prop} (h1 : m.runFor reTurnSteps = m') (h2 : m'.outcome = some .failed) (h : Q none s) : wpAny M A (reRunToEnd m) Q E s := by
  unfold reRunToEnd
  have e : (2 ^ 64 : Nat) = 18446744073709551615 + 1 := by decide
  rw [e]
  unfold reDrive
  rw [h1]
  simp only [h2, Option.isSome_some, if_true]
  refine wpAny_bind (wpAny_pure ?_)
  refine wpAny_bind ?_
  refine rx_rules m' _ ?_
  simp only [h2]
  exact wpAny_pure h
end

/-- a text in which no sign is one of the set's -/
def rxClear (code : Array Nat) (c : Nat) : Prop := ∀ seen, ∃ seen', Sre.inSet code c code.size 5 true seen = .ok (false, seen')

theorem rx_admitted {m : Sre.M} {code : Array Nat} (hc : m.code = code) (hx : ∀ c ∈ m.text.toList, rxClear code c) (hl : m.lim = m.text.size) :
    ∀ (fuel k : Nat) (seen : Sre.Seen), ∃ seen', Sre.M.admitted m fuel k seen = .ok (none, seen')
  | 0, k, seen => ⟨seen, rfl⟩
  | fuel + 1, k, seen => by
    unfold Sre.M.admitted
    by_cases q : k ≥ m.lim
    · exact ⟨seen, by rw [if_pos q]⟩
    · rw [if_neg q]
      have hk : k < m.text.size := by omega
      have e : m.text.getD k 0 = m.text[k] := by simp [hk]
      obtain ⟨s2, h2⟩ := hx (m.text.getD k 0) (by rw [e]; simp) seen
      rw [hc, h2]
      exact rx_admitted hc hx hl fuel (k + 1) s2

def rxName : Array Nat := #[14, 10, 4, 1, 1, 22, 0, 31, 16, 127, 0, 13, 7, 22, 0, 31, 16, 127, 0, 1]
def rxVal : Array Nat := #[14, 14, 4, 1, 1, 9, 4294966783, 0, 0, 2147483648, 0, 0, 0, 0, 0, 13, 11, 9, 4294966783, 0, 0, 2147483648, 0, 0, 0, 0, 0, 1]
theorem rx_say {m : Sre.M} (h1 : m.outcome = none) (h2 : m.frames = []) : ((m.say false).runFor reTurnSteps).outcome = some .failed := by
  have a1 : (m.say false).outcome = none := h1
  have a2 : (m.say false).answer = some false := rfl
  have a3 : (m.say false).frames = [] := h2
  generalize m.say false = n at a1 a2 a3
  have st : n.step = { n with outcome := some .failed } := by
    unfold Sre.M.step
    rw [a1, a2, a3]
    rfl
  show (Sre.M.runFor 4 n).outcome = _
  unfold Sre.M.runFor
  rw [a1, st]
  rfl
theorem rx_fails {code text : Array Nat} (hi : (match Sre.ops[code.getD 0 0]? with | some .INFO => true | _ => false) = true) (h4 : code.getD 2 0 = 4)
    (hx : ∀ c ∈ text.toList, rxClear code c) :
    ((Sre.forSearch code text 0 0 text.size false).runFor reTurnSteps).outcome = some .failed := by
  let m0 : Sre.M := { code, text, lim := text.size, start := 0, pc := (Sre.header code).2, pos := 0, handed := 0, marks := Array.replicate (2 * 0) none, mustAdvance := false, seen := if (Sre.header code).2 == 0 then {} else ({} : Sre.Seen).add 14 }
  show ((if ((decide (0 > text.size) || decide (text.size - 0 < (Sre.header code).1)) = true) then m0.say false else
    ({ m0 with lastStart := if ((decide ((Sre.header code).1 > 1) && !((Sre.header code).2 != 0 && code.getD 2 0 &&& 5 != 0)) = true) then max 0 (text.size - ((Sre.header code).1 - 1)) else text.size } : Sre.M).attemptFrom 0 true).runFor reTurnSteps).outcome = _
  split
  · exact rx_say rfl rfl
  · generalize hm : ({ m0 with lastStart := _ } : Sre.M) = m
    have c1 : m.code = code := by rw [← hm]
    have c2 : m.text = text := by rw [← hm]
    have c3 : m.lim = text.size := by rw [← hm]
    have c4 : m.outcome = none := by rw [← hm]
    have c5 : m.frames = [] := by rw [← hm]
    clear hm
    have hf : m.hasFirstSet = true := by
      unfold Sre.M.hasFirstSet
      rw [c1, h4, Bool.and_eq_true]
      exact ⟨hi, rfl⟩
    unfold Sre.M.attemptFrom
    rw [hf]
    simp only [Bool.not_true, Bool.false_eq_true, if_false]
    obtain ⟨s2, h2⟩ := rx_admitted (m := m) c1 (by rw [c2]; exact hx) (by rw [c2, c3]) (m.lim + 1 - 0) 0 m.seen
    rw [h2]
    exact rx_say c4 c5

theorem rx_clearN {c : Nat} (h : 32 ≤ c) (h2 : c < 127) : rxClear rxName c := by
  intro seen
  have e1 : Sre.inSet rxName c 20 5 true seen = (if (decide (0 ≤ c) && decide (c ≤ 31)) = true then .ok (true, seen.add 22) else Sre.inSet rxName c 19 8 true (seen.add 22)) := rfl
  have e2 : Sre.inSet rxName c 19 8 true (seen.add 22) = (if (c == 127) = true then .ok (true, (seen.add 22).add 16) else Sre.inSet rxName c 18 10 true ((seen.add 22).add 16)) := rfl
  refine ⟨((seen.add 22).add 16).add 0, ?_⟩
  show Sre.inSet rxName c 20 5 true seen = _
  have b1 : ¬ ((decide (0 ≤ c) && decide (c ≤ 31)) = true) := by simp; omega
  have b2 : ¬ ((c == 127) = true) := by simp; omega
  rw [e1, if_neg b1, e2, if_neg b2]
  rfl
theorem rx_clearV {c : Nat} (h : 32 ≤ c ∨ c = 9) (h2 : c < 127) : rxClear rxVal c := by
  intro seen
  have h3 : ∀ k : _root_.Fin 127, (32 ≤ k.val ∨ k.val = 9) → (decide (k.val < 256) && (rxVal.getD (5 + (1 + k.val / 32)) 0).testBit (k.val % 32)) = false := by decide +kernel
  have e1 : Sre.inSet rxVal c 28 5 true seen = (if (decide (c < 256) && (rxVal.getD (5 + (1 + c / 32)) 0).testBit (c % 32)) = true then .ok (true, seen.add 9) else Sre.inSet rxVal c 27 14 true (seen.add 9)) := rfl
  refine ⟨(seen.add 9).add 0, ?_⟩
  show Sre.inSet rxVal c 28 5 true seen = _
  rw [e1, h3 ⟨c, h2⟩ h]
  rfl

section
variable {prog : Program} {w : World} {A : Around} {E : Value → Shared → Prop} {s : Shared}
/-- a pattern's search that finds nothing -/
theorem rx_search {p cd : Addr} {pat : Value} {k1 k2 k3 : Tok} {its : Array Value} {code : Array Nat} {v : PySem.Str} {t : Tok} {Q : Value → Shared → Prop}
    (hp : s.heap.get? p = some { cls := .type "re.Pattern", data := .fields #[pat, .int 32 k1, .int 0 k2, .none, .none, .ref cd, .int 0 k3] })
    (hc : s.heap.get? cd = some { cls := .type "tuple", data := .seq its }) (hcode : (its.map reRawOf).map (·.toNat) = code)
    (hf : ((Sre.forSearch code v.cps 0 0 v.cps.size false).runFor reTurnSteps).outcome = some .failed) (hz : v.cps.size ≤ 16777216) (h : Q .none s) :
    wpAny (model prog w) A (call (.builtin "re.Pattern.search") [.ref p, .str v t]) Q E s := by
  refine wpAny_call_entry rx_slot ⟨_, hp, rfl⟩ rx_entry ?_ (rx_args _ _)
  show wpAny (model prog w) A.in1 (reTarget "re.Pattern.search" "search" ⟨[.ref p, .str v t], []⟩ >>= fun t => reAnswer t (Sre.forSearch t.code t.text t.groups t.pos t.lim false)) _ E s
  refine wpAny_bind ?_
  unfold reTarget
  have hn : reNamed "re.Pattern.search" "search" ["string", "pos", "endpos"] 1 [.str v t] [] = pure [some (.str v t), none, none] := rfl
  refine wpAny_bind (wpAny_of_eq hn ?_)
  refine wpAny_bind (wpAny_pure ?_)
  refine wpAny_bind (wpAny_pure ?_)
  refine wpAny_bind (wpAny_fieldsOf hp rfl ?_)
  have ht : reTextOf (.str v t) = pure (v.cps, 0) := rfl
  refine wpAny_bind (wpAny_of_eq ht ?_)
  show wpAny (model prog w) A.in1 (reNoCollectionInside (.str v t) 0 >>= fun _ => reRawItems (.ref cd) >>= fun l =>
    pure ({ pattern := .ref p, string := .str v t, code := l.map (·.toNat), text := v.cps, kind := 0, groups := 0, pos := min (0 : Int).toNat v.cps.size, lim := min ((2 ^ 63 - 1 : Int)).toNat v.cps.size } : ReTarget)) _ E s
  have h0 : reNoCollectionInside (.str v t) 0 = pure () := rfl
  refine wpAny_bind (wpAny_of_eq h0 ?_)
  refine wpAny_bind ?_
  unfold reRawItems
  refine wpAny_bind ?_
  refine wpAny_seqItems hc rfl (wpAny_pure (wpAny_pure ?_))
  have e1 : min (0 : Int).toNat v.cps.size = 0 := by simp
  have e3 : (2 ^ 63 - 1 : Int).toNat = 9223372036854775807 := by decide
  have e2 : min ((2 ^ 63 - 1 : Int)).toNat v.cps.size = v.cps.size := by rw [e3]; omega
  rw [e1, e2]
  dsimp only
  simp only [Option.getD_some, hcode]
  unfold reAnswer
  refine wpAny_bind (rx_run rfl hf (wpAny_pure ⟨_, rfl, h⟩))

theorem rx_methodK {K : Frag} {p : Addr} {fs : Array Value} {pl : Sem Bool} {Q : Value × List Value → Shared → Prop} (X : K.In s.heap) (hl : K.lookup p = some { cls := .type "re.Pattern", data := .fields fs }) (h : Q (.builtin "re.Pattern.search", [.ref p]) s) :
    wpAny (model prog w) A (getMethod (.ref p) "search" pl) Q E s :=
  getMethod_builtin ⟨_, X _ _ hl, rfl⟩ rx_plain rx_slot rx_type (fun a e => by cases e; exact ⟨_, X _ _ hl, rfl⟩) h
theorem rx_searchK {K : Frag} {p cd : Addr} {pat : Value} {k1 k2 k3 : Tok} {its : Array Value} {v : PySem.Str} {t : Tok} {nm : Bool} {Q : Value → Shared → Prop} (X : K.In s.heap)
    (hl : K.lookup p = some { cls := .type "re.Pattern", data := .fields #[pat, .int 32 k1, .int 0 k2, .none, .none, .ref cd, .int 0 k3] })
    (hc : K.lookup cd = some { cls := .type "tuple", data := .seq its }) (hcode : (its.toList.map fun v => (reRawOf v).toNat) = (if nm then rxName else rxVal).toList)
    (hv : ∀ c ∈ v.cps.toList, (32 ≤ c ∨ (nm = false ∧ c = 9)) ∧ c < 127) (hz : v.cps.size ≤ 1000000) (h : Q .none s) :
    wpAny (model prog w) A (call (.builtin "re.Pattern.search") [.ref p, .str v t]) Q E s := by
  have hcode' : (its.map reRawOf).map (·.toNat) = if nm then rxName else rxVal := by
    apply Array.ext'
    rw [← hcode, Array.toList_map, Array.toList_map, List.map_map]
    rfl
  refine rx_search (X _ _ hl) (X _ _ hc) hcode' ?_ (by omega) h
  cases nm with
  | true => exact rx_fails (code := rxName) rfl rfl fun c hc => rx_clearN (by have := hv c hc; simpa using this.1) (hv c hc).2
  | false => exact rx_fails (code := rxVal) rfl rfl fun c hc => rx_clearV (by have := hv c hc; simpa using this.1) (hv c hc).2
end
end RXs
section L1t
/-- what the next seat of a party is worth -/
def price (v s : Nat → Nat) (i : Nat) : Int := Int.fdiv ((v i : Int) * 720720) ((s i : Int) + 1)
/-- whose turn it is among the first parties: who, the seat, its worth -/
def awStep (v s : Nat → Nat) : Nat → Int × Int × Int
  | 0 => (0, 0, -1)
  | i + 1 => if (awStep v s i).2.2 < price v s i then ((i : Int), (s i : Int) + 1, price v s i) else awStep v s i
def lowOf : Nat → PySem.Str
  | 0 => "a"
  | 1 => "b"
  | _ => "c"
def upOf : Nat → PySem.Str
  | 0 => "A"
  | 1 => "B"
  | _ => "C"
/-- the letter of a number -/
def let65 (n : Nat) : PySem.Str := ⟨#[65 + n]⟩
theorem price_nonneg (v s : Nat → Nat) (i : Nat) : 0 ≤ price v s i := by
  unfold price
  rw [Int.fdiv_eq_ediv_of_nonneg _ (by omega)]
  exact Int.ediv_nonneg (by omega) (by omega)
theorem aw_ok (v s : Nat → Nat) : ∀ i, ∃ k, k ≤ i ∧ awStep v s (i + 1) = ((k : Int), (s k : Int) + 1, price v s k) ∧ (∀ j, j ≤ i → price v s j ≤ price v s k) ∧ (∀ j, j < k → price v s j < price v s k)
  | 0 => by
    refine ⟨0, Nat.le_refl _, if_pos (Int.lt_of_lt_of_le (show (-1 : Int) < 0 by decide) (price_nonneg v s 0)), fun j hj => ?_, fun j hj => absurd hj (Nat.not_lt_zero _)⟩
    obtain rfl : j = 0 := by omega
    exact Int.le_refl _
  | i + 1 => by
    obtain ⟨k, hk, e, h1, h2⟩ := aw_ok v s i
    by_cases hlt : price v s k < price v s (i + 1)
    · refine ⟨i + 1, Nat.le_refl _, if_pos (by rw [e]; exact hlt), fun j hj => ?_, fun j hj => ?_⟩
      · by_cases hji : j = i + 1
        · rw [hji]; exact Int.le_refl _
        · have := h1 j (by omega); omega
      · have := h1 j (by omega); omega
    · refine ⟨k, by omega, ?_, fun j hj => ?_, h2⟩
      · show (if (awStep v s (i + 1)).2.2 < price v s (i + 1) then _ else awStep v s (i + 1)) = _
        rw [if_neg (by rw [e]; exact hlt), e]
      · by_cases hji : j = i + 1
        · rw [hji]; omega
        · exact h1 j (by omega)
theorem let65_ap {n : Nat} (h0 : 1 ≤ n) (h : n ≤ 15) : (⟨((apN n).map (·.toNat)).toArray⟩ : PySem.Str) = let65 n := by
  rw [apN_one h0 h]
  unfold let65
  have : (UInt8.ofNat (65 + n)).toNat = 65 + n := by rw [UInt8.toNat_ofNat']; omega
  simp only [List.map_cons, List.map_nil, this]
theorem let65_clean {n : Nat} (h : n ≤ 15) : cleanV (let65 n) := by
  refine ⟨fun c hc => ?_, Nat.le_of_ble_eq_true rfl⟩
  have : c = 65 + n := List.mem_singleton.mp hc
  omega
end L1t
section ILt
local macro_rules | `(tactic| walk_at "exec For") => `(tactic| refine stop ?_)
local macro_rules | `(tactic| walk_at "exec For Name Call cons nil") => `(tactic| refine stop ?_)
local macro_rules | `(tactic| walk_at "pyIter") => `(tactic| refine stop ?_)
local macro_rules | `(tactic| walk_at "pyIter ref") => `(tactic| refine stop ?_)
local macro_rules | `(tactic| walk_at "sub") => `(tactic| first | exact List.forall_mem_nil _ | (refine' List.forall_mem_cons.mpr ⟨?a, ?b⟩; (case a => k_mem); (case b => walk_at "sub")))
local macro_rules | `(tactic| walk_at "call builtin:len") => `(tactic| (k_here; (with_reducible show wpAny _ _ (call (Value.builtin "len") [Value.ref _]) _ _ _); k_dflt (refine' my_lenT ?k1 ?k2 ?k3 ?k4 ?_; (case k1 => k_asm); (case k2 => k_mem); (case k3 => exact IntsAre.length (by assumption)); (case k4 => omega); k_whole)))
theorem c_indent (w : World) (loose : List PySem.Str) (mean : ExcName → Option Value) (mg mb : PySem.Str → Option Value) (s : Shared) (h₀ : Heap) (X : (Mine.frag.heap_1 w.params).In h₀) (T : Top Mine.view loose mean mg mb h₀) (hk : h₀.StaysIn s.heap) (x dx tn tc : Addr) (ws : PySem.Str) (t tb tn' tnt k1 k2 k3 k4 k5 : Tok) (vs : List Value) (cnt : List Int) (b n nt : Int) (size : Int) (tz : Tok) (R : Result → Shared → Prop)
  (hi : IntsAre vs cnt) (hcz : cnt.length ≤ 1000000) (h1 : 1 ≤ size) (hs16 : size ≤ 1000000)
  (hn : Has h₀ s.heap (wsObjs w.params 100 x dx tn tc ws t tb tn' tnt k1 k2 k3 k4 k5 vs cnt b n nt))
  (hR : ∀ h' tk tok, s.heap.StaysIn h' → R (.ok (.ret (.int (indent cnt b nt size) tok))) { s with heap := h', toks := tk }) :
  codeAny (model PySem.Challenge.rw_ta0081_01.row.prog w) (AC 5) (.call (.ref 69) ⟨[.ref x, .int size tz], []⟩) R s := by
  revert X
  k_fill
  intro X
  k_dflt (refine' enter (binds := [("self", .ref x), ("tabsize", .int size tz)]) (news := (wsObjs w.params 100 x dx tn tc ws t tb tn' tnt k1 k2 k3 k4 k5 vs cnt b n nt)) X T hk ?kn ?k6 ?k7 ?k8 ?k9 ?kB ?h ?c2 ?c3 ?c4 ?c5; (case kn => assumption); (case k6 => k_is); (case k7 => k_is); (case k8 => decide); (case k9 => exact BindsTo.of_eq rfl); (case c5 => decide); (case kB => exact locs rfl); (case c2 => exact rfl); (case c3 => exact rfl); (case c4 => exact rfl))
  clear X T
  intro g L h₁ hg hs F N X T
  (try dsimp only)
  dsimp only [wsObjs] at N
  k_steps
  unfold Stop
  refine For_led ?_ (fun _ => rfl)
  k_steps
  unfold Stop
  rename IsRange _ _ _ _ _ _ _ _ => hr
  rename Fr _ _ _ _ => F
  rename News _ _ _ _ => N
  refine' for_range (J := fun i m news => ∃ til, lks m [("self", .ref x), ("tabsize", .int size tz), ("count", .ref tc), ("trailing", .int b tb), ("il", .int (indIl cnt size i) til)] ∧ news = wsObjs w.params 100 x dx tn tc ws t tb tn' tnt k1 k2 k3 k4 k5 vs cnt b n nt)
     (Jx := fun m news => ∃ til, lks m [("self", .ref x), ("tabsize", .int size tz), ("count", .ref tc), ("trailing", .int b tb), ("il", .int (indIl cnt size ((cnt.length : Int) - size).toNat) til)] ∧ news = wsObjs w.params 100 x dx tn tc ws t tb tn' tnt k1 k2 k3 k4 k5 vs cnt b n nt) hr ?sm (rangeSize_nat _ _) ?h1 F N ?j0 ?turn ?jx ?done
  case sm => exact small_one (by omega) (by omega) (by omega) (by omega)
  case h1 => rfl
  case j0 => exact ⟨_, ⟨rfl, rfl, rfl, rfl, rfl, trivial⟩, rfl⟩
  case jx => exact fun m news h => h
  case turn =>
    clear F N
    rintro i u m news h tk I o hlt ⟨til, hm, rfl⟩ hnI F N
    replace F := fr_bd F _ hm
    dsimp only [bd] at F
    rw [Int.mul_one]
    have hq : 0 ≤ Int.fdiv (size + i) size ∧ Int.fdiv (size + i) size ≤ 2000000 := by
      rw [Int.fdiv_eq_ediv_of_nonneg _ (by omega)]
      refine ⟨Int.ediv_nonneg (by omega) (by omega), ?_⟩
      exact Int.le_trans (Int.ediv_le_self _ (by omega)) (by omega)
    k_steps
    exact ⟨_, _, _, _, rfl, by assumption, by assumption, hnI, _, ⟨rfl, rfl, rfl, rfl, rfl, trivial⟩, rfl⟩
  case done =>
    clear F N
    rintro h tk m news ⟨til, hm, rfl⟩ F N
    replace F := fr_bd F _ hm
    dsimp only [bd] at F
    k_steps
    exact hR _ _ _ (stays_of hs hn F.keep N)

theorem c_indentC {w : World} {loose : List PySem.Str} {mean : ExcName → Option Value} {mg mb : PySem.Str → Option Value} {s : Shared} {h₀ : Heap} {L : Addr} {m : PySem.Str → Option Value} {news : List (Addr × Obj)} {A' : Around} (F : Fr h₀ L s.heap m) (N : News h₀ L s.heap news) (X : (Mine.frag.heap_1 w.params).In h₀) (T : Top Mine.view loose mean mg mb h₀) (hA : A'.handled = none) (hAd : A'.depth ≤ 300 + 20 * 5) (hAu : A'.units ≤ 1000 * 5) {x dx tn tc : Addr} {ws : PySem.Str} {t tb tn' tnt k1 k2 k3 k4 k5 : Tok} {vs : List Value} {cnt : List Int} {b n nt : Int} {size : Int} {tz : Tok} {Q : Value → Shared → Prop}
  (hm : ∀ q ∈ wsObjs w.params 100 x dx tn tc ws t tb tn' tnt k1 k2 k3 k4 k5 vs cnt b n nt, q ∈ news) (hi : IntsAre vs cnt) (hcz : cnt.length ≤ 1000000) (h1 : 1 ≤ size) (hs16 : size ≤ 1000000)
  (hQ : ∀ h' tk tok, Fr h₀ L h' m → News h₀ L h' news → Q (.int (indent cnt b nt size) tok) { s with heap := h', toks := tk }) :
  wpAny (model PySem.Challenge.rw_ta0081_01.row.prog w) A' (call (.ref 69) [.ref x, .int size tz]) Q NoE s :=
  lift_A (A := AC 5) (wpAny_call (c_indent w loose mean mg mb s h₀ X T F.keep x dx tn tc ws t tb tn' tnt k1 k2 k3 k4 k5 vs cnt b n nt size tz _ hi hcz h1 hs16 (fun q hq => ⟨(N q (hm q hq)).1, (N q (hm q hq)).2.2⟩) fun h' tk tok k => hQ h' tk tok (fr_stay F k) (news_stay N k))) hA.symm hAd hAu rfl rfl
end ILt
section WSt
local macro_rules | `(tactic| walk_at "exec For") => `(tactic| refine stop ?_)
local macro_rules | `(tactic| walk_at "exec For Name Attribute cons nil") => `(tactic| refine stop ?_)
local macro_rules | `(tactic| walk_at "pyIter") => `(tactic| refine stop ?_)
local macro_rules | `(tactic| walk_at "pyIter str") => `(tactic| refine stop ?_)
local macro_rules | `(tactic| walk_at "sub") => `(tactic| first | exact List.forall_mem_nil _ | (refine' List.forall_mem_cons.mpr ⟨?a, ?b⟩; (case a => k_mem); (case b => walk_at "sub")))
local macro_rules | `(tactic| walk_at "call type:tuple") => `(tactic| (k_here; (with_reducible show wpAny _ _ (call (Value.type _) [Value.ref _]) _ _ _); k_dflt (refine' my_tuple ?k1 ?k2 ?k3 ?k4 ?_; (case k1 => k_asm); (case k2 => k_asm); (case k3 => k_mem); (case k4 => (rw [IntsAre.length (by assumption)]; omega)); k_whole); intro D' h' F' N' l1; (try k_lt l1); (try k_sweep)))
theorem c_wsinit (w : World) (loose : List PySem.Str) (mean : ExcName → Option Value) (mg mb : PySem.Str → Option Value) (s : Shared) (h₀ : Heap) (X : (Mine.frag.heap_1 w.params).In h₀) (T : Top Mine.view loose mean mg mb h₀) (hk : h₀.StaysIn s.heap)
  (x dx : Addr) (ws : PySem.Str) (t : Tok) (R : Result → Shared → Prop) (ha : ws.cps.all (· < 128) = true) (hz : ws.cps.size ≤ 1000000)
  (hn : Has h₀ s.heap [(x, instObj 100 dx), (dx, dictOf [] 0)]) (hlt : @LT.lt Nat _ dx x)
  (hR : ∀ h' tk tn tc vs cnt b n nt tb tn' tnt k1 k2 k3 k4 k5, IntsAre vs cnt → cnt.length ≤ 1000000 → (cnt, b, n, nt) = wsRun ws.cps.toList [] 0 0 0 → Has h₀ h' (wsObjs w.params 100 x dx tn tc ws t tb tn' tnt k1 k2 k3 k4 k5 vs cnt b n nt) →
    SB s.heap h' [x, dx] → s.heap.get? tn = none → s.heap.get? tc = none → @LT.lt Nat _ tc tn → R (.ok (.ret .none)) { s with heap := h', toks := tk }) :
  codeAny (model PySem.Challenge.rw_ta0081_01.row.prog w) (AC 5) (.call (.ref 55) ⟨[.ref x, .str ws t], []⟩) R s := by
  revert X
  k_fill
  intro X
  k_dflt (refine' enter (binds := [("self", .ref x), ("ws", .str ws t)]) (news := [(x, instObj 100 dx), (dx, dictOf [] 0)]) X T hk ?kn ?k6 ?k7 ?k8 ?k9 ?kB ?h ?c2 ?c3 ?c4 ?c5; (case kn => assumption); (case k6 => k_is); (case k7 => k_is); (case k8 => decide); (case k9 => exact BindsTo.of_eq rfl); (case c5 => decide); (case kB => exact locs rfl); (case c2 => exact rfl); (case c3 => exact rfl); (case c4 => exact rfl))
  clear X T
  intro g L h₁ hg hs F N X T
  (try dsimp only)
  k_steps
  unfold Stop
  refine For_led ?_ (fun _ => rfl)
  k_steps
  unfold Stop
  rename Fr _ _ _ _ => F
  rename News _ _ _ _ => N
  refine' for_str (J := fun i m news => ∃ cnt vs b tb n tn nt tnt l k tr tS tT, IntsAre vs cnt ∧ 0 ≤ b ∧ b ≤ (i : Int) ∧ cnt.length ≤ i ∧ wsRun (ws.cps.toList.drop i) cnt b n nt = wsRun ws.cps.toList [] 0 0 0 ∧ lks m [("self", .ref x), ("S", .str " " tS), ("T", .str "\t" tT), ("count", .ref l), ("b", .int b tb), ("n", .int n tn), ("nt", .int nt tnt)] ∧
     news = [(l, listOf vs.toArray k), (x, instObj 100 dx), (dx, dictOf [⟨PyData.keyHash w.params "raw", .str "raw" tr, .str ws t⟩] 1)] ∧ @LT.lt Nat _ x l)
    (Jx := fun m news => ∃ cnt vs b tb n tn nt tnt l k tr tS tT, IntsAre vs cnt ∧ cnt.length ≤ 1000000 ∧ (cnt, b, n, nt) = wsRun ws.cps.toList [] 0 0 0 ∧ lks m [("self", .ref x), ("S", .str " " tS), ("T", .str "\t" tT), ("count", .ref l), ("b", .int b tb), ("n", .int n tn), ("nt", .int nt tnt)] ∧
     news = [(l, listOf vs.toArray k), (x, instObj 100 dx), (dx, dictOf [⟨PyData.keyHash w.params "raw", .str "raw" tr, .str ws t⟩] 1)] ∧ @LT.lt Nat _ x l) ha ?h1 F ?N ?j0 ?turn ?jx ?done
  case h1 => rfl
  case' j0 =>
    refine' ⟨[], [], 0, _, 0, _, 0, _, _, _, _, _, _, .nil, by omega, by omega, by decide, by rfl, ⟨rfl, rfl, rfl, rfl, rfl, rfl, rfl, trivial⟩, rfl, ?lt⟩
    case lt => exact (by assumption : @LT.lt Nat _ _ _ ∧ @LT.lt Nat _ _ _ ∧ @LT.lt Nat _ _ _).2.1
  case N => exact cb_drop N (by walk_at "sub")
  case jx =>
    rintro m news ⟨cnt, vs, b, tb, n, tn, nt, tnt, l, k, tr, tS, tT, hi, h0, hb, hc, hr, hm, hn, hl⟩
    refine ⟨cnt, vs, b, tb, n, tn, nt, tnt, l, k, tr, tS, tT, hi, by omega, ?_, hm, hn, hl⟩
    rw [← hr, List.drop_eq_nil_of_le (by simp)]
    rfl
  case turn =>
    clear F N
    rintro i c u m news h tk I o hc ⟨cnt, vs, b, tb, n, tn, nt, tnt, l, k, tr, tS, tT, hi, h0, hb, hcl, hr, hm, rfl, hl⟩ hnI F N
    replace F := fr_bd F _ hm
    dsimp only [bd] at F
    obtain ⟨hI1, hI2, hI3⟩ : @Ne Nat l I ∧ @Ne Nat x I ∧ @Ne Nat dx I := ⟨hnI _ (.head _), hnI _ (.tail _ (.head _)), hnI _ (.tail _ (.tail _ (.head _)))⟩
    have hM : KstMark := kstMark
    have hib : i ≤ 1000000 := by have := (Array.getElem?_eq_some_iff.mp hc).1; omega
    have hcz : cnt.length ≤ 1000000 := by omega
    k_steps
    · have e : true = decide (c = 32) := sgn_of (x := " ") (by decide) (by assumption)
      have e1 : c = 32 := by simpa using e.symm
      have hr2 := ws_step hc hr
      rw [if_pos e1] at hr2
      refine ⟨_, _, _, [(l, _), (x, _), (dx, _)], rfl, by assumption, by assumption, hnI, ?_⟩
      exact ⟨cnt, vs, b + 1, _, n + 1, _, nt, _, l, k, tr, tS, tT, hi, by omega, by omega, by omega, hr2, ⟨rfl, rfl, rfl, rfl, rfl, rfl, rfl, trivial⟩, rfl, hl⟩
    · have e : false = decide (c = 32) := sgn_of (x := " ") (by decide) (by assumption)
      have e1 : ¬ c = 32 := by simpa using e.symm
      have e' : true = decide (c = 9) := sgn_of (x := "\t") (by decide) (by assumption)
      have e2 : c = 9 := by simpa using e'.symm
      have hr2 := ws_step hc hr
      rw [if_neg e1, if_pos e2] at hr2
      rename IntsAre _ (List.set _ _ _) => hi2
      rw [bump_pos (by assumption)] at hi2
      refine' ⟨_, _, _, _, rfl, ?F1, cb_drop ?N1 ?S1, ?ne1, ?J1⟩
      case F1 => assumption
      case' J1 => refine' ⟨bump cnt b, _, 0, _, n + 1, _, nt + 1, _, _, _, tr, tS, tT, hi2, by omega, by omega, bump_len hb hcl, hr2, ⟨rfl, rfl, rfl, rfl, rfl, rfl, rfl, trivial⟩, rfl, ?lt1⟩
      case N1 => assumption
      case S1 => walk_at "sub"
      case ne1 => k_all
      case lt1 => omega
    · have e : false = decide (c = 32) := sgn_of (x := " ") (by decide) (by assumption)
      have e1 : ¬ c = 32 := by simpa using e.symm
      have e' : true = decide (c = 9) := sgn_of (x := "\t") (by decide) (by assumption)
      have e2 : c = 9 := by simpa using e'.symm
      have hr2 := ws_step hc hr
      rw [if_neg e1, if_pos e2] at hr2
      rename IntsAre _ (List.set _ _ _) => hi2
      rw [bump_neg (by assumption)] at hi2
      refine' ⟨_, _, _, _, rfl, ?F2, cb_drop ?N2 ?S2, ?ne2, ?J2⟩
      case F2 => assumption
      case' J2 => refine' ⟨bump cnt b, _, 0, _, n + 1, _, nt + 1, _, _, _, tr, tS, tT, hi2, by omega, by omega, bump_len hb hcl, hr2, ⟨rfl, rfl, rfl, rfl, rfl, rfl, rfl, trivial⟩, rfl, ?lt2⟩
      case N2 => assumption
      case S2 => walk_at "sub"
      case ne2 => k_all
      case lt2 => omega
    · have e : false = decide (c = 32) := sgn_of (x := " ") (by decide) (by assumption)
      have e1 : ¬ c = 32 := by simpa using e.symm
      have e' : false = decide (c = 9) := sgn_of (x := "\t") (by decide) (by assumption)
      have e2 : ¬ c = 9 := by simpa using e'.symm
      have hr2 := ws_step hc hr
      rw [if_neg e1, if_neg e2] at hr2
      refine ⟨_, _, _, _, rfl, by assumption, cb_drop (by assumption) (by walk_at "sub"), cnt, vs, b, tb, n, tn, nt, tnt, l, k, tr, tS, tT, hi, by omega, hr2, ⟨rfl, rfl, rfl, rfl, rfl, rfl, rfl, trivial⟩, rfl, hl⟩
  case done =>
    clear F N
    rintro h tk m news ⟨cnt, vs, b, tb, n, tn, nt, tnt, l, k, tr, tS, tT, hi, hcz, hr, hm, rfl, hl⟩ F N
    replace F := fr_bd F _ hm
    dsimp only [bd] at F
    have hM : KstMark := kstMark
    dsimp only
    k_steps
    rename Fr _ _ _ _ => F
    rename News _ _ _ _ => N
    have fresh : ∀ {a : Addr} {o : Obj}, (a, o) ∈ _ → @Ne Nat a x → @Ne Nat a dx → s.heap.get? a = none := fun {a o} hm h1 h2 => by
      cases q : s.heap.get? a with
      | none => rfl
      | some o' =>
        have := hs a o' q (fun hb => by
          rcases List.mem_cons.mp hb with e | hb
          · exact h1 e
          · exact h2 (List.mem_singleton.mp hb))
        rw [(N _ hm).2.2] at this
        cases this
    have hc := (by assumption : @LT.lt Nat _ _ _ ∧ @LT.lt Nat _ l _ ∧ @LT.lt Nat _ x _ ∧ @LT.lt Nat _ dx _)
    have hd := (by assumption : @LT.lt Nat _ l _ ∧ @LT.lt Nat _ x _ ∧ @LT.lt Nat _ dx _)
    refine' hR _ _ _ _ vs cnt b n nt _ _ _ _ _ _ _ _ hi hcz hr (has_of (cb_drop N ?S3) hg) (fun b o e hb => F.keep b o (hs b o e hb)) (fresh (.head _) ?n1 ?n2) (fresh (.tail _ (.head _)) ?n3 ?n4) hc.1
    case S3 => walk_at "sub"
    all_goals omega
end WSt
section WCt
theorem c_ws (w : World) (loose : List PySem.Str) (mean : ExcName → Option Value) (mg mb : PySem.Str → Option Value) (s : Shared) (h₀ : Heap) (X : (Mine.frag.heap_1 w.params).In h₀) (T : Top Mine.view loose mean mg mb h₀) (hk : h₀.StaysIn s.heap) {L : Addr} {m : PySem.Str → Option Value} {news : List (Addr × Obj)} (F : Fr h₀ L s.heap m) (N : News h₀ L s.heap news)
  (ws : PySem.Str) (t : Tok) (Q : Value → Shared → Prop) (ha : ws.cps.all (· < 128) = true) (hz : ws.cps.size ≤ 1000000)
  (hQ : ∀ h' tk x dx tn tc vs cnt b n nt tb tn' tnt k1 k2 k3 k4 k5, IntsAre vs cnt → cnt.length ≤ 1000000 → (cnt, b, n, nt) = wsRun ws.cps.toList [] 0 0 0 → Fr h₀ L h' m →
    News h₀ L h' (wsObjs w.params 100 x dx tn tc ws t tb tn' tnt k1 k2 k3 k4 k5 vs cnt b n nt ++ news) → AllLt dx news → @LT.lt Nat _ dx x → AllNe tn news → AllNe tc news → @LT.lt Nat _ tc tn → @Ne Nat tn x → @Ne Nat tn dx → @Ne Nat tc x → @Ne Nat tc dx → Q (.ref x) { s with heap := h', toks := tk }) :
  wpAny (model PySem.Challenge.rw_ta0081_01.row.prog w) (AC 4) (call (.ref 100) [.str ws t]) Q NoE s := by
  revert X
  k_fill
  intro X
  k_dflt (refine' call_cls F X N ?k1 ?k2 ?k3 ?h; (case k1 => k_is); (case k2 => k_is); (case k3 => k_is))
  intro x dx h' F' N' hlt hxd
  refine' lift_C (A := AC 5) (c_wsinit w loose mean mg mb { s with heap := h' } h₀ X T (fun b o e => F'.keep b o e) x dx ws t _ ha hz ?hn hxd ?hR) rfl ?d ?u rfl rfl
  case d => exact Nat.le_of_ble_eq_true rfl
  case u => exact Nat.le_of_ble_eq_true rfl
  case hn => exact fun q hq => ⟨(N' q (by rcases hq with _ | ⟨_, _ | ⟨_, _ | _⟩⟩ <;> first | exact .head _ | exact .tail _ (.head _))).1, (N' q (by rcases hq with _ | ⟨_, _ | ⟨_, _ | _⟩⟩ <;> first | exact .head _ | exact .tail _ (.head _))).2.2⟩
  case hR =>
    intro h2 tk tn tc vs cnt b n nt tb tn' tnt k1 k2 k3 k4 k5 hi hcz hr hH hs hn1 hn2 hct
    have N1 : News h₀ L h' news := fun p hp => N' p (.tail _ (.tail _ hp))
    have hx := N' _ (.head _)
    have hdx := N' _ (.tail _ (.head _))
    have ne1 : ∀ {a : Addr}, h'.get? a = none → @Ne Nat a x := fun {a} e q => by subst q; have := hx.1; rw [e] at this; cases this
    have ne2 : ∀ {a : Addr}, h'.get? a = none → @Ne Nat a dx := fun {a} e q => by subst q; have := hdx.1; rw [e] at this; cases this
    refine ⟨rfl, hQ h2 tk x dx tn tc vs cnt b n nt tb tn' tnt k1 k2 k3 k4 k5 hi hcz hr (after_fr F' hs ?a1 ?a2) ?a3 (allLt_of hlt) hxd (allNe_of (news_ne N1 hn1)) (allNe_of (news_ne N1 hn2)) hct (ne1 hn1) (ne2 hn1) (ne1 hn2) (ne2 hn2)⟩
    case a1 =>
      intro hb
      rcases List.mem_cons.mp hb with e | hb
      · exact hx.2.1 e.symm
      · exact hdx.2.1 (List.mem_singleton.mp hb).symm
    case a2 =>
      intro b hb
      rcases List.mem_cons.mp hb with e | hb
      · rw [e]; exact hx.2.2
      · rw [List.mem_singleton.mp hb]; exact hdx.2.2
    case a3 =>
      intro p hp
      rcases List.mem_append.mp hp with hp | hp
      · refine after_led hH ?_ p hp
        intro q hq
        rcases List.mem_cons.mp hq with rfl | hq
        · exact fr_ne F' hn1
        rcases List.mem_cons.mp hq with rfl | hq
        · exact fr_ne F' hn2
        rcases List.mem_cons.mp hq with rfl | hq
        · exact hx.2.1
        rcases List.mem_cons.mp hq with rfl | hq
        · exact hdx.2.1
        · cases hq
      · refine after_news N1 hs ?_ p hp
        intro q hq hb
        have h1 : @LT.lt Nat _ q.1 dx := hlt q hq
        have hxd' : @LT.lt Nat _ dx x := hxd
        rcases List.mem_cons.mp hb with e | hb
        · have e' : @Eq Nat q.1 x := e
          omega
        · have e' : @Eq Nat q.1 dx := List.mem_singleton.mp hb
          omega
end WCt
section APt
local macro_rules | `(tactic| walk_at "exec While") => `(tactic| refine stop ?_)
local macro_rules | `(tactic| walk_at "subscriptTail") => `(tactic| (k_here; (with_reducible show wpAny _ _ (subscriptTail _ (Expr.Slice _ _ none _) (Value.bytes _ _) (Value.ref _)) _ _ _); (with_reducible rename Fr _ _ _ _ => F'); (with_reducible rename News _ _ _ _ => N'); (refine ap_slice (s := ⟨_, _, _, _, _⟩) F' N' (by omega) (by omega) ?_); intro _ _ _ _ _))
theorem c_int2ap (w : World) (loose : List PySem.Str) (mean : ExcName → Option Value) (mg mb : PySem.Str → Option Value) (s : Shared) (h₀ : Heap) (X : (Mine.frag.heap_1 w.params).In h₀) (T : Top Mine.view loose mean mg mb h₀) (hk : h₀.StaysIn s.heap) (n : Int) (t : Tok) (R : Result → Shared → Prop) (hz : n.natAbs < 16 ^ 16)
  (hR : ∀ h' tk tok, s.heap.StaysIn h' → R (.ok (.ret (.bytes (apN n.natAbs).toArray tok))) { s with heap := h', toks := tk }) :
  codeAny (model PySem.Challenge.rw_ta0081_01.row.prog w) (AC 5) (.call (.ref 111) ⟨[.int n t], []⟩) R s := by
  revert X
  k_fill
  intro X
  k_dflt (refine' enter (binds := [("num", .int n t)]) (news := []) X T hk ?kn ?k6 ?k7 ?k8 ?k9 ?kB ?h ?c2 ?c3 ?c4 ?c5; (case kn => exact fun q hq => nomatch hq); (case k6 => k_is); (case k7 => k_is); (case k8 => decide); (case k9 => exact BindsTo.of_eq rfl); (case c5 => decide); (case kB => exact locs rfl); (case c2 => exact rfl); (case c3 => exact rfl); (case c4 => exact rfl))
  clear X T
  intro g L h₁ hg hs F N X T
  (try dsimp only)
  k_steps
  unfold Stop
  rename Fr _ _ _ _ => F
  refine' while_rule (I := fun k s' => ∃ h tk m num tn val tv ta j, s' = { s with heap := h, toks := tk } ∧ Fr g L h m ∧ lks m [("num", .int num tn), ("val", .bytes val.toArray tv), ("AP", .bytes APs ta)] ∧ 0 ≤ num ∧ num.toNat < 16 ^ j ∧ j + val.length ≤ 16 ∧ apN num.toNat ++ val = apN n.natAbs ∧ k = num.toNat) (if n < 0 then -n else n).toNat ?i0 ?it
  case i0 => 
    have e : (if n < 0 then -n else n).toNat = n.natAbs := by split <;> omega
    refine ⟨_, _, _, _, _, [], _, _, 16, rfl, F, ⟨rfl, rfl, rfl, trivial⟩, ?_, ?_, ?_, ?_, rfl⟩
    · split <;> omega
    · rw [e]; exact hz
    · decide
    · rw [e, List.append_nil]
  case it =>
    clear F
    rintro k s' ⟨h, tk, m, num, tn, val, tv, ta, j, rfl, F, hm, h0, hj, hv, hr, rfl⟩
    replace F := fr_bd F _ hm
    dsimp only [bd] at F
    have N : News g L h [] := News.nil
    have hf : 0 ≤ Int.fmod num 16 ∧ Int.fmod num 16 < 16 := by
      rw [Int.fmod_eq_emod_of_nonneg _ (by omega)]; omega
    have hM : KstMark := kstMark
    k_steps
    · have e1 : (Int.fdiv num 16).toNat = num.toNat / 16 := by rw [Int.fdiv_eq_ediv_of_nonneg _ (by omega)]; omega
      have e2 : (Int.fmod num 16).toNat = num.toNat % 16 := by rw [Int.fmod_eq_emod_of_nonneg _ (by omega)]; omega
      have e0 : num.toNat ≠ 0 := by omega
      cases j with
      | zero => exfalso; rw [Nat.pow_zero] at hj; omega
      | succ j =>
      rw [Nat.pow_succ] at hj
      refine ⟨num.toNat / 16, by omega, _, _, _, Int.fdiv num 16, _, UInt8.ofNat (65 + (Int.fmod num 16).toNat) :: val, _, _, j, rfl, by assumption, ⟨rfl, rfl, rfl, trivial⟩, ?_, ?_, ?_, ?_, ?_⟩
      · rw [Int.fdiv_eq_ediv_of_nonneg _ (by omega)]; omega
      · rw [e1]; omega
      · rw [List.length_cons]; omega
      · rw [e1, e2, ← hr, apN_pos e0, List.append_assoc]; rfl
      · rw [e1]
    · have e0 : num.toNat = 0 := by omega
      rw [e0, apN_zero, List.nil_append] at hr
      subst hr
      exact hR _ _ _ (fun b o e => F.keep b o (hs b o e (fun h => nomatch h)))
theorem c_int2apC {w : World} {loose : List PySem.Str} {mean : ExcName → Option Value} {mg mb : PySem.Str → Option Value} {s : Shared} {h₀ : Heap} {L : Addr} {m : PySem.Str → Option Value} {news : List (Addr × Obj)} {A' : Around} (F : Fr h₀ L s.heap m) (N : News h₀ L s.heap news) (X : (Mine.frag.heap_1 w.params).In h₀) (T : Top Mine.view loose mean mg mb h₀) (hA : A'.handled = none) (hAd : A'.depth ≤ 300 + 20 * 5) (hAu : A'.units ≤ 1000 * 5) {n : Int} {t : Tok} {Q : Value → Shared → Prop} (hz : n.natAbs < 16 ^ 16)
  (hQ : ∀ h' tk tok, Fr h₀ L h' m → News h₀ L h' news → Q (.bytes (apN n.natAbs).toArray tok) { s with heap := h', toks := tk }) :
  wpAny (model PySem.Challenge.rw_ta0081_01.row.prog w) A' (call (.ref 111) [.int n t]) Q NoE s :=
  lift_A (A := AC 5) (wpAny_call (c_int2ap w loose mean mg mb s h₀ X T F.keep n t _ hz fun h' tk tok k => hQ h' tk tok (fr_stay F k) (news_stay N k))) hA.symm hAd hAu rfl rfl
end APt
section CVt
local macro_rules | `(tactic| walk_at "getMethod ref") => `(tactic| (k_here; k_dflt (refine' rx_methodK ?k1 ?k2 ?_; (case k1 => k_in); (case k2 => k_is); k_whole)))
local macro_rules | `(tactic| walk_at "call builtin:re.Pattern.search") => `(tactic| (k_here; k_dflt (refine' rx_searchK ?k1 ?k2 ?k3 ?k4 ?k5 ?k6 ?_; (case k1 => k_in); (case k2 => k_is); (case k3 => k_is); (case k5 => assumption); (case k4 => exact rfl); (case k6 => assumption); k_whole)))
theorem c_conv (w : World) (loose : List PySem.Str) (mean : ExcName → Option Value) (mg mb : PySem.Str → Option Value) (s : Shared) (h₀ : Heap) (X : (Mine.frag.heap_1 w.params).In h₀) (T : Top Mine.view loose mean mg mb h₀) (hk : h₀.StaysIn s.heap) (x : Value) (v : PySem.Str) (t : Tok) (nm : Bool) (R : Result → Shared → Prop) (hv : ∀ c ∈ v.cps.toList, (32 ≤ c ∨ (nm = false ∧ c = 9)) ∧ c < 127) (hz : v.cps.size ≤ 1000000)
  (hR : ∀ h' tk, s.heap.StaysIn h' → R (.ok (.ret (.str v t))) { s with heap := h', toks := tk }) :
  codeAny (model PySem.Challenge.rw_ta0081_01.row.prog w) (AC 8) (.call (.ref 143) ⟨[x, .str v t], [("name", .bool nm)]⟩) R s := by
  revert X
  k_fill
  intro X
  k_dflt (refine' enter (binds := [("self", x), ("value", .str v t), ("name", .bool nm)]) (news := []) X T hk ?kn ?k6 ?k7 ?k8 ?k9 ?kB ?h ?c2 ?c3 ?c4 ?c5; (case kn => exact fun q hq => nomatch hq); (case k6 => k_is); (case k7 => k_is); (case k8 => decide); (case k9 => exact BindsTo.of_eq rfl); (case c5 => decide); (case kB => exact locs rfl); (case c2 => exact rfl); (case c3 => exact rfl); (case c4 => exact rfl))
  clear X T
  intro g L h₁ hg hs F N X T
  (try dsimp only)
  cases nm <;> k_steps
  all_goals exact hR _ _ (fun b o e => Fr.keep (by assumption) b o (hs b o e (fun h => nomatch h)))
theorem c_convC {w : World} {loose : List PySem.Str} {mean : ExcName → Option Value} {mg mb : PySem.Str → Option Value} {s : Shared} {h₀ : Heap} {L : Addr} {m : PySem.Str → Option Value} {news : List (Addr × Obj)} {A' : Around} (F : Fr h₀ L s.heap m) (N : News h₀ L s.heap news) (X : (Mine.frag.heap_1 w.params).In h₀) (T : Top Mine.view loose mean mg mb h₀) (hA : A'.handled = none) (hAd : A'.depth ≤ 300 + 20 * 8) (hAu : A'.units ≤ 1000 * 8) (x : Value) (v : PySem.Str) (t : Tok) (nm : Bool) (Q : Value → Shared → Prop) (hv : ∀ c ∈ v.cps.toList, (32 ≤ c ∨ (nm = false ∧ c = 9)) ∧ c < 127) (hz : v.cps.size ≤ 1000000)
  (hQ : ∀ h' tk, Fr h₀ L h' m → News h₀ L h' news → Q (.str v t) { s with heap := h', toks := tk }) :
  wpAny (model PySem.Challenge.rw_ta0081_01.row.prog w) A' (call (.ref 143) [x, .str v t] [("name", .bool nm)]) Q NoE s :=
  lift_A (A := AC 8) (wpAny_call (c_conv w loose mean mg mb s h₀ X T F.keep x v t nm _ hv hz fun h' tk k => hQ h' tk (fr_stay F k) (news_stay N k))) hA.symm hAd hAu rfl rfl
end CVt
section HIt
local macro_rules | `(tactic| walk_at "exec For") => `(tactic| refine stop ?_)
local macro_rules | `(tactic| walk_at "exec For Tuple") => `(tactic| refine stop ?_)
local macro_rules | `(tactic| walk_at "exec For Tuple Name cons nil") => `(tactic| refine stop ?_)
local macro_rules | `(tactic| walk_at "pyIter") => `(tactic| refine stop ?_)
local macro_rules | `(tactic| walk_at "pyIter ref") => `(tactic| refine stop ?_)
local macro_rules | `(tactic| walk_at "sub") => `(tactic| first | exact List.forall_mem_nil _ | (refine' List.forall_mem_cons.mpr ⟨?a, ?b⟩; (case a => k_mem); (case b => walk_at "sub")))
local macro_rules | `(tactic| walk_at "call ref") => `(tactic| (k_here; k_dflt (refine' c_convC ?k1 ?k2 ?k3 ?k4 ?a1 ?a2 ?a3 _ _ _ _ _ ?k5 ?k6 ?_; (case k1 => k_asm); (case k2 => k_asm); (case k3 => k_asm); (case k4 => k_asm); (case a1 => exact rfl); (case a2 => exact Nat.le_of_ble_eq_true rfl); (case a3 => exact Nat.le_of_ble_eq_true rfl); (case k5 => first | exact cleanN.ok (by assumption) | exact cleanV.ok (by assumption)); (case k6 => first | exact And.right (a := ∀ c ∈ _, 32 ≤ c ∧ c < 127) (by assumption) | exact And.right (a := ∀ c ∈ _, (32 ≤ c ∨ c = 9) ∧ c < 127) (by assumption)); k_whole); intro h' tk' F' N'))
theorem c_hinit (w : World) (loose : List PySem.Str) (mean : ExcName → Option Value) (mg mb : PySem.Str → Option Value) (s : Shared) (h₀ : Heap) (X : (Mine.frag.heap_1 w.params).In h₀) (T : Top Mine.view loose mean mg mb h₀) (hk : h₀.StaysIn s.heap) (x dx l : Addr) (vs : List Value) (n : Nat) (tbl : List (PySem.Str × PySem.Str)) (R : Result → Shared → Prop)
  (hn : Has h₀ s.heap [(x, instObj 244 dx), (dx, dictOf [] 0), (l, listOf vs.toArray n)]) (hp : PairsAt s.heap vs tbl) (hc : ∀ p ∈ tbl, cleanN p.1 ∧ cleanV p.2) (hz : vs.length ≤ 1000) (hlt : @LT.lt Nat _ dx x) (hne : @Ne Nat l dx)
  (hR : ∀ h' tk k, SB s.heap h' [dx] → h'.get? dx = some (dictOf [strKey w.params "_headers" k (.ref l)] 1) → R (.ok (.ret .none)) { s with heap := h', toks := tk }) :
  codeAny (model PySem.Challenge.rw_ta0081_01.row.prog w) (AC 6) (.call (.ref 136) ⟨[.ref x, .ref l], []⟩) R s := by
  revert X
  k_fill
  intro X
  k_dflt (refine' enter (binds := [("self", .ref x), ("headers", .ref l)]) (news := [(x, instObj 244 dx), (dx, dictOf [] 0), (l, listOf vs.toArray n)]) X T hk ?kn ?k6 ?k7 ?k8 ?k9 ?kB ?h ?c2 ?c3 ?c4 ?c5; (case kn => assumption); (case k6 => k_is); (case k7 => k_is); (case k8 => decide); (case k9 => (refine' binds_K (X.keeps fun b o e => hk b o e) ?d1 ?d2 ?d3 ?d4 ?d5; (case d1 => exact rfl); (case d2 => k_is); (case d3 => exact rfl); (case d4 => exact rfl); (case d5 => exact rfl))); (case c5 => decide); (case kB => exact locs rfl); (case c2 => exact rfl); (case c3 => exact rfl); (case c4 => exact rfl))
  clear X T
  intro g L h₁ hg hs F N X T
  (try dsimp only)
  have hpg := hp.sub hs (fun q hq => (hn q hq).1) rfl
  k_steps
  unfold Stop
  refine For_led ?_ (fun _ => rfl)
  k_steps
  unfold Stop
  rename Fr _ _ _ _ => F
  rename News _ _ _ _ => N
  refine' for_list (vs := vs) (kl := [(l, listOf vs.toArray n)]) (J := fun i m news => ∃ k, lks m [("self", .ref x), ("headers", .ref l)] ∧ news = [(x, instObj 244 dx), (dx, dictOf [strKey w.params "_headers" k (.ref l)] 1), (l, listOf vs.toArray n)])
     (Jx := fun m news => ∃ k, lks m [("self", .ref x), ("headers", .ref l)] ∧ news = [(x, instObj 244 dx), (dx, dictOf [strKey w.params "_headers" k (.ref l)] 1), (l, listOf vs.toArray n)]) ?hl (.inr ⟨_, .head _⟩) ?hA F N ?kl ?j0 ?turn ?jx ?done
  case hl => exact ⟨_, (N _ (.tail _ (.tail _ (.head _)))).1, rfl, n, rfl⟩
  case hA => rfl
  case kl =>
    rintro i m news ⟨k, _, rfl⟩ p hp
    rw [List.mem_singleton.mp hp]
    exact .tail _ (.tail _ (.head _))
  case j0 => exact ⟨_, ⟨rfl, rfl, trivial⟩, rfl⟩
  case jx => exact fun m news h => h
  case turn =>
    clear F N
    rintro i v m news h tk I o hv ⟨k, hm, rfl⟩ hnI F N
    obtain ⟨p, hpi, a, t1, t2, rfl, ha⟩ := hpg.2 i v hv
    have ht : IsTup g a #[.str p.1 t1, .str p.2 t2] := ⟨_, ha, rfl, 0, rfl⟩
    obtain ⟨hc1, hc2⟩ := hc p (List.mem_of_getElem? hpi)
    replace F := fr_bd F _ hm
    dsimp only [bd] at F
    k_steps
    exact ⟨_, _, _, _, rfl, by assumption, by assumption, hnI, k, ⟨rfl, rfl, trivial⟩, rfl⟩
  case done =>
    clear F N
    rintro h tk m news ⟨k, hm, rfl⟩ F N
    k_steps
    refine hR _ _ k (sb_of hs hn F.keep N ?_) (N _ (.tail _ (.head _))).1
    intro q hq
    rcases List.mem_cons.mp hq with rfl | hq
    · exact .inr (.head _)
    rcases List.mem_cons.mp hq with rfl | hq
    · exact .inl (.head _)
    rcases List.mem_cons.mp hq with rfl | hq
    · exact .inr (.tail _ (.tail _ (.head _)))
    · cases hq
end HIt
section HDt
local macro_rules | `(tactic| walk_at "sub") => `(tactic| first | exact List.forall_mem_nil _ | (refine' List.forall_mem_cons.mpr ⟨?a, ?b⟩; (case a => k_mem); (case b => walk_at "sub")))
local macro_rules | `(tactic| walk_at "call ref") => `(tactic| (k_here; k_dflt (refine' c_convC ?k1 ?k2 ?k3 ?k4 ?a1 ?a2 ?a3 _ _ _ _ _ ?k5 ?k6 ?_; (case k1 => k_asm); (case k2 => k_asm); (case k3 => k_asm); (case k4 => k_asm); (case a1 => exact rfl); (case a2 => exact Nat.le_of_ble_eq_true rfl); (case a3 => exact Nat.le_of_ble_eq_true rfl); (case k5 => first | exact cleanN.ok (by assumption) | exact cleanV.ok (by assumption)); (case k6 => first | exact And.right (a := ∀ c ∈ _, 32 ≤ c ∧ c < 127) (by assumption) | exact And.right (a := ∀ c ∈ _, (32 ≤ c ∨ c = 9) ∧ c < 127) (by assumption)); k_whole); intro h' tk' F' N'))
local macro_rules | `(tactic| walk_at "call builtin:str.lower") => `(tactic| (k_here; (with_reducible show wpAny _ _ (call (Value.builtin "str.lower") [Value.str _ _]) _ _ _); k_dflt (refine' SCL.lower ?k1 ?_; (case k1 => first | exact cleanN.low (by assumption))); intro _))
local macro_rules | `(tactic| walk_at "CompSrcT") => `(tactic| refine stop ?_)
theorem c_hdel (w : World) (loose : List PySem.Str) (mean : ExcName → Option Value) (mg mb : PySem.Str → Option Value) (s : Shared) (h₀ : Heap) (X : (Mine.frag.heap_1 w.params).In h₀) (T : Top Mine.view loose mean mg mb h₀) (hk : h₀.StaysIn s.heap) (x dx l : Addr) (vs : List Value) (n : Nat) (tbl : List (PySem.Str × PySem.Str)) (k : Tok) (nm : PySem.Str) (t : Tok) (R : Result → Shared → Prop)
  (hn : Has h₀ s.heap [(x, instObj 244 dx), (dx, dictOf [strKey w.params "_headers" k (.ref l)] 1), (l, listOf vs.toArray n)]) (hp : PairsAt s.heap vs tbl) (hc : ∀ p ∈ tbl, cleanN p.1 ∧ cleanV p.2) (hcn : cleanN nm) (hcl : cleanN (Txt.lower nm)) (hz : vs.length ≤ 1000) (hxd : @Ne Nat dx x) (hld : @Ne Nat l dx) (hlx : @Ne Nat l x)
  (hR : ∀ h' tk n', SB s.heap h' [l] → h'.get? l = some (listOf (fpair (fun y => !(Txt.lower y == Txt.lower nm)) vs tbl).toArray n') → R (.ok (.ret .none)) { s with heap := h', toks := tk }) :
  codeAny (model PySem.Challenge.rw_ta0081_01.row.prog w) (AC 7) (.call (.ref 162) ⟨[.ref x, .str nm t], []⟩) R s := by
  revert X
  k_fill
  intro X
  k_dflt (refine' enterC (binds := [("self", .ref x), ("name", .str nm t)]) (news := [(x, instObj 244 dx), (dx, dictOf [strKey w.params "_headers" k (.ref l)] 1), (l, listOf vs.toArray n)]) X T hk ?kn ?k6 ?k7 ?k8 ?k9 ?kB ?kD ?h ?c2 ?c3 ?c4; (case kn => assumption); (case k6 => k_is); (case k7 => k_is); (case k8 => decide); (case k9 => exact BindsTo.of_eq rfl); (case kB => exact rfl); (case kD => decide +kernel); (case c2 => exact rfl); (case c3 => exact rfl); (case c4 => exact rfl))
  clear X T
  intro g L h₁ tk cells hg hs F N Y X T l1
  (try k_lt l1)
  k_cells Y
  (try simp only [List.cons_append, List.nil_append] at N)
  (try dsimp only)
  have hpg := hp.sub hs (fun q hq => (hn q hq).1) rfl
  k_steps
  unfold Stop
  rename Fr _ _ _ _ => F
  rename News _ _ _ _ => N
  refine LCt.CompSrcT.ledger (by rfl) F N (by k_mem) (by rw [List.size_toArray]; exact Nat.le_trans hz (Nat.le_of_ble_eq_true rfl)) ?_
  intro g1
  refine compT_K (fun i ys => ys = fpair (fun y => !(Txt.lower y == Txt.lower nm)) (vs.take i) (tbl.take i)) ?turn ?done rfl
  case turn =>
    clear F N
    intro i ys v I oI C oC D m₂ h tk E' hJ hi hv hC hx F N o3 ne
    have hv : vs[i]? = some v := by simpa using hv
    obtain ⟨p, hpi, a, t1, t2, rfl, ha⟩ := hpg.2 i v hv
    have ht : IsTup g a #[.str p.1 t1, .str p.2 t2] := ⟨_, ha, rfl, 0, rfl⟩
    obtain ⟨hc1, hc2⟩ := hc p (List.mem_of_getElem? hpi)
    (try simp only [LCg.Off3, and_true] at o3)
    k_steps
    · refine ⟨rfl, ?_⟩
      rw [fpair_take hp.1 hv hpi, hJ, if_pos (by assumption)]
    · refine ⟨rfl, ?_⟩
      rename (Txt.lower p.1 != Txt.lower nm) = false => e
      rw [fpair_take hp.1 hv hpi, hJ, if_neg (by rw [Bool.not_eq_true]; exact e), List.append_nil]
  case done =>
    clear F N
    intro ys hJ
    have hJ : ys = fpair (fun y => !(Txt.lower y == Txt.lower nm)) vs tbl := by
      rw [hJ, List.size_toArray, List.take_length, hp.1, List.take_length]
    have hlen : ys.length ≤ vs.length := hJ ▸ fpair_len
    k_steps
    rename Fr _ _ _ _ => F
    rename News _ _ _ _ => N
    refine setAll_K [(x, instObj 244 dx), (dx, dictOf [strKey w.params "_headers" k (.ref l)] 1)] F N (by k_mem) (by k_mem) ?_ (Nat.le_trans hz (Nat.le_of_ble_eq_true rfl)) (Nat.le_trans hlen (Nat.le_trans hz (Nat.le_of_ble_eq_true rfl))) ?_
    · intro p hp
      rcases List.mem_cons.mp hp with rfl | hp
      · exact ⟨by k_mem, Ne.symm hlx⟩
      · rw [List.mem_singleton.mp hp]
        exact ⟨by k_mem, Ne.symm hld⟩
    clear F N
    intro h2 n2 F N
    k_steps
    refine hR _ _ n2 (sb_of hs hn F.keep N ?_) (hJ ▸ (N _ (.head _)).1)
    intro q hq
    rcases List.mem_cons.mp hq with rfl | hq
    · exact .inr (.tail _ (.head _))
    rcases List.mem_cons.mp hq with rfl | hq
    · exact .inr (.tail _ (.tail _ (.head _)))
    rcases List.mem_cons.mp hq with rfl | hq
    · exact .inl (.head _)
    · cases hq

theorem c_hdelC {w : World} {loose : List PySem.Str} {mean : ExcName → Option Value} {mg mb : PySem.Str → Option Value} {s : Shared} {h₀ : Heap} {L : Addr} {m : PySem.Str → Option Value} {news : List (Addr × Obj)} {A' : Around} (F : Fr h₀ L s.heap m) (N : News h₀ L s.heap news) (X : (Mine.frag.heap_1 w.params).In h₀) (T : Top Mine.view loose mean mg mb h₀) (hA : A'.handled = none) (hAd : A'.depth ≤ 300 + 20 * 7) (hAu : A'.units ≤ 1000 * 7) {x dx l : Addr} {vs : List Value} {n : Nat} {tbl : List (PySem.Str × PySem.Str)} {k : Tok} {nm : PySem.Str} {t : Tok} {Q : Value → Shared → Prop} (rest : List (Addr × Obj))
  (hm : ∀ q ∈ hdObjs w.params 244 x dx l k vs n, q ∈ news) (hr : ∀ p ∈ rest, p ∈ news ∧ p.1 ≠ l) (hp : PairsAt s.heap vs tbl) (hc : ∀ p ∈ tbl, cleanN p.1 ∧ cleanV p.2) (hcn : cleanN nm) (hcl : cleanN (Txt.lower nm)) (hz : vs.length ≤ 1000) (hxd : @Ne Nat dx x) (hld : @Ne Nat l dx) (hlx : @Ne Nat l x)
  (hQ : ∀ h' tk n', Fr h₀ L h' m → News h₀ L h' ((l, listOf (fpair (fun y => !(Txt.lower y == Txt.lower nm)) vs tbl).toArray n') :: rest) → Q .none { s with heap := h', toks := tk }) :
  wpAny (model PySem.Challenge.rw_ta0081_01.row.prog w) A' (call (.ref 162) [.ref x, .str nm t]) Q NoE s := by
  refine lift_A (A := AC 7) (wpAny_call (c_hdel w loose mean mg mb s h₀ X T F.keep x dx l vs n tbl k nm t _ (fun q hq => ⟨(N q (hm q hq)).1, (N q (hm q hq)).2.2⟩) hp hc hcn hcl hz hxd hld hlx fun h' tk n' hs hl => ?_)) hA.symm hAd hAu rfl rfl
  obtain ⟨e3, e4, e5⟩ := N _ (hm _ (.tail _ (.tail _ (.head _))))
  refine hQ h' tk n' (after_fr F hs (fun q => e4 (List.mem_singleton.mp q).symm) (fun b hb => by rw [List.mem_singleton.mp hb]; exact e5)) (fun p hp => ?_)
  rcases List.mem_cons.mp hp with rfl | hp
  · exact ⟨hl, e4, e5⟩
  · exact after_news (fun q hq => N q (hr q hq).1 : News h₀ L s.heap rest) hs (fun q hq hb => (hr q hq).2 (List.mem_singleton.mp hb)) p hp
end HDt
section HGt
local macro_rules | `(tactic| walk_at "exec For") => `(tactic| refine stop ?_)
local macro_rules | `(tactic| walk_at "exec For Tuple") => `(tactic| refine stop ?_)
local macro_rules | `(tactic| walk_at "exec For Tuple Name cons nil") => `(tactic| refine stop ?_)
local macro_rules | `(tactic| walk_at "pyIter") => `(tactic| refine stop ?_)
local macro_rules | `(tactic| walk_at "pyIter ref") => `(tactic| refine stop ?_)
local macro_rules | `(tactic| walk_at "sub") => `(tactic| first | exact List.forall_mem_nil _ | (refine' List.forall_mem_cons.mpr ⟨?a, ?b⟩; (case a => k_mem); (case b => walk_at "sub")))
local macro_rules | `(tactic| walk_at "call ref") => `(tactic| (k_here; k_dflt (refine' c_convC ?k1 ?k2 ?k3 ?k4 ?a1 ?a2 ?a3 _ _ _ _ _ ?k5 ?k6 ?_; (case k1 => k_asm); (case k2 => k_asm); (case k3 => k_asm); (case k4 => k_asm); (case a1 => exact rfl); (case a2 => exact Nat.le_of_ble_eq_true rfl); (case a3 => exact Nat.le_of_ble_eq_true rfl); (case k5 => first | exact cleanN.ok (by assumption) | exact cleanV.ok (by assumption)); (case k6 => first | exact And.right (a := ∀ c ∈ _, 32 ≤ c ∧ c < 127) (by assumption) | exact And.right (a := ∀ c ∈ _, (32 ≤ c ∨ c = 9) ∧ c < 127) (by assumption)); k_whole); intro h' tk' F' N'))
local macro_rules | `(tactic| walk_at "call builtin:str.lower") => `(tactic| (k_here; (with_reducible show wpAny _ _ (call (Value.builtin "str.lower") [Value.str _ _]) _ _ _); k_dflt (refine' SCL.lower ?k1 ?_; (case k1 => first | exact cleanN.low (by assumption))); intro _))
theorem c_hget (w : World) (loose : List PySem.Str) (mean : ExcName → Option Value) (mg mb : PySem.Str → Option Value) (s : Shared) (h₀ : Heap) (X : (Mine.frag.heap_1 w.params).In h₀) (T : Top Mine.view loose mean mg mb h₀) (hk : h₀.StaysIn s.heap) (x dx l : Addr) (vs : List Value) (n : Nat) (tbl : List (PySem.Str × PySem.Str)) (k : Tok) (nm : PySem.Str) (t : Tok) (R : Result → Shared → Prop)
  (hn : Has h₀ s.heap (hdObjs w.params 244 x dx l k vs n)) (hp : PairsAt s.heap vs tbl) (hc : ∀ p ∈ tbl, cleanN p.1 ∧ cleanV p.2) (hcn : cleanN nm) (hcl : cleanN (Txt.lower nm)) (hz : vs.length ≤ 1000)
  (hR : ∀ h' tk (i : Nat) (p : PySem.Str × PySem.Str) tv, s.heap.StaysIn h' → tbl[i]? = some p → Txt.lower p.1 = Txt.lower nm → (∀ (j : Nat) (q : PySem.Str × PySem.Str), j < i → tbl[j]? = some q → Txt.lower q.1 ≠ Txt.lower nm) → R (.ok (.ret (.str p.2 tv))) { s with heap := h', toks := tk })
  (hR2 : ∀ h' tk, s.heap.StaysIn h' → (∀ q ∈ tbl, Txt.lower q.1 ≠ Txt.lower nm) → R (.ok (.ret .none)) { s with heap := h', toks := tk }) :
  codeAny (model PySem.Challenge.rw_ta0081_01.row.prog w) (AC 6) (.call (.ref 191) ⟨[.ref x, .str nm t], []⟩) R s := by
  revert X
  k_fill
  intro X
  k_dflt (refine' enter (binds := [("self", .ref x), ("name", .str nm t), ("default", .none)]) (news := hdObjs w.params 244 x dx l k vs n) X T hk ?kn ?k6 ?k7 ?k8 ?k9 ?kB ?h ?c2 ?c3 ?c4 ?c5; (case kn => assumption); (case k6 => k_is); (case k7 => k_is); (case k8 => decide); (case k9 => (refine' binds_K (X.keeps fun b o e => hk b o e) ?d1 ?d2 ?d3 ?d4 ?d5; (case d1 => exact rfl); (case d2 => k_is); (case d3 => exact rfl); (case d4 => exact rfl); (case d5 => exact rfl))); (case c5 => decide); (case kB => exact locs rfl); (case c2 => exact rfl); (case c3 => exact rfl); (case c4 => exact rfl))
  clear X T
  intro g L h₁ hg hs F N X T
  (try dsimp only)
  have hpg := hp.sub hs (fun q hq => (hn q hq).1) rfl
  dsimp only [hdObjs] at N
  k_steps
  unfold Stop
  refine For_led ?_ (fun _ => rfl)
  k_steps
  unfold Stop
  rename Fr _ _ _ _ => F
  rename News _ _ _ _ => N
  refine' for_list (vs := vs) (kl := [(l, listOf vs.toArray n)]) (J := fun i m news => (∃ tok, lks m [("self", .ref x), ("name", .str (Txt.lower nm) tok), ("default", .none)]) ∧ news = [(x, instObj 244 dx), (dx, dictOf [strKey w.params "_headers" k (.ref l)] 1), (l, listOf vs.toArray n)] ∧ ∀ (j : Nat) (q : PySem.Str × PySem.Str), j < i → tbl[j]? = some q → Txt.lower q.1 ≠ Txt.lower nm)
     (Jx := fun m news => (∃ tok, lks m [("self", .ref x), ("name", .str (Txt.lower nm) tok), ("default", .none)]) ∧ news = [(x, instObj 244 dx), (dx, dictOf [strKey w.params "_headers" k (.ref l)] 1), (l, listOf vs.toArray n)] ∧ ∀ (j : Nat) (q : PySem.Str × PySem.Str), j < vs.length → tbl[j]? = some q → Txt.lower q.1 ≠ Txt.lower nm) ?hl (.inr ⟨_, .head _⟩) ?hA F N ?kl ?j0 ?turn ?jx ?done
  case hl => exact ⟨_, (N _ (.tail _ (.tail _ (.head _)))).1, rfl, n, rfl⟩
  case hA => rfl
  case kl =>
    rintro i m news ⟨_, rfl, _⟩ p hp
    rw [List.mem_singleton.mp hp]
    exact .tail _ (.tail _ (.head _))
  case j0 => exact ⟨⟨_, rfl, rfl, rfl, trivial⟩, rfl, fun j q hj => absurd hj (Nat.not_lt_zero _)⟩
  case jx => exact fun m news h => h
  case turn =>
    clear F N
    rintro i v m news h tk I o hv ⟨⟨tok, hm⟩, rfl, hno⟩ hnI F N
    obtain ⟨p, hpi, a, t1, t2, rfl, ha⟩ := hpg.2 i v hv
    have ht : IsTup g a #[.str p.1 t1, .str p.2 t2] := ⟨_, ha, rfl, 0, rfl⟩
    obtain ⟨hc1, hc2⟩ := hc p (List.mem_of_getElem? hpi)
    replace F := fr_bd F _ hm
    dsimp only [bd] at F
    k_steps
    · show R _ _
      rename Fr _ _ _ _ => F1
      rename News _ _ _ _ => N1
      rename (Txt.lower p.1 == Txt.lower nm) = true => e
      exact hR _ _ i p t2 (stays_of hs hn F1.keep (fun p hp => N1 p (.tail _ hp))) hpi (eq_of_beq e) hno
    · rename (Txt.lower p.1 == Txt.lower nm) = false => e
      refine ⟨_, _, _, _, rfl, by assumption, by assumption, hnI, ⟨tok, rfl, rfl, rfl, trivial⟩, rfl, fun j q hj hq => ?_⟩
      by_cases hji : j = i
      · rw [hji, hpi] at hq
        rw [← Option.some.inj hq]
        exact fun z => by rw [z, beq_self_eq_true] at e; cases e
      · exact hno j q (by omega) hq
  case done =>
    clear F N
    rintro h tk m news ⟨⟨tok, hm⟩, rfl, hno⟩ F N
    replace F := fr_bd F _ hm
    dsimp only [bd] at F
    k_steps
    refine hR2 _ _ (stays_of hs hn F.keep N) fun q hq => ?_
    obtain ⟨j, hj⟩ := List.mem_iff_getElem?.mp hq
    have hjl : j < tbl.length := (List.getElem?_eq_some_iff.mp hj).1
    exact hno j q (by rw [hp.1]; exact hjl) hj

theorem c_hgetC {w : World} {loose : List PySem.Str} {mean : ExcName → Option Value} {mg mb : PySem.Str → Option Value} {s : Shared} {h₀ : Heap} {L : Addr} {m : PySem.Str → Option Value} {news : List (Addr × Obj)} {A' : Around} (F : Fr h₀ L s.heap m) (N : News h₀ L s.heap news) (X : (Mine.frag.heap_1 w.params).In h₀) (T : Top Mine.view loose mean mg mb h₀) (hA : A'.handled = none) (hAd : A'.depth ≤ 300 + 20 * 6) (hAu : A'.units ≤ 1000 * 6) {x dx l : Addr} {vs : List Value} {n : Nat} {tbl : List (PySem.Str × PySem.Str)} {k : Tok} {nm : PySem.Str} {t : Tok} {v : PySem.Str} {Q : Value → Shared → Prop}
  (hm : ∀ q ∈ hdObjs w.params 244 x dx l k vs n, q ∈ news) (hp : PairsAt s.heap vs tbl) (hc : ∀ p ∈ tbl, cleanN p.1 ∧ cleanV p.2) (hcn : cleanN nm) (hcl : cleanN (Txt.lower nm)) (hz : vs.length ≤ 1000) (hv : tget tbl (Txt.lower nm) = some v)
  (hQ : ∀ h' tk tv, Fr h₀ L h' m → News h₀ L h' news → s.heap.StaysIn h' → Q (.str v tv) { s with heap := h', toks := tk }) :
  wpAny (model PySem.Challenge.rw_ta0081_01.row.prog w) A' (call (.ref 191) [.ref x, .str nm t]) Q NoE s :=
  lift_A (A := AC 6) (wpAny_call (c_hget w loose mean mg mb s h₀ X T F.keep x dx l vs n tbl k nm t _ (fun q hq => ⟨(N q (hm q hq)).1, (N q (hm q hq)).2.2⟩) hp hc hcn hcl hz
    (fun h' tk i p tv hst hi e hno => by
      have h1 := tget_some hi e hno
      rw [hv] at h1
      exact Option.some.inj h1 ▸ hQ h' tk tv (fr_stay F hst) (news_stay N hst) hst)
    (fun h' tk hst hno => by rw [tget_none hno] at hv; cases hv))) hA.symm hAd hAu rfl rfl
end HGt
section HSt
local macro_rules | `(tactic| walk_at "sub") => `(tactic| first | exact List.forall_mem_nil _ | (refine' List.forall_mem_cons.mpr ⟨?a, ?b⟩; (case a => k_mem); (case b => walk_at "sub")))
local macro_rules | `(tactic| walk_at "delItem ref str") => `(tactic| (k_here; k_dflt (refine' my_delItem ?F ?X ?I ?hQ ?hS ?hF ?_; (case F => k_asm); (case X => k_asm); (case I => k_inst); (case hS => k_is); (case hF => k_is); (case hQ => k_is); k_whole)))
local macro_rules | `(tactic| walk_at "call ref") => `(tactic| (k_here; k_dflt (refine' c_convC ?k1 ?k2 ?k3 ?k4 ?a1 ?a2 ?a3 _ _ _ _ _ ?k5 ?k6 ?_; (case k1 => k_asm); (case k2 => k_asm); (case k3 => k_asm); (case k4 => k_asm); (case a1 => exact rfl); (case a2 => exact Nat.le_of_ble_eq_true rfl); (case a3 => exact Nat.le_of_ble_eq_true rfl); (case k5 => first | exact cleanN.ok (by assumption) | exact cleanV.ok (by assumption)); (case k6 => first | exact And.right (a := ∀ c ∈ _, 32 ≤ c ∧ c < 127) (by assumption) | exact And.right (a := ∀ c ∈ _, (32 ≤ c ∨ c = 9) ∧ c < 127) (by assumption)); k_whole); intro h' tk' F' N'))
local macro_rules | `(tactic| walk_at "call ref") => `(tactic| ((with_reducible show wpAny _ _ (call (Value.ref 162) _ _) _ _ _); refine stop ?_))
theorem c_hset (w : World) (loose : List PySem.Str) (mean : ExcName → Option Value) (mg mb : PySem.Str → Option Value) (s : Shared) (h₀ : Heap) (X : (Mine.frag.heap_1 w.params).In h₀) (T : Top Mine.view loose mean mg mb h₀) (hk : h₀.StaysIn s.heap) (x dx l : Addr) (vs : List Value) (n : Nat) (tbl : List (PySem.Str × PySem.Str)) (k : Tok) (nm : PySem.Str) (t : Tok) (v : PySem.Str) (tv : Tok) (R : Result → Shared → Prop)
  (hn : Has h₀ s.heap (hdObjs w.params 244 x dx l k vs n)) (hp : PairsAt s.heap vs tbl) (hc : ∀ p ∈ tbl, cleanN p.1 ∧ cleanV p.2) (hcn : cleanN nm) (hcl : cleanN (Txt.lower nm)) (hcv : cleanV v) (hz : vs.length ≤ 1000) (hxd : @Ne Nat dx x) (hld : @Ne Nat l dx) (hlx : @Ne Nat l x)
  (hR : ∀ h' tk n' D, SB s.heap h' [l] → h'.get? l = some (listOf (fpair (fun y => !(Txt.lower y == Txt.lower nm)) vs tbl ++ [Value.ref D]).toArray n') → h'.get? D = some (tupO [.str nm t, .str v tv]) → s.heap.get? D = none → R (.ok (.ret .none)) { s with heap := h', toks := tk }) :
  codeAny (model PySem.Challenge.rw_ta0081_01.row.prog w) (AC 6) (.call (.ref 157) ⟨[.ref x, .str nm t, .str v tv], []⟩) R s := by
  revert X
  k_fill
  intro X
  k_dflt (refine' enter (binds := [("self", .ref x), ("name", .str nm t), ("val", .str v tv)]) (news := hdObjs w.params 244 x dx l k vs n) X T hk ?kn ?k6 ?k7 ?k8 ?k9 ?kB ?h ?c2 ?c3 ?c4 ?c5; (case kn => assumption); (case k6 => k_is); (case k7 => k_is); (case k8 => decide); (case k9 => exact BindsTo.of_eq rfl); (case c5 => decide); (case kB => exact locs rfl); (case c2 => exact rfl); (case c3 => exact rfl); (case c4 => exact rfl))
  clear X T
  intro g L h₁ hg hs F N X T
  (try dsimp only)
  have hpg := hp.sub hs (fun q hq => (hn q hq).1) rfl
  dsimp only [hdObjs] at N
  k_steps
  unfold Stop
  refine c_hdelC F N X T rfl (Nat.le_of_ble_eq_true rfl) (Nat.le_of_ble_eq_true rfl) [(x, instObj 244 dx), (dx, dictOf [strKey w.params "_headers" k (.ref l)] 1)] (fun q hq => hq) ?_ (hpg.keeps F.keep) hc hcn hcl hz hxd hld hlx ?_
  · intro p hp
    rcases List.mem_cons.mp hp with rfl | hp
    · exact ⟨by k_mem, Ne.symm hlx⟩
    · rw [List.mem_singleton.mp hp]
      exact ⟨by k_mem, Ne.symm hld⟩
  intro h2 tk2 n2 F2 N2
  have hlen : (fpair (fun y => !(Txt.lower y == Txt.lower nm)) vs tbl).length ≤ 1000 := Nat.le_trans fpair_len hz
  generalize hvs2 : fpair (fun y => !(Txt.lower y == Txt.lower nm)) vs tbl = vs2 at N2 hlen
  clear F N
  have hM : KstMark := kstMark
  k_steps
  rename Fr _ _ _ _ => F
  rename News _ _ _ _ => N
  rename _ ∧ _ => hlt
  rw [hvs2] at hR
  have hD := (N _ (.head _))
  refine hR _ _ (n2 + 1) _ (sb_of hs hn F.keep N ?_) ?_ hD.1 ?_
  · intro q hq
    rcases List.mem_cons.mp hq with rfl | hq
    · exact .inr (.tail _ (.tail _ (.head _)))
    rcases List.mem_cons.mp hq with rfl | hq
    · exact .inr (.tail _ (.tail _ (.tail _ (.head _))))
    rcases List.mem_cons.mp hq with rfl | hq
    · exact .inl (.head _)
    · cases hq
  · rw [← List.push_toArray]
    exact (N _ (.tail _ (.head _))).1
  · refine none_of hs hD.2.2 ?_
    intro hb
    rcases List.mem_cons.mp hb with e | hb
    · exact Nat.ne_of_gt hlt.2.1 e
    rcases List.mem_cons.mp hb with e | hb
    · exact Nat.ne_of_gt hlt.2.2 e
    · exact Nat.ne_of_gt hlt.1 (List.mem_singleton.mp hb)

theorem c_hsetC {w : World} {loose : List PySem.Str} {mean : ExcName → Option Value} {mg mb : PySem.Str → Option Value} {s : Shared} {h₀ : Heap} {L : Addr} {m : PySem.Str → Option Value} {news : List (Addr × Obj)} {A' : Around} (F : Fr h₀ L s.heap m) (N : News h₀ L s.heap news) (X : (Mine.frag.heap_1 w.params).In h₀) (T : Top Mine.view loose mean mg mb h₀) (hA : A'.handled = none) (hAd : A'.depth ≤ 300 + 20 * 6) (hAu : A'.units ≤ 1000 * 6) {x dx l : Addr} {vs : List Value} {n : Nat} {tbl : List (PySem.Str × PySem.Str)} {k : Tok} {nm : PySem.Str} {t : Tok} {v : PySem.Str} {tv : Tok} {Q : Value → Shared → Prop} (rest : List (Addr × Obj))
  (hm : ∀ q ∈ hdObjs w.params 244 x dx l k vs n, q ∈ news) (hr : ∀ p ∈ rest, p ∈ news ∧ p.1 ≠ l) (hp : PairsAt s.heap vs tbl) (hc : ∀ p ∈ tbl, cleanN p.1 ∧ cleanV p.2) (hcn : cleanN nm) (hcl : cleanN (Txt.lower nm)) (hcv : cleanV v) (hz : vs.length ≤ 1000) (hxd : @Ne Nat dx x) (hld : @Ne Nat l dx) (hlx : @Ne Nat l x)
  (hQ : ∀ h' tk n' D, Fr h₀ L h' m → News h₀ L h' ((D, tupO [.str nm t, .str v tv]) :: (l, listOf (fpair (fun y => !(Txt.lower y == Txt.lower nm)) vs tbl ++ [Value.ref D]).toArray n') :: rest) → SB s.heap h' [l] → s.heap.get? D = none → Q .none { s with heap := h', toks := tk }) :
  wpAny (model PySem.Challenge.rw_ta0081_01.row.prog w) A' (call (.ref 157) [.ref x, .str nm t, .str v tv]) Q NoE s := by
  refine lift_A (A := AC 6) (wpAny_call (c_hset w loose mean mg mb s h₀ X T F.keep x dx l vs n tbl k nm t v tv _ (fun q hq => ⟨(N q (hm q hq)).1, (N q (hm q hq)).2.2⟩) hp hc hcn hcl hcv hz hxd hld hlx fun h' tk n' D hs hl hD hD0 => ?_)) hA.symm hAd hAu rfl rfl
  obtain ⟨e3, e4, e5⟩ := N _ (hm _ (.tail _ (.tail _ (.head _))))
  refine hQ h' tk n' D (after_fr F hs (fun q => e4 (List.mem_singleton.mp q).symm) (fun b hb => by rw [List.mem_singleton.mp hb]; exact e5)) (fun p hp => ?_) hs hD0
  rcases List.mem_cons.mp hp with rfl | hp
  · refine ⟨hD, fr_ne F hD0, ?_⟩
    cases q : h₀.get? D with
    | none => rfl
    | some o => rw [F.keep _ _ q] at hD0; cases hD0
  rcases List.mem_cons.mp hp with rfl | hp
  · exact ⟨hl, e4, e5⟩
  · exact after_news (fun q hq => N q (hr q hq).1 : News h₀ L s.heap rest) hs (fun q hq hb => (hr q hq).2 (List.mem_singleton.mp hb)) p hp
end HSt
section HTt
theorem c_hitems (w : World) (loose : List PySem.Str) (mean : ExcName → Option Value) (mg mb : PySem.Str → Option Value) (s : Shared) (h₀ : Heap) (X : (Mine.frag.heap_1 w.params).In h₀) (T : Top Mine.view loose mean mg mb h₀) (hk : h₀.StaysIn s.heap) (x dx l : Addr) (vs : List Value) (n : Nat) (k : Tok) (R : Result → Shared → Prop)
  (hn : Has h₀ s.heap (hdObjs w.params 244 x dx l k vs n)) (hz : vs.length ≤ 1000)
  (hR : ∀ h' tk D n', s.heap.StaysIn h' → h'.get? D = some (listOf vs.toArray n') → s.heap.get? D = none → R (.ok (.ret (.ref D))) { s with heap := h', toks := tk }) :
  codeAny (model PySem.Challenge.rw_ta0081_01.row.prog w) (AC 5) (.call (.ref 208) ⟨[.ref x], []⟩) R s := by
  revert X
  k_fill
  intro X
  k_dflt (refine' enter (binds := [("self", .ref x)]) (news := hdObjs w.params 244 x dx l k vs n) X T hk ?kn ?k6 ?k7 ?k8 ?k9 ?kB ?h ?c2 ?c3 ?c4 ?c5; (case kn => assumption); (case k6 => k_is); (case k7 => k_is); (case k8 => decide); (case k9 => exact BindsTo.of_eq rfl); (case c5 => decide); (case kB => exact locs rfl); (case c2 => exact rfl); (case c3 => exact rfl); (case c4 => exact rfl))
  clear X T
  intro g L h₁ hg hs F N X T
  (try dsimp only)
  dsimp only [hdObjs] at N
  have hM : KstMark := kstMark
  k_steps
  show R _ _
  have hof := new_off N (D := h₁.objs.size + 1) (Nat.le_succ _)
  rename Fr _ _ _ _ => F1
  rename News _ _ _ _ => N1
  have hD := N1 _ (.head _)
  exact hR _ _ _ _ (stays_of hs hn F1.keep (fun p hp => N1 p (.tail _ hp))) (by rw [slicePick_all] at hD; exact hD.1) (none_of hs hD.2.2 hof)

theorem c_hitemsC {w : World} {loose : List PySem.Str} {mean : ExcName → Option Value} {mg mb : PySem.Str → Option Value} {s : Shared} {h₀ : Heap} {L : Addr} {m : PySem.Str → Option Value} {news : List (Addr × Obj)} {A' : Around} (F : Fr h₀ L s.heap m) (N : News h₀ L s.heap news) (X : (Mine.frag.heap_1 w.params).In h₀) (T : Top Mine.view loose mean mg mb h₀) (hA : A'.handled = none) (hAd : A'.depth ≤ 300 + 20 * 5) (hAu : A'.units ≤ 1000 * 5) {x dx l : Addr} {vs : List Value} {n : Nat} {k : Tok} {Q : Value → Shared → Prop}
  (hm : ∀ q ∈ hdObjs w.params 244 x dx l k vs n, q ∈ news) (hz : vs.length ≤ 1000)
  (hQ : ∀ h' tk D n', Fr h₀ L h' m → News h₀ L h' ((D, listOf vs.toArray n') :: news) → AllNe D news → Q (.ref D) { s with heap := h', toks := tk }) :
  wpAny (model PySem.Challenge.rw_ta0081_01.row.prog w) A' (call (.ref 208) [.ref x]) Q NoE s := by
  refine lift_A (A := AC 5) (wpAny_call (c_hitems w loose mean mg mb s h₀ X T F.keep x dx l vs n k _ (fun q hq => ⟨(N q (hm q hq)).1, (N q (hm q hq)).2.2⟩) hz fun h' tk D n' hst hD hD0 => ?_)) hA.symm hAd hAu rfl rfl
  refine hQ h' tk D n' (fr_stay F hst) (fun p hp => ?_) (allNe_of (news_ne N hD0))
  rcases List.mem_cons.mp hp with rfl | hp
  · refine ⟨hD, fr_ne F hD0, ?_⟩
    cases q : h₀.get? D with
    | none => rfl
    | some o => rw [F.keep _ _ q] at hD0; cases hD0
  · exact news_stay N hst p hp
end HTt
section HNt
theorem c_hnew (w : World) (loose : List PySem.Str) (mean : ExcName → Option Value) (mg mb : PySem.Str → Option Value) (s : Shared) (h₀ : Heap) (X : (Mine.frag.heap_1 w.params).In h₀) (T : Top Mine.view loose mean mg mb h₀) (hk : h₀.StaysIn s.heap) {L : Addr} {m : PySem.Str → Option Value} {news : List (Addr × Obj)} (F : Fr h₀ L s.heap m) (N : News h₀ L s.heap news)
  (l : Addr) (vs : List Value) (n : Nat) (tbl : List (PySem.Str × PySem.Str)) (Q : Value → Shared → Prop) (hl : (l, listOf vs.toArray n) ∈ news) (hp : PairsIn h₀ news vs tbl) (hc : ∀ p ∈ tbl, cleanN p.1 ∧ cleanV p.2) (hz : vs.length ≤ 1000)
  (hQ : ∀ h' tk x dx k, Fr h₀ L h' m → News h₀ L h' ((x, instObj 244 dx) :: (dx, dictOf [strKey w.params "_headers" k (.ref l)] 1) :: news) → AllLt dx news → @LT.lt Nat _ dx x → Q (.ref x) { s with heap := h', toks := tk }) :
  wpAny (model PySem.Challenge.rw_ta0081_01.row.prog w) (AC 5) (call (.ref 244) [.ref l]) Q NoE s := by
  revert X
  k_fill
  intro X
  k_dflt (refine' call_cls F X N ?k1 ?k2 ?k3 ?h; (case k1 => k_is); (case k2 => k_is); (case k3 => k_is))
  intro x dx h' F' N' hlt hxd
  have hxd' : @LT.lt Nat _ dx x := hxd
  have hll : @LT.lt Nat _ l dx := hlt _ hl
  have hpp := hp.at F' (fun p hp => N' p (.tail _ (.tail _ hp)))
  refine' lift_C (A := AC 6) (c_hinit w loose mean mg mb { s with heap := h' } h₀ X T (fun b o e => F'.keep b o e) x dx l vs n tbl _ ?hn hpp hc hz hxd ?hne ?hR) rfl ?d ?u rfl rfl
  case d => exact Nat.le_of_ble_eq_true rfl
  case u => exact Nat.le_of_ble_eq_true rfl
  case hne => exact Nat.ne_of_lt hll
  case hn =>
    intro q hq
    rcases List.mem_cons.mp hq with rfl | hq
    · exact ⟨(N' _ (.head _)).1, (N' _ (.head _)).2.2⟩
    rcases List.mem_cons.mp hq with rfl | hq
    · exact ⟨(N' _ (.tail _ (.head _))).1, (N' _ (.tail _ (.head _))).2.2⟩
    · rw [List.mem_singleton.mp hq]
      exact ⟨(N' _ (.tail _ (.tail _ hl))).1, (N' _ (.tail _ (.tail _ hl))).2.2⟩
  case hR =>
    intro h2 tk k hs hd
    have hx := N' _ (.head _)
    have hdx := N' _ (.tail _ (.head _))
    refine ⟨rfl, hQ h2 tk x dx k (after_fr F' hs ?a1 ?a2) ?a3 (allLt_of hlt) hxd⟩
    case a1 => exact fun q => hdx.2.1 (List.mem_singleton.mp q).symm
    case a2 => exact fun b hb => by rw [List.mem_singleton.mp hb]; exact hdx.2.2
    case a3 =>
      intro p hp'
      rcases List.mem_cons.mp hp' with rfl | hp'
      · exact ⟨hs _ _ hx.1 (fun q => Nat.ne_of_gt hxd' (List.mem_singleton.mp q)), hx.2⟩
      rcases List.mem_cons.mp hp' with rfl | hp'
      · exact ⟨hd, hdx.2⟩
      · exact ⟨hs _ _ (N' p (.tail _ (.tail _ hp'))).1 (fun q => Nat.ne_of_lt (hlt p hp') (List.mem_singleton.mp q)), (N' p (.tail _ (.tail _ hp'))).2⟩
end HNt
section AWt
local macro_rules | `(tactic| walk_at "exec For") => `(tactic| refine stop ?_)
local macro_rules | `(tactic| walk_at "exec For Name Call cons nil") => `(tactic| refine stop ?_)
local macro_rules | `(tactic| walk_at "pyIter") => `(tactic| refine stop ?_)
local macro_rules | `(tactic| walk_at "pyIter ref") => `(tactic| refine stop ?_)
local macro_rules | `(tactic| walk_at "sub") => `(tactic| first | exact List.forall_mem_nil _ | (refine' List.forall_mem_cons.mpr ⟨?a, ?b⟩; (case a => k_mem); (case b => walk_at "sub")))
local macro_rules | `(tactic| walk_at "call ref") => `(tactic| refine stop ?_)
local macro_rules | `(tactic| walk_at "call ref") => `(tactic| ((with_reducible show wpAny _ _ (call (Value.ref 191) _ _) _ _ _); k_here; k_dflt (refine' c_hgetC ?k1 ?k2 ?k3 ?k4 ?a1 ?a2 ?a3 ?k5 ?k6 ?k7 ?k8 ?k9 ?k10 ?k11 ?_; (case k1 => k_asm); (case k2 => k_asm); (case k3 => k_asm); (case k4 => k_asm); (case a1 => exact rfl); (case a2 => exact Nat.le_of_ble_eq_true rfl); (case a3 => exact Nat.le_of_ble_eq_true rfl); (case k11 => assumption); (case k5 => walk_at "sub"); (case k6 => exact PairsAt.keeps (by assumption) (Fr.keep (by assumption))); (case k7 => assumption); (case k8 => assumption); (case k9 => assumption); (case k10 => omega); k_whole); intro h' tk' tv' F' N' st'))
local macro_rules | `(tactic| walk_at "call ref") => `(tactic| ((with_reducible show wpAny _ _ (call (Value.ref 111) _ _) _ _ _); k_here; k_dflt (refine' c_int2apC ?k1 ?k2 ?k3 ?k4 ?a1 ?a2 ?a3 ?k5 ?_; (case k1 => k_asm); (case k2 => k_asm); (case k3 => k_asm); (case k4 => k_asm); (case a1 => exact rfl); (case a2 => exact Nat.le_of_ble_eq_true rfl); (case a3 => exact Nat.le_of_ble_eq_true rfl); (case k5 => assumption); k_whole); intro h' tk' tok' F' N'))
local macro_rules | `(tactic| walk_at "call builtin:bytes.decode") => `(tactic| (k_here; k_dflt (refine' dc_call ?k1 ?k2 ?k3 ?_; (case k1 => assumption); (case k2 => exact apN_lt _); (case k3 => assumption); k_whole); intro t' k'))
theorem c_award (w : World) (loose : List PySem.Str) (mean : ExcName → Option Value) (mg mb : PySem.Str → Option Value) (s : Shared) (h₀ : Heap) (X : (Mine.frag.heap_1 w.params).In h₀) (T : Top Mine.view loose mean mg mb h₀) (hk : h₀.StaysIn s.heap) (x dx l lv : Addr) (vs : List Value) (n nv : Nat) (tbl : List (PySem.Str × PySem.Str)) (k u0 u1 u2 : Tok) (v sv : Nat → Nat) (R : Result → Shared → Prop)
  (hn : Has h₀ s.heap (hdObjs w.params 244 x dx l k vs n ++ [(lv, listOf #[.int (v 0) u0, .int (v 1) u1, .int (v 2) u2] nv)])) (hp : PairsAt s.heap vs tbl) (hc : ∀ p ∈ tbl, cleanN p.1 ∧ cleanV p.2) (hz : vs.length ≤ 900) (hxd : @Ne Nat dx x) (hld : @Ne Nat l dx) (hlx : @Ne Nat l x) (hlv : @Ne Nat lv l)
  (h0 : tget tbl "a" = some (let65 (sv 0))) (h1 : tget tbl "b" = some (let65 (sv 1))) (h2 : tget tbl "c" = some (let65 (sv 2))) (hv : v 0 ≤ 15 ∧ v 1 ≤ 15 ∧ v 2 ≤ 15) (hs0 : sv 0 ≤ 15 ∧ sv 1 ≤ 15 ∧ sv 2 ≤ 15) (hmax : (awStep v sv 3).2.1 ≤ 15)
  (hR : ∀ h' tk n' D nm t tv, SB s.heap h' [l] → h'.get? l = some (listOf (fpair (fun y => !(Txt.lower y == Txt.lower nm)) vs tbl ++ [Value.ref D]).toArray n') → h'.get? D = some (tupO [.str nm t, .str (let65 (awStep v sv 3).2.1.toNat) tv]) → s.heap.get? D = none →
     nm = (if (awStep v sv 3).2.1 % 2 = 1 then upOf (awStep v sv 3).1.toNat else lowOf (awStep v sv 3).1.toNat) → R (.ok (.ret .none)) { s with heap := h', toks := tk }) :
  codeAny (model PySem.Challenge.rw_ta0081_01.row.prog w) (AC 4) (.call (.ref 255) ⟨[.ref x, .ref lv], []⟩) R s := by
  revert X
  k_fill
  intro X
  k_dflt (refine' enter (binds := [("table", .ref x), ("votes", .ref lv)]) (news := (hdObjs w.params 244 x dx l k vs n ++ [(lv, listOf #[.int (v 0) u0, .int (v 1) u1, .int (v 2) u2] nv)])) X T hk ?kn ?k6 ?k7 ?k8 ?k9 ?kB ?h ?c2 ?c3 ?c4 ?c5; (case kn => assumption); (case k6 => k_is); (case k7 => k_is); (case k8 => decide); (case k9 => exact BindsTo.of_eq rfl); (case c5 => decide); (case kB => exact locs rfl); (case c2 => exact rfl); (case c3 => exact rfl); (case c4 => exact rfl))
  clear X T
  intro g L h₁ hg hs F N X T
  (try dsimp only)
  have hpg := hp.sub hs (fun q hq => (hn q hq).1) rfl
  dsimp only [hdObjs, List.cons_append, List.nil_append] at N
  k_steps
  unfold Stop
  refine For_led ?_ (fun _ => rfl)
  k_steps
  unfold Stop
  rename IsRange _ _ _ _ _ _ _ _ => hr
  rename Fr _ _ _ _ => F
  rename News _ _ _ _ => N
  refine' for_range (n := 3) (J := fun i m news => (∃ t1 t2 t3, lks m [("table", .ref x), ("votes", .ref lv), ("due", .int (awStep v sv i).1 t1), ("seat", .int (awStep v sv i).2.1 t2), ("most", .int (awStep v sv i).2.2 t3)]) ∧ news = [(x, instObj 244 dx), (dx, dictOf [strKey w.params "_headers" k (.ref l)] 1), (l, listOf vs.toArray n), (lv, listOf #[.int (v 0) u0, .int (v 1) u1, .int (v 2) u2] nv)])
     (Jx := fun m news => (∃ t1 t2 t3, lks m [("table", .ref x), ("votes", .ref lv), ("due", .int (awStep v sv 3).1 t1), ("seat", .int (awStep v sv 3).2.1 t2), ("most", .int (awStep v sv 3).2.2 t3)]) ∧ news = [(x, instObj 244 dx), (dx, dictOf [strKey w.params "_headers" k (.ref l)] 1), (l, listOf vs.toArray n), (lv, listOf #[.int (v 0) u0, .int (v 1) u1, .int (v 2) u2] nv)]) hr ?sm rfl ?h1 F N ?j0 ?turn ?jx ?done
  case sm => decide
  case h1 => rfl
  case j0 => exact ⟨⟨_, _, _, rfl, rfl, rfl, rfl, rfl, trivial⟩, rfl⟩
  case jx => exact fun m news h => h
  case turn =>
    clear F N
    rintro i u m news h tk I o hlt ⟨⟨t1, t2, t3, hm⟩, rfl⟩ hnI F N
    replace F := fr_bd F _ hm
    dsimp only [bd] at F
    obtain rfl | rfl | rfl : i = 0 ∨ i = 1 ∨ i = 2 := by omega
    · rw [show (0 : Int) + ((0 : Nat) : Int) * 1 = 0 from rfl]
      have q0 : tget tbl (Txt.lower (Txt.item "aBc" 0)) = some (let65 (sv 0)) := by rw [show Txt.lower (Txt.item "aBc" 0) = "a" from by decide +kernel]; exact h0
      have q1 : cleanN (Txt.item "aBc" 0) := cleanN_of (by decide +kernel)
      have q2 : cleanN (Txt.lower (Txt.item "aBc" 0)) := cleanN_of (by decide +kernel)
      have hp : ([(v 0 : Int), (v 1 : Int), (v 2 : Int)].getD (Int.toNat 0) 0 * 720720).fdiv (((65 + sv 0 : Nat) : Int) - 65 + 1) = price v sv 0 := by
        unfold price
        rw [show (((65 + sv 0 : Nat) : Int) - 65 + 1) = (sv 0 : Int) + 1 by omega]
        rfl
      k_steps
      · rename Fr _ _ _ _ => F1
        rename (_ : Int) < _ => hlt
        rw [hp] at hlt F1
        have e : awStep v sv (0 + 1) = (((0 : Nat) : Int), (sv 0 : Int) + 1, price v sv 0) := if_pos hlt
        rw [e]
        rw [show (((65 + sv 0 : Nat) : Int) - 65 + 1) = (sv 0 : Int) + 1 by omega] at F1
        exact ⟨_, _, _, _, rfl, F1, by assumption, hnI, ⟨_, _, _, rfl, rfl, rfl, rfl, rfl, trivial⟩, rfl⟩
      · rename Fr _ _ _ _ => F1
        rename ¬ ((_ : Int) < _) => hlt
        rw [hp] at hlt
        have e : awStep v sv (0 + 1) = awStep v sv 0 := if_neg hlt
        rw [e]
        exact ⟨_, _, _, _, rfl, F1, by assumption, hnI, ⟨_, _, _, rfl, rfl, rfl, rfl, rfl, trivial⟩, rfl⟩
    · rw [show (0 : Int) + ((1 : Nat) : Int) * 1 = 1 from rfl]
      have q0 : tget tbl (Txt.lower (Txt.item "aBc" 1)) = some (let65 (sv 1)) := by rw [show Txt.lower (Txt.item "aBc" 1) = "b" from by decide +kernel]; exact h1
      have q1 : cleanN (Txt.item "aBc" 1) := cleanN_of (by decide +kernel)
      have q2 : cleanN (Txt.lower (Txt.item "aBc" 1)) := cleanN_of (by decide +kernel)
      have hp : ([(v 0 : Int), (v 1 : Int), (v 2 : Int)].getD (Int.toNat 1) 0 * 720720).fdiv (((65 + sv 1 : Nat) : Int) - 65 + 1) = price v sv 1 := by
        unfold price
        rw [show (((65 + sv 1 : Nat) : Int) - 65 + 1) = (sv 1 : Int) + 1 by omega]
        rfl
      k_steps
      · rename Fr _ _ _ _ => F1
        rename (_ : Int) < _ => hlt
        rw [hp] at hlt F1
        have e : awStep v sv (1 + 1) = (((1 : Nat) : Int), (sv 1 : Int) + 1, price v sv 1) := if_pos hlt
        rw [e]
        rw [show (((65 + sv 1 : Nat) : Int) - 65 + 1) = (sv 1 : Int) + 1 by omega] at F1
        exact ⟨_, _, _, _, rfl, F1, by assumption, hnI, ⟨_, _, _, rfl, rfl, rfl, rfl, rfl, trivial⟩, rfl⟩
      · rename Fr _ _ _ _ => F1
        rename ¬ ((_ : Int) < _) => hlt
        rw [hp] at hlt
        have e : awStep v sv (1 + 1) = awStep v sv 1 := if_neg hlt
        rw [e]
        exact ⟨_, _, _, _, rfl, F1, by assumption, hnI, ⟨_, _, _, rfl, rfl, rfl, rfl, rfl, trivial⟩, rfl⟩
    · rw [show (0 : Int) + ((2 : Nat) : Int) * 1 = 2 from rfl]
      have q0 : tget tbl (Txt.lower (Txt.item "aBc" 2)) = some (let65 (sv 2)) := by rw [show Txt.lower (Txt.item "aBc" 2) = "c" from by decide +kernel]; exact h2
      have q1 : cleanN (Txt.item "aBc" 2) := cleanN_of (by decide +kernel)
      have q2 : cleanN (Txt.lower (Txt.item "aBc" 2)) := cleanN_of (by decide +kernel)
      have hp : ([(v 0 : Int), (v 1 : Int), (v 2 : Int)].getD (Int.toNat 2) 0 * 720720).fdiv (((65 + sv 2 : Nat) : Int) - 65 + 1) = price v sv 2 := by
        unfold price
        rw [show (((65 + sv 2 : Nat) : Int) - 65 + 1) = (sv 2 : Int) + 1 by omega]
        rfl
      k_steps
      · rename Fr _ _ _ _ => F1
        rename (_ : Int) < _ => hlt
        rw [hp] at hlt F1
        have e : awStep v sv (2 + 1) = (((2 : Nat) : Int), (sv 2 : Int) + 1, price v sv 2) := if_pos hlt
        rw [e]
        rw [show (((65 + sv 2 : Nat) : Int) - 65 + 1) = (sv 2 : Int) + 1 by omega] at F1
        exact ⟨_, _, _, _, rfl, F1, by assumption, hnI, ⟨_, _, _, rfl, rfl, rfl, rfl, rfl, trivial⟩, rfl⟩
      · rename Fr _ _ _ _ => F1
        rename ¬ ((_ : Int) < _) => hlt
        rw [hp] at hlt
        have e : awStep v sv (2 + 1) = awStep v sv 2 := if_neg hlt
        rw [e]
        exact ⟨_, _, _, _, rfl, F1, by assumption, hnI, ⟨_, _, _, rfl, rfl, rfl, rfl, rfl, trivial⟩, rfl⟩
  case done =>
    clear F N
    rintro h tk m news ⟨⟨t1, t2, t3, hm⟩, rfl⟩ F N
    replace F := fr_bd F _ hm
    dsimp only [bd] at F
    obtain ⟨kk, hkk, e, -, -⟩ := aw_ok v sv 2
    have e : awStep v sv 3 = ((kk : Int), (sv kk : Int) + 1, price v sv kk) := e
    rw [e] at F hR hmax
    dsimp only at F hR hmax
    have z1 : ((sv kk : Int) + 1).natAbs = sv kk + 1 := by omega
    have z2 : ((sv kk : Int) + 1).natAbs < 16 ^ 16 := by rw [z1]; exact Nat.lt_of_le_of_lt (by omega : sv kk + 1 ≤ 15) (by decide)
    have z3 : apN ((sv kk : Int) + 1).natAbs ≠ [] := apN_ne (by omega)
    have z4 : (apN ((sv kk : Int) + 1).natAbs).length ≤ 1000000 := Nat.le_trans (apN_len 16 _ z2) (by decide)
    have hmaxN : ((sv kk : Int) + 1).toNat ≤ 15 := by omega
    have z5 : (⟨((apN ((sv kk : Int) + 1).natAbs).map (·.toNat)).toArray⟩ : PySem.Str) = let65 ((sv kk : Int) + 1).toNat := by
      rw [show ((sv kk : Int) + 1).natAbs = ((sv kk : Int) + 1).toNat by omega]
      exact let65_ap (by omega) hmaxN
    obtain rfl | rfl | rfl : kk = 0 ∨ kk = 1 ∨ kk = 2 := by omega
    · rw [show (((0 : Nat)) : Int) = 0 from rfl] at F
      k_steps
      · unfold Stop
        rename (_ : Int).fmod 2 = 1 => hpar
        rename Fr _ _ _ _ => F1
        rename News _ _ _ _ => N1
        refine c_hsetC F1 N1 X T rfl (Nat.le_of_ble_eq_true rfl) (Nat.le_of_ble_eq_true rfl) [(x, instObj 244 dx), (dx, dictOf [strKey w.params "_headers" k (.ref l)] 1), (lv, listOf #[.int (v 0) u0, .int (v 1) u1, .int (v 2) u2] nv)] (by walk_at "sub") ?_ (hpg.keeps F1.keep) hc (cleanN_of (by decide +kernel)) (cleanN_of (by decide +kernel)) (by rw [z5]; exact let65_clean hmaxN) (by omega) hxd hld hlx ?_
        · intro p hp
          rcases List.mem_cons.mp hp with rfl | hp
          · exact ⟨by k_mem, Ne.symm hlx⟩
          rcases List.mem_cons.mp hp with rfl | hp
          · exact ⟨by k_mem, Ne.symm hld⟩
          · rw [List.mem_singleton.mp hp]
            exact ⟨by k_mem, hlv⟩
        intro h2 tk2 n2 D F2 N2 hsb2 hD2
        have hne2 := news_ne N1 hD2
        clear F N F1 N1
        k_steps
        refine hR _ _ n2 D "A" _ _ (sb_of hs hn F2.keep N2 ?_) (N2 _ (.tail _ (.head _))).1 (by rw [← z5]; exact (N2 _ (.head _)).1) (none_of hs (N2 _ (.head _)).2.2 ?_) ?_
        · intro q hq
          rcases List.mem_cons.mp hq with rfl | hq
          · exact .inr (.tail _ (.tail _ (.head _)))
          rcases List.mem_cons.mp hq with rfl | hq
          · exact .inr (.tail _ (.tail _ (.tail _ (.head _))))
          rcases List.mem_cons.mp hq with rfl | hq
          · exact .inl (.head _)
          · rw [List.mem_singleton.mp hq]
            exact .inr (.tail _ (.tail _ (.tail _ (.tail _ (.head _)))))
        · intro hb
          obtain ⟨q, hq, e⟩ := List.mem_map.mp hb
          exact hne2 q hq e
        · rw [Int.fmod_eq_emod_of_nonneg _ (by decide)] at hpar
          rw [if_pos hpar]
          rfl
      · unfold Stop
        rename (_ : Int).fmod 2 ≠ 1 => hpar
        rename Fr _ _ _ _ => F1
        rename News _ _ _ _ => N1
        refine c_hsetC F1 N1 X T rfl (Nat.le_of_ble_eq_true rfl) (Nat.le_of_ble_eq_true rfl) [(x, instObj 244 dx), (dx, dictOf [strKey w.params "_headers" k (.ref l)] 1), (lv, listOf #[.int (v 0) u0, .int (v 1) u1, .int (v 2) u2] nv)] (by walk_at "sub") ?_ (hpg.keeps F1.keep) hc (cleanN_of (by decide +kernel)) (cleanN_of (by decide +kernel)) (by rw [z5]; exact let65_clean hmaxN) (by omega) hxd hld hlx ?_
        · intro p hp
          rcases List.mem_cons.mp hp with rfl | hp
          · exact ⟨by k_mem, Ne.symm hlx⟩
          rcases List.mem_cons.mp hp with rfl | hp
          · exact ⟨by k_mem, Ne.symm hld⟩
          · rw [List.mem_singleton.mp hp]
            exact ⟨by k_mem, hlv⟩
        intro h2 tk2 n2 D F2 N2 hsb2 hD2
        have hne2 := news_ne N1 hD2
        clear F N F1 N1
        k_steps
        refine hR _ _ n2 D "a" _ _ (sb_of hs hn F2.keep N2 ?_) (N2 _ (.tail _ (.head _))).1 (by rw [← z5]; exact (N2 _ (.head _)).1) (none_of hs (N2 _ (.head _)).2.2 ?_) ?_
        · intro q hq
          rcases List.mem_cons.mp hq with rfl | hq
          · exact .inr (.tail _ (.tail _ (.head _)))
          rcases List.mem_cons.mp hq with rfl | hq
          · exact .inr (.tail _ (.tail _ (.tail _ (.head _))))
          rcases List.mem_cons.mp hq with rfl | hq
          · exact .inl (.head _)
          · rw [List.mem_singleton.mp hq]
            exact .inr (.tail _ (.tail _ (.tail _ (.tail _ (.head _)))))
        · intro hb
          obtain ⟨q, hq, e⟩ := List.mem_map.mp hb
          exact hne2 q hq e
        · rw [Int.fmod_eq_emod_of_nonneg _ (by decide)] at hpar
          rw [if_neg hpar]
          rfl
    · rw [show (((1 : Nat)) : Int) = 1 from rfl] at F
      k_steps
      · unfold Stop
        rename (_ : Int).fmod 2 = 1 => hpar
        rename Fr _ _ _ _ => F1
        rename News _ _ _ _ => N1
        refine c_hsetC F1 N1 X T rfl (Nat.le_of_ble_eq_true rfl) (Nat.le_of_ble_eq_true rfl) [(x, instObj 244 dx), (dx, dictOf [strKey w.params "_headers" k (.ref l)] 1), (lv, listOf #[.int (v 0) u0, .int (v 1) u1, .int (v 2) u2] nv)] (by walk_at "sub") ?_ (hpg.keeps F1.keep) hc (cleanN_of (by decide +kernel)) (cleanN_of (by decide +kernel)) (by rw [z5]; exact let65_clean hmaxN) (by omega) hxd hld hlx ?_
        · intro p hp
          rcases List.mem_cons.mp hp with rfl | hp
          · exact ⟨by k_mem, Ne.symm hlx⟩
          rcases List.mem_cons.mp hp with rfl | hp
          · exact ⟨by k_mem, Ne.symm hld⟩
          · rw [List.mem_singleton.mp hp]
            exact ⟨by k_mem, hlv⟩
        intro h2 tk2 n2 D F2 N2 hsb2 hD2
        have hne2 := news_ne N1 hD2
        clear F N F1 N1
        k_steps
        refine hR _ _ n2 D "B" _ _ (sb_of hs hn F2.keep N2 ?_) (N2 _ (.tail _ (.head _))).1 (by rw [← z5]; exact (N2 _ (.head _)).1) (none_of hs (N2 _ (.head _)).2.2 ?_) ?_
        · intro q hq
          rcases List.mem_cons.mp hq with rfl | hq
          · exact .inr (.tail _ (.tail _ (.head _)))
          rcases List.mem_cons.mp hq with rfl | hq
          · exact .inr (.tail _ (.tail _ (.tail _ (.head _))))
          rcases List.mem_cons.mp hq with rfl | hq
          · exact .inl (.head _)
          · rw [List.mem_singleton.mp hq]
            exact .inr (.tail _ (.tail _ (.tail _ (.tail _ (.head _)))))
        · intro hb
          obtain ⟨q, hq, e⟩ := List.mem_map.mp hb
          exact hne2 q hq e
        · rw [Int.fmod_eq_emod_of_nonneg _ (by decide)] at hpar
          rw [if_pos hpar]
          rfl
      · unfold Stop
        rename (_ : Int).fmod 2 ≠ 1 => hpar
        rename Fr _ _ _ _ => F1
        rename News _ _ _ _ => N1
        refine c_hsetC F1 N1 X T rfl (Nat.le_of_ble_eq_true rfl) (Nat.le_of_ble_eq_true rfl) [(x, instObj 244 dx), (dx, dictOf [strKey w.params "_headers" k (.ref l)] 1), (lv, listOf #[.int (v 0) u0, .int (v 1) u1, .int (v 2) u2] nv)] (by walk_at "sub") ?_ (hpg.keeps F1.keep) hc (cleanN_of (by decide +kernel)) (cleanN_of (by decide +kernel)) (by rw [z5]; exact let65_clean hmaxN) (by omega) hxd hld hlx ?_
        · intro p hp
          rcases List.mem_cons.mp hp with rfl | hp
          · exact ⟨by k_mem, Ne.symm hlx⟩
          rcases List.mem_cons.mp hp with rfl | hp
          · exact ⟨by k_mem, Ne.symm hld⟩
          · rw [List.mem_singleton.mp hp]
            exact ⟨by k_mem, hlv⟩
        intro h2 tk2 n2 D F2 N2 hsb2 hD2
        have hne2 := news_ne N1 hD2
        clear F N F1 N1
        k_steps
        refine hR _ _ n2 D "b" _ _ (sb_of hs hn F2.keep N2 ?_) (N2 _ (.tail _ (.head _))).1 (by rw [← z5]; exact (N2 _ (.head _)).1) (none_of hs (N2 _ (.head _)).2.2 ?_) ?_
        · intro q hq
          rcases List.mem_cons.mp hq with rfl | hq
          · exact .inr (.tail _ (.tail _ (.head _)))
          rcases List.mem_cons.mp hq with rfl | hq
          · exact .inr (.tail _ (.tail _ (.tail _ (.head _))))
          rcases List.mem_cons.mp hq with rfl | hq
          · exact .inl (.head _)
          · rw [List.mem_singleton.mp hq]
            exact .inr (.tail _ (.tail _ (.tail _ (.tail _ (.head _)))))
        · intro hb
          obtain ⟨q, hq, e⟩ := List.mem_map.mp hb
          exact hne2 q hq e
        · rw [Int.fmod_eq_emod_of_nonneg _ (by decide)] at hpar
          rw [if_neg hpar]
          rfl
    · rw [show (((2 : Nat)) : Int) = 2 from rfl] at F
      k_steps
      · unfold Stop
        rename (_ : Int).fmod 2 = 1 => hpar
        rename Fr _ _ _ _ => F1
        rename News _ _ _ _ => N1
        refine c_hsetC F1 N1 X T rfl (Nat.le_of_ble_eq_true rfl) (Nat.le_of_ble_eq_true rfl) [(x, instObj 244 dx), (dx, dictOf [strKey w.params "_headers" k (.ref l)] 1), (lv, listOf #[.int (v 0) u0, .int (v 1) u1, .int (v 2) u2] nv)] (by walk_at "sub") ?_ (hpg.keeps F1.keep) hc (cleanN_of (by decide +kernel)) (cleanN_of (by decide +kernel)) (by rw [z5]; exact let65_clean hmaxN) (by omega) hxd hld hlx ?_
        · intro p hp
          rcases List.mem_cons.mp hp with rfl | hp
          · exact ⟨by k_mem, Ne.symm hlx⟩
          rcases List.mem_cons.mp hp with rfl | hp
          · exact ⟨by k_mem, Ne.symm hld⟩
          · rw [List.mem_singleton.mp hp]
            exact ⟨by k_mem, hlv⟩
        intro h2 tk2 n2 D F2 N2 hsb2 hD2
        have hne2 := news_ne N1 hD2
        clear F N F1 N1
        k_steps
        refine hR _ _ n2 D "C" _ _ (sb_of hs hn F2.keep N2 ?_) (N2 _ (.tail _ (.head _))).1 (by rw [← z5]; exact (N2 _ (.head _)).1) (none_of hs (N2 _ (.head _)).2.2 ?_) ?_
        · intro q hq
          rcases List.mem_cons.mp hq with rfl | hq
          · exact .inr (.tail _ (.tail _ (.head _)))
          rcases List.mem_cons.mp hq with rfl | hq
          · exact .inr (.tail _ (.tail _ (.tail _ (.head _))))
          rcases List.mem_cons.mp hq with rfl | hq
          · exact .inl (.head _)
          · rw [List.mem_singleton.mp hq]
            exact .inr (.tail _ (.tail _ (.tail _ (.tail _ (.head _)))))
        · intro hb
          obtain ⟨q, hq, e⟩ := List.mem_map.mp hb
          exact hne2 q hq e
        · rw [Int.fmod_eq_emod_of_nonneg _ (by decide)] at hpar
          rw [if_pos hpar]
          rfl
      · unfold Stop
        rename (_ : Int).fmod 2 ≠ 1 => hpar
        rename Fr _ _ _ _ => F1
        rename News _ _ _ _ => N1
        refine c_hsetC F1 N1 X T rfl (Nat.le_of_ble_eq_true rfl) (Nat.le_of_ble_eq_true rfl) [(x, instObj 244 dx), (dx, dictOf [strKey w.params "_headers" k (.ref l)] 1), (lv, listOf #[.int (v 0) u0, .int (v 1) u1, .int (v 2) u2] nv)] (by walk_at "sub") ?_ (hpg.keeps F1.keep) hc (cleanN_of (by decide +kernel)) (cleanN_of (by decide +kernel)) (by rw [z5]; exact let65_clean hmaxN) (by omega) hxd hld hlx ?_
        · intro p hp
          rcases List.mem_cons.mp hp with rfl | hp
          · exact ⟨by k_mem, Ne.symm hlx⟩
          rcases List.mem_cons.mp hp with rfl | hp
          · exact ⟨by k_mem, Ne.symm hld⟩
          · rw [List.mem_singleton.mp hp]
            exact ⟨by k_mem, hlv⟩
        intro h2 tk2 n2 D F2 N2 hsb2 hD2
        have hne2 := news_ne N1 hD2
        clear F N F1 N1
        k_steps
        refine hR _ _ n2 D "c" _ _ (sb_of hs hn F2.keep N2 ?_) (N2 _ (.tail _ (.head _))).1 (by rw [← z5]; exact (N2 _ (.head _)).1) (none_of hs (N2 _ (.head _)).2.2 ?_) ?_
        · intro q hq
          rcases List.mem_cons.mp hq with rfl | hq
          · exact .inr (.tail _ (.tail _ (.head _)))
          rcases List.mem_cons.mp hq with rfl | hq
          · exact .inr (.tail _ (.tail _ (.tail _ (.head _))))
          rcases List.mem_cons.mp hq with rfl | hq
          · exact .inl (.head _)
          · rw [List.mem_singleton.mp hq]
            exact .inr (.tail _ (.tail _ (.tail _ (.tail _ (.head _)))))
        · intro hb
          obtain ⟨q, hq, e⟩ := List.mem_map.mp hb
          exact hne2 q hq e
        · rw [Int.fmod_eq_emod_of_nonneg _ (by decide)] at hpar
          rw [if_neg hpar]
          rfl
end AWt
section DUt
local macro_rules | `(tactic| walk_at "CompSrcT") => `(tactic| refine stop ?_)
local macro_rules | `(tactic| walk_at "CompSrc") => `(tactic| refine stop ?_)
local macro_rules | `(tactic| walk_at "CompRestT") => `(tactic| refine stop ?_)
local macro_rules | `(tactic| walk_at "CompEnd") => `(tactic| refine stop ?_)
local macro_rules | `(tactic| walk_at "call builtin:list.extend") => `(tactic| refine stop ?_)
local macro_rules | `(tactic| walk_at "call builtin:sorted") => `(tactic| refine stop ?_)
local macro_rules | `(tactic| walk_at "exec For") => `(tactic| refine stop ?_)
local macro_rules | `(tactic| walk_at "exec For Tuple") => `(tactic| refine stop ?_)
local macro_rules | `(tactic| walk_at "exec For Tuple Call cons nil") => `(tactic| refine stop ?_)
local macro_rules | `(tactic| walk_at "pyIter") => `(tactic| refine stop ?_)
local macro_rules | `(tactic| walk_at "pyIter ref") => `(tactic| refine stop ?_)
local macro_rules | `(tactic| walk_at "call builtin:list.append") => `(tactic| refine stop ?_)
local macro_rules | `(tactic| walk_at "subscriptTail") => `(tactic| (k_here; (with_reducible show wpAny _ _ (subscriptTail _ _ (Value.str _ _) (Value.int _ _)) _ _ _); refine' letters_at ?k1 ?_; (case k1 => assumption)))
theorem app5 {α : Type} {a b c d e : α} {t u v : List α} : (a :: b :: c :: d :: e :: (t ++ u)) ++ v = (a :: b :: c :: d :: e :: t) ++ (u ++ v) := by simp only [List.cons_append, List.append_assoc]
def due1 (o : Nat → Nat) (size : Nat) : Nat → List (PySem.Str × PySem.Str)
  | 0 => []
  | i + 1 => due1 o size i ++ (if o i < size then [(lowOf i, ("A" : PySem.Str))] else [])
def due2 (o : Nat → Nat) (size : Nat) : Nat → List (PySem.Str × PySem.Str)
  | 0 => []
  | i + 1 => due2 o size i ++ (if o i < size then [(upOf i, let65 (o i))] else [])
theorem due1_len (o : Nat → Nat) (size : Nat) : ∀ i, (due1 o size i).length ≤ i
  | 0 => Nat.le_refl _
  | i + 1 => by
    have ih := due1_len o size i
    show (due1 o size i ++ (if o i < size then _ else _)).length ≤ i + 1
    rw [List.length_append]
    split <;> simp <;> omega
theorem due2_len (o : Nat → Nat) (size : Nat) : ∀ i, (due2 o size i).length ≤ i
  | 0 => Nat.le_refl _
  | i + 1 => by
    have ih := due2_len o size i
    show (due2 o size i ++ (if o i < size then _ else _)).length ≤ i + 1
    rw [List.length_append]
    split <;> simp <;> omega
theorem off1_mem {D : Addr} : ∀ {l : List (Addr × Obj)}, LCg.Off1 D l → ∀ p ∈ l, p.1 ≠ D
  | [], _, _, h => nomatch h
  | _ :: _, x, p, h => by
    rcases List.mem_cons.mp h with rfl | h
    · exact x.1
    · exact off1_mem x.2 p h
def served (o : Nat → Nat) (size : Nat) : Nat → List Nat
  | 0 => []
  | i + 1 => served o size i ++ (if size ≤ o i then [i] else [])
/-- what the last seat of a party costs, the dearest first -/
def cost (o : Nat → Nat) (size i : Nat) : Int := Int.fdiv ((o i : Int) * 720720) (Int.fdiv (o i : Int) (size : Int)) * -1
theorem fdiv_seats {n size : Nat} (h1 : 1 ≤ size) (h : size ≤ n) : (n : Int).fdiv (size : Int) = ((n / size : Nat) : Int) ∧ 1 ≤ n / size ∧ n / size ≤ n :=
  ⟨(Int.ofNat_fdiv n size).symm, (Nat.one_le_div_iff (by omega)).mpr h, Nat.div_le_self _ _⟩
theorem served_len (o : Nat → Nat) (size : Nat) : ∀ i, (served o size i).length ≤ i
  | 0 => Nat.le_refl _
  | i + 1 => by
    have ih := served_len o size i
    show (served o size i ++ (if size ≤ o i then _ else _)).length ≤ i + 1
    rw [List.length_append]
    split <;> simp <;> omega
theorem served_mem {o : Nat → Nat} {size : Nat} : ∀ {i k}, k ∈ served o size i → k < i ∧ size ≤ o k
  | 0, _, h => nomatch h
  | i + 1, k, h => by
    rcases List.mem_append.mp (show k ∈ served o size i ++ (if size ≤ o i then [i] else []) from h) with h | h
    · have := served_mem h; exact ⟨by omega, this.2⟩
    · split at h
      · rename_i hs
        rw [List.mem_singleton.mp h]
        exact ⟨by omega, hs⟩
      · cases h
theorem led_swap {h₀ h : Heap} {L : Addr} {a b c : Addr × Obj} {r : List (Addr × Obj)} (N : News h₀ L h (a :: b :: c :: r)) : News h₀ L h (c :: a :: r) := fun p hp => N p (by
  rcases List.mem_cons.mp hp with rfl | hp
  · exact .tail _ (.tail _ (.head _))
  rcases List.mem_cons.mp hp with rfl | hp
  · exact .head _
  · exact .tail _ (.tail _ (.tail _ hp)))
theorem led_front {h₀ h : Heap} {L : Addr} {a : Addr × Obj} {r : List (Addr × Obj)} (N : News h₀ L h r) (e : a ∈ r) : News h₀ L h (a :: r) := fun p hp => N p (by
  rcases List.mem_cons.mp hp with rfl | hp
  · exact e
  · exact hp)
/-- the pair of a party that is served -/
def dueP (o : Nat → Nat) (size k : Nat) : PySem.Str × PySem.Str := (if o k / size % 2 = 1 then upOf k else lowOf k, let65 (o k / size))
def due_J (g : Heap) (P0 : List (PySem.Str × PySem.Str)) (T0 : List (Addr × Obj)) (dp : Nat → PySem.Str × PySem.Str) (ks : List Nat) (D1 : Addr) (c5 c1 c2 c3 c4 : Addr × Obj) (i : Nat) (m : PySem.Str → Option Value) (news : List (Addr × Obj)) : Prop :=
  ∃ xs n T, lks m [("pairs", .ref D1)] ∧ news = (D1, listOf xs.toArray n) :: c5 :: c1 :: c2 :: c3 :: c4 :: T ∧ (∀ p ∈ T0, p ∈ T) ∧ AllTup T ∧ PairsIn g T xs (P0 ++ (ks.take i).map dp) ∧ (c5.1 ≠ D1 ∧ c1.1 ≠ D1 ∧ c2.1 ≠ D1 ∧ c3.1 ≠ D1 ∧ c4.1 ≠ D1)
theorem due_J0 {g : Heap} {P0 : List (PySem.Str × PySem.Str)} {T0 : List (Addr × Obj)} {dp : Nat → PySem.Str × PySem.Str} {ks : List Nat} {D1 : Addr} {c5 c1 c2 c3 c4 : Addr × Obj} {m : PySem.Str → Option Value} {xs : List Value} {n : Nat} {T : List (Addr × Obj)} {L : Addr} {h : Heap}
  (_ : Fr g L h m) (_ : News g L h ((D1, listOf xs.toArray n) :: c5 :: c1 :: c2 :: c3 :: c4 :: T)) (hm : lks m [("pairs", .ref D1)]) (h1 : ∀ p ∈ T0, p ∈ T) (h2 : AllTup T) (h3 : PairsIn g T xs P0) (h4 : c5.1 ≠ D1 ∧ c1.1 ≠ D1 ∧ c2.1 ≠ D1 ∧ c3.1 ≠ D1 ∧ c4.1 ≠ D1) : due_J g P0 T0 dp ks D1 c5 c1 c2 c3 c4 0 m ((D1, listOf xs.toArray n) :: c5 :: c1 :: c2 :: c3 :: c4 :: T) :=
  ⟨xs, n, T, hm, rfl, h1, h2, by rw [List.take_zero, List.map_nil, List.append_nil]; exact h3, h4⟩
theorem due_app {prog : Program} {w : World} {A : Around} {E : Value → Shared → Prop} {s : Shared} {h₀ : Heap} {L l : Addr} {m : PySem.Str → Option Value} {xs : List Value} {n : Nat} {v : Value} {Q : Value → Shared → Prop} {tD q cI c5 c1 c2 c3 c4 : Addr × Obj} {T : List (Addr × Obj)}
  (F : Fr h₀ L s.heap m) (N : News h₀ L s.heap (tD :: q :: cI :: (l, listOf xs.toArray n) :: c5 :: c1 :: c2 :: c3 :: c4 :: T)) (hx : xs.length ≤ 1000) (n1 : tD.1 ≠ l) (n2 : cI.1 ≠ l) (hne : c5.1 ≠ l ∧ c1.1 ≠ l ∧ c2.1 ≠ l ∧ c3.1 ≠ l ∧ c4.1 ≠ l) (hT : AllTup T)
  (h : ∀ h' n', Fr h₀ L h' m → News h₀ L h' (cI :: (l, listOf (xs ++ [v]).toArray n') :: c5 :: c1 :: c2 :: c3 :: c4 :: (T ++ [tD])) → Q .none { s with heap := h' }) :
  wpAny (model prog w) A (call (.builtin "list.append") [.ref l, v]) Q E s := by
  refine my_append (cI :: c5 :: c1 :: c2 :: c3 :: c4 :: (T ++ [tD])) F N (.tail _ (.tail _ (.tail _ (.head _)))) ?_ (by omega) fun h' n' F' N' => h h' n' F' fun p hp => N' p ?_
  · intro p hp
    rcases List.mem_cons.mp hp with rfl | hp
    · exact ⟨.tail _ (.tail _ (.head _)), n2⟩
    rcases List.mem_cons.mp hp with rfl | hp
    · exact ⟨.tail _ (.tail _ (.tail _ (.tail _ (.head _)))), hne.1⟩
    rcases List.mem_cons.mp hp with rfl | hp
    · exact ⟨.tail _ (.tail _ (.tail _ (.tail _ (.tail _ (.head _))))), hne.2.1⟩
    rcases List.mem_cons.mp hp with rfl | hp
    · exact ⟨.tail _ (.tail _ (.tail _ (.tail _ (.tail _ (.tail _ (.head _)))))), hne.2.2.1⟩
    rcases List.mem_cons.mp hp with rfl | hp
    · exact ⟨.tail _ (.tail _ (.tail _ (.tail _ (.tail _ (.tail _ (.tail _ (.head _))))))), hne.2.2.2.1⟩
    rcases List.mem_cons.mp hp with rfl | hp
    · exact ⟨.tail _ (.tail _ (.tail _ (.tail _ (.tail _ (.tail _ (.tail _ (.tail _ (.head _)))))))), hne.2.2.2.2⟩
    rcases List.mem_append.mp hp with hp | hp
    · exact ⟨.tail _ (.tail _ (.tail _ (.tail _ (.tail _ (.tail _ (.tail _ (.tail _ (.tail _ hp)))))))), AllTup.ne hT N (fun p hp => .tail _ (.tail _ (.tail _ (.tail _ (.tail _ (.tail _ (.tail _ (.tail _ (.tail _ hp))))))))) (.tail _ (.tail _ (.tail _ (.head _)))) p hp⟩
    · rw [List.mem_singleton.mp hp]
      exact ⟨.head _, n1⟩
  · rcases List.mem_cons.mp hp with rfl | hp
    · exact .tail _ (.head _)
    rcases List.mem_cons.mp hp with rfl | hp
    · exact .head _
    · exact .tail _ (.tail _ hp)
theorem no_raise {i : Int} (hb : 0 ≤ i ∧ i ≤ 15) (h : i < -((("ABCDEFGHIJKLMNOP" : PySem.Str).length : Nat) : Int) ∨ ((("ABCDEFGHIJKLMNOP" : PySem.Str).length : Nat) : Int) ≤ i) : False := by
  rw [show (("ABCDEFGHIJKLMNOP" : PySem.Str).length : Nat) = 16 from by decide +kernel] at h
  omega
theorem due_off {I l : Addr} {oD : Obj} {tD c5 c1 c2 c3 c4 : Addr × Obj} {T : List (Addr × Obj)} (hnI : ∀ p ∈ (l, oD) :: c5 :: c1 :: c2 :: c3 :: c4 :: T, p.1 ≠ I) (h : @LT.lt Nat _ I tD.1) : ∀ {p : Addr × Obj}, p ∈ c5 :: c1 :: c2 :: c3 :: c4 :: (T ++ [tD]) → p.1 ≠ I := fun {p} hp => by
  have hp : p ∈ (c5 :: c1 :: c2 :: c3 :: c4 :: T) ++ [tD] := hp
  rcases List.mem_append.mp hp with hp | hp
  · exact hnI p (.tail _ hp)
  · rw [List.mem_singleton.mp hp]; exact Nat.ne_of_gt h
def DueOrd (o : Nat → Nat) (size : Nat) (ks : List Nat) : Prop := SortedBy (served o size 3).length (lexP (fun i => cost o size ((served o size 3).getD i 0)) fun i => (((served o size 3).getD i 0 : Nat) : Int)) ks
theorem c_due (w : World) (loose : List PySem.Str) (mean : ExcName → Option Value) (mg mb : PySem.Str → Option Value) (s : Shared) (h₀ : Heap) (X : (Mine.frag.heap_1 w.params).In h₀) (T : Top Mine.view loose mean mg mb h₀) (hk : h₀.StaysIn s.heap) (lo : Addr) (no : Nat) (u0 u1 u2 : Tok) (o : Nat → Nat) (size : Nat) (ts : Tok) (R : Result → Shared → Prop)
  (hn : Has h₀ s.heap [(lo, listOf #[.int (o 0) u0, .int (o 1) u1, .int (o 2) u2] no)]) (ho0 : o 0 ≤ 15) (ho1 : o 1 ≤ 15) (ho2 : o 2 ≤ 15) (hs1 : 1 ≤ size) (hs2 : size ≤ 16)
  (hR : ∀ h' tk D xs n' ks, s.heap.StaysIn h' → h'.get? D = some (listOf xs.toArray n') → s.heap.get? D = none → PairsAt h' xs (due1 o size 3 ++ due2 o size 3 ++ ks.map (fun j => dueP o size ((served o size 3).getD j 0))) → DueOrd o size ks → R (.ok (.ret (.ref D))) { s with heap := h', toks := tk }) :
  codeAny (model PySem.Challenge.rw_ta0081_01.row.prog w) (AC 4) (.call (.ref 260) ⟨[.ref lo, .int (size : Int) ts], []⟩) R s := by
  revert X
  k_fill
  intro X
  k_dflt (refine' enterC (binds := [("own", .ref lo), ("size", .int (size : Int) ts)]) (news := [(lo, listOf #[.int (o 0) u0, .int (o 1) u1, .int (o 2) u2] no)]) X T hk ?kn ?k6 ?k7 ?k8 ?k9 ?kB ?kD ?h ?c2 ?c3 ?c4; (case kn => assumption); (case k6 => k_is); (case k7 => k_is); (case k8 => decide); (case k9 => exact BindsTo.of_eq rfl); (case kB => exact rfl); (case kD => decide +kernel); (case c2 => exact rfl); (case c3 => exact rfl); (case c4 => exact rfl))
  clear X T
  intro g L h₁ tk cells hg hs F N Y X T l1
  (try k_lt l1)
  k_cells Y
  (try simp only [List.cons_append, List.nil_append] at N)
  (try dsimp only)
  have hM : KstMark := kstMark
  k_steps
  unfold Stop
  refine LCt.CompSrcT.range (n := 3) (by rfl) (by k_asm) (by k_asm) (by assumption) (by first | decide | rfl) (by first | rfl | decide) (by exact Nat.le_of_ble_eq_true rfl) ?_
  intro g'
  refine compT_B (fun i ys tups => PairsIn g tups ys (due1 o size i) ∧ AllTup tups) ?turn1 ?done1 ⟨PairsIn.nil, AllTup.nil⟩
  case turn1 =>
    rintro i ys tups v I oI C oC D m₂ h tk E' ⟨hJ, hT⟩ hi hv hC hx F N o3 ne
    obtain ⟨t9, rfl⟩ := hv
    have o3' := o3
    simp only [List.cons_append, List.nil_append, LCg.Off3] at N o3
    obtain rfl | rfl | rfl : i = 0 ∨ i = 1 ∨ i = 2 := by omega
    · k_steps
      · unfold Stop
        rename Fr _ _ _ _ => F1
        rename News _ _ _ _ => N1
        rename _ ∧ _ => l1'
        rename (_ : Int) < _ => hlt
        refine compEnd_one F1 N1 o3' l1'.1 l1'.2.1 l1'.2.2.1 trivial ⟨tups ++ [_], rfl, ?_⟩
        rw [show due1 o size (0 + 1) = due1 o size 0 ++ [(lowOf 0, ("A" : PySem.Str))] by
          show _ ++ (if o 0 < size then _ else _) = _
          rw [if_pos (by have : (o 0 : Int) < (size : Int) := hlt; omega)]]
        refine ⟨?_, hT.one rfl⟩
        exact PairsIn.app (hJ.led fun q hq => List.mem_append_left _ hq) (PairsIn.cons (List.mem_append_right _ (.head _)) PairsIn.nil)
      · unfold Stop
        rename Fr _ _ _ _ => F1
        rename News _ _ _ _ => N1
        rename ¬ ((_ : Int) < _) => hlt
        refine compEnd_none F1 N1 o3' trivial ⟨tups, rfl, ?_⟩
        rw [show due1 o size (0 + 1) = due1 o size 0 by
          show _ ++ (if o 0 < size then _ else _) = _
          rw [if_neg (by have : ¬ (o 0 : Int) < (size : Int) := hlt; omega), List.append_nil]]
        exact ⟨hJ, hT⟩
    · k_steps
      · unfold Stop
        rename Fr _ _ _ _ => F1
        rename News _ _ _ _ => N1
        rename _ ∧ _ => l1'
        rename (_ : Int) < _ => hlt
        refine compEnd_one F1 N1 o3' l1'.1 l1'.2.1 l1'.2.2.1 trivial ⟨tups ++ [_], rfl, ?_⟩
        rw [show due1 o size (1 + 1) = due1 o size 1 ++ [(lowOf 1, ("A" : PySem.Str))] by
          show _ ++ (if o 1 < size then _ else _) = _
          rw [if_pos (by have : (o 1 : Int) < (size : Int) := hlt; omega)]]
        refine ⟨?_, hT.one rfl⟩
        exact PairsIn.app (hJ.led fun q hq => List.mem_append_left _ hq) (PairsIn.cons (List.mem_append_right _ (.head _)) PairsIn.nil)
      · unfold Stop
        rename Fr _ _ _ _ => F1
        rename News _ _ _ _ => N1
        rename ¬ ((_ : Int) < _) => hlt
        refine compEnd_none F1 N1 o3' trivial ⟨tups, rfl, ?_⟩
        rw [show due1 o size (1 + 1) = due1 o size 1 by
          show _ ++ (if o 1 < size then _ else _) = _
          rw [if_neg (by have : ¬ (o 1 : Int) < (size : Int) := hlt; omega), List.append_nil]]
        exact ⟨hJ, hT⟩
    · k_steps
      · unfold Stop
        rename Fr _ _ _ _ => F1
        rename News _ _ _ _ => N1
        rename _ ∧ _ => l1'
        rename (_ : Int) < _ => hlt
        refine compEnd_one F1 N1 o3' l1'.1 l1'.2.1 l1'.2.2.1 trivial ⟨tups ++ [_], rfl, ?_⟩
        rw [show due1 o size (2 + 1) = due1 o size 2 ++ [(lowOf 2, ("A" : PySem.Str))] by
          show _ ++ (if o 2 < size then _ else _) = _
          rw [if_pos (by have : (o 2 : Int) < (size : Int) := hlt; omega)]]
        refine ⟨?_, hT.one rfl⟩
        exact PairsIn.app (hJ.led fun q hq => List.mem_append_left _ hq) (PairsIn.cons (List.mem_append_right _ (.head _)) PairsIn.nil)
      · unfold Stop
        rename Fr _ _ _ _ => F1
        rename News _ _ _ _ => N1
        rename ¬ ((_ : Int) < _) => hlt
        refine compEnd_none F1 N1 o3' trivial ⟨tups, rfl, ?_⟩
        rw [show due1 o size (2 + 1) = due1 o size 2 by
          show _ ++ (if o 2 < size then _ else _) = _
          rw [if_neg (by have : ¬ (o 2 : Int) < (size : Int) := hlt; omega), List.append_nil]]
        exact ⟨hJ, hT⟩
  case done1 =>
    rintro ys tups ⟨hJ, hT⟩
    k_steps
    unfold Stop
    rename LCg.Off1 _ _ => off1
    simp only [List.cons_append, List.nil_append, LCg.Off1] at off1
    refine LCt.CompSrcT.range (n := 3) (by rfl) (by k_asm) (by k_asm) (by assumption) (by first | decide | rfl) (by first | rfl | decide) (by exact Nat.le_of_ble_eq_true rfl) ?_
    intro g2
    refine compT_B (fun i ys2 tups2 => PairsIn g tups2 ys2 (due2 o size i) ∧ AllTup tups2) ?turn2 ?done2 ⟨PairsIn.nil, AllTup.nil⟩
    case turn2 =>
      rintro i ys2 tups2 v I oI C oC D m₂ h tk E' ⟨hJ2, hT2⟩ hi hv hC hx F N o3 ne
      obtain ⟨t9, rfl⟩ := hv
      have o3' := o3
      simp only [List.cons_append, List.nil_append, LCg.Off3] at N o3
      obtain rfl | rfl | rfl : i = 0 ∨ i = 1 ∨ i = 2 := by omega
      · have hb : 0 ≤ [(o 0 : Int), (o 1 : Int), (o 2 : Int)].getD (0 + ((0 : Nat) : Int)).toNat 0 ∧ [(o 0 : Int), (o 1 : Int), (o 2 : Int)].getD (0 + ((0 : Nat) : Int)).toNat 0 ≤ 15 := by
          show 0 ≤ (o 0 : Int) ∧ (o 0 : Int) ≤ 15
          omega
        k_steps
        · unfold Stop
          rename Fr _ _ _ _ => F1
          rename News _ _ _ _ => N1
          rename _ ∧ _ => l1'
          rename (_ : Int) < _ => hlt
          refine compEnd_one F1 N1 o3' l1'.1 l1'.2.1 l1'.2.2.1 trivial ⟨tups2 ++ [_], app5, ?_⟩
          rw [show due2 o size (0 + 1) = due2 o size 0 ++ [(upOf 0, let65 (o 0))] by
            show _ ++ (if o 0 < size then _ else _) = _
            rw [if_pos (by have : (o 0 : Int) < (size : Int) := hlt; omega)]]
          refine ⟨?_, hT2.one rfl⟩
          exact PairsIn.app (hJ2.led fun q hq => List.mem_append_left _ hq) (PairsIn.cons (List.mem_append_right _ (.head _)) PairsIn.nil)
        · unfold Stop
          rename Fr _ _ _ _ => F1
          rename News _ _ _ _ => N1
          rename ¬ ((_ : Int) < _) => hlt
          refine compEnd_none F1 N1 o3' trivial ⟨tups2, rfl, ?_⟩
          rw [show due2 o size (0 + 1) = due2 o size 0 by
            show _ ++ (if o 0 < size then _ else _) = _
            rw [if_neg (by have : ¬ (o 0 : Int) < (size : Int) := hlt; omega), List.append_nil]]
          exact ⟨hJ2, hT2⟩
      · have hb : 0 ≤ [(o 0 : Int), (o 1 : Int), (o 2 : Int)].getD (0 + ((1 : Nat) : Int)).toNat 0 ∧ [(o 0 : Int), (o 1 : Int), (o 2 : Int)].getD (0 + ((1 : Nat) : Int)).toNat 0 ≤ 15 := by
          show 0 ≤ (o 1 : Int) ∧ (o 1 : Int) ≤ 15
          omega
        k_steps
        · unfold Stop
          rename Fr _ _ _ _ => F1
          rename News _ _ _ _ => N1
          rename _ ∧ _ => l1'
          rename (_ : Int) < _ => hlt
          refine compEnd_one F1 N1 o3' l1'.1 l1'.2.1 l1'.2.2.1 trivial ⟨tups2 ++ [_], app5, ?_⟩
          rw [show due2 o size (1 + 1) = due2 o size 1 ++ [(upOf 1, let65 (o 1))] by
            show _ ++ (if o 1 < size then _ else _) = _
            rw [if_pos (by have : (o 1 : Int) < (size : Int) := hlt; omega)]]
          refine ⟨?_, hT2.one rfl⟩
          exact PairsIn.app (hJ2.led fun q hq => List.mem_append_left _ hq) (PairsIn.cons (List.mem_append_right _ (.head _)) PairsIn.nil)
        · unfold Stop
          rename Fr _ _ _ _ => F1
          rename News _ _ _ _ => N1
          rename ¬ ((_ : Int) < _) => hlt
          refine compEnd_none F1 N1 o3' trivial ⟨tups2, rfl, ?_⟩
          rw [show due2 o size (1 + 1) = due2 o size 1 by
            show _ ++ (if o 1 < size then _ else _) = _
            rw [if_neg (by have : ¬ (o 1 : Int) < (size : Int) := hlt; omega), List.append_nil]]
          exact ⟨hJ2, hT2⟩
      · have hb : 0 ≤ [(o 0 : Int), (o 1 : Int), (o 2 : Int)].getD (0 + ((2 : Nat) : Int)).toNat 0 ∧ [(o 0 : Int), (o 1 : Int), (o 2 : Int)].getD (0 + ((2 : Nat) : Int)).toNat 0 ≤ 15 := by
          show 0 ≤ (o 2 : Int) ∧ (o 2 : Int) ≤ 15
          omega
        k_steps
        · unfold Stop
          rename Fr _ _ _ _ => F1
          rename News _ _ _ _ => N1
          rename _ ∧ _ => l1'
          rename (_ : Int) < _ => hlt
          refine compEnd_one F1 N1 o3' l1'.1 l1'.2.1 l1'.2.2.1 trivial ⟨tups2 ++ [_], app5, ?_⟩
          rw [show due2 o size (2 + 1) = due2 o size 2 ++ [(upOf 2, let65 (o 2))] by
            show _ ++ (if o 2 < size then _ else _) = _
            rw [if_pos (by have : (o 2 : Int) < (size : Int) := hlt; omega)]]
          refine ⟨?_, hT2.one rfl⟩
          exact PairsIn.app (hJ2.led fun q hq => List.mem_append_left _ hq) (PairsIn.cons (List.mem_append_right _ (.head _)) PairsIn.nil)
        · unfold Stop
          rename Fr _ _ _ _ => F1
          rename News _ _ _ _ => N1
          rename ¬ ((_ : Int) < _) => hlt
          refine compEnd_none F1 N1 o3' trivial ⟨tups2, rfl, ?_⟩
          rw [show due2 o size (2 + 1) = due2 o size 2 by
            show _ ++ (if o 2 < size then _ else _) = _
            rw [if_neg (by have : ¬ (o 2 : Int) < (size : Int) := hlt; omega), List.append_nil]]
          exact ⟨hJ2, hT2⟩
    case done2 =>
      rintro ys2 tups2 ⟨hJ2, hT2⟩
      have hz1 : ys.length ≤ 1000 := by rw [hJ.1]; exact Nat.le_trans (due1_len o size 3) (by decide)
      have hz2 : ys2.length ≤ 1000 := by rw [hJ2.1]; exact Nat.le_trans (due2_len o size 3) (by decide)
      k_steps
      unfold Stop
      rename Fr _ _ _ _ => F
      rename News _ _ _ _ => N
      rename LCg.Off1 _ _ => off2
      simp only [List.cons_append, List.nil_append, LCg.Off1] at off2
      refine' my_extend (xs := ys) (ys := ys2) ?rest F N (by k_mem) (by k_mem) ?hr0 (by omega) (by omega) ?_
      case' hr0 =>
        refine' List.forall_mem_cons.mpr ⟨⟨.tail _ (.tail _ (.head _)), off1.1⟩, ?hr1⟩
      case' hr1 =>
        refine' List.forall_mem_cons.mpr ⟨⟨.tail _ (.tail _ (.tail _ (.head _))), off1.2.1⟩, ?hr2⟩
      case' hr2 =>
        refine' List.forall_mem_cons.mpr ⟨⟨.tail _ (.tail _ (.tail _ (.tail _ (.head _)))), off1.2.2.1⟩, ?hr3⟩
      case' hr3 =>
        refine' List.forall_mem_cons.mpr ⟨⟨.tail _ (.tail _ (.tail _ (.tail _ (.tail _ (.head _))))), off1.2.2.2.1⟩, ?hr4⟩
      case hr4 =>
        exact fun p hp => ⟨.tail _ (.tail _ (.tail _ (.tail _ (.tail _ (.tail _ hp))))), (hT.app hT2).ne N (fun p hp => .tail _ (.tail _ (.tail _ (.tail _ (.tail _ (.tail _ hp)))))) (by k_mem) p hp⟩
      clear F N
      intro h3 n3 F N
      k_steps
      unfold Stop
      clear off2
      refine For_led ?_ (fun _ => rfl)
      k_steps
      unfold Stop
      refine LCt.CompSrcT.range (n := 3) (by rfl) (by k_asm) (by k_asm) (by assumption) (by first | decide | rfl) (by first | rfl | decide) (by exact Nat.le_of_ble_eq_true rfl) ?_
      intro g3
      refine compT_B (fun i ys3 tups3 => CostAt (cost o size) tups3 ys3 (served o size i) ∧ AllTup tups3) ?turn3 ?done3 ⟨CostAt.nil, AllTup.nil⟩
      case turn3 =>
        rintro i ys3 tups3 v I oI C oC D m₂ h tk E' ⟨hJ3, hT3⟩ hi hv hC hx F N o3 ne
        obtain ⟨t9, rfl⟩ := hv
        have o3' := o3
        simp only [List.cons_append, List.nil_append, LCg.Off3] at N o3
        obtain rfl | rfl | rfl : i = 0 ∨ i = 1 ∨ i = 2 := by omega
        · k_steps
          · rename (_ : Int) ≤ _ => hge
            have hge' : size ≤ o 0 := by
              have q : (size : Int) ≤ (o 0 : Int) := hge
              omega
            have hq := fdiv_seats hs1 hge'
            refine floordiv_int (fun hz => absurd (show (o 0 : Int).fdiv (size : Int) = 0 from hz) (by omega)) ?_ (Or.inl (PyProof.noPylong_small (show ((o 0 : Int).fdiv (size : Int)).natAbs < 1073741824 by omega)))
            k_steps
            unfold Stop
            rename Fr _ _ _ _ => F1
            rename News _ _ _ _ => N1
            rename _ ∧ _ => l1'
            refine compEnd_one F1 N1 o3' l1'.1 l1'.2.1 l1'.2.2.1 trivial ⟨tups3 ++ [_], app5, ?_⟩
            rw [show served o size (0 + 1) = served o size 0 ++ [0] by
              show _ ++ (if size ≤ o 0 then _ else _) = _
              rw [if_pos hge']]
            exact ⟨hJ3.one rfl, hT3.one rfl⟩
          · unfold Stop
            rename Fr _ _ _ _ => F1
            rename News _ _ _ _ => N1
            rename ¬ ((_ : Int) ≤ _) => hlt
            refine compEnd_none F1 N1 o3' trivial ⟨tups3, rfl, ?_⟩
            rw [show served o size (0 + 1) = served o size 0 by
              show _ ++ (if size ≤ o 0 then _ else _) = _
              rw [if_neg (by have : ¬ (size : Int) ≤ (o 0 : Int) := hlt; omega), List.append_nil]]
            exact ⟨hJ3, hT3⟩
        · k_steps
          · rename (_ : Int) ≤ _ => hge
            have hge' : size ≤ o 1 := by
              have q : (size : Int) ≤ (o 1 : Int) := hge
              omega
            have hq := fdiv_seats hs1 hge'
            refine floordiv_int (fun hz => absurd (show (o 1 : Int).fdiv (size : Int) = 0 from hz) (by omega)) ?_ (Or.inl (PyProof.noPylong_small (show ((o 1 : Int).fdiv (size : Int)).natAbs < 1073741824 by omega)))
            k_steps
            unfold Stop
            rename Fr _ _ _ _ => F1
            rename News _ _ _ _ => N1
            rename _ ∧ _ => l1'
            refine compEnd_one F1 N1 o3' l1'.1 l1'.2.1 l1'.2.2.1 trivial ⟨tups3 ++ [_], app5, ?_⟩
            rw [show served o size (1 + 1) = served o size 1 ++ [1] by
              show _ ++ (if size ≤ o 1 then _ else _) = _
              rw [if_pos hge']]
            exact ⟨hJ3.one rfl, hT3.one rfl⟩
          · unfold Stop
            rename Fr _ _ _ _ => F1
            rename News _ _ _ _ => N1
            rename ¬ ((_ : Int) ≤ _) => hlt
            refine compEnd_none F1 N1 o3' trivial ⟨tups3, rfl, ?_⟩
            rw [show served o size (1 + 1) = served o size 1 by
              show _ ++ (if size ≤ o 1 then _ else _) = _
              rw [if_neg (by have : ¬ (size : Int) ≤ (o 1 : Int) := hlt; omega), List.append_nil]]
            exact ⟨hJ3, hT3⟩
        · k_steps
          · rename (_ : Int) ≤ _ => hge
            have hge' : size ≤ o 2 := by
              have q : (size : Int) ≤ (o 2 : Int) := hge
              omega
            have hq := fdiv_seats hs1 hge'
            refine floordiv_int (fun hz => absurd (show (o 2 : Int).fdiv (size : Int) = 0 from hz) (by omega)) ?_ (Or.inl (PyProof.noPylong_small (show ((o 2 : Int).fdiv (size : Int)).natAbs < 1073741824 by omega)))
            k_steps
            unfold Stop
            rename Fr _ _ _ _ => F1
            rename News _ _ _ _ => N1
            rename _ ∧ _ => l1'
            refine compEnd_one F1 N1 o3' l1'.1 l1'.2.1 l1'.2.2.1 trivial ⟨tups3 ++ [_], app5, ?_⟩
            rw [show served o size (2 + 1) = served o size 2 ++ [2] by
              show _ ++ (if size ≤ o 2 then _ else _) = _
              rw [if_pos hge']]
            exact ⟨hJ3.one rfl, hT3.one rfl⟩
          · unfold Stop
            rename Fr _ _ _ _ => F1
            rename News _ _ _ _ => N1
            rename ¬ ((_ : Int) ≤ _) => hlt
            refine compEnd_none F1 N1 o3' trivial ⟨tups3, rfl, ?_⟩
            rw [show served o size (2 + 1) = served o size 2 by
              show _ ++ (if size ≤ o 2 then _ else _) = _
              rw [if_neg (by have : ¬ (size : Int) ≤ (o 2 : Int) := hlt; omega), List.append_nil]]
            exact ⟨hJ3, hT3⟩
      case done3 =>
        rintro ys3 tups3 ⟨hJ3, hT3⟩
        k_steps
        unfold Stop
        rename Fr _ _ _ _ => F
        rename News _ _ _ _ => N
        have hz3 : ys3.length ≤ 3 := by rw [hJ3.1]; exact served_len o size 3
        have hT9 := AllTup.app (AllTup.app hT hT2) hT3
        obtain ⟨t3, u3, hpk⟩ := hJ3.pick
        refine sorted_tups (vs := ys3) (fun i => cost o size ((served o size 3).getD i 0)) (fun i => (((served o size 3).getD i 0 : Nat) : Int)) t3 (fun i => .int (((served o size 3).getD i 0 : Nat) : Int) (u3 i)) F N ⟨_, (N _ (.head _)).1, rfl, _, rfl⟩ hz3 (fun i hi => ?_) (fun i j C' s' _ _ h => wpAny_eqBool_int h) (fun i j C' s' _ _ h => lt_int h) ?_
        · obtain ⟨q, e, hm⟩ := hpk i hi
          exact ⟨q, e, .tail _ (.tail _ (.tail _ (.tail _ (.tail _ (.tail _ (List.mem_append_right _ hm))))))⟩
        have fst1 := (N _ (.tail _ (.head _)))
        intro D5 h5 e5 ks hks F5 N5 hD5
        have N6 := led_swap N5
        clear F N N5
        k_steps
        have hlen : ks.length = ys3.length := by rw [hks.1.length_eq, List.length_range]
        have hJ0 := due_J0 (dp := fun j => dueP o size ((served o size 3).getD j 0)) (ks := ks) (T0 := tups ++ tups2 ++ tups3) F5 N6 ⟨rfl, trivial⟩ (fun p hp => hp) hT9 (PairsIn.app (hJ.led fun q hq => List.mem_append_left _ (List.mem_append_left _ hq)) (hJ2.led fun q hq => List.mem_append_left _ (List.mem_append_right _ hq))) ⟨Nat.ne_of_gt (hD5 _ (.tail _ (.head _))), off1.1, off1.2.1, off1.2.2.1, off1.2.2.2.1⟩
        refine' for_list (vs := ks.map fun i => ys3.getD i .none) (kl := [(D5, listOf (ks.map fun i => ys3.getD i .none).toArray e5)]) (J := due_J g (due1 o size 3 ++ due2 o size 3) (tups ++ tups2 ++ tups3) (fun j => dueP o size ((served o size 3).getD j 0)) ks _ _ _ _ _ _) (Jx := due_J g (due1 o size 3 ++ due2 o size 3) (tups ++ tups2 ++ tups3) (fun j => dueP o size ((served o size 3).getD j 0)) ks _ _ _ _ _ _ ks.length) (h0 := hJ0) ⟨_, (N6 _ (.tail _ (.head _))).1, rfl, _, rfl⟩ (.inr ⟨_, .head _⟩) rfl F5 N6 ?kl ?turn4 ?jx ?done4
        case kl =>
          rintro i m news ⟨xs, n, T, _, rfl, _⟩ p hp
          rw [List.mem_singleton.mp hp]
          exact .tail _ (.head _)
        case jx =>
          intro m news h
          rw [List.length_map] at h
          exact h
        case turn4 =>
          clear F5 N6
          rintro i v m news h tk I oI hv ⟨xs, n, T, hm, rfl, hT0, hTT, hP, hne⟩ hnI F N
          rw [List.getElem?_map] at hv
          obtain ⟨j, hji, rfl⟩ := Option.map_eq_some_iff.mp hv
          have hj : j < ys3.length := by
            have := (hks.1.mem_iff).mp (List.mem_of_getElem? hji)
            exact List.mem_range.mp this
          obtain ⟨q, hq1, hq2⟩ := hpk j hj
          rw [show ys3.getD j .none = .ref q by rw [List.getD_eq_getElem?_getD, hq1]; rfl]
          have hkk : (served o size 3).getD j 0 < 3 ∧ size ≤ o ((served o size 3).getD j 0) := by
            refine served_mem ?_
            rw [List.getD_eq_getElem?_getD, List.getElem?_eq_getElem (by rw [← hJ3.1]; exact hj)]
            exact List.getElem_mem _
          have hnx : due1 o size 3 ++ due2 o size 3 ++ (ks.take (i + 1)).map (fun j => dueP o size ((served o size 3).getD j 0)) = (due1 o size 3 ++ due2 o size 3 ++ (ks.take i).map (fun j => dueP o size ((served o size 3).getD j 0))) ++ [dueP o size ((served o size 3).getD j 0)] := by
            rw [List.take_add_one, hji, List.map_append, ← List.append_assoc]; rfl
          have hxs : xs.length ≤ 100 := by
            rw [hP.1, List.length_append, List.length_append, List.length_map, List.length_take]
            have := due1_len o size 3
            have := due2_len o size 3
            omega
          have N0 := N
          replace N := led_front N (.tail _ (.tail _ (.tail _ (.tail _ (.tail _ (.tail _ (.tail _ (hT0 _ (List.mem_append_right _ hq2)))))))))
          revert hnx hkk
          generalize (served o size 3).getD j 0 = k at *
          rintro ⟨hk3, hks'⟩ hnx
          have hqs := fdiv_seats hs1 hks'
          replace F := fr_bd F _ hm
          dsimp only [bd] at F
          obtain rfl | rfl | rfl : k = 0 ∨ k = 1 ∨ k = 2 := by omega
          · have hb : 0 ≤ ([(o 0 : Int), (o 1 : Int), (o 2 : Int)].getD (((0 : Nat) : Int)).toNat 0).fdiv (size : Int) ∧ ([(o 0 : Int), (o 1 : Int), (o 2 : Int)].getD (((0 : Nat) : Int)).toNat 0).fdiv (size : Int) ≤ 15 := by
              show 0 ≤ (o 0 : Int).fdiv (size : Int) ∧ (o 0 : Int).fdiv (size : Int) ≤ 15
              omega
            k_steps
            · rename _ ∨ _ => hbad
              exact absurd hbad (no_raise hb)
            · unfold Stop
              rename Fr _ _ _ _ => F1
              rename News _ _ _ _ => N1
              rename _ ∧ _ => l1'
              rename (_ : Int).fmod 2 = 1 => hpar
              have hpar : (o 0 / size) % 2 = 1 := by
                have q : ((o 0 : Int).fdiv (size : Int)).fmod 2 = 1 := hpar
                rw [hqs.1, Int.fmod_eq_emod_of_nonneg _ (by decide)] at q
                omega
              rw [letters_item hb.1 hb.2] at N1
              refine due_app F1 N1 (by omega) (Nat.ne_of_gt l1'.2.2.1) (fun e => hnI _ (.head _) e.symm) hne hTT ?_
              intro h9 n9 F9 N9
              k_steps
              refine ⟨_, _, _, _, rfl, F9, N9, ?_, _, _, _, ⟨rfl, trivial⟩, rfl, fun p hp => List.mem_append_left _ (hT0 p hp), hTT.one rfl, ?_, hne⟩
              · intro p hp
                rcases List.mem_cons.mp hp with rfl | hp
                · have z9 := hnI _ (.head _)
                  exact z9
                · exact due_off hnI l1'.2.1 hp
              · have z : (⟨#[65 + (([(o 0 : Int), (o 1 : Int), (o 2 : Int)].getD (((0 : Nat) : Int)).toNat 0).fdiv (size : Int)).toNat]⟩ : PySem.Str) = let65 (o 0 / size) := by
                  show (⟨#[65 + ((o 0 : Int).fdiv (size : Int)).toNat]⟩ : PySem.Str) = _
                  rw [hqs.1]; rfl
                rw [hnx, show dueP o size 0 = (upOf 0, let65 (o 0 / size)) from congrArg (·, let65 (o 0 / size)) (if_pos hpar), ← z]
                exact PairsIn.app (hP.led fun q hq => List.mem_append_left _ hq) (PairsIn.cons (List.mem_append_right _ (.head _)) PairsIn.nil)
            · rename _ ∨ _ => hbad
              exact absurd hbad (no_raise hb)
            · unfold Stop
              rename Fr _ _ _ _ => F1
              rename News _ _ _ _ => N1
              rename _ ∧ _ => l1'
              rename (_ : Int).fmod 2 ≠ 1 => hpar
              have hpar : ¬ (o 0 / size) % 2 = 1 := by
                have q : ¬ ((o 0 : Int).fdiv (size : Int)).fmod 2 = 1 := hpar
                rw [hqs.1, Int.fmod_eq_emod_of_nonneg _ (by decide)] at q
                omega
              rw [letters_item hb.1 hb.2] at N1
              refine due_app F1 N1 (by omega) (Nat.ne_of_gt l1'.2.2.1) (fun e => hnI _ (.head _) e.symm) hne hTT ?_
              intro h9 n9 F9 N9
              k_steps
              refine ⟨_, _, _, _, rfl, F9, N9, ?_, _, _, _, ⟨rfl, trivial⟩, rfl, fun p hp => List.mem_append_left _ (hT0 p hp), hTT.one rfl, ?_, hne⟩
              · intro p hp
                rcases List.mem_cons.mp hp with rfl | hp
                · have z9 := hnI _ (.head _)
                  exact z9
                · exact due_off hnI l1'.2.1 hp
              · have z : (⟨#[65 + (([(o 0 : Int), (o 1 : Int), (o 2 : Int)].getD (((0 : Nat) : Int)).toNat 0).fdiv (size : Int)).toNat]⟩ : PySem.Str) = let65 (o 0 / size) := by
                  show (⟨#[65 + ((o 0 : Int).fdiv (size : Int)).toNat]⟩ : PySem.Str) = _
                  rw [hqs.1]; rfl
                rw [hnx, show dueP o size 0 = (lowOf 0, let65 (o 0 / size)) from congrArg (·, let65 (o 0 / size)) (if_neg hpar), ← z]
                exact PairsIn.app (hP.led fun q hq => List.mem_append_left _ hq) (PairsIn.cons (List.mem_append_right _ (.head _)) PairsIn.nil)
          · have hb : 0 ≤ ([(o 0 : Int), (o 1 : Int), (o 2 : Int)].getD (((1 : Nat) : Int)).toNat 0).fdiv (size : Int) ∧ ([(o 0 : Int), (o 1 : Int), (o 2 : Int)].getD (((1 : Nat) : Int)).toNat 0).fdiv (size : Int) ≤ 15 := by
              show 0 ≤ (o 1 : Int).fdiv (size : Int) ∧ (o 1 : Int).fdiv (size : Int) ≤ 15
              omega
            k_steps
            · rename _ ∨ _ => hbad
              exact absurd hbad (no_raise hb)
            · unfold Stop
              rename Fr _ _ _ _ => F1
              rename News _ _ _ _ => N1
              rename _ ∧ _ => l1'
              rename (_ : Int).fmod 2 = 1 => hpar
              have hpar : (o 1 / size) % 2 = 1 := by
                have q : ((o 1 : Int).fdiv (size : Int)).fmod 2 = 1 := hpar
                rw [hqs.1, Int.fmod_eq_emod_of_nonneg _ (by decide)] at q
                omega
              rw [letters_item hb.1 hb.2] at N1
              refine due_app F1 N1 (by omega) (Nat.ne_of_gt l1'.2.2.1) (fun e => hnI _ (.head _) e.symm) hne hTT ?_
              intro h9 n9 F9 N9
              k_steps
              refine ⟨_, _, _, _, rfl, F9, N9, ?_, _, _, _, ⟨rfl, trivial⟩, rfl, fun p hp => List.mem_append_left _ (hT0 p hp), hTT.one rfl, ?_, hne⟩
              · intro p hp
                rcases List.mem_cons.mp hp with rfl | hp
                · have z9 := hnI _ (.head _)
                  exact z9
                · exact due_off hnI l1'.2.1 hp
              · have z : (⟨#[65 + (([(o 0 : Int), (o 1 : Int), (o 2 : Int)].getD (((1 : Nat) : Int)).toNat 0).fdiv (size : Int)).toNat]⟩ : PySem.Str) = let65 (o 1 / size) := by
                  show (⟨#[65 + ((o 1 : Int).fdiv (size : Int)).toNat]⟩ : PySem.Str) = _
                  rw [hqs.1]; rfl
                rw [hnx, show dueP o size 1 = (upOf 1, let65 (o 1 / size)) from congrArg (·, let65 (o 1 / size)) (if_pos hpar), ← z]
                exact PairsIn.app (hP.led fun q hq => List.mem_append_left _ hq) (PairsIn.cons (List.mem_append_right _ (.head _)) PairsIn.nil)
            · rename _ ∨ _ => hbad
              exact absurd hbad (no_raise hb)
            · unfold Stop
              rename Fr _ _ _ _ => F1
              rename News _ _ _ _ => N1
              rename _ ∧ _ => l1'
              rename (_ : Int).fmod 2 ≠ 1 => hpar
              have hpar : ¬ (o 1 / size) % 2 = 1 := by
                have q : ¬ ((o 1 : Int).fdiv (size : Int)).fmod 2 = 1 := hpar
                rw [hqs.1, Int.fmod_eq_emod_of_nonneg _ (by decide)] at q
                omega
              rw [letters_item hb.1 hb.2] at N1
              refine due_app F1 N1 (by omega) (Nat.ne_of_gt l1'.2.2.1) (fun e => hnI _ (.head _) e.symm) hne hTT ?_
              intro h9 n9 F9 N9
              k_steps
              refine ⟨_, _, _, _, rfl, F9, N9, ?_, _, _, _, ⟨rfl, trivial⟩, rfl, fun p hp => List.mem_append_left _ (hT0 p hp), hTT.one rfl, ?_, hne⟩
              · intro p hp
                rcases List.mem_cons.mp hp with rfl | hp
                · have z9 := hnI _ (.head _)
                  exact z9
                · exact due_off hnI l1'.2.1 hp
              · have z : (⟨#[65 + (([(o 0 : Int), (o 1 : Int), (o 2 : Int)].getD (((1 : Nat) : Int)).toNat 0).fdiv (size : Int)).toNat]⟩ : PySem.Str) = let65 (o 1 / size) := by
                  show (⟨#[65 + ((o 1 : Int).fdiv (size : Int)).toNat]⟩ : PySem.Str) = _
                  rw [hqs.1]; rfl
                rw [hnx, show dueP o size 1 = (lowOf 1, let65 (o 1 / size)) from congrArg (·, let65 (o 1 / size)) (if_neg hpar), ← z]
                exact PairsIn.app (hP.led fun q hq => List.mem_append_left _ hq) (PairsIn.cons (List.mem_append_right _ (.head _)) PairsIn.nil)
          · have hb : 0 ≤ ([(o 0 : Int), (o 1 : Int), (o 2 : Int)].getD (((2 : Nat) : Int)).toNat 0).fdiv (size : Int) ∧ ([(o 0 : Int), (o 1 : Int), (o 2 : Int)].getD (((2 : Nat) : Int)).toNat 0).fdiv (size : Int) ≤ 15 := by
              show 0 ≤ (o 2 : Int).fdiv (size : Int) ∧ (o 2 : Int).fdiv (size : Int) ≤ 15
              omega
            k_steps
            · rename _ ∨ _ => hbad
              exact absurd hbad (no_raise hb)
            · unfold Stop
              rename Fr _ _ _ _ => F1
              rename News _ _ _ _ => N1
              rename _ ∧ _ => l1'
              rename (_ : Int).fmod 2 = 1 => hpar
              have hpar : (o 2 / size) % 2 = 1 := by
                have q : ((o 2 : Int).fdiv (size : Int)).fmod 2 = 1 := hpar
                rw [hqs.1, Int.fmod_eq_emod_of_nonneg _ (by decide)] at q
                omega
              rw [letters_item hb.1 hb.2] at N1
              refine due_app F1 N1 (by omega) (Nat.ne_of_gt l1'.2.2.1) (fun e => hnI _ (.head _) e.symm) hne hTT ?_
              intro h9 n9 F9 N9
              k_steps
              refine ⟨_, _, _, _, rfl, F9, N9, ?_, _, _, _, ⟨rfl, trivial⟩, rfl, fun p hp => List.mem_append_left _ (hT0 p hp), hTT.one rfl, ?_, hne⟩
              · intro p hp
                rcases List.mem_cons.mp hp with rfl | hp
                · have z9 := hnI _ (.head _)
                  exact z9
                · exact due_off hnI l1'.2.1 hp
              · have z : (⟨#[65 + (([(o 0 : Int), (o 1 : Int), (o 2 : Int)].getD (((2 : Nat) : Int)).toNat 0).fdiv (size : Int)).toNat]⟩ : PySem.Str) = let65 (o 2 / size) := by
                  show (⟨#[65 + ((o 2 : Int).fdiv (size : Int)).toNat]⟩ : PySem.Str) = _
                  rw [hqs.1]; rfl
                rw [hnx, show dueP o size 2 = (upOf 2, let65 (o 2 / size)) from congrArg (·, let65 (o 2 / size)) (if_pos hpar), ← z]
                exact PairsIn.app (hP.led fun q hq => List.mem_append_left _ hq) (PairsIn.cons (List.mem_append_right _ (.head _)) PairsIn.nil)
            · rename _ ∨ _ => hbad
              exact absurd hbad (no_raise hb)
            · unfold Stop
              rename Fr _ _ _ _ => F1
              rename News _ _ _ _ => N1
              rename _ ∧ _ => l1'
              rename (_ : Int).fmod 2 ≠ 1 => hpar
              have hpar : ¬ (o 2 / size) % 2 = 1 := by
                have q : ¬ ((o 2 : Int).fdiv (size : Int)).fmod 2 = 1 := hpar
                rw [hqs.1, Int.fmod_eq_emod_of_nonneg _ (by decide)] at q
                omega
              rw [letters_item hb.1 hb.2] at N1
              refine due_app F1 N1 (by omega) (Nat.ne_of_gt l1'.2.2.1) (fun e => hnI _ (.head _) e.symm) hne hTT ?_
              intro h9 n9 F9 N9
              k_steps
              refine ⟨_, _, _, _, rfl, F9, N9, ?_, _, _, _, ⟨rfl, trivial⟩, rfl, fun p hp => List.mem_append_left _ (hT0 p hp), hTT.one rfl, ?_, hne⟩
              · intro p hp
                rcases List.mem_cons.mp hp with rfl | hp
                · have z9 := hnI _ (.head _)
                  exact z9
                · exact due_off hnI l1'.2.1 hp
              · have z : (⟨#[65 + (([(o 0 : Int), (o 1 : Int), (o 2 : Int)].getD (((2 : Nat) : Int)).toNat 0).fdiv (size : Int)).toNat]⟩ : PySem.Str) = let65 (o 2 / size) := by
                  show (⟨#[65 + ((o 2 : Int).fdiv (size : Int)).toNat]⟩ : PySem.Str) = _
                  rw [hqs.1]; rfl
                rw [hnx, show dueP o size 2 = (lowOf 2, let65 (o 2 / size)) from congrArg (·, let65 (o 2 / size)) (if_neg hpar), ← z]
                exact PairsIn.app (hP.led fun q hq => List.mem_append_left _ hq) (PairsIn.cons (List.mem_append_right _ (.head _)) PairsIn.nil)
        case done4 =>
          clear F5 N6
          rintro h tk m news ⟨xs, n, T, hm, rfl, hT0, hTT, hP, hne⟩ F N
          replace F := fr_bd F _ hm
          dsimp only [bd] at F
          k_steps
          show R _ _
          rw [List.take_length] at hP
          rw [hJ3.1] at hks
          refine hR _ _ _ xs n ks (stays_of hs hn F.keep fun p hp => N p (by rw [List.mem_singleton.mp hp]; exact .tail _ (.tail _ (.tail _ (.tail _ (.tail _ (.head _))))))) (N _ (.head _)).1 (none_of hs (N _ (.head _)).2.2 fun hb => ?_) (hP.at F fun p hp => N p (.tail _ (.tail _ (.tail _ (.tail _ (.tail _ (.tail _ hp))))))) hks
          exact hne.2.2.2.2 (List.mem_singleton.mp hb).symm
theorem c_dueC {w : World} {loose : List PySem.Str} {mean : ExcName → Option Value} {mg mb : PySem.Str → Option Value} {s : Shared} {h₀ : Heap} {L : Addr} {m : PySem.Str → Option Value} {news : List (Addr × Obj)} {A' : Around} (F : Fr h₀ L s.heap m) (N : News h₀ L s.heap news) (X : (Mine.frag.heap_1 w.params).In h₀) (T : Top Mine.view loose mean mg mb h₀) (hA : A'.handled = none) (hAd : A'.depth ≤ 300 + 20 * 4) (hAu : A'.units ≤ 1000 * 4) {lo : Addr} {no : Nat} {u0 u1 u2 : Tok} {o : Nat → Nat} {size : Nat} {ts : Tok} {Q : Value → Shared → Prop}
  (hm : (lo, listOf #[.int (o 0) u0, .int (o 1) u1, .int (o 2) u2] no) ∈ news) (ho : o 0 ≤ 15 ∧ o 1 ≤ 15 ∧ o 2 ≤ 15) (hs1 : 1 ≤ size) (hs2 : size ≤ 16)
  (hQ : ∀ h' tk D xs n' ks, Fr h₀ L h' m → News h₀ L h' ((D, listOf xs.toArray n') :: news) → AllNe D news → s.heap.StaysIn h' → PairsAt h' xs (due1 o size 3 ++ due2 o size 3 ++ ks.map (fun j => dueP o size ((served o size 3).getD j 0))) → DueOrd o size ks → Q (.ref D) { s with heap := h', toks := tk }) :
  wpAny (model PySem.Challenge.rw_ta0081_01.row.prog w) A' (call (.ref 260) [.ref lo, .int (size : Int) ts]) Q NoE s := by
  refine lift_A (A := AC 4) (wpAny_call (c_due w loose mean mg mb s h₀ X T F.keep lo no u0 u1 u2 o size ts _ (fun q hq => by rw [List.mem_singleton.mp hq]; exact ⟨(N _ hm).1, (N _ hm).2.2⟩) ho.1 ho.2.1 ho.2.2 hs1 hs2 fun h' tk D xs n' ks hst hD hD0 hP hks => ?_)) hA.symm hAd hAu rfl rfl
  refine hQ h' tk D xs n' ks (fr_stay F hst) (fun p hp => ?_) (allNe_of (news_ne N hD0)) hst hP hks
  rcases List.mem_cons.mp hp with rfl | hp
  · refine ⟨hD, fr_ne F hD0, ?_⟩
    cases q : h₀.get? D with
    | none => rfl
    | some o => rw [F.keep _ _ q] at hD0; cases hD0
  · exact news_stay N hst p hp
end DUt
section LPt
/-- the number of the votes, its three digits, the blanks behind -/
def num (tot : Nat) : Nat := 256 + (tot + 1619) % 3840
def own (tot : Nat) : Nat → Nat
  | 0 => num tot / 256
  | 1 => num tot / 16 % 16
  | _ => num tot % 16
def spare (tot : Nat) : Nat := tot / 3840 % 3
theorem num_eq (tot : Nat) : (256 + ((tot : Int) + 1619).fmod 3840) = ((num tot : Nat) : Int) := by
  unfold num
  rw [Int.fmod_eq_emod_of_nonneg _ (by decide)]
  omega
theorem own0_eq (tot : Nat) : ((num tot : Nat) : Int).fdiv 256 = ((own tot 0 : Nat) : Int) := (Int.ofNat_fdiv (num tot) 256).symm
theorem own1_eq (tot : Nat) : (((num tot : Nat) : Int).fdiv 16).fmod 16 = ((own tot 1 : Nat) : Int) := by
  rw [Int.fmod_eq_emod_of_nonneg _ (by decide), show ((num tot : Nat) : Int).fdiv 16 = ((num tot / 16 : Nat) : Int) from (Int.ofNat_fdiv (num tot) 16).symm]
  rfl
theorem own2_eq (tot : Nat) : ((num tot : Nat) : Int).fmod 16 = ((own tot 2 : Nat) : Int) := by
  rw [Int.fmod_eq_emod_of_nonneg _ (by decide)]
  rfl
theorem spare_eq (tot : Nat) : ((tot : Int).fdiv 3840).fmod 3 = ((spare tot : Nat) : Int) := by
  rw [Int.fmod_eq_emod_of_nonneg _ (by decide), show ((tot : Nat) : Int).fdiv 3840 = ((tot / 3840 : Nat) : Int) from (Int.ofNat_fdiv tot 3840).symm]
  rfl
theorem num_lo (tot : Nat) : 256 ≤ num tot ∧ num tot < 4096 := by unfold num; omega
theorem own_le (tot : Nat) : own tot 0 ≤ 15 ∧ own tot 1 ≤ 15 ∧ own tot 2 ≤ 15 ∧ 1 ≤ own tot 0 := by
  have h := num_lo tot
  show num tot / 256 ≤ 15 ∧ num tot / 16 % 16 ≤ 15 ∧ num tot % 16 ≤ 15 ∧ 1 ≤ num tot / 256
  omega
theorem ap_three (tot : Nat) : (⟨((apN (num tot)).map (·.toNat)).toArray⟩ : PySem.Str) = ⟨#[65 + own tot 0, 65 + own tot 1, 65 + own tot 2]⟩ := by
  have h := num_lo tot
  have h2 := own_le tot
  rw [apN_pos (by omega), apN_pos (by omega : num tot / 16 ≠ 0), show num tot / 16 / 16 = own tot 0 from (by show num tot / 16 / 16 = num tot / 256; omega), apN_one h2.2.2.2 h2.1]
  have e : ∀ k, k ≤ 15 → (UInt8.ofNat (65 + k)).toNat = 65 + k := fun k hk => by rw [UInt8.toNat_ofNat']; omega
  simp only [List.map_append, List.map_cons, List.map_nil]
  rw [e _ h2.1, e _ (by omega), e _ (by omega)]
  rfl
/-- what a seat of a party costs -/
def P (o : Nat → Nat) (k s : Nat) : Nat := o k * 720720 / s
theorem price_P (o sv : Nat → Nat) (k : Nat) : price o sv k = ((P o k (sv k + 1) : Nat) : Int) := by
  unfold price P
  rw [show ((o k : Int) * 720720) = ((o k * 720720 : Nat) : Int) by omega, show ((sv k : Int) + 1) = ((sv k + 1 : Nat) : Int) by omega]
  exact (Int.ofNat_fdiv _ _).symm
theorem P_down (o : Nat → Nat) (k s : Nat) (h : 1 ≤ s) : P o k (s + 1) ≤ P o k s := Nat.div_le_div_left (by omega) (by omega)
theorem P_ge (o : Nat → Nat) (k s d : Nat) (hs : 1 ≤ s) : d * 720720 ≤ P o k s ↔ d * s ≤ o k := by
  unfold P
  rw [Nat.le_div_iff_mul_le (by omega)]
  constructor
  · intro h
    have : (d * s) * 720720 ≤ o k * 720720 := by rw [show (d * s) * 720720 = d * 720720 * s by rw [Nat.mul_assoc, Nat.mul_comm s, ← Nat.mul_assoc]]; exact h
    omega
  · intro h
    rw [show d * 720720 * s = (d * s) * 720720 by rw [Nat.mul_assoc, Nat.mul_comm 720720, ← Nat.mul_assoc]]
    exact Nat.mul_le_mul_right _ h
def Lx (o sv : Nat → Nat) (k j : Nat) : Prop := P o j (sv j) < P o k (sv k) ∨ (P o j (sv j) = P o k (sv k) ∧ k < j)
/-- the seats of the three -/
def total (sv : Nat → Nat) : Nat := sv 0 + sv 1 + sv 2
def upd (sv : Nat → Nat) (k : Nat) : Nat → Nat := fun j => if j = k then sv k + 1 else sv j
theorem upd_self (sv : Nat → Nat) (k : Nat) : upd sv k k = sv k + 1 := if_pos rfl
theorem upd_ne (sv : Nat → Nat) {k j : Nat} (h : j ≠ k) : upd sv k j = sv j := if_neg h
theorem total_upd (sv : Nat → Nat) {k : Nat} (hk : k < 3) : total (upd sv k) = total sv + 1 := by
  obtain rfl | rfl | rfl : k = 0 ∨ k = 1 ∨ k = 2 := by omega
  · show (sv 0 + 1) + sv 1 + sv 2 = _; unfold total; omega
  · show sv 0 + (sv 1 + 1) + sv 2 = _; unfold total; omega
  · show sv 0 + sv 1 + (sv 2 + 1) = _; unfold total; omega
structure Inv (o sv : Nat → Nat) (ord : List Nat) : Prop where
  mem : ∀ k, k ∈ ord ↔ (k < 3 ∧ 1 ≤ sv k)
  srt : ord.Pairwise (Lx o sv)
  head : ∀ k ∈ ord, ∀ j, j < 3 → P o j (sv j + 1) < P o k (sv k) ∨ (P o j (sv j + 1) = P o k (sv k) ∧ k ≤ j)
  len : ord.length ≤ total sv
theorem Inv.zero (o : Nat → Nat) : Inv o (fun _ => 0) [] := ⟨fun k => ⟨fun h => (nomatch h), fun h => absurd h.2 (by omega)⟩, .nil, fun k h => (nomatch h), Nat.zero_le _⟩
theorem Inv.award {o sv : Nat → Nat} {ord : List Nat} {k : Nat} (x : Inv o sv ord) (hk : k < 3) (h1 : ∀ j, j < 3 → P o j (sv j + 1) ≤ P o k (sv k + 1)) (h2 : ∀ j, j < k → P o j (sv j + 1) < P o k (sv k + 1)) :
    Inv o (upd sv k) (ord.filter (fun j => decide (j ≠ k)) ++ [k]) := by
  refine ⟨fun j => ?_, ?_, fun i hi j hj => ?_, ?_⟩
  rotate_right
  · rw [total_upd _ hk, List.length_append]
    have := List.length_filter_le (fun j => decide (j ≠ k)) ord
    have := x.len
    simp only [List.length_singleton]
    omega
  · rw [List.mem_append, List.mem_filter, List.mem_singleton, x.mem]
    by_cases e : j = k
    · subst e; rw [upd_self]; simp; omega
    · rw [upd_ne _ e]; simp [e]
  · rw [List.pairwise_append]
    refine ⟨?_, List.pairwise_singleton _ _, ?_⟩
    · have z := x.srt.filter (fun j => decide (j ≠ k))
      refine z.imp_of_mem fun {a b} ha hb hq => ?_
      have ha' : a ≠ k := of_decide_eq_true (List.mem_filter.mp ha).2
      have hb' : b ≠ k := of_decide_eq_true (List.mem_filter.mp hb).2
      unfold Lx at hq ⊢
      rw [upd_ne _ ha', upd_ne _ hb']
      exact hq
    · intro a ha b hb
      obtain rfl := List.mem_singleton.mp hb
      have ha' : a ≠ b := of_decide_eq_true (List.mem_filter.mp ha).2
      have := x.head a (List.mem_filter.mp ha).1 b hk
      unfold Lx
      rw [upd_ne _ ha', upd_self]
      omega
  · rcases List.mem_append.mp hi with hi | hi
    · have hi' : i ≠ k := of_decide_eq_true (List.mem_filter.mp hi).2
      have z1 := x.head i (List.mem_filter.mp hi).1 j hj
      have z2 := x.head i (List.mem_filter.mp hi).1 k hk
      rw [upd_ne _ hi']
      by_cases e : j = k
      · rw [e, upd_self]
        have := P_down o k (sv k + 1) (by omega)
        omega
      · rw [upd_ne _ e]; exact z1
    · obtain rfl := List.mem_singleton.mp hi
      rw [upd_self]
      by_cases e : j = i
      · rw [e, upd_self]
        have := P_down o i (sv i + 1) (by omega)
        omega
      · rw [upd_ne _ e]
        have z1 := h1 j hj
        by_cases e2 : j < i
        · have := h2 j e2; omega
        · omega
theorem award_within {o sv : Nat → Nat} {d k : Nat} (hd : 1 ≤ d) (hk : k < 3) (h1 : ∀ j, j < 3 → P o j (sv j + 1) ≤ P o k (sv k + 1)) (hw : ∀ j, j < 3 → sv j ≤ o j / d) (hl : total sv < total fun j => o j / d) :
    ∀ j, j < 3 → upd sv k j ≤ o j / d := by
  have : ∃ j, j < 3 ∧ sv j + 1 ≤ o j / d := by
    apply Classical.byContradiction
    intro hn
    have h0 := hw 0 (by omega)
    have g0 : ¬ (sv 0 + 1 ≤ o 0 / d) := fun h => hn ⟨0, by omega, h⟩
    have g1 : ¬ (sv 1 + 1 ≤ o 1 / d) := fun h => hn ⟨1, by omega, h⟩
    have g2 : ¬ (sv 2 + 1 ≤ o 2 / d) := fun h => hn ⟨2, by omega, h⟩
    simp only [total] at hl
    omega
  obtain ⟨j, hj, hs⟩ := this
  have hs' : d * (sv j + 1) ≤ o j := by rw [Nat.mul_comm]; exact (Nat.le_div_iff_mul_le (by omega)).mp hs
  have h3 := (P_ge o j (sv j + 1) d (by omega)).mpr hs'
  have h4 := (P_ge o k (sv k + 1) d (by omega)).mp (Nat.le_trans h3 (h1 j hj))
  intro i hi
  by_cases e : i = k
  · rw [e, upd_self]
    exact (Nat.le_div_iff_mul_le (by omega)).mpr (by rw [Nat.mul_comm]; exact h4)
  · rw [upd_ne _ e]; exact hw i hi
theorem all_of_total {sv tv : Nat → Nat} (hw : ∀ j, j < 3 → sv j ≤ tv j) (h : total sv = total tv) : ∀ j, j < 3 → sv j = tv j := by
  have h0 := hw 0 (by omega)
  have h1 := hw 1 (by omega)
  have h2 := hw 2 (by omega)
  simp only [total] at h
  intro j hj
  obtain rfl | rfl | rfl : j = 0 ∨ j = 1 ∨ j = 2 := by omega
  all_goals omega
/-- the table, told by the seats and the order of the served -/
def un2 (o sv : Nat → Nat) : Nat → List (PySem.Str × PySem.Str)
  | 0 => []
  | i + 1 => un2 o sv i ++ (if sv i < 1 then [(upOf i, let65 (o i))] else [])
def nameOf (s k : Nat) : PySem.Str := if s % 2 = 1 then upOf k else lowOf k
def tabl (o sv : Nat → Nat) (ord : List Nat) : List (PySem.Str × PySem.Str) := due1 sv 1 3 ++ un2 o sv 3 ++ ord.map fun k => (nameOf (sv k) k, let65 (sv k))
theorem low_eq : ∀ i j : Nat, i < 3 → j < 3 → ((Txt.lower (lowOf i) == lowOf j) = decide (i = j) ∧ (Txt.lower (upOf i) == lowOf j) = decide (i = j)) := by
  intro i j hi hj
  obtain rfl | rfl | rfl : i = 0 ∨ i = 1 ∨ i = 2 := by omega
  all_goals obtain rfl | rfl | rfl : j = 0 ∨ j = 1 ∨ j = 2 := by omega
  all_goals exact ⟨by decide +kernel, by decide +kernel⟩
theorem low_name {s k : Nat} (hk : k < 3) : Txt.lower (nameOf s k) = lowOf k := by
  unfold nameOf
  split
  · have := (low_eq k k hk hk).2
    simpa using this
  · have := (low_eq k k hk hk).1
    simpa using this
theorem name_eq {s i j : Nat} (hi : i < 3) (hj : j < 3) : (Txt.lower (nameOf s i) == lowOf j) = decide (i = j) := by
  unfold nameOf
  split
  · exact (low_eq i j hi hj).2
  · exact (low_eq i j hi hj).1
theorem filt1 (sv : Nat → Nat) {k : Nat} (hk : k < 3) : ∀ n, n ≤ 3 → (due1 sv 1 n).filter (fun p => !(Txt.lower p.1 == lowOf k)) = due1 (upd sv k) 1 n
  | 0, _ => rfl
  | n + 1, hn => by
    show List.filter _ (due1 sv 1 n ++ (if sv n < 1 then _ else _)) = due1 (upd sv k) 1 n ++ (if upd sv k n < 1 then _ else _)
    rw [List.filter_append, filt1 sv hk n (by omega)]
    congr 1
    by_cases e : n = k
    · rw [e, upd_self, if_neg (by omega : ¬ sv k + 1 < 1)]
      split
      · rw [List.filter_cons_of_neg (by rw [(low_eq k k hk hk).1]; simp)]; rfl
      · rfl
    · rw [upd_ne _ e]
      split
      · rw [List.filter_cons_of_pos (by rw [(low_eq n k (by omega) hk).1]; simp [e])]; rfl
      · rfl
theorem filt2 (o sv : Nat → Nat) {k : Nat} (hk : k < 3) : ∀ n, n ≤ 3 → (un2 o sv n).filter (fun p => !(Txt.lower p.1 == lowOf k)) = un2 o (upd sv k) n
  | 0, _ => rfl
  | n + 1, hn => by
    show List.filter _ (un2 o sv n ++ (if sv n < 1 then _ else _)) = un2 o (upd sv k) n ++ (if upd sv k n < 1 then _ else _)
    rw [List.filter_append, filt2 o sv hk n (by omega)]
    congr 1
    by_cases e : n = k
    · rw [e, upd_self, if_neg (by omega : ¬ sv k + 1 < 1)]
      split
      · rw [List.filter_cons_of_neg (by rw [(low_eq k k hk hk).2]; simp)]; rfl
      · rfl
    · rw [upd_ne _ e]
      split
      · rw [List.filter_cons_of_pos (by rw [(low_eq n k (by omega) hk).2]; simp [e])]; rfl
      · rfl
theorem filt3 (sv : Nat → Nat) {k : Nat} (hk : k < 3) : ∀ ord : List Nat, (∀ j ∈ ord, j < 3) → (ord.map fun j => (nameOf (sv j) j, let65 (sv j))).filter (fun p => !(Txt.lower p.1 == lowOf k)) = (ord.filter fun j => decide (j ≠ k)).map fun j => (nameOf (upd sv k j) j, let65 (upd sv k j))
  | [], _ => rfl
  | j :: r, h => by
    have ih := filt3 sv hk r fun i hi => h i (.tail _ hi)
    rw [List.map_cons]
    by_cases e : j = k
    · rw [List.filter_cons_of_neg (by rw [name_eq (h j (.head _)) hk]; simp [e]), List.filter_cons_of_neg (by simp [e]), ih]
    · rw [List.filter_cons_of_pos (by rw [name_eq (h j (.head _)) hk]; simp [e]), List.filter_cons_of_pos (by simp [e]), ih, List.map_cons, upd_ne _ e]
/-- what an award makes of the table -/
theorem tabl_award {o sv : Nat → Nat} {ord : List Nat} {k : Nat} (hk : k < 3) (ho : ∀ j ∈ ord, j < 3) :
    (tabl o sv ord).filter (fun p => !(Txt.lower p.1 == Txt.lower (nameOf (sv k + 1) k))) ++ [(nameOf (sv k + 1) k, let65 (sv k + 1))] = tabl o (upd sv k) (ord.filter (fun j => decide (j ≠ k)) ++ [k]) := by
  unfold tabl
  rw [low_name hk, List.filter_append, List.filter_append, filt1 sv hk 3 (by omega), filt2 o sv hk 3 (by omega), filt3 sv hk ord ho, List.map_append, List.append_assoc _ _ [_]]
  simp only [List.map_cons, List.map_nil, upd_self]

theorem un2_len (o sv : Nat → Nat) : ∀ i, (un2 o sv i).length ≤ i
  | 0 => Nat.le_refl _
  | i + 1 => by
    have ih := un2_len o sv i
    show (un2 o sv i ++ (if sv i < 1 then _ else _)).length ≤ i + 1
    rw [List.length_append]
    split <;> simp <;> omega
theorem tabl_len {o sv : Nat → Nat} {ord : List Nat} (x : Inv o sv ord) : (tabl o sv ord).length ≤ 6 + total sv := by
  unfold tabl
  have h1 := due1_len sv 1 3
  have h2 := un2_len o sv 3
  have h3 := x.len
  simp only [List.length_append, List.length_map]
  omega
theorem low_clean : ∀ k, k < 3 → cleanN (lowOf k) ∧ cleanN (upOf k) := by
  intro k hk
  obtain rfl | rfl | rfl : k = 0 ∨ k = 1 ∨ k = 2 := by omega
  all_goals exact ⟨cleanN_of (by decide +kernel), cleanN_of (by decide +kernel)⟩
theorem name_clean {s k : Nat} (hk : k < 3) : cleanN (nameOf s k) := by
  unfold nameOf
  split
  · exact (low_clean k hk).2
  · exact (low_clean k hk).1
theorem due1_clean (sv : Nat → Nat) (d : Nat) : ∀ n, n ≤ 3 → ∀ p ∈ due1 sv d n, cleanN p.1 ∧ cleanV p.2
  | 0, _, _, h => nomatch h
  | n + 1, hn, p, h => by
    rcases List.mem_append.mp (show p ∈ due1 sv d n ++ (if sv n < d then [(lowOf n, ("A" : PySem.Str))] else []) from h) with h | h
    · exact due1_clean sv d n (by omega) p h
    · split at h
      · rw [List.mem_singleton.mp h]; exact ⟨(low_clean n (by omega)).1, let65_clean (n := 0) (by omega)⟩
      · cases h
theorem un2_clean (o sv : Nat → Nat) (ho : ∀ k, k < 3 → o k ≤ 15) : ∀ n, n ≤ 3 → ∀ p ∈ un2 o sv n, cleanN p.1 ∧ cleanV p.2
  | 0, _, _, h => nomatch h
  | n + 1, hn, p, h => by
    rcases List.mem_append.mp (show p ∈ un2 o sv n ++ (if sv n < 1 then [(upOf n, let65 (o n))] else []) from h) with h | h
    · exact un2_clean o sv ho n (by omega) p h
    · split at h
      · rw [List.mem_singleton.mp h]; exact ⟨(low_clean n (by omega)).2, let65_clean (ho n (by omega))⟩
      · cases h
theorem tabl_clean {o sv : Nat → Nat} {ord : List Nat} (ho : ∀ k, k < 3 → o k ≤ 15) (hs : ∀ k, k < 3 → sv k ≤ 15) (hm : ∀ k ∈ ord, k < 3) : ∀ p ∈ tabl o sv ord, cleanN p.1 ∧ cleanV p.2 := by
  intro p hp
  rcases List.mem_append.mp hp with hp | hp
  · rcases List.mem_append.mp hp with hp | hp
    · exact due1_clean sv 1 3 (by omega) p hp
    · exact un2_clean o sv ho 3 (by omega) p hp
  · obtain ⟨k, hk, rfl⟩ := List.mem_map.mp hp
    exact ⟨name_clean (hm k hk), let65_clean (hs k (hm k hk))⟩
/-- two sorted lists of the same things are one -/
theorem sorted_same {α : Type} {r : α → α → Prop} (hi : ∀ a, ¬ r a a) (ha : ∀ a b, r a b → r b a → False) : ∀ {l l' : List α}, l.Pairwise r → l'.Pairwise r → (∀ x, x ∈ l ↔ x ∈ l') → l = l'
  | [], [], _, _, _ => rfl
  | [], b :: u, _, _, h => absurd ((h b).mpr (.head _)) (by simp)
  | a :: t, [], _, _, h => absurd ((h a).mp (.head _)) (by simp)
  | a :: t, b :: u, h1, h2, h => by
    rw [List.pairwise_cons] at h1 h2
    have e : a = b := by
      rcases List.mem_cons.mp ((h a).mp (.head _)) with e | e
      · exact e
      rcases List.mem_cons.mp ((h b).mpr (.head _)) with e' | e'
      · exact e'.symm
      exact (ha a b (h1.1 b e') (h2.1 a e)).elim
    subst e
    congr 1
    refine sorted_same hi ha h1.2 h2.2 fun x => ⟨fun hx => ?_, fun hx => ?_⟩
    · rcases List.mem_cons.mp ((h x).mp (.tail _ hx)) with e | e
      · exact absurd (h1.1 x hx) (by rw [e]; exact hi a)
      · exact e
    · rcases List.mem_cons.mp ((h x).mpr (.tail _ hx)) with e | e
      · exact absurd (h2.1 x hx) (by rw [e]; exact hi a)
      · exact e
theorem served_iff {o : Nat → Nat} {d : Nat} : ∀ {n k}, k ∈ served o d n ↔ (k < n ∧ d ≤ o k)
  | 0, k => ⟨fun h => (nomatch h), fun h => absurd h.1 (by omega)⟩
  | n + 1, k => by
    refine ⟨served_mem, fun h => ?_⟩
    show k ∈ served o d n ++ (if d ≤ o n then [n] else [])
    by_cases e : k = n
    · subst e; rw [if_pos h.2]; exact List.mem_append_right _ (.head _)
    · exact List.mem_append_left _ (served_iff.mpr ⟨by omega, h.2⟩)
theorem served_srt {o : Nat → Nat} {d : Nat} : ∀ n, (served o d n).Pairwise (· < ·)
  | 0 => .nil
  | n + 1 => by
    show (served o d n ++ (if d ≤ o n then [n] else [])).Pairwise (· < ·)
    rw [List.pairwise_append]
    refine ⟨served_srt n, ?_, fun a ha b hb => ?_⟩
    · split
      · exact List.pairwise_singleton _ _
      · exact .nil
    · split at hb
      · rw [List.mem_singleton.mp hb]; exact (served_mem ha).1
      · cases hb
theorem cost_P {o : Nat → Nat} {d k : Nat} : cost o d k = - ((P o k (o k / d) : Nat) : Int) := by
  unfold cost P
  rw [show Int.fdiv (o k : Int) (d : Int) = ((o k / d : Nat) : Int) from (Int.ofNat_fdiv _ _).symm, show ((o k : Int) * 720720) = ((o k * 720720 : Nat) : Int) by omega,
    show Int.fdiv ((o k * 720720 : Nat) : Int) ((o k / d : Nat) : Int) = ((o k * 720720 / (o k / d) : Nat) : Int) from (Int.ofNat_fdiv _ _).symm]
  omega
theorem ord_due {o sv : Nat → Nat} {ord ks : List Nat} {d : Nat} (hd : 1 ≤ d) (x : Inv o sv ord) (hs : ∀ j, j < 3 → sv j = o j / d) (hks : DueOrd o d ks) : ord = ks.map fun j => (served o d 3).getD j 0 := by
  have hlt : ∀ i ∈ ks, i < (served o d 3).length := fun i hi => List.mem_range.mp ((hks.1.mem_iff).mp hi)
  have hget : ∀ i, i < (served o d 3).length → (served o d 3).getD i 0 ∈ served o d 3 := fun i hi => by
    rw [List.getD_eq_getElem?_getD, List.getElem?_eq_getElem hi]; exact List.getElem_mem _
  refine sorted_same (r := Lx o sv) (fun a h => ?_) (fun a b h h' => ?_) x.srt ?_ fun k => ?_
  · unfold Lx at h; omega
  · unfold Lx at h h'; omega
  · rw [List.pairwise_map]
    have hnd : ks.Nodup := (hks.1.nodup_iff).mpr List.nodup_range
    refine (hks.2.and hnd).imp_of_mem fun {i j} hi hj hq => ?_
    obtain ⟨hq, hne⟩ := hq
    have gi := served_mem (hget i (hlt i hi))
    have gj := served_mem (hget j (hlt j hj))
    have hdist : (served o d 3).getD i 0 ≠ (served o d 3).getD j 0 := by
      intro e
      have hw := List.pairwise_iff_getElem.mp (served_srt (o := o) (d := d) 3)
      rw [List.getD_eq_getElem?_getD, List.getD_eq_getElem?_getD, List.getElem?_eq_getElem (hlt i hi), List.getElem?_eq_getElem (hlt j hj)] at e
      have e : (served o d 3)[i]'(hlt i hi) = (served o d 3)[j]'(hlt j hj) := e
      rcases Nat.lt_or_gt_of_ne hne with h | h
      · have := hw i j (hlt i hi) (hlt j hj) h; omega
      · have := hw j i (hlt j hj) (hlt i hi) h; omega
    have hq := lexP_not.mp hq
    rw [cost_P, cost_P] at hq
    unfold Lx
    rw [hs _ gi.1, hs _ gj.1]
    omega
  · rw [x.mem]
    constructor
    · rintro ⟨h3, h1⟩
      rw [hs k h3] at h1
      have hm : k ∈ served o d 3 := served_iff.mpr ⟨h3, (Nat.one_le_div_iff (by omega)).mp h1⟩
      obtain ⟨i, hi, e⟩ := List.getElem_of_mem hm
      refine List.mem_map.mpr ⟨i, (hks.1.mem_iff).mpr (List.mem_range.mpr hi), ?_⟩
      rw [List.getD_eq_getElem?_getD, List.getElem?_eq_getElem hi]
      exact e
    · intro h
      obtain ⟨i, hi, rfl⟩ := List.mem_map.mp h
      have g := served_mem (hget i (hlt i hi))
      exact ⟨g.1, by rw [hs _ g.1]; exact (Nat.one_le_div_iff (by omega)).mpr g.2⟩
theorem due1_same {o sv : Nat → Nat} {d : Nat} (hd : 1 ≤ d) (hs : ∀ j, j < 3 → sv j = o j / d) : ∀ n, n ≤ 3 → due1 sv 1 n = due1 o d n ∧ un2 o sv n = due2 o d n
  | 0, _ => ⟨rfl, rfl⟩
  | n + 1, hn => by
    have ih := due1_same hd hs n (by omega)
    have e : (sv n < 1) ↔ (o n < d) := by
      rw [hs n (by omega)]
      have := Nat.one_le_div_iff (a := o n) (b := d) (by omega)
      omega
    refine ⟨?_, ?_⟩
    · show due1 sv 1 n ++ (if sv n < 1 then _ else _) = due1 o d n ++ (if o n < d then _ else _)
      rw [ih.1]
      by_cases h : o n < d
      · rw [if_pos h, if_pos (e.mpr h)]
      · rw [if_neg h, if_neg fun q => h (e.mp q)]
    · show un2 o sv n ++ (if sv n < 1 then _ else _) = due2 o d n ++ (if o n < d then _ else _)
      rw [ih.2]
      by_cases h : o n < d
      · rw [if_pos h, if_pos (e.mpr h)]
      · rw [if_neg h, if_neg fun q => h (e.mp q)]
/-- at a tab size the table is what is due -/
theorem tabl_due {o sv : Nat → Nat} {ord ks : List Nat} {d : Nat} (hd : 1 ≤ d) (x : Inv o sv ord) (hs : ∀ j, j < 3 → sv j = o j / d) (hks : DueOrd o d ks) :
    tabl o sv ord = due1 o d 3 ++ due2 o d 3 ++ ks.map fun j => dueP o d ((served o d 3).getD j 0) := by
  have h1 := due1_same hd hs 3 (by omega)
  unfold tabl
  rw [h1.1, h1.2]
  congr 1
  rw [ord_due hd x hs hks, List.map_map]
  refine List.map_congr_left fun i hi => ?_
  have hi' : i < (served o d 3).length := List.mem_range.mp ((hks.1.mem_iff).mp hi)
  have g : (served o d 3).getD i 0 < 3 := (served_mem (by rw [List.getD_eq_getElem?_getD, List.getElem?_eq_getElem hi']; exact List.getElem_mem _ : (served o d 3).getD i 0 ∈ served o d 3)).1
  show (nameOf (sv _) _, let65 (sv _)) = dueP o d _
  rw [hs _ g]
  rfl
theorem tget_app {n : PySem.Str} {a b : List (PySem.Str × PySem.Str)} : tget (a ++ b) n = (tget a n).or (tget b n) := by
  unfold tget
  rw [List.find?_append]
  cases List.find? (fun p => Txt.lower p.1 == n) a <;> rfl
theorem tget_one {n : PySem.Str} {p : PySem.Str × PySem.Str} : tget [p] n = if (Txt.lower p.1 == n) = true then some p.2 else none := by
  unfold tget
  rw [List.find?_cons]
  split
  · rename_i h; rw [if_pos h]; rfl
  · rename_i h; rw [if_neg (by rw [h]; decide)]; rfl
theorem tget_due1 {sv : Nat → Nat} {k : Nat} (hk : k < 3) : ∀ n, n ≤ 3 → tget (due1 sv 1 n) (lowOf k) = if k < n ∧ sv k < 1 then some ("A" : PySem.Str) else (none : Option PySem.Str)
  | 0, _ => by rw [if_neg (by omega)]; rfl
  | n + 1, hn => by
    show tget (due1 sv 1 n ++ (if sv n < 1 then [(lowOf n, ("A" : PySem.Str))] else [])) _ = _
    rw [tget_app, tget_due1 hk n (by omega)]
    by_cases h : k < n ∧ sv k < 1
    · rw [if_pos h, if_pos (show k < n + 1 ∧ sv k < 1 from ⟨by omega, h.2⟩)]; rfl
    · rw [if_neg h]
      by_cases h1 : sv n < 1
      · rw [if_pos h1, tget_one, (low_eq n k (by omega) hk).1]
        by_cases e : n = k
        · subst e; rw [if_pos (by simp), if_pos ⟨by omega, h1⟩]; rfl
        · rw [if_neg (by simp [e]), if_neg (by omega)]; rfl
      · rw [if_neg h1, if_neg (fun q => h ⟨Nat.lt_of_le_of_ne (Nat.le_of_lt_succ q.1) (fun z => h1 (by rw [← z]; exact q.2)), q.2⟩)]
        rfl
theorem tget_un2 {o sv : Nat → Nat} {k : Nat} (hk : k < 3) (hs : 1 ≤ sv k) : ∀ n, n ≤ 3 → tget (un2 o sv n) (lowOf k) = none
  | 0, _ => rfl
  | n + 1, hn => by
    show tget (un2 o sv n ++ (if sv n < 1 then [(upOf n, let65 (o n))] else [])) _ = _
    rw [tget_app, tget_un2 hk hs n (by omega)]
    by_cases h1 : sv n < 1
    · rw [if_pos h1, tget_one, (low_eq n k (by omega) hk).2, if_neg (by simp; rintro rfl; omega)]; rfl
    · rw [if_neg h1]; rfl
theorem tget_ord {sv : Nat → Nat} {k : Nat} (hk : k < 3) : ∀ ord : List Nat, (∀ j ∈ ord, j < 3) → k ∈ ord → tget (ord.map fun j => (nameOf (sv j) j, let65 (sv j))) (lowOf k) = some (let65 (sv k))
  | [], _, h => nomatch h
  | j :: r, hj, h => by
    show tget ([(nameOf (sv j) j, let65 (sv j))] ++ r.map fun j => (nameOf (sv j) j, let65 (sv j))) (lowOf k) = _
    rw [tget_app, tget_one, name_eq (hj j (.head _)) hk]
    by_cases e : j = k
    · subst e; rw [if_pos (by simp)]; rfl
    · rw [if_neg (by simp [e])]
      refine (tget_ord hk r (fun i hi => hj i (.tail _ hi)) ?_)
      rcases List.mem_cons.mp h with h | h
      · exact absurd h.symm e
      · exact h
/-- the table tells the seats -/
theorem tabl_get {o sv : Nat → Nat} {ord : List Nat} (x : Inv o sv ord) {k : Nat} (hk : k < 3) : tget (tabl o sv ord) (lowOf k) = some (let65 (sv k)) := by
  unfold tabl
  rw [tget_app, tget_app, tget_due1 hk 3 (by omega)]
  by_cases h : sv k < 1
  · rw [if_pos ⟨hk, h⟩, show sv k = 0 by omega]
    rfl
  · rw [if_neg (by omega), tget_un2 hk (by omega) 3 (by omega), tget_ord hk ord (fun j hj => ((x.mem j).mp hj).1) ((x.mem k).mpr ⟨hk, by omega⟩)]
    rfl
theorem tabl_zero (o : Nat → Nat) : tabl o (fun _ => 0) [] = [(lowOf 0, ("A" : PySem.Str)), (lowOf 1, ("A" : PySem.Str)), (lowOf 2, ("A" : PySem.Str)), (upOf 0, let65 (o 0)), (upOf 1, let65 (o 1)), (upOf 2, let65 (o 2))] := rfl
theorem own3 (o : Nat → Nat) (d : Nat) : (([o 0, o 1, o 2].map (· / d)).sum + [o 0, o 1, o 2].length) = (total fun k => o k / d) + 3 := by
  simp only [List.map_cons, List.map_nil, List.sum_cons, List.sum_nil, List.length_cons, List.length_nil, total]
  omega
theorem col_div (o : Nat → Nat) (s d : Nat) (hd : 1 ≤ d) : Int.fdiv ((s : Int) + ((lcol [o 0, o 1, o 2] d : Nat) : Int) - (s : Int)) (d : Int) = (((total fun k => o k / d) + 3 : Nat) : Int) ∧ Int.fmod ((s : Int) + ((lcol [o 0, o 1, o 2] d : Nat) : Int) - (s : Int)) (d : Int) = 0 := by
  unfold lcol
  rw [own3, show ((s : Int) + ((d * ((total fun k => o k / d) + 3) : Nat) : Int) - (s : Int)) = ((d * ((total fun k => o k / d) + 3) : Nat) : Int) by omega]
  constructor
  · rw [show Int.fdiv ((d * ((total fun k => o k / d) + 3) : Nat) : Int) (d : Int) = ((d * ((total fun k => o k / d) + 3) / d : Nat) : Int) from (Int.ofNat_fdiv _ _).symm, Nat.mul_div_cancel_left _ (by omega)]
  · rw [Int.fmod_eq_emod_of_nonneg _ (by omega), Int.natCast_mul, Int.mul_emod_right]
/-- an award, told plainly -/
theorem award_plain {o sv : Nat → Nat} {ord : List Nat} {d : Nat} (x : Inv o sv ord) (ho : ∀ k, k < 3 → o k ≤ 15) (hd : 1 ≤ d) (hw : ∀ j, j < 3 → sv j ≤ o j / d) (hl : total sv < total fun j => o j / d) :
    ∃ k : Nat, k < 3 ∧ awStep o sv 3 = ((k : Int), (sv k : Int) + 1, price o sv k) ∧ sv k + 1 ≤ 15 ∧ Inv o (upd sv k) (ord.filter (fun j => decide (j ≠ k)) ++ [k]) ∧ ∀ j, j < 3 → upd sv k j ≤ o j / d := by
  obtain ⟨k, hk, e, h1, h2⟩ := aw_ok o sv 2
  have h1' : ∀ j, j < 3 → P o j (sv j + 1) ≤ P o k (sv k + 1) := fun j hj => by
    have := h1 j (by omega); rw [price_P, price_P] at this; omega
  have h2' : ∀ j, j < k → P o j (sv j + 1) < P o k (sv k + 1) := fun j hj => by
    have := h2 j hj; rw [price_P, price_P] at this; omega
  have hu := award_within hd (by omega : k < 3) h1' hw hl
  refine ⟨k, by omega, e, ?_, x.award (by omega) h1' h2', hu⟩
  have := hu k (by omega)
  rw [upd_self] at this
  have h3 : o k / d ≤ o k := Nat.div_le_self _ _
  have := ho k (by omega)
  omega
theorem sv_le {o sv : Nat → Nat} {d : Nat} (ho : ∀ k, k < 3 → o k ≤ 15) (hw : ∀ j, j < 3 → sv j ≤ o j / d) : ∀ k, k < 3 → sv k ≤ 15 := fun k hk => by
  have h1 := hw k hk
  have h2 : o k / d ≤ o k := Nat.div_le_self _ _
  have := ho k hk
  omega
theorem low_abc : lowOf 0 = "a" ∧ lowOf 1 = "b" ∧ lowOf 2 = "c" := ⟨rfl, rfl, rfl⟩
theorem step_within {o sv : Nat → Nat} {d : Nat} (hd : 1 ≤ d) (h : ∀ k, k < 3 → sv k = o k / (d + 1)) : ∀ k, k < 3 → sv k ≤ o k / d := fun k hk => by
  rw [h k hk]; exact Nat.div_le_div_left (by omega) hd
end LPt
section AXt
theorem c_awardC {w : World} {loose : List PySem.Str} {mean : ExcName → Option Value} {mg mb : PySem.Str → Option Value} {s : Shared} {h₀ : Heap} {L : Addr} {m : PySem.Str → Option Value} {news : List (Addr × Obj)} {A' : Around} (F : Fr h₀ L s.heap m) (N : News h₀ L s.heap news) (X : (Mine.frag.heap_1 w.params).In h₀) (T : Top Mine.view loose mean mg mb h₀) (hA : A'.handled = none) (hAd : A'.depth ≤ 300 + 20 * 4) (hAu : A'.units ≤ 1000 * 4) {x dx l lv : Addr} {vs : List Value} {n nv : Nat} {tbl : List (PySem.Str × PySem.Str)} {k u0 u1 u2 : Tok} {v sv : Nat → Nat} {Q : Value → Shared → Prop} (rest : List (Addr × Obj))
  (hm : ∀ q ∈ hdObjs w.params 244 x dx l k vs n, q ∈ news) (hv' : (lv, listOf #[.int (v 0) u0, .int (v 1) u1, .int (v 2) u2] nv) ∈ news) (hr : ∀ p ∈ rest, p ∈ news ∧ p.1 ≠ l)
  (hp : PairsAt s.heap vs tbl) (hc : ∀ p ∈ tbl, cleanN p.1 ∧ cleanV p.2) (hz : vs.length ≤ 900) (hxd : @Ne Nat dx x) (hld : @Ne Nat l dx) (hlx : @Ne Nat l x) (hlv : @Ne Nat lv l)
  (h0 : tget tbl "a" = some (let65 (sv 0))) (h1 : tget tbl "b" = some (let65 (sv 1))) (h2 : tget tbl "c" = some (let65 (sv 2))) (hv : v 0 ≤ 15 ∧ v 1 ≤ 15 ∧ v 2 ≤ 15) (hs0 : sv 0 ≤ 15 ∧ sv 1 ≤ 15 ∧ sv 2 ≤ 15) (hmax : (awStep v sv 3).2.1 ≤ 15)
  (hQ : ∀ h' tk n' D nm t tv, nm = (if (awStep v sv 3).2.1 % 2 = 1 then upOf (awStep v sv 3).1.toNat else lowOf (awStep v sv 3).1.toNat) → Fr h₀ L h' m →
    News h₀ L h' ((D, tupO [.str nm t, .str (let65 (awStep v sv 3).2.1.toNat) tv]) :: (l, listOf (fpair (fun y => !(Txt.lower y == Txt.lower nm)) vs tbl ++ [Value.ref D]).toArray n') :: rest) → AllNe D news → Q .none { s with heap := h', toks := tk }) :
  wpAny (model PySem.Challenge.rw_ta0081_01.row.prog w) A' (call (.ref 255) [.ref x, .ref lv]) Q NoE s := by
  refine lift_A (A := AC 4) (wpAny_call (c_award w loose mean mg mb s h₀ X T F.keep x dx l lv vs n nv tbl k u0 u1 u2 v sv _ (fun q hq => ?_) hp hc hz hxd hld hlx hlv h0 h1 h2 hv hs0 hmax fun h' tk n' D nm t tv hs hl hD hD0 hnm => ?_)) hA.symm hAd hAu rfl rfl
  · rcases List.mem_append.mp hq with hq | hq
    · exact ⟨(N q (hm q hq)).1, (N q (hm q hq)).2.2⟩
    · rw [List.mem_singleton.mp hq]; exact ⟨(N _ hv').1, (N _ hv').2.2⟩
  obtain ⟨e3, e4, e5⟩ := N _ (hm _ (.tail _ (.tail _ (.head _))))
  refine hQ h' tk n' D nm t tv hnm (after_fr F hs (fun q => e4 (List.mem_singleton.mp q).symm) (fun b hb => by rw [List.mem_singleton.mp hb]; exact e5)) (fun p hp => ?_) (allNe_of (news_ne N hD0))
  rcases List.mem_cons.mp hp with rfl | hp
  · refine ⟨hD, fr_ne F hD0, ?_⟩
    cases q : h₀.get? D with
    | none => rfl
    | some o => rw [F.keep _ _ q] at hD0; cases hD0
  rcases List.mem_cons.mp hp with rfl | hp
  · exact ⟨hl, e4, e5⟩
  · exact after_news (fun q hq => N q (hr q hq).1 : News h₀ L s.heap rest) hs (fun q hq hb => (hr q hq).2 (List.mem_singleton.mp hb)) p hp
end AXt
section AYt
theorem total_le {sv tv : Nat → Nat} (h : ∀ j, j < 3 → sv j ≤ tv j) : total sv ≤ total tv := by
  have h0 := h 0 (by omega)
  have h1 := h 1 (by omega)
  have h2 := h 2 (by omega)
  unfold total
  omega
theorem lawAward {w : World} {loose : List PySem.Str} {mean : ExcName → Option Value} {mg mb : PySem.Str → Option Value} {s : Shared} {h₀ : Heap} {L : Addr} {m : PySem.Str → Option Value} {news : List (Addr × Obj)} {A' : Around} (F : Fr h₀ L s.heap m) (N : News h₀ L s.heap news) (X : (Mine.frag.heap_1 w.params).In h₀) (T : Top Mine.view loose mean mg mb h₀) (hA : A'.handled = none) (hAd : A'.depth ≤ 300 + 20 * 4) (hAu : A'.units ≤ 1000 * 4) {xt dt l lv lo I : Addr} {w1 w2 w3 w4 : Addr × Obj} {co oI : Obj} {Z : List (Addr × Obj)} {vs : List Value} {n nv : Nat} {k u0 u1 u2 : Tok} {o sv : Nat → Nat} {ord : List Nat} {d : Nat} {Q : Value → Shared → Prop}
  (hnews : news = (I, oI) :: (xt, instObj 244 dt) :: (dt, dictOf [strKey w.params "_headers" k (.ref l)] 1) :: (l, listOf vs.toArray n) :: w1 :: w2 :: w3 :: w4 :: (lv, listOf #[.int (o 0) u0, .int (o 1) u1, .int (o 2) u2] nv) :: (lo, co) :: Z)
  (hoff : (@Ne Nat dt xt) ∧ (@Ne Nat l dt) ∧ (@Ne Nat l xt) ∧ (@Ne Nat w1.1 l) ∧ (@Ne Nat w2.1 l) ∧ (@Ne Nat w3.1 l) ∧ (@Ne Nat w4.1 l) ∧ (@Ne Nat lv l) ∧ (@Ne Nat lo l)) (hIl : l ≠ I)
  (hInv : Inv o sv ord) (hP : PairsIn h₀ Z vs (tabl o sv ord)) (hT : AllTup Z) (hall : ∀ k, k < 3 → o k ≤ 15) (hd : 1 ≤ d) (hsd : ∀ j, j < 3 → sv j ≤ o j / d) (hl : total sv < total fun j => o j / d)
  (hQ : ∀ h' tk vs' n' Z' sv' ord', Fr h₀ L h' m → News h₀ L h' ((I, oI) :: (xt, instObj 244 dt) :: (dt, dictOf [strKey w.params "_headers" k (.ref l)] 1) :: (l, listOf vs'.toArray n') :: w1 :: w2 :: w3 :: w4 :: (lv, listOf #[.int (o 0) u0, .int (o 1) u1, .int (o 2) u2] nv) :: (lo, co) :: Z') →
    Inv o sv' ord' → PairsIn h₀ Z' vs' (tabl o sv' ord') → AllTup Z' → (∀ j, j < 3 → sv' j ≤ o j / d) → total sv' = total sv + 1 → (∀ p ∈ Z', p ∈ Z ∨ p.1 ≠ I) → Q .none { s with heap := h', toks := tk }) :
  wpAny (model PySem.Challenge.rw_ta0081_01.row.prog w) A' (call (.ref 255) [.ref xt, .ref lv]) Q NoE s := by
  subst hnews
  obtain ⟨k0, hk0, eA, h15, hInv', hsd'⟩ := award_plain hInv hall hd hsd hl
  have hs := sv_le hall hsd
  have hcl := tabl_clean hall hs (fun k hk => ((hInv.mem k).mp hk).1)
  have hlen : vs.length ≤ 900 := by
    rw [hP.1]
    have h1 := tabl_len hInv
    have h2 := hs 0 (by omega)
    have h3 := hs 1 (by omega)
    have h4 := hs 2 (by omega)
    unfold total at h1
    omega
  have NT : News h₀ L s.heap Z := fun p hp => N p (.tail _ (.tail _ (.tail _ (.tail _ (.tail _ (.tail _ (.tail _ (.tail _ (.tail _ (.tail _ hp))))))))))
  have hTl : ∀ p ∈ Z, p.1 ≠ l := AllTup.ne hT N (fun p hp => .tail _ (.tail _ (.tail _ (.tail _ (.tail _ (.tail _ (.tail _ (.tail _ (.tail _ (.tail _ hp)))))))))) (.tail _ (.tail _ (.tail _ (.head _))))
  have h2m : ((sv k0 : Int) + 1) % 2 = 1 ↔ (sv k0 + 1) % 2 = 1 := by omega
  refine c_awardC (v := o) (sv := sv) (k := k) (n := n) F N X T hA hAd hAu ((I, oI) :: (xt, instObj 244 dt) :: (dt, dictOf [strKey w.params "_headers" k (.ref l)] 1) :: w1 :: w2 :: w3 :: w4 :: (lv, listOf #[.int (o 0) u0, .int (o 1) u1, .int (o 2) u2] nv) :: (lo, co) :: Z) ?hm (.tail _ (.tail _ (.tail _ (.tail _ (.tail _ (.tail _ (.tail _ (.tail _ (.head _))))))))) ?hr (hP.at F NT) hcl hlen hoff.1 hoff.2.1 hoff.2.2.1 hoff.2.2.2.2.2.2.2.1
    (tabl_get hInv (k := 0) (by omega)) (tabl_get hInv (k := 1) (by omega)) (tabl_get hInv (k := 2) (by omega)) ⟨hall 0 (by omega), hall 1 (by omega), hall 2 (by omega)⟩ ⟨hs 0 (by omega), hs 1 (by omega), hs 2 (by omega)⟩ (by rw [eA]; show (sv k0 : Int) + 1 ≤ 15; omega) ?_
  case hm =>
    intro q hq
    simp only [hdObjs, List.mem_cons, List.not_mem_nil, or_false] at hq ⊢
    rcases hq with h | h | h <;> simp [h]
  case hr =>
    intro p hp
    simp only [List.mem_cons] at hp ⊢
    obtain ⟨n1, n2, n3, n4, n5, n6, n7, n8, n9⟩ := hoff
    rcases hp with rfl | rfl | rfl | rfl | rfl | rfl | rfl | rfl | rfl | hp
    · exact ⟨by simp, Ne.symm hIl⟩
    · exact ⟨by simp, Ne.symm n3⟩
    · exact ⟨by simp, Ne.symm n2⟩
    · exact ⟨by simp, n4⟩
    · exact ⟨by simp, n5⟩
    · exact ⟨by simp, n6⟩
    · exact ⟨by simp, n7⟩
    · exact ⟨by simp, n8⟩
    · exact ⟨by simp, n9⟩
    · exact ⟨by simp [hp], hTl p hp⟩
  intro h' tk n' D nm t tv hnm F' N' hD
  rw [eA] at hnm N'
  have hnm' : nm = nameOf (sv k0 + 1) k0 := by
    rw [hnm]
    unfold nameOf
    show (if ((sv k0 : Int) + 1) % 2 = 1 then upOf (k0 : Int).toNat else lowOf (k0 : Int).toNat) = _
    rw [Int.toNat_natCast]
    by_cases e : (sv k0 + 1) % 2 = 1
    · rw [if_pos e, if_pos (h2m.mpr e)]
    · rw [if_neg e, if_neg fun q => e (h2m.mp q)]
  have hseat : ((sv k0 : Int) + 1).toNat = sv k0 + 1 := by omega
  have hDI : D ≠ I := fun e => hD.1 e.symm
  subst hnm'
  refine hQ h' tk (fpair (fun y => !(Txt.lower y == Txt.lower (nameOf (sv k0 + 1) k0))) vs (tabl o sv ord) ++ [Value.ref D]) n' ((D, tupO [.str (nameOf (sv k0 + 1) k0) t, .str (let65 (sv k0 + 1)) tv]) :: Z) (upd sv k0) _ F' (fun p hp => N' p ?_) hInv' ?_ ?_ hsd' (total_upd sv hk0) ?_
  · dsimp only
    rw [hseat]
    simp only [List.mem_cons] at hp ⊢
    rcases hp with h | h | h | h | h | h | h | h | h | h | h | h <;> simp [h]
  · rw [← tabl_award hk0 (fun j hj => ((hInv.mem j).mp hj).1)]
    exact PairsIn.app ((PairsIn.filt hP).led fun q hq => .tail _ hq) (PairsIn.cons (.head _) PairsIn.nil)
  · intro p hp
    rcases List.mem_cons.mp hp with rfl | hp
    · rfl
    · exact hT p hp
  · intro p hp
    rcases List.mem_cons.mp hp with rfl | hp
    · exact .inr hDI
    · exact .inl hp
end AYt
section LWt
local macro_rules | `(tactic| walk_at "exec For") => `(tactic| refine stop ?_)
local macro_rules | `(tactic| walk_at "exec For Name Call cons nil") => `(tactic| refine stop ?_)
local macro_rules | `(tactic| walk_at "exec While") => `(tactic| refine stop ?_)
structure StopIter : Prop where
  ok : True
structure StopHere : Prop where
  ok : True
local macro_rules | `(tactic| walk_at "compareOp NotEq") => `(tactic| refine stop ?_)
local macro_rules | `(tactic| walk_at "compareOp NotEq ref ref") => `(tactic| refine stop ?_)
local macro_rules | `(tactic| walk_at "sub") => `(tactic| first | exact List.forall_mem_nil _ | (refine' List.forall_mem_cons.mpr ⟨?a, ?b⟩; (case a => k_mem); (case b => walk_at "sub")))
local macro_rules | `(tactic| walk_at "CompSrc") => `(tactic| ((have _q : StopHere := by assumption); clear _q; refine stop ?_))
local macro_rules | `(tactic| walk_at "CompEnd") => `(tactic| ((have _q : StopHere := by assumption); clear _q; refine stop ?_))
local macro_rules | `(tactic| walk_at "exec Assign cons ListComp") => `(tactic| ((have _q : StopHere := by assumption); clear _q; refine stop ?_))
local macro_rules | `(tactic| walk_at "pyIter ref") => `(tactic| ((have _q : StopIter := by assumption); clear _q; refine stop ?_))
local macro_rules | `(tactic| walk_at "pyIter") => `(tactic| ((have _q : StopHere := by assumption); clear _q; refine stop ?_))
local macro_rules | `(tactic| walk_at "pyIter ref") => `(tactic| ((have _q : StopHere := by assumption); clear _q; refine stop ?_))
local macro_rules | `(tactic| walk_at "CompRest") => `(tactic| ((have _q : StopHere := by assumption); clear _q; refine stop ?_))
local macro_rules | `(tactic| walk_at "call ref") => `(tactic| refine stop ?_)
local macro_rules | `(tactic| walk_at "call builtin:bytes.decode") => `(tactic| refine stop ?_)
theorem offE {α : Type} {M : Model} {A : Around} {t : Sem α} {Q : α → Shared → Prop} {E : Value → Shared → Prop} {s : Shared} (h : wpAny M A t Q NoE s) : wpAny M A t Q E s := wpAny_mono h (fun _ _ q => q) fun _ _ e => e.elim
/-- a list of the numbers told so far -/
def VJ (o : Nat → Nat) (i : Nat) (ys : List Value) : Prop := ys.length = i ∧ ∀ k, k < i → ∃ t, ys[k]? = some (.int (o k : Int) t)
theorem VJ.nil {o : Nat → Nat} : VJ o 0 [] := ⟨rfl, fun k h => absurd h (Nat.not_lt_zero _)⟩
theorem VJ.snoc {o : Nat → Nat} {i : Nat} {ys : List Value} {n : Int} {t : Tok} (h : VJ o i ys) (e : n = (o i : Int)) : VJ o (i + 1) (ys ++ [.int n t]) := by
  refine ⟨by simp [h.1], fun k hk => ?_⟩
  by_cases e2 : k < i
  · obtain ⟨u, hu⟩ := h.2 k e2
    exact ⟨u, by rw [List.getElem?_append_left (by rw [h.1]; exact e2)]; exact hu⟩
  · obtain rfl : k = i := by omega
    exact ⟨t, by rw [List.getElem?_append_right (by rw [h.1]; exact Nat.le_refl _), h.1, Nat.sub_self, e]; rfl⟩
theorem VJ.three {o : Nat → Nat} {ys : List Value} (h : VJ o 3 ys) : ∃ t0 t1 t2, ys = [.int (o 0 : Int) t0, .int (o 1 : Int) t1, .int (o 2 : Int) t2] := by
  obtain ⟨t0, h0⟩ := h.2 0 (by omega)
  obtain ⟨t1, h1⟩ := h.2 1 (by omega)
  obtain ⟨t2, h2⟩ := h.2 2 (by omega)
  match ys, h.1 with
  | [a, b, c], _ =>
    exact ⟨t0, t1, t2, by rw [Option.some.inj h0, Option.some.inj h1, Option.some.inj h2]⟩
theorem word_ascii {a b c : Nat} (h : a ≤ 15 ∧ b ≤ 15 ∧ c ≤ 15) : (⟨#[65 + a, 65 + b, 65 + c]⟩ : PySem.Str).cps.all (· < 128) = true := by
  simp
  omega
theorem word_at {a b c i k : Nat} {o : Nat → Nat} (e : a = o 0 ∧ b = o 1 ∧ c = o 2) (hi : i < 3) (h : (⟨#[65 + a, 65 + b, 65 + c]⟩ : PySem.Str).cps[i]? = some k) : k = 65 + o i := by
  obtain ⟨rfl, rfl, rfl⟩ := e
  obtain rfl | rfl | rfl : i = 0 ∨ i = 1 ∨ i = 2 := by omega
  all_goals exact (Option.some.inj h).symm
theorem lead_len (k : Nat) : (Txt.mul " " (k : Int) ++ "\t").length = k + 1 := by
  show (Txt.mul " " (k : Int) ++ "\t").cps.size = _
  rw [← Array.length_toList, app_list, mul_list, List.length_append, List.length_replicate]
  rfl
theorem lead_join (a b c : Nat) : Txt.join "" [Txt.mul " " (a : Int) ++ "\t", Txt.mul " " (b : Int) ++ "\t", Txt.mul " " (c : Int) ++ "\t"] = ⟨(tabs [a, b, c]).toArray⟩ := by
  refine str_of_list ?_
  rw [join_list0]
  simp only [List.map_cons, List.map_nil, app_list, mul_list]
  show ((List.replicate a 32 ++ [9]) :: (List.replicate b 32 ++ [9]) :: (List.replicate c 32 ++ [9]) :: []).flatten = _
  simp [tabs]
theorem lead_list {LT : PySem.Str} {a b c d : Nat} (h : LT = (⟨(tabs [a, b, c]).toArray⟩ : PySem.Str) ++ Txt.mul " " (d : Int) ++ "x ") : LT.cps.toList = tabs [a, b, c] ++ (List.replicate d 32 ++ [120, 32]) := by
  rw [h, app_list, app_list, mul_list, List.append_assoc]
  rfl
theorem lead_ok {LT : PySem.Str} {o : Nat → Nat} {d : Nat} (h : LT.cps.toList = tabs [o 0, o 1, o 2] ++ (List.replicate d 32 ++ [120, 32])) (ho : o 0 ≤ 15 ∧ o 1 ≤ 15 ∧ o 2 ≤ 15 ∧ 1 ≤ o 0) (hd : d ≤ 2) : LT.cps.all (· < 128) = true ∧ LT.cps.size ≤ 1000000 := by
  constructor
  · rw [Array.all_eq_true']
    intro c hc
    have hc := Array.mem_toList_iff.mpr hc
    rw [h] at hc
    refine decide_eq_true ?_
    rcases List.mem_append.mp hc with hc | hc
    · rcases tabs_mem _ _ hc with e | e <;> omega
    rcases List.mem_append.mp hc with hc | hc
    · rw [List.eq_of_mem_replicate hc]; decide
    · rcases List.mem_cons.mp hc with e | hc
      · rw [e]; decide
      · rw [List.mem_singleton.mp hc]; decide
  · rw [← Array.length_toList, h, List.length_append, tabs_len, List.length_append, List.length_replicate]
    simp only [List.sum_cons, List.sum_nil, List.length_cons, List.length_nil]
    omega
theorem lead_run (cs : List Nat) (d : Nat) : wsRun (tabs cs ++ (List.replicate d 32 ++ [120, 32])) [] 0 0 0 = (counts [] cs, (d : Int), (((cs.sum + cs.length + d : Nat)) : Int), (cs.length : Int)) := by
  rw [wsRun_tabs, wsRun_blanks]
  show (if 120 = 32 then _ else if 120 = 9 then _ else (counts [] cs, (0 : Int) + (d : Int), (0 : Int) + ((cs.sum + cs.length : Nat) : Int) + (d : Int), (0 : Int) + (cs.length : Int))) = _
  rw [if_neg (by decide), if_neg (by decide)]
  simp only [Int.zero_add, Int.natCast_add]
theorem word_items (a b c : Nat) : Txt.item (⟨#[65 + a, 65 + b, 65 + c]⟩ : PySem.Str) 0 = let65 a ∧ Txt.item (⟨#[65 + a, 65 + b, 65 + c]⟩ : PySem.Str) 1 = let65 b ∧ Txt.item (⟨#[65 + a, 65 + b, 65 + c]⟩ : PySem.Str) 2 = let65 c := ⟨rfl, rfl, rfl⟩
theorem own_all (tot : Nat) : ∀ k, k < 3 → own tot k ≤ 15 := by
  have h := own_le tot
  intro k hk
  obtain rfl | rfl | rfl : k = 0 ∨ k = 1 ∨ k = 2 := by omega
  · exact h.1
  · exact h.2.1
  · exact h.2.2.1
def lawJ (g : Heap) (o : Nat → Nat) (P : Params) (C : Addr) (sp : Int) (xt dt l : Addr) (kt : Tok) (w1 w2 w3 w4 : Addr × Obj) (lv lo xw : Addr) (cv co : Obj) (i : Nat) (m : PySem.Str → Option Value) (news : List (Addr × Obj)) : Prop :=
  ∃ sv ord vs n T tg ts G, lks m [("own", .ref lo), ("spare", .int sp ts), ("votes", .ref lv), ("lead", .ref xw), ("table", .ref xt), ("given", .int ((G : Nat) : Int) tg)] ∧
    news = (xt, instObj C dt) :: (dt, dictOf [strKey P "_headers" kt (.ref l)] 1) :: (l, listOf vs.toArray n) :: w1 :: w2 :: w3 :: w4 :: (lv, cv) :: (lo, co) :: T ∧
    G = total sv ∧ Inv o sv ord ∧ PairsIn g T vs (tabl o sv ord) ∧ AllTup T ∧ ∀ k, k < 3 → sv k = o k / (17 - i)
theorem lawJ0 {g h : Heap} {L : Addr} {m : PySem.Str → Option Value} {o : Nat → Nat} {P : Params} {C : Addr} {sp : Int} {xt dt l : Addr} {kt : Tok} {t1 t2 t3 t4 t5 t6 w1 w2 w3 w4 cs : Addr × Obj} {lv lo xw : Addr} {cv co : Obj} {vs : List Value} {n : Nat} {tg ts : Tok}
  (ho : ∀ k, k < 3 → o k ≤ 15) (_ : Fr g L h m) (N : News g L h ((xt, instObj C dt) :: (dt, dictOf [strKey P "_headers" kt (.ref l)] 1) :: (l, listOf vs.toArray n) :: t6 :: t5 :: t4 :: t3 :: t2 :: t1 :: w1 :: w2 :: w3 :: w4 :: cs :: (lv, cv) :: (lo, co) :: []))
  (hm : lks m [("own", .ref lo), ("spare", .int sp ts), ("votes", .ref lv), ("lead", .ref xw), ("table", .ref xt), ("given", .int 0 tg)]) (hp : PairsIn g [t6, t5, t4, t3, t2, t1] vs (tabl o (fun _ => 0) []))
  (e1 : t1.2.cls = .type "tuple") (e2 : t2.2.cls = .type "tuple") (e3 : t3.2.cls = .type "tuple") (e4 : t4.2.cls = .type "tuple") (e5 : t5.2.cls = .type "tuple") (e6 : t6.2.cls = .type "tuple") (hdt : @LT.lt Nat _ dt xt)
  (hl : @LT.lt Nat _ l dt ∧ (@LT.lt Nat _ t6.1 l ∧ @LT.lt Nat _ t5.1 l ∧ @LT.lt Nat _ t4.1 l ∧ @LT.lt Nat _ t3.1 l ∧ @LT.lt Nat _ t2.1 l ∧ @LT.lt Nat _ t1.1 l ∧ @LT.lt Nat _ w1.1 l ∧ @LT.lt Nat _ w2.1 l ∧ @LT.lt Nat _ w3.1 l ∧ @LT.lt Nat _ w4.1 l ∧ @LT.lt Nat _ cs.1 l ∧ @LT.lt Nat _ lv l ∧ @LT.lt Nat _ lo l)) :
  News g L h ((xt, instObj C dt) :: (dt, dictOf [strKey P "_headers" kt (.ref l)] 1) :: (l, listOf vs.toArray n) :: w1 :: w2 :: w3 :: w4 :: (lv, cv) :: (lo, co) :: [t6, t5, t4, t3, t2, t1]) ∧
  (∃ J, J = lawJ g o P C sp xt dt l kt w1 w2 w3 w4 lv lo xw cv co ∧ J 0 m ((xt, instObj C dt) :: (dt, dictOf [strKey P "_headers" kt (.ref l)] 1) :: (l, listOf vs.toArray n) :: w1 :: w2 :: w3 :: w4 :: (lv, cv) :: (lo, co) :: [t6, t5, t4, t3, t2, t1])) ∧
  ((@Ne Nat dt xt) ∧ (@Ne Nat l dt) ∧ (@Ne Nat l xt) ∧ (@Ne Nat w1.1 l) ∧ (@Ne Nat w2.1 l) ∧ (@Ne Nat w3.1 l) ∧ (@Ne Nat w4.1 l) ∧ (@Ne Nat lv l) ∧ (@Ne Nat lo l)) := by
  refine ⟨fun p hp => N p ?_, ⟨_, rfl, fun _ => 0, [], vs, n, [t6, t5, t4, t3, t2, t1], tg, ts, 0, hm, rfl, rfl, Inv.zero o, hp, ?_, fun k hk => ?_⟩, ?_⟩
  · simp only [List.mem_cons, List.not_mem_nil, or_false] at hp ⊢
    rcases hp with h | h | h | h | h | h | h | h | h | h | h | h | h | h | h <;> simp [h]
  · intro p hp
    simp only [List.mem_cons, List.not_mem_nil, or_false] at hp
    rcases hp with rfl | rfl | rfl | rfl | rfl | rfl
    all_goals assumption
  · show 0 = o k / (17 - 0)
    have := ho k hk
    rw [Nat.div_eq_of_lt (by omega)]
  · obtain ⟨h0, h1, h2, h3, h4, h5, h6, h7, h8, h9, h10, h11, h12, h13⟩ := hl
    have hdt' : @LT.lt Nat _ dt xt := hdt
    exact ⟨Nat.ne_of_lt hdt, Nat.ne_of_lt h0, Nat.ne_of_lt (Nat.lt_trans h0 hdt), Nat.ne_of_lt h7, Nat.ne_of_lt h8, Nat.ne_of_lt h9, Nat.ne_of_lt h10, Nat.ne_of_lt h12, Nat.ne_of_lt h13⟩
def lawW (g : Heap) (H : Nat) (o : Nat → Nat) (P : Params) (C : Addr) (sp : Int) (xt dt l : Addr) (kt : Tok) (w1 w2 w3 w4 : Addr × Obj) (lv lo xw : Addr) (cv co : Obj) (I : Addr) (oI : Obj) (d : Nat) (k : Nat) (m : PySem.Str → Option Value) (news : List (Addr × Obj)) : Prop :=
  ∃ sv ord vs n T tg ts th tz G, lks m [("own", .ref lo), ("spare", .int sp ts), ("votes", .ref lv), ("lead", .ref xw), ("table", .ref xt), ("given", .int ((G : Nat) : Int) tg), ("house", .int ((H : Nat) : Int) th), ("size", .int (d : Int) tz)] ∧
    news = (I, oI) :: (xt, instObj C dt) :: (dt, dictOf [strKey P "_headers" kt (.ref l)] 1) :: (l, listOf vs.toArray n) :: w1 :: w2 :: w3 :: w4 :: (lv, cv) :: (lo, co) :: T ∧
    G = total sv ∧ Inv o sv ord ∧ PairsIn g T vs (tabl o sv ord) ∧ AllTup T ∧ (∀ k, k < 3 → sv k ≤ o k / d) ∧ k = (total fun k => o k / d) - total sv ∧ ∀ p ∈ (xt, instObj C dt) :: (dt, dictOf [strKey P "_headers" kt (.ref l)] 1) :: (l, listOf vs.toArray n) :: w1 :: w2 :: w3 :: w4 :: (lv, cv) :: (lo, co) :: T, p.1 ≠ I
theorem lawW0 {g h : Heap} {L : Addr} {m : PySem.Str → Option Value} {o : Nat → Nat} {P : Params} {C : Addr} {sp : Int} {xt dt l : Addr} {kt : Tok} {w1 w2 w3 w4 : Addr × Obj} {lv lo xw : Addr} {cv co : Obj} {I : Addr} {oI : Obj} {d G H : Nat} {vs : List Value} {n : Nat} {tg ts th tz : Tok} {sv : Nat → Nat} {ord : List Nat} {T : List (Addr × Obj)}
  (_ : Fr g L h m) (_ : News g L h ((I, oI) :: (xt, instObj C dt) :: (dt, dictOf [strKey P "_headers" kt (.ref l)] 1) :: (l, listOf vs.toArray n) :: w1 :: w2 :: w3 :: w4 :: (lv, cv) :: (lo, co) :: T))
  (hm : lks m [("own", .ref lo), ("spare", .int sp ts), ("votes", .ref lv), ("lead", .ref xw), ("table", .ref xt), ("given", .int ((G : Nat) : Int) tg), ("house", .int ((H : Nat) : Int) th), ("size", .int (d : Int) tz)])
  (hG : G = total sv) (_ : H = (total fun k => o k / d) + 3) (h1 : Inv o sv ord) (h2 : PairsIn g T vs (tabl o sv ord)) (h3 : AllTup T) (h4 : ∀ k, k < 3 → sv k ≤ o k / d)
  (h5 : ∀ p ∈ (xt, instObj C dt) :: (dt, dictOf [strKey P "_headers" kt (.ref l)] 1) :: (l, listOf vs.toArray n) :: w1 :: w2 :: w3 :: w4 :: (lv, cv) :: (lo, co) :: T, p.1 ≠ I) :
  ∃ W, W = lawW g H o P C sp xt dt l kt w1 w2 w3 w4 lv lo xw cv co I oI d ∧ W ((total fun k => o k / d) - total sv) m ((I, oI) :: (xt, instObj C dt) :: (dt, dictOf [strKey P "_headers" kt (.ref l)] 1) :: (l, listOf vs.toArray n) :: w1 :: w2 :: w3 :: w4 :: (lv, cv) :: (lo, co) :: T) :=
  ⟨_, rfl, sv, ord, vs, n, T, tg, ts, th, tz, G, hm, rfl, hG, h1, h2, h3, h4, rfl, h5⟩
theorem sum_mods (k : Int) (hk : 0 < k) : ∀ ns : List Int, ∃ t : Nat, (ns.map fun a => a.fmod k).sum = (t : Int)
  | [] => ⟨0, rfl⟩
  | a :: r => by
    obtain ⟨t, e⟩ := sum_mods k hk r
    have h0 : 0 ≤ a.fmod k := Int.fmod_nonneg_of_pos a hk
    refine ⟨(a.fmod k).toNat + t, ?_⟩
    rw [List.map_cons, List.sum_cons, e, Int.natCast_add, Int.toNat_of_nonneg h0]
theorem final : PySem.Challenge.rw_ta0081_01.Holds := hd (by
  k_go0
  k_steps
  rename NewPlain _ _ _ _ => NP
  rename CarriedAll _ _ => HC
  rename Fr _ _ _ _ => F
  rename News _ _ _ _ => N
  have hI := gn_ints NP HC fun _ => rfl
  clear HC
  obtain ⟨tot, htot⟩ := sum_mods 1000000 (by decide) _
  refine sumK rfl F N (by assumption) hI ?_
  rw [htot]
  clear F N NP htot hI
  intro h1 tk1 t1 F N
  k_steps
  unfold Stop
  rename Fr _ _ _ _ => F
  rename News _ _ _ _ => N
  simp only [num_eq, own0_eq, own1_eq, own2_eq, spare_eq] at F N ⊢
  have hown := own_le tot
  have hnum := num_lo tot
  have hz : (-((num tot : Nat) : Int)).natAbs = num tot := by omega
  have hz2 : (-((num tot : Nat) : Int)).natAbs < 16 ^ 16 := by rw [hz]; exact Nat.lt_trans hnum.2 (by decide)
  refine offE ?_
  k_dflt (refine' c_int2apC ?k1 ?k2 ?k3 ?k4 ?a1 ?a2 ?a3 hz2 ?_; (case k1 => k_asm); (case k2 => k_asm); (case k3 => k_asm); (case k4 => k_asm); (case a1 => exact rfl); (case a2 => exact Nat.le_of_ble_eq_true rfl); (case a3 => exact Nat.le_of_ble_eq_true rfl); k_whole)
  rw [hz]
  clear F N hz hz2
  intro h2 tk2 t2 F N
  have hS : StopHere := ⟨trivial⟩
  k_steps
  unfold Stop
  refine' dc_call (apN_ne (by omega)) (apN_lt _) (Nat.le_trans (apN_len 16 _ (Nat.lt_trans hnum.2 (by decide))) (by decide)) ?_
  rw [ap_three]
  intro t' k'
  have hall := own_all tot
  have hsp : spare tot ≤ 2 := by unfold spare; omega
  generalize own tot = o at *
  generalize spare tot = sp at *
  generalize num tot = nu at *
  k_steps
  unfold Stop
  rename Fr _ _ _ _ => F
  refine asg_str F rfl (by with_unfolding_all rfl) (by with_unfolding_all rfl) (by decide) (by rfl) (by decide) (by rfl) (by rfl) (by rfl) ?_
  clear hS
  k_steps
  rename Fr _ _ _ _ => F
  rename News _ _ _ _ => N
  refine ⟨_, _, _, rfl, word_ascii ⟨hown.1, hown.2.1, hown.2.2.1⟩, rfl, F, N, Nat.le_of_ble_eq_true rfl, fun g => ?_⟩
  clear F N
  refine compU_K (fun i ys => VJ (o) i ys) ?turnV ?doneV VJ.nil
  case turnV =>
    rintro i ys v I oI C oC D m₂ h tk E' hJ hi hv hC hx F N o3 ne
    obtain ⟨c, u, hc, rfl⟩ := hv
    obtain rfl := word_at (o := o) ⟨rfl, rfl, rfl⟩ hi hc
    have o3' := o3
    simp only [List.cons_append, List.nil_append, LCg.Off3] at N o3
    have hS : StopHere := ⟨trivial⟩
    k_steps
    unfold Stop
    rename Fr _ _ _ _ => F1
    rename News _ _ _ _ => N1
    exact compEnd_none F1 N1 o3' trivial ⟨rfl, hJ.snoc (by omega)⟩
  case doneV =>
    rintro ys hJ
    obtain ⟨v0, v1, v2, rfl⟩ := hJ.three
    k_steps
    rename News _ _ _ _ => N
    refine join_listC ⟨_, (N _ (.head _)).1, rfl, _, rfl⟩ (StrsAre.cons _ _ (StrsAre.cons _ _ (StrsAre.cons _ _ .nil))) (by decide +kernel) (by simp only [List.map_cons, List.map_nil, List.sum_cons, List.sum_nil, List.length_cons, List.length_nil, lead_len]; omega) ?_
    rw [lead_join]
    intro t9 k9
    have hll : (⟨(tabs [o 0, o 1, o 2]).toArray⟩ : PySem.Str).length ≤ 48 := by
      show (tabs [o 0, o 1, o 2]).toArray.size ≤ 48
      rw [List.size_toArray, tabs_len]
      simp only [List.sum_cons, List.sum_nil, List.length_cons, List.length_nil]
      omega
    k_steps
    unfold Stop
    rename News _ _ _ _ => N
    rename Fr _ _ _ _ => F
    obtain ⟨LT, hLT⟩ : ∃ LT : PySem.Str, LT = (⟨(tabs [o 0, o 1, o 2]).toArray⟩ : PySem.Str) ++ Txt.mul " " (sp : Int) ++ "x " := ⟨_, rfl⟩
    rw [← hLT]
    have hLl := lead_list hLT
    refine offE (lift_A (A := AC 4) (c_ws _ _ _ _ _ _ _ (by assumption) (by assumption) (fun _ _ q => F.keep _ _ q) F N _ _ _ (lead_ok hLl hown hsp).1 (lead_ok hLl hown hsp).2 ?_) rfl (Nat.le_of_ble_eq_true rfl) (Nat.le_of_ble_eq_true rfl) rfl rfl)
    clear F N
    rintro h3 tk3 xw dw tn tc wvs cnt wb wn wnt tb tn' tnt kw1 kw2 kw3 kw4 kw5 hwi hwl hwr F N al1 al2 al3 al4 al5 al6 al7 al8 al9
    rw [hLl, lead_run] at hwr
    obtain ⟨hw1, hw2⟩ := Prod.mk.inj hwr
    obtain ⟨hw3, hw4⟩ := Prod.mk.inj hw2
    obtain ⟨hw5, hw6⟩ := Prod.mk.inj hw4
    clear hwr hw2 hw4
    subst hw1
    subst hw3
    subst hw5
    subst hw6
    dsimp only [wsObjs, List.cons_append, List.nil_append] at N
    k_steps
    unfold Stop
    rename News _ _ _ _ => N
    rename Fr _ _ _ _ => F
    rename _ ∧ _ => l1'
    have hwi3 := word_items (o 0) (o 1) (o 2)
    rw [hwi3.1, hwi3.2.1, hwi3.2.2] at N
    refine offE (lift_A (A := AC 5) (c_hnew _ _ _ _ _ _ _ (by assumption) (by assumption) (fun _ _ q => F.keep _ _ q) F N _ [_, _, _, _, _, _] _ (tabl (o) (fun _ => 0) []) _ (.head _)
      (PairsIn.cons (p := (lowOf 0, ("A" : PySem.Str))) (by k_mem) (PairsIn.cons (p := (lowOf 1, ("A" : PySem.Str))) (by k_mem) (PairsIn.cons (p := (lowOf 2, ("A" : PySem.Str))) (by k_mem) (PairsIn.cons (p := (upOf 0, let65 (o 0))) (by k_mem) (PairsIn.cons (p := (upOf 1, let65 (o 1))) (by k_mem) (PairsIn.cons (p := (upOf 2, let65 (o 2))) (by k_mem) PairsIn.nil))))))
      (tabl_clean hall (fun _ _ => Nat.zero_le _) (fun _ h => nomatch h)) (Nat.le_of_ble_eq_true rfl) ?_) rfl (Nat.le_of_ble_eq_true rfl) (Nat.le_of_ble_eq_true rfl) rfl rfl)
    clear F N
    rintro h4 tk4 xt dt kt F N alt hdt
    k_steps
    unfold Stop
    refine offE (For_led ?_ (fun _ => rfl))
    k_steps
    rename IsRange _ _ _ _ _ _ _ _ => hrg
    rename Fr _ _ _ _ => F
    rename News _ _ _ _ => N
    obtain ⟨NJ, ⟨J, hJ, hJ0⟩, hoff⟩ := lawJ0 (o := o) hall F N ⟨rfl, rfl, rfl, rfl, rfl, rfl, trivial⟩
      (PairsIn.cons (p := (lowOf 0, ("A" : PySem.Str))) (by k_mem) (PairsIn.cons (p := (lowOf 1, ("A" : PySem.Str))) (by k_mem) (PairsIn.cons (p := (lowOf 2, ("A" : PySem.Str))) (by k_mem) (PairsIn.cons (p := (upOf 0, let65 (o 0))) (by k_mem) (PairsIn.cons (p := (upOf 1, let65 (o 1))) (by k_mem) (PairsIn.cons (p := (upOf 2, let65 (o 2))) (by k_mem) PairsIn.nil))))))
      rfl rfl rfl rfl rfl rfl hdt ⟨alt.1, l1'⟩
    rename Shared.gens _ = #[] => hgens
    rename Top _ _ _ _ _ _ => TT
    rename Frag.In _ _ => XX
    clear N hLl hll hLT hwi3 l1' alt hdt al1 al2 al3 al4 al5 al6 al7 al8 al9
    rename_i z1 z2 z3 z4 z5 z6 z7 z8 z9 z10 z11 z12 z13 z14 z15 z16 z17 z18 z19 z20 z21 z22 z23 z24 z25 z26 z27 z28 z29 z30 z31 z32 z33 z34 z35 z36 z37 z38 z39 z40 z41 z42 z43 z44 z45 z46 z47 z48 z49 z50 z51 z52 z53 z54 z55 z56 z57 z58 z59 z60 z61 z62 z63 z64 z65 z66 z67 z68 z69 z70 z71 z72 z73 z74 z75 z76 z77 z78 z79 z80 z81 z82 z83 z84 z85 z86 z87 z88 z89 z90 z91 z92 z93 z94 z95 z96 z97 z98 z99 z100 z101 z102 z103 z104 z105 z106 z107 z108 z109 z110 z111 z112 z113 z114 z115 z116 z117 z118 z119 z120 z121 z122 z123 z124 z125 z126 z127 z128 z129 z130 z131 z132 z133 z134 z135 z136 z137 z138 z139 z140 z141 z142 z143 z144 z145 z146 z147 z148 z149 z150 z151 z152 z153 z154 z155 z156 z157 z158 z159 z160 z161 z162 z163 z164 z165 z166 z167 z168 z169 z170 z171 z171 z173 z174 z175 z176 z177 z178 z179 z180 z181 z182
    (try clear z182); (try clear z181); (try clear z180); (try clear z179); (try clear z178); (try clear z177); (try clear z176); (try clear z175); (try clear z174); (try clear z173); (try clear z171); (try clear z171); (try clear z170); (try clear z169); (try clear z168); (try clear z167); (try clear z166); (try clear z165); (try clear z164); (try clear z163); (try clear z162); (try clear z161); (try clear z160); (try clear z159); (try clear z158); (try clear z157); (try clear z156); (try clear z155); (try clear z154); (try clear z153); (try clear z152); (try clear z151); (try clear z150); (try clear z149); (try clear z148); (try clear z147); (try clear z146); (try clear z145); (try clear z144); (try clear z143); (try clear z142); (try clear z141); (try clear z140); (try clear z139); (try clear z138); (try clear z137); (try clear z136); (try clear z135); (try clear z134); (try clear z133); (try clear z132); (try clear z131); (try clear z130); (try clear z129); (try clear z128); (try clear z127); (try clear z126); (try clear z125); (try clear z124); (try clear z123); (try clear z122); (try clear z121); (try clear z120); (try clear z119); (try clear z118); (try clear z117); (try clear z116); (try clear z115); (try clear z114); (try clear z113); (try clear z112); (try clear z111); (try clear z110); (try clear z109); (try clear z108); (try clear z107); (try clear z106); (try clear z105); (try clear z104); (try clear z103); (try clear z102); (try clear z101); (try clear z100); (try clear z99); (try clear z98); (try clear z97); (try clear z96); (try clear z95); (try clear z94); (try clear z93); (try clear z92); (try clear z91); (try clear z90); (try clear z89); (try clear z88); (try clear z87); (try clear z86); (try clear z85); (try clear z84); (try clear z83); (try clear z82); (try clear z81); (try clear z80); (try clear z79); (try clear z78); (try clear z77); (try clear z76); (try clear z75); (try clear z74); (try clear z73); (try clear z72); (try clear z71); (try clear z70); (try clear z69); (try clear z68); (try clear z67); (try clear z66); (try clear z65); (try clear z64); (try clear z63); (try clear z62); (try clear z61); (try clear z60); (try clear z59); (try clear z58); (try clear z57); (try clear z56); (try clear z55); (try clear z54); (try clear z53); (try clear z52); (try clear z51); (try clear z50); (try clear z49); (try clear z48); (try clear z47); (try clear z46); (try clear z45); (try clear z44); (try clear z43); (try clear z42); (try clear z41); (try clear z40); (try clear z39); (try clear z38); (try clear z37); (try clear z36); (try clear z35); (try clear z34); (try clear z33); (try clear z32); (try clear z31); (try clear z30); (try clear z29); (try clear z28); (try clear z27); (try clear z26); (try clear z25); (try clear z24); (try clear z23); (try clear z22); (try clear z21); (try clear z20); (try clear z19); (try clear z18); (try clear z17); (try clear z16); (try clear z15); (try clear z14); (try clear z13); (try clear z12); (try clear z11); (try clear z10); (try clear z9); (try clear z8); (try clear z7); (try clear z6); (try clear z5); (try clear z4); (try clear z3); (try clear z2); (try clear z1)
    refine' for_range (n := 16) (J := J) (Jx := J 16) (h0 := hJ0) hrg ?sm rfl rfl F NJ ?turnL ?jxL ?doneL
    case sm => decide
    case jxL => exact fun m news h => h
    case turnL =>
      clear F NJ hJ0 hrg
      intro i u m news h tk I oI hi hJi hnI F N
      rw [hJ] at hJi
      obtain ⟨sv, ord, vs, n, T, tg, ts, G, hm, rfl, hG, hInv, hP, hT, hsv⟩ := hJi
      obtain ⟨d, hd⟩ : ∃ d, d + i = 16 := ⟨16 - i, by omega⟩
      rw [show (16 : Int) + (i : Int) * -1 = (d : Int) by omega]
      replace F := fr_bd F _ hm
      dsimp only [bd] at F
      k_steps
      unfold Stop
      k_dflt (refine' c_indentC ?k1 ?k2 ?k3 ?k4 ?a1 ?a2 ?a3 ?m hwi hwl ?z1 ?z2 ?_; (case k1 => k_asm); (case k2 => k_asm); (case k3 => k_asm); (case k4 => k_asm); (case a1 => exact rfl); (case a2 => exact Nat.le_of_ble_eq_true rfl); (case a3 => exact Nat.le_of_ble_eq_true rfl); (case m => walk_at "sub"); (case z1 => omega); (case z2 => omega); k_whole)
      rw [indent_tabs (cs := [o 0, o 1, o 2]) (by omega)]
      clear F
      intro h5 tk5 tok5 F5 N5
      have hcol := col_div (o) (sp) d (by omega)
      k_steps
      · rename (_ : Int) ≠ 0 => hbad
        exact absurd hcol.2 hbad
      unfold Stop
      rename Fr _ _ _ _ => F
      rename News _ _ _ _ => N6
      (try clear N5)
      (try clear F5)
      (try clear N)
      have N := fun p hp => N6 p (.tail _ hp)
      clear N6
      obtain ⟨H, hH⟩ : ∃ H : Nat, H = (total fun k => o k / d) + 3 := ⟨_, rfl⟩
      rw [hcol.1, hcol.2, ← hH] at F
      clear hcol
      have hsd : ∀ k, k < 3 → sv k ≤ o k / d := step_within (by omega) (fun k hk => by rw [hsv k hk, show 17 - i = d + 1 by omega])
      obtain ⟨W, hW, hW0⟩ := lawW0 (o := o) (d := d) F N ⟨rfl, rfl, rfl, rfl, rfl, rfl, rfl, rfl, trivial⟩ hG hH hInv hP hT hsd hnI
      refine while_led W _ F N hW0 ?_
      clear hsd hsv hm hInv hP hT hnI F N hW0 hG
      intro k m news h tk hWk F N
      rw [hW] at hWk
      obtain ⟨sv, ord, vs, n, T, tg, ts, th, tz, G, hm, rfl, hG, hInv, hP, hT, hsd, hk, hnI⟩ := hWk
      replace F := fr_bd F _ hm
      dsimp only [bd] at F
      have htl := total_le hsd
      k_steps
      · --G1
        unfold Stop
        rename (_ : Int) < _ => hlt
        rename Fr _ _ _ _ => F1
        rename News _ _ _ _ => N1
        k_dflt (refine' lawAward (o := o) (sv := sv) (ord := ord) (d := d) F1 N1 ?k3 ?k4 ?a1 ?a2 ?a3 rfl hoff (hnI _ (.tail _ (.tail _ (.head _)))) hInv hP hT hall ?dd hsd ?ll ?_; (case k3 => k_asm); (case k4 => k_asm); (case a1 => exact rfl); (case a2 => exact Nat.le_of_ble_eq_true rfl); (case a3 => exact Nat.le_of_ble_eq_true rfl); (case dd => omega); (case ll => omega); k_whole)
        (try clear N1)
        (try clear F1)
        intro h9 tk9 vs9 n9 Z9 sv9 ord9 F9 N9 i1 i2 i3 i4 i5 i6
        k_steps
        rename Fr _ _ _ _ => F2
        rename News _ _ _ _ => N2
        refine ⟨_, _, _, _, (total fun j => o j / d) - total sv9, rfl, F2, N2, by omega, ?_⟩
        rw [hW]
        refine ⟨sv9, ord9, vs9, n9, Z9, _, _, _, _, G + 1, ⟨rfl, rfl, rfl, rfl, rfl, rfl, rfl, rfl, trivial⟩, rfl, by omega, i1, i2, i3, i4, rfl, ?_⟩
        intro p hp
        simp only [List.mem_cons] at hp hnI
        rcases hp with rfl | rfl | rfl | hp | hp | hp | hp | hp | hp | hp
        · exact hnI _ (by simp)
        · exact hnI _ (by simp)
        · have z := hnI (z171, listOf vs.toArray n) (by simp)
          exact z
        · exact hnI p (by simp [hp])
        · exact hnI p (by simp [hp])
        · exact hnI p (by simp [hp])
        · exact hnI p (by simp [hp])
        · exact hnI p (by simp [hp])
        · exact hnI p (by simp [hp])
        · rcases i6 p hp with q | q
          · exact hnI p (by simp [q])
          · exact q
      · --G2
        exfalso
        omega
      · --G3
        unfold Stop
        rename Fr _ _ _ _ => F1
        rename News _ _ _ _ => N1
        have hsv' : ∀ j, j < 3 → sv j = o j / d := all_of_total hsd (by omega)
        have hlen : vs.length ≤ 1000 := by
          rw [hP.1]
          have h1 := tabl_len hInv
          have hs := sv_le hall hsd
          have h2 := hs 0 (by omega)
          have h3 := hs 1 (by omega)
          have h4 := hs 2 (by omega)
          unfold total at h1
          omega
        k_dflt (refine' c_hitemsC ?k1 ?k2 ?k3 ?k4 ?a1 ?a2 ?a3 ?m hlen ?_; (case k1 => k_asm); (case k2 => k_asm); (case k3 => k_asm); (case k4 => k_asm); (case a1 => exact rfl); (case a2 => exact Nat.le_of_ble_eq_true rfl); (case a3 => exact Nat.le_of_ble_eq_true rfl); (case m => walk_at "sub"); k_whole)
        (try clear N1)
        (try clear F1)
        intro h8 tk8 D8 n8 F8 N8 e8
        k_steps
        unfold Stop
        rename Fr _ _ _ _ => F1
        rename News _ _ _ _ => N1
        k_dflt (refine' c_dueC (o := o) (size := d) F1 N1 ?k3 ?k4 ?a1 ?a2 ?a3 ?m ⟨hown.1, hown.2.1, hown.2.2.1⟩ ?z1 ?z2 ?_; (case k3 => k_asm); (case k4 => k_asm); (case a1 => exact rfl); (case a2 => exact Nat.le_of_ble_eq_true rfl); (case a3 => exact Nat.le_of_ble_eq_true rfl); (case m => k_mem); (case z1 => omega); (case z2 => omega); k_whole)
        (try clear N1)
        (try clear F1)
        intro h7 tk7 D7 xs7 n7 ks F7 N7 e7 st7 hP7 hks
        rw [← tabl_due (by omega) hInv hsv' hks] at hP7
        k_steps
        unfold Stop
        have NZ : News _ _ h7 T := fun p hp => N7 p (.tail _ (.tail _ (.tail _ (.tail _ (.tail _ (.tail _ (.tail _ (.tail _ (.tail _ (.tail _ (.tail _ (.tail _ hp))))))))))))
        have hPat := hP.at F7 NZ
        clear NZ
        refine ne_pairs (N7 _ (.tail _ (.head _))).1 (N7 _ (.head _)).1 hPat hP7 (tabl_clean hall (sv_le hall hsd) (fun k hk => ((hInv.mem k).mp hk).1)) (Nat.le_of_ble_eq_true rfl) ?_
        k_steps
        rename Fr _ _ _ _ => F2
        rename News _ _ _ _ => N2
        refine ⟨_, _, _, _, rfl, F2, fun p hp => N2 p (.tail _ (.tail _ hp)), hnI, ?_⟩
        rw [hJ]
        refine ⟨sv, ord, vs, n, T, _, _, G, ⟨rfl, rfl, rfl, rfl, rfl, rfl, trivial⟩, rfl, hG, hInv, hP, hT, fun k hk => ?_⟩
        rw [show 17 - (i + 1) = d by omega]
        exact hsv' k hk
    case doneL =>
      clear F NJ hJ0 hrg
      intro h tk m news hJx F N
      rw [hJ] at hJx
      obtain ⟨sv, ord, vs, n, T, tg, ts, G, hm, rfl, hG, hInv, hP, hT, hsv⟩ := hJx
      replace F := fr_bd F _ hm
      dsimp only [bd] at F
      k_steps)
end LWt
end Mine
theorem PySem.Challenge.cw_ta0081_01_holds : PySem.Challenge.rw_ta0081_01.Holds := by
  exact Mine.final
