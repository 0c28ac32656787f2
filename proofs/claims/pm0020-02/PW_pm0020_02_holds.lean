import PyProof.Rows.All
import Wide.All
import OpenK.AllK
import Wide.FinOn
import PyProof.Rows.StrCountLaw
import PyProof.Rows.StrJoinRep
import PyProof.Rows.StrMul
import Lean
import PySem.Challenge.RW_pm0020_02
set_option Elab.async false
set_option linter.all false
set_option maxRecDepth 100000
set_option maxHeartbeats 40000000
namespace Mine
section
open PySem PySem.W PyProof.Rows
local macro_rules | `(tactic| o_head $_) => `(tactic| assumption)
theorem hk (h : PySem.Challenge.rw_pm0020_02.row.Holds) : PySem.Challenge.rw_pm0020_02.row.Holds := by k_head
end
section
open PySem PySem.W PyProof.Rows
def vw : Program := { PySem.Challenge.rw_pm0020_02.prog with main := { PySem.Challenge.rw_pm0020_02.prog.main with
  body := (PySem.Challenge.rw_pm0020_02.prog.main.body.drop 1).take 1 ++ ((PySem.Challenge.rw_pm0020_02.prog.main.body.drop 3).take 5 ++ PySem.Challenge.rw_pm0020_02.prog.main.body.drop 9) } }
end
section
open PySem PySem.W PySem.Calls PyProof.Rows

abbrev PR : Program := PySem.Challenge.rw_pm0020_02.row.prog

structure Rm (A : Around) (d : Nat) : Prop where
  hh : A.handled = none
  dep : A.depth + d < 1000
  un : A.units + 10 * d < 9900

theorem Rm.le {A : Around} {d d' : Nat} (r : Rm A d) (h : d' ≤ d) : Rm A d' := ⟨r.hh, by have := r.dep; lia, by have := r.un; lia⟩
theorem Rm.room {A : Around} {d : Nat} (r : Rm A d) : A.depth < recursionLimit := by have := r.dep; unfold recursionLimit; lia
theorem Rm.units {A : Around} {d : Nat} (r : Rm A d) : A.units < cLine := by have := r.un; unfold cLine; lia
theorem Rm.deeper {A : Around} {d : Nat} {env : Env} (r : Rm A (d + 1)) : Rm (A.deeper env) d := ⟨r.hh, by have := r.dep; show A.depth + 1 + d < 1000; lia, by have := r.un; show A.units + 3 + 10 * d < 9900; lia⟩
theorem Rm.in1 {A : Around} {d : Nat} (r : Rm A (d + 1)) : Rm A.in1 d := ⟨r.hh, by have := r.dep; show A.depth + d < 1000; lia, by have := r.un; show A.units + 1 + 10 * d < 9900; lia⟩

/-- the protected part holds the text's own objects -/
structure Gd (w : World) (P : Heap) : Prop where
  X : (hk.heap_1 w.params).In P
  T : ∃ p loose mean mg mb, Top p loose mean mg mb P
  C : CodeHd P 76 72
theorem Gd.keeps {w : World} {P P' : Heap} (G : Gd w P) (k : ∀ b o, P.get? b = some o → P'.get? b = some o) : Gd w P' := by
  obtain ⟨X, ⟨p, l, me, mg, mb, T⟩, C⟩ := G
  exact ⟨X.keeps k, ⟨p, l, me, mg, mb, T.keeps k⟩, C.keeps k⟩

def Led (P h : Heap) (H : List (Addr × Obj)) : Prop := ∀ p ∈ H, h.get? p.1 = some p.2 ∧ P.get? p.1 = none

abbrev Post := Value → List (Addr × Obj) → Prop

/-- all but the heap and the toks is as it was -/
def Like (s s' : Shared) : Prop := s'.gens = s.gens ∧ s'.drawn = s.drawn ∧ s'.os = s.os
theorem Like.rfl' {s : Shared} : Like s s := ⟨rfl, rfl, rfl⟩
theorem Like.trans {a b c : Shared} (x : Like a b) (y : Like b c) : Like a c := ⟨y.1.trans x.1, y.2.1.trans x.2.1, y.2.2.trans x.2.2⟩
theorem Like.to {s s₁ : Shared} (x : Like s s₁) {h : Heap} {tk : Nat} : Like s { heap := h, gens := s₁.gens, drawn := s₁.drawn, toks := tk, os := s₁.os } := x
theorem Like.mk' {s : Shared} {h : Heap} {tk : Nat} : Like s { heap := h, gens := s.gens, drawn := s.drawn, toks := tk, os := s.os } := ⟨rfl, rfl, rfl⟩

def Out (P : Heap) (s : Shared) (Q : Post) (r : Result) (s' : Shared) : Prop :=
  ∃ v H', r = .ok (.ret v) ∧ Like s s' ∧ (∀ b o, P.get? b = some o → s'.heap.get? b = some o) ∧ Led P s'.heap H' ∧ Q v H'

/-- what a call does, from any place -/
def Spec (w : World) (d : Nat) (f : Value) (args : List Value) (H : List (Addr × Obj)) (Q : Post) : Prop :=
  ∀ A P s, Rm A d → Gd w P → (∀ b o, P.get? b = some o → s.heap.get? b = some o) → P.objs.size ≤ s.heap.objs.size → Led P s.heap H →
    codeAny (model PR w) A (.call f ⟨args, []⟩) (Out P s Q) s

theorem Spec.mono {w : World} {d d' : Nat} {f : Value} {args : List Value} {H : List (Addr × Obj)} {Q Q' : Post} (S : Spec w d f args H Q) (hd : d ≤ d') (h : ∀ v H', Q v H' → Q' v H') : Spec w d' f args H Q' :=
  fun A P s r G k hs L => codeAny_mono (S A P s (r.le hd) G k hs L) fun _ _ ⟨v, H', a, b, c, d, e⟩ => ⟨v, H', a, b, c, d, h _ _ e⟩

structure Bx (p : Prop) : Prop where
  out : p

/-- the end of a body -/
def Ret (P : Heap) (L : Addr) (s : Shared) (Q : Post) (v : Value) (s' : Shared) : Prop :=
  ∃ m' H', Like s s' ∧ Fr P L s'.heap m' ∧ News P L s'.heap H' ∧ Q v H'

theorem Ret.intro {P : Heap} {L : Addr} {s s' : Shared} {Q : Post} {v : Value} {m' : Str → Option Value} {H' : List (Addr × Obj)} (k : Like s s') (F : Fr P L s'.heap m') (N : News P L s'.heap H') (q : Bx (Q v H')) :
    Ret P L s Q v s' := ⟨m', H', k, F, N, q.out⟩

/-- a way to go on that is known by one that it follows from -/
def Imp2 (R K : Flow → Shared → Prop) : Prop := ∀ f s', R f s' → K f s'
theorem Imp2.go {R K : Flow → Shared → Prop} {f : Flow} {s' : Shared} (h : Imp2 R K) (x : R f s') : K f s' := h f s' x
/-- entering a def -/
theorem spec_def {w : World} {d : Nat} {H : List (Addr × Obj)} {Q : Post} {name qual : Str} {params : Arguments} {body : List Stmt} {scope : Scope} {dV kV doc pm cdv ct oc : Value} {an od : Option Addr} {osl : Array (Option Value)} {f : Addr} {args : List Value} (binds : List (Str × Value))
    (ho : (hk.heap_1 w.params).lookup f = some ⟨oc, od, .func (fnOf name qual params body scope dV kV doc pm an cdv ct), osl⟩) (hcd : codeIn (hk.heap_1 w.params) cdv qual = true)
    (hbind : bindArgs (fnOf name qual params body scope dV kV doc pm an cdv ct) ⟨args, []⟩ = pure binds) (hloc : ∀ y ∈ binds, scope.names.lookup y.1 = some .local)
    (h : ∀ A P L s s₁ p loose mean mg mb, Rm A d → Gd w P → Like s₁ s → (hk.heap_1 w.params).In P → Top p loose mean mg mb P → Fr P L s.heap (fun y => binds.reverse.lookup y) → News P L s.heap H → ∀ K, Imp2 (fun fl s' => Ret P L s₁ Q (match fl with | .ret v => v | _ => .none) s') K →
      wpAny (model PR w) A (execs body (envOf qual scope L f cdv)) K (fun _ _ => False) s)
    (hco : scope.isCoroutine = false := by rfl) (hgen : scope.isGenerator = false := by rfl) (hk : scope.kind = .function := by rfl)
    (hcell : ∀ x ∈ scope.names, x.2 ≠ .cell := by decide) : Spec w (d + 1) (.ref f) args H Q := by
  intro A P s r G k hs L
  obtain ⟨X, ⟨p, l, me, mg, mb, T⟩, _⟩ := id G
  refine codeAny_call_def (fd := fnOf name qual params body scope dV kV doc pm an cdv ct) (body := body) (binds := binds) r.room (k _ _ (X _ _ ho)) rfl (T.nolimit.keeps k) (codeRec_of (X.keeps k) hcd) rfl (BindsTo.of_eq hbind) hcell hloc (fun h₁ hns hk₁ => ?_) hco hgen hk
  refine wpAny_mono (h (A.deeper (envOf qual scope s.heap.objs.size f cdv)) P s.heap.objs.size { s with heap := h₁, toks := s.toks + binds.length } s p l me mg mb r.deeper G Like.mk' X T ⟨hns, fun b o e => hk₁ b o (k b o e), hs⟩ (fun q hq => ⟨hk₁ _ _ (L q hq).1, Nat.ne_of_lt (Heap.lt_size (L q hq).1), (L q hq).2⟩) _ (fun _ _ x => x)) (fun fl s' hl => ?_) fun _ _ e => e.elim
  obtain ⟨m', H', e, F', N', q⟩ := hl
  exact ⟨_, H', rfl, e, F'.keep, fun q hq => ⟨(N' q hq).1, (N' q hq).2.2⟩, q⟩

/-- a call out of a frame, as code -/
theorem code_spec {w : World} {d : Nat} {A : Around} {P : Heap} {L : Addr} {s z : Shared} {m : Str → Option Value} {f : Value} {args : List Value} {H rest news : List (Addr × Obj)} {Q : Post} {R : Result → Shared → Prop}
    (S : Spec w d f args H Q) (r : Rm A d) (G : Gd w P) (F : Fr P L s.heap m) (N : News P L s.heap news) (hn : ∀ p ∈ H ++ rest, p ∈ news) (hne : ∀ p ∈ rest, ∀ q ∈ H, p.1 ≠ q.1)
    (lz : Like z s) (h : ∀ v H' s', Q v H' → Like z s' → Fr P L s'.heap m → News P L s'.heap (H' ++ rest) → (∀ p ∈ H', ∀ q ∈ rest, p.1 ≠ q.1) → R (.ok (.ret v)) s') :
    codeAny (model PR w) A (.call f ⟨args, []⟩) R s := by
  refine codeAny_mono (S A (hideAll s.heap (H.map (·.1))) s r (G.keeps fun b o e => ?_) (fun b o e => of_hideAll _ e) (Nat.le_of_eq (hideAll_size _ _)) (fun p hp => ⟨(N p (hn p (List.mem_append_left _ hp))).1, hideAll_none _ (List.mem_map_of_mem hp)⟩)) fun r s' o => ?_
  · refine hideAll_get _ (F.keep b o e) fun q => ?_
    obtain ⟨p, hp, rfl⟩ := List.mem_map.mp q
    rw [(N p (hn p (List.mem_append_left _ hp))).2.2] at e; cases e
  · obtain ⟨v, H', rfl, lk, k, L', q⟩ := o
    obtain ⟨oL, es, ep, hL, hLd, hLk, hLf⟩ := F.ns
    have nL : L ∉ H.map (·.1) := fun q => by
      obtain ⟨p, hp, e⟩ := List.mem_map.mp q
      exact (N p (hn p (List.mem_append_left _ hp))).2.1 e
    have nR : ∀ p ∈ rest, p.1 ∉ H.map (·.1) := fun p hp q => by
      obtain ⟨p', hp', e⟩ := List.mem_map.mp q
      exact hne p hp p' hp' e.symm
    have hLg := hideAll_get (H.map (·.1)) hL nL
    have st : ∀ b o, P.get? b = some o → (hideAll s.heap (H.map (·.1))).get? b = some o := fun b o e => by
      refine hideAll_get _ (F.keep b o e) fun q => ?_
      obtain ⟨p, hp, rfl⟩ := List.mem_map.mp q
      rw [(N p (hn p (List.mem_append_left _ hp))).2.2] at e; cases e
    refine h v H' s' q (lz.trans lk) ⟨⟨oL, es, ep, k L oL hLg, hLd, hLk, hLf⟩, fun b o e => k b o (st b o e), F.above⟩ (fun p hp => ?_) fun p hp q hq e => ?_
    · rcases List.mem_append.mp hp with hp | hp
      · refine ⟨(L' p hp).1, fun q => ?_, ?_⟩
        · have := (L' p hp).2; rw [q, hLg] at this; cases this
        · cases q : P.get? p.1 with
          | none => rfl
          | some o => have := (L' p hp).2; rw [st _ _ q] at this; cases this
      · have n := N p (hn p (List.mem_append_right _ hp))
        exact ⟨k _ _ (hideAll_get _ n.1 (nR p hp)), n.2⟩
    · have := (L' p hp).2
      rw [e, hideAll_get _ (N q (hn q (List.mem_append_right _ hq))).1 (nR q hq)] at this; cases this

/-- a call out of a frame -/
theorem call_spec {w : World} {d : Nat} {A : Around} {P : Heap} {L : Addr} {s z : Shared} {m : Str → Option Value} {f : Value} {args : List Value} {H rest news : List (Addr × Obj)} {Q : Post} {Qv : Value → Shared → Prop} {E : Value → Shared → Prop}
    (S : Spec w d f args H Q) (r : Rm A d) (G : Gd w P) (F : Fr P L s.heap m) (N : News P L s.heap news) (hn : ∀ p ∈ H ++ rest, p ∈ news) (hne : ∀ p ∈ rest, ∀ q ∈ H, p.1 ≠ q.1)
    (lz : Like z s) (h : ∀ v H' s', Q v H' → Like z s' → Fr P L s'.heap m → News P L s'.heap (H' ++ rest) → (∀ p ∈ H', ∀ q ∈ rest, p.1 ≠ q.1) → Qv v s') :
    wpAny (model PR w) A (call f args) Qv E s :=
  wpAny_call (code_spec S r G F N hn hne lz h)

end
section
open PySem PySem.W PySem.Calls PyProof.Rows
open PySem PySem.W PySem.Calls PyProof.Rows

abbrev NoE : Value → Shared → Prop := fun _ _ => False

/-- the end of a loop's turn -/
def LoopEnd (P : Heap) (L : Addr) (s : Shared) (own : List (Addr × Obj)) (J : (Str → Option Value) → List (Addr × Obj) → Prop) (Q : Flow → Shared → Prop) (f : Flow) (s' : Shared) : Prop :=
  match f with
  | .ret v => Q (.ret v) s'
  | .brk => Q .next s'
  | _ => ∃ m' H', Like s s' ∧ Fr P L s'.heap m' ∧ News P L s'.heap (own ++ H') ∧ (∀ p ∈ H', ∀ q ∈ own, p.1 ≠ q.1) ∧ J m' H'

section
variable {w : World} {A : Around} {P : Heap} {s : Shared} {env : Env} {x : Str} {px : Pos} {body : List Stmt} {Q : Flow → Shared → Prop} {m : Str → Option Value} {H : List (Addr × Obj)}

abbrev LoopQ (w : World) (A : Around) (env : Env) (x : Str) (px : Pos) (body : List Stmt) (Q : Flow → Shared → Prop) (it : Value) (s₂ : Shared) : Prop :=
  codeAny (model PR w) A (.forLoop (.Name x px) it body [] env) (fun r s' => match r with | .ok f => Q f s' | .error e => cameBackBy (model PR w) A env NoE e s') s₂

theorem for_in {iter : Expr} {pos : Pos} (h : wpAny (model PR w) A (eval iter env) (fun xv s₁ => wpAny (model PR w) A (pyIter xv) (LoopQ w A env x px body Q) NoE s₁) NoE s)
    (hs : ∀ x, foldedSetIterable iter env x = pure x := by intro _; rfl) : wpAny (model PR w) A (exec (.For (.Name x px) iter body [] pos) env) Q NoE s :=
  wpAny_For h hs

theorem loop_one {I : Addr} {n : Nat} {Pv : Nat → Value → Prop} {St : Nat → Heap → Prop} (W : Walks PR w A I [I] [I] n Pv St) (hx : env.kindOf x = some .local)
    (hk : env.scope.kind = .function) {s₀ : Shared} (hs₀ : Like s₀ s) (hst : St 0 s.heap) (hI : env.locals < I) (hIP : P.get? I = none) (live : ∀ i h, St i h → ∃ o, h.get? I = some o)
    (F : Fr P env.locals s.heap m) (N : News P env.locals s.heap H) (hH : ∀ p ∈ H, p.1 ≠ I)
    (J : Nat → (Str → Option Value) → List (Addr × Obj) → Prop) (h0 : J 0 m H)
    (turn : ∀ i v m₁ H₁ s₁ io, Like s₀ s₁ → i < n → Pv i v → J i m₁ H₁ → (∀ p ∈ H₁, p.1 ≠ I) → Fr P env.locals s₁.heap (fun y => if y = x then some v else m₁ y) → News P env.locals s₁.heap ((I, io) :: H₁) → ∀ K, Imp2 (LoopEnd P env.locals s₀ [(I, io)] (J (i + 1)) Q) K →
      wpAny (model PR w) A (execs body env) K NoE s₁)
    (done : ∀ m₁ H₁ s₁, Like s₀ s₁ → J n m₁ H₁ → Fr P env.locals s₁.heap m₁ → News P env.locals s₁.heap H₁ → Q .next s₁) :
    LoopQ w A env x px body Q (.ref I) s := by
  refine codeAny_forLoop
    (fun k s' => ∃ m' H' i, Like s₀ s' ∧ St i s'.heap ∧ Fr P env.locals s'.heap m' ∧ News P env.locals s'.heap H' ∧ (∀ p ∈ H', p.1 ≠ I) ∧ J i m' H' ∧ i ≤ n ∧ k = n + 1 - i) ?_ (n + 1)
    ⟨m, H, 0, hs₀, hst, F, N, hH, h0, Nat.zero_le _, rfl⟩
  rintro k s' ⟨m', H', i, lk, hst', F', N', hne', hJ, hi, rfl⟩
  have hp : (env.scope.kind == .class || (env.scope.kind == .module && env.locals != env.globals)) = false := by rw [hk]; rfl
  have next : ∀ h₁ : Heap, (∀ b o, b ∉ [I] → s'.heap.get? b = some o → h₁.get? b = some o) → Fr P env.locals h₁ m' ∧ News P env.locals h₁ H' := fun h₁ hk₁ =>
    ⟨⟨F'.ns.at' fun o e => hk₁ _ o (by simpa using Nat.ne_of_lt hI) e, fun b o e => hk₁ b o (by intro q; simp at q; rw [q, hIP] at e; cases e) (F'.keep b o e), F'.above⟩, fun p hp => ⟨hk₁ _ _ (by simp; exact hne' p hp) (N' p hp).1, (N' p hp).2⟩⟩
  by_cases hlt : i < n
  · refine W.item i _ _ _ hlt hst' fun v h₁ tk₁ hP hst₁ hk₁ => ?_
    obtain ⟨F₁, N₁⟩ := next h₁ hk₁
    refine wpAny_assign_Name (wpAny_storeName_local hx F₁.ns (fun h₂ hn₂ hs₂ => ?_) hp)
    have F₂ := F₁.set hn₂ hs₂
    have N₂ := N₁.set hs₂
    have hst₂ : St (i + 1) h₂ := W.frame _ _ _ hst₁ fun b hb o e => (hs₂.2 b (by simp at hb; rw [hb]; exact Nat.ne_of_gt hI)).trans e
    obtain ⟨io, hio⟩ := live _ _ hst₂
    · have N₃ : News P env.locals h₂ ((I, io) :: H') := fun p hp => by
        rcases List.mem_cons.mp hp with rfl | hp
        · exact ⟨hio, Nat.ne_of_gt hI, hIP⟩
        · exact N₂ p hp
      refine wpAny_mono (turn i v m' H' { s' with heap := h₂, toks := tk₁ + 1 } io lk hlt hP hJ hne' F₂ N₃ _ (fun _ _ x => x)) (fun f s₃ h₃ => ?_) fun _ _ e => e.elim
      have fin : ∀ f', (f' = .next ∨ f' = .cont) → LoopEnd P env.locals s₀ [(I, io)] (J (i + 1)) Q f' s₃ → ∃ m, m < n + 1 - i ∧ ∃ m' H' i, Like s₀ s₃ ∧ St i s₃.heap ∧ Fr P env.locals s₃.heap m' ∧ News P env.locals s₃.heap H' ∧ (∀ p ∈ H', p.1 ≠ I) ∧ J i m' H' ∧ i ≤ n ∧ m = n + 1 - i := by
        rintro f' hf' he
        have he : ∃ m' H', Like s₀ s₃ ∧ Fr P env.locals s₃.heap m' ∧ News P env.locals s₃.heap ([(I, io)] ++ H') ∧ (∀ p ∈ H', ∀ q ∈ [(I, io)], p.1 ≠ q.1) ∧ J (i + 1) m' H' := by
          rcases hf' with rfl | rfl <;> exact he
        obtain ⟨m₃, H₃, lk₃, F₃, N₃', ha₃, hJ₃⟩ := he
        have hI₃ := (N₃' (I, io) (by simp)).1
        refine ⟨n + 1 - (i + 1), by lia, m₃, H₃, i + 1, lk₃, ?_, F₃, fun p hp => N₃' p (by simp [hp]), fun p hp => ha₃ p hp (I, io) (by simp), hJ₃, hlt, rfl⟩
        refine W.frame _ _ _ hst₂ fun b hb o e => ?_
        simp at hb
        subst hb
        rw [hio] at e; cases e; exact hI₃
      cases f with
      | ret v => exact h₃
      | brk => exact h₃
      | cont => exact fin _ (.inr rfl) h₃
      | next => exact fin _ (.inl rfl) h₃
  · have hin : i = n := by lia
    subst hin
    refine W.done _ _ _ hst' fun h₁ tk₁ hk₁ => wpAny_execs_nil ?_
    obtain ⟨F₁, N₁⟩ := next h₁ hk₁
    exact done m' H' { s' with heap := h₁, toks := tk₁ } lk hJ F₁ N₁
end
end
section
open PySem PySem.W PySem.Calls PyProof.Rows
open PySem PySem.W PySem.Calls PyProof.Rows
open PySem PySem.W PySem.Calls PyProof.Rows
section
variable {w : World} {A : Around} {P : Heap} {s : Shared} {env : Env} {x : Str} {px : Pos} {body : List Stmt} {Q : Flow → Shared → Prop} {m : Str → Option Value} {H : List (Addr × Obj)}

theorem Led.ne_size {P h : Heap} {L : Addr} {H : List (Addr × Obj)} (N : News P L h H) : ∀ p ∈ H, p.1 ≠ h.objs.size := fun p hp => Nat.ne_of_lt (Heap.lt_size (N p hp).1)
theorem Fr.size_none {P h : Heap} {L : Addr} {m : Str → Option Value} (F : Fr P L h m) : P.get? h.objs.size = none := by
  cases q : P.get? h.objs.size with
  | none => rfl
  | some o => exact absurd (Heap.lt_size (F.keep _ _ q)) (Nat.lt_irrefl _)

theorem News.push' {P h : Heap} {L : Addr} {H : List (Addr × Obj)} (N : News P L h H) (o : Obj) : News P L (h.push o) H := fun p hp => ⟨Heap.get?_push_of_some _ (N p hp).1, (N p hp).2⟩

/-- a range's turns: from a, by ones, n of them -/
theorem loop_range {E : Value → Shared → Prop} {r : Addr} {a b : Int} {t u v : Tok} {n : Nat} (hr : IsRange s.heap r a b 1 t u v) (hh : A.handled = none) (hx : env.kindOf x = some .local) (hk : env.scope.kind = .function)
    {s₀ : Shared} (hs₀ : Like s₀ s) (ha : -(2 ^ 62) ≤ a) (ha' : a < 2 ^ 62) (hb : -(2 ^ 62) ≤ b) (hb' : b < 2 ^ 62) (hn : (b - a).toNat = n)
    (F : Fr P env.locals s.heap m) (N : News P env.locals s.heap H) (J : Nat → (Str → Option Value) → List (Addr × Obj) → Prop) (h0 : J 0 m H)
    (turn : ∀ i tv m₁ H₁ s₁ I io, Like s₀ s₁ → i < n → J i m₁ H₁ → (∀ p ∈ H₁, p.1 ≠ I) → Fr P env.locals s₁.heap (fun y => if y = x then some (.int (a + i) tv) else m₁ y) → News P env.locals s₁.heap ((I, io) :: H₁) → ∀ K, Imp2 (LoopEnd P env.locals s₀ [(I, io)] (J (i + 1)) Q) K →
      wpAny (model PR w) A (execs body env) K NoE s₁)
    (done : ∀ m₁ H₁ s₁, Like s₀ s₁ → J n m₁ H₁ → Fr P env.locals s₁.heap m₁ → News P env.locals s₁.heap H₁ → Q .next s₁) :
    wpAny (model PR w) A (pyIter (.ref r)) (LoopQ w A env x px body Q) E s := by
  refine wpAny_pyIter_range hr (small_one ha ha' hb hb') ?_
  have hsz : Builtin.Range.rangeSize a b 1 = (n : Int) := by rw [rangeSize_nat, hn]
  refine loop_one (Walks.range hh s.heap.objs.size a 1 n) hx hk (s₀ := s₀) hs₀ ?_ F.ns.lt (Fr.size_none F) (fun _ _ e => ⟨_, e⟩) (F.push _) (News.push' N _) (Led.ne_size N) J h0 ?_ done
  · show IsRangeIter _ _ _ _ _
    rw [hsz]; simpa using Heap.get?_push_size _ rfl
  · rintro i v m₁ H₁ s₁ io lk hi ⟨tv, rfl⟩ hJ hne F' N' K hK
    have e : a + (i : Int) * 1 = a + i := by lia
    rw [e] at F'
    exact turn i tv m₁ H₁ s₁ _ io lk hi hJ hne F' N' K hK

/-- the end of a while's turn -/
def WhileEnd (P : Heap) (L : Addr) (s : Shared) (J : Nat → (Str → Option Value) → List (Addr × Obj) → Prop) (n : Nat) (Q : Flow → Shared → Prop) (f : Flow) (s' : Shared) : Prop :=
  match f with
  | .ret v => Q (.ret v) s'
  | .brk => Q .next s'
  | _ => ∃ m' H' n', Like s s' ∧ Fr P L s'.heap m' ∧ News P L s'.heap H' ∧ n' < n ∧ J n' m' H'

theorem while_in {L : Addr} {test : Expr} {pos : Pos} {s₀ : Shared} (hs₀ : Like s₀ s) (J : Nat → (Str → Option Value) → List (Addr × Obj) → Prop) (n₀ : Nat)
    (F : Fr P L s.heap m) (N : News P L s.heap H) (hJ : J n₀ m H)
    (turn : ∀ n m₁ H₁ s₁, Like s₀ s₁ → Fr P L s₁.heap m₁ → News P L s₁.heap H₁ → J n m₁ H₁ → ∀ K, Imp2 (WhileEnd P L s₀ J n Q) K →
      wpAny (model PR w) A (isTrue test env (eval test env)) (fun b s₂ =>
        if b then wpAny (model PR w) A (execs body env) K NoE s₂ else Q .next s₂) NoE s₁) :
    wpAny (model PR w) A (exec (.While test body [] pos) env) Q NoE s := by
  refine wpAny_While (codeAny_whileLoop (fun n s' => ∃ m₁ H₁, Like s₀ s' ∧ Fr P L s'.heap m₁ ∧ News P L s'.heap H₁ ∧ J n m₁ H₁) ?_ n₀ ⟨m, H, hs₀, F, N, hJ⟩)
  rintro n s' ⟨m₁, H₁, lk, F₁, N₁, J₁⟩
  refine wpAny_mono (turn n m₁ H₁ s' lk F₁ N₁ J₁ _ (fun _ _ x => x)) (fun b s₂ h₂ => ?_) fun _ _ e => e.elim
  cases b with
  | false =>
    simp only [Bool.false_eq_true, if_false] at h₂ ⊢
    exact wpAny_execs_nil h₂
  | true =>
    simp only [if_true] at h₂ ⊢
    refine wpAny_mono h₂ (fun f s₃ h₃ => ?_) fun _ _ e => e.elim
    cases f with
    | ret v => exact h₃
    | brk => exact h₃
    | next => obtain ⟨m₂, H₂, n', lk, F₂, N₂, hn, J₂⟩ := h₃; exact ⟨n', hn, m₂, H₂, lk, F₂, N₂, J₂⟩
    | cont => obtain ⟨m₂, H₂, n', lk, F₂, N₂, hn, J₂⟩ := h₃; exact ⟨n', hn, m₂, H₂, lk, F₂, N₂, J₂⟩
end
end
section
open PySem PySem.W PySem.Calls PyProof.Rows
open PySem PySem.W PySem.Calls PyProof.Rows
open PySem PySem.W PySem.Calls PyProof.Rows
open PySem PySem.W PySem.Calls PyProof.Rows

structure Halt (p : Prop) : Prop where
  go : p
theorem halt {p : Prop} (h : Halt p) : p := h.go

/-- a part of a ledger -/
def Sub (A B : List (Addr × Obj)) : Prop := ∀ p ∈ A, p ∈ B
theorem Sub.rfl' {A : List (Addr × Obj)} : Sub A A := fun _ h => h
theorem Sub.nil {A : List (Addr × Obj)} : Sub [] A := fun _ h => nomatch h
theorem Sub.tail {p : Addr × Obj} {A B : List (Addr × Obj)} (h : Sub A B) : Sub A (p :: B) := fun q hq => List.mem_cons_of_mem _ (h q hq)
theorem Sub.cons {p : Addr × Obj} {A B : List (Addr × Obj)} (h : Sub A B) : Sub (p :: A) (p :: B) := fun q hq => by
  rcases List.mem_cons.mp hq with rfl | hq
  · exact List.mem_cons_self
  · exact List.mem_cons_of_mem _ (h q hq)
theorem subN {P h : Heap} {L : Addr} {A B : List (Addr × Obj)} (N : News P L h B) (s : Sub A B) : News P L h A := fun p hp => N p (s p hp)

def Fin (P : Heap) (L : Addr) (s : Shared) (J : (Str → Option Value) → List (Addr × Obj) → Prop) (s' : Shared) : Prop :=
  ∃ m' H', Like s s' ∧ Fr P L s'.heap m' ∧ News P L s'.heap H' ∧ J m' H'

def CutQ (P : Heap) (L : Addr) (s : Shared) (J : (Str → Option Value) → List (Addr × Obj) → Prop) (Q : Flow → Shared → Prop) (f : Flow) (s' : Shared) : Prop :=
  match f with
  | .next => Fin P L s J s'
  | f => Q f s'

section
variable {w : World} {A : Around} {P : Heap} {L : Addr} {s s' : Shared} {env : Env} {Q : Flow → Shared → Prop} {m : Str → Option Value} {H : List (Addr × Obj)} {J : (Str → Option Value) → List (Addr × Obj) → Prop}

theorem CutQ.next (k : Like s s') (F : Fr P L s'.heap m) (N : News P L s'.heap H) (j : Bx (∃ H₂, Sub H₂ H ∧ J m H₂)) : CutQ P L s J Q .next s' := by
  obtain ⟨H₂, a, b⟩ := j.out; exact ⟨m, H₂, k, F, subN N a, b⟩
theorem CutQ.ret {v : Value} (h : Q (.ret v) s') : CutQ P L s J Q (.ret v) s' := h

theorem cut {st : Stmt} {rest : List Stmt} (P : Heap) (L : Addr) {s₀ : Shared} (hs₀ : Like s₀ s) (J : (Str → Option Value) → List (Addr × Obj) → Prop) (h1 : ∀ K, Imp2 (CutQ P L s₀ J Q) K → wpAny (model PR w) A (exec st env) K NoE s)
    (h2 : ∀ s' m' H', Like s₀ s' → J m' H' → Fr P L s'.heap m' → News P L s'.heap H' → wpAny (model PR w) A (execs rest env) Q NoE s') :
    wpAny (model PR w) A (execs (st :: rest) env) Q NoE s := by
  refine wpAny_execs_cons (wpAny_mono (h1 _ fun _ _ x => x) (fun f s' h => ?_) fun _ _ e => e)
  cases f with
  | next => obtain ⟨m', H', lk, F, N, j⟩ := h; exact h2 s' m' H' lk j F N
  | brk => exact h
  | cont => exact h
  | ret v => exact h

theorem LoopEnd.ret {own : List (Addr × Obj)} {v : Value} (h : Q (.ret v) s') : LoopEnd P L s own J Q (.ret v) s' := h
theorem WhileEnd.ret {J : Nat → (Str → Option Value) → List (Addr × Obj) → Prop} {n : Nat} {v : Value} (h : Q (.ret v) s') : WhileEnd P L s J n Q (.ret v) s' := h
theorem LoopEnd.next1 {own : Addr × Obj} (k : Like s s') (F : Fr P L s'.heap m) (N : News P L s'.heap H) (j : Bx (∃ H₂, Sub (own :: H₂) H ∧ (∀ p ∈ H₂, p.1 ≠ own.1) ∧ J m H₂)) : LoopEnd P L s [own] J Q .next s' := by
  obtain ⟨H₂, a, b, c⟩ := j.out
  exact ⟨m, H₂, k, F, subN N a, fun p hp q hq => by rw [List.mem_singleton.mp hq]; exact b p hp, c⟩
theorem LoopEnd.cont1 {own : Addr × Obj} (k : Like s s') (F : Fr P L s'.heap m) (N : News P L s'.heap H) (j : Bx (∃ H₂, Sub (own :: H₂) H ∧ (∀ p ∈ H₂, p.1 ≠ own.1) ∧ J m H₂)) : LoopEnd P L s [own] J Q .cont s' := by
  obtain ⟨H₂, a, b, c⟩ := j.out
  exact ⟨m, H₂, k, F, subN N a, fun p hp q hq => by rw [List.mem_singleton.mp hq]; exact b p hp, c⟩
theorem WhileEnd.next' {J : Nat → (Str → Option Value) → List (Addr × Obj) → Prop} {n : Nat} (k : Like s s') (F : Fr P L s'.heap m) (N : News P L s'.heap H) (j : Bx (∃ n', n' < n ∧ J n' m H)) : WhileEnd P L s J n Q .next s' := by
  obtain ⟨n', a, b⟩ := j.out; exact ⟨m, H, n', k, F, N, a, b⟩
end
end
section
open PySem PySem.W PySem.Calls PyProof.Rows

/-- a text by its signs' numbers -/
abbrev S (l : List Nat) : PySem.Str := ⟨l.toArray⟩

theorem S_len (l : List Nat) : (S l).length = l.length := by simp [PySem.Str.length]
theorem S_inj {a b : List Nat} : S a = S b ↔ a = b := by
  constructor
  · intro h; have := congrArg (fun s : PySem.Str => s.cps.toList) h; simpa using this
  · rintro rfl; rfl
theorem S_beq (a b : List Nat) : (S a == S b) = decide (a = b) := by
  by_cases h : a = b
  · subst h; simp
  · have : S a ≠ S b := fun q => h (S_inj.mp q)
    rw [beq_eq_false_iff_ne.mpr this]; simp [h]
theorem S_append (a b : List Nat) : S a ++ S b = S (a ++ b) := by
  show PySem.Str.append (S a) (S b) = _
  simp [PySem.Str.append, S]
theorem S_of (x : PySem.Str) : x = S x.cps.toList := by cases x; simp [S]

def cl (v : Option Int) (d n : Nat) : Nat := match v with
  | none => d
  | some i => (max 0 (min (if i < 0 then i + n else i) n)).toNat

theorem filterMap_range (l : List Nat) (a c : Nat) (h : a + c ≤ l.length) : ((List.range c).map fun k => a + k).filterMap (fun k => l[k]?) = (l.drop a).take c := by
  induction c with
  | zero => simp
  | succ c ih =>
    rw [List.range_succ, List.map_append, List.filterMap_append, ih (by lia)]
    have h1 : a + c < l.length := by lia
    simp only [List.map_cons, List.map_nil, List.filterMap_cons, List.filterMap_nil, List.getElem?_eq_getElem h1]
    rw [List.take_add_one]
    congr 1
    simp [List.getElem?_drop, List.getElem?_eq_getElem h1]

theorem range_1 (a b : Nat) : PySem.sliceRange (a : Int) (b : Int) 1 = (List.range (b - a)).map fun k => a + k := by
  unfold PySem.sliceRange
  have e : (if (a : Int) < b then ((b : Int) - a + 1 - 1) / 1 else 0).toNat = b - a := by
    rw [Int.ediv_one, Int.add_sub_cancel]
    split
    · rw [Int.toNat_sub]
    · rename_i h
      rw [Nat.sub_eq_zero_of_le (Int.ofNat_le.mp (Int.not_lt.mp h))]
      rfl
  simp only [show (1 : Int) > 0 by decide, if_true, e, Int.one_mul]
  rfl
theorem clip_1 (v : Option Int) (d n : Nat) : (match v with | none => (d : Int) | some i => max 0 (min (if i < 0 then i + n else i) n)) = (cl v d n : Int) := by
  cases v with
  | none => rfl
  | some i => exact (Int.toNat_of_nonneg (Int.le_max_left _ _)).symm
theorem sliceIdx (l : List Nat) (lo hi : Option Int) : (PySem.Builtin.Str.strSliceIndices lo hi 1 l.length) = (List.range (cl hi l.length l.length - cl lo 0 l.length)).map fun k => cl lo 0 l.length + k := by
  rw [← range_1, ← clip_1, ← clip_1]
  rfl

theorem slice_S (l : List Nat) (lo hi : Option Int) : Txt.slice (S l) lo hi = S ((l.drop (cl lo 0 l.length)).take (cl hi l.length l.length - cl lo 0 l.length)) := by
  unfold Txt.slice
  rw [S_len, sliceIdx]
  have hb : cl hi l.length l.length ≤ l.length := by unfold cl; cases hi <;> simp <;> lia
  have ha : cl lo 0 l.length ≤ l.length := by unfold cl; cases lo <;> simp <;> lia
  generalize hA : cl lo 0 l.length = a at *
  generalize hB : cl hi l.length l.length = b at *
  have f : ((List.range (b - a)).map fun k => a + k).filterMap (fun k => l.toArray[k]?) = (l.drop a).take (b - a) := by
    rw [← filterMap_range l a (b - a) (by lia)]
    simp
  split
  · rename_i q
    simp at q
    have h0 : a = 0 := by lia
    have h1 : b = l.length := by lia
    subst h0 h1
    simp
  · exact congrArg S f

theorem cl_nat (k d n : Nat) : cl (some (k : Int)) d n = min k n := by
  unfold cl
  dsimp only
  rw [if_neg (Int.not_lt.mpr (Int.natCast_nonneg k))]
  lia
theorem cl_neg (k d n : Nat) (hk : 0 < k) : cl (some (-(k : Int))) d n = n - k := by
  unfold cl
  dsimp only
  rw [if_pos (by lia)]
  lia
theorem slice_from (l : List Nat) (k : Nat) : Txt.slice (S l) (some (k : Int)) none = S (l.drop k) := by
  rw [slice_S, cl_nat]
  congr 1
  show List.take (l.length - _) (List.drop _ l) = _
  rcases Nat.le_total k l.length with h | h
  · rw [Nat.min_eq_left h, List.take_of_length_le (by rw [List.length_drop]; exact Nat.le_refl _)]
  · rw [Nat.min_eq_right h, List.drop_length, List.drop_of_length_le h, List.take_nil]

theorem take_min (l : List Nat) (k : Nat) : l.take (min k l.length) = l.take k := by
  rcases Nat.le_total k l.length with h | h
  · rw [Nat.min_eq_left h]
  · rw [Nat.min_eq_right h, List.take_length, List.take_of_length_le h]
theorem slice_to (l : List Nat) (k : Nat) : Txt.slice (S l) none (some (k : Int)) = S (l.take k) := by
  rw [slice_S, cl_nat]
  show S (List.take (_ - 0) (List.drop 0 l)) = _
  rw [Nat.sub_zero, List.drop_zero, take_min]

theorem slice_to_neg (l : List Nat) (k : Nat) (hk : 0 < k) : Txt.slice (S l) none (some (-(k : Int))) = S (l.take (l.length - k)) := by
  rw [slice_S, cl_neg _ _ _ hk]
  show S (List.take (_ - 0) (List.drop 0 l)) = _
  rw [Nat.sub_zero, List.drop_zero]



theorem item_S (l : List Nat) (k : Nat) (h : k < l.length) : Txt.item (S l) (k : Int) = S [l[k]] := by
  unfold Txt.item Txt.charAt PySem.seqIndex?
  rw [S_len]
  have h1 : ¬ ((k : Int) < 0) := by lia
  simp [h1, h]

theorem item_S_neg (l : List Nat) (k : Nat) (h0 : 0 < k) (h : k ≤ l.length) : Txt.item (S l) (-(k : Int)) = S [l[l.length - k]'(by lia)] := by
  unfold Txt.item Txt.charAt PySem.seqIndex?
  rw [S_len]
  have h1 : ((-(k : Int)) < 0) := by lia
  have h2 : (0 ≤ -(k : Int) + l.length) := by lia
  have h3 : (-(k : Int) + l.length).toNat = l.length - k := by lia
  have h4 : l.length - k < l.length := by lia
  simp only [if_pos h1, h3]
  have h5 : (decide (0 ≤ -(k : Int) + l.length) && decide (-(k : Int) + l.length < l.length)) = true := by simp; lia
  rw [if_pos h5]
  simp [h4]
end
section
open PySem PySem.W PySem.Calls PyProof.Rows
open PySem PySem.W PySem.Calls PyProof.Rows

structure HaltIf : Prop where

theorem ite_ways {c : Prop} [Decidable c] {a b : Prop} (h1 : c → a) (h2 : ¬ c → b) : if c then a else b := by by_cases h : c <;> simp [h, h1, h2]

def lcp : List Nat → List Nat → Nat
  | x :: xs, y :: ys => if x = y then lcp xs ys + 1 else 0
  | _, _ => 0

theorem lcp_nil_left (b : List Nat) : lcp [] b = 0 := by cases b <;> rfl
theorem lcp_nil_right (a : List Nat) : lcp a [] = 0 := by cases a <;> rfl
theorem lcp_drop : ∀ (k : Nat) (a b : List Nat), a.take k = b.take k → k ≤ a.length → k ≤ b.length → lcp a b = k + lcp (a.drop k) (b.drop k)
  | 0, a, b, _, _, _ => by simp
  | k + 1, [], b, _, h, _ => by simp at h
  | k + 1, a, [], _, _, h => by simp at h
  | k + 1, x :: xs, y :: ys, h, ha, hb => by
    simp only [List.take_succ_cons, List.cons.injEq] at h
    obtain ⟨rfl, h⟩ := h
    have := lcp_drop k xs ys h (by simpa using ha) (by simpa using hb)
    simp only [lcp, if_true, List.drop_succ_cons]
    lia

theorem drop_cons {l : List Nat} {k : Nat} (h : k < l.length) : l.drop k = l[k] :: l.drop (k + 1) := List.drop_eq_getElem_cons h





theorem lcp_end {a b : List Nat} {k : Nat} (h : a.take k = b.take k) (ha : k ≤ a.length) (hb : k ≤ b.length) (e : a.length ≤ k ∨ b.length ≤ k ∨ ∃ (h1 : k < a.length) (h2 : k < b.length), a[k] ≠ b[k]) : lcp a b = k := by
  rw [lcp_drop k a b h ha hb]
  rcases e with e | e | ⟨h1, h2, e⟩
  · rw [List.drop_of_length_le e, lcp_nil_left]; rfl
  · rw [List.drop_of_length_le e, lcp_nil_right]; rfl
  · rw [drop_cons h1, drop_cons h2]; simp [lcp, e]

theorem take_one_more {a b : List Nat} {k : Nat} (h : a.take k = b.take k) (h1 : k < a.length) (h2 : k < b.length) (e : a[k] = b[k]) : a.take (k + 1) = b.take (k + 1) := by
  rw [List.take_add_one, List.take_add_one, h, List.getElem?_eq_getElem h1, List.getElem?_eq_getElem h2, e]

theorem slice_all (l : List Nat) : Txt.slice (S l) none none = S l := by
  rw [slice_S]; simp [cl]




end
section
open PySem PySem.W PySem.Calls PyProof.Rows
open PySem PySem.W PySem.Calls PyProof.Rows
open PySem PySem.W PySem.Calls PyProof.Rows
section
variable {w : World} {A : Around} {E : Value → Shared → Prop} {s : Shared} {value slice : PySem.Expr} {l : List Nat} {t : Tok} {P : Heap} {L : Addr} {m : Str → Option Value} {H : List (Addr × Obj)} {Q : Value → Shared → Prop}

theorem sl_from_eq {i : Int} (h : 0 ≤ i) : Txt.slice (S l) (some i) none = S (l.drop i.toNat) := by
  have := slice_from l i.toNat
  rwa [Int.toNat_of_nonneg h] at this
theorem sl_to_eq {j : Int} (h : 0 ≤ j) : Txt.slice (S l) none (some j) = S (l.take j.toNat) := by
  have := slice_to l j.toNat
  rwa [Int.toNat_of_nonneg h] at this
theorem sl_toneg_eq {j : Int} (h : j < 0) : Txt.slice (S l) none (some j) = S (l.take (l.length + j).toNat) := by
  obtain ⟨k, rfl⟩ := Int.eq_negSucc_of_lt_zero h
  rw [Int.negSucc_eq, ← Int.natCast_succ, slice_to_neg l (k + 1) (Nat.succ_pos _)]
  congr 2
  lia

theorem sl_ij_eq {i j : Int} (h : 0 ≤ i) (hj : 0 ≤ j) : Txt.slice (S l) (some i) (some j) = S ((l.take j.toNat).drop i.toNat) := by
  obtain ⟨a, rfl⟩ := Int.eq_ofNat_of_zero_le h
  obtain ⟨b, rfl⟩ := Int.eq_ofNat_of_zero_le hj
  rw [slice_S, cl_nat, cl_nat, Int.toNat_natCast, Int.toNat_natCast, List.drop_take]
  congr 1
  rcases Nat.le_total a l.length with h1 | h1
  · rw [Nat.min_eq_left h1]
    rcases Nat.le_total b l.length with h2 | h2
    · rw [Nat.min_eq_left h2]
    · rw [Nat.min_eq_right h2, List.take_of_length_le (by rw [List.length_drop]; exact Nat.le_refl _), List.take_of_length_le (by rw [List.length_drop]; exact Nat.sub_le_sub_right h2 a)]
  · rw [Nat.min_eq_right h1, List.drop_length, List.drop_of_length_le h1, List.take_nil, List.take_nil]

theorem S_size {l : List Nat} (hl : l.length ≤ 100000) : (S l).length ≤ sizeLine := by rw [S_len, sizeLine_eq]; lia

theorem sl_nn (hl : l.length ≤ 100000) (hF : Fr P L s.heap m) (hN : News P L s.heap H) (h : ∀ h' t' k, Fr P L h' m → News P L h' H → Q (.str (S l) t') { s with heap := h', toks := k })
    (hs : subscripted slice false (.str (S l) t) (.ref s.heap.objs.size) = operate [.ref s.heap.objs.size, .str (S l) t] (getItem (.str (S l) t) (.ref s.heap.objs.size)) := by with_unfolding_all rfl)
    (ht : ∀ r, letTemporaryGo value (.str (S l) t) r = pure () := by intro _; with_unfolding_all rfl) :
    wpAny (model PR w) A (subscriptTail value slice (.str (S l) t) (.ref s.heap.objs.size)) Q E { s with heap := s.heap.push { cls := .type "slice", data := .fields #[.none, .none, .none] } } :=
  slice_strN_nn hF hN (fun h' t' k F N => by rw [slice_all]; exact h h' t' k F N) hs ht (S_size hl)
theorem sl_from {i : Int} {ui : Tok} (hi : 0 ≤ i) (hl : l.length ≤ 100000) (hF : Fr P L s.heap m) (hN : News P L s.heap H) (h : ∀ h' t' k, Fr P L h' m → News P L h' H → Q (.str (S (l.drop i.toNat)) t') { s with heap := h', toks := k })
    (hs : subscripted slice false (.str (S l) t) (.ref s.heap.objs.size) = operate [.ref s.heap.objs.size, .str (S l) t] (getItem (.str (S l) t) (.ref s.heap.objs.size)) := by with_unfolding_all rfl)
    (ht : ∀ r, letTemporaryGo value (.str (S l) t) r = pure () := by intro _; with_unfolding_all rfl) :
    wpAny (model PR w) A (subscriptTail value slice (.str (S l) t) (.ref s.heap.objs.size)) Q E { s with heap := s.heap.push { cls := .type "slice", data := .fields #[.int i ui, .none, .none] } } :=
  slice_strN_sn hF hN (fun h' t' k F N => by rw [sl_from_eq hi]; exact h h' t' k F N) hs ht (S_size hl)
theorem sl_to {j : Int} {uj : Tok} (hj : 0 ≤ j) (hl : l.length ≤ 100000) (hF : Fr P L s.heap m) (hN : News P L s.heap H) (h : ∀ h' t' k, Fr P L h' m → News P L h' H → Q (.str (S (l.take j.toNat)) t') { s with heap := h', toks := k })
    (hs : subscripted slice false (.str (S l) t) (.ref s.heap.objs.size) = operate [.ref s.heap.objs.size, .str (S l) t] (getItem (.str (S l) t) (.ref s.heap.objs.size)) := by with_unfolding_all rfl)
    (ht : ∀ r, letTemporaryGo value (.str (S l) t) r = pure () := by intro _; with_unfolding_all rfl) :
    wpAny (model PR w) A (subscriptTail value slice (.str (S l) t) (.ref s.heap.objs.size)) Q E { s with heap := s.heap.push { cls := .type "slice", data := .fields #[.none, .int j uj, .none] } } :=
  slice_strN_ns hF hN (fun h' t' k F N => by rw [sl_to_eq hj]; exact h h' t' k F N) hs ht (S_size hl)
theorem sl_toneg {j : Int} {uj : Tok} (hj : j < 0) (hl : l.length ≤ 100000) (hF : Fr P L s.heap m) (hN : News P L s.heap H) (h : ∀ h' t' k, Fr P L h' m → News P L h' H → Q (.str (S (l.take (l.length + j).toNat)) t') { s with heap := h', toks := k })
    (hs : subscripted slice false (.str (S l) t) (.ref s.heap.objs.size) = operate [.ref s.heap.objs.size, .str (S l) t] (getItem (.str (S l) t) (.ref s.heap.objs.size)) := by with_unfolding_all rfl)
    (ht : ∀ r, letTemporaryGo value (.str (S l) t) r = pure () := by intro _; with_unfolding_all rfl) :
    wpAny (model PR w) A (subscriptTail value slice (.str (S l) t) (.ref s.heap.objs.size)) Q E { s with heap := s.heap.push { cls := .type "slice", data := .fields #[.none, .int j uj, .none] } } :=
  slice_strN_ns hF hN (fun h' t' k F N => by rw [sl_toneg_eq hj]; exact h h' t' k F N) hs ht (S_size hl)
theorem sl_ij {i j : Int} {ui uj : Tok} (hi : 0 ≤ i) (hj : 0 ≤ j) (hl : l.length ≤ 100000) (hF : Fr P L s.heap m) (hN : News P L s.heap H) (h : ∀ h' t' k, Fr P L h' m → News P L h' H → Q (.str (S ((l.take j.toNat).drop i.toNat)) t') { s with heap := h', toks := k })
    (hs : subscripted slice false (.str (S l) t) (.ref s.heap.objs.size) = operate [.ref s.heap.objs.size, .str (S l) t] (getItem (.str (S l) t) (.ref s.heap.objs.size)) := by with_unfolding_all rfl)
    (ht : ∀ r, letTemporaryGo value (.str (S l) t) r = pure () := by intro _; with_unfolding_all rfl) :
    wpAny (model PR w) A (subscriptTail value slice (.str (S l) t) (.ref s.heap.objs.size)) Q E { s with heap := s.heap.push { cls := .type "slice", data := .fields #[.int i ui, .int j uj, .none] } } :=
  slice_strN_ss hF hN (fun h' t' k F N => by rw [sl_ij_eq hi hj]; exact h h' t' k F N) hs ht (S_size hl)

theorem getD_at {l : List Nat} {k : Nat} (h : k < l.length) : l.getD k 0 = l[k] := by simp [List.getD, h]

theorem it_nat {i : Int} {u : Tok} (hi : 0 ≤ i) (hi' : i < l.length) (hl : l.length ≤ 100000) (h : Q (.str (S [l.getD i.toNat 0]) s.toks) { s with toks := s.toks + 1 })
    (hs : subscripted slice false (.str (S l) t) (.int i u) = operate [.str (S l) t, .int i u] (getItem (.str (S l) t) (.int i u)) := by with_unfolding_all rfl)
    (ht : ∀ r, letTemporaryGo value (.str (S l) t) r = pure () := by intro _; with_unfolding_all rfl) :
    wpAny (model PR w) A (subscriptTail value slice (.str (S l) t) (.int i u)) Q E s := by
  have e : Txt.item (S l) i = S [l.getD i.toNat 0] := by
    have := item_S l i.toNat (by lia)
    rw [Int.toNat_of_nonneg hi] at this
    rw [this, getD_at]
  have hc : (Txt.charAt (S l) i).isSome = true := by
    unfold Txt.charAt PySem.seqIndex?
    rw [S_len]
    have h1 : ¬ (i < 0) := by lia
    have h2 : i.toNat < l.length := by lia
    simp [h1, hi, hi', h2]
  exact tail_of_ItemOn (SB.item (fitsSsize_of (N := 9223372036854775808) (by lia) (by lia) (Int.le_refl _)) hc (by rw [e]; exact h)) hs ht
theorem it_neg {i : Int} {u : Tok} (hi : i < 0) (hi' : -(l.length : Int) ≤ i) (hl : l.length ≤ 100000) (h : Q (.str (S [l.getD (l.length + i).toNat 0]) s.toks) { s with toks := s.toks + 1 })
    (hs : subscripted slice false (.str (S l) t) (.int i u) = operate [.str (S l) t, .int i u] (getItem (.str (S l) t) (.int i u)) := by with_unfolding_all rfl)
    (ht : ∀ r, letTemporaryGo value (.str (S l) t) r = pure () := by intro _; with_unfolding_all rfl) :
    wpAny (model PR w) A (subscriptTail value slice (.str (S l) t) (.int i u)) Q E s := by
  obtain ⟨k, rfl⟩ : ∃ k : Nat, i = -(k : Int) := ⟨i.natAbs, by lia⟩
  have e : Txt.item (S l) (-(k : Int)) = S [l.getD (l.length + -(k : Int)).toNat 0] := by
    rw [item_S_neg l k (by lia) (by lia)]
    have : (l.length + -(k : Int)).toNat = l.length - k := by lia
    rw [this, getD_at]
  have hc : (Txt.charAt (S l) (-(k : Int))).isSome = true := by
    unfold Txt.charAt PySem.seqIndex?
    rw [S_len]
    have h3 : (-(k : Int) + l.length).toNat = l.length - k := by lia
    have h4 : l.length - k < l.length := by lia
    simp only [if_pos hi, h3]
    have h5 : (decide (0 ≤ -(k : Int) + l.length) && decide (-(k : Int) + l.length < l.length)) = true := by simp; lia
    rw [if_pos h5]
    simp [h4]
  exact tail_of_ItemOn (SB.item (fitsSsize_of (N := 9223372036854775808) (by lia) (by lia) (Int.le_refl _)) hc (by rw [e]; exact h)) hs ht

theorem truthy_S (hl : l.length ≤ 100000) {Q : Bool → Shared → Prop} (h : Q (decide (l ≠ [])) { s with toks := s.toks + 1 + 1 }) : wpAny (model PR w) A (truthy (.str (S l) t)) Q E s := by
  refine PySem.P.truthy_str (by rw [S_len]; lia) ?_
  have e : (((S l).length : Int) != 0) = decide (l ≠ []) := by
    rw [S_len]
    cases l <;> simp
    lia
  rw [e]; exact h
theorem sl_from_nat {i : Nat} {ui : Tok} (hl : l.length ≤ 100000) (hF : Fr P L s.heap m) (hN : News P L s.heap H) (h : ∀ h' t' k, Fr P L h' m → News P L h' H → Q (.str (S (l.drop i)) t') { s with heap := h', toks := k })
    (hs : subscripted slice false (.str (S l) t) (.ref s.heap.objs.size) = operate [.ref s.heap.objs.size, .str (S l) t] (getItem (.str (S l) t) (.ref s.heap.objs.size)) := by with_unfolding_all rfl)
    (ht : ∀ r, letTemporaryGo value (.str (S l) t) r = pure () := by intro _; with_unfolding_all rfl) :
    wpAny (model PR w) A (subscriptTail value slice (.str (S l) t) (.ref s.heap.objs.size)) Q E { s with heap := s.heap.push { cls := .type "slice", data := .fields #[.int (i : Int) ui, .none, .none] } } :=
  sl_from (by lia) hl hF hN (by simpa using h) hs ht
theorem sl_to_nat {j : Nat} {uj : Tok} (hl : l.length ≤ 100000) (hF : Fr P L s.heap m) (hN : News P L s.heap H) (h : ∀ h' t' k, Fr P L h' m → News P L h' H → Q (.str (S (l.take j)) t') { s with heap := h', toks := k })
    (hs : subscripted slice false (.str (S l) t) (.ref s.heap.objs.size) = operate [.ref s.heap.objs.size, .str (S l) t] (getItem (.str (S l) t) (.ref s.heap.objs.size)) := by with_unfolding_all rfl)
    (ht : ∀ r, letTemporaryGo value (.str (S l) t) r = pure () := by intro _; with_unfolding_all rfl) :
    wpAny (model PR w) A (subscriptTail value slice (.str (S l) t) (.ref s.heap.objs.size)) Q E { s with heap := s.heap.push { cls := .type "slice", data := .fields #[.none, .int (j : Int) uj, .none] } } :=
  sl_to (by lia) hl hF hN (by simpa using h) hs ht
theorem sl_toneg_nat {j : Nat} {uj : Tok} (hj : 0 < j) (hl : l.length ≤ 100000) (hF : Fr P L s.heap m) (hN : News P L s.heap H) (h : ∀ h' t' k, Fr P L h' m → News P L h' H → Q (.str (S (l.take (l.length - j))) t') { s with heap := h', toks := k })
    (hs : subscripted slice false (.str (S l) t) (.ref s.heap.objs.size) = operate [.ref s.heap.objs.size, .str (S l) t] (getItem (.str (S l) t) (.ref s.heap.objs.size)) := by with_unfolding_all rfl)
    (ht : ∀ r, letTemporaryGo value (.str (S l) t) r = pure () := by intro _; with_unfolding_all rfl) :
    wpAny (model PR w) A (subscriptTail value slice (.str (S l) t) (.ref s.heap.objs.size)) Q E { s with heap := s.heap.push { cls := .type "slice", data := .fields #[.none, .int (-(j : Int)) uj, .none] } } :=
  sl_toneg (by lia) hl hF hN (by
    have e : ((l.length : Int) + -(j : Int)).toNat = l.length - j := by lia
    rw [e]; exact h) hs ht
theorem sl_ij_nat {i j : Nat} {ui uj : Tok} (hl : l.length ≤ 100000) (hF : Fr P L s.heap m) (hN : News P L s.heap H) (h : ∀ h' t' k, Fr P L h' m → News P L h' H → Q (.str (S ((l.take j).drop i)) t') { s with heap := h', toks := k })
    (hs : subscripted slice false (.str (S l) t) (.ref s.heap.objs.size) = operate [.ref s.heap.objs.size, .str (S l) t] (getItem (.str (S l) t) (.ref s.heap.objs.size)) := by with_unfolding_all rfl)
    (ht : ∀ r, letTemporaryGo value (.str (S l) t) r = pure () := by intro _; with_unfolding_all rfl) :
    wpAny (model PR w) A (subscriptTail value slice (.str (S l) t) (.ref s.heap.objs.size)) Q E { s with heap := s.heap.push { cls := .type "slice", data := .fields #[.int (i : Int) ui, .int (j : Int) uj, .none] } } :=
  sl_ij (by lia) (by lia) hl hF hN (by simpa using h) hs ht
theorem it_nat_nat {i : Nat} {u : Tok} (hi' : i < l.length) (hl : l.length ≤ 100000) (h : Q (.str (S [l.getD i 0]) s.toks) { s with toks := s.toks + 1 })
    (hs : subscripted slice false (.str (S l) t) (.int ((i : Int)) u) = operate [.str (S l) t, .int ((i : Int)) u] (getItem (.str (S l) t) (.int ((i : Int)) u)) := by with_unfolding_all rfl)
    (ht : ∀ r, letTemporaryGo value (.str (S l) t) r = pure () := by intro _; with_unfolding_all rfl) :
    wpAny (model PR w) A (subscriptTail value slice (.str (S l) t) (.int ((i : Int)) u)) Q E s :=
  it_nat (by lia) (by lia) hl (by simpa using h) hs ht
theorem it_neg1 {k : Nat} {u : Tok} (hi' : k < l.length) (hl : l.length ≤ 100000) (h : Q (.str (S [l.reverse.getD k 0]) s.toks) { s with toks := s.toks + 1 })
    (hs : subscripted slice false (.str (S l) t) (.int (-(k : Int) - 1) u) = operate [.str (S l) t, .int (-(k : Int) - 1) u] (getItem (.str (S l) t) (.int (-(k : Int) - 1) u)) := by with_unfolding_all rfl)
    (ht : ∀ r, letTemporaryGo value (.str (S l) t) r = pure () := by intro _; with_unfolding_all rfl) :
    wpAny (model PR w) A (subscriptTail value slice (.str (S l) t) (.int (-(k : Int) - 1) u)) Q E s :=
  it_neg (by lia) (by lia) hl (by
    have e : ((l.length : Int) + (-(k : Int) - 1)).toNat = l.length - 1 - k := by lia
    have e2 : l.reverse.getD k 0 = l.getD (l.length - 1 - k) 0 := by
      rw [getD_at (by simpa using hi'), getD_at (by lia), List.getElem_reverse]
    rw [e, ← e2]; exact h) hs ht
end
end
section
open PySem PySem.W PySem.Calls PyProof.Rows
open PySem PySem.W PySem.Calls PyProof.Rows
open PySem PySem.W PySem.Calls PyProof.Rows
open PySem PySem.W PySem.Calls PyProof.Rows
theorem lcp_stop {a b : List Nat} {k : Nat} (h : a.take k = b.take k) (ha : k ≤ a.length) (hb : k ≤ b.length) (e : a.length ≤ k ∨ b.length ≤ k ∨ ¬ a.getD k 0 = b.getD k 0) : lcp a b = k := by
  by_cases h1 : a.length ≤ k
  · exact lcp_end h ha hb (.inl h1)
  by_cases h2 : b.length ≤ k
  · exact lcp_end h ha hb (.inr (.inl h2))
  refine lcp_end h ha hb (.inr (.inr ⟨by lia, by lia, ?_⟩))
  rcases e with e | e | e
  · exact absurd e h1
  · exact absurd e h2
  · rwa [getD_at (by lia), getD_at (by lia)] at e
theorem take_more {a b : List Nat} {k : Nat} (h : a.take k = b.take k) (h1 : ¬ a.length ≤ k) (h2 : ¬ b.length ≤ k) (e : a.getD k 0 = b.getD k 0) : a.take (k + 1) = b.take (k + 1) := by
  rw [getD_at (by lia), getD_at (by lia)] at e
  exact take_one_more h (by lia) (by lia) e
theorem lcp_le_left : ∀ (a b : List Nat), lcp a b ≤ a.length
  | [], b => by rw [lcp_nil_left]; exact Nat.zero_le _
  | x :: xs, [] => by rw [lcp_nil_right]; exact Nat.zero_le _
  | x :: xs, y :: ys => by unfold lcp; split; (have := lcp_le_left xs ys; simp only [List.length_cons]; lia); exact Nat.zero_le _
theorem lcp_le_right : ∀ (a b : List Nat), lcp a b ≤ b.length
  | [], b => by rw [lcp_nil_left]; exact Nat.zero_le _
  | x :: xs, [] => by rw [lcp_nil_right]; exact Nat.zero_le _
  | x :: xs, y :: ys => by unfold lcp; split; (have := lcp_le_right xs ys; simp only [List.length_cons]; lia); exact Nat.zero_le _
theorem nil_len (l : List Nat) : (l = []) = (l.length = 0) := by cases l <;> simp
theorem execs_cons_s {M : Model} {A : Around} {E : Value → Shared → Prop} {env : Env} {st : Stmt} {rest : List Stmt} {Q : Flow → Shared → Prop} {P : Heap} {L : Addr} {z s : Shared} {m : Str → Option Value} {H : List (Addr × Obj)}
    (lk : Like z s) (F : Fr P L s.heap m) (N : News P L s.heap H) (hh : ∀ s₁, Like z s₁ → Fr P L s₁.heap m → News P L s₁.heap H → wpAny M A (exec st env) (fun f s' => match f with | .next => wpAny M A (execs rest env) Q E s' | f => Q f s') E s₁) : wpAny M A (execs (st :: rest) env) Q E s := wpAny_execs_cons (hh s lk F N)
theorem vi {a b : Int} {t : Tok} (h : a = b) : some (Value.int a t) = some (Value.int b t) := by rw [h]
end
section
open PySem PySem.W PySem.Calls PyProof.Rows
section
variable {w : World} {A : Around} {E : Value → Shared → Prop} {s : Shared} {l : List Nat} {t : Tok} {P : Heap} {L : Addr} {m : Str → Option Value} {H : List (Addr × Obj)} {Q : Value → Shared → Prop}
theorem len_S (hl : l.length ≤ 100000) (h : Q (.int (l.length : Nat) (s.toks + 1)) { s with toks := s.toks + 1 + 1 }) : wpAny (model PR w) A (call (.builtin "len") [.str (S l) t]) Q E s :=
  PySem.P.len_str (by rw [S_len]; lia) (by rw [S_len]; exact h)

theorem rangeSize_two (n : Nat) : Builtin.Range.rangeSize 2 (2 * ((n : Int) + 1)) 2 = (n : Int) := by
  unfold Builtin.Range.rangeSize
  rw [if_pos (by decide : (2 : Int) > 0)]
  split <;> lia
theorem small_two (n : Nat) (h : n ≤ 100000) : Builtin.Range.small 2 (2 * ((n : Int) + 1)) 2 = true := by
  unfold Builtin.Range.small
  rw [rangeSize_two]
  rw [if_pos (by decide : (2 : Int) > 0)]
  simp only [Builtin.Range.rangeFitsLong, Bool.and_eq_true, Bool.or_eq_true, decide_eq_true_eq, beq_iff_eq]
  lia

/-- the first row: two, four .. -/
def row0 (n : Nat) : List Int := rangeInts 2 2 n
theorem CarriedAll.ints {vs : List Value} {ns : List Int} (h : CarriedAll vs (ns.map .int)) : IntsAre vs ns := by simpa using CarriedAll.intsOf h

theorem list_range2 {r : Addr} {n : Nat} {t u v : Tok} (hh : A.handled = none) (F : Fr P L s.heap m) (N : News P L s.heap H) (hr : IsRange s.heap r 2 (2 * ((n : Int) + 1)) 2 t u v) (hn : n ≤ 100000) {z : Shared} (lk : Like z s)
    (h : ∀ l s' vs c, Like z s' → Fr P L s'.heap m → News P L s'.heap ((l, listOf vs.toArray c) :: H) → (∀ p ∈ H, p.1 ≠ l) → IntsAre vs (row0 n) → Q (.ref l) s') :
    wpAny (model PR w) A (call (.type "list") [.ref r]) Q E s := by
  refine list_rangeD hh F N hr (small_two n hn) (rangeSize_two n) (by lia) fun h' tk ys F' N' hk hn0 hl np ca => ?_
  obtain ⟨c, ho⟩ := np.1
  refine h s.heap.objs.size _ ys c (lk.trans Like.mk') F' (fun p hp => ?_) (fun p hp => Nat.ne_of_lt (Heap.lt_size (N p hp).1)) (CarriedAll.ints ca)
  rcases List.mem_cons.mp hp with rfl | hp
  · exact ⟨ho, np.ne_locals F', hn0⟩
  · exact N' p hp
end

/-- the price of one sign for another -/
def cst (a b : Nat) : Int := if a = b then 0 else if Txt.lower (S [a]) = Txt.lower (S [b]) then 1 else 2
def big : Int := 9223372036854775807
structure RSt where
  row : List Int
  dist : Int
  res : Int
  mn : Int
/-- the inner loop's state behind j turns -/
def rowSt (c : Nat) (x : List Nat) (row : List Int) (d : Int) : Nat → RSt
  | 0 => ⟨row, d, d, big⟩
  | j + 1 =>
    let st := rowSt c x row d j
    let sub := st.dist + cst c (x.getD j 0)
    let dist' := st.row.getD j 0
    let idl := (if dist' < st.res then dist' else st.res) + 2
    let res' := if sub < idl then sub else idl
    ⟨st.row.set j res', dist', res', if res' < st.mn then res' else st.mn⟩
def scan (x y : List Nat) (M : Int) : Nat → Nat → List Int → Int → Int
  | 0, _, _, res => res
  | n + 1, i, row, _ =>
    let st := rowSt (y.getD i 0) x row (i * 2) x.length
    if st.mn > M then M + 1 else scan x y M n (i + 1) st.row st.res
def levF (la lb : List Nat) (M : Int) : Int :=
  if la = lb then 0 else
  let k0 := lcp la lb
  let a := la.drop k0
  let b := lb.drop k0
  let k1 := lcp a.reverse b.reverse
  let a := a.take (a.length - k1)
  let b := b.take (b.length - k1)
  if a.length = 0 ∨ b.length = 0 then 2 * (a.length + b.length) else
  let x := if b.length < a.length then b else a
  let y := if b.length < a.length then a else b
  if ((y.length : Int) - x.length) * 2 > M then M + 1 else scan x y M y.length 0 (row0 x.length) 0
theorem rowSt_len (c : Nat) (x : List Nat) (row : List Int) (d : Int) : ∀ j, (rowSt c x row d j).row.length = row.length
  | 0 => rfl
  | j + 1 => by simp only [rowSt, List.length_set]; exact rowSt_len c x row d j
def rowNext (st : RSt) (c d j : Nat) : RSt :=
    let sub := st.dist + cst c d
    let dist' := st.row.getD j 0
    let idl := (if dist' < st.res then dist' else st.res) + 2
    let res' := if sub < idl then sub else idl
    ⟨st.row.set j res', dist', res', if res' < st.mn then res' else st.mn⟩
theorem rowSt_succ (c : Nat) (x : List Nat) (row : List Int) (d : Int) (j : Nat) : rowSt c x row d (j + 1) = rowNext (rowSt c x row d j) c (x.getD j 0) j := rfl
end
section
open PySem PySem.W PySem.Calls PyProof.Rows
theorem slot_ci_next : Slot "callable_iterator" "__next__" "callable_iterator.__next__" :=
  .of (owner := "callable_iterator") (n := "__next__") (by rw [typeLookup_type, builtinLookup_eq_fast]; kernel_rfl) (by decide +kernel) (by decide +kernel) (by decide +kernel)
    (by first | exact .inl (by decide +kernel) | exact .inr (by decide +kernel)) (by rw [isSubtype_type]; kernel_rfl)
theorem entry_ci_next : entryFor table "callable_iterator.__next__" = some Builtin.«callable_iterator.__next__» := entryFor_of_tree (by kernel_rfl)
theorem args_ci_next (a : Value) : argsOk "callable_iterator.__next__" ⟨[a], []⟩ := by unfold argsOk; kernel_rfl
theorem slot_ci_iter : Slot "callable_iterator" "__iter__" "callable_iterator.__iter__" :=
  .of (owner := "callable_iterator") (n := "__iter__") (by rw [typeLookup_type, builtinLookup_eq_fast]; kernel_rfl) (by decide +kernel) (by decide +kernel) (by decide +kernel)
    (by first | exact .inl (by decide +kernel) | exact .inr (by decide +kernel)) (by rw [isSubtype_type]; kernel_rfl)
theorem entry_iter : entryFor table "iter" = some Builtin.«iter» := entryFor_of_tree (by kernel_rfl)

abbrev ciEnd : Obj := { cls := .type "callable_iterator", data := .fields #[.none, .none, .bool true] }
abbrev ciObj (f s0 : Value) (e : Bool) : Obj := { cls := .type "callable_iterator", data := .fields #[f, s0, .bool e] }

section
variable {w : World} {M : Model} {A : Around} {E : Value → Shared → Prop} {s : Shared}
theorem wpAny_callBorrowed {f : Value} {pos : List Value} {Q : Value → Shared → Prop}
    (hc : codeAny M A (.call f ⟨pos, []⟩) (fun r s' => match r with | .ok (.ret v) => Q v s' | .ok _ => False | .error e => E e s') s) : wpAny M A (callBorrowed f pos) Q E s := fun Γ p hΓ => by
  unfold callBorrowed
  rw [Sem.wp_call]
  refine wpCode_mono (fun r s' h => ?_) (hc _ p rfl (hΓ.enter _ none p (by intro x; cases x)))
  cases r with
  | ok f => cases f <;> first | exact h | exact h.elim
  | error e => exact h

theorem borrows_method {q fn : Addr} {self : Value} {ofn : Obj} {fd : FuncData} {Q : Bool → Shared → Prop} (hq : s.heap.get? q = some (methodObj (.ref fn) self)) (hf : s.heap.get? fn = some ofn) (hfd : ofn.data = .func fd) (h : Q true s) :
    wpAny M A (borrowsExactly (.ref q)) Q E s := by
  unfold borrowsExactly
  dsimp only
  refine wpAny_bind (wpAny_load hq ?_)
  show wpAny M A (load fn >>= fun o => match o.data with | .func _ => pure true | _ => pure false) Q E s
  refine wpAny_bind (wpAny_load hf ?_)
  rw [hfd]
  exact wpAny_pure h

theorem stop_it {α : Type} {Qa : α → Shared → Prop} (hh : A.handled = none)
    (h : ∀ e h', (∀ b o, s.heap.get? b = some o → h'.get? b = some o) → (∃ oe, h'.get? e = some oe ∧ oe.cls = .type "StopIteration") → E (.ref e) { s with heap := h' }) :
    wpAny M A (Builtin.SmallTypes.stopIteration : Sem α) Qa E s := by
  unfold Builtin.SmallTypes.stopIteration
  refine wpAny_bind ?_
  show wpAny _ _ (newExc (.type "StopIteration") []) _ _ _
  simp only [newExc, newTuple]
  refine wpAny_bind (wpAny_newObj_type ?_ (by size_fits))
  refine wpAny_bind (m := firstArgMember _ _) (wpAny_of_eq (a := Value.none) (by first | rfl | (simp only [firstArgMember]; rfl)) ?_)
  refine wpAny_newObj_type ?_ (by size_fits)
  simp only [raiseNew]
  refine wpAny_bind (wpAny_handled ?_)
  rw [hh]
  refine wpAny_bind (wpAny_pure (wpAny_throw ?_))
  exact h _ _ (fun b o e => Heap.get?_push_of_some _ (Heap.get?_push_of_some _ e)) ⟨_, Heap.get?_push_size _ rfl, rfl⟩
end

section
variable {w : World} {A : Around} {E : Value → Shared → Prop} {s : Shared}
/-- the next of a callable iterator: what is called, and what comes of it -/
theorem ci_next {I q fn : Addr} {self : Value} {ofn : Obj} {fd : FuncData} {t : Tok} {Q : Option Value → Shared → Prop} (hh : A.handled = none)
    (hI : s.heap.get? I = some (ciObj (.ref q) (.str "" t) false)) (hq : s.heap.get? q = some (methodObj (.ref fn) self)) (hf : s.heap.get? fn = some ofn) (hfd : ofn.data = .func fd)
    (h : codeAny (model PR w) A.in1 (.call (.ref q) ⟨[], []⟩) (fun r s' => ∃ c tk, r = .ok (.ret (.str (S c) tk)) ∧ s'.heap.get? I = some (ciObj (.ref q) (.str "" t) false) ∧ s'.heap.get? q = some (methodObj (.ref fn) self) ∧ (∃ o, s'.heap.get? fn = some o ∧ o.data = .func fd) ∧
      (c ≠ [] → Q (some (.str (S c) tk)) s') ∧ (c = [] → ∀ h', Heap.ExtBut I s'.heap h' → h'.get? I = some ciEnd → Q none { s' with heap := h' })) s) :
    wpAny (model PR w) A (pyNext (.ref I)) Q E s := by
  have hT : s.TypeIs (.ref I) "callable_iterator" := ⟨_, hI, rfl⟩
  unfold pyNext
  refine wpAny_bind (wpAny_attempt (wpAny_callSpecial?_slot (name := Str.ofString "__next__") hT slot_ci_next (wpAny_call_entry slot_ci_next hT entry_ci_next ?_ (args_ci_next _))))
  unfold Builtin.«callable_iterator.__next__»
  show wpAny _ _ (field (.ref I) 2 >>= _) _ _ s
  refine wpAny_bind (wpAny_field hI rfl (x := .bool false) rfl ?_)
  show wpAny _ _ (field (.ref I) 0 >>= _) _ _ s
  refine wpAny_bind (wpAny_field hI rfl (x := .ref q) rfl ?_)
  refine wpAny_bind (wpAny_attempt ?_)
  unfold callOutOfASlot
  refine wpAny_bind (borrows_method hq hf hfd ?_)
  show wpAny _ _ (callBorrowed (.ref q) []) _ _ s
  refine wpAny_callBorrowed (codeAny_mono h fun r s' hr => ?_)
  obtain ⟨c, tk, rfl, hI', hq', ⟨o', hf', hfd'⟩, h1, h2⟩ := hr
  dsimp only
  refine wpAny_bind (wpAny_field hI' rfl (x := .bool false) rfl ?_)
  show wpAny _ _ (field (.ref I) 1 >>= _) _ _ s'
  refine wpAny_bind (wpAny_field hI' rfl (x := .str "" t) rfl ?_)
  refine wpAny_bind (wpAny_holding ?_)
  refine wpAny_eqBool_str ?_
  by_cases hc : c = []
  · subst hc
    rw [show decide ((Str.ofString "") = S []) = true from by decide +kernel]
    show wpAny _ _ (rule _ >>= _) _ _ s'
    refine wpAny_bind (wpAny_rule ?_)
    refine wpAny_bind ?_
    k_delta "callableEnd"
    refine wpAny_bind (wpAny_field hI' rfl (x := .ref q) rfl ?_)
    refine wpAny_bind ?_
    unfold slotLetsGo
    dsimp only
    refine wpAny_bind (borrows_method hq' hf' hfd' ?_)
    show wpAny _ _ (pure ()) _ _ s'
    refine wpAny_pure ?_
    refine wpAny_bind (wpAny_setField hI' rfl (by simp) ?_)
    have e1 := Heap.get?_update_self (Obj.mapFields (·.setIfInBounds 0 Value.none)) hI' rfl
    refine wpAny_bind (wpAny_setField e1 rfl (by simp [Obj.mapFields]) ?_)
    have e2 := Heap.get?_update_self (Obj.mapFields (·.setIfInBounds 1 Value.none)) e1 rfl
    refine wpAny_setField e2 rfl (by simp [Obj.mapFields]) ?_
    refine stop_it hh fun e h' hk ⟨oe, hoe, hcls⟩ => ?_
    refine wpAny_bind (wpAny_isInstance (T := "StopIteration") (b := true) ⟨oe, hoe, hcls⟩ isSubtype_stop ?_)
    refine wpAny_pure (h2 rfl h' (fun b o hb eb => ?_) (hk _ _ ?_))
    rotate_left
    · have e3 := Heap.get?_update_self (Obj.mapFields (·.setIfInBounds 2 (Value.bool true))) e2 rfl
      exact e3
    refine hk b o ?_
    show Heap.get? (((s'.heap.update I _).update I _).update I _) b = some o
    rw [Heap.get?_update_ne _ _ _ _ hb, Heap.get?_update_ne _ _ _ _ hb, Heap.get?_update_ne _ _ _ _ hb]
    exact eb
  · have hne : decide ((Str.ofString "") = S c) = false := by
      refine decide_eq_false fun e => hc ?_
      have : S [] = S c := (show S [] = Str.ofString "" from by decide +kernel).trans e
      exact (S_inj.mp this).symm
    rw [hne]
    show wpAny _ _ (ret (.str (S c) tk)) _ _ s'
    refine wpAny_pure ⟨_, rfl, wpAny_pure (h1 hc)⟩
theorem ci_done {I : Addr} {Q : Option Value → Shared → Prop} (hh : A.handled = none) (hI : s.heap.get? I = some ciEnd)
    (h : ∀ h', (∀ b o, s.heap.get? b = some o → h'.get? b = some o) → Q none { s with heap := h' }) : wpAny (model PR w) A (pyNext (.ref I)) Q E s := by
  have hT : s.TypeIs (.ref I) "callable_iterator" := ⟨_, hI, rfl⟩
  unfold pyNext
  refine wpAny_bind (wpAny_attempt (wpAny_callSpecial?_slot (name := Str.ofString "__next__") hT slot_ci_next (wpAny_call_entry slot_ci_next hT entry_ci_next ?_ (args_ci_next _))))
  unfold Builtin.«callable_iterator.__next__»
  show wpAny _ _ (field (.ref I) 2 >>= _) _ _ s
  refine wpAny_bind (wpAny_field hI rfl (x := .bool true) rfl ?_)
  show wpAny _ _ (rule _ >>= _) _ _ s
  refine wpAny_bind (wpAny_rule ?_)
  refine wpAny_bind ?_
  refine stop_it hh fun e h' hk ⟨oe, hoe, hcls⟩ => ?_
  refine wpAny_bind (wpAny_isInstance (T := "StopIteration") (b := true) ⟨oe, hoe, hcls⟩ isSubtype_stop ?_)
  exact wpAny_pure (h h' hk)
end
end
section
open PySem PySem.W PySem.Calls PyProof.Rows
theorem entry_ci_iter : entryFor table "callable_iterator.__iter__" = some Builtin.«dict_keyiterator.__iter__» := entryFor_alias (id' := "dict_keyiterator.__iter__") (by kernel_rfl) rfl (by decide +kernel) (by kernel_rfl)
theorem args_ci_iter (a : Value) : argsOk "callable_iterator.__iter__" ⟨[a], []⟩ := by unfold argsOk; kernel_rfl

section
variable {w : World} {A : Around} {E : Value → Shared → Prop} {s : Shared}
theorem pyIter_ci {I : Addr} {f s0 : Value} {e : Bool} {Q : Value → Shared → Prop} (hI : s.heap.get? I = some (ciObj f s0 e)) (h : Q (.ref I) s) : wpAny (model PR w) A (pyIter (.ref I)) Q E s := by
  have hT : s.TypeIs (.ref I) "callable_iterator" := ⟨_, hI, rfl⟩
  refine wpAny_pyIter_slot hT slot_ci_iter (wpAny_call_entry slot_ci_iter hT entry_ci_iter ?_ (args_ci_iter _))
  show wpAny _ _ (ret (.ref I)) _ _ s
  exact wpAny_pure ⟨_, rfl, "callable_iterator", _, hT, slot_ci_next.lookup, h⟩

variable {P : Heap} {env : Env} {x : Str} {px : Pos} {body : List Stmt} {Q : Flow → Shared → Prop} {m : Str → Option Value} {H : List (Addr × Obj)} {z : Shared}
/-- a for over any iterator, by a measure -/
theorem for_gen {it : Value} (lz : Like z s) (hx : env.kindOf x = some .local) (hk : env.scope.kind = .function) (J : Nat → (Str → Option Value) → List (Addr × Obj) → Prop) (n₀ : Nat)
    (F : Fr P env.locals s.heap m) (N : News P env.locals s.heap H) (hJ : J n₀ m H)
    (turn : ∀ n m₁ H₁ s₁, Like z s₁ → Fr P env.locals s₁.heap m₁ → News P env.locals s₁.heap H₁ → J n m₁ H₁ → ∀ K, Imp2 (WhileEnd P env.locals z J n Q) K →
      wpAny (model PR w) A (pyNext it) (fun r s₂ => match r with
        | none => Q .next s₂
        | some v => ∃ H₂, Like z s₂ ∧ Fr P env.locals s₂.heap m₁ ∧ News P env.locals s₂.heap H₂ ∧ ∀ s₃, Like z s₃ → Fr P env.locals s₃.heap (fun y => if y = x then some v else m₁ y) → News P env.locals s₃.heap H₂ →
            wpAny (model PR w) A (execs body env) K NoE s₃) NoE s₁) :
    LoopQ w A env x px body Q it s := by
  refine codeAny_forLoop (fun n s' => ∃ m₁ H₁, Like z s' ∧ Fr P env.locals s'.heap m₁ ∧ News P env.locals s'.heap H₁ ∧ J n m₁ H₁) ?_ n₀ ⟨m, H, lz, F, N, hJ⟩
  have hp : (env.scope.kind == .class || (env.scope.kind == .module && env.locals != env.globals)) = false := by rw [hk]; rfl
  rintro n s' ⟨m₁, H₁, lk, F₁, N₁, J₁⟩
  refine wpAny_mono (turn n m₁ H₁ s' lk F₁ N₁ J₁ _ (fun _ _ x => x)) (fun r s₂ h₂ => ?_) fun _ _ e => e.elim
  cases r with
  | none => exact wpAny_execs_nil h₂
  | some v =>
    obtain ⟨H₂, lk₂, F₂, N₂, h₃⟩ := h₂
    refine wpAny_assign_Name (wpAny_storeName_local hx F₂.ns (fun h₂ hn₂ hs₂ => ?_) hp)
    refine wpAny_mono (h₃ { s₂ with heap := h₂, toks := s₂.toks + 1 } lk₂ (F₂.set hn₂ hs₂) (N₂.set hs₂)) (fun f s₃ h₃ => ?_) fun _ _ e => e.elim
    cases f with
    | ret v => exact h₃
    | brk => exact h₃
    | next => obtain ⟨m₂, H₂, n', lk, F₂, N₂, hn, J₂⟩ := h₃; exact ⟨n', hn, m₂, H₂, lk, F₂, N₂, J₂⟩
    | cont => obtain ⟨m₂, H₂, n', lk, F₂, N₂, hn, J₂⟩ := h₃; exact ⟨n', hn, m₂, H₂, lk, F₂, N₂, J₂⟩
end

/-- a list of one-sign texts -/
inductive Sg : List Value → List Nat → Prop where
  | nil : Sg [] []
  | cons (c : Nat) (t : Tok) {vs : List Value} {l : List Nat} : Sg vs l → Sg (.str (S [c]) t :: vs) (c :: l)
theorem Sg.length {vs : List Value} {l : List Nat} (h : Sg vs l) : vs.length = l.length := by
  induction h with
  | nil => rfl
  | cons _ _ _ ih => simp [ih]
theorem Sg.snoc {vs : List Value} : ∀ {l : List Nat} {c : Nat}, Sg vs (l ++ [c]) → ∃ vs' t, vs = vs' ++ [.str (S [c]) t] ∧ Sg vs' l := by
  induction vs with
  | nil => intro l c h; cases l <;> cases h
  | cons v vs ih =>
    intro l c h
    cases l with
    | nil =>
      cases h with
      | cons _ t h => cases h; exact ⟨[], t, rfl, .nil⟩
    | cons d l =>
      cases h with
      | cons _ t h =>
        obtain ⟨vs', t', rfl, h'⟩ := ih h
        exact ⟨.str (S [d]) t :: vs', t', rfl, .cons d t h'⟩
theorem Sg.append {vs us : List Value} {l k : List Nat} (h : Sg vs l) (h' : Sg us k) : Sg (vs ++ us) (l ++ k) := by
  induction h with
  | nil => exact h'
  | cons c t _ ih => exact .cons c t ih
theorem Sg.reverse {vs : List Value} {l : List Nat} (h : Sg vs l) : Sg vs.reverse l.reverse := by
  induction h with
  | nil => exact .nil
  | cons c t _ ih => simp only [List.reverse_cons]; exact ih.append (.cons c t .nil)

/-- a dict's entry under a text -/
abbrev ent (w : World) (name : String) (k : Tok) (v : Value) : DictEntry := ⟨PyData.keyHash w.params name, .str name k, v⟩

theorem Sub.consm {p : Addr × Obj} {A B : List (Addr × Obj)} (h : p ∈ B) (h' : Sub A B) : Sub (p :: A) B := fun q hq => by
  rcases List.mem_cons.mp hq with rfl | hq
  · exact h
  · exact h' q hq
theorem Sub.appm {A B C : List (Addr × Obj)} (h : Sub A C) (h' : Sub B C) : Sub (A ++ B) C := fun q hq => by
  rcases List.mem_append.mp hq with hq | hq
  · exact h q hq
  · exact h' q hq
theorem Sub.left {A B : List (Addr × Obj)} : Sub A (A ++ B) := fun q hq => List.mem_append_left _ hq
theorem Sub.right {A B C : List (Addr × Obj)} (h : Sub A C) : Sub A (B ++ C) := fun q hq => List.mem_append_right _ (h q hq)
theorem lit_nl : Str.ofString "\n" = S [10] := by decide +kernel
theorem lit_q : Str.ofString "\"" = S [34] := by decide +kernel
theorem lit_bs : Str.ofString "\\" = S [92] := by decide +kernel
theorem lit_e : Str.ofString "" = S [] := by decide +kernel
end
section
open PySem PySem.W PySem.Calls PyProof.Rows
section
variable {w : World} {A : Around} {E : Value → Shared → Prop} {s : Shared} {P : Heap} {L D : Addr} {m : Str → Option Value} {news news' : List (Addr × Obj)} {vs : List Value} {n : Nat}
theorem ll_truthy {Q : Bool → Shared → Prop} (N : News P L s.heap news) (hm : (D, listOf vs.toArray n) ∈ news) (hz : vs.length ≤ 100000) (h : Q (!vs.isEmpty) { s with toks := s.toks + 1 + 1 }) : wpAny (model PR w) A (truthy (.ref D)) Q E s :=
  kgr_truthy N hm rfl rfl (by lia) h
theorem ll_append {x : Value} {Q : Value → Shared → Prop} (F : Fr P L s.heap m) (N : News P L s.heap news) (U : Upd D (listOf vs.toArray n) (listOf (vs ++ [x]).toArray (n + 1)) news news') (hz : vs.length ≤ 100000)
    (h : ∀ h', Fr P L h' m → News P L h' news' → Q .none { s with heap := h' }) : wpAny (model PR w) A (call (.builtin "list.append") [.ref D, x]) Q E s := by
  refine append_K (its := vs.toArray) (n := n) F N (by rw [List.push_toArray]; exact U) h ?_
  rw [List.size_toArray, sizeLine_eq]; lia
theorem last_snoc : ∀ (vs : List Value) (x : Value), kl_last (vs ++ [x]) = some (vs, x)
  | [], x => rfl
  | y :: r, x => by simp only [List.cons_append, kl_last, last_snoc r x]
theorem ll_pop {x : Value} {Q : Value → Shared → Prop} (F : Fr P L s.heap m) (N : News P L s.heap news) (U : Upd D (listOf (vs ++ [x]).toArray n) (listOf vs.toArray (n + 1)) news news') (hz : vs.length ≤ 100000)
    (h : ∀ h', Fr P L h' m → News P L h' news' → Q x { s with heap := h' }) : wpAny (model PR w) A (call (.builtin "list.pop") [.ref D]) Q E s := by
  refine kl_pop F N (p := vs) (last_snoc vs x) U ?_ h
  rw [sizeLine_eq]; simp; lia
theorem ll_pop0 {x : Value} {u : Tok} {Q : Value → Shared → Prop} (F : Fr P L s.heap m) (N : News P L s.heap news) (U : Upd D (listOf (x :: vs).toArray n) (listOf vs.toArray (n + 1)) news news') (hz : vs.length ≤ 100000)
    (h : ∀ h', Fr P L h' m → News P L h' news' → Q x { s with heap := h' }) : wpAny (model PR w) A (call (.builtin "list.pop") [.ref D, .int 0 u]) Q E s := by
  refine kl_popAt (its := (x :: vs).toArray) (n := n) (k := 0) (p := []) (q := vs) F N (by decide) (by unfold seqIndex?; simp) rfl U ?_ h
  rw [sizeLine_eq]; simp; lia
theorem ll_reverse {Q : Value → Shared → Prop} (F : Fr P L s.heap m) (N : News P L s.heap news) (U : Upd D (listOf vs.toArray n) (listOf vs.reverse.toArray n) news news') (hz : vs.length ≤ 100000)
    (h : ∀ h', Fr P L h' m → News P L h' news' → Q .none { s with heap := h' }) : wpAny (model PR w) A (call (.builtin "list.reverse") [.ref D]) Q E s := by
  refine kl_reverse F N (by simp) U ?_ h
  rw [sizeLine_eq]; simp; lia
theorem in_one {c : Nat} {l : List Nat} {x : PySem.Str} {t u : Tok} {Q : Value → Shared → Prop} (hx : x = S l) (h : Q (.bool (decide (c ∈ l))) s) : wpAny (model PR w) A (compareOp .In (.str (S [c]) u) (.str x t)) Q E s := by
  subst hx
  refine in_str ?_
  rw [show S [c] = ⟨#[c]⟩ from rfl, PySem.StrLaws.found_one]
  simpa using h
theorem lit_ws : Str.ofString "\n\t\r " = S [10, 9, 13, 32] := by decide +kernel
theorem lit_qb : Str.ofString "\"\\" = S [34, 92] := by decide +kernel
theorem lit_wb : Str.ofString "\n\t\r \\" = S [10, 9, 13, 32, 92] := by decide +kernel
theorem lit_AB : Str.ofString "AB" = S [65, 66] := by decide +kernel
theorem lit_ab : Str.ofString "ab" = S [97, 98] := by decide +kernel
theorem add_S {l k : List Nat} {x y : PySem.Str} {t u : Tok} {Q : Value → Shared → Prop} (hx : x = S l) (hy : y = S k) (hz : l.length + k.length ≤ 100000) (h : ∀ t' kk, Q (.str (S (l ++ k)) t') { s with toks := kk }) : wpAny (model PR w) A (binaryOp .Add (.str x t) (.str y u)) Q E s := by
  subst hx hy
  refine SBL.add (hsz := by rw [S_len, S_len, sizeLine_eq]; lia) fun t' kk _ => ?_
  rw [S_append]; exact h t' kk
theorem iadd_S {l k : List Nat} {x y : PySem.Str} {t u : Tok} {Q : Value → Shared → Prop} (hx : x = S l) (hy : y = S k) (hz : l.length + k.length ≤ 100000) (h : ∀ t' kk, Q (.str (S (l ++ k)) t') { s with toks := kk }) : wpAny (model PR w) A (inplaceOp .Add (.str x t) (.str y u)) Q E s := by
  subst hx hy
  refine SBL.iadd (hsz := by rw [S_len, S_len, sizeLine_eq]; lia) fun t' kk _ => ?_
  rw [S_append]; exact h t' kk
end
theorem WhileEnd.cont' {P : Heap} {L : Addr} {s s' : Shared} {Q : Flow → Shared → Prop} {m : Str → Option Value} {H : List (Addr × Obj)} {J : Nat → (Str → Option Value) → List (Addr × Obj) → Prop} {n : Nat} (k : Like s s') (F : Fr P L s'.heap m) (N : News P L s'.heap H) (j : Bx (∃ n', n' < n ∧ J n' m H)) : WhileEnd P L s J n Q .cont s' := by
  obtain ⟨n', a, b⟩ := j.out; exact ⟨m, H, n', k, F, N, a, b⟩
structure RetSub : Prop where
theorem Ret.intro' {P : Heap} {L : Addr} {s s' : Shared} {Q : Post} {v : Value} {m' : Str → Option Value} {H' : List (Addr × Obj)} (k : Like s s') (F : Fr P L s'.heap m') (N : News P L s'.heap H') (q : Bx (∃ H₂, Sub H₂ H' ∧ Q v H₂)) :
    Ret P L s Q v s' := by
  obtain ⟨H₂, a, b⟩ := q.out
  exact ⟨m', H₂, k, F, subN N a, b⟩
theorem CutQ.cont {P : Heap} {L : Addr} {s s' : Shared} {J : (Str → Option Value) → List (Addr × Obj) → Prop} {Q : Flow → Shared → Prop} (h : Q .cont s') : CutQ P L s J Q .cont s' := h
theorem CutQ.brk {P : Heap} {L : Addr} {s s' : Shared} {J : (Str → Option Value) → List (Addr × Obj) → Prop} {Q : Flow → Shared → Prop} (h : Q .brk s') : CutQ P L s J Q .brk s' := h
end
section
open PySem PySem.W PySem.Calls PyProof.Rows
abbrev tupOf (vs : List Value) : Obj := { cls := .type "tuple", data := .seq vs.toArray }
section
variable {w : World} {A : Around} {P : Heap} {s : Shared} {env : Env} {x : Str} {px : Pos} {body : List Stmt} {m : Str → Option Value} {H : List (Addr × Obj)} {L D : Addr} {vs : List Value} {n : Nat}
theorem ll_len {E : Value → Shared → Prop} {Q : Value → Shared → Prop} (N : News P L s.heap H) (hm : (D, listOf vs.toArray n) ∈ H) (hz : vs.length ≤ 100000) (h : Q (.int (vs.length : Nat) (s.toks + 1)) { s with toks := s.toks + 1 + 1 }) :
    wpAny (model PR w) A (call (.builtin "len") [.ref D]) Q E s := by
  have e : vs.toArray.size = vs.length := by simp
  exact len_list (News.isList N hm) (by rw [e]; lia) (by rw [e]; exact h)
theorem ll_item {E : Value → Shared → Prop} {Q : Value → Shared → Prop} {k : Int} {t : Tok} {x : Value} (N : News P L s.heap H) (hm : (D, listOf vs.toArray n) ∈ H) (h0 : 0 ≤ k ∧ k < 100000) (hx : vs[k.toNat]? = some x) (h : Q x s) :
    wpAny (model PR w) A (getItem (.ref D) (.int k t)) Q E s := getItem_listL (News.isList N hm) h0.1 (by lia) hx h
theorem ll_sub {E : Value → Shared → Prop} {value slice : Expr} {Q : Value → Shared → Prop} {k : Int} {t : Tok} {x : Value} (N : News P L s.heap H) (hm : (D, listOf vs.toArray n) ∈ H) (h0 : 0 ≤ k ∧ k < 100000) (hx : vs[k.toNat]? = some x) (h : Q x s)
    (hs : subscripted slice false (.ref D) (.int k t) = operate [.ref D, .int k t] (getItem (.ref D) (.int k t)) := by with_unfolding_all rfl) :
    wpAny (model PR w) A (subscriptTail value slice (.ref D) (.int k t)) Q E s :=
  tail_any (News.isList N hm).typeIs slot_list_getitem.lookup (ll_item N hm h0 hx h) hs
/-- a list's turns -/
theorem loop_list {E : Value → Shared → Prop} {Q : Flow → Shared → Prop} (hh : A.handled = none) (hx : env.kindOf x = some .local) (hk : env.scope.kind = .function)
    {s₀ : Shared} (hs₀ : Like s₀ s) (F : Fr P env.locals s.heap m) (N : News P env.locals s.heap H) (hm : (D, listOf vs.toArray n) ∈ H)
    (J : Nat → (Str → Option Value) → List (Addr × Obj) → Prop) (hJD : ∀ i m H, J i m H → (D, listOf vs.toArray n) ∈ H) (h0 : J 0 m H)
    (turn : ∀ i v m₁ H₁ s₁ I io, Like s₀ s₁ → vs[i]? = some v → J i m₁ H₁ → (∀ p ∈ H₁, p.1 ≠ I) → Fr P env.locals s₁.heap (fun y => if y = x then some v else m₁ y) → News P env.locals s₁.heap ((I, io) :: H₁) → ∀ K, Imp2 (LoopEnd P env.locals s₀ [(I, io)] (J (i + 1)) Q) K →
      wpAny (model PR w) A (execs body env) K NoE s₁)
    (done : ∀ m₁ H₁ s₁, Like s₀ s₁ → J vs.length m₁ H₁ → Fr P env.locals s₁.heap m₁ → News P env.locals s₁.heap H₁ → Q .next s₁) :
    wpAny (model PR w) A (pyIter (.ref D)) (LoopQ w A env x px body Q) E s := by
  have hl : s.heap.IsList D vs.toArray := News.isList N hm
  refine wpAny_pyIter_list hl ?_
  generalize hI0 : s.heap.objs.size = I
  have hDI : D ≠ I := by rw [← hI0]; exact Nat.ne_of_lt (Heap.lt_size (N _ hm).1)
  have hI : env.locals < I := by rw [← hI0]; exact F.ns.lt
  have hIP : P.get? I = none := by rw [← hI0]; exact Fr.size_none F
  have W := Walks.list (prog := PR) (w := w) (A := A) hh I D hDI vs.toArray
  have hsz : vs.toArray.size = vs.length := by simp
  have hDL : ∀ i m H h, J i m H → News P env.locals h H → h.get? D = some (listOf vs.toArray n) ∧ D ≠ env.locals := fun i m H h j N' => ⟨(N' _ (hJD i m H j)).1, (N' _ (hJD i m H j)).2.1⟩
  refine codeAny_forLoop
    (fun k s' => ∃ m' H' i, Like s₀ s' ∧ (s'.heap.IsListIter I D i ∧ s'.heap.IsList D vs.toArray) ∧ Fr P env.locals s'.heap m' ∧ News P env.locals s'.heap H' ∧ (∀ p ∈ H', p.1 ≠ I) ∧ J i m' H' ∧ i ≤ vs.length ∧ k = vs.length + 1 - i) ?_ (vs.length + 1)
    ⟨m, H, 0, hs₀, ⟨⟨_, by rw [← hI0]; exact Heap.get?_push_size _ rfl, rfl, rfl⟩, News.isList (News.push' N _) hm⟩, F.push _, News.push' N _, (by rw [← hI0]; exact Led.ne_size N), h0, Nat.zero_le _, rfl⟩
  rintro k s' ⟨m', H', i, lk, hst', F', N', hne', hJ, hi, rfl⟩
  have hp : (env.scope.kind == .class || (env.scope.kind == .module && env.locals != env.globals)) = false := by rw [hk]; rfl
  have next : ∀ h₁ : Heap, (∀ b o, b ∉ [I] → s'.heap.get? b = some o → h₁.get? b = some o) → Fr P env.locals h₁ m' ∧ News P env.locals h₁ H' := fun h₁ hk₁ =>
    ⟨⟨F'.ns.at' fun o e => hk₁ _ o (by simpa using Nat.ne_of_lt hI) e, fun b o e => hk₁ b o (by intro q; simp at q; rw [q, hIP] at e; cases e) (F'.keep b o e), F'.above⟩, fun p hp => ⟨hk₁ _ _ (by simp; exact hne' p hp) (N' p hp).1, (N' p hp).2⟩⟩
  by_cases hlt : i < vs.length
  · refine W.item i _ _ _ (by rw [hsz]; exact hlt) hst' fun v h₁ tk₁ hP hst₁ hk₁ => ?_
    obtain ⟨F₁, N₁⟩ := next h₁ hk₁
    refine wpAny_assign_Name (wpAny_storeName_local hx F₁.ns (fun h₂ hn₂ hs₂ => ?_) hp)
    have F₂ := F₁.set hn₂ hs₂
    have N₂ := N₁.set hs₂
    have hD2 := hDL i m' H' h₂ hJ N₂
    have hst₂ : h₂.IsListIter I D (i + 1) ∧ h₂.IsList D vs.toArray := W.frame _ _ _ hst₁ fun b hb o e => (hs₂.2 b (by
      simp at hb
      rcases hb with rfl | rfl
      · exact Nat.ne_of_gt hI
      · exact hD2.2)).trans e
    obtain ⟨io, hio, -⟩ := hst₂.1
    have N₃ : News P env.locals h₂ ((I, io) :: H') := fun p hp => by
      rcases List.mem_cons.mp hp with rfl | hp
      · exact ⟨hio, Nat.ne_of_gt hI, hIP⟩
      · exact N₂ p hp
    refine wpAny_mono (turn i v m' H' { s' with heap := h₂, toks := tk₁ + 1 } I io lk (by simpa using hP) hJ hne' F₂ N₃ _ (fun _ _ x => x)) (fun f s₃ h₃ => ?_) fun _ _ e => e.elim
    have fin : ∀ f', (f' = .next ∨ f' = .cont) → LoopEnd P env.locals s₀ [(I, io)] (J (i + 1)) Q f' s₃ → ∃ m, m < vs.length + 1 - i ∧ ∃ m' H' i, Like s₀ s₃ ∧ (s₃.heap.IsListIter I D i ∧ s₃.heap.IsList D vs.toArray) ∧ Fr P env.locals s₃.heap m' ∧ News P env.locals s₃.heap H' ∧ (∀ p ∈ H', p.1 ≠ I) ∧ J i m' H' ∧ i ≤ vs.length ∧ m = vs.length + 1 - i := by
      rintro f' hf' he
      have he : ∃ m' H', Like s₀ s₃ ∧ Fr P env.locals s₃.heap m' ∧ News P env.locals s₃.heap ([(I, io)] ++ H') ∧ (∀ p ∈ H', ∀ q ∈ [(I, io)], p.1 ≠ q.1) ∧ J (i + 1) m' H' := by
        rcases hf' with rfl | rfl <;> exact he
      obtain ⟨m₃, H₃, lk₃, F₃, N₃', ha₃, hJ₃⟩ := he
      have hI₃ := (N₃' (I, io) (by simp)).1
      have hD3 := hDL (i + 1) m₃ H₃ s₃.heap hJ₃ (fun p hp => N₃' p (by simp [hp]))
      refine ⟨vs.length + 1 - (i + 1), by lia, m₃, H₃, i + 1, lk₃, ?_, F₃, fun p hp => N₃' p (by simp [hp]), fun p hp => ha₃ p hp (I, io) (by simp), hJ₃, hlt, rfl⟩
      refine W.frame _ _ _ hst₂ fun b hb o e => ?_
      simp at hb
      rcases hb with rfl | rfl
      · rw [hio] at e; cases e; exact hI₃
      · rw [hD2.1] at e; cases e; exact hD3.1
    cases f with
    | ret v => exact h₃
    | brk => exact h₃
    | cont => exact fin _ (.inr rfl) h₃
    | next => exact fin _ (.inl rfl) h₃
  · have hin : i = vs.length := by lia
    subst hin
    refine W.done _ _ _ (by rw [hsz]; exact hst') fun h₁ tk₁ hk₁ => wpAny_execs_nil ?_
    obtain ⟨F₁, N₁⟩ := next h₁ hk₁
    exact done m' H' { s' with heap := h₁, toks := tk₁ } lk hJ F₁ N₁
end
theorem noR_list_addM : typeLookup (.type "list") (dunderR "add") = pure none := by rw [typeLookup_type, builtinLookup_eq_fast]; kernel_rfl
theorem noFill_list_addM : fillsNumberSlot (.type "list") "add" = pure false := PySem.fillsNumberSlot_seq (id := "list.__add__") (r := none) PySem.F.slot_list_add.lookup (by decide +kernel) noR_list_addM rfl
theorem seq_list_iaddM : seqSlot? (.type "list") (dunderI "add") = pure (some (.builtin "list.__iadd__"))   := PySem.seqSlot_of PySem.F.slot_list_iadd.lookup (by decide +kernel)
theorem fills_list_iaddM : fillsInplaceSlot (.type "list") "add" (Operator.Add == .Add) = pure false := by
  unfold fillsInplaceSlot
  show (typeLookup (.type "list") (dunderI "add") >>= fun fi => pure (fi.isSome && !isSeqSlot fi)) = pure false
  rw [PySem.F.slot_list_iadd.lookup]
  show (pure _ : Sem Bool) = _
  congr 1
section
variable {w : World} {A : Around} {E : Value → Shared → Prop} {P : Heap} {s : Shared} {m : Str → Option Value} {news news' : List (Addr × Obj)} {L D b : Addr} {vs us : List Value} {n n2 : Nat}
theorem ll_iadd {Q : Value → Shared → Prop} (F : Fr P L s.heap m) (N : News P L s.heap news) (hb : (b, listOf us.toArray n2) ∈ news) (hne : us.length ≠ 0)
    (U : Upd D (listOf vs.toArray n) (listOf (vs ++ us).toArray (n + 1)) news news') (hz : vs.length + us.length ≤ 100000)
    (h : ∀ h', Fr P L h' m → News P L h' news' → Q (.ref D) { s with heap := h' }) : wpAny (model PR w) A (inplaceOp .Add (.ref D) (.ref b)) Q E s := by
  obtain ⟨pre, post, rfl, rfl, a, c⟩ := U.split
  have z := N (D, listOf vs.toArray n) (List.mem_append.mpr (.inr (.head _)))
  have zb := N _ hb
  have ha' : s.TypeIs (.ref D) "list" := ⟨_, z.1, rfl⟩
  have hb' : s.TypeIs (.ref b) "list" := ⟨_, zb.1, rfl⟩
  unfold inplaceOp
  refine wpAny_holding ?_
  refine wpAny_bind (wpAny_typeOf ha' (wpAny_bind (wpAny_of_eq fills_list_iaddM ?_)))
  show wpAny _ A (if false = true then _ else _) Q E s
  rw [if_neg Bool.false_ne_true]
  refine wpAny_bind (binaryOp1_none (nm := "add") ha' hb' noFill_list_addM ?_)
  refine wpAny_bind (wpAny_of_eq seq_list_iaddM ?_)
  refine wpAny_bind (wpAny_rule ?_)
  refine call_meets PySem.F.slot_list_iadd ha' PySem.F.entry_list_iadd (PySem.F.args_list_iadd_2 _ _) (PySem.AutoSeq1.list___iadd___list_list_0 D vs.toArray n b us.toArray n2 ?_ (by rw [sizeLine_eq]; simp; lia) (by rw [sizeLine_eq]; simp; lia)) ⟨z.1, zb.1, ?_⟩
  · simp [Builtin.List.listTooLong, sizeLine_eq]; intro _; lia
  · have N' : News P L (s.heap.update D (Obj.mapSeq fun x => x ++ us.toArray)) (pre ++ (D, listOf (vs ++ us).toArray (n + 1)) :: post) := by
      refine news_set N a c (Heap.SameBut.update ..) ?_
      have q := PySem.IsL.update (z.1 : PySem.IsL s.heap D vs.toArray n) (fun x => x ++ us.toArray)
      rw [if_neg (by simp; intro e; apply hne; rw [e]; rfl)] at q
      rw [List.append_toArray] at q
      exact q
    exact h _ (F.change (Heap.SameBut.update ..) z.2.1 z.2.2) N'
end
end
section
open PySem PySem.W PySem.Calls PyProof.Rows
def CompEnd (P : Heap) (C : Addr) (z : Shared) (own : List (Addr × Obj)) (J : List Value → List (Addr × Obj) → Prop) (ys : List Value) (s₂ : Shared) : Prop :=
  ∃ H₂ m₂, Like z s₂ ∧ Fr P C s₂.heap m₂ ∧ News P C s₂.heap (own ++ H₂) ∧ (∀ p ∈ H₂, ∀ q ∈ own, p.1 ≠ q.1) ∧ J ys H₂
theorem CompEnd.intro {P : Heap} {C : Addr} {z : Shared} {own : List (Addr × Obj)} {J : List Value → List (Addr × Obj) → Prop} {ys : List Value} {s₂ : Shared} {news : List (Addr × Obj)} {m₂ : Str → Option Value} (lk : Like z s₂) (F : Fr P C s₂.heap m₂) (N : News P C s₂.heap news)
    (h : Bx (∃ H₂, Sub (own ++ H₂) news ∧ (∀ p ∈ H₂, ∀ q ∈ own, p.1 ≠ q.1) ∧ J ys H₂)) : CompEnd P C z own J ys s₂ := by
  obtain ⟨H₂, a, b, c⟩ := h.out
  exact ⟨H₂, m₂, lk, F, subN N a, b, c⟩
section
variable {w : World} {A : Around} {P : Heap} {s : Shared} {env : Env} {x : Str} {px : Pos} {m : Str → Option Value} {H : List (Addr × Obj)} {D : Addr} {vs : List Value} {n : Nat}
abbrev CompK (w : World) (A : Around) (env : Env) (E : Value → Shared → Prop) (Q : Value → Shared → Prop) (elt iter : Expr) (x : Str) (px : Pos) (ifs : List Expr) (scope : Scope) (cl : List (Str × Addr)) (pos : Pos) (it : Value) (s₂ : Shared) : Prop :=
  wpAny (model PR w) A (newList []) (fun acc s₃ => wpAny (model PR w) A (newFunctionEnv scope env.globals cl [] env.qual none .none (some env)) (fun cenv s₄ =>
      codeAny (model PR w) A (.compStart (.ListComp elt [⟨.Name x px, iter, ifs, 0⟩] scope pos) 0 it acc { cenv with scope := relabel scope env }) (compPost (model PR w) A E none Q acc cenv.locals) s₄) E s₃) E s₂
theorem comp_in {elt iter : Expr} {ifs : List Expr} {scope : Scope} {cl : List (Str × Addr)} {pos : Pos} {E : Value → Shared → Prop} {Q : Value → Shared → Prop}
    (hclos : closureFor scope env = pure cl) (hkind : scope.kind = .function) (hnames : ∀ y ∈ scope.names, y.2 = .local → scope.names.lookup y.1 = some .local)
    (h : wpAny (model PR w) A (eval iter env) (fun xv s₁ => wpAny (model PR w) A (pyIter xv) (CompK w A env E Q elt iter x px ifs scope cl pos) E s₁) E s)
    (hs : ∀ x, foldedSetIterable iter env x = pure x := by intro _; rfl) :
    wpAny (model PR w) A (eval (.ListComp elt [⟨.Name x px, iter, ifs, 0⟩] scope pos) env) Q E s := by
  rw [eval_ListComp]
  exact wpAny_comprehension_free (use := none) rfl hs hclos hkind hnames h
theorem comp_ll {elt iter : Expr} {ifs : List Expr} {scope : Scope} {cl : List (Str × Addr)} {pos : Pos} {E : Value → Shared → Prop} {Q : Value → Shared → Prop}
    (hcell : ∀ y ∈ scope.names, y.2 ≠ .cell) (hkind : scope.kind = .function) (hx : scope.names.lookup x = some .local)
    (hh : A.handled = none) {z : Shared} (hz : Like z s) (hvs : vs.length ≤ 100000) (F : Fr P env.locals s.heap m) (N : News P env.locals s.heap H) (hm : (D, listOf vs.toArray n) ∈ H)
    (J : Nat → List Value → List (Addr × Obj) → Prop) (hJD : ∀ i ys H, J i ys H → (D, listOf vs.toArray n) ∈ H) (hJl : ∀ i ys H, J i ys H → ys.length ≤ i) (h0 : J 0 [] H)
    (turn : ∀ i v ys C s₁ (m₁ : Str → Option Value) H₁ own, Like z s₁ → vs[i]? = some v → J i ys H₁ → Fr P C s₁.heap (fun y => if y = x then some v else m₁ y) → News P C s₁.heap (own ++ H₁) → (∀ p ∈ H₁, ∀ q ∈ own, p.1 ≠ q.1) →
      wpAny (model PR w) A (forIn ifs true fun c r => if r = true then do let ok ← isTrue c (compEnvC scope cl C env) (eval c (compEnvC scope cl C env)); pure (ForInStep.yield ok) else pure (ForInStep.yield r))
        (fun ok s₂ => if ok = true then wpAny (model PR w) A (eval elt (compEnvC scope cl C env)) (fun y s₃ => CompEnd P C z own (J (i + 1)) (ys ++ [y]) s₃) NoE s₂ else CompEnd P C z own (J (i + 1)) ys s₂) NoE s₁)
    (done : ∀ R e ys H₁ s₁, Like z s₁ → J vs.length ys H₁ → Fr P env.locals s₁.heap m → News P env.locals s₁.heap ((R, listOf ys.toArray e) :: H₁) → (∀ p ∈ H₁, p.1 ≠ R) → Q (.ref R) s₁) :
    wpAny (model PR w) A (pyIter (.ref D)) (CompK w A env E Q elt iter x px ifs scope cl pos) E s := by
  have hl : s.heap.IsList D vs.toArray := News.isList N hm
  have hsz : vs.toArray.size = vs.length := by simp
  refine wpAny_pyIter_list hl ?_
  generalize hI0 : s.heap.objs.size = I
  have hDs : D < I := by rw [← hI0]; exact Heap.lt_size (N _ hm).1
  have hLI : env.locals < I := by rw [← hI0]; exact F.ns.lt
  have hPI : P.objs.size ≤ I := Nat.le_trans F.above (Nat.le_of_lt hLI)
  have none_of : ∀ a, I ≤ a → P.get? a = none := fun a ha => Heap.get?_none_of_le (Nat.le_trans hPI ha)
  have W := Walks.list (prog := PR) (w := w) (A := A) hh I D (Nat.ne_of_lt hDs) vs.toArray
  obtain ⟨oL, es, ep, hL, hLd, hLk, hLf⟩ := id F.ns
  refine wpAny_newObj_type (wpAny_newFunctionEnv hcell (by intro y hy; simp at hy) (fun h₁ hns₁ hsb₁ => ?_) hkind)
  dsimp only at hns₁ hsb₁ ⊢
  have hR1 : (s.heap.push { cls := .type "list_iterator", data := .fields #[.ref D, .int 0 0] }).objs.size = I + 1 := by rw [Heap.size_push, hI0]
  rw [hR1]
  have hC1 : ((s.heap.push { cls := .type "list_iterator", data := .fields #[.ref D, .int 0 0] }).push { cls := .type "list", dict := none, data := .seq ([] : List Value).toArray }).objs.size = I + 2 := by rw [Heap.size_push, hR1]
  rw [hC1] at hns₁ hsb₁ ⊢
  have old : ∀ b o, s.heap.get? b = some o → h₁.get? b = some o := fun b o e =>
    hsb₁.extBut b o (Nat.ne_of_lt (Nat.lt_trans (hI0 ▸ Heap.lt_size e) (by lia))) (Heap.get?_push_of_some _ (Heap.get?_push_of_some _ (Heap.get?_push_of_some _ e)))
  have hIo : h₁.get? I = some { cls := .type "list_iterator", data := .fields #[.ref D, .int 0 0] } :=
    hsb₁.extBut _ _ (Nat.ne_of_lt (by lia)) (Heap.get?_push_of_some _ (Heap.get?_push_of_some _ (by rw [← hI0]; exact Heap.get?_push_size _ rfl)))
  have hRo : h₁.get? (I + 1) = some (listOf ([] : List Value).toArray 0) :=
    hsb₁.extBut _ _ (Nat.ne_of_lt (by lia)) (Heap.get?_push_of_some _ (by rw [← hR1]; exact Heap.get?_push_size _ rfl))
  have FC : Fr P (I + 2) h₁ (fun y => ([] : List (Str × Value)).reverse.lookup y) := ⟨hns₁, fun b o e => old b o (F.keep b o e), Nat.le_trans hPI (by lia)⟩
  have NH : News P (I + 2) h₁ H := fun p hp => ⟨old _ _ (N p hp).1, Nat.ne_of_lt (Nat.lt_trans (hI0 ▸ Heap.lt_size (N p hp).1) (by lia)), (N p hp).2.2⟩
  have hLP : P.get? env.locals = none := Heap.get?_none_of_le F.above
  have apH : ∀ p ∈ H, p.1 ≠ I ∧ p.1 ≠ I + 1 ∧ p.1 ≠ env.locals := fun p hp => ⟨Nat.ne_of_lt (hI0 ▸ Heap.lt_size (N p hp).1), Nat.ne_of_lt (Nat.lt_trans (hI0 ▸ Heap.lt_size (N p hp).1) (by lia)), (N p hp).2.1⟩
  have hLC : env.locals ≠ I + 2 := Nat.ne_of_lt (Nat.lt_trans hLI (by lia))
  have hRL : (I + 1 : Addr) ≠ env.locals := Nat.ne_of_gt (Nat.lt_trans hLI (by lia))
  have hIL : I ≠ env.locals := Nat.ne_of_gt hLI
  have hIR : I ≠ I + 1 := Nat.ne_of_lt (by lia)
  have hIC : I ≠ I + 2 := Nat.ne_of_lt (by lia)
  have hRC : (I + 1 : Addr) ≠ I + 2 := Nat.ne_of_lt (by lia)
  have hkx : (compEnvC scope cl (I + 2) env).kindOf x = some .local := lookup_relabel_local hx
  have hp : ((compEnvC scope cl (I + 2) env).scope.kind == .class || ((compEnvC scope cl (I + 2) env).scope.kind == .module && (compEnvC scope cl (I + 2) env).locals != (compEnvC scope cl (I + 2) env).globals)) = false := by simp [compEnvC, relabel, hkind]
  have loop : ∀ s₃ : Shared, s₃.heap = h₁ → Like z s₃ →
      codeAny (model PR w) A (.compLoop (.ListComp elt [⟨.Name x px, iter, ifs, 0⟩] scope pos) 0 (.ref I) (.ref (I + 1)) (compEnvC scope cl (I + 2) env))
        (compPost (model PR w) A E none Q (.ref (I + 1)) (I + 2)) s₃ := by
    intro s₃ hs₃ lk₃
    refine codeAny_compLoop_tests
      (fun k s' => ∃ m' H' ys e i, Like z s' ∧ (s'.heap.IsListIter I D i ∧ s'.heap.IsList D vs.toArray) ∧ Fr P (I + 2) s'.heap m' ∧ News P (I + 2) s'.heap H' ∧ (∀ p ∈ H', p.1 ≠ I ∧ p.1 ≠ I + 1 ∧ p.1 ≠ env.locals) ∧ s'.heap.get? (I + 1) = some (listOf ys.toArray e) ∧ s'.heap.get? env.locals = some oL ∧
        J i ys H' ∧ i ≤ vs.length ∧ k = vs.length + 1 - i) ?_ (vs.length + 1)
      ⟨_, H, [], 0, 0, lk₃, ⟨⟨_, by rw [hs₃]; exact hIo, rfl, rfl⟩, ⟨_, by rw [hs₃]; exact old _ _ (N _ hm).1, rfl, _, rfl⟩⟩, by rw [hs₃]; exact FC, by rw [hs₃]; exact NH, apH, by rw [hs₃]; exact hRo, by rw [hs₃]; exact old _ _ hL, h0, Nat.zero_le _, rfl⟩
    rintro k s' ⟨m', H', ys, e, i, lk, hst', F', N', ap', hR', hL', hJ, hi, rfl⟩
    by_cases hlt : i < vs.length
    · refine W.item i _ _ _ (by rw [hsz]; exact hlt) hst' fun v h₂ tk₂ hv hst₂ hk₂ => ?_
      have k2 : ∀ b o, b ≠ I → s'.heap.get? b = some o → h₂.get? b = some o := fun b o hb => hk₂ b o (by simpa using hb)
      refine wpAny_assign_Name (wpAny_storeName_local hkx (F'.ns.at' fun o e => k2 _ o (Ne.symm hIC) e) (fun h₃ hn₃ hs₃ => ?_) hp)
      have k3 : ∀ b o, b ≠ I → b ≠ I + 2 → s'.heap.get? b = some o → h₃.get? b = some o := fun b o hb hb2 e => (hs₃.2 b hb2).trans (k2 b o hb e)
      have hDC : D ≠ I + 2 := (N' _ (hJD i ys H' hJ)).2.1
      have hst₃ : h₃.IsListIter I D (i + 1) ∧ h₃.IsList D vs.toArray := W.frame _ _ _ hst₂ fun b hb o e => (hs₃.2 b (by
        simp at hb
        rcases hb with rfl | rfl
        · exact hIC
        · exact hDC)).trans e
      obtain ⟨io, hio, -⟩ := id hst₃.1
      have keepP : ∀ b o, P.get? b = some o → h₃.get? b = some o := fun b o e => k3 b o (fun q => by rw [q, none_of I (Nat.le_refl _)] at e; cases e) (fun q => by rw [q, none_of _ (by lia)] at e; cases e) (F'.keep b o e)
      have F₃ : Fr P (I + 2) h₃ (fun y => if y = x then some v else m' y) := ⟨hn₃, keepP, F'.above⟩
      have N₃ : News P (I + 2) h₃ ([(I, io), (I + 1, listOf ys.toArray e), (env.locals, oL)] ++ H') := by
        intro p hp
        simp only [List.cons_append, List.nil_append, List.mem_cons] at hp
        rcases hp with rfl | rfl | rfl | hp
        · exact ⟨hio, hIC, none_of _ (Nat.le_refl _)⟩
        · exact ⟨k3 _ _ (Ne.symm hIR) hRC hR', hRC, none_of _ (by lia)⟩
        · exact ⟨k3 _ _ (Ne.symm hIL) hLC hL', hLC, hLP⟩
        · exact ⟨k3 _ _ (ap' p hp).1 (N' p hp).2.1 (N' p hp).1, (N' p hp).2⟩
      have ap₃ : ∀ p ∈ H', ∀ q ∈ [(I, io), (I + 1, listOf ys.toArray e), (env.locals, oL)], p.1 ≠ q.1 := fun p hp q hq => by
        simp only [List.mem_cons, List.not_mem_nil, or_false] at hq
        rcases hq with rfl | rfl | rfl
        · exact (ap' p hp).1
        · exact (ap' p hp).2.1
        · exact (ap' p hp).2.2
      have fin : ∀ ys' s₅, CompEnd P (I + 2) z [(I, io), (I + 1, listOf ys.toArray e), (env.locals, oL)] (J (i + 1)) ys' s₅ → ∀ h₆ e', h₆.get? (I + 1) = some (listOf ys'.toArray e') → (∀ b, b ≠ I + 1 → h₆.get? b = s₅.heap.get? b) →
          ∃ k, k < vs.length + 1 - i ∧ ∃ m' H' ys e i, Like z { s₅ with heap := h₆ } ∧ (h₆.IsListIter I D i ∧ h₆.IsList D vs.toArray) ∧ Fr P (I + 2) h₆ m' ∧ News P (I + 2) h₆ H' ∧ (∀ p ∈ H', p.1 ≠ I ∧ p.1 ≠ I + 1 ∧ p.1 ≠ env.locals) ∧ h₆.get? (I + 1) = some (listOf ys.toArray e) ∧ h₆.get? env.locals = some oL ∧
            J i ys H' ∧ i ≤ vs.length ∧ k = vs.length + 1 - i := by
        rintro ys' s₅ ⟨H₂, m₂, lk₂, F₂, N₂, ap₂, J₂⟩ h₆ e' hR₆ hk₆
        have n1 := (N₂ (I, io) (by simp)).1
        have n3 := (N₂ (env.locals, oL) (by simp)).1
        have nH : ∀ p ∈ H₂, p.1 ≠ I ∧ p.1 ≠ I + 1 ∧ p.1 ≠ env.locals := fun p hp => ⟨ap₂ p hp (I, io) (by simp), ap₂ p hp (I + 1, listOf ys.toArray e) (by simp), ap₂ p hp (env.locals, oL) (by simp)⟩
        have hD2 := hJD (i + 1) ys' H₂ J₂
        refine ⟨vs.length + 1 - (i + 1), by lia, m₂, H₂, ys', e', i + 1, lk₂.to, ⟨?_, ?_⟩, ⟨F₂.ns.at' fun o e => (hk₆ _ (Ne.symm hRC)).trans e, fun b o e => (hk₆ b (fun q => by rw [q, none_of _ (by lia)] at e; cases e)).trans (F₂.keep b o e), F₂.above⟩, fun p hp => ⟨(hk₆ _ (nH p hp).2.1).trans (N₂ p (by simp [hp])).1, (N₂ p (by simp [hp])).2⟩, nH, hR₆, (hk₆ _ (Ne.symm hRL)).trans n3, J₂, hlt, rfl⟩
        · obtain ⟨io', hio', r⟩ := hst₃.1
          rw [hio] at hio'; cases hio'
          exact ⟨io, (hk₆ _ hIR).trans n1, r⟩
        · exact ⟨_, (hk₆ _ (nH _ hD2).2.1).trans (N₂ _ (by simp [hD2])).1, rfl, _, rfl⟩
      refine wpAny_mono (turn i v ys (I + 2) { s' with heap := h₃, toks := tk₂ + 1 } m' H' [(I, io), (I + 1, listOf ys.toArray e), (env.locals, oL)] lk.to (by simpa using hv) hJ F₃ N₃ ap₃) (fun ok s₄ h₄ => ?_) fun _ _ e => e.elim
      cases ok with
      | false =>
        simp only [Bool.false_eq_true, if_false] at h₄ ⊢
        have hR4 : s₄.heap.get? (I + 1) = some (listOf ys.toArray e) := by obtain ⟨H₂, m₂, _, _, N₂, _⟩ := h₄; exact (N₂ (I + 1, listOf ys.toArray e) (by simp)).1
        obtain ⟨k, hk, r⟩ := fin ys s₄ h₄ s₄.heap e hR4 (fun _ _ => rfl)
        exact ⟨k, hk, r⟩
      | true =>
        simp only [if_true] at h₄ ⊢
        refine wpAny_mono h₄ (fun y s₅ h₅ => ?_) fun _ _ e => e.elim
        have hR5 : s₅.heap.get? (I + 1) = some (listOf ys.toArray e) := by obtain ⟨H₂, m₂, _, _, N₂, _⟩ := h₅; exact (N₂ (I + 1, listOf ys.toArray e) (by simp)).1
        have hyl := hJl i ys H' hJ
        refine wpAny_list_append_plain (l := I + 1) (items := ys.toArray) ⟨e, hR5⟩ (fun h₆ hp₆ hs₆ => ?_) (by rw [sizeLine_eq]; simp; lia)
        obtain ⟨e', he'⟩ := hp₆
        obtain ⟨k, hk, r⟩ := fin (ys ++ [y]) s₅ h₅ h₆ e' (by rw [he']; simp) (fun b hb => hs₆.2 b hb)
        exact ⟨k, hk, r⟩
    · have hin : i = vs.length := by lia
      subst hin
      refine W.done _ _ _ (by rw [hsz]; exact hst') fun h₂ tk₂ hk₂ => ?_
      have k2 : ∀ b o, b ≠ I → s'.heap.get? b = some o → h₂.get? b = some o := fun b o hb => hk₂ b o (by simpa using hb)
      refine ⟨m', F'.ns.at' fun o e => k2 _ o (Ne.symm hIC) e, fun h₃ hs₃ => ?_⟩
      have k3 : ∀ b o, b ≠ I → b ≠ I + 2 → s'.heap.get? b = some o → h₃.get? b = some o := fun b o hb hb2 e => (hs₃.2 b hb2).trans (k2 b o hb e)
      refine done (I + 1) e ys H' { s' with heap := h₃, toks := tk₂ } lk.to hJ ⟨⟨oL, es, ep, k3 _ _ (Ne.symm hIL) hLC hL', hLd, hLk, hLf⟩, fun b o e => k3 b o (fun q => by rw [q, none_of I (Nat.le_refl _)] at e; cases e) (fun q => by rw [q, none_of _ (by lia)] at e; cases e) (F'.keep b o e), F.above⟩ (fun p hp => ?_) fun p hp => (ap' p hp).2.1
      rcases List.mem_cons.mp hp with rfl | hp
      · exact ⟨k3 _ _ (Ne.symm hIR) hRC hR', hRL, none_of _ (by lia)⟩
      · exact ⟨k3 _ _ (ap' p hp).1 (N' p hp).2.1 (N' p hp).1, (ap' p hp).2.2, (N' p hp).2.2⟩
  exact codeAny_compStart_list (loop _ rfl hz.to) (W.self 0 _ _ _ ⟨⟨_, hIo, rfl, rfl⟩, ⟨_, old _ _ (N _ hm).1, rfl, _, rfl⟩⟩ (loop _ rfl hz.to))
end
end
section
/-- the edit distance of two prefixes, the price s -/
def ED (s : Nat → Nat → Int) : Nat → Nat → Int
  | 0, j => 2 * j
  | i + 1, 0 => 2 * (i + 1 : Nat)
  | i + 1, j + 1 => min (min (ED s i j + s i j) (ED s i (j + 1) + 2)) (ED s (i + 1) j + 2)
termination_by i j => (i, j)
theorem ED_zl (s) (j : Nat) : ED s 0 j = 2 * j := by rw [ED]
theorem ED_zr (s) (i : Nat) : ED s i 0 = 2 * i := by cases i <;> simp [ED]
theorem ED_ss (s) (i j : Nat) : ED s (i + 1) (j + 1) = min (min (ED s i j + s i j) (ED s i (j + 1) + 2)) (ED s (i + 1) j + 2) := by rw [ED]
theorem ED_congr {s t : Nat → Nat → Int} : ∀ {i j : Nat}, (∀ a b, a < i → b < j → s a b = t a b) → ED s i j = ED t i j := by
  intro i
  induction i with
  | zero => intro j _; rw [ED_zl, ED_zl]
  | succ i ih =>
    intro j
    induction j with
    | zero => intro _; rw [ED_zr, ED_zr]
    | succ j jh =>
      intro h
      rw [ED_ss, ED_ss, ih (j := j) (fun a b ha hb => h a b (by omega) (by omega)), ih (j := j + 1) (fun a b ha hb => h a b (by omega) (by omega)), jh (fun a b ha hb => h a b (by omega) (by omega)), h i j (by omega) (by omega)]
theorem ED_symm {s : Nat → Nat → Int} : ∀ (i j : Nat), ED s i j = ED (fun a b => s b a) j i := by
  intro i
  induction i with
  | zero => intro j; rw [ED_zl, ED_zr]
  | succ i ih =>
    intro j
    induction j with
    | zero => rw [ED_zl, ED_zr]
    | succ j jh => rw [ED_ss, ED_ss, ← ih j, ← ih (j + 1), ← jh]; omega
variable {s : Nat → Nat → Int} (hs : ∀ i j, 0 ≤ s i j ∧ s i j ≤ 2)
include hs
theorem ED_shift (h0 : s 0 0 = 0) : ∀ (i j : Nat), ED s (i + 1) (j + 1) = ED (fun a b => s (a + 1) (b + 1)) i j := by
  intro i
  induction i with
  | zero =>
    intro j
    rw [ED_zl]
    induction j with
    | zero => rw [ED_ss, ED_zl, ED_zl, ED_zr, h0]; omega
    | succ j jh => rw [ED_ss, ED_zl, ED_zl, jh]; have := hs 0 (j + 1); omega
  | succ i ih =>
    intro j
    induction j with
    | zero => rw [ED_zr, ED_ss, ED_zr, ED_zr, ih 0, ED_zr]; have := hs (i + 1) 0; omega
    | succ j jh => rw [ED_ss, ih j, ih (j + 1), jh, ED_ss]
theorem ED_lip : ∀ (i j : Nat), ED s i j ≤ ED s (i + 1) j + 2 ∧ ED s i j ≤ ED s i (j + 1) + 2 := by
  intro i
  induction i with
  | zero =>
    intro j
    induction j with
    | zero => rw [ED_zl, ED_zl, ED_zr]; omega
    | succ j jh =>
      rw [ED_ss]
      have h1 := hs 0 j
      simp only [ED_zl] at *
      omega
  | succ i ih =>
    intro j
    induction j with
    | zero =>
      rw [ED_ss, ED_zr, ED_zr, ED_zr]
      have h1 := hs i 0
      have := (ih 1).1
      have := (ih 0).2
      simp only [ED_zr] at *
      omega
    | succ j jh =>
      have h1 := hs (i + 1) j
      have h2 := hs i (j + 1)
      have e1 := ED_ss s (i + 1) j
      have e2 := ED_ss s i (j + 1)
      have e3 := ED_ss s i j
      have := ih j
      have := ih (j + 1)
      have := ih (j + 1 + 1)
      omega
/-- a common last sign -/
theorem ED_last (i j : Nat) (h : s i j = 0) : ED s (i + 1) (j + 1) = ED s i j := by
  rw [ED_ss, h]
  have := ED_lip hs i j
  have a := (ED_lip hs i j).1
  have b := (ED_lip hs i j).2
  have c := ED_lip hs i (j + 1)
  have d := ED_lip hs (i + 1) j
  omega
theorem ED_up (i j : Nat) : ED s (i + 1) j ≤ ED s i j + 2 ∧ ED s i (j + 1) ≤ ED s i j + 2 := by
  constructor
  · cases j with
    | zero => simp only [ED_zr]; omega
    | succ j => rw [ED_ss]; omega
  · cases i with
    | zero => simp only [ED_zl]; omega
    | succ i => rw [ED_ss]; omega
theorem ED_gap (i j : Nat) : 2 * ((j : Int) - i) ≤ ED s i j := by
  induction i generalizing j with
  | zero => rw [ED_zl]; omega
  | succ i ih => have := ih j; have := (ED_lip hs i j).1; omega
end
section
open PySem PySem.W PySem.Calls PyProof.Rows
def sIdx (x y : List Nat) (i j : Nat) : Int := cst (x.getD i 0) (y.getD j 0)
theorem cst_b (a b : Nat) : 0 ≤ cst a b ∧ cst a b ≤ 2 := by unfold cst; split; lia; split <;> lia
theorem cst_self (a : Nat) : cst a a = 0 := by simp [cst]
theorem cst_comm (a b : Nat) : cst a b = cst b a := by
  unfold cst
  by_cases h : a = b
  · simp [h]
  · rw [if_neg h, if_neg (Ne.symm h)]
    by_cases g : PySem.Txt.lower (S [a]) = PySem.Txt.lower (S [b])
    · rw [if_pos g, if_pos g.symm]
    · rw [if_neg g, if_neg (Ne.symm g)]
theorem sIdx_b (x y : List Nat) : ∀ i j, 0 ≤ sIdx x y i j ∧ sIdx x y i j ≤ 2 := fun i j => cst_b _ _
/-- the edit distance of two words -/
def dist (x y : List Nat) : Int := ED (sIdx x y) x.length y.length
theorem dist_cons (c : Nat) (x y : List Nat) : dist (c :: x) (c :: y) = dist x y := by
  unfold dist
  rw [List.length_cons, List.length_cons, ED_shift (sIdx_b _ _) (by simp [sIdx, cst_self])]
  exact ED_congr fun a b _ _ => by simp [sIdx]
theorem getD_app (x : List Nat) (c : Nat) (i : Nat) (h : i < x.length) : (x ++ [c]).getD i 0 = x.getD i 0 := by
  rw [List.getD_eq_getElem?_getD, List.getD_eq_getElem?_getD, List.getElem?_append_left h]
theorem getD_last (x : List Nat) (c : Nat) : (x ++ [c]).getD x.length 0 = c := by
  rw [List.getD_eq_getElem?_getD]; simp
theorem dist_snoc (c : Nat) (x y : List Nat) : dist (x ++ [c]) (y ++ [c]) = dist x y := by
  unfold dist
  rw [List.length_append, List.length_append]
  show ED _ (x.length + 1) (y.length + 1) = _
  rw [ED_last (sIdx_b _ _) _ _ (by rw [sIdx, getD_last, getD_last, cst_self])]
  exact ED_congr fun a b ha hb => by rw [sIdx, sIdx, getD_app x c a ha, getD_app y c b hb]
theorem dist_pre (p x y : List Nat) : dist (p ++ x) (p ++ y) = dist x y := by
  induction p with
  | nil => rfl
  | cons c p ih => rw [List.cons_append, List.cons_append, dist_cons, ih]
theorem dist_suf (p x y : List Nat) : dist (x ++ p) (y ++ p) = dist x y := by
  induction p generalizing x y with
  | nil => rw [List.append_nil, List.append_nil]
  | cons c p ih =>
    have h : ∀ z : List Nat, z ++ c :: p = (z ++ [c]) ++ p := fun z => by simp
    rw [h, h, ih, dist_snoc]
theorem dist_nil_l (y : List Nat) : dist [] y = 2 * y.length := ED_zl _ _
theorem dist_nil_r (y : List Nat) : dist y [] = 2 * y.length := ED_zr _ _
theorem dist_self (x : List Nat) : dist x x = 0 := by have := dist_pre x [] []; rw [List.append_nil] at this; rw [this, dist_nil_l]; rfl
theorem dist_comm (x y : List Nat) : dist x y = dist y x := by
  unfold dist
  rw [ED_symm]
  exact ED_congr fun a b _ _ => cst_comm _ _
theorem lcp_take : ∀ (a b : List Nat), a.take (lcp a b) = b.take (lcp a b)
  | [], b => by rw [lcp_nil_left]; rfl
  | x :: xs, [] => by rw [lcp_nil_right]; rfl
  | x :: xs, y :: ys => by
    unfold lcp
    split
    · rename_i h; rw [List.take_succ_cons, List.take_succ_cons, lcp_take xs ys, h]
    · rfl
theorem dist_lcp (a b : List Nat) : dist (a.drop (lcp a b)) (b.drop (lcp a b)) = dist a b := by
  have h1 := List.take_append_drop (lcp a b) a
  have h2 := List.take_append_drop (lcp a b) b
  rw [← dist_pre (a.take (lcp a b)), h1, lcp_take, h2]
theorem take_rev (a : List Nat) (k : Nat) : a.take (a.length - k) ++ (a.reverse.take k).reverse = a := by
  rw [List.take_reverse, List.reverse_reverse]
  exact List.take_append_drop _ _
theorem dist_lcs (a b : List Nat) : dist (a.take (a.length - lcp a.reverse b.reverse)) (b.take (b.length - lcp a.reverse b.reverse)) = dist a b := by
  have h1 := take_rev a (lcp a.reverse b.reverse)
  have h2 := take_rev b (lcp a.reverse b.reverse)
  rw [← dist_suf (a.reverse.take (lcp a.reverse b.reverse)).reverse, h1, lcp_take, h2]
/-- what a turn of the inner loop keeps -/
structure RowOk (x y : List Nat) (i : Nat) (k : Nat) (st : RSt) : Prop where
  row : ∀ m, m < x.length → st.row.getD m 0 = ED (sIdx x y) (m + 1) (if m < k then i + 1 else i)
  len : st.row.length = x.length
  dist : st.dist = ED (sIdx x y) k i
  res : st.res = if k = 0 then ED (sIdx x y) 0 i else ED (sIdx x y) k (i + 1)
  mn : ∀ m, m < k → st.mn ≤ ED (sIdx x y) (m + 1) (i + 1)
  mn' : st.mn = big ∨ ∃ m, m < k ∧ st.mn = ED (sIdx x y) (m + 1) (i + 1)
theorem getD_set (l : List Int) (i : Nat) (v : Int) (m : Nat) (hi : i < l.length) : (l.set i v).getD m 0 = if m = i then v else l.getD m 0 := by
  rw [List.getD_eq_getElem?_getD, List.getD_eq_getElem?_getD, List.getElem?_set]
  by_cases h : i = m
  · subst h; simp [hi]
  · rw [if_neg h, if_neg (Ne.symm h)]
theorem RowOk.next {x y : List Nat} {i k : Nat} {st : RSt} (h : RowOk x y i k st) (hk : k < x.length) : RowOk x y i (k + 1) (rowNext st (y.getD i 0) (x.getD k 0) k) := by
  have e := ED_ss (sIdx x y) k i
  have hsub : cst (y.getD i 0) (x.getD k 0) = sIdx x y k i := cst_comm _ _
  have hb := sIdx_b x y k i
  have hrow : st.row.getD k 0 = ED (sIdx x y) (k + 1) i := by rw [h.row k hk, if_neg (by lia)]
  have hr : (rowNext st (y.getD i 0) (x.getD k 0) k).res = ED (sIdx x y) (k + 1) (i + 1) := by
    have hd := h.dist
    have hres := h.res
    simp only [rowNext, hsub, hrow]
    rw [e]
    by_cases h0 : k = 0
    · subst h0
      rw [if_pos rfl] at hres
      have e1 := ED_zl (sIdx x y) i
      have e2 := ED_zl (sIdx x y) (i + 1)
      rw [hd, hres, e1] at *
      rw [e2]
      split <;> split <;> lia
    · rw [if_neg h0] at hres
      rw [hd, hres]
      split <;> split <;> lia
  refine ⟨fun m hm => ?_, ?_, hrow, ?_, fun m hm => ?_, ?_⟩
  · show (st.row.set k (rowNext st (y.getD i 0) (x.getD k 0) k).res).getD m 0 = _
    rw [getD_set _ _ _ _ (by rw [h.len]; exact hk), hr]
    by_cases h1 : m = k
    · subst h1; rw [if_pos rfl, if_pos (by lia)]
    · rw [if_neg h1, h.row m hm]
      by_cases h2 : m < k
      · rw [if_pos h2, if_pos (by lia)]
      · rw [if_neg h2, if_neg (by lia)]
  · show (st.row.set k _).length = _
    rw [List.length_set, h.len]
  · rw [hr, if_neg (by lia)]
  · show (if (rowNext st (y.getD i 0) (x.getD k 0) k).res < st.mn then (rowNext st (y.getD i 0) (x.getD k 0) k).res else st.mn) ≤ _
    rw [hr]
    by_cases h1 : m = k
    · subst h1; split <;> lia
    · have := h.mn m (by lia); split <;> lia
  · show (if (rowNext st (y.getD i 0) (x.getD k 0) k).res < st.mn then (rowNext st (y.getD i 0) (x.getD k 0) k).res else st.mn) = _ ∨ _
    have hm : (rowNext st (y.getD i 0) (x.getD k 0) k).mn = if (rowNext st (y.getD i 0) (x.getD k 0) k).res < st.mn then (rowNext st (y.getD i 0) (x.getD k 0) k).res else st.mn := rfl
    rw [hm, hr]
    by_cases h1 : ED (sIdx x y) (k + 1) (i + 1) < st.mn
    · rw [if_pos h1]; exact .inr ⟨k, by lia, rfl⟩
    · rw [if_neg h1]
      rcases h.mn' with h2 | ⟨m, h2, h3⟩
      · exact .inl h2
      · exact .inr ⟨m, by lia, h3⟩
/-- the row ahead of the turn i -/
def RowAt (x y : List Nat) (i : Nat) (row : List Int) : Prop := row.length = x.length ∧ ∀ m, m < x.length → row.getD m 0 = ED (sIdx x y) (m + 1) i
theorem RowAt.go {x y : List Nat} {i : Nat} {row : List Int} (h : RowAt x y i row) : ∀ k, k ≤ x.length → RowOk x y i k (rowSt (y.getD i 0) x row (i * 2) k)
  | 0, _ => ⟨fun m hm => by rw [if_neg (by lia)]; exact h.2 m hm, h.1, by rw [ED_zl]; simp only [rowSt]; lia, by rw [if_pos rfl, ED_zl]; simp only [rowSt]; lia, fun m hm => by lia, .inl rfl⟩
  | k + 1, hk => by rw [rowSt_succ]; exact (RowAt.go h k (by lia)).next (by lia)
theorem row_above {x y : List Nat} {M : Int} {i : Nat} (h : ∀ m, m ≤ x.length → M < ED (sIdx x y) m i) : ∀ m, m ≤ x.length → M < ED (sIdx x y) m (i + 1) := by
  have hb := sIdx_b x y
  intro m
  induction m with
  | zero => intro _; have := h 0 (by lia); rw [ED_zl] at *; lia
  | succ m ih =>
    intro hm
    have a := ih (by lia)
    have b := h m (by lia)
    have c := h (m + 1) (by lia)
    rw [ED_ss]
    have := hb m i
    lia
theorem row_end {x y : List Nat} {M : Int} (n : Nat) : ∀ {i : Nat}, (∀ m, m ≤ x.length → M < ED (sIdx x y) m i) → M < ED (sIdx x y) x.length (i + n) := by
  induction n with
  | zero => intro i h; exact h _ (Nat.le_refl _)
  | succ n ih => intro i h; have := ih (row_above h); rw [show i + (n + 1) = i + 1 + n by lia]; exact this
/-- the dynamic program tells the distance, or a number above the bound -/
def Tells (d M r : Int) : Prop := (d ≤ M → r = d) ∧ (M < d → M < r)
theorem Tells.rfl' {d M : Int} : Tells d M d := ⟨fun _ => rfl, fun h => h⟩
theorem Tells.above {d M : Int} (h : M < d) : Tells d M (M + 1) := ⟨fun g => by lia, fun _ => by lia⟩
theorem scan_ok {x y : List Nat} {M : Int} (hM : M < big) (hx : x.length ≠ 0) : ∀ (n i : Nat) (row : List Int) (r : Int), RowAt x y i row → i + n = y.length → (n = 0 → r = ED (sIdx x y) x.length i) → Tells (dist x y) M (scan x y M n i row r)
  | 0, i, row, r, h, hn, hr => by
    rw [scan, hr rfl]
    have : i = y.length := by lia
    subst this
    exact Tells.rfl'
  | n + 1, i, row, r, h, hn, hr => by
    have g := RowAt.go h x.length (Nat.le_refl _)
    rw [scan]
    by_cases hm : (rowSt (y.getD i 0) x row (i * 2) x.length).mn > M
    · rw [if_pos hm]
      refine Tells.above ?_
      have hall : ∀ m, m ≤ x.length → M < ED (sIdx x y) m (i + 1) := by
        intro m hle
        cases m with
        | succ m => have := g.mn m (by lia); lia
        | zero =>
          have a := g.mn 0 (by lia)
          have b := ED_ss (sIdx x y) 0 i
          have c := sIdx_b x y 0 i
          rw [ED_zl] at *
          rw [ED_zl] at b
          lia
      have := row_end n hall
      unfold dist
      rw [show y.length = i + 1 + n by lia]
      exact this
    · rw [if_neg hm]
      refine scan_ok hM hx n (i + 1) _ _ ⟨g.len, fun m hle => ?_⟩ (by lia) (fun _ => ?_)
      · rw [g.row m hle, if_pos hle]
      · rw [g.res, if_neg hx]
theorem row0_at (x y : List Nat) : RowAt x y 0 (row0 x.length) := by
  have hl : ∀ (n : Nat) (a : Int), (rangeInts a 2 n).length = n := fun n a => by simp [rangeInts]
  have hg : ∀ (n m : Nat) (a : Int), m < n → (rangeInts a 2 n).getD m 0 = a + 2 * m := fun n m a h => by
    unfold rangeInts
    rw [List.getD_eq_getElem?_getD, List.getElem?_map, List.getElem?_range h]
    simp only [Option.map_some, Option.getD_some]
    lia
  refine ⟨hl _ _, fun m hm => ?_⟩
  rw [row0, hg _ _ _ hm, ED_zr]
  lia
theorem levF_ok (la lb : List Nat) (M : Int) (hM : M < big) : Tells (dist la lb) M (levF la lb M) := by
  unfold levF
  split
  · rename_i h; subst h; rw [dist_self]; exact Tells.rfl'
  dsimp only
  rw [← dist_lcp la lb]
  generalize la.drop (lcp la lb) = a
  generalize lb.drop (lcp la lb) = b
  rw [← dist_lcs a b]
  generalize a.take (a.length - lcp a.reverse b.reverse) = c
  generalize b.take (b.length - lcp a.reverse b.reverse) = d
  split
  · rename_i h
    rcases h with h | h
    · have := List.length_eq_zero_iff.mp h; subst this
      rw [dist_nil_l]; simp only [List.length_nil]
      rw [show (2 : Int) * ((0 : Nat) + (d.length : Int)) = 2 * d.length by lia]; exact Tells.rfl'
    · have := List.length_eq_zero_iff.mp h; subst this
      rw [dist_nil_r]; simp only [List.length_nil]
      rw [show (2 : Int) * ((c.length : Int) + (0 : Nat)) = 2 * c.length by lia]; exact Tells.rfl'
  rename_i h
  have key : ∀ x y : List Nat, x.length ≠ 0 → y.length ≠ 0 → Tells (dist x y) M (if ((y.length : Int) - x.length) * 2 > M then M + 1 else scan x y M y.length 0 (row0 x.length) 0) := by
    intro x y hx hy
    split
    · rename_i g
      refine Tells.above ?_
      have := ED_gap (sIdx_b x y) x.length y.length
      unfold dist
      lia
    · exact scan_ok hM hx _ 0 _ _ (row0_at x y) (by lia) (fun h0 => absurd h0 hy)
  split
  · rw [dist_comm]; exact key d c (by lia) (by lia)
  · exact key c d (by lia) (by lia)
end
section
abbrev ws (c : Nat) : Prop := c ∈ [10, 9, 13, 32]
/-- a quoted word's rest -/
def quo (tok : List Nat) : List Nat → List Nat × List Nat
  | [] => (tok, [])
  | c :: r => if c = 34 then (tok, r) else if c = 92 then quo (tok ++ r.take 1) r.tail else quo (tok ++ [c]) r
termination_by r => r.length
decreasing_by all_goals simp <;> lia
/-- a bare word's rest -/
def bar (tok : List Nat) : List Nat → List Nat × List Nat
  | [] => (tok, [])
  | c :: r => if ws c then (tok, r) else if c = 92 then bar (tok ++ r.take 1) r.tail else bar (tok ++ [c]) r
termination_by r => r.length
decreasing_by all_goals simp <;> lia
def tokF : List Nat → List Nat × List Nat
  | [] => ([], [])
  | c :: r => if ws c then tokF r else if c = 34 then quo [] r else if c = 92 then bar (r.take 1) r.tail else bar [c] r
def cnt (l : List Nat) : Int := (l.count 10 : Nat)
theorem cnt_nonneg (l : List Nat) : 0 ≤ cnt l := by unfold cnt; lia
theorem cnt_le (l : List Nat) : cnt l ≤ l.length := by unfold cnt; have := List.count_le_length (a := 10) (l := l); lia
theorem cnt_cons (c : Nat) (l : List Nat) : cnt (c :: l) = cnt l + if c = 10 then 1 else 0 := by
  unfold cnt; rw [List.count_cons]; by_cases h : c = 10 <;> simp [h]
theorem cnt_app (a b : List Nat) : cnt (a ++ b) = cnt a + cnt b := by
  unfold cnt; rw [List.count_append]; lia
theorem cnt_tail (l : List Nat) : cnt l = cnt l.tail + if l.take 1 = [10] then 1 else 0 := by
  cases l with
  | nil => simp [cnt]
  | cons c r => rw [cnt_cons]; simp
theorem quo_cons (tok : List Nat) (c : Nat) (r : List Nat) : quo tok (c :: r) = if c = 34 then (tok, r) else if c = 92 then quo (tok ++ r.take 1) r.tail else quo (tok ++ [c]) r := by rw [quo]
theorem quo_nil (tok : List Nat) : quo tok [] = (tok, []) := by rw [quo]
theorem bar_cons (tok : List Nat) (c : Nat) (r : List Nat) : bar tok (c :: r) = if ws c then (tok, r) else if c = 92 then bar (tok ++ r.take 1) r.tail else bar (tok ++ [c]) r := by rw [bar]
theorem bar_nil (tok : List Nat) : bar tok [] = (tok, []) := by rw [bar]
theorem tokF_cons (c : Nat) (r : List Nat) : tokF (c :: r) = if ws c then tokF r else if c = 34 then quo [] r else if c = 92 then bar (r.take 1) r.tail else bar [c] r := by rw [tokF]
theorem quo_len (r : List Nat) : ∀ (n : Nat) (tok : List Nat), r.length ≤ n → (quo tok r).2.length ≤ r.length := by
  intro n
  induction n generalizing r with
  | zero => intro tok h; have := List.length_eq_zero_iff.mp (Nat.le_zero.mp h); subst this; rw [quo_nil]; exact Nat.le_refl _
  | succ n ih =>
    intro tok h
    cases r with
    | nil => rw [quo_nil]; exact Nat.le_refl _
    | cons c r =>
      simp only [List.length_cons] at h
      rw [quo_cons]
      split
      · simp
      · split
        · have := ih r.tail (tok ++ r.take 1) (by rw [List.length_tail]; lia)
          rw [List.length_tail] at this; simp only [List.length_cons]; lia
        · have := ih r (tok ++ [c]) (by lia); simp only [List.length_cons]; lia
theorem bar_len (r : List Nat) : ∀ (n : Nat) (tok : List Nat), r.length ≤ n → (bar tok r).2.length ≤ r.length := by
  intro n
  induction n generalizing r with
  | zero => intro tok h; have := List.length_eq_zero_iff.mp (Nat.le_zero.mp h); subst this; rw [bar_nil]; exact Nat.le_refl _
  | succ n ih =>
    intro tok h
    cases r with
    | nil => rw [bar_nil]; exact Nat.le_refl _
    | cons c r =>
      simp only [List.length_cons] at h
      rw [bar_cons]
      split
      · simp
      · split
        · have := ih r.tail (tok ++ r.take 1) (by rw [List.length_tail]; lia)
          rw [List.length_tail] at this; simp only [List.length_cons]; lia
        · have := ih r (tok ++ [c]) (by lia); simp only [List.length_cons]; lia
theorem tokF_len : ∀ (r : List Nat), (tokF r).2.length ≤ r.length
  | [] => Nat.le_refl _
  | c :: r => by
    rw [tokF_cons]
    have ih := tokF_len r
    simp only [List.length_cons]
    split
    · lia
    · split
      · have := quo_len r _ [] (Nat.le_refl _); lia
      · split
        · have := bar_len r.tail _ (r.take 1) (Nat.le_refl _); rw [List.length_tail] at this; lia
        · have := bar_len r _ [c] (Nat.le_refl _); lia
/-- what is written of a word's sign k -/
def need (q : Bool) (k : Nat) (c : Nat) : Bool := if q then decide (c ∈ [34, 92]) else decide (c ∈ [10, 9, 13, 32, 92]) || (decide (k = 0) && decide (c = 34))
def piece (q : Bool) (word : List Nat) (sl : List Int) (k : Nat) : List Nat := if need q k (word.getD k 0) = true ∨ (sl.getD k 0) % 2 = 1 then [92, word.getD k 0] else [word.getD k 0]
def body (q : Bool) (word : List Nat) (sl : List Int) (n : Nat) : List Nat := (List.range' 0 n).flatMap (piece q word sl)
theorem body_zero (q : Bool) (word : List Nat) (sl : List Int) : body q word sl 0 = [] := rfl
theorem body_succ (q : Bool) (word : List Nat) (sl : List Int) (n : Nat) : body q word sl (n + 1) = body q word sl n ++ piece q word sl n := by
  unfold body
  rw [List.range'_concat, List.flatMap_append]
  simp
theorem body_len (q : Bool) (word : List Nat) (sl : List Int) : ∀ n, (body q word sl n).length ≤ 2 * n
  | 0 => Nat.zero_le _
  | n + 1 => by
    rw [body_succ, List.length_append]
    have := body_len q word sl n
    have : (piece q word sl n).length ≤ 2 := by unfold piece; split <;> simp
    lia
theorem quo_body {word : List Nat} {sl : List Int} (rest : List Nat) : ∀ (n s : Nat) (tok : List Nat), quo tok ((List.range' s n).flatMap (piece true word sl) ++ rest) = quo (tok ++ (List.range' s n).map fun k => word.getD k 0) rest
  | 0, s, tok => by simp
  | n + 1, s, tok => by
    rw [List.range'_succ, List.flatMap_cons, List.map_cons, List.append_assoc]
    have ih := quo_body (word := word) (sl := sl) rest n (s + 1)
    unfold piece need
    simp only [if_true]
    split
    · rw [List.cons_append, List.cons_append, List.nil_append, quo_cons, if_neg (by decide), if_pos rfl]
      simp only [List.take_succ_cons, List.take_zero, List.tail_cons]
      refine (ih _).trans ?_
      rw [List.append_assoc]; rfl
    · rename_i h
      simp only [List.mem_cons, List.not_mem_nil, or_false, decide_eq_true_eq, not_or] at h
      rw [List.cons_append, List.nil_append, quo_cons, if_neg h.1.1, if_neg h.1.2]
      refine (ih _).trans ?_
      rw [List.append_assoc]; rfl
theorem bar_body {word : List Nat} {sl : List Int} (rest : List Nat) : ∀ (n s : Nat) (tok : List Nat), 0 < s → bar tok ((List.range' s n).flatMap (piece false word sl) ++ rest) = bar (tok ++ (List.range' s n).map fun k => word.getD k 0) rest
  | 0, s, tok, _ => by simp
  | n + 1, s, tok, hs => by
    rw [List.range'_succ, List.flatMap_cons, List.map_cons, List.append_assoc]
    have ih := fun tok => bar_body (word := word) (sl := sl) rest n (s + 1) tok (by lia)
    unfold piece need
    simp only [if_false, Bool.false_eq_true, show ¬ s = 0 by lia, decide_false, Bool.false_and, Bool.or_false]
    split
    · rw [List.cons_append, List.cons_append, List.nil_append, bar_cons, if_neg (by decide), if_pos rfl]
      simp only [List.take_succ_cons, List.take_zero, List.tail_cons]
      refine (ih _).trans ?_
      rw [List.append_assoc]; rfl
    · rename_i h
      simp only [List.mem_cons, List.not_mem_nil, or_false, decide_eq_true_eq, not_or] at h
      rw [List.cons_append, List.nil_append, bar_cons, if_neg (fun hh => by simp only [ws, List.mem_cons, List.not_mem_nil, or_false] at hh; lia), if_neg h.1.2.2.2.2]
      refine (ih _).trans ?_
      rw [List.append_assoc]; rfl
theorem map_word (word : List Nat) : (List.range' 0 word.length).map (fun k => word.getD k 0) = word := by
  rw [← List.range_eq_range']
  refine List.ext_getElem (by simp) fun i h1 h2 => ?_
  rw [List.getElem_map, List.getElem_range, List.getD_eq_getElem?_getD, List.getElem?_eq_getElem h2]
  rfl
theorem tokF_quoted (word : List Nat) (sl : List Int) (rest : List Nat) : tokF (34 :: (body true word sl word.length ++ rest)) = quo word rest := by
  rw [tokF_cons, if_neg (by decide), if_pos rfl]
  unfold body
  rw [quo_body, map_word, List.nil_append]
theorem tokF_bare (word : List Nat) (sl : List Int) (rest : List Nat) (hw : word ≠ []) : tokF (body false word sl word.length ++ rest) = bar word rest := by
  obtain ⟨c, r, rfl⟩ := List.exists_cons_of_ne_nil hw
  have hm := map_word (c :: r)
  unfold body
  rw [List.length_cons, List.range'_succ, List.flatMap_cons, List.append_assoc] at *
  rw [List.map_cons] at hm
  have hb := bar_body (word := c :: r) (sl := sl) rest r.length (0 + 1) [c] (by lia)
  have key : tokF (piece false (c :: r) sl 0 ++ ((List.range' (0 + 1) r.length).flatMap (piece false (c :: r) sl) ++ rest)) = bar [c] ((List.range' (0 + 1) r.length).flatMap (piece false (c :: r) sl) ++ rest) := by
    generalize (List.range' (0 + 1) r.length).flatMap (piece false (c :: r) sl) ++ rest = z
    unfold piece need
    simp only [if_false, Bool.false_eq_true, decide_true, Bool.true_and, List.getD_cons_zero]
    split
    · rw [List.cons_append, List.cons_append, List.nil_append, tokF_cons, if_neg (by decide), if_neg (by decide), if_pos rfl]
      rfl
    · rename_i h
      simp only [List.mem_cons, List.not_mem_nil, or_false, Bool.or_eq_true, decide_eq_true_eq, not_or] at h
      rw [List.cons_append, List.nil_append, tokF_cons, if_neg (fun hh => by simp only [ws, List.mem_cons, List.not_mem_nil, or_false] at hh; lia), if_neg h.1.2, if_neg h.1.1.2.2.2.2]
  rw [key, hb]
  have e : [c] ++ (List.range' (0 + 1) r.length).map (fun k => (c :: r).getD k 0) = c :: r := hm
  rw [e]
theorem tokF_gap (n : Nat) (c : Nat) (hc : ws c) (x : List Nat) : tokF (List.replicate n c ++ x) = tokF x := by
  induction n with
  | zero => rfl
  | succ n ih => rw [List.replicate_succ, List.cons_append, tokF_cons, if_pos hc, ih]
/-- a word in its writing, without and with the last sign -/
def open1 (q : Bool) (word : List Nat) (sl : List Int) : List Nat := (if q then [34] else []) ++ body q word sl word.length
def close1 (q : Bool) (white : Nat) : Nat := if q then 34 else white
theorem tok_open (q : Bool) (word : List Nat) (sl : List Int) (rest : List Nat) (hq : word = [] → q = true) : tokF (open1 q word sl ++ rest) = if q then quo word rest else bar word rest := by
  unfold open1
  cases q with
  | true => simp only [if_true, List.append_assoc]; exact tokF_quoted word sl rest
  | false => simp only [Bool.false_eq_true, if_false, List.nil_append]; exact tokF_bare word sl rest (fun h => by simpa using hq h)
theorem tok_closed (q : Bool) (word : List Nat) (sl : List Int) (white : Nat) (rest : List Nat) (hw : ws white) (hq : word = [] → q = true) : tokF (open1 q word sl ++ close1 q white :: rest) = (word, rest) := by
  rw [tok_open _ _ _ _ hq]
  unfold close1
  cases q with
  | true => simp only [if_true, quo_cons]
  | false => simp only [Bool.false_eq_true, if_false, bar_cons, if_pos hw]
end
open PySem PySem.W PySem.Calls PyProof.Rows
variable {w : World}
local macro_rules | `(tactic| walk_at $s:str) => `(tactic| k_extra $s)
local macro_rules | `(tactic| walk_at "i3") => `(tactic| (intro h' F' N'; (try k_sweep)))
local macro_rules | `(tactic| walk_at "i4") => `(tactic| (intro s₁ l₁ F₁ N₁; k_sweep))
local macro_rules | `(tactic| walk_at "i5") => `(tactic| (intro D' h' F' N' nD; (try k_sweep)))
local macro_rules | `(tactic| walk_at "i5l") => `(tactic| (intro D' h' F' N' nD; k_lt nD; (try k_sweep)))
local macro_rules | `(tactic| walk_at "ihc") => `(tactic| (intro hc <;> (try simp only [bne_iff_ne, ne_eq, beq_iff_eq, decide_eq_true_eq, Bool.not_eq_true, Bool.and_eq_true, Bool.or_eq_true, Bool.not_eq_true', decide_eq_false_iff_not, Classical.not_not, List.isEmpty_cons, List.isEmpty_nil, Bool.not_true, Bool.not_false, Bool.false_eq_true, not_true_eq_false, not_false_eq_true, lit_nl, lit_q, lit_bs, lit_e, S_inj, List.cons.injEq, and_true, nil_len, List.length_drop, List.length_take] at hc) <;> (try (exfalso; first | assumption | contradiction | lia))))
theorem regk_none : True := by
  k_with_none
  trivial
theorem regk0 : True := by
  k_with "LK" => first | assumption | (dsimp only; exact Like.to (by assumption))
  k_with "l1" => first | (apply Nat.le_trans; assumption; exact Nat.le_of_ble_eq_true rfl) | lia | (simp only [List.length_drop, List.length_take, List.length_append, List.length_cons, List.length_nil, Int.toNat_natCast]; lia)
  k_with "l2" => first | (apply Nat.le_trans; assumption; exact Nat.le_of_ble_eq_true rfl) | lia | (simp only [List.length_drop, List.length_take]; lia)
  k_with "m fill" => (have kkk : (hk.heap_1 (World.params (by assumption))).length = PySem.Challenge.rw_pm0020_02.foot → True := (by k_fill; intro _; trivial); clear kkk)
  trivial
section
/-- a lexer's addresses and toks; what stands unturned -/
structure LexA where
  x : Addr
  dx : Addr
  st : Addr
  sd : Addr
  lam : Addr
  sg : Addr
  pb : Addr
  k1 : Tok
  k2 : Tok
  k3 : Tok
  k4 : Tok
  t3 : Tok
  sde : List DictEntry
  sn : Nat
  lo : Obj
  lf : FuncData
  rest : List (Addr × Obj)
def lexD (w : World) (a : LexA) (line : Int) (t1 : Tok) : Obj := dictOf [ent w "lineno" a.k1 (.int line t1), ent w "instream" a.k2 (.ref a.st), ent w "whitespace" a.k3 (.str "\n\t\r " a.t3), ent w "pushback" a.k4 (.ref a.pb)] 4
def lexH (w : World) (a : LexA) (line : Int) (t1 : Tok) (vs : List Value) (e2 : Nat) (pv : List Value) (e3 : Nat) : List (Addr × Obj) :=
  (a.dx, lexD w a line t1) :: (a.sg, listOf vs.toArray e2) :: (a.pb, listOf pv.toArray e3) :: (a.x, instObj 52 a.dx) :: (a.st, instObj 52 a.sd) :: (a.sd, dictOf a.sde a.sn) :: (a.lam, a.lo) :: a.rest
/-- what its reader does -/
structure LexOk (w : World) (a : LexA) : Prop where
  lam : ∀ vs n t (rem : List Nat), Sg vs rem.reverse → rem.length ≤ 100000 → Spec w 3 (.ref a.lam) [.int 1 t] ((a.sg, listOf vs.toArray n) :: (a.lam, a.lo) :: a.rest)
    (fun v H' => ∃ vs' n' tk, v = .str (S (rem.take 1)) tk ∧ Sg vs' rem.tail.reverse ∧ H' = (a.sg, listOf vs'.toArray n') :: (a.lam, a.lo) :: a.rest)
  lf : ∃ oc od sl, a.lo = ⟨oc, od, .func a.lf, sl⟩
  read : getL "read" a.sde = some (some (.ref a.lam))
  nodup : (a.dx ≠ a.sg ∧ a.dx ≠ a.pb ∧ a.dx ≠ a.x ∧ a.dx ≠ a.st ∧ a.dx ≠ a.sd ∧ a.dx ≠ a.lam) ∧ (a.sg ≠ a.pb ∧ a.sg ≠ a.x ∧ a.sg ≠ a.st ∧ a.sg ≠ a.sd ∧ a.sg ≠ a.lam) ∧ (a.pb ≠ a.x ∧ a.pb ≠ a.st ∧ a.pb ≠ a.sd ∧ a.pb ≠ a.lam) ∧ (a.x ≠ a.lam ∧ a.st ≠ a.lam ∧ a.sd ≠ a.lam) ∧ ∀ p ∈ a.rest, p.1 ≠ a.dx ∧ p.1 ≠ a.sg ∧ p.1 ≠ a.pb ∧ p.1 ≠ a.x ∧ p.1 ≠ a.st ∧ p.1 ≠ a.sd

theorem stream_read {a : LexA} {A : Around} {E : Value → Shared → Prop} {s : Shared} {P : Heap} {L : Addr} {m : Str → Option Value} {news : List (Addr × Obj)} {pl : Sem Bool} {Q : Value × List Value → Shared → Prop} (ok : LexOk w a) (F : Fr P L s.heap m) (X : (hk.heap_1 w.params).In P) (N : News P L s.heap news)
   (hm : (a.st, instObj 52 a.sd) ∈ news) (hm2 : (a.sd, dictOf a.sde a.sn) ∈ news) (h : Q (.ref a.lam, []) { s with toks := s.toks + 1 }) : wpAny (model PR w) A (getMethod (.ref a.st) "read" pl) Q E s := by
  walk_at "m fill"
  have I : InstAt s.heap a.st ⟨.ref 52, some a.sd, .plain, #[]⟩ 52 (some (dictOf a.sde a.sn)) := InstAt.of_news N hm hm2
  refine' kmu_own F X I ?k4 ?k5 ?_
  case k4 => k_is
  case k5 => k_is
  refine' get_own F X I ?k4 ?k5 ?k6 ?k7 ok.read ?k9 h
  case k4 => k_is
  case k5 => k_is
  case k6 => k_is
  case k7 => k_is
  case k9 => rfl
theorem fnAt_lam {a : LexA} {h P : Heap} {L : Addr} {news : List (Addr × Obj)} (ok : LexOk w a) (N : News P L h news) (hm : (a.lam, a.lo) ∈ news) : FnAt a.lam h := by
  obtain ⟨oc, od, sl, e⟩ := ok.lf
  have := N.get hm
  rw [e] at this
  exact ⟨_, _, _, _, this⟩
end
section
theorem kind_iter : builtinKind "iter" = none := by decide +kernel
theorem plain_iter : plainId "iter" = true := by decide +kernel
theorem args_iter2 (a b : Value) : argsOk "iter" ⟨[a, b], []⟩ := by unfold argsOk; kernel_rfl
theorem look_method_call : typeLookup (.type "method") "__call__" = pure (some (.builtin "method.__call__")) := by rw [typeLookup_type, builtinLookup_eq_fast]; kernel_rfl
theorem call_iter2 {A : Around} {E : Value → Shared → Prop} {s : Shared} {q : Addr} {f self : Value} {t : Tok} {Q : Value → Shared → Prop} (hq : s.heap.get? q = some (methodObj f self))
    (h : Q (.ref s.heap.objs.size) { s with heap := s.heap.push (ciObj (.ref q) (.str "" t) false) }) : wpAny (model PR w) A (call (.builtin "iter") [.ref q, .str "" t]) Q E s := by
  refine Calls.call_function_entry kind_iter plain_iter entry_iter (args_iter2 _ _) ?_
  unfold Builtin.«iter»
  refine wpAny_bind (wpAny_of_eq (a := [.ref q, .str "" t]) (by first | rfl | kernel_rfl) ?_)
  dsimp only
  refine wpAny_bind (wpAny_specialOf (T := "method") ⟨_, hq, rfl⟩ look_method_call ?_)
  show wpAny _ _ (rule _ >>= _) _ _ s
  refine wpAny_bind (wpAny_rule ?_)
  refine wpAny_bind ?_
  unfold newFields
  refine wpAny_newObj_type ?_ (by size_fits)
  exact wpAny_pure ⟨_, rfl, h⟩

theorem iter_N {A : Around} {E : Value → Shared → Prop} {s : Shared} {P : Heap} {L : Addr} {m : Str → Option Value} {news : List (Addr × Obj)} {q : Addr} {f self : Value} {t : Tok} {Q : Value → Shared → Prop} (F : Fr P L s.heap m) (N : News P L s.heap news) (hq : (q, methodObj f self) ∈ news)
    (h : ∀ I h', Fr P L h' m → News P L h' ((I, ciObj (.ref q) (.str "" t) false) :: news) → (∀ p ∈ news, p.1 ≠ I) → Q (.ref I) { s with heap := h' }) : wpAny (model PR w) A (call (.builtin "iter") [.ref q, .str "" t]) Q E s :=
  call_iter2 (N _ hq).1 (h _ _ (F.push _) (N.push F _) (Led.ne_size N))
theorem bound_N {A : Around} {E : Value → Shared → Prop} {s : Shared} {K : Frag} {x C f L : Addr} {ox : Obj} {name : Str} {expr : Bool} {h₀ : Heap} {m : Str → Option Value} {news : List (Addr × Obj)} {es : List DictEntry} {n : Nat} {Q : Value → Shared → Prop}
    (F : Fr h₀ L s.heap m) (X₀ : K.In h₀) (N : News h₀ L s.heap news) (I : InstAt s.heap x ox C (some (dictOf es n))) (hg : plainGet K C name = true) (hh : hasDictIn K C = true) (ha : findIn K (.ref C) name = some (some (.ref f))) (hf : isFn K (.ref f) = true)
    (hgf : specialIn K (.ref f) "__get__" = some (some (.builtin "function.__get__"))) (ht : takesIn K (.ref f) = some false) (hc : copiedNames.contains name = false) (hl : getL name es = some none)
    (h : ∀ q h', Fr h₀ L h' m → News h₀ L h' ((q, methodObj (.ref f) (.ref x)) :: news) → (∀ p ∈ news, p.1 ≠ q) → Q (.ref q) { s with heap := h', toks := s.toks + 1 }) : wpAny (model PR w) A (getAttr (.ref x) name expr) Q E s :=
  kbm_bound F X₀ N I hg hh ha hf hgf ht hc hl fun q h' F' N' l => h q h' F' N' fun p hp => Nat.ne_of_lt (l p hp)
theorem fn_at {f : Addr} {name qual : Str} {params : Arguments} {body : List Stmt} {scope : Scope} {dV kV doc pm cdv ct oc : Value} {an od : Option Addr} {osl : Array (Option Value)}
    (ho : (hk.heap_1 w.params).lookup f = some ⟨oc, od, .func (fnOf name qual params body scope dV kV doc pm an cdv ct), osl⟩) : ∃ oc od fd osl, (hk.heap_1 w.params).lookup f = some ⟨oc, od, .func fd, osl⟩ := ⟨_, _, _, _, ho⟩
end
local macro_rules | `(tactic| walk_at "m upd") => `(tactic| (refine Upd.head ?_; intro p hp; simp only [List.mem_cons] at hp; rcases hp with hp | hp | hp | hp | hp | hp | hp <;> first | (rw [hp]; dsimp only; apply Ne.symm; assumption) | (exact (LexOk.nodup (by assumption)).2.2.2.2 _ hp |>.1)))
local macro_rules | `(tactic| walk_at "inplaceOp Add ref ref") => `(tactic| (refine' ll_iadd ?k1 ?k2 ?k3 ?k4 ?k5 ?k6 ?_; (case k1 => assumption); (case k2 => assumption); (case k3 => k_mem); (case k5 => walk_at "m upd"); (case k4 => first | (apply Nat.le_trans; assumption; exact Nat.le_of_ble_eq_true rfl) | lia | (simp; done)); (case k6 => first | (apply Nat.le_trans; assumption; exact Nat.le_of_ble_eq_true rfl) | lia | (simp only [List.length_cons, List.length_append, List.length_nil]; lia)); intro h' F' N'; (try k_sweep)))
local macro_rules | `(tactic| walk_at "setItem ref int") => `(tactic| refine halt ?_)
local macro_rules | `(tactic| walk_at "m upd") => `(tactic| first | (refine' Upd.head ?a; (case a => walk_at "m all"; done)) | (refine' Upd.tail ?a ?b; (case a => walk_at "m ne"); (case b => walk_at "m upd")))
local macro_rules | `(tactic| walk_at "m lex") => `(tactic| (obtain ⟨⟨d1, d2, d3, d4, d5, d6⟩, ⟨d7, d8, d9, d10, d11⟩, ⟨d12, d13, d14, d15⟩, ⟨d16, d17, d18⟩, hrest⟩ := LexOk.nodup (by assumption); have hr1 := fun p hp => (hrest p hp).1; have hr2 := fun p hp => (hrest p hp).2.1; have hr3 := fun p hp => (hrest p hp).2.2.1; have hr4 := fun p hp => (hrest p hp).2.2.2.1))
local macro_rules | `(tactic| walk_at "call builtin:list.append") => `(tactic| (refine' ll_append ?k1 ?k2 ?k4 ?k3 ?_; (case k1 => assumption); (case k2 => assumption); (case k4 => walk_at "m upd"); (case k3 => first | (apply Nat.le_trans; assumption; exact Nat.le_of_ble_eq_true rfl) | lia | (simp only [List.length_cons, List.length_append, List.length_nil]; lia) | (simp; done)); intro h' F' N'; (try k_sweep)))
local macro_rules | `(tactic| walk_at "call builtin:list.pop") => `(tactic| ((first | refine' ll_pop0 ?k1 ?k2 ?k4 ?k3 ?_ | refine' ll_pop ?k1 ?k2 ?k4 ?k3 ?_); (case k1 => assumption); (case k2 => assumption); (case k4 => walk_at "m upd"); (case k3 => first | (apply Nat.le_trans; assumption; exact Nat.le_of_ble_eq_true rfl) | lia | (simp only [List.length_cons, List.length_append, List.length_nil]; lia) | (simp; done)); intro h' F' N'; (try k_sweep)))
local macro_rules | `(tactic| walk_at "call builtin:list.reverse") => `(tactic| (refine' ll_reverse ?k1 ?k2 ?k4 ?k3 ?_; (case k1 => assumption); (case k2 => assumption); (case k4 => walk_at "m upd"); (case k3 => first | (apply Nat.le_trans; assumption; exact Nat.le_of_ble_eq_true rfl) | lia | (simp only [List.length_cons, List.length_append, List.length_nil]; lia) | (simp; done)); intro h' F' N'; (try k_sweep)))
local macro_rules | `(tactic| walk_at "setAttr ref") => `(tactic| k_dflt (refine' set_dict (C := 52) ?k1 ?k2 ?k3 ?k4 ?k5 ?k6 ?k7 ?k8 ?k9 ?k10 ?k11 ?k12 ?k13 ?_; (case k1 => assumption); (case k2 => assumption); (case k3 => assumption); (case k4 => exact InstAt.of_news (by assumption) (by k_mem) (by k_mem)); (case k5 => exact rfl); (case k6 => k_is); (case k7 => k_is); (case k8 => k_is); (case k9 => k_is); (case k10 => k_get); (case k11 => k_put); (case k12 => walk_at "m upd"); (case k13 => exact Nat.le_of_ble_eq_true rfl); k_whole; intro h' F' N'; (try k_sweep)))
theorem regk1 : True := by
  k_with "m enter" => (
    case k1 => k_is
    case k2 => k_is
    case k3 => exact rfl
    case k4 => exact locs rfl
    case c1 => exact rfl
    case c2 => exact rfl
    case c3 => exact rfl
    case c4 => decide
    k_whole)
  k_with "m go" => repeat' (first | (k_unfold; (try dsimp only)) | walk1 | (dsimp only; walk1) | refine Imp2.go (by assumption) ?_ | fail "no step")
  k_with "Ret" => refine Ret.intro (by walk_at "LK") (by assumption) (by assumption) ?_
  k_with "Ret" => ((with_reducible have hxx : RetSub := (by assumption)); clear hxx; refine Ret.intro' (by walk_at "LK") (by assumption) (by assumption) ?_)
  k_with "CutQ" => first | refine CutQ.next (by walk_at "LK") (by assumption) (by assumption) ?_ | refine CutQ.ret ?_ | refine CutQ.cont ?_ | refine CutQ.brk ?_
  k_with "LoopEnd" => first | refine LoopEnd.ret ?_ | refine LoopEnd.next1 (by walk_at "LK") (by assumption) (by assumption) ?_ | refine LoopEnd.cont1 (by walk_at "LK") (by assumption) (by assumption) ?_
  k_with "WhileEnd" => first | refine WhileEnd.ret ?_ | refine WhileEnd.next' (by walk_at "LK") (by assumption) (by assumption) ?_ | refine WhileEnd.cont' (by walk_at "LK") (by assumption) (by assumption) ?_
  k_with "loadName" => (k_here; k_dflt (refine ldn (by k_asm) (by (first | exact rfl | assumption)) ?_; k_whole))
  k_with "eval Name" => k_dflt (refine name_B (by assumption) (by assumption) (by exact topRead_of (by assumption)) (by k_is) (by boot_by_name) (by decide) ?_; k_whole)
  k_with "eval Name" => k_dflt (refine name_K (by assumption) (by assumption) (by exact topRead_of (by assumption)) (by k_is) ?_; k_whole)
  k_with "eval Name" => (k_here; k_dflt (refine ld (by k_asm) (by assumption) ?_; k_whole))
  k_with "eval Name" => (k_here; k_dflt (refine ld (by k_asm) (by exact rfl) ?_; k_whole))
  k_with "call type:range" => (refine range1_rows (by assumption) (by assumption) ?_; intro _ _ _ _ _ _ _ _ _)
  k_with "call ref" => refine halt ?_
  k_with "execs cons" => refine wpAny_execs_cons ?_
  k_with "execs cons" => (refine execs_cons_s (by walk_at "LK") (by assumption) (by assumption) ?_; walk_at "i4")
  k_with "newTuple" => (refine kup_newTuple (by assumption) (by assumption) ?_ (by size_fits); walk_at "i5")
  k_with "call builtin:len" => refine len_S (by walk_at "l1") ?_
  k_with "call builtin:len" => ((with_reducible show wpAny _ _ (call (Value.builtin _) [Value.ref _]) _ _ _); refine ll_len (by assumption) (by k_mem) (by first | (apply Nat.le_trans; assumption; exact Nat.le_of_ble_eq_true rfl) | lia | (simp only [List.length_cons, List.length_append, List.length_nil]; lia)) ?_)
  k_with "call builtin:min" => (refine min_two_N (Rm.hh (by assumption)) (by assumption) (by assumption) ?_; intro _ _ _ _)
  k_with "call type:list" => (refine list_range2 (Rm.hh (by assumption)) (by assumption) (by assumption) (by assumption) (by lia) (by walk_at "LK") ?_; intro _ _ _ _ _ _ _ _ _)
  k_with "subscriptTail Name Name ref int" => (refine ksa_sub (by assumption) (by k_mem) (by assumption) (by lia) (by lia) (by lia) ?_ (by with_unfolding_all rfl); intro _)
  k_with "unpackItems ref" => (refine unpackItemsN_ (by assumption) (by assumption) (News.isTup (by assumption) (by k_mem)) (by first | exact rfl | exact Rm.hh (by assumption)) (by first | exact rfl | exact Rm.hh (by assumption)) ?_; intro _ _ _)
  k_with "pyIter ref" => refine halt ?_
  k_with "pyIter str" => refine halt ?_
  k_with "m mem1" => repeat (first | with_reducible exact List.mem_cons_self | with_reducible apply List.mem_cons_of_mem | with_reducible apply List.mem_append_right)
  k_with "m sub" => (show Sub _ _; (try simp only [lexH, lexD, List.cons_append, List.nil_append, List.append_assoc]); repeat' (first | with_reducible exact Sub.nil | with_reducible exact Sub.rfl' | (refine Sub.consm (by walk_at "m mem1") ?_) | with_reducible refine Sub.appm ?_ ?_ | with_reducible exact Sub.left | with_reducible refine Sub.tail ?_ | with_reducible refine Sub.right ?_))
  k_with "m ne" => (dsimp only; first | with_reducible assumption | (apply Ne.symm; with_reducible assumption) | lia | exact Nat.ne_of_gt (by lia) | exact Nat.ne_of_lt (by lia))
  k_with "m all" => repeat (first | with_reducible assumption | exact List.forall_mem_nil _ | refine List.forall_mem_cons.mpr ⟨by walk_at "m ne", ?_⟩)
  k_with "truthy ref" => refine ll_truthy (by assumption) (by k_mem) (by first | (apply Nat.le_trans; assumption; exact Nat.le_of_ble_eq_true rfl) | lia | (simp only [List.length_cons, List.length_append, List.length_nil]; lia)) ?_
  k_with "m lexm" => skip
  k_with "call builtin:iter" => (refine iter_N (by assumption) (by assumption) (by k_mem) ?_; k_whole; walk_at "i5")
  k_with "compareOp In str str" => (first | refine in_one lit_ws ?_ | refine in_one lit_qb ?_ | refine in_one lit_wb ?_ | refine in_one lit_AB ?_)
  k_with "m lit" => first | with_reducible exact lit_e | with_reducible exact lit_q | with_reducible exact lit_bs | with_reducible exact lit_nl | with_reducible exact lit_ab | with_reducible exact lit_AB | with_reducible exact rfl
  k_with "m len" => first | (apply Nat.le_trans; assumption; exact Nat.le_of_ble_eq_true rfl) | lia | (simp only [List.length_drop, List.length_take, List.length_tail, List.length_append, List.length_cons, List.length_nil, Int.toNat_natCast] at *; lia)
  k_with "inplaceOp Add str str" => (refine iadd_S (by walk_at "m lit") (by walk_at "m lit") (by walk_at "m len") ?_; intro _ _)
  k_with "binaryOp Add str str" => (refine add_S (by walk_at "m lit") (by walk_at "m lit") (by walk_at "m len") ?_; intro _ _)
  k_with "getAttr ref" => k_dflt (refine bound_N (C := 52) (by assumption) (by assumption) (by assumption) (by exact InstAt.of_news (by assumption) (by k_mem) (by k_mem)) (by k_is) (by k_is) (by k_is) (by k_is) (by k_is) (by k_is) (by decide +kernel) (by k_get) ?_; k_whole; walk_at "i5")
  k_with "getAttr ref" => k_dflt (refine get_own (C := 52) (by assumption) (by assumption) (by exact InstAt.of_news (by assumption) (by k_mem) (by k_mem)) (by k_is) (by k_is) (by k_is) (by k_is) (by k_get) (by k_handed) ?_; k_whole)
  k_with "getMethod ref" => k_dflt (refine stream_read (by assumption) (by assumption) (by assumption) (by assumption) (by k_mem) (by k_mem) ?_; k_whole)
  k_with "getMethod ref" => k_dflt (refine method_inst (C := 52) (by assumption) (by assumption) (by exact InstAt.of_news (by assumption) (by k_mem) (by k_mem)) (by k_is) (by k_is) (by k_is) (by k_get) ?_; k_whole)
  k_with "getMethod ref" => (first | refine kl_method (by assumption) (by k_mem) PySem.F.slot_list_append PySem.F.type_list_append ?_ | refine kl_method (by assumption) (by k_mem) PySem.F.slot_list_pop PySem.F.type_list_pop ?_ | refine kl_method (by assumption) (by k_mem) PySem.F.slot_list_reverse PySem.F.type_list_reverse ?_)
  k_with "callWith ref" => (refine callWith_F (fnAt_lam (by assumption) (by assumption) (by k_mem)) ?_)
  k_with "ite" => (refine' ite_ways ?_ ?_ <;> walk_at "ihc")
  k_with "ite" => (k_closed; k_dflt (first | refine ite_pos (by decide) ?_ | refine ite_neg (by decide) ?_))
  k_with "execs cons" => ((with_reducible show wpAny _ _ (execs (Stmt.If _ _ _ _ :: _) _) _ _ _); (with_reducible have hxx : HaltIf := (by assumption)); clear hxx; refine halt ?_)
  k_with "execs cons" => ((with_reducible show wpAny _ _ (execs (Stmt.For _ _ _ _ _ :: _) _) _ _ _); refine halt ?_)
  k_with "execs cons" => ((with_reducible show wpAny _ _ (execs (Stmt.While _ _ _ _ :: _) _) _ _ _); refine halt ?_)
  k_with "fam0" => ((with_reducible show wpAny _ _ (subscriptTail _ _ (Value.str _ _) (Value.ref _)) _ _ _); first
    | (refine sl_nn (by walk_at "l1") (by assumption) (by assumption) ?_; intro _ _ _ _ _)
    | (refine sl_from_nat (by walk_at "l1") (by assumption) (by assumption) ?_; intro _ _ _ _ _)
    | (refine sl_to_nat (by walk_at "l1") (by assumption) (by assumption) ?_; intro _ _ _ _ _)
    | (refine sl_toneg_nat (by lia) (by walk_at "l1") (by assumption) (by assumption) ?_; intro _ _ _ _ _)
    | (refine sl_ij_nat (by walk_at "l1") (by assumption) (by assumption) ?_; intro _ _ _ _ _)
    | (refine sl_from (by lia) (by walk_at "l1") (by assumption) (by assumption) ?_; intro _ _ _ _ _)
    | (refine sl_to (by lia) (by walk_at "l1") (by assumption) (by assumption) ?_; intro _ _ _ _ _)
    | (refine sl_toneg (by lia) (by walk_at "l1") (by assumption) (by assumption) ?_; intro _ _ _ _ _)
    | (refine sl_ij (by lia) (by lia) (by walk_at "l1") (by assumption) (by assumption) ?_; intro _ _ _ _ _))
  k_with "subscriptTail Name Slice str ref" => walk_at "fam0"
  k_with "subscriptTail" => walk_at "fam0"
  k_with "fam1" => ((with_reducible show wpAny _ _ (subscriptTail _ _ (Value.str _ _) (Value.int _ _)) _ _ _); first
    | refine it_nat_nat (by walk_at "l2") (by walk_at "l1") ?_
    | refine it_neg1 (by walk_at "l2") (by walk_at "l1") ?_
    | refine it_nat (by lia) (by walk_at "l2") (by walk_at "l1") ?_
    | refine it_neg (by lia) (by walk_at "l2") (by walk_at "l1") ?_
    | refine halt ?_)
  k_with "subscriptTail Name Name str int" => walk_at "fam1"
  k_with "subscriptTail Name BinOp str int" => walk_at "fam1"
  k_with "subscriptTail Name Constant str int" => walk_at "fam1"
  k_with "subscriptTail Name UnaryOp str int" => walk_at "fam1"
  k_with "subscriptTail" => walk_at "fam1"
  k_with "truthy str" => refine truthy_S (by walk_at "l1") ?_
  trivial
section
theorem subst_s {c d : Nat} {t t' : Tok} : Spec w 1 (.ref 63) [.str (S [c]) t, .str (S [d]) t'] [] (fun v _ => ∃ tk, v = .int (cst c d) tk) := by
  walk_at "m fill"
  have h1 : (S [c]).length ≤ 40 := by rw [S_len]; simp
  have h2 : (S [d]).length ≤ 40 := by rw [S_len]; simp
  refine' spec_def [("ch_a", .str (S [c]) t), ("ch_b", .str (S [d]) t')] ?k1 ?k2 ?k3 ?k4 ?k5 ?c1 ?c2 ?c3 ?c4
  walk_at "m enter"
  intro A P L s z p loose mean mg mb r G lz X T F N K0 hK0
  (try k_fold)
  walk_at "m go"
  · have hc : c = d := by assumption
    exact ⟨_, by unfold cst; rw [if_pos hc]⟩
  · have hc : ¬ c = d := by assumption
    have hd : Txt.lower (S [c]) = Txt.lower (S [d]) := by assumption
    exact ⟨_, by unfold cst; rw [if_neg hc, if_pos hd]⟩
  · have hc : ¬ c = d := by assumption
    have hd : ¬ Txt.lower (S [c]) = Txt.lower (S [d]) := by assumption
    exact ⟨_, by unfold cst; rw [if_neg hc, if_neg hd]⟩
end
section
local macro_rules | `(tactic| walk_at "m subst") => `(tactic| (refine ⟨call_spec (H := []) subst_s (Rm.le (by assumption) (Nat.le_of_ble_eq_true rfl)) (by assumption) (by assumption) (by assumption) (fun p hp => hp) (fun _ _ _ hq => nomatch hq) (by walk_at "LK") ?_⟩; rintro v' H' s' ⟨tk', hv'⟩ l₁ F₁ N₁ n₁; subst hv'; replace N₁ := subN N₁ (fun p hp => List.mem_append_right _ hp); (try dsimp only)))
section
theorem lev_s {la lb : List Nat} {ta tb tm : Tok} {M : Int} (ha : la.length ≤ 40) (hb : lb.length ≤ 40) :
   Spec w 3 (.ref 70) [.str (S la) ta, .str (S lb) tb, .int M tm] [] (fun v _ => ∃ tk, v = .int (levF la lb M) tk) := by
  walk_at "m fill"
  refine' spec_def [("a", .str (S la) ta), ("b", .str (S lb) tb), ("max_cost", .int M tm)] ?k1 ?k2 ?k3 ?k4 ?k5 ?c1 ?c2 ?c3 ?c4
  walk_at "m enter"
  intro A P L s z p loose mean mg mb r G lz X T F N K0 hK0
  (try k_fold)
  walk_at "m go"
  · have hc : la = lb := by assumption
    exact ⟨_, by unfold levF; rw [if_pos hc]⟩
  refine ⟨cut P L (s₀ := z) (by assumption) (fun m' H' => H' = [] ∧ m' "a" = some (.str (S la) ta) ∧ m' "b" = some (.str (S lb) tb) ∧ m' "max_cost" = some (.int M tm) ∧ ∃ t, m' "pre" = some (.int (lcp la lb : Nat) t)) ?_ ?_⟩
  · intro K1 hK1
    refine' while_in (s₀ := z) (by assumption) (fun n m' H' => H' = [] ∧ m' "a" = some (.str (S la) ta) ∧ m' "b" = some (.str (S lb) tb) ∧ m' "max_cost" = some (.int M tm) ∧ ∃ k t, m' "pre" = some (.int (k : Nat) t) ∧ la.take k = lb.take k ∧ k ≤ la.length ∧ k ≤ lb.length ∧ n = la.length - k) la.length ?F ?N ?J ?T
    case F => assumption
    case N => assumption
    case J => exact ⟨rfl, rfl, rfl, rfl, 0, _, rfl, by simp, by simp, by simp, by simp⟩
    rintro n m₁ H₁ s₁ l₁ F₁ N₁ ⟨rfl, h1, h2, h3, k, t, h4, h5, h6, h7, rfl⟩ K2 hK2
    k_sweep
    walk_at "m go"
    · exact ⟨la.length - (k + 1), by lia, rfl, h1, h2, h3, k + 1, _, rfl, take_more h5 (by lia) (by lia) (by assumption), by lia, by lia, rfl⟩
    · exact ⟨_, Sub.rfl', rfl, h1, h2, h3, t, by rw [lcp_stop h5 h6 h7 (.inr (.inr (by assumption)))]; exact h4⟩
    · exact ⟨_, Sub.rfl', rfl, h1, h2, h3, t, by rw [lcp_stop h5 h6 h7 (.inr (.inl (by lia)))]; exact h4⟩
    · exact ⟨_, Sub.rfl', rfl, h1, h2, h3, t, by rw [lcp_stop h5 h6 h7 (.inl (by lia))]; exact h4⟩
  rintro s₁ m' H' l₁ ⟨rfl, h1, h2, h3, t, h4⟩ F' N'
  k_sweep
  have el := lcp_le_left la lb
  have er := lcp_le_right la lb
  obtain ⟨k0, e0⟩ : ∃ k0, k0 = lcp la lb := ⟨_, rfl⟩
  rw [← e0] at h4 el er
  walk_at "m go"
  obtain ⟨la', ela⟩ : ∃ l, l = la.drop k0 := ⟨_, rfl⟩
  obtain ⟨lb', elb⟩ : ∃ l, l = lb.drop k0 := ⟨_, rfl⟩
  have hA : la'.length ≤ 40 := by rw [ela]; simp; lia
  have hB : lb'.length ≤ 40 := by rw [elb]; simp; lia
  refine ⟨cut P L (s₀ := z) (by assumption) (fun m' H'' => H'' = [] ∧ (∃ t, m' "a" = some (.str (S la') t)) ∧ (∃ t, m' "b" = some (.str (S lb') t)) ∧ m' "max_cost" = some (.int M tm) ∧ ∃ t, m' "post" = some (.int (-(lcp la'.reverse lb'.reverse : Nat)) t)) ?_ ?_⟩
  · intro K1 hK1
    refine' while_in (s₀ := z) (by assumption) (fun n m' H'' => H'' = [] ∧ (∃ t, m' "a" = some (.str (S la') t)) ∧ (∃ t, m' "b" = some (.str (S lb') t)) ∧ m' "max_cost" = some (.int M tm) ∧ ∃ k t, m' "post" = some (.int (-(k : Nat)) t) ∧ la'.reverse.take k = lb'.reverse.take k ∧ k ≤ la'.length ∧ k ≤ lb'.length ∧ n = la'.length - k) la'.length ?F2 ?N2 ?J2 ?T2
    case F2 => assumption
    case N2 => assumption
    case J2 => subst ela elb; exact ⟨rfl, ⟨_, rfl⟩, ⟨_, rfl⟩, h3, 0, _, rfl, by simp, by simp, by simp, by simp⟩
    rintro n m₁ H₁ s₁ l₁ F₁ N₁ ⟨rfl, ⟨_, h1⟩, ⟨_, h2⟩, h3, k, t, h4, h5, h6, h7, rfl⟩ K2 hK2
    k_sweep
    walk_at "m go"
    · exact ⟨la'.length - (k + 1), by lia, rfl, ⟨_, h1⟩, ⟨_, h2⟩, h3, k + 1, _, vi (by lia), take_more h5 (by simp; lia) (by simp; lia) (by assumption), by lia, by lia, rfl⟩
    · exact ⟨_, Sub.rfl', rfl, ⟨_, h1⟩, ⟨_, h2⟩, h3, t, by rw [lcp_stop h5 (by simp; lia) (by simp; lia) (.inr (.inr (by assumption)))]; exact h4⟩
    · exact ⟨_, Sub.rfl', rfl, ⟨_, h1⟩, ⟨_, h2⟩, h3, t, by rw [lcp_stop h5 (by simp; lia) (by simp; lia) (.inr (.inl (by simp; lia)))]; exact h4⟩
    · exact ⟨_, Sub.rfl', rfl, ⟨_, h1⟩, ⟨_, h2⟩, h3, t, by rw [lcp_stop h5 (by simp; lia) (by simp; lia) (.inl (by simp; lia))]; exact h4⟩
    · exact ⟨la'.length - (k + 1), by lia, rfl, ⟨_, h1⟩, ⟨_, h2⟩, h3, k + 1, _, vi (by lia), take_more h5 (by simp; lia) (by simp; lia) (by assumption), by lia, by lia, rfl⟩
    · exact ⟨_, Sub.rfl', rfl, ⟨_, h1⟩, ⟨_, h2⟩, h3, t, by rw [lcp_stop h5 (by simp; lia) (by simp; lia) (.inr (.inr (by assumption)))]; exact h4⟩
    · exact ⟨_, Sub.rfl', rfl, ⟨_, h1⟩, ⟨_, h2⟩, h3, t, by rw [lcp_stop h5 (by simp; lia) (by simp; lia) (.inr (.inl (by simp; lia)))]; exact h4⟩
    · exact ⟨_, Sub.rfl', rfl, ⟨_, h1⟩, ⟨_, h2⟩, h3, t, by rw [lcp_stop h5 (by simp; lia) (by simp; lia) (.inl (by simp; lia))]; exact h4⟩
  rintro s₁ m' H'' l₁ ⟨rfl, ⟨_, h1⟩, ⟨_, h2⟩, h3, t, h4⟩ F' N'
  k_sweep
  have gl := lcp_le_left la'.reverse lb'.reverse
  have gr := lcp_le_right la'.reverse lb'.reverse
  rw [List.length_reverse] at gl gr
  obtain ⟨k1, e1⟩ : ∃ k1, k1 = lcp la'.reverse lb'.reverse := ⟨_, rfl⟩
  rw [← e1] at h4 gl gr
  obtain ⟨A', eA⟩ : ∃ l, l = la'.take (la'.length - k1) := ⟨_, rfl⟩
  obtain ⟨B', eB⟩ : ∃ l, l = lb'.take (lb'.length - k1) := ⟨_, rfl⟩
  have hA' : A'.length ≤ 40 := by rw [eA]; simp; lia
  have hB' : B'.length ≤ 40 := by rw [eB]; simp; lia
  refine cut P L (s₀ := z) (by assumption) (fun m' H'' => H'' = [] ∧ (∃ t, m' "a" = some (.str (S A') t)) ∧ (∃ t, m' "b" = some (.str (S lb') t)) ∧ m' "max_cost" = some (.int M tm) ∧ ∃ t, m' "post" = some (.int (-(k1 : Nat)) t)) ?_ ?_
  · intro K1 hK1
    walk_at "m go"
    · rw [← eA]; exact ⟨_, Sub.rfl', rfl, ⟨_, rfl⟩, ⟨_, h2⟩, h3, t, h4⟩
    · have : la' = A' := by rw [eA, List.take_of_length_le (by lia)]
      rw [this] at *; exact ⟨_, Sub.rfl', rfl, ⟨_, rfl⟩, ⟨_, h2⟩, h3, t, h4⟩
  rintro s₁ m' H'' l₁ ⟨rfl, ⟨_, h1⟩, ⟨_, h2⟩, h3, t, h4⟩ F' N'
  k_sweep
  refine cut P L (s₀ := z) (by assumption) (fun m' H'' => H'' = [] ∧ (∃ t, m' "a" = some (.str (S A') t)) ∧ (∃ t, m' "b" = some (.str (S B') t)) ∧ m' "max_cost" = some (.int M tm)) ?_ ?_
  · intro K1 hK1
    walk_at "m go"
    · rw [← eB]; exact ⟨_, Sub.rfl', rfl, ⟨_, h1⟩, ⟨_, rfl⟩, h3⟩
    · have : lb' = B' := by rw [eB, List.take_of_length_le (by lia)]
      rw [this] at *; exact ⟨_, Sub.rfl', rfl, ⟨_, h1⟩, ⟨_, rfl⟩, h3⟩
  rintro s₁ m' H'' l₁ ⟨rfl, ⟨_, h1⟩, ⟨_, h2⟩, h3⟩ F' N'
  k_sweep
  have hne : ¬ la = lb := by assumption
  have hF : levF la lb M = if A'.length = 0 ∨ B'.length = 0 then 2 * ((A'.length : Int) + B'.length) else
      if (((if B'.length < A'.length then A' else B').length : Int) - (if B'.length < A'.length then B' else A').length) * 2 > M then M + 1 else scan (if B'.length < A'.length then B' else A') (if B'.length < A'.length then A' else B') M (if B'.length < A'.length then A' else B').length 0 (row0 (if B'.length < A'.length then B' else A').length) 0 := by
    unfold levF
    rw [if_neg hne]
    simp only [← e0, ← ela, ← elb, ← e1, ← eA, ← eB]
  have hi : HaltIf := ⟨⟩
  refine cut P L (s₀ := z) (by assumption) (fun m' H'' => H'' = [] ∧ (∃ t, m' "a" = some (.str (S A') t)) ∧ (∃ t, m' "b" = some (.str (S B') t)) ∧ m' "max_cost" = some (.int M tm) ∧ ¬ A'.length = 0 ∧ ¬ B'.length = 0) ?_ ?_
  · intro K1 hK1
    walk_at "m go"
    · exact ⟨_, by rw [hF, if_pos (by lia)]⟩
    · exact ⟨_, by rw [hF, if_pos (by lia)]⟩
    · exact ⟨_, Sub.rfl', rfl, ⟨_, h1⟩, ⟨_, h2⟩, h3, by lia, by lia⟩
  rintro s₁ m' H'' l₁ ⟨rfl, ⟨_, h1⟩, ⟨_, h2⟩, h3, hA0, hB0⟩ F' N'
  k_sweep
  rw [if_neg (by lia)] at hF
  refine cut P L (s₀ := z) (by assumption) (fun m' H'' => H'' = [] ∧ (∃ t, m' "a" = some (.str (S A') t)) ∧ (∃ t, m' "b" = some (.str (S B') t)) ∧ m' "max_cost" = some (.int M tm)) ?_ ?_
  · intro K1 hK1
    walk_at "m go"
    exact ⟨_, Sub.rfl', rfl, ⟨_, h1⟩, ⟨_, h2⟩, h3⟩
  rintro s₁ m' H'' l₁ ⟨rfl, ⟨_, h1⟩, ⟨_, h2⟩, h3⟩ F' N'
  k_sweep
  obtain ⟨x, ex⟩ : ∃ x, x = if B'.length < A'.length then B' else A' := ⟨_, rfl⟩
  obtain ⟨y, ey⟩ : ∃ y, y = if B'.length < A'.length then A' else B' := ⟨_, rfl⟩
  rw [← ex, ← ey] at hF
  refine cut P L (s₀ := z) (by assumption) (fun m' H'' => H'' = [] ∧ (∃ t, m' "a" = some (.str (S x) t)) ∧ (∃ t, m' "b" = some (.str (S y) t)) ∧ m' "max_cost" = some (.int M tm)) ?_ ?_
  · intro K1 hK1
    walk_at "m go"
    · rw [ex, ey, if_pos (by lia), if_pos (by lia)]; exact ⟨_, Sub.nil, rfl, ⟨_, rfl⟩, ⟨_, rfl⟩, h3⟩
    · rw [ex, ey, if_neg (by lia), if_neg (by lia)]; exact ⟨_, Sub.nil, rfl, ⟨_, h1⟩, ⟨_, h2⟩, h3⟩
  rintro s₁ m' H'' l₁ ⟨rfl, ⟨_, h1⟩, ⟨_, h2⟩, h3⟩ F' N'
  k_sweep
  have hx : x.length ≤ 40 := by rw [ex]; split <;> lia
  have hy : y.length ≤ 40 := by rw [ey]; split <;> lia
  have hxy : x.length ≤ y.length := by rw [ex, ey]; split <;> lia
  clear hi
  walk_at "m go"
  · exact ⟨_, by rw [hF, if_pos (by lia)]⟩
  rw [if_neg (by lia)] at hF
  replace hF := Bx.mk hF
  rename_i lr s₂ vs₀ c₀ lk₀ n₀ i₀ h₂ h₃ F₃ N₃
  refine ⟨cut P L (s₀ := z) (by walk_at "LK") (fun m' H'' => ∃ t, m' "result" = some (.int (levF la lb M) t)) ?_ ?_⟩
  · intro K1 hK1
    refine for_in ?_
    walk_at "m go"
    refine ⟨loop_range (by assumption) r.hh rfl rfl (s₀ := z) (by walk_at "LK") (by lia) (by lia) (by lia) (by lia) (n := y.length) (by lia) (by assumption) (by assumption)
      (fun i m' H'' => ∃ row res vs c tr, H'' = [(lr, listOf vs.toArray c)] ∧ (∃ t, m' "a" = some (.str (S x) t)) ∧ (∃ t, m' "b" = some (.str (S y) t)) ∧ m' "max_cost" = some (.int M tm) ∧ m' "row" = some (.ref lr) ∧ m' "result" = some (.int res tr) ∧ IntsAre vs row ∧ row.length = x.length ∧ Bx (levF la lb M = scan x y M (y.length - i) i row res))
      ?_ ?_ ?_⟩
    · exact ⟨_, _, _, _, _, rfl, ⟨_, h1⟩, ⟨_, h2⟩, h3, rfl, rfl, i₀, by simp [row0, rangeInts_length], hF⟩
    · rintro i tv m₁ H₁ s₁ I io l₁ hi ⟨row, res, vs, c, tr, rfl, ⟨_, h1⟩, ⟨_, h2⟩, h3, h4, h5, iA, hr, hS⟩ hne F' N' K2 hK2
      have hI : lr ≠ I := hne _ (.head _)
      k_sweep
      have e0 : (0 : Int) + i = i := by lia
      rw [e0] at F'
      walk_at "m go"
      refine ⟨cut P L (s₀ := z) (by walk_at "LK") (fun m' H'' => ∃ st vs c, st = rowSt (y.getD i 0) x row (i * 2) x.length ∧ H'' = [(I, io), (lr, listOf vs.toArray c)] ∧ (∃ t, m' "a" = some (.str (S x) t)) ∧ (∃ t, m' "b" = some (.str (S y) t)) ∧ m' "max_cost" = some (.int M tm) ∧ m' "row" = some (.ref lr) ∧ (∃ t, m' "result" = some (.int st.res t)) ∧ (∃ t, m' "minimum" = some (.int st.mn t)) ∧ IntsAre vs st.row) ?_ ?_⟩
      · intro K1 hK1
        refine for_in ?_
        walk_at "m go"
        refine ⟨loop_range (by assumption) r.hh rfl rfl (s₀ := z) (by walk_at "LK") (by lia) (by lia) (by lia) (by lia) (n := x.length) (by lia) (by assumption) (by assumption)
          (fun j m' H'' => ∃ st vs c, st = rowSt (y.getD i 0) x row (i * 2) j ∧ st.row.length = x.length ∧ H'' = [(I, io), (lr, listOf vs.toArray c)] ∧ (∃ t, m' "a" = some (.str (S x) t)) ∧ (∃ t, m' "b" = some (.str (S y) t)) ∧ m' "max_cost" = some (.int M tm) ∧ m' "row" = some (.ref lr) ∧ (∃ t, m' "bchar" = some (.str (S [y.getD i 0]) t)) ∧ (∃ t, m' "distance" = some (.int st.dist t)) ∧ (∃ t, m' "result" = some (.int st.res t)) ∧ (∃ t, m' "minimum" = some (.int st.mn t)) ∧ IntsAre vs st.row)
          ?_ ?_ ?_⟩
        · exact ⟨_, _, _, rfl, by rw [rowSt_len]; exact hr, rfl, ⟨_, h1⟩, ⟨_, h2⟩, h3, h4, ⟨_, rfl⟩, ⟨_, rfl⟩, ⟨_, rfl⟩, ⟨_, rfl⟩, iA⟩
        · rintro j tv m₁ H₁ s₁ I2 io2 l₁ hj ⟨st, vs, c, est, hlen, rfl, ⟨_, h1⟩, ⟨_, h2⟩, h3, h4, ⟨_, h5⟩, ⟨_, h6⟩, ⟨_, h7⟩, ⟨_, h8⟩, iB⟩ hne2 F' N' K2 hK2
          have hI2 : I ≠ I2 := hne2 _ (.head _)
          have hI3 : lr ≠ I2 := hne2 _ (.tail _ (.head _))
          k_sweep
          have e0 : (0 : Int) + j = j := by lia
          rw [e0] at F'
          walk_at "m go"
          walk_at "m subst"
          walk_at "m go"
          constructor
          refine' ksa_set ?u1 ?u2 ?u3 ?u4 ?u5 ?u6 ?u7 ?u8
          case u1 => assumption
          case u2 => assumption
          case u3 => exact Upd.tail hI3.symm (Upd.tail hI.symm (Upd.head (List.forall_mem_nil _)))
          case u4 => assumption
          case u5 => lia
          case u6 => lia
          case u7 => lia
          intro h' F' N' hi' _ _
          walk_at "m go"
          · have es : rowSt (y.getD i 0) x row (i * 2) (j + 1) = rowNext st (y.getD i 0) (x.getD j 0) j := by rw [rowSt_succ, est]
            refine ⟨_, Sub.rfl', ?_, rowNext st (y.getD i 0) (x.getD j 0) j, _, c, es.symm, by rw [← es, rowSt_len]; exact hr, rfl, ⟨_, h1⟩, ⟨_, h2⟩, h3, h4, ⟨_, h5⟩, ⟨_, rfl⟩, ⟨_, rfl⟩, ⟨_, vi (if_pos (by assumption)).symm⟩, hi'⟩
            intro p hp
            rcases List.mem_cons.mp hp with rfl | hp
            · exact hI2
            · rw [List.mem_singleton.mp hp]; exact hI3
          · have es : rowSt (y.getD i 0) x row (i * 2) (j + 1) = rowNext st (y.getD i 0) (x.getD j 0) j := by rw [rowSt_succ, est]
            refine ⟨_, Sub.rfl', ?_, rowNext st (y.getD i 0) (x.getD j 0) j, _, c, es.symm, by rw [← es, rowSt_len]; exact hr, rfl, ⟨_, h1⟩, ⟨_, h2⟩, h3, h4, ⟨_, h5⟩, ⟨_, rfl⟩, ⟨_, rfl⟩, ⟨_, h8.trans (vi (if_neg (by assumption)).symm)⟩, hi'⟩
            intro p hp
            rcases List.mem_cons.mp hp with rfl | hp
            · exact hI2
            · rw [List.mem_singleton.mp hp]; exact hI3
        · rintro m₁ H₁ s₁ l₁ ⟨st, vs, c, est, hlen, rfl, ⟨_, h1⟩, ⟨_, h2⟩, h3, h4, ⟨_, h5⟩, ⟨_, h6⟩, ⟨_, h7⟩, ⟨_, h8⟩, iB⟩ F' N'
          refine Imp2.go (by assumption) ?_; exact CutQ.next l₁ F' N' ⟨_, Sub.rfl', st, vs, c, est, rfl, ⟨_, h1⟩, ⟨_, h2⟩, h3, h4, ⟨_, h7⟩, ⟨_, h8⟩, iB⟩
      rintro s₁ m' H' l₁ ⟨st, vs, c, est, rfl, ⟨_, h1⟩, ⟨_, h2⟩, h3, h4, ⟨_, h5⟩, ⟨_, h6⟩, iB⟩ F' N'
      k_sweep
      walk_at "m go"
      · have hm : M < st.mn := by assumption
        refine ⟨_, congrArg (fun i => Value.int i _) ?_⟩
        rw [hS.out, show y.length - i = (y.length - (i + 1)) + 1 by lia, scan, ← est, if_pos hm]
      · have hm : ¬ M < st.mn := by assumption
        refine ⟨_, Sub.rfl', fun p hp => by rw [List.mem_singleton.mp hp]; exact hI, st.row, st.res, vs, c, _, rfl, ⟨_, h1⟩, ⟨_, h2⟩, h3, h4, h5, iB, by rw [est, rowSt_len]; exact hr, ⟨?_⟩⟩
        rw [hS.out, show y.length - i = (y.length - (i + 1)) + 1 by lia, scan, ← est, if_neg hm]
    · rintro m₁ H₁ s₁ l₁ ⟨row, res, vs, c, tr, rfl, ⟨_, h1⟩, ⟨_, h2⟩, h3, h4, h5, iA, hr, hS⟩ F' N'
      refine Imp2.go (by assumption) ?_; refine CutQ.next l₁ F' N' ⟨_, Sub.rfl', tr, ?_⟩
      rw [hS.out, Nat.sub_self]
      exact h5
  · rintro s₁ m' H' l₁ ⟨t, h1⟩ F' N'
    walk_at "m go"
    exact ⟨_, rfl⟩
end
end
section
theorem read_s {a : LexA} {line : Int} {t1 : Tok} {vs : List Value} {e2 : Nat} {pv : List Value} {e3 : Nat} {rem : List Nat} (ok : LexOk w a) (hs : Sg vs rem.reverse) (hr : rem.length ≤ 100000) (hl : 0 ≤ line ∧ line ≤ 100000) :
   Spec w 5 (.ref 35) [.ref a.x] (lexH w a line t1 vs e2 pv e3) (fun v H' => ∃ t1' vs' e2' tk, v = .str (S (rem.take 1)) tk ∧ Sg vs' rem.tail.reverse ∧ H' = lexH w a (if rem.take 1 = [10] then line + 1 else line) t1' vs' e2' pv e3) := by
  walk_at "m fill"
  refine' spec_def [("self", .ref a.x)] ?k1 ?k2 ?k3 ?k4 ?k5 ?c1 ?c2 ?c3 ?c4
  walk_at "m enter"
  intro A P L s z p loose mean mg mb r G lz X T F N K0 hK0
  (try k_fold)
  unfold lexH lexD at N
  walk_at "m go"
  exact fnAt_lam ok (by assumption) (by k_mem)
  refine ⟨?_⟩
  obtain ⟨⟨d1, d2, d3, d4, d5, d6⟩, ⟨d7, d8, d9, d10, d11⟩, ⟨d12, d13, d14, d15⟩, ⟨d16, d17, d18⟩, hrest⟩ := ok.nodup
  refine call_spec (rest := [(a.dx, lexD w a line t1), (a.pb, listOf pv.toArray e3), (a.x, instObj 52 a.dx), (a.st, instObj 52 a.sd), (a.sd, dictOf a.sde a.sn)]) (ok.lam vs e2 _ rem hs hr) (Rm.le r (Nat.le_of_ble_eq_true rfl)) G (by assumption) (by assumption) ?_ ?_ (by walk_at "LK") ?_
  · walk_at "m sub"
  · intro q hq p' hp'
    simp only [List.mem_cons, List.not_mem_nil, or_false] at hq hp'
    rcases hq with rfl | rfl | rfl | rfl | rfl <;> rcases hp' with rfl | rfl | hp' <;> dsimp only <;> first | assumption | (apply Ne.symm; assumption) | (apply Ne.symm; have := hrest p' hp'; simp [this]) | skip
  rintro v H' s₂ ⟨vs', n', tk, hv, hs', hH⟩ l₂ F₂ N₂ n₂
  subst hv
  subst hH
  replace N₂ := subN N₂ (A := lexH w a line t1 vs' n' pv e3) (by walk_at "m sub")
  simp only [lexH, lexD, List.cons_append, List.nil_append] at N₂
  k_sweep
  walk_at "m go"
  · exact ⟨⟨_, vs', n', _, rfl, hs', by rw [if_pos (by assumption)]; rfl⟩⟩
  · exact ⟨⟨_, vs', n', _, rfl, hs', by rw [if_neg (by assumption)]; rfl⟩⟩
end
section
/-- the next sign of a lexer's iterator -/
theorem next_rd {a : LexA} {line : Int} {t1 : Tok} {vs : List Value} {e2 : Nat} {pv : List Value} {e3 : Nat} {rem : List Nat} {A : Around} {P : Heap} {L I q : Addr} {s z : Shared} {m : Str → Option Value} {t : Tok} {Q : Option Value → Shared → Prop} {E : Value → Shared → Prop}
    (ok : LexOk w a) (hs : Sg vs rem.reverse) (hr : rem.length ≤ 100000) (hl : 0 ≤ line ∧ line ≤ 100000) (r : Rm A 6) (G : Gd w P) (F : Fr P L s.heap m)
    (N : News P L s.heap ((I, ciObj (.ref q) (.str "" t) false) :: (q, methodObj (.ref 35) (.ref a.x)) :: lexH w a line t1 vs e2 pv e3)) (nd : I ≠ q ∧ ∀ p ∈ lexH w a line t1 vs e2 pv e3, p.1 ≠ I ∧ p.1 ≠ q) (lz : Like z s)
    (h1 : ∀ c rr s' t1' vs' e2' tk, rem = c :: rr → Like z s' → Fr P L s'.heap m → News P L s'.heap ((I, ciObj (.ref q) (.str "" t) false) :: (q, methodObj (.ref 35) (.ref a.x)) :: lexH w a (if c = 10 then line + 1 else line) t1' vs' e2' pv e3) →
      Sg vs' rr.reverse → Q (some (.str (S [c]) tk)) s')
    (h2 : ∀ s' t1' vs' e2', rem = [] → Like z s' → Fr P L s'.heap m → News P L s'.heap ((I, ciEnd) :: (q, methodObj (.ref 35) (.ref a.x)) :: lexH w a line t1' vs' e2' pv e3) → Sg vs' [] → Q none s') :
    wpAny (model PR w) A (pyNext (.ref I)) Q E s := by
  walk_at "m fill"
  have hf : ∃ oc od fd osl, (hk.heap_1 w.params).lookup 35 = some ⟨oc, od, .func fd, osl⟩ := by
    refine' fn_at ?k
    case k => k_is
  obtain ⟨oc, od, fd, osl, hf⟩ := hf
  have hI := (N _ List.mem_cons_self).1
  have hq := (N _ (List.mem_cons_of_mem _ List.mem_cons_self)).1
  refine ci_next r.hh hI hq (F.keep _ _ (G.X _ _ hf)) rfl ?_
  refine method_call hq (code_spec (rest := [(I, ciObj (.ref q) (.str "" t) false), (q, methodObj (.ref 35) (.ref a.x))]) (read_s (t1 := t1) (e2 := e2) (pv := pv) (e3 := e3) ok hs hr hl) r.in1 G F N ?_ ?_ lz ?_)
  · walk_at "m sub"
  · intro p hp p' hp'
    simp only [List.mem_cons, List.not_mem_nil, or_false] at hp
    rcases hp with rfl | rfl
    · exact (nd.2 p' hp').1.symm
    · exact (nd.2 p' hp').2.symm
  rintro v H' s' ⟨t1', vs', e2', tk, rfl, hs', rfl⟩ l' F' N' ap
  have hI' := (N' (I, ciObj (.ref q) (.str "" t) false) (List.mem_append_right _ List.mem_cons_self)).1
  have hq' := (N' (q, methodObj (.ref 35) (.ref a.x)) (List.mem_append_right _ (List.mem_cons_of_mem _ List.mem_cons_self))).1
  refine ⟨_, _, rfl, hI', hq', ⟨_, F'.keep _ _ (G.X _ _ hf), rfl⟩, fun hc => ?_, fun hc h' hx he => ?_⟩
  · cases rem with
    | nil => exact absurd rfl hc
    | cons c rr =>
      refine h1 c rr s' t1' vs' e2' tk rfl l' F' ?_ hs'
      have e : (if (c :: rr).take 1 = [10] then line + 1 else line) = (if c = 10 then line + 1 else line) := by simp
      rw [e] at N'
      exact subN N' (by walk_at "m sub")
  · cases rem with
    | cons c rr => simp at hc
    | nil =>
      have hLI : L ≠ I := fun q => (N _ List.mem_cons_self).2.1 q.symm
      have hPI : P.get? I = none := (N _ List.mem_cons_self).2.2
      refine h2 _ t1' vs' e2' rfl l' ⟨F'.ns.at' fun o e => hx _ o hLI e, fun b o e => hx b o (fun q => by rw [q, hPI] at e; cases e) (F'.keep b o e), F'.above⟩ ?_ hs'
      intro p hp
      rcases List.mem_cons.mp hp with rfl | hp
      · exact ⟨he, (N _ List.mem_cons_self).2⟩
      · rcases List.mem_cons.mp hp with rfl | hp
        · exact ⟨hx _ _ (Ne.symm nd.1) hq', (N _ (List.mem_cons_of_mem _ List.mem_cons_self)).2⟩
        · have n := N' p (List.mem_append_left _ hp)
          exact ⟨hx _ _ (ap p hp _ List.mem_cons_self) n.1, n.2⟩
end
section
theorem pop_s {a : LexA} {line : Int} {t1 : Tok} {vs : List Value} {e2 : Nat} {v0 : Value} {pv : List Value} {e3 : Nat} (ok : LexOk w a) (hp : pv.length ≤ 1000) :
   Spec w 3 (.ref 42) [.ref a.x] (lexH w a line t1 vs e2 (v0 :: pv) e3) (fun v H' => ∃ e3', v = v0 ∧ H' = lexH w a line t1 vs e2 pv e3') := by
  walk_at "m fill"
  refine' spec_def [("self", .ref a.x)] ?k1 ?k2 ?k3 ?k4 ?k5 ?c1 ?c2 ?c3 ?c4
  walk_at "m enter"
  intro A P L s z p loose mean mg mb r G lz X T F N K0 hK0
  (try k_fold)
  unfold lexH lexD at N
  walk_at "m lex"
  walk_at "m go"
  exact ⟨⟨_, rfl, rfl⟩⟩
theorem push_s {a : LexA} {line : Int} {t1 : Tok} {vs : List Value} {e2 : Nat} {v0 : Value} {pv : List Value} {e3 : Nat} (ok : LexOk w a) (hp : pv.length ≤ 1000) :
   Spec w 3 (.ref 49) [.ref a.x, v0] (lexH w a line t1 vs e2 pv e3) (fun v H' => ∃ e3', H' = lexH w a line t1 vs e2 (pv ++ [v0]) e3') := by
  walk_at "m fill"
  refine' spec_def [("self", .ref a.x), ("token", v0)] ?k1 ?k2 ?k3 ?k4 ?k5 ?c1 ?c2 ?c3 ?c4
  walk_at "m enter"
  intro A P L s z p loose mean mg mb r G lz X T F N K0 hK0
  (try k_fold)
  unfold lexH lexD at N
  walk_at "m lex"
  walk_at "m go"
  exact ⟨⟨_, rfl⟩⟩
end
section
theorem sub_ab {a b : Addr × Obj} {H : List (Addr × Obj)} : ∀ p ∈ H ++ [a, b], p ∈ a :: b :: H := by
  intro p hp
  simp only [List.mem_append, List.mem_cons, List.not_mem_nil, or_false] at hp ⊢
  rcases hp with h | h | h
  · exact .inr (.inr h)
  · exact .inl h
  · exact .inr (.inl h)
theorem sub_ba {a b : Addr × Obj} {H : List (Addr × Obj)} : Sub (a :: b :: H) (H ++ [a, b]) := by
  intro p hp
  simp only [List.mem_append, List.mem_cons, List.not_mem_nil, or_false] at hp ⊢
  rcases hp with h | h | h
  · exact .inr (.inl h)
  · exact .inr (.inr h)
  · exact .inl h
theorem lexH_apart {a : LexA} {line line' : Int} {t1 t1' : Tok} {vs vs' pv pv' : List Value} {e2 e3 e2' e3' : Nat} {I : Addr} (h : ∀ p ∈ lexH w a line t1 vs e2 pv e3, p.1 ≠ I) : ∀ p ∈ lexH w a line' t1' vs' e2' pv' e3', p.1 ≠ I := by
  simp only [lexH, List.forall_mem_cons] at h ⊢
  exact h
theorem apart2 {a : LexA} {line line' : Int} {t1 t1' : Tok} {vs vs' pv pv' : List Value} {e2 e3 e2' e3' : Nat} {I q : Addr} {o1 o2 : Obj} (h : ∀ p ∈ lexH w a line t1 vs e2 pv e3, p.1 ≠ I) (h' : ∀ p ∈ lexH w a line t1 vs e2 pv e3, p.1 ≠ q) :
    ∀ p ∈ [(I, o1), (q, o2)], ∀ p' ∈ lexH w a line' t1' vs' e2' pv' e3', p.1 ≠ p'.1 := by
  intro p hp p' hp'
  simp only [List.mem_cons, List.not_mem_nil, or_false] at hp
  rcases hp with rfl | rfl
  · exact (lexH_apart h p' hp').symm
  · exact (lexH_apart h' p' hp').symm
theorem tok_s {a : LexA} {line : Int} {t1 : Tok} {vs : List Value} {e2 : Nat} {e3 : Nat} {rem : List Nat} (ok : LexOk w a) (hs : Sg vs rem.reverse) (hr : rem.length ≤ 1000) (hl : 0 ≤ line ∧ line ≤ 1000) :
   Spec w 8 (.ref 42) [.ref a.x] (lexH w a line t1 vs e2 [] e3) (fun v H' => ∃ line' t1' vs' e2' tk, v = .str (S (tokF rem).1) tk ∧ Sg vs' (tokF rem).2.reverse ∧ H' = lexH w a line' t1' vs' e2' [] e3 ∧ line' + cnt (tokF rem).2 = line + cnt rem) := by
  walk_at "m fill"
  refine' spec_def [("self", .ref a.x)] ?k1 ?k2 ?k3 ?k4 ?k5 ?c1 ?c2 ?c3 ?c4
  walk_at "m enter"
  intro A P L s z p loose mean mg mb r G lz X T F N K0 hK0
  (try k_fold)
  unfold lexH lexD at N
  walk_at "m go"
  refine ⟨cut P L (s₀ := z) (by walk_at "LK") (fun m' H' => (∃ tt, m' "token" = some (.str (S (tokF rem).1) tt)) ∧ ∃ line' t1' vs' e2', H' = lexH w a line' t1' vs' e2' [] e3 ∧ Sg vs' (tokF rem).2.reverse ∧ line' + cnt (tokF rem).2 = line + cnt rem) ?_ ?_⟩
  rotate_left
  · rintro s₁ m' H' l₁ ⟨⟨tt, h1⟩, line', t1', vs', e2', rfl, h2, h3⟩ F' N'
    k_sweep
    walk_at "m go"
    exact ⟨⟨line', t1', vs', e2', tt, rfl, h2, rfl, h3⟩⟩
  intro K1 hK1
  refine for_in ?_
  walk_at "m go"
  rename_i q _ nq I _ nI _ F' N'
  refine ⟨pyIter_ci (N' _ List.mem_cons_self).1 ?_⟩
  have nd1 : ∀ p ∈ lexH w a line t1 vs e2 [] e3, p.1 ≠ I := fun p hp => nI p (List.mem_cons_of_mem _ hp)
  have nd2 : ∀ p ∈ lexH w a line t1 vs e2 [] e3, p.1 ≠ q := nq
  have nd3 : I ≠ q := (nI _ List.mem_cons_self).symm
  refine for_gen (z := z) (by walk_at "LK") rfl rfl (fun n m₁ H₁ => m₁ "self" = some (.ref a.x) ∧ m₁ "fiter" = some (.ref I) ∧
    ((∃ rem1 line1 t1' vs' e2' tt ts, Sub ((I, ciObj (.ref q) (.str "" ts) false) :: (q, methodObj (.ref 35) (.ref a.x)) :: lexH w a line1 t1' vs' e2' [] e3) H₁ ∧ Sg vs' rem1.reverse ∧ rem1.length ≤ 1000 ∧ 0 ≤ line1 ∧ line1 + cnt rem1 = line + cnt rem ∧ tokF rem1 = tokF rem ∧ n = rem1.length + 1 ∧ m₁ "token" = some (.str (S []) tt)) ∨
     (∃ line1 t1' vs' e2' tt, Sub ((I, ciEnd) :: (q, methodObj (.ref 35) (.ref a.x)) :: lexH w a line1 t1' vs' e2' [] e3) H₁ ∧ Sg vs' (tokF rem).2.reverse ∧ line1 + cnt (tokF rem).2 = line + cnt rem ∧ n = 0 ∧ m₁ "token" = some (.str (S (tokF rem).1) tt)))) (rem.length + 1) (by assumption) (by assumption)
    ⟨rfl, rfl, .inl ⟨rem, line, t1, vs, e2, _, _, Sub.rfl', hs, hr, hl.1, rfl, rfl, rfl, by rw [← lit_e]; rfl⟩⟩ ?_
  rintro n m₁ H₁ s₁ l₁ F₁ N₁ ⟨h1, h2, h3⟩ K2 hK2
  k_sweep
  have hcr := cnt_le rem
  have hcr2 := cnt_nonneg rem
  rcases h3 with ⟨rem1, line1, t1', vs', e2', tt, ts, hsub, hs1, hr1, hl1, hl2, hT, hn, h3⟩ | ⟨line1, t1', vs', e2', tt, hsub, hs1, hl1, hn, h3⟩
  · have hc1 := cnt_nonneg rem1
    refine next_rd ok hs1 (by lia) (by lia) (r.le (by lia)) G F₁ (subN N₁ hsub) ⟨nd3, fun p hp => ⟨lexH_apart nd1 p hp, lexH_apart nd2 p hp⟩⟩ l₁ ?_ ?_
    rotate_left
    · rintro s₂ t1b vs₂ e2b rfl l₂ F₂ N₂ hs₂
      refine Imp2.go (by assumption) ?_; exact CutQ.next l₂ F₂ N₂ ⟨lexH w a line1 t1b vs₂ e2b [] e3, Sub.rfl'.tail.tail, ⟨tt, by rw [← hT]; exact h3⟩, line1, t1b, vs₂, e2b, rfl, by rw [← hT]; exact hs₂, by rw [← hT]; exact hl2⟩
    rintro c rr s₂ t1b vs₂ e2b tk rfl l₂ F₂ N₂ hs₂
    refine ⟨_, l₂, F₂, N₂, fun s₃ l₃ F₃ N₃ => ?_⟩
    replace F₃ : Fr P L s₃.heap _ := F₃
    replace N₃ : News P L s₃.heap _ := N₃
    obtain ⟨line2, hline2⟩ : ∃ l2, l2 = (if c = 10 then line1 + 1 else line1) := ⟨_, rfl⟩
    rw [← hline2] at N₃
    have hl3 : 0 ≤ line2 ∧ line2 + cnt rr = line + cnt rem := by rw [cnt_cons] at hl2; subst hline2; split <;> rename_i hq <;> simp only [hq, if_true, if_false] at hl2 <;> lia
    have hc2 := cnt_nonneg rr
    simp only [List.length_cons] at hr1 hn
    rw [tokF_cons] at hT
    k_sweep
    have hi : HaltIf := ⟨⟩
    walk_at "m go"
    refine ⟨cut P L (s₀ := z) (by walk_at "LK") (fun m' H' => ¬ ws c ∧ m' "ch" = some (.str (S [c]) tk) ∧ m' "self" = some (.ref a.x) ∧ m' "fiter" = some (.ref I) ∧ m' "token" = some (.str (S []) tt) ∧ H' = (I, ciObj (.ref q) (.str "" ts) false) :: (q, methodObj (.ref 35) (.ref a.x)) :: lexH w a line2 t1b vs₂ e2b [] e3) ?_ ?_⟩
    · intro K1 hK1
      clear hi
      walk_at "m go"
      · rename_i hw
        rw [if_pos hw] at hT
        exact ⟨⟨rr.length + 1, by lia, h1, h2, .inl ⟨rr, line2, t1b, vs₂, e2b, tt, ts, Sub.rfl', hs₂, by lia, hl3.1, hl3.2, hT, rfl, h3⟩⟩⟩
      · exact ⟨⟨_, Sub.rfl', by assumption, rfl, h1, h2, h3, rfl⟩⟩
    rintro s₄ m₂ H₂ l₄ ⟨hw, g1, g2, g3, g4, rfl⟩ F₄ N₄
    k_sweep
    rw [if_neg hw] at hT
    refine wpAny_execs_cons ?_
    walk_at "m go"
    · rename_i hq
      rw [if_pos hq] at hT
      clear hi
      refine ⟨wpAny_execs_cons (for_in ?_)⟩
      walk_at "m go"
      refine ⟨pyIter_ci (News.get (by assumption) (by k_mem)) ?_⟩
      refine' for_gen (z := z) (by walk_at "LK") rfl rfl (fun n m₁ H₁ => m₁ "self" = some (.ref a.x) ∧ m₁ "fiter" = some (.ref I) ∧
        ∃ tok rem2 line1 t1' vs' e2' tt, Sub ((I, ciObj (.ref q) (.str "" ts) false) :: (q, methodObj (.ref 35) (.ref a.x)) :: lexH w a line1 t1' vs' e2' [] e3) H₁ ∧ Sg vs' rem2.reverse ∧ tok.length + rem2.length ≤ 1000 ∧ 0 ≤ line1 ∧ line1 + cnt rem2 = line + cnt rem ∧ quo tok rem2 = tokF rem ∧ n = rem2.length ∧ m₁ "token" = some (.str (S tok) tt)) rr.length ?F1 ?N1 ?J1 ?T1
      case F1 => assumption
      case N1 => assumption
      case J1 => exact ⟨g2, g3, [], rr, line2, t1b, vs₂, e2b, tt, Sub.rfl', hs₂, by simp only [List.length_nil]; lia, hl3.1, hl3.2, hT, rfl, g4⟩
      rintro n m₁ H₁ s₁ l₁ F₁ N₁ ⟨h1, h2, tok, rem2, line3, t1c, vs₃, e2c, tt, hsub, hs3, hr3, hl4, hl5, hQ, hn2, h3⟩ K2 hK2
      k_sweep
      have hc2 := cnt_nonneg rem2
      refine next_rd ok hs3 (by lia) (by lia) (r.le (by lia)) G F₁ (subN N₁ hsub) ⟨nd3, fun p hp => ⟨lexH_apart nd1 p hp, lexH_apart nd2 p hp⟩⟩ l₁ ?_ ?_
      · rintro c2 rr2 s₂ t1d vs₄ e2d tk2 rfl l₂ F₂ N₂ hs4
        refine ⟨_, l₂, F₂, N₂, fun s₃ l₃ F₃ N₃ => ?_⟩
        replace F₃ : Fr P L s₃.heap _ := F₃
        replace N₃ : News P L s₃.heap _ := N₃
        obtain ⟨line4, hline4⟩ : ∃ l2, l2 = (if c2 = 10 then line3 + 1 else line3) := ⟨_, rfl⟩
        rw [← hline4] at N₃
        have hl6 : 0 ≤ line4 ∧ line4 + cnt rr2 = line + cnt rem := by rw [cnt_cons] at hl5; subst hline4; split <;> rename_i hq <;> simp only [hq, if_true, if_false] at hl5 <;> lia
        have hc3 := cnt_nonneg rr2
        simp only [List.length_cons] at hr3 hn2
        rw [quo_cons] at hQ
        k_sweep
        have hrs : RetSub := ⟨⟩
        walk_at "m go"
        · rename_i hq
          rw [if_pos hq] at hQ
          refine ⟨⟨lexH w a line4 t1d vs₄ e2d [] e3, Sub.rfl'.tail.tail, line4, t1d, vs₄, e2d, tt, ?_, ?_, rfl, ?_⟩⟩
          · rw [← hQ]
          · rw [← hQ]; exact hs4
          · rw [← hQ]; exact hl6.2
        · rename_i hq hq2
          rw [if_neg (by assumption), if_pos (by assumption)] at hQ
          refine ⟨call_spec (rest := [(I, ciObj (.ref q) (.str "" ts) false), (q, methodObj (.ref 35) (.ref a.x))]) (read_s (line := line4) (t1 := t1d) (vs := vs₄) (e2 := e2d) (pv := []) (e3 := e3) (rem := rr2) ok hs4 (by lia) (by lia)) (Rm.le r (Nat.le_of_ble_eq_true rfl)) G (by assumption) (by assumption) (by with_reducible exact sub_ab) (apart2 nd1 nd2) (by walk_at "LK") ?_⟩
          rintro v H' s₅ ⟨t1e, vs₅, e2e, tk5, rfl, hs5, rfl⟩ l₅ F₅ N₅ ap
          k_sweep
          have hct := cnt_tail rr2
          have hlt : (rr2.take 1).length + rr2.tail.length = rr2.length := by cases rr2 <;> simp <;> lia
          walk_at "m go"
          refine ⟨⟨rr2.tail.length, by lia, h1, h2, _, rr2.tail, (if rr2.take 1 = [10] then line4 + 1 else line4), t1e, vs₅, e2e, _, ?_, hs5, ?_, ?_, ?_, hQ, rfl, rfl⟩⟩
          · with_reducible exact sub_ba
          · rw [List.length_append]; lia
          · split <;> lia
          · split <;> rename_i hq <;> simp only [hq, if_true, if_false] at hct <;> lia
        · rw [if_neg (by assumption), if_neg (by assumption)] at hQ
          refine ⟨⟨rr2.length, by lia, h1, h2, _, rr2, line4, t1d, vs₄, e2d, _, ?_, hs4, ?_, hl6.1, hl6.2, hQ, rfl, rfl⟩⟩
          · with_reducible exact Sub.rfl'
          · rw [List.length_append]; simp only [List.length_cons, List.length_nil]; lia
      · rintro s₂ t1d vs₄ e2d rfl l₂ F₂ N₂ hs4
        rw [quo_nil] at hQ
        walk_at "m go"
        refine ⟨⟨0, by lia, h1, h2, .inr ⟨line3, t1d, vs₄, e2d, tt, ?_, ?_, ?_, rfl, ?_⟩⟩⟩
        · with_reducible exact Sub.rfl'
        · rw [← hQ]; exact hs4
        · rw [← hQ]; exact hl5
        · rw [← hQ]; exact h3

    rw [if_neg (by assumption)] at hT
    refine ⟨cut P L (s₀ := z) (by walk_at "LK") (fun m' H' => ∃ d rr' line5 t1c vs₃ e2c tk', m' "ch" = some (.str (S d) tk') ∧ m' "self" = some (.ref a.x) ∧ m' "fiter" = some (.ref I) ∧ m' "token" = some (.str (S []) tt) ∧ H' = (I, ciObj (.ref q) (.str "" ts) false) :: (q, methodObj (.ref 35) (.ref a.x)) :: lexH w a line5 t1c vs₃ e2c [] e3 ∧ Sg vs₃ rr'.reverse ∧ d.length + rr'.length ≤ 1000 ∧ 0 ≤ line5 ∧ line5 + cnt rr' = line + cnt rem ∧ rr'.length ≤ rr.length ∧ bar d rr' = tokF rem) ?_ ?_⟩
    · intro K1 hK1
      clear hi
      walk_at "m go"
      · rw [if_pos (by assumption)] at hT
        refine ⟨call_spec (rest := [(I, ciObj (.ref q) (.str "" ts) false), (q, methodObj (.ref 35) (.ref a.x))]) (read_s (line := line2) (t1 := t1b) (vs := vs₂) (e2 := e2b) (pv := []) (e3 := e3) (rem := rr) ok hs₂ (by lia) (by lia)) (Rm.le r (Nat.le_of_ble_eq_true rfl)) G (by assumption) (by assumption) (by with_reducible exact sub_ab) (apart2 nd1 nd2) (by walk_at "LK") ?_⟩
        rintro v H' s₅ ⟨t1e, vs₅, e2e, tk5, rfl, hs5, rfl⟩ l₅ F₅ N₅ ap
        k_sweep
        have hct := cnt_tail rr
        have hlt : (rr.take 1).length + rr.tail.length = rr.length := by cases rr <;> simp <;> lia
        walk_at "m go"
        refine ⟨⟨_, ?_, rr.take 1, rr.tail, (if rr.take 1 = [10] then line2 + 1 else line2), t1e, vs₅, e2e, tk5, rfl, g2, g3, g4, rfl, hs5, by lia, ?_, ?_, by lia, hT⟩⟩
        · with_reducible exact sub_ba
        · split <;> lia
        · split <;> rename_i hq <;> simp only [hq, if_true, if_false] at hct <;> lia
      · rw [if_neg (by assumption)] at hT
        exact ⟨⟨_, Sub.rfl', [c], rr, line2, t1b, vs₂, e2b, _, g1, g2, g3, g4, rfl, hs₂, by simp only [List.length_cons, List.length_nil]; lia, hl3.1, hl3.2, by lia, hT⟩⟩
    clear hi
    rintro s₆ m₃ H₃ l₆ ⟨d, rr', line5, t1c, vs₃, e2c, tk', g1, g2, g3, g4, rfl, hs6, hd, hl7, hl8, hl9, hB⟩ F₆ N₆
    k_sweep
    walk_at "m go"
    · refine ⟨wpAny_execs_cons (for_in ?_)⟩
      walk_at "m go"
      refine ⟨pyIter_ci (News.get (by assumption) (by k_mem)) ?_⟩
      refine' for_gen (z := z) (by walk_at "LK") rfl rfl (fun n m₁ H₁ => m₁ "self" = some (.ref a.x) ∧ m₁ "fiter" = some (.ref I) ∧
        ∃ tok rem2 line1 t1' vs' e2' tt, Sub ((I, ciObj (.ref q) (.str "" ts) false) :: (q, methodObj (.ref 35) (.ref a.x)) :: lexH w a line1 t1' vs' e2' [] e3) H₁ ∧ Sg vs' rem2.reverse ∧ tok.length + rem2.length ≤ 1000 ∧ 0 ≤ line1 ∧ line1 + cnt rem2 = line + cnt rem ∧ bar tok rem2 = tokF rem ∧ n = rem2.length ∧ m₁ "token" = some (.str (S tok) tt)) rr'.length ?F2 ?N2 ?J2 ?T2
      case F2 => assumption
      case N2 => assumption
      case J2 => exact ⟨g2, g3, d, rr', line5, t1c, vs₃, e2c, _, Sub.rfl', hs6, hd, hl7, hl8, hB, rfl, rfl⟩
      rintro n m₁ H₁ s₁ l₁ F₁ N₁ ⟨h1, h2, tok, rem2, line3, t1c, vs₃, e2c, tt, hsub, hs3, hr3, hl4, hl5, hQ, hn2, h3⟩ K2 hK2
      k_sweep
      have hc2 := cnt_nonneg rem2
      refine next_rd ok hs3 (by lia) (by lia) (r.le (by lia)) G F₁ (subN N₁ hsub) ⟨nd3, fun p hp => ⟨lexH_apart nd1 p hp, lexH_apart nd2 p hp⟩⟩ l₁ ?_ ?_
      · rintro c2 rr2 s₂ t1d vs₄ e2d tk2 rfl l₂ F₂ N₂ hs4
        refine ⟨_, l₂, F₂, N₂, fun s₃ l₃ F₃ N₃ => ?_⟩
        replace F₃ : Fr P L s₃.heap _ := F₃
        replace N₃ : News P L s₃.heap _ := N₃
        obtain ⟨line4, hline4⟩ : ∃ l2, l2 = (if c2 = 10 then line3 + 1 else line3) := ⟨_, rfl⟩
        rw [← hline4] at N₃
        have hl6 : 0 ≤ line4 ∧ line4 + cnt rr2 = line + cnt rem := by rw [cnt_cons] at hl5; subst hline4; split <;> rename_i hq <;> simp only [hq, if_true, if_false] at hl5 <;> lia
        have hc3 := cnt_nonneg rr2
        simp only [List.length_cons] at hr3 hn2
        rw [bar_cons] at hQ
        k_sweep
        have hrs : RetSub := ⟨⟩
        walk_at "m go"
        · rename_i hq
          rw [if_pos hq] at hQ
          refine ⟨⟨lexH w a line4 t1d vs₄ e2d [] e3, Sub.rfl'.tail.tail, line4, t1d, vs₄, e2d, tt, ?_, ?_, rfl, ?_⟩⟩
          · rw [← hQ]
          · rw [← hQ]; exact hs4
          · rw [← hQ]; exact hl6.2
        · rename_i hq hq2
          rw [if_neg (by assumption), if_pos (by assumption)] at hQ
          refine ⟨call_spec (rest := [(I, ciObj (.ref q) (.str "" ts) false), (q, methodObj (.ref 35) (.ref a.x))]) (read_s (line := line4) (t1 := t1d) (vs := vs₄) (e2 := e2d) (pv := []) (e3 := e3) (rem := rr2) ok hs4 (by lia) (by lia)) (Rm.le r (Nat.le_of_ble_eq_true rfl)) G (by assumption) (by assumption) (by with_reducible exact sub_ab) (apart2 nd1 nd2) (by walk_at "LK") ?_⟩
          rintro v H' s₅ ⟨t1e, vs₅, e2e, tk5, rfl, hs5, rfl⟩ l₅ F₅ N₅ ap
          k_sweep
          have hct := cnt_tail rr2
          have hlt : (rr2.take 1).length + rr2.tail.length = rr2.length := by cases rr2 <;> simp <;> lia
          walk_at "m go"
          refine ⟨⟨rr2.tail.length, by lia, h1, h2, _, rr2.tail, (if rr2.take 1 = [10] then line4 + 1 else line4), t1e, vs₅, e2e, _, ?_, hs5, ?_, ?_, ?_, hQ, rfl, rfl⟩⟩
          · with_reducible exact sub_ba
          · rw [List.length_append]; lia
          · split <;> lia
          · split <;> rename_i hq <;> simp only [hq, if_true, if_false] at hct <;> lia
        · rw [if_neg (by assumption), if_neg (by assumption)] at hQ
          refine ⟨⟨rr2.length, by lia, h1, h2, _, rr2, line4, t1d, vs₄, e2d, _, ?_, hs4, ?_, hl6.1, hl6.2, hQ, rfl, rfl⟩⟩
          · with_reducible exact Sub.rfl'
          · rw [List.length_append]; simp only [List.length_cons, List.length_nil]; lia
      · rintro s₂ t1d vs₄ e2d rfl l₂ F₂ N₂ hs4
        rw [bar_nil] at hQ
        walk_at "m go"
        refine ⟨⟨0, by lia, h1, h2, .inr ⟨line3, t1d, vs₄, e2d, tt, ?_, ?_, ?_, rfl, ?_⟩⟩⟩
        · with_reducible exact Sub.rfl'
        · rw [← hQ]; exact hs4
        · rw [← hQ]; exact hl5
        · rw [← hQ]; exact h3

  · refine ci_done r.hh (News.get (subN N₁ hsub) List.mem_cons_self) fun h' hk => ?_
    have F₂ : Fr P L h' m₁ := ⟨F₁.ns.at' fun o e => hk _ o e, fun b o e => hk b o (F₁.keep b o e), F₁.above⟩
    have N₂ : News P L h' (lexH w a line1 t1' vs' e2' [] e3) := fun p hp => ⟨hk _ _ ((subN N₁ hsub) p (List.mem_cons_of_mem _ (List.mem_cons_of_mem _ hp))).1, ((subN N₁ hsub) p (List.mem_cons_of_mem _ (List.mem_cons_of_mem _ hp))).2⟩
    refine Imp2.go (by assumption) ?_; exact CutQ.next (Like.to l₁) F₂ N₂ ⟨_, Sub.rfl', ⟨tt, h3⟩, line1, t1', vs', e2', rfl, hs1, hl1⟩
end
section
theorem init_s {x dx : Addr} {fp : Value} (hx : x ≠ dx) :
   Spec w 4 (.ref 28) [.ref x, fp] [(x, instObj 52 dx), (dx, dictOf [] 0)] (fun v H' => v = .none ∧ ∃ k1 k2 k3 k4 t1 t3 pb e, H' = [(pb, listOf #[] e), (x, instObj 52 dx), (dx, dictOf [ent w "lineno" k1 (.int 1 t1), ent w "instream" k2 fp, ent w "whitespace" k3 (.str "\n\t\r " t3), ent w "pushback" k4 (.ref pb)] 4)] ∧ x ≠ pb ∧ dx ≠ pb) := by
  walk_at "m fill"
  refine' spec_def [("self", .ref x), ("fp", fp)] ?k1 ?k2 ?k3 ?k4 ?k5 ?c1 ?c2 ?c3 ?c4
  walk_at "m enter"
  intro A P L s z p loose mean mg mb r G lz X T F N K0 hK0
  (try k_fold)
  walk_at "m go"
  exact ⟨⟨rfl, _, _, _, _, _, _, _, 0, rfl, Nat.ne_of_lt (by lia), Nat.ne_of_lt (by lia)⟩⟩
theorem spec_cls {d : Nat} {C fI : Addr} {args : List Value} {H : List (Addr × Obj)} {Q : Post} (hm : makesIn (hk.heap_1 w.params) C = true) (hi : findIn (hk.heap_1 w.params) (.ref C) "__init__" = some (some (.ref fI))) (hf : typeIn (hk.heap_1 w.params) (.ref fI) = some (.type "function"))
    (Si : ∀ x dx, x ≠ dx → Spec w d (.ref fI) (.ref x :: args) ((x, instObj C dx) :: (dx, dictOf [] 0) :: H) (fun v H' => v = .none ∧ (x ≠ dx → (∀ p ∈ H, p.1 ≠ x ∧ p.1 ≠ dx) → Q (.ref x) H'))) : Spec w (d + 1) (.ref C) args H Q := by
  intro A P s r G k hs L
  obtain ⟨hh, g, dr, t, os⟩ := s
  have X := G.X.keeps k
  change P.objs.size ≤ hh.objs.size at hs
  refine make_core (makes_of X hm) (looks_findIn X hi) (fun self => bind_fn X self hf) (.inl rfl) ?_
  have kk : ∀ b o, hh.get? b = some o → ((hh.push emptyDict).push (instObj C hh.objs.size)).get? b = some o := fun b o e => Heap.get?_push_of_some _ (Heap.get?_push_of_some _ e)
  have szn : ∀ n, hh.objs.size ≤ n → P.get? n = none := fun n hn => by
    cases q : P.get? n with
    | none => rfl
    | some o => exact absurd (Nat.lt_of_lt_of_le (Heap.lt_size q) hs) (by lia)
  have hne : ∀ p ∈ H, p.1 ≠ hh.objs.size + 1 ∧ p.1 ≠ hh.objs.size := fun p hp => by
    have : p.1 < hh.objs.size := Heap.lt_size (L p hp).1
    exact ⟨Nat.ne_of_lt (Nat.lt_succ_of_lt this), Nat.ne_of_lt this⟩
  have rr : Rm (A.under (.builtin "type.__call__" ⟨.ref C :: args, []⟩)) d := ⟨r.hh, by rw [depth_under_make]; have := r.dep; lia, by rw [units_under_make]; have := r.un; lia⟩
  refine codeAny_mono (Si (hh.objs.size + 1) hh.objs.size (Nat.ne_of_gt (by lia)) _ P _ rr G (fun b o e => kk b o (k b o e)) (by
    show P.objs.size ≤ ((hh.push emptyDict).push (instObj C hh.objs.size)).objs.size
    rw [Heap.size_push, Heap.size_push]; lia) (fun p hp => ?_)) fun r s' o => ?_
  · simp only [List.mem_cons] at hp
    rcases hp with rfl | rfl | hp
    · exact ⟨by heap_get, szn _ (by lia)⟩
    · exact ⟨by heap_get, szn _ (by lia)⟩
    · exact ⟨kk _ _ (L p hp).1, (L p hp).2⟩
  · obtain ⟨v, H', rfl, lk, kp, L', rfl, q⟩ := o
    exact ⟨rfl, _, H', rfl, lk, kp, L', q (Nat.ne_of_gt (by lia)) hne⟩
theorem new_s {fp : Value} : Spec w 5 (.ref 52) [fp] [] (fun v H' => ∃ x dx pb k1 k2 k3 k4 t1 t3 e, v = .ref x ∧ H' = [(pb, listOf #[] e), (x, instObj 52 dx), (dx, dictOf [ent w "lineno" k1 (.int 1 t1), ent w "instream" k2 fp, ent w "whitespace" k3 (.str "\n\t\r " t3), ent w "pushback" k4 (.ref pb)] 4)] ∧ x ≠ dx ∧ x ≠ pb ∧ dx ≠ pb) := by
  walk_at "m fill"
  refine' spec_cls (fI := 28) ?k1 ?k2 ?k3 fun x dx hx => (init_s hx).mono (Nat.le_refl _) fun v H' h => ?_
  case k1 => k_is
  case k2 => k_is
  case k3 => k_is
  obtain ⟨rfl, k1, k2, k3, k4, t1, t3, pb, e, rfl, hp⟩ := h
  exact ⟨rfl, fun _ _ => ⟨x, dx, pb, k1, k2, k3, k4, t1, t3, e, rfl, rfl, hx, hp⟩⟩
end
section
open PySem PySem.W PySem.Calls PyProof.Rows
/-- entering a lambda -/
theorem spec_lam {d : Nat} {H : List (Addr × Obj)} {Q : Post} {name qual : Str} {params : Arguments} {body : Expr} {scope : Scope} {cl : List (Str × Addr)} {pm ctv : Value} {c' f : Addr} {oc : Obj} {vs : Array Value} {tq : Tok} {args : List Value} (binds : List (Str × Value))
    (ho : (f, kla_obj name qual params body scope cl pm c' ctv) ∈ H) (hc : (c', oc) ∈ H) (hdt : oc.data = .fields vs) (hv : vs[1]? = some (.str qual tq))
    (hbind : bindArgs (kla_fn name qual params body scope cl pm (.ref c') ctv) ⟨args, []⟩ = pure binds) (hloc : ∀ y ∈ binds, scope.names.lookup y.1 = some .local)
    (h : ∀ A P L s s₁ p loose mean mg mb, Rm A d → Gd w P → Like s₁ s → (hk.heap_1 w.params).In P → Top p loose mean mg mb P → Fr P L s.heap (fun y => binds.reverse.lookup y) → News P L s.heap H →
      wpAny (model PR w) A (eval body (envX qual scope L f (.ref c') cl)) (fun v s' => Ret P L s₁ Q v s') (fun _ _ => False) s)
    (hco : scope.isCoroutine = false := by rfl) (hgen : scope.isGenerator = false := by rfl) (hk : scope.kind = .function := by rfl)
    (hcell : ∀ x ∈ scope.names, x.2 ≠ .cell := by decide) : Spec w (d + 1) (.ref f) args H Q := by
  intro A P s r G k hs L
  obtain ⟨X, ⟨p, l, me, mg, mb, T⟩, _⟩ := id G
  refine kla_callFunE r.room (L _ ho).1 rfl hco hgen rfl ⟨c', oc, vs, tq, rfl, (L _ hc).1, hdt, hv⟩ ?_
  rw [hbind]
  refine wpAny_pure (wpAny_newFunctionEnv hcell hloc (fun h₁ hns hsb => ⟨((T.nolimit).keeps k).fresh _ hsb, ?_⟩) hk)
  show codeAny _ _ (.expr body (envX qual scope s.heap.objs.size f (.ref c') cl)) _ _
  have hk₁ : ∀ b o, s.heap.get? b = some o → h₁.get? b = some o := fun b o e => hsb.extBut b o (Nat.ne_of_lt (Heap.lt_size e)) (Heap.get?_push_of_some _ e)
  refine kla_codeExpr (wpAny_mono (h (A.deeper (envX qual scope s.heap.objs.size f (.ref c') cl)) P s.heap.objs.size { s with heap := h₁, toks := s.toks + binds.length } s p l me mg mb r.deeper G Like.mk' X T ⟨hns, fun b o e => hk₁ b o (k b o e), hs⟩ (fun q hq => ⟨hk₁ _ _ (L q hq).1, Nat.ne_of_lt (Heap.lt_size (L q hq).1), (L q hq).2⟩)) (fun v s' hl => ?_) fun _ _ e => e.elim)
  obtain ⟨m', H', e, F', N', q⟩ := hl
  exact ⟨_, H', rfl, e, F'.keep, fun q hq => ⟨(N' q hq).1, (N' q hq).2.2⟩, q⟩
/-- entering a def with cells -/
theorem spec_defC {d : Nat} {H : List (Addr × Obj)} {Q : Post} {name qual : Str} {params : Arguments} {body : List Stmt} {scope : Scope} {dV kV doc pm cdv ct oc : Value} {an od : Option Addr} {osl : Array (Option Value)} {f : Addr} {args : List Value} (binds : List (Str × Value))
    (ho : (hk.heap_1 w.params).lookup f = some ⟨oc, od, .func (fnOf name qual params body scope dV kV doc pm an cdv ct), osl⟩) (hcd : codeIn (hk.heap_1 w.params) cdv qual = true)
    (hbind : bindArgs (fnOf name qual params body scope dV kV doc pm an cdv ct) ⟨args, []⟩ = pure binds)
    (hkind : (binds.all fun y => scope.names.lookup y.1 == some .local || scope.names.lookup y.1 == some .cell) = true)
    (hnd : ((cellsFrom 0 scope.names []).map (·.1)).Nodup)
    (h : ∀ A P L s s₁ cells p loose mean mg mb, Rm A d → Gd w P → Like s₁ s → (hk.heap_1 w.params).In P → Top p loose mean mg mb P → Fr P L s.heap (bindL (envOfC qual scope L f cdv).kindOf binds fun _ => none) → News P L s.heap (cells ++ H) →
      CellsAre (bindC (envOfC qual scope L f cdv).kindOf binds fun _ => none) (cellsFrom (L + 1) scope.names []) cells → (∀ p ∈ H, p.1 < L) → ∀ K, Imp2 (fun fl s' => Ret P L s₁ Q (match fl with | .ret v => v | _ => .none) s') K →
      wpAny (model PR w) A (execs body (envOfC qual scope L f cdv)) K (fun _ _ => False) s)
    (hco : scope.isCoroutine = false := by rfl) (hgen : scope.isGenerator = false := by rfl) (hk : scope.kind = .function := by rfl) : Spec w (d + 1) (.ref f) args H Q := by
  intro A P s r G k hs L
  obtain ⟨X, ⟨p, l, me, mg, mb, T⟩, _⟩ := id G
  refine codeAny_call_function (fd := fnOf name qual params body scope dV kV doc pm an cdv ct) r.room (k _ _ (X _ _ ho)) rfl hco hgen rfl (codeRec_of (X.keeps k) hcd) ((BindsTo.of_eq hbind : BindsTo s _ _ _) _ _ _ _ ?_)
  refine wpAny_newFunctionEnv_cells hk (kindsX hkind _) fun env' he s' x => ?_
  subst he
  refine ⟨(T.nolimit.keeps k).keeps x.toInCall.keep, codeAny_func ?_⟩
  obtain ⟨h₁, tk, rfl, _⟩ := x.done
  have hk₁ := x.toInCall.keep
  obtain ⟨cells, NC, Y⟩ := Cl.news (h₀ := s.heap) (Nat.le_refl _) fun n c hm => ⟨x.cell n c (lookup_of_mem_nodup (cellsFrom_names scope.names 0 (s.heap.objs.size + 1) [] [] rfl ▸ hnd) hm), x.above n c hm⟩
  refine wpAny_mono (h (A.deeper (envOfC qual scope s.heap.objs.size f cdv)) P s.heap.objs.size { s with heap := h₁, toks := tk } s cells p l me mg mb r.deeper G Like.mk' X T ⟨x.toInCall.ns, fun b o e => hk₁ b o (k b o e), hs⟩ (fun p hp => ?_) Y (fun p hp => Heap.lt_size (L p hp).1) _ (fun _ _ x => x)) (fun fl s' hl => ?_) fun _ _ e => e.elim
  · rcases List.mem_append.mp hp with hp | hp
    · refine ⟨(NC p hp).1, (NC p hp).2.1, ?_⟩
      cases q : P.get? p.1 with
      | none => rfl
      | some o => have := k _ _ q; rw [(NC p hp).2.2] at this; cases this
    · exact ⟨hk₁ _ _ (L p hp).1, Nat.ne_of_lt (Heap.lt_size (L p hp).1), (L p hp).2⟩
  · obtain ⟨m', H', e, F', N', q⟩ := hl
    exact ⟨_, H', rfl, e, F'.keep, fun q hq => ⟨(N' q hq).1, (N' q hq).2.2⟩, q⟩
end
section

theorem step_s {a : LexA} {line : Int} {t1 : Tok} {vs : List Value} {e2 : Nat} {e3 : Nat} {rem : List Nat} {size : Int} {ts : Tok} (ok : LexOk w a) (hs : Sg vs rem.reverse) (hr : rem.length ≤ 1000) (hl : 0 ≤ line ∧ line ≤ 1000) :
   Spec w 10 (.ref 98) [.ref a.x, .ref a.sg, .int size ts] (lexH w a line t1 vs e2 [] e3) (fun v H' => ∃ line' t1' vs' e2' q, v = .ref q ∧ Sg vs' (tokF rem).2.reverse ∧ line' + cnt (tokF rem).2 = line + cnt rem ∧ ∃ tk1 tk2 tk3, H' = (q, tupOf [.str (S (tokF rem).1) tk1, .int line' tk2, .int (size - ((tokF rem).2.length : Nat)) tk3]) :: lexH w a line' t1' vs' e2' [] e3 ∧ ∀ p ∈ lexH w a line' t1' vs' e2' [] e3, p.1 ≠ q) := by
  walk_at "m fill"
  refine' spec_def [("lexer", .ref a.x), ("signs", .ref a.sg), ("size", .int size ts)] ?k1 ?k2 ?k3 ?k4 ?k5 ?c1 ?c2 ?c3 ?c4
  walk_at "m enter"
  intro A P L s z p loose mean mg mb r G lz X T F N K0 hK0
  (try k_fold)
  unfold lexH lexD at N
  walk_at "m go"
  refine ⟨call_spec (rest := []) (tok_s (line := line) (t1 := t1) (vs := vs) (e2 := e2) (e3 := e3) ok hs hr hl) (Rm.le r (Nat.le_of_ble_eq_true rfl)) G (by assumption) (by assumption) (by rw [List.append_nil]; exact fun p hp => hp) (fun _ hp => nomatch hp) (by walk_at "LK") ?_⟩
  rintro v H' s₂ ⟨line', t1', vs', e2', tk, rfl, hs', rfl, hc⟩ l₂ F₂ N₂ ap
  k_sweep
  rw [List.append_nil] at N₂
  unfold lexH lexD at N₂
  have hlen := hs'.length
  rw [List.length_reverse] at hlen
  have hlt := tokF_len rem
  walk_at "m go"
  rename_i D' h' F' N' nD
  refine ⟨?_⟩
  rw [← hlen]
  exact ⟨line', t1', vs', e2', D', rfl, hs', hc, _, _, _, rfl, fun p hp => Nat.ne_of_lt (nD p hp)⟩
end
section
open PySem PySem.W PySem.Calls PyProof.Rows
theorem cnt_kit : ∀ l : List Nat, PyProof.Rows.cnt 10 l = cnt l
  | [] => rfl
  | c :: l => by rw [PyProof.Rows.cnt_cons, Mine.cnt_cons, cnt_kit l]; lia
theorem count_nl (l : List Nat) : Txt.count (S l) (S [10]) = cnt l := by
  have h := PyProof.Rows.count_is (S l) 10
  rw [← cnt_kit]
  exact h
theorem mul_S1 (c : Nat) (n : Int) : Txt.mul (S [c]) n = S (List.replicate n.toNat c) := by
  rw [S_of (Txt.mul (S [c]) n)]
  congr 1
  exact mul_one_list c n
section
variable {A : Around} {E : Value → Shared → Prop} {s : Shared} {t u : Tok}
theorem mult_S {c : Nat} {n : Int} {y : PySem.Str} {Q : Value → Shared → Prop} (hy : y = S [c]) (h0 : -1000 ≤ n ∧ n ≤ 1000) (h : ∀ t' k, Q (.str (S (List.replicate n.toNat c)) t') { s with toks := k }) : wpAny (model PR w) A (binaryOp .Mult (.str y t) (.int n u)) Q E s := by
  subst hy
  refine SB.mul (mulOk_of 1 1000 (by rw [S_len]; exact Nat.le_refl _) (by lia) (by lia) (by decide) (by decide)) fun t' k => ?_
  rw [mul_S1]
  exact h t' k
theorem count_S {l : List Nat} {y : PySem.Str} {Q : Value → Shared → Prop} (hy : y = S [10]) (h : Q (.int (cnt l) s.toks) { s with toks := s.toks + 1 }) : wpAny (model PR w) A (call (.builtin "str.count") [.str (S l) t, .str y u]) Q E s := by
  subst hy
  refine SC.count ?_
  rw [count_nl]
  exact h
end
def wsl : List Nat := [10, 9, 13, 32]
def fq (mix : Int) (w : List Nat) (k : Nat) : Bool := decide (w = []) || decide ((mix.fdiv (2 ^ k)).fmod 2 = 1)
def fw (mix : Int) (k : Nat) : Nat := wsl.getD ((mix.fdiv 36 + k).fmod 4).toNat 0
def gap (mix : Int) (k : Nat) : List Nat := List.replicate ((mix.fdiv 12).fmod 3).toNat (fw mix k)
def part (mix : Int) (w : List Nat) (sl : List Int) (k : Nat) : List Nat := gap mix k ++ (open1 (fq mix w k) w sl ++ [close1 (fq mix w k) (fw mix k)])
def fcut (mix : Int) : Int := (mix.fdiv 4).fmod 3
def ftext1 (mix : Int) (w0 w1 : List Nat) (sl0 sl1 : List Int) : List Nat := part mix w0 sl0 0 ++ part mix w1 sl1 1
def ftext (mix : Int) (w0 w1 : List Nat) (sl0 sl1 : List Int) : List Nat :=
  if fcut mix > 0 then (ftext1 mix w0 w1 sl0 sl1).take ((ftext1 mix w0 w1 sl0 sl1).length - 1) ++ List.replicate (fcut mix - 1).toNat 92 else ftext1 mix w0 w1 sl0 sl1
theorem fmod_b (a : Int) (n : Nat) (h : 0 < n) : 0 ≤ a.fmod n ∧ a.fmod n < n := by
  rw [Int.fmod_eq_emod_of_nonneg _ (by lia)]
  exact ⟨Int.emod_nonneg _ (by lia), Int.emod_lt_of_pos _ (by lia)⟩
theorem fmod3 (a : Int) : 0 ≤ a.fmod 3 ∧ a.fmod 3 < 3 := fmod_b a 3 (by decide)
theorem fmod4 (a : Int) : 0 ≤ a.fmod 4 ∧ a.fmod 4 < 4 := fmod_b a 4 (by decide)
theorem open1_len (q : Bool) (w : List Nat) (sl : List Int) : (open1 q w sl).length ≤ 1 + 2 * w.length := by
  unfold open1
  rw [List.length_append]
  have := body_len q w sl w.length
  cases q <;> simp <;> lia
theorem fq_nil (mix : Int) (k : Nat) (w : List Nat) (h : w = []) : fq mix w k = true := by unfold fq; rw [decide_eq_true h]; rfl
end
section
open PySem PySem.W PySem.Calls PyProof.Rows
section
variable {A : Around} {E : Value → Shared → Prop} {P : Heap} {s : Shared} {m : Str → Option Value} {news news' : List (Addr × Obj)} {L D b : Addr} {vs us : List Value} {n n2 : Nat} {t u : Tok}
theorem ll_set {k : Int} {x : Value} {Q : Unit → Shared → Prop} (F : Fr P L s.heap m) (N : News P L s.heap news) (U : Upd D (listOf vs.toArray n) (listOf (vs.set k.toNat x).toArray n) news news') (h0 : 0 ≤ k) (h1 : k < vs.length) (hfit : k < 2 ^ 63)
    (h : ∀ h', Fr P L h' m → News P L h' news' → Q () { s with heap := h' }) :
    wpAny (model PR w) A (setItem (.ref D) (.int k t) x) Q E s := by
  obtain ⟨pre, post, rfl, rfl, a, b⟩ := U.split
  have z := N (D, listOf vs.toArray n) (List.mem_append.mpr (.inr (.head _)))
  have hs : vs.toArray.size = vs.length := by simp
  refine ki_setAt z.1 h0 hfit (by lia) (h _ (F.change (Heap.SameBut.update ..) z.2.1 z.2.2) (ki_turn _ N a b ?_ ?_))
  · show vs.toArray.setIfInBounds k.toNat x = (vs.set k.toNat x).toArray
    apply Array.toList_inj.mp
    simp
  · simp
theorem ll_add {Q : Value → Shared → Prop} (F : Fr P L s.heap m) (N : News P L s.heap news) (ha : (D, listOf vs.toArray n) ∈ news) (hb : (b, listOf us.toArray n2) ∈ news) (hz : vs.length + us.length ≤ 100000)
    (h : ∀ R h', Fr P L h' m → News P L h' ((R, listOf (vs ++ us).toArray 0) :: news) → (∀ p ∈ news, p.1 < R) → Q (.ref R) { s with heap := h' }) : wpAny (model PR w) A (binaryOp .Add (.ref D) (.ref b)) Q E s :=
  add_lists F N (News.isList N ha) (News.isList N hb) (fun h' F' N' => h _ h' F' N' fun p hp => Heap.lt_size (N p hp).1) (by rw [sizeLine_eq]; lia)
theorem white_at {value slice : Expr} {i : Int} {Q : Value → Shared → Prop} (h0 : 0 ≤ i ∧ i < 4) (h : Q (.str (S [wsl.getD i.toNat 0]) s.toks) { s with toks := s.toks + 1 })
    (hs : subscripted slice false (.str (S wsl) t) (.int i u) = operate [.str (S wsl) t, .int i u] (getItem (.str (S wsl) t) (.int i u)) := by with_unfolding_all rfl)
    (ht : ∀ r, letTemporaryGo value (.str (S wsl) t) r = pure () := by intro _; with_unfolding_all rfl) :
    wpAny (model PR w) A (subscriptTail value slice (.str (Str.ofString "\n\t\r ") t) (.int i u)) Q E s := by
  rw [lit_ws]
  exact it_nat h0.1 (by show i < (4 : Nat); lia) (by decide) h hs ht
end
end
section
local macro_rules | `(tactic| walk_at "m updF") => `(tactic| first | (refine' UpdF.head ?a; (case a => walk_at "m all"; done)) | (refine' UpdF.tail ?a ?b; (case a => walk_at "m ne"); (case b => walk_at "m updF")))
theorem regk2 : True := by
  k_with "eval Name" => k_dflt (refine nameX_K (by assumption) (by assumption) (by exact topRead_of (by assumption)) (by k_is) ?_; k_whole)
  k_with "eval Name" => k_dflt (refine nameX_C (by assumption) (by exact rfl) (by k_mem) (by assumption) ?_; k_whole)
  k_with "eval Name" => k_dflt (refine nameX_L (by assumption) (by (first | assumption | exact rfl)) ?_; k_whole)
  k_with "eval Name" => k_dflt (refine nameX_F (by assumption) (by exact rfl) (by k_mem) (by assumption) ?_; k_whole)
  k_with "storeName" => (refine storeX_L (by assumption) (by assumption) ?_; k_whole; walk_at "i3")
  k_with "m enterC" => (
    case k1 => k_is
    case k2 => k_is
    case k3 => exact rfl
    case k4 => exact rfl
    case k5 => decide
    case c1 => exact rfl
    case c2 => exact rfl
    case c3 => exact rfl
    k_whole)
  trivial
def LamOk (w : World) (f sg : Addr) (lo : Obj) (rest : List (Addr × Obj)) : Prop := ∀ vs n t (rem : List Nat), Sg vs rem.reverse → rem.length ≤ 100000 → Spec w 3 (.ref f) [.int 1 t] ((sg, listOf vs.toArray n) :: (f, lo) :: rest)
    (fun v H' => ∃ vs' n' tk, v = .str (S (rem.take 1)) tk ∧ Sg vs' rem.tail.reverse ∧ H' = (sg, listOf vs'.toArray n') :: (f, lo) :: rest)
theorem split_lo {P h : Heap} {L f : Addr} {lo : Obj} {rest : List (Addr × Obj)} (N : News P L h ((f, lo) :: rest)) (C : Obj → Prop) (hC : C lo) : ∃ lo, News P L h ((f, lo) :: rest) ∧ C lo := ⟨_, N, hC⟩
abbrev ltab (c' : Addr) : Array Value := #[] ++ #[rawInt ((96 : Nat) : Int), rawInt ((18 : Nat) : Int), .ref c']
abbrev lqual : Str := (("_law_lexer" : Str) ++ ".<locals>.") ++ "<lambda>"
/-- a new lexer -/
def LexNew (w : World) (sg : Addr) (vs : List Value) (c' : Addr) (oc : Obj) (v : Value) (H' : List (Addr × Obj)) : Prop :=
  ∃ a t1 e2 e3 cell co, v = .ref a.x ∧ a.sg = sg ∧ H' = (72, tabObj (ltab c')) :: lexH w a 1 t1 vs e2 [] e3 ∧ LexOk w a ∧ a.rest = [(cell, co), (c', oc)] ∧ ∃ v0, co.data = .cell v0
theorem lexer_s1 {sg : Addr} {vs : List Value} {e : Nat} (hsg : sg ≠ 72) : Spec w 8 (.ref 77) [.ref sg] [(72, tabObj #[]), (sg, listOf vs.toArray e)] (fun v H' => ∃ c' oc vs1 tq, oc.data = .fields vs1 ∧ vs1[1]? = some (.str lqual tq) ∧ c' ≠ 72 ∧ LexNew w sg vs c' oc v H') := by
  walk_at "m fill"
  refine' spec_defC [("signs", .ref sg)] ?k1 ?k2 ?k3 ?k4 ?k5 ?k6 ?c1 ?c2 ?c3
  walk_at "m enterC"
  intro A P L s z cells p loose mean mg mb r G lz X T F N CA hL K0 hK0
  obtain ⟨co, rfl, hco⟩ := CellsAre.one CA
  (try k_fold)
  walk_at "m go"
  refine ⟨call_spec (H := []) new_s (Rm.le (by assumption) (Nat.le_of_ble_eq_true rfl)) G (by assumption) (by assumption) (fun p hp => hp) (fun _ _ _ hq => nomatch hq) (by walk_at "LK") ?_⟩
  rintro v H' s₂ ⟨x, dx, pb, k1, k2, k3, k4, t1, t3, e', rfl, rfl, n1, n2, n3⟩ l₂ F₂ N₂ ap
  k_sweep
  simp only [List.append, List.cons_append, List.nil_append, List.forall_mem_cons, List.not_mem_nil, false_implies, implies_true, and_true] at N₂ ap
  obtain ⟨⟨p1, p2, p3⟩, ⟨p4, p5, p6⟩, ⟨p7, p8, p9⟩⟩ := ap
  simp only [List.forall_mem_cons, List.not_mem_nil, false_implies, implies_true, and_true] at hL
  have c1 : L + 1 ≠ 72 := Nat.ne_of_gt (Nat.lt_succ_of_lt hL.1)
  have c2 : L + 1 ≠ sg := Nat.ne_of_gt (Nat.lt_succ_of_lt hL.2)
  walk_at "m go"
  rename_i h' F' N'
  refine' kla_eval ?d0 ?_
  case d0 => exact rfl
  refine' kla_nest ?yF ?yN ?yT ?yC ?ycd ?yU ?yt ?yn ?ycl ?_
  case yF => assumption
  case yN => assumption
  case yT => assumption
  case yC => exact G.C
  case ycd => exact rfl
  case yU => walk_at "m updF"
  case yt => kn_triples
  case yn => kn_among
  case ycl => exact rfl
  intro f c' oc' vs' t' ct' h' tk' F' N' d1' d2' l1 l2
  dsimp only at N'
  simp only [List.forall_mem_cons, List.not_mem_nil, false_implies, implies_true, and_true] at l1
  obtain ⟨q1, q2, q3, q4, q5, q6⟩ := l1
  have u1 := Nat.ne_of_gt q1
  have v1 := Nat.ne_of_gt (Nat.lt_trans q1 l2)
  have u2 := Nat.ne_of_gt q2
  have v2 := Nat.ne_of_gt (Nat.lt_trans q2 l2)
  have u3 := Nat.ne_of_gt q3
  have v3 := Nat.ne_of_gt (Nat.lt_trans q3 l2)
  have u4 := Nat.ne_of_gt q4
  have v4 := Nat.ne_of_gt (Nat.lt_trans q4 l2)
  have u5 := Nat.ne_of_gt q5
  have v5 := Nat.ne_of_gt (Nat.lt_trans q5 l2)
  have u6 := Nat.ne_of_gt q6
  have v6 := Nat.ne_of_gt (Nat.lt_trans q6 l2)
  have key := split_lo N' (fun lo => LamOk w f sg lo [(L + 1, co), (c', oc')] ∧ ∃ oc od sl lf, lo = ⟨oc, od, .func lf, sl⟩) (by
    refine ⟨?_, _, _, _, _, rfl⟩
    intro vs n t rem hs hr
    refine spec_lam [("size", .int 1 t)] (.tail _ (.head _)) (.tail _ (.tail _ (.tail _ (.head _)))) d1' d2' rfl (locs rfl) ?_
    clear r lz X T F' N' G h'
    simp only [bindC] at hco
    intro A P L s z p loose mean mg mb r G lz X T F N
    (try k_fold)
    cases rem with
    | nil =>
      cases hs
      walk_at "m go"
      exact ⟨⟨[], n, _, by rw [lit_e]; rfl, .nil, rfl⟩⟩
    | cons c rr =>
      rw [List.reverse_cons] at hs
      obtain ⟨vs', t', rfl, hs'⟩ := hs.snoc
      have hl := hs'.length
      simp only [List.length_reverse, List.length_cons] at hl hr
      walk_at "m go"
      · exact ⟨⟨vs', _, _, rfl, hs', rfl⟩⟩
      · rename_i hc
        simp at hc)
  clear N'
  obtain ⟨lo, N', LAM, oc9, od9, sl9, lf, hlo⟩ := key
  have u7 := Nat.ne_of_gt l2
  walk_at "m go"
  refine ⟨call_spec (H := []) new_s (Rm.le (by assumption) (Nat.le_of_ble_eq_true rfl)) G (by assumption) (by assumption) (fun p hp => hp) (fun _ _ _ hq => nomatch hq) (by walk_at "LK") ?_⟩
  rintro v H' s₂ ⟨x2, dx2, pb2, k5, k6, k7, k8, t5, t6, e2, rfl, rfl, n4, n5, n6⟩ l₂ F₂ N₂ ap
  k_sweep
  simp only [List.append, List.cons_append, List.nil_append, List.forall_mem_cons, List.not_mem_nil, false_implies, implies_true, and_true] at N₂ ap
  obtain ⟨⟨b1, b2, b3, b4, b5, b6, b7, b8⟩, ⟨b9, b10, b11, b12, b13, b14, b15, b16⟩, ⟨b17, b18, b19, b20, b21, b22, b23, b24⟩⟩ := ap
  have hrs : RetSub := ⟨⟩
  walk_at "m go"
  refine ⟨⟨_, (Sub.consm (.tail _ (.tail _ (.tail _ (.tail _ (.tail _ (.tail _ (.tail _ (.tail _ (.tail _ (.head _)))))))))) (Sub.consm (.tail _ (.tail _ (.head _))) (Sub.consm (.tail _ (.tail _ (.tail _ (.tail _ (.tail _ (.tail _ (.tail _ (.tail _ (.tail _ (.tail _ (.head _))))))))))) (Sub.consm (.head _) (Sub.consm (.tail _ (.head _)) (Sub.consm (.tail _ (.tail _ (.tail _ (.tail _ (.tail _ (.tail _ (.head _))))))) (Sub.consm (.tail _ (.tail _ (.tail _ (.tail _ (.tail _ (.tail _ (.tail _ (.head _)))))))) (Sub.consm (.tail _ (.tail _ (.tail _ (.head _)))) (Sub.consm (.tail _ (.tail _ (.tail _ (.tail _ (.tail _ (.tail _ (.tail _ (.tail _ (.head _))))))))) (Sub.consm (.tail _ (.tail _ (.tail _ (.tail _ (.head _))))) Sub.nil)))))))))), c', oc', vs', t', d1', d2', u5, ⟨x2, dx2, x, dx, f, sg, pb2, k5, k6, k7, k8, t6, _, 5, lo, lf, [(L + 1, co), (c', oc')]⟩, t5, e, e2, L + 1, co, rfl, rfl, rfl, ⟨LAM, ⟨_, _, _, hlo⟩, ?_, ?_⟩, rfl, _, hco⟩⟩
  · exact rfl
  · refine ⟨⟨b24, n6, n4.symm, b20, b21, b17⟩, ⟨b8.symm, b16.symm, p6.symm, p9.symm, v6.symm⟩, ⟨n5.symm, b4, b5, b1⟩, ⟨b9, v2.symm, v3.symm⟩, ?_⟩
    intro p hp
    simp only [List.mem_cons, List.not_mem_nil, or_false] at hp
    rcases hp with rfl | rfl
    · exact ⟨b22.symm, c2, b6.symm, b14.symm, p4.symm, p7.symm⟩
    · exact ⟨b18.symm, u6, b2.symm, b10.symm, u2, u3⟩
end
section
open PySem PySem.W PySem.Calls PyProof.Rows
def SpecK (w : World) (d : Nat) (f : Value) (args : List Value) (K : Heap → Prop) (H : List (Addr × Obj)) (Q : Post) : Prop :=
  ∀ A P s, Rm A d → Gd w P → K P → (∀ b o, P.get? b = some o → s.heap.get? b = some o) → P.objs.size ≤ s.heap.objs.size → Led P s.heap H →
    codeAny (model PR w) A (.call f ⟨args, []⟩) (Out P s Q) s
theorem spec_defKC {d : Nat} {K : Heap → Prop} {H : List (Addr × Obj)} {Q : Post} {name qual : Str} {params : Arguments} {body : List Stmt} {scope : Scope} {dV kV doc pm cdv ct oc : Value} {an od : Option Addr} {osl : Array (Option Value)} {f : Addr} {args : List Value} (binds : List (Str × Value))
    (ho : (hk.heap_1 w.params).lookup f = some ⟨oc, od, .func (fnOf name qual params body scope dV kV doc pm an cdv ct), osl⟩) (hcd : codeIn (hk.heap_1 w.params) cdv qual = true)
    (hbind : bindArgs (fnOf name qual params body scope dV kV doc pm an cdv ct) ⟨args, []⟩ = pure binds)
    (hkind : (binds.all fun y => scope.names.lookup y.1 == some .local || scope.names.lookup y.1 == some .cell) = true)
    (hnd : ((cellsFrom 0 scope.names []).map (·.1)).Nodup)
    (h : ∀ A P L s s₁ cells p loose mean mg mb, Rm A d → Gd w P → K P → Like s₁ s → (hk.heap_1 w.params).In P → Top p loose mean mg mb P → Fr P L s.heap (bindL (envOfC qual scope L f cdv).kindOf binds fun _ => none) → News P L s.heap (cells ++ H) →
      CellsAre (bindC (envOfC qual scope L f cdv).kindOf binds fun _ => none) (cellsFrom (L + 1) scope.names []) cells → (∀ p ∈ H, p.1 < L) → ∀ K₉, Imp2 (fun fl s' => Ret P L s₁ Q (match fl with | .ret v => v | _ => .none) s') K₉ →
      wpAny (model PR w) A (execs body (envOfC qual scope L f cdv)) K₉ (fun _ _ => False) s)
    (hco : scope.isCoroutine = false := by rfl) (hgen : scope.isGenerator = false := by rfl) (hk : scope.kind = .function := by rfl) : SpecK w (d + 1) (.ref f) args K H Q := by
  intro A P s r G kp k hs L
  obtain ⟨X, ⟨p, l, me, mg, mb, T⟩, _⟩ := id G
  refine codeAny_call_function (fd := fnOf name qual params body scope dV kV doc pm an cdv ct) r.room (k _ _ (X _ _ ho)) rfl hco hgen rfl (codeRec_of (X.keeps k) hcd) ((BindsTo.of_eq hbind : BindsTo s _ _ _) _ _ _ _ ?_)
  refine wpAny_newFunctionEnv_cells hk (kindsX hkind _) fun env' he s' x => ?_
  subst he
  refine ⟨(T.nolimit.keeps k).keeps x.toInCall.keep, codeAny_func ?_⟩
  obtain ⟨h₁, tk, rfl, _⟩ := x.done
  have hk₁ := x.toInCall.keep
  obtain ⟨cells, NC, Y⟩ := Cl.news (h₀ := s.heap) (Nat.le_refl _) fun n c hm => ⟨x.cell n c (lookup_of_mem_nodup (cellsFrom_names scope.names 0 (s.heap.objs.size + 1) [] [] rfl ▸ hnd) hm), x.above n c hm⟩
  refine wpAny_mono (h (A.deeper (envOfC qual scope s.heap.objs.size f cdv)) P s.heap.objs.size { s with heap := h₁, toks := tk } s cells p l me mg mb r.deeper G kp Like.mk' X T ⟨x.toInCall.ns, fun b o e => hk₁ b o (k b o e), hs⟩ (fun p hp => ?_) Y (fun p hp => Heap.lt_size (L p hp).1) _ (fun _ _ x => x)) (fun fl s' hl => ?_) fun _ _ e => e.elim
  · rcases List.mem_append.mp hp with hp | hp
    · refine ⟨(NC p hp).1, (NC p hp).2.1, ?_⟩
      cases q : P.get? p.1 with
      | none => rfl
      | some o => have := k _ _ q; rw [(NC p hp).2.2] at this; cases this
    · exact ⟨hk₁ _ _ (L p hp).1, Nat.ne_of_lt (Heap.lt_size (L p hp).1), (L p hp).2⟩
  · obtain ⟨m', H', e, F', N', q⟩ := hl
    exact ⟨_, H', rfl, e, F'.keep, fun q hq => ⟨(N' q hq).1, (N' q hq).2.2⟩, q⟩
section
variable {A : Around} {P : Heap} {s : Shared} {env : Env} {x : Str} {px : Pos} {body : List Stmt} {m : Str → Option Value} {H : List (Addr × Obj)} {L D : Addr} {vs : List Value} {n : Nat}
theorem pick_to (vs : List Value) {j : Int} (hj : 0 ≤ j) : slicePick vs.toArray none (some j) none = (vs.take j.toNat).toArray := by
  have ey : j = (j.toNat : Int) := by lia
  have e2 := slicePick_upto' vs.toArray j.toNat
  rw [← ey] at e2
  rw [e2]
  try simp
theorem ll_to {value slice : Expr} {l : Addr} {j : Int} {uj : Tok} {E : Value → Shared → Prop} {Q : Value → Shared → Prop} (hl : s.heap.IsList l vs.toArray) (hj : 0 ≤ j) (hz : vs.length ≤ 100000) (F : Fr P L s.heap m) (N : News P L s.heap H)
    (h : ∀ R h', Fr P L h' m → News P L h' ((R, listOf (vs.take j.toNat).toArray 0) :: H) → (∀ p ∈ H, p.1 < R) → Q (.ref R) { s with heap := h' })
    (hs : subscripted slice false (.ref l) (.ref s.heap.objs.size) = operate [.ref s.heap.objs.size, .ref l] (getItem (.ref l) (.ref s.heap.objs.size)) := by with_unfolding_all rfl)
    :
    wpAny (model PR w) A (subscriptTail value slice (.ref l) (.ref s.heap.objs.size)) Q E { s with heap := s.heap.push { cls := .type "slice", data := .fields #[.none, .int j uj, .none] } } := by
  refine kba_turn (value' := PySem.Expr.Name (PySem.Str.ofString "_") ⟨0, 0, 0, 0⟩) (fun _ => rfl) ?_
  refine slice_list F N hl .none (.int j uj) (fun h' F' N' => ?_) hs (fun _ => rfl) (by rw [sizeLine_eq]; simp; lia)
  rw [pick_to vs hj] at N'
  exact h _ h' F' N' fun p hp => Nat.lt_succ_of_lt (Heap.lt_size (N p hp).1)
end
end
section
open PySem PySem.W PySem.Calls PyProof.Rows
/-- a lexer's own part of the ledger -/
def lexO (w : World) (a : LexA) (line : Int) (t1 : Tok) (vs : List Value) (e2 : Nat) (pv : List Value) (e3 : Nat) : List (Addr × Obj) :=
  (a.dx, lexD w a line t1) :: (a.sg, listOf vs.toArray e2) :: (a.pb, listOf pv.toArray e3) :: (a.x, instObj 52 a.dx) :: (a.st, instObj 52 a.sd) :: (a.sd, dictOf a.sde a.sn) :: (a.lam, a.lo) :: a.rest.take 1
def lexAo (a : LexA) : List Addr := a.dx :: a.sg :: a.pb :: a.x :: a.st :: a.sd :: a.lam :: (a.rest.take 1).map (·.1)
theorem lexH_eq {a : LexA} {line : Int} {t1 : Tok} {vs : List Value} {e2 : Nat} {pv : List Value} {e3 : Nat} {p q : Addr × Obj} (h : a.rest = [p, q]) : lexH w a line t1 vs e2 pv e3 = lexO w a line t1 vs e2 pv e3 ++ [q] := by
  unfold lexH lexO
  rw [h]
  rfl
/-- two lexers that share a code object -/
structure Two (w : World) (a1 a2 : LexA) (c' : Addr) (oc : Obj) : Prop where
  ok1 : LexOk w a1
  ok2 : LexOk w a2
  r1 : ∃ p, a1.rest = [p, (c', oc)]
  r2 : ∃ p, a2.rest = [p, (c', oc)]
  ap : ∀ x ∈ lexAo a1, ∀ y ∈ lexAo a2, x ≠ y
  c1 : c' ∉ lexAo a1
  c2 : c' ∉ lexAo a2
/-- apart from both lexers -/
def Yap (a1 a2 : LexA) (c' : Addr) (Y : List (Addr × Obj)) : Prop := ∀ p ∈ Y, p.1 ∉ lexAo a1 ∧ p.1 ∉ lexAo a2 ∧ p.1 ≠ c'
theorem Yap.app {a1 a2 : LexA} {c' : Addr} {X Y : List (Addr × Obj)} (h : Yap a1 a2 c' X) (k : Yap a1 a2 c' Y) : Yap a1 a2 c' (X ++ Y) := fun p hp => by
  rcases List.mem_append.mp hp with hp | hp
  · exact h p hp
  · exact k p hp
theorem Yap.sub {a1 a2 : LexA} {c' : Addr} {X Y : List (Addr × Obj)} (h : Yap a1 a2 c' Y) (k : Sub X Y) : Yap a1 a2 c' X := fun p hp => h p (k p hp)
theorem Yap.one {a1 a2 : LexA} {c' : Addr} {a : Addr} {o o' : Obj} (h : Yap a1 a2 c' [(a, o)]) : Yap a1 a2 c' [(a, o')] := fun p hp => by
  rw [List.mem_singleton.mp hp]; exact h (a, o) (.head _)
/-- what stands: the two lexers, the code, and the rest -/
abbrev TwoH (w : World) (a1 a2 : LexA) (c' : Addr) (oc : Obj) (l1 : Int) (t1 : Tok) (v1 : List Value) (e1 : Nat) (p1 : List Value) (f1 : Nat) (l2 : Int) (t2 : Tok) (v2 : List Value) (e2 : Nat) (p2 : List Value) (f2 : Nat) (Y : List (Addr × Obj)) : List (Addr × Obj) :=
  lexO w a1 l1 t1 v1 e1 p1 f1 ++ (lexO w a2 l2 t2 v2 e2 p2 f2 ++ ((c', oc) :: Y))
section
variable {d : Nat} {A : Around} {P : Heap} {L : Addr} {s z : Shared} {m : Str → Option Value} {f : Value} {args : List Value} {Q : Post} {Qv : Value → Shared → Prop} {E : Value → Shared → Prop} {a1 a2 : LexA} {c' : Addr} {oc : Obj} {l1 : Int} {t1 : Tok} {v1 : List Value} {e1 : Nat} {p1 : List Value} {f1 : Nat} {l2 : Int} {t2 : Tok} {v2 : List Value} {e2 : Nat} {p2 : List Value} {f2 : Nat} {X Y : List (Addr × Obj)}
end
theorem News.ne_data {P h : Heap} {L : Addr} {H : List (Addr × Obj)} (N : News P L h H) {a b : Addr} {o o' : Obj} (ha : (a, o) ∈ H) (hb : (b, o') ∈ H) (hd : o.data ≠ o'.data) : a ≠ b := fun e => by
  have h1 := (N _ ha).1
  have h2 := (N _ hb).1
  dsimp only at h1 h2
  rw [e, h2] at h1
  cases h1
  exact hd rfl
/-- apart from a lexer by what is held -/
theorem lex_data {P h : Heap} {L : Addr} {H : List (Addr × Obj)} (N : News P L h H) {a : LexA} {line : Int} {t1 : Tok} {vs : List Value} {e2 : Nat} {pv : List Value} {e3 : Nat} {c b : Addr} {co oc o : Obj} {vs1 : Array Value} {v0 : Option Value} (ok : LexOk w a) (hr : a.rest = [(c, co), (b, oc)]) (hco : co.data = .cell v0)
    (hs : Sub (lexO w a line t1 vs e2 pv e3) H) {x : Addr} (hx : (x, o) ∈ H) (ho : o.data = .fields vs1) : x ∉ lexAo a := by
  obtain ⟨oc1, od, sl, hlo⟩ := ok.lf
  intro hm
  obtain ⟨p, hp, e⟩ := List.mem_map.mp (show x ∈ (lexO w a line t1 vs e2 pv e3).map (·.1) from hm)
  refine News.ne_data N (a := p.1) (o := p.2) (hs p hp) hx ?_ e
  rw [ho]
  unfold lexO at hp
  rw [hr] at hp
  simp only [List.take_succ_cons, List.take_zero, List.mem_cons, List.not_mem_nil, or_false] at hp
  rcases hp with rfl | rfl | rfl | rfl | rfl | rfl | rfl | rfl
  · intro h; cases h
  · intro h; cases h
  · intro h; cases h
  · intro h; cases h
  · intro h; cases h
  · intro h; cases h
  · rw [hlo]; intro h; cases h
  · rw [hco]; intro h; cases h
section
variable {A : Around} {E : Value → Shared → Prop} {P : Heap} {L : Addr} {s : Shared} {m : Str → Option Value} {H : List (Addr × Obj)} {D : Addr} {vs : List Value} {n : Nat}
theorem ll_last {value slice : Expr} {Q : Value → Shared → Prop} {t : Tok} {x : Value} (N : News P L s.heap H) (hm : (D, listOf vs.toArray n) ∈ H) (h0 : vs.length ≠ 0) (hx : vs[vs.length - 1]? = some x) (h : Q x s)
    (hs : subscripted slice false (.ref D) (.int (-1) t) = operate [.ref D, .int (-1) t] (getItem (.ref D) (.int (-1) t)) := by with_unfolding_all rfl) :
    wpAny (model PR w) A (subscriptTail value slice (.ref D) (.int (-1) t)) Q E s := by
  have e : vs.toArray.size = vs.length := by simp
  refine tail_any (News.isList N hm).typeIs slot_list_getitem.lookup (wpAny_getItem_list_neg (News.isList N hm) (by decide) (by rw [e]; lia) (by decide) ?_ h) hs
  rw [e, show (-1 + (vs.length : Int)).toNat = vs.length - 1 by lia]
  simpa using hx
theorem sg_signs : ∀ (x : List Nat) {vs : List Value}, CarriedAll vs ((x.map fun c => (⟨#[c]⟩ : Str)).map PyData.str) → Sg vs x
  | [], _, .nil => .nil
  | c :: x, _, .cons (.str _ t) r => .cons c t (sg_signs x r)
/-- list(text) -/
theorem list_S {Q : Value → Shared → Prop} {x : List Nat} {t : Tok} {z : Shared} (lk : Like z s) (hh : A.handled = none) (F : Fr P L s.heap m) (N : News P L s.heap H) (hx : x.length ≤ 100000)
    (h : ∀ R vs c s', Like z s' → Sg vs x → Fr P L s'.heap m → News P L s'.heap ((R, listOf vs.toArray c) :: H) → (∀ p ∈ H, p.1 < R) → Q (.ref R) s') : wpAny (model PR w) A (call (.type "list") [.str (S x) t]) Q E s := by
  refine list_strD hh F N (fun h' tk ys F' N' hk hn0 hl np ca => ?_) (by rw [sizeLine_eq]; simp [S, Str.length]; lia)
  obtain ⟨c, ho⟩ := np.1
  refine h s.heap.objs.size ys c { s with heap := h', toks := tk } (lk.trans Like.mk') (sg_signs x ?_) F' (fun p hp => ?_) (fun p hp => Heap.lt_size (N p hp).1)
  · have e : signs (S x) = x.map fun c => (⟨#[c]⟩ : Str) := by simp [signs, S]
    rw [e] at ca
    exact ca
  · rcases List.mem_cons.mp hp with rfl | hp
    · exact ⟨ho, np.ne_locals F', hn0⟩
    · exact N' p hp
theorem comp_ld {scope : Scope} {cl : List (Str × Addr)} {C : Addr} {env : Env} {x : Str} {pos : Pos} {v : Value} {Q : Value → Shared → Prop} (F : Fr P C s.heap m) (hv : m x = some v) (h : Q v s) (hk : (compEnvC scope cl C env).scope.kind = .function := by rfl)
    (hl : (compEnvC scope cl C env).kindOf x = some .local := by rfl) (hd : (x == ("__debug__" : Str)) = false := by decide) : wpAny (model PR w) A (eval (.Name x pos) (compEnvC scope cl C env)) Q E s := wpAny_Name (wpAny_loadName_local hk hl F.ns hv h) hd
theorem comp_cl {scope : Scope} {cl : List (Str × Addr)} {C c : Addr} {co : Obj} {env : Env} {x : Str} {pos : Pos} {v : Value} {Q : Value → Shared → Prop} (N : News P C s.heap H) (hc : (compEnvC scope cl C env).cells.lookup x = some c) (hm : (c, co) ∈ H) (hv : co.data = .cell (some v)) (h : Q v s) (hk : (compEnvC scope cl C env).scope.kind = .function := by rfl)
    (hl : (compEnvC scope cl C env).kindOf x = some .cell := by rfl) (hd : (x == ("__debug__" : Str)) = false := by decide) : wpAny (model PR w) A (eval (.Name x pos) (compEnvC scope cl C env)) Q E s := wpAny_Name (wpAny_loadName_cell hk hl hc ⟨co, News.get N hm, hv⟩ h) hd
end
section
variable {A : Around} {E : Value → Shared → Prop} {P : Heap} {L : Addr} {s : Shared} {m : Str → Option Value} {a1 a2 : LexA} {c' : Addr} {oc : Obj} {l1 : Int} {t1 : Tok} {v1 : List Value} {e1 : Nat} {p1 : List Value} {f1 : Nat} {l2 : Int} {t2 : Tok} {v2 : List Value} {e2 : Nat} {p2 : List Value} {f2 : Nat} {X Y : List (Addr × Obj)}
theorem tup_sub {value slice : Expr} {D : Addr} {vs : List Value} {H : List (Addr × Obj)} {Q : Value → Shared → Prop} {k : Int} {t : Tok} {x : Value} (N : News P L s.heap H) (hm : (D, tupOf vs) ∈ H) (h0 : 0 ≤ k ∧ k < 1000) (hx : vs[k.toNat]? = some x) (h : Q x s)
    (hs : subscripted slice false (.ref D) (.int k t) = operate [.ref D, .int k t] (getItem (.ref D) (.int k t)) := by with_unfolding_all rfl) :
    wpAny (model PR w) A (subscriptTail value slice (.ref D) (.int k t)) Q E s := by
  have hT : IsTup s.heap D vs.toArray := News.isTup N hm
  have hlt := (List.getElem?_eq_some_iff.mp hx).1
  refine tail_any hT.typeIs slot_tuple_getitem.lookup (getItem_tuple hT (by lia) (by lia) (j := k.toNat) (seqIndex_of h0.1 ?_) (by simpa using hx) h) hs
  simp only [List.size_toArray]
  lia
/-- tuples of a word, a row and a place -/
inductive TupAre : List (Addr × Obj) → List (List Nat × Int × Int) → Prop where
  | nil : TupAre [] []
  | cons (q : Addr) (u : List Nat) (i j : Int) (b1 b2 b3 : Tok) {Q : List (Addr × Obj)} {ds : List (List Nat × Int × Int)} : TupAre Q ds → TupAre ((q, tupOf [.str (S u) b1, .int i b2, .int j b3]) :: Q) ((u, i, j) :: ds)
theorem TupAre.length {Q : List (Addr × Obj)} {ds : List (List Nat × Int × Int)} (h : TupAre Q ds) : Q.length = ds.length := by
  induction h with
  | nil => rfl
  | cons _ _ _ _ _ _ _ _ ih => simp [ih]
theorem TupAre.append {Q R : List (Addr × Obj)} {ds es : List (List Nat × Int × Int)} (h : TupAre Q ds) (k : TupAre R es) : TupAre (Q ++ R) (ds ++ es) := by
  induction h with
  | nil => exact k
  | cons q u i j b1 b2 b3 _ ih => exact .cons q u i j b1 b2 b3 ih
def triD (d : List Nat × Int × Int) : PyData := .tuple [.str (S d.1), .int d.2.1, .int d.2.2]
theorem TupAre.reads {h : Heap} {Q H : List (Addr × Obj)} {ds : List (List Nat × Int × Int)} (k : TupAre Q ds) (N : News P L h H) (hs : Sub Q H) : ∃ as, ReadsAll h (Q.map fun p => Value.ref p.1) (ds.map triD) as := by
  induction k with
  | nil => exact ⟨_, .nil⟩
  | cons q u i j b1 b2 b3 _ ih =>
    obtain ⟨as, ra⟩ := ih fun p hp => hs p (.tail _ hp)
    exact ⟨_, .cons (reads_tuple_at (N _ (hs _ (.head _))).1 rfl rfl (.cons (.str _ _) (.cons (.int _ _) (.cons (.int _ _) .nil)))) ra⟩
theorem tri_eqv : ∀ ds : List (List Nat × Int × Int), PyData.eqvAll (ds.map triD) (ds.map triD) = true
  | [] => by simp [PyData.eqvAll]
  | d :: ds => by simp [PyData.eqvAll, PyData.eqv, triD, tri_eqv ds]
theorem tri_lay : ∀ ds : List (List Nat × Int × Int), (∀ d ∈ ds, PyData.strOk (S d.1) = true) → PyData.canLayAll0 (ds.map triD) = true ∧ PyData.depthAll (ds.map triD) ≤ 1
  | [], _ => by simp [PyData.canLayAll0, PyData.depthAll]
  | d :: ds, h => by
    obtain ⟨a, b⟩ := tri_lay ds fun x hx => h x (.tail _ hx)
    simp [PyData.canLayAll0, PyData.canLay0, PyData.depthAll, PyData.depth, triD, a, h d (.head _)]
    lia
theorem tri_shaped (ds : List (List Nat × Int × Int)) (h : ∀ d ∈ ds, PyData.strOk (S d.1) = true) : SeqAt.shaped (.list (ds.map triD)) = true := by
  obtain ⟨a, b⟩ := tri_lay ds h
  simp [SeqAt.shaped, PyData.canLay0, PyData.depth, a]
  lia
/-- two lists of like tuples -/
theorem ne_told {D K : Addr} {n1 n2 : Nat} {Q R H : List (Addr × Obj)} {ds : List (List Nat × Int × Int)} {Qv : Value → Shared → Prop} (N : News P L s.heap H) (hD : (D, listOf (Q.map fun p => Value.ref p.1).toArray n1) ∈ H) (hK : (K, listOf (R.map fun p => Value.ref p.1).toArray n2) ∈ H)
    (hQ : TupAre Q ds) (hR : TupAre R ds) (sQ : Sub Q H) (sR : Sub R H) (hok : ∀ d ∈ ds, PyData.strOk (S d.1) = true) (hu : A.units + 64 < cLine) (h : Qv (.bool false) s) : wpAny (model PR w) A (compareOp .NotEq (.ref D) (.ref K)) Qv E s := by
  obtain ⟨as, ra⟩ := hQ.reads N sQ
  obtain ⟨bs, rb⟩ := hR.reads N sR
  refine ne_dataH (reads_list_at (News.get N hD) rfl rfl (by simpa using ra)) (reads_list_at (News.get N hK) rfl rfl (by simpa using rb)) (tri_shaped ds hok) (tri_shaped ds hok) hu ?_
  have e : PyData.eqv (.list (ds.map triD)) (.list (ds.map triD)) = true := by rw [PyData.eqv]; exact tri_eqv ds
  rw [e]
  exact h
end
/-- what the frame holds behind both files -/
structure Com7 (l R R' : Addr) (w0 w1 T1 T2 : List Nat) (a0 a1 tk tk' : Tok) (m : Str → Option Value) : Prop where
  script : m "script" = some (.ref l)
  u : m "u" = some (.str (S w0) a0)
  v : m "v" = some (.str (S w1) a1)
  one : m "one" = some (.str (S T1) tk)
  oneDue : m "one_due" = some (.ref R)
  two : m "two" = some (.str (S T2) tk')
  twoDue : m "two_due" = some (.ref R')
/-- what the frame holds behind the lexers -/
structure Com (x1 x2 : LexA) (l R R' : Addr) (w0 w1 T1 T2 : List Nat) (a0 a1 tk tk' : Tok) (m : Str → Option Value) : Prop where
  script : m "script" = some (.ref l)
  u : m "u" = some (.str (S w0) a0)
  v : m "v" = some (.str (S w1) a1)
  one : m "one" = some (.str (S T1) tk)
  oneDue : m "one_due" = some (.ref R)
  two : m "two" = some (.str (S T2) tk')
  twoDue : m "two_due" = some (.ref R')
  ones : m "ones" = some (.ref x1.sg)
  twos : m "twos" = some (.ref x2.sg)
  first : m "first" = some (.ref x1.x)
  second : m "second" = some (.ref x2.x)
abbrev Obj0 : Obj := tupOf []
end
section
open PySem PySem.W PySem.Calls PyProof.Rows
section
variable {A : Around} {P : Heap} {s : Shared} {env : Env} {x : Str} {px : Pos} {m : Str → Option Value} {H : List (Addr × Obj)} {n : Nat}
/-- a list comprehension over any iterator just made, whatever comes of its list -/
theorem comp_gen {elt iter : Expr} {ifs : List Expr} {scope : Scope} {cl : List (Str × Addr)} {pos : Pos} {E : Value → Shared → Prop} {RR : Value → Addr → Result → Shared → Prop} {Pv : Nat → Value → Prop} {St : Nat → Heap → Prop} {o : Obj}
    (W : Walks PR w A s.heap.objs.size [s.heap.objs.size] [s.heap.objs.size] n Pv St) (live : ∀ i h, St i h → ∃ io, h.get? s.heap.objs.size = some io) (hfr : o.isFreed = false) (hst0 : ∀ h' : Heap, h'.get? s.heap.objs.size = some o → St 0 h')
    (hcell : ∀ y ∈ scope.names, y.2 ≠ .cell) (hkind : scope.kind = .function) (hx : scope.names.lookup x = some .local)
    {z : Shared} (hz : Like z s) (hn : n ≤ 100000) (F : Fr P env.locals s.heap m) (N : News P env.locals s.heap H)
    (J : Nat → List Value → List (Addr × Obj) → Prop) (hJl : ∀ i ys H, J i ys H → ys.length ≤ i) (h0 : J 0 [] H)
    (turn : ∀ i v ys C s₁ (m₁ : Str → Option Value) H₁ own, Like z s₁ → i < n → Pv i v → J i ys H₁ → Fr P C s₁.heap (fun y => if y = x then some v else m₁ y) → News P C s₁.heap (own ++ H₁) → (∀ p ∈ H₁, ∀ q ∈ own, p.1 ≠ q.1) →
      wpAny (model PR w) A (forIn ifs true fun c r => if r = true then do let ok ← isTrue c (compEnvC scope cl C env) (eval c (compEnvC scope cl C env)); pure (ForInStep.yield ok) else pure (ForInStep.yield r))
        (fun ok s₂ => if ok = true then wpAny (model PR w) A (eval elt (compEnvC scope cl C env)) (fun y s₃ => CompEnd P C z own (J (i + 1)) (ys ++ [y]) s₃) NoE s₂ else CompEnd P C z own (J (i + 1)) ys s₂) NoE s₁)
    (done : ∀ R C e ys H₁ (m' : Str → Option Value) s₁, Like z s₁ → J n ys H₁ → Fr P C s₁.heap m' → s₁.heap.Ns env.locals m → C ≠ env.locals → R ≠ env.locals → P.get? env.locals = none → News P C s₁.heap ((R, listOf ys.toArray e) :: H₁) → (∀ p ∈ H₁, p.1 ≠ R ∧ p.1 ≠ env.locals) → P.objs.size ≤ env.locals → RR (.ref R) C (.ok .next) s₁) :
    wpAny (model PR w) A (newList []) (fun acc s₃ => wpAny (model PR w) A (newFunctionEnv scope env.globals cl [] env.qual none .none (some env)) (fun cenv s₄ =>
      codeAny (model PR w) A (.compStart (.ListComp elt [⟨.Name x px, iter, ifs, 0⟩] scope pos) 0 (.ref s.heap.objs.size) acc { cenv with scope := relabel scope env }) (RR acc cenv.locals) s₄) E s₃) E { s with heap := s.heap.push o } := by
  generalize hI0 : s.heap.objs.size = I at W live hst0 ⊢
  have hLI : env.locals < I := by rw [← hI0]; exact F.ns.lt
  have hPI : P.objs.size ≤ I := Nat.le_trans F.above (Nat.le_of_lt hLI)
  have none_of : ∀ a, I ≤ a → P.get? a = none := fun a ha => Heap.get?_none_of_le (Nat.le_trans hPI ha)
  obtain ⟨oL, es, ep, hL, hLd, hLk, hLf⟩ := id F.ns
  refine wpAny_newObj_type (wpAny_newFunctionEnv hcell (by intro y hy; simp at hy) (fun h₁ hns₁ hsb₁ => ?_) hkind)
  dsimp only at hns₁ hsb₁ ⊢
  have hR1 : (s.heap.push o).objs.size = I + 1 := by rw [Heap.size_push, hI0]
  rw [hR1]
  have hC1 : ((s.heap.push o).push { cls := .type "list", dict := none, data := .seq ([] : List Value).toArray }).objs.size = I + 2 := by rw [Heap.size_push, hR1]
  rw [hC1] at hns₁ hsb₁ ⊢
  have old : ∀ b o, s.heap.get? b = some o → h₁.get? b = some o := fun b o e =>
    hsb₁.extBut b o (Nat.ne_of_lt (Nat.lt_trans (hI0 ▸ Heap.lt_size e) (by lia))) (Heap.get?_push_of_some _ (Heap.get?_push_of_some _ (Heap.get?_push_of_some _ e)))
  have hIo : h₁.get? I = some o :=
    hsb₁.extBut _ _ (Nat.ne_of_lt (by lia)) (Heap.get?_push_of_some _ (Heap.get?_push_of_some _ (by rw [← hI0]; exact Heap.get?_push_size _ hfr)))
  have hRo : h₁.get? (I + 1) = some (listOf ([] : List Value).toArray 0) :=
    hsb₁.extBut _ _ (Nat.ne_of_lt (by lia)) (Heap.get?_push_of_some _ (by rw [← hR1]; exact Heap.get?_push_size _ rfl))
  have FC : Fr P (I + 2) h₁ (fun y => ([] : List (Str × Value)).reverse.lookup y) := ⟨hns₁, fun b o e => old b o (F.keep b o e), Nat.le_trans hPI (by lia)⟩
  have NH : News P (I + 2) h₁ H := fun p hp => ⟨old _ _ (N p hp).1, Nat.ne_of_lt (Nat.lt_trans (hI0 ▸ Heap.lt_size (N p hp).1) (by lia)), (N p hp).2.2⟩
  have hLP : P.get? env.locals = none := Heap.get?_none_of_le F.above
  have apH : ∀ p ∈ H, p.1 ≠ I ∧ p.1 ≠ I + 1 ∧ p.1 ≠ env.locals := fun p hp => ⟨Nat.ne_of_lt (hI0 ▸ Heap.lt_size (N p hp).1), Nat.ne_of_lt (Nat.lt_trans (hI0 ▸ Heap.lt_size (N p hp).1) (by lia)), (N p hp).2.1⟩
  have hLC : env.locals ≠ I + 2 := Nat.ne_of_lt (Nat.lt_trans hLI (by lia))
  have hRL : (I + 1 : Addr) ≠ env.locals := Nat.ne_of_gt (Nat.lt_trans hLI (by lia))
  have hIL : I ≠ env.locals := Nat.ne_of_gt hLI
  have hIR : I ≠ I + 1 := Nat.ne_of_lt (by lia)
  have hIC : I ≠ I + 2 := Nat.ne_of_lt (by lia)
  have hRC : (I + 1 : Addr) ≠ I + 2 := Nat.ne_of_lt (by lia)
  have hkx : (compEnvC scope cl (I + 2) env).kindOf x = some .local := lookup_relabel_local hx
  have hp : ((compEnvC scope cl (I + 2) env).scope.kind == .class || ((compEnvC scope cl (I + 2) env).scope.kind == .module && (compEnvC scope cl (I + 2) env).locals != (compEnvC scope cl (I + 2) env).globals)) = false := by simp [compEnvC, relabel, hkind]
  have loop : ∀ s₃ : Shared, s₃.heap = h₁ → Like z s₃ →
      codeAny (model PR w) A (.compLoop (.ListComp elt [⟨.Name x px, iter, ifs, 0⟩] scope pos) 0 (.ref I) (.ref (I + 1)) (compEnvC scope cl (I + 2) env))
        (RR (.ref (I + 1)) (I + 2)) s₃ := by
    intro s₃ hs₃ lk₃
    refine codeAny_compLoop_tests
      (fun k s' => ∃ m' H' ys e i, Like z s' ∧ St i s'.heap ∧ Fr P (I + 2) s'.heap m' ∧ News P (I + 2) s'.heap H' ∧ (∀ p ∈ H', p.1 ≠ I ∧ p.1 ≠ I + 1 ∧ p.1 ≠ env.locals) ∧ s'.heap.get? (I + 1) = some (listOf ys.toArray e) ∧ s'.heap.get? env.locals = some oL ∧
        J i ys H' ∧ i ≤ n ∧ k = n + 1 - i) ?_ (n + 1)
      ⟨_, H, [], 0, 0, lk₃, hst0 _ (by rw [hs₃]; exact hIo), by rw [hs₃]; exact FC, by rw [hs₃]; exact NH, apH, by rw [hs₃]; exact hRo, by rw [hs₃]; exact old _ _ hL, h0, Nat.zero_le _, rfl⟩
    rintro k s' ⟨m', H', ys, e, i, lk, hst', F', N', ap', hR', hL', hJ, hi, rfl⟩
    by_cases hlt : i < n
    · refine W.item i _ _ _ hlt hst' fun v h₂ tk₂ hv hst₂ hk₂ => ?_
      have k2 : ∀ b o, b ≠ I → s'.heap.get? b = some o → h₂.get? b = some o := fun b o hb => hk₂ b o (by simpa using hb)
      refine wpAny_assign_Name (wpAny_storeName_local hkx (F'.ns.at' fun o e => k2 _ o (Ne.symm hIC) e) (fun h₃ hn₃ hs₃ => ?_) hp)
      have k3 : ∀ b o, b ≠ I → b ≠ I + 2 → s'.heap.get? b = some o → h₃.get? b = some o := fun b o hb hb2 e => (hs₃.2 b hb2).trans (k2 b o hb e)
      have hst₃ : St (i + 1) h₃ := W.frame _ _ _ hst₂ fun b hb o e => (hs₃.2 b (by
        simp at hb
        rw [hb]; exact hIC)).trans e
      obtain ⟨io, hio⟩ := live _ _ hst₃
      have keepP : ∀ b o, P.get? b = some o → h₃.get? b = some o := fun b o e => k3 b o (fun q => by rw [q, none_of I (Nat.le_refl _)] at e; cases e) (fun q => by rw [q, none_of _ (by lia)] at e; cases e) (F'.keep b o e)
      have F₃ : Fr P (I + 2) h₃ (fun y => if y = x then some v else m' y) := ⟨hn₃, keepP, F'.above⟩
      have N₃ : News P (I + 2) h₃ ([(I, io), (I + 1, listOf ys.toArray e), (env.locals, oL)] ++ H') := by
        intro p hp
        simp only [List.cons_append, List.nil_append, List.mem_cons] at hp
        rcases hp with rfl | rfl | rfl | hp
        · exact ⟨hio, hIC, none_of _ (Nat.le_refl _)⟩
        · exact ⟨k3 _ _ (Ne.symm hIR) hRC hR', hRC, none_of _ (by lia)⟩
        · exact ⟨k3 _ _ (Ne.symm hIL) hLC hL', hLC, hLP⟩
        · exact ⟨k3 _ _ (ap' p hp).1 (N' p hp).2.1 (N' p hp).1, (N' p hp).2⟩
      have ap₃ : ∀ p ∈ H', ∀ q ∈ [(I, io), (I + 1, listOf ys.toArray e), (env.locals, oL)], p.1 ≠ q.1 := fun p hp q hq => by
        simp only [List.mem_cons, List.not_mem_nil, or_false] at hq
        rcases hq with rfl | rfl | rfl
        · exact (ap' p hp).1
        · exact (ap' p hp).2.1
        · exact (ap' p hp).2.2
      have fin : ∀ ys' s₅, CompEnd P (I + 2) z [(I, io), (I + 1, listOf ys.toArray e), (env.locals, oL)] (J (i + 1)) ys' s₅ → ∀ h₆ e', h₆.get? (I + 1) = some (listOf ys'.toArray e') → (∀ b, b ≠ I + 1 → h₆.get? b = s₅.heap.get? b) →
          ∃ k, k < n + 1 - i ∧ ∃ m' H' ys e i, Like z { s₅ with heap := h₆ } ∧ St i h₆ ∧ Fr P (I + 2) h₆ m' ∧ News P (I + 2) h₆ H' ∧ (∀ p ∈ H', p.1 ≠ I ∧ p.1 ≠ I + 1 ∧ p.1 ≠ env.locals) ∧ h₆.get? (I + 1) = some (listOf ys.toArray e) ∧ h₆.get? env.locals = some oL ∧
            J i ys H' ∧ i ≤ n ∧ k = n + 1 - i := by
        rintro ys' s₅ ⟨H₂, m₂, lk₂, F₂, N₂, ap₂, J₂⟩ h₆ e' hR₆ hk₆
        have n1 := (N₂ (I, io) (by simp)).1
        have n3 := (N₂ (env.locals, oL) (by simp)).1
        have nH : ∀ p ∈ H₂, p.1 ≠ I ∧ p.1 ≠ I + 1 ∧ p.1 ≠ env.locals := fun p hp => ⟨ap₂ p hp (I, io) (by simp), ap₂ p hp (I + 1, listOf ys.toArray e) (by simp), ap₂ p hp (env.locals, oL) (by simp)⟩
        refine ⟨n + 1 - (i + 1), by lia, m₂, H₂, ys', e', i + 1, lk₂.to, ?_, ⟨F₂.ns.at' fun o e => (hk₆ _ (Ne.symm hRC)).trans e, fun b o e => (hk₆ b (fun q => by rw [q, none_of _ (by lia)] at e; cases e)).trans (F₂.keep b o e), F₂.above⟩, fun p hp => ⟨(hk₆ _ (nH p hp).2.1).trans (N₂ p (by simp [hp])).1, (N₂ p (by simp [hp])).2⟩, nH, hR₆, (hk₆ _ (Ne.symm hRL)).trans n3, J₂, hlt, rfl⟩
        refine W.frame _ _ _ hst₃ fun b hb o e => ?_
        simp at hb
        subst hb
        rw [hio] at e; cases e
        exact (hk₆ _ hIR).trans n1
      refine wpAny_mono (turn i v ys (I + 2) { s' with heap := h₃, toks := tk₂ + 1 } m' H' [(I, io), (I + 1, listOf ys.toArray e), (env.locals, oL)] lk.to hlt hv hJ F₃ N₃ ap₃) (fun ok s₄ h₄ => ?_) fun _ _ e => e.elim
      cases ok with
      | false =>
        simp only [Bool.false_eq_true, if_false] at h₄ ⊢
        have hR4 : s₄.heap.get? (I + 1) = some (listOf ys.toArray e) := by obtain ⟨H₂, m₂, _, _, N₂, _⟩ := h₄; exact (N₂ (I + 1, listOf ys.toArray e) (by simp)).1
        obtain ⟨k, hk, r⟩ := fin ys s₄ h₄ s₄.heap e hR4 (fun _ _ => rfl)
        exact ⟨k, hk, r⟩
      | true =>
        simp only [if_true] at h₄ ⊢
        refine wpAny_mono h₄ (fun y s₅ h₅ => ?_) fun _ _ e => e.elim
        have hR5 : s₅.heap.get? (I + 1) = some (listOf ys.toArray e) := by obtain ⟨H₂, m₂, _, _, N₂, _⟩ := h₅; exact (N₂ (I + 1, listOf ys.toArray e) (by simp)).1
        have hyl := hJl i ys H' hJ
        refine wpAny_list_append_plain (l := I + 1) (items := ys.toArray) ⟨e, hR5⟩ (fun h₆ hp₆ hs₆ => ?_) (by rw [sizeLine_eq]; simp; lia)
        obtain ⟨e', he'⟩ := hp₆
        obtain ⟨k, hk, r⟩ := fin (ys ++ [y]) s₅ h₅ h₆ e' (by rw [he']; simp) (fun b hb => hs₆.2 b hb)
        exact ⟨k, hk, r⟩
    · have hin : i = n := by lia
      subst hin
      refine W.done _ _ _ hst' fun h₂ tk₂ hk₂ => ?_
      have k2 : ∀ b o, b ≠ I → s'.heap.get? b = some o → h₂.get? b = some o := fun b o hb => hk₂ b o (by simpa using hb)
      refine done (I + 1) (I + 2) e ys H' m' { s' with heap := h₂, toks := tk₂ } lk.to hJ ⟨F'.ns.at' fun o e => k2 _ o (Ne.symm hIC) e, fun b o e => k2 b o (fun q => by rw [q, none_of I (Nat.le_refl _)] at e; cases e) (F'.keep b o e), F'.above⟩
        ⟨oL, es, ep, k2 _ _ (Ne.symm hIL) hL', hLd, hLk, hLf⟩ (Ne.symm hLC) hRL hLP (fun p hp => ?_) (fun p hp => (ap' p hp).2) F.above
      rcases List.mem_cons.mp hp with rfl | hp
      · exact ⟨k2 _ _ (Ne.symm hIR) hR', hRC, none_of _ (by lia)⟩
      · exact ⟨k2 _ _ (ap' p hp).1 (N' p hp).1, (N' p hp).2⟩
  exact codeAny_compStart_list (loop _ rfl hz.to) (W.self 0 _ _ _ (hst0 _ hIo) (loop _ rfl hz.to))
/-- a list comprehension over any iterator just made -/
theorem comp_one {elt iter : Expr} {ifs : List Expr} {scope : Scope} {cl : List (Str × Addr)} {pos : Pos} {E : Value → Shared → Prop} {Q : Value → Shared → Prop} {Pv : Nat → Value → Prop} {St : Nat → Heap → Prop} {o : Obj}
    (W : Walks PR w A s.heap.objs.size [s.heap.objs.size] [s.heap.objs.size] n Pv St) (live : ∀ i h, St i h → ∃ io, h.get? s.heap.objs.size = some io) (hfr : o.isFreed = false) (hst0 : ∀ h' : Heap, h'.get? s.heap.objs.size = some o → St 0 h')
    (hcell : ∀ y ∈ scope.names, y.2 ≠ .cell) (hkind : scope.kind = .function) (hx : scope.names.lookup x = some .local)
    {z : Shared} (hz : Like z s) (hn : n ≤ 100000) (F : Fr P env.locals s.heap m) (N : News P env.locals s.heap H)
    (J : Nat → List Value → List (Addr × Obj) → Prop) (hJl : ∀ i ys H, J i ys H → ys.length ≤ i) (h0 : J 0 [] H)
    (turn : ∀ i v ys C s₁ (m₁ : Str → Option Value) H₁ own, Like z s₁ → i < n → Pv i v → J i ys H₁ → Fr P C s₁.heap (fun y => if y = x then some v else m₁ y) → News P C s₁.heap (own ++ H₁) → (∀ p ∈ H₁, ∀ q ∈ own, p.1 ≠ q.1) →
      wpAny (model PR w) A (forIn ifs true fun c r => if r = true then do let ok ← isTrue c (compEnvC scope cl C env) (eval c (compEnvC scope cl C env)); pure (ForInStep.yield ok) else pure (ForInStep.yield r))
        (fun ok s₂ => if ok = true then wpAny (model PR w) A (eval elt (compEnvC scope cl C env)) (fun y s₃ => CompEnd P C z own (J (i + 1)) (ys ++ [y]) s₃) NoE s₂ else CompEnd P C z own (J (i + 1)) ys s₂) NoE s₁)
    (done : ∀ R e ys H₁ s₁, Like z s₁ → J n ys H₁ → Fr P env.locals s₁.heap m → News P env.locals s₁.heap ((R, listOf ys.toArray e) :: H₁) → (∀ p ∈ H₁, p.1 ≠ R) → Q (.ref R) s₁) :
    CompK w A env E Q elt iter x px ifs scope cl pos (.ref s.heap.objs.size) { s with heap := s.heap.push o } := by
  refine comp_gen (RR := fun acc C => compPost (model PR w) A E none Q acc C) W live hfr hst0 hcell hkind hx hz hn F N J hJl h0 turn ?_
  intro R C e ys H₁ m' s₁ lk hJ FC hL hCL hRL hLP N₁ ap hab
  refine ⟨m', FC.ns, fun h₃ hs₃ => ?_⟩
  have nC : ∀ p ∈ (R, listOf ys.toArray e) :: H₁, p.1 ≠ C := fun p hp => (N₁ p hp).2.1
  refine done R e ys H₁ { s₁ with heap := h₃ } lk.to hJ ⟨hL.sameBut hs₃ hCL.symm, fun b o e => ?_, hab⟩ (fun p hp => ⟨(hs₃.2 _ (nC p hp)).trans (N₁ p hp).1, ?_, (N₁ p hp).2.2⟩) fun p hp => (ap p hp).1
  · exact (hs₃.2 b (fun q => by have := Heap.get?_none_of_le (h := P) (a := C) FC.above; rw [q, this] at e; cases e)).trans (FC.keep b o e)
  · rcases List.mem_cons.mp hp with rfl | hp
    · exact hRL
    · exact (ap p hp).2
/-- and one that is kept under a name at once -/
theorem comp_oneU {elt iter : Expr} {ifs : List Expr} {scope : Scope} {cl : List (Str × Addr)} {pos : Pos} {E : Value → Shared → Prop} {Q : Flow → Shared → Prop} {Pv : Nat → Value → Prop} {St : Nat → Heap → Prop} {o : Obj} {y : Str} {py : Pos}
    (W : Walks PR w A s.heap.objs.size [s.heap.objs.size] [s.heap.objs.size] n Pv St) (live : ∀ i h, St i h → ∃ io, h.get? s.heap.objs.size = some io) (hfr : o.isFreed = false) (hst0 : ∀ h' : Heap, h'.get? s.heap.objs.size = some o → St 0 h')
    (hcell : ∀ y ∈ scope.names, y.2 ≠ .cell) (hkind : scope.kind = .function) (hx : scope.names.lookup x = some .local)
    {z : Shared} (hz : Like z s) (hn : n ≤ 100000) (F : Fr P env.locals s.heap m) (N : News P env.locals s.heap H)
    (J : Nat → List Value → List (Addr × Obj) → Prop) (hJl : ∀ i ys H, J i ys H → ys.length ≤ i) (h0 : J 0 [] H)
    (turn : ∀ i v ys C s₁ (m₁ : Str → Option Value) H₁ own, Like z s₁ → i < n → Pv i v → J i ys H₁ → Fr P C s₁.heap (fun y => if y = x then some v else m₁ y) → News P C s₁.heap (own ++ H₁) → (∀ p ∈ H₁, ∀ q ∈ own, p.1 ≠ q.1) →
      wpAny (model PR w) A (forIn ifs true fun c r => if r = true then do let ok ← isTrue c (compEnvC scope cl C env) (eval c (compEnvC scope cl C env)); pure (ForInStep.yield ok) else pure (ForInStep.yield r))
        (fun ok s₂ => if ok = true then wpAny (model PR w) A (eval elt (compEnvC scope cl C env)) (fun y s₃ => CompEnd P C z own (J (i + 1)) (ys ++ [y]) s₃) NoE s₂ else CompEnd P C z own (J (i + 1)) ys s₂) NoE s₁)
    (hy : env.kindOf y = some .local) (hp : (env.scope.kind == .class || (env.scope.kind == .module && env.locals != env.globals)) = false)
    (done : ∀ R e ys H₁ s₁, Like z s₁ → J n ys H₁ → Fr P env.locals s₁.heap (fun x => if x = y then some (.ref R) else m x) → News P env.locals s₁.heap ((R, listOf ys.toArray e) :: H₁) → (∀ p ∈ H₁, p.1 ≠ R) → Q .next s₁) :
    wpAny (model PR w) A (newList []) (fun acc s₃ => wpAny (model PR w) A (newFunctionEnv scope env.globals cl [] env.qual none .none (some env)) (fun cenv s₄ =>
      codeAny (model PR w) A (.compStart (.ListComp elt [⟨.Name x px, iter, ifs, 0⟩] scope pos) 0 (.ref s.heap.objs.size) acc { cenv with scope := relabel scope env }) (compPost (model PR w) A E (some (assign (.Name y py) env)) (fun _ s' => Q .next s') acc cenv.locals) s₄) E s₃) E { s with heap := s.heap.push o } := by
  refine comp_gen (RR := fun acc C => compPost (model PR w) A E (some (assign (.Name y py) env)) (fun _ s' => Q .next s') acc C) W live hfr hst0 hcell hkind hx hz hn F N J hJl h0 turn ?_
  intro R C e ys H₁ m' s₁ lk hJ FC hL hCL hRL hLP N₁ ap hab
  show wpAny _ A (assign (.Name y py) env (.ref R)) _ _ _
  refine wpAny_assign_Name (wpAny_storeName_local hy hL (fun h₂ hn₂ hs₂ => ?_) hp)
  refine ⟨m', FC.ns.sameBut hs₂ hCL, fun h₃ hs₃ => ?_⟩
  have nC : ∀ p ∈ (R, listOf ys.toArray e) :: H₁, p.1 ≠ C := fun p hp => (N₁ p hp).2.1
  have nL : ∀ p ∈ (R, listOf ys.toArray e) :: H₁, p.1 ≠ env.locals := fun p hp => by
    rcases List.mem_cons.mp hp with rfl | hp
    · exact hRL
    · exact (ap p hp).2
  refine done R e ys H₁ _ lk.to hJ ⟨hn₂.sameBut hs₃ hCL.symm, fun b o e => ?_, hab⟩ (fun p hp => ⟨(hs₃.2 _ (nC p hp)).trans ((hs₂.2 _ (nL p hp)).trans (N₁ p hp).1), nL p hp, (N₁ p hp).2.2⟩) fun p hp => (ap p hp).1
  refine (hs₃.2 b (fun q => by have := Heap.get?_none_of_le (h := P) (a := C) FC.above; rw [q, this] at e; cases e)).trans ((hs₂.2 b (fun q => by rw [q, hLP] at e; cases e)).trans (FC.keep b o e))
abbrev CompU (w : World) (A : Around) (env : Env) (E : Value → Shared → Prop) (Q : Flow → Shared → Prop) (y : Str) (py : Pos) (elt iter : Expr) (x : Str) (px : Pos) (ifs : List Expr) (scope : Scope) (cl : List (Str × Addr)) (pos : Pos) (it : Value) (s₂ : Shared) : Prop :=
  wpAny (model PR w) A (newList []) (fun acc s₃ => wpAny (model PR w) A (newFunctionEnv scope env.globals cl [] env.qual none .none (some env)) (fun cenv s₄ =>
      codeAny (model PR w) A (.compStart (.ListComp elt [⟨.Name x px, iter, ifs, 0⟩] scope pos) 0 it acc { cenv with scope := relabel scope env }) (compPost (model PR w) A E (some (assign (.Name y py) env)) (fun _ s' => Q .next s') acc cenv.locals) s₄) E s₃) E s₂
theorem comp_asg {elt iter : Expr} {ifs : List Expr} {scope : Scope} {cl : List (Str × Addr)} {pos spos : Pos} {E : Value → Shared → Prop} {Q : Flow → Shared → Prop} {y : Str} {py : Pos}
    (hsw : swapsWith (.ListComp elt [⟨.Name x px, iter, ifs, 0⟩] scope pos) (some (.Name y py)) spos.line env = pure true)
    (hclos : closureFor scope env = pure cl) (hkind : scope.kind = .function) (hnames : ∀ y ∈ scope.names, y.2 = .local → scope.names.lookup y.1 = some .local)
    (h : wpAny (model PR w) A (eval iter env) (fun xv s₁ => wpAny (model PR w) A (pyIter xv) (CompU w A env E Q y py elt iter x px ifs scope cl pos) E s₁) E s)
    (hs : ∀ x, foldedSetIterable iter env x = pure x := by intro _; rfl) :
    wpAny (model PR w) A (exec (.Assign [.Name y py] (.ListComp elt [⟨.Name x px, iter, ifs, 0⟩] scope pos) spos) env) Q E s := by
  rw [exec_Assign_Name_used _ _ _ _ hsw]
  refine wpAny_bind (wpAny_standAt (wpAny_bind ?_))
  show wpAny _ A (do let _ ← comprehension (.ListComp elt [⟨.Name x px, iter, ifs, 0⟩] scope pos) scope env _ (newList []) false (eval iter env) (some (assign (.Name y py) env))) _ _ s
  exact wpAny_bind (wpAny_mono (wpAny_comprehension_free (use := some (assign (.Name y py) env)) (Q := fun _ s' => Q .next s') rfl hs hclos hkind hnames h) (fun _ s' hq => wpAny_pure (wpAny_pure hq)) fun _ _ e => e)
/-- over a range -/
theorem comp_rg {elt iter : Expr} {ifs : List Expr} {scope : Scope} {cl : List (Str × Addr)} {pos : Pos} {E : Value → Shared → Prop} {Q : Value → Shared → Prop} {r : Addr} {a b : Int} {t u v : Tok}
    (hr : IsRange s.heap r a b 1 t u v) (ha : -(2 ^ 62) ≤ a) (ha' : a < 2 ^ 62) (hb : -(2 ^ 62) ≤ b) (hb' : b < 2 ^ 62) (hnn : (b - a).toNat = n)
    (hcell : ∀ y ∈ scope.names, y.2 ≠ .cell) (hkind : scope.kind = .function) (hx : scope.names.lookup x = some .local) (hh : A.handled = none)
    {z : Shared} (hz : Like z s) (hn : n ≤ 100000) (F : Fr P env.locals s.heap m) (N : News P env.locals s.heap H)
    (J : Nat → List Value → List (Addr × Obj) → Prop) (hJl : ∀ i ys H, J i ys H → ys.length ≤ i) (h0 : J 0 [] H)
    (turn : ∀ i tv ys C s₁ (m₁ : Str → Option Value) H₁ own, Like z s₁ → i < n → J i ys H₁ → Fr P C s₁.heap (fun y => if y = x then some (.int (a + i) tv) else m₁ y) → News P C s₁.heap (own ++ H₁) → (∀ p ∈ H₁, ∀ q ∈ own, p.1 ≠ q.1) →
      wpAny (model PR w) A (forIn ifs true fun c r => if r = true then do let ok ← isTrue c (compEnvC scope cl C env) (eval c (compEnvC scope cl C env)); pure (ForInStep.yield ok) else pure (ForInStep.yield r))
        (fun ok s₂ => if ok = true then wpAny (model PR w) A (eval elt (compEnvC scope cl C env)) (fun y s₃ => CompEnd P C z own (J (i + 1)) (ys ++ [y]) s₃) NoE s₂ else CompEnd P C z own (J (i + 1)) ys s₂) NoE s₁)
    (done : ∀ R e ys H₁ s₁, Like z s₁ → J n ys H₁ → Fr P env.locals s₁.heap m → News P env.locals s₁.heap ((R, listOf ys.toArray e) :: H₁) → (∀ p ∈ H₁, p.1 ≠ R) → Q (.ref R) s₁) :
    wpAny (model PR w) A (pyIter (.ref r)) (CompK w A env E Q elt iter x px ifs scope cl pos) E s := by
  refine wpAny_pyIter_range hr (small_one ha ha' hb hb') ?_
  have hsz : Builtin.Range.rangeSize a b 1 = (n : Int) := by rw [rangeSize_nat, hnn]
  refine comp_one (Walks.range hh s.heap.objs.size a 1 n) (fun _ _ e => ⟨_, e⟩) rfl (fun h' e => ?_) hcell hkind hx hz hn F N J hJl h0 ?_ done
  · show IsRangeIter _ _ _ _ _
    rw [hsz] at e; simpa [IsRangeIter] using e
  · rintro i v ys C s₁ m₁ H₁ own lk hi ⟨tv, rfl⟩ hJ F₁ N₁ ap
    have e : a + (i : Int) * 1 = a + i := by lia
    rw [e] at F₁
    exact turn i tv ys C s₁ m₁ H₁ own lk hi hJ F₁ N₁ ap
/-- over a range, kept at once -/
theorem comp_rgU {elt iter : Expr} {ifs : List Expr} {scope : Scope} {cl : List (Str × Addr)} {pos : Pos} {E : Value → Shared → Prop} {Q : Flow → Shared → Prop} {y : Str} {py : Pos} {r : Addr} {a b : Int} {t u v : Tok}
    (hr : IsRange s.heap r a b 1 t u v) (ha : -(2 ^ 62) ≤ a) (ha' : a < 2 ^ 62) (hb : -(2 ^ 62) ≤ b) (hb' : b < 2 ^ 62) (hnn : (b - a).toNat = n)
    (hcell : ∀ y ∈ scope.names, y.2 ≠ .cell) (hkind : scope.kind = .function) (hx : scope.names.lookup x = some .local) (hh : A.handled = none)
    {z : Shared} (hz : Like z s) (hn : n ≤ 100000) (F : Fr P env.locals s.heap m) (N : News P env.locals s.heap H)
    (J : Nat → List Value → List (Addr × Obj) → Prop) (hJl : ∀ i ys H, J i ys H → ys.length ≤ i) (h0 : J 0 [] H)
    (turn : ∀ i tv ys C s₁ (m₁ : Str → Option Value) H₁ own, Like z s₁ → i < n → J i ys H₁ → Fr P C s₁.heap (fun y => if y = x then some (.int (a + i) tv) else m₁ y) → News P C s₁.heap (own ++ H₁) → (∀ p ∈ H₁, ∀ q ∈ own, p.1 ≠ q.1) →
      wpAny (model PR w) A (forIn ifs true fun c r => if r = true then do let ok ← isTrue c (compEnvC scope cl C env) (eval c (compEnvC scope cl C env)); pure (ForInStep.yield ok) else pure (ForInStep.yield r))
        (fun ok s₂ => if ok = true then wpAny (model PR w) A (eval elt (compEnvC scope cl C env)) (fun y s₃ => CompEnd P C z own (J (i + 1)) (ys ++ [y]) s₃) NoE s₂ else CompEnd P C z own (J (i + 1)) ys s₂) NoE s₁)
    (hy : env.kindOf y = some .local) (hp : (env.scope.kind == .class || (env.scope.kind == .module && env.locals != env.globals)) = false)
    (done : ∀ R e ys H₁ s₁, Like z s₁ → J n ys H₁ → Fr P env.locals s₁.heap (fun x => if x = y then some (.ref R) else m x) → News P env.locals s₁.heap ((R, listOf ys.toArray e) :: H₁) → (∀ p ∈ H₁, p.1 ≠ R) → Q .next s₁) :
    wpAny (model PR w) A (pyIter (.ref r)) (CompU w A env E Q y py elt iter x px ifs scope cl pos) E s := by
  refine wpAny_pyIter_range hr (small_one ha ha' hb hb') ?_
  have hsz : Builtin.Range.rangeSize a b 1 = (n : Int) := by rw [rangeSize_nat, hnn]
  refine comp_oneU (Walks.range hh s.heap.objs.size a 1 n) (fun _ _ e => ⟨_, e⟩) rfl (fun h' e => ?_) hcell hkind hx hz hn F N J hJl h0 ?_ hy hp done
  · show IsRangeIter _ _ _ _ _
    rw [hsz] at e; simpa [IsRangeIter] using e
  · rintro i v ys C s₁ m₁ H₁ own lk hi ⟨tv, rfl⟩ hJ F₁ N₁ ap
    have e : a + (i : Int) * 1 = a + i := by lia
    rw [e] at F₁
    exact turn i tv ys C s₁ m₁ H₁ own lk hi hJ F₁ N₁ ap
end
end
section
open PySem PySem.W PySem.Calls PyProof.Rows
/-- a ledger and what stands behind its first part -/
inductive Tl (cells : List (Addr × Obj)) : List (Addr × Obj) → List (Addr × Obj) → Prop
  | here : Tl cells [] cells
  | cons (p : Addr × Obj) {pre news : List (Addr × Obj)} : Tl cells pre news → Tl cells (p :: pre) (p :: news)
theorem Tl.eq {cells pre news : List (Addr × Obj)} (h : Tl cells pre news) : news = pre ++ cells := by
  induction h with
  | here => rfl
  | cons p _ ih => rw [ih]; rfl
theorem Tl.sub {cells pre news : List (Addr × Obj)} (h : Tl cells pre news) : Sub cells news := by
  rw [h.eq]; exact fun p hp => List.mem_append_right _ hp
theorem ca_get {mc : Str → Option Value} {x : Str} {c : Addr} : ∀ {cl : List (Str × Addr)} {cells : List (Addr × Obj)}, CellsAre mc cl cells → cl.lookup x = some c → ∃ o, (c, o) ∈ cells ∧ o.data = .cell (mc x)
  | _, _, .nil, h => nomatch h
  | (n, d) :: cl, _, .cons (o := o) hd r, h => by
    rw [List.lookup_cons] at h
    cases hb : x == n with
    | true =>
      rw [hb] at h
      rw [eq_of_beq hb, ← Option.some.inj h]
      exact ⟨o, .head _, hd⟩
    | false =>
      rw [hb] at h
      obtain ⟨o', hm, ho⟩ := ca_get r h
      exact ⟨o', .tail _ hm, ho⟩
theorem ca_adr {mc : Str → Option Value} : ∀ {cl : List (Str × Addr)} {cells : List (Addr × Obj)}, CellsAre mc cl cells → cells.map (·.1) = cl.map (·.2)
  | _, _, .nil => rfl
  | _, _, .cons _ r => by rw [List.map_cons, List.map_cons, ca_adr r]
theorem lookup_mem {x : Str} {c : Addr} : ∀ {cl : List (Str × Addr)}, cl.lookup x = some c → (x, c) ∈ cl
  | (n, d) :: cl, h => by
    rw [List.lookup_cons] at h
    cases hb : x == n with
    | true => rw [hb] at h; rw [eq_of_beq hb, ← Option.some.inj h]; exact .head _
    | false => rw [hb] at h; exact .tail _ (lookup_mem h)
/-- a cell's object anew -/
theorem ca_set {mc : Str → Option Value} {x : Str} {c : Addr} {v : Value} {o' : Obj} (hd' : o'.data = .cell (some v)) : ∀ {cl : List (Str × Addr)} {cells : List (Addr × Obj)}, CellsAre mc cl cells → cl.lookup x = some c → (cl.map (·.1)).Nodup → (cl.map (·.2)).Nodup →
    ∃ own o rest, cells = own ++ (c, o) :: rest ∧ o.data = .cell (mc x) ∧ (∀ p ∈ own, p.1 ≠ c) ∧ (∀ p ∈ rest, p.1 ≠ c) ∧ CellsAre (fun y => if y = x then some v else mc y) cl (own ++ (c, o') :: rest)
  | _, _, .nil, h, _, _ => nomatch h
  | (n, d) :: cl, _, .cons (o := o) (cells := cells) hd r, h, hn, ha => by
    rw [List.map_cons, List.nodup_cons] at hn ha
    rw [List.lookup_cons] at h
    cases hb : x == n with
    | true =>
      rw [hb] at h
      have e1 := eq_of_beq hb
      have e2 := Option.some.inj h
      subst e1 e2
      refine ⟨[], o, cells, rfl, hd, fun _ hp => (nomatch hp), fun p hp e => ha.1 ?_, .cons (by rw [if_pos rfl]; exact hd') ?_⟩
      · rw [← ca_adr r, ← e]; exact List.mem_map_of_mem hp
      · have go : ∀ {cl : List (Str × Addr)} {cells : List (Addr × Obj)}, CellsAre mc cl cells → x ∉ cl.map (·.1) → CellsAre (fun y => if y = x then some v else mc y) cl cells := by
          intro cl cells R
          induction R with
          | nil => exact fun _ => .nil
          | @cons n c o cs cells hd _ ih =>
            intro hx
            rw [List.map_cons, List.mem_cons, not_or] at hx
            exact .cons (by rw [if_neg (fun e => hx.1 e.symm)]; exact hd) (ih hx.2)
        exact go r hn.1
    | false =>
      rw [hb] at h
      obtain ⟨own, o1, rest, rfl, a, b, b', d'⟩ := ca_set hd' r h hn.2 ha.2
      have hne : n ≠ x := fun e => by rw [e] at hb; simp at hb
      have hcd : d ≠ c := fun e => ha.1 (by rw [e]; exact List.mem_map_of_mem (f := (·.2)) (lookup_mem h))
      exact ⟨(d, o) :: own, o1, rest, rfl, a, List.forall_mem_cons.mpr ⟨hcd, b⟩, b', .cons (by rw [if_neg hne]; exact hd) d'⟩
section
variable {M : Model} {A : Around} {E : Value → Shared → Prop} {s : Shared} {P : Heap} {L a : Addr} {m mc : Str → Option Value} {cn : Str} {cs : Scope} {ccd : Value} {cl : List (Str × Addr)} {x : Str} {v : Value} {pos : Pos} {c : Addr} {news pre cells : List (Addr × Obj)}
theorem name_CA {Q : Value → Shared → Prop} (N : News P L s.heap news) (CA : CellsAre mc cl cells) (hs : Sub cells news) (hc : cl.lookup x = some c) (hv : mc x = some v) (h : Q v s)
    (hk : cs.kind = .function := by rfl) (hx : (envX cn cs L a ccd cl).kindOf x = some .cell := by rfl) (hb : (x == ("__debug__" : Str)) = false := by decide) : wpAny M A (eval (.Name x pos) (envX cn cs L a ccd cl)) Q E s := by
  obtain ⟨o, hm, hd⟩ := ca_get CA hc
  exact nameX_C N hc (hs _ hm) (hd.trans (congrArg _ hv)) h hk hx hb
theorem load_CA {Q : Value → Shared → Prop} (N : News P L s.heap news) (CA : CellsAre mc cl cells) (hs : Sub cells news) (hc : cl.lookup x = some c) (hv : mc x = some v) (h : Q v s)
    (hk : cs.kind = .function := by rfl) (hx : (envX cn cs L a ccd cl).kindOf x = some .cell := by rfl) : wpAny M A (loadName (envX cn cs L a ccd cl) x) Q E s := by
  obtain ⟨o, hm, hd⟩ := ca_get CA hc
  exact loadX_C N hc (hs _ hm) (hd.trans (congrArg _ hv)) h hk hx
theorem store_CA {Q : Unit → Shared → Prop} (F : Fr P L s.heap m) (N : News P L s.heap news) (CA : CellsAre mc cl cells) (T : Tl cells pre news) (hc : cl.lookup x = some c) (hpre : ∀ p ∈ pre, p.1 ≠ c) (hn : (cl.map (·.1)).Nodup) (ha : (cl.map (·.2)).Nodup)
    (h : ∀ h' cells', Fr P L h' m → News P L h' (pre ++ cells') → CellsAre (fun y => if y = x then some v else mc y) cl cells' → Q () { s with heap := h' })
    (hk : cs.kind = .function := by rfl) (hx : (envX cn cs L a ccd cl).kindOf x = some .cell := by rfl) : wpAny M A (storeName (envX cn cs L a ccd cl) x v) Q E s := by
  obtain ⟨o, hm, hd⟩ := ca_get CA hc
  have hmem := N (c, o) (T.sub _ hm)
  refine wpAny_storeName_cell hk hx hc ⟨o, hmem.1, hd⟩ fun h' hv hs => ?_
  obtain ⟨o', ho', hd'⟩ := hv
  obtain ⟨own, o1, rest, rfl, _, g1, g2, CA'⟩ := ca_set (mc := mc) (v := v) hd' CA hc hn ha
  refine h h' (own ++ (c, o') :: rest) ⟨F.ns.sameBut hs (Ne.symm hmem.2.1), fun b ob e => (hs.2 b (fun q => ?_)).trans (F.keep b ob e), F.above⟩ ?_ CA'
  · rw [q, hmem.2.2] at e; cases e
  · rw [T.eq, ← List.append_assoc] at N
    have := News.setAt N (fun p hp => (List.mem_append.mp hp).elim (hpre p) (g1 p)) g2 hs ho'
    rw [List.append_assoc] at this
    exact this
end
section
variable {A : Around} {E : Value → Shared → Prop} {P : Heap} {L : Addr} {s : Shared} {m mc : Str → Option Value} {H : List (Addr × Obj)}
/-- a captured name in a comprehension -/
theorem comp_CA {scope : Scope} {cl cl' : List (Str × Addr)} {C c : Addr} {env : Env} {x : Str} {pos : Pos} {v : Value} {cells : List (Addr × Obj)} {Q : Value → Shared → Prop} (N : News P C s.heap H) (CA : CellsAre mc cl cells) (hs : Sub cells H) (hc' : cl.lookup x = some c) (hc : (compEnvC scope cl' C env).cells.lookup x = some c) (hv : mc x = some v) (h : Q v s)
    (hk : (compEnvC scope cl' C env).scope.kind = .function := by rfl) (hl : (compEnvC scope cl' C env).kindOf x = some .cell := by rfl) (hd : (x == ("__debug__" : Str)) = false := by decide) : wpAny (model PR w) A (eval (.Name x pos) (compEnvC scope cl' C env)) Q E s := by
  obtain ⟨o, hm, hd1⟩ := ca_get CA hc'
  exact comp_cl N hc (hs _ hm) (hd1.trans (congrArg _ hv)) h hk hl hd
end
end
section
open PySem PySem.W PySem.Calls PyProof.Rows
/-- no cell stands there -/
def Off (cl : List (Str × Addr)) (D : Addr) : Prop := ∀ q ∈ cl, q.2 ≠ D
theorem off_ne {mc : Str → Option Value} {cl : List (Str × Addr)} {cells : List (Addr × Obj)} {D : Addr} (CA : CellsAre mc cl cells) (h : ∀ p ∈ cells, p.1 ≠ D) : Off cl D := by
  intro q hq e
  have hm : q.2 ∈ cells.map (·.1) := by rw [ca_adr CA]; exact List.mem_map_of_mem hq
  obtain ⟨p, hp, he⟩ := List.mem_map.mp hm
  exact h p hp (he.trans e)
theorem allLt_to {d : Addr} {l : List (Addr × Obj)} : AllLt d l → ∀ p ∈ l, p.1 < d := by
  induction l with
  | nil => intro _ p hp; cases hp
  | cons a l ih =>
    intro h p hp
    rcases List.mem_cons.mp hp with rfl | hp
    · exact h.1
    · exact ih h.2 p hp
theorem off_fresh {mc : Str → Option Value} {cl : List (Str × Addr)} {cells news : List (Addr × Obj)} {D : Addr} (CA : CellsAre mc cl cells) (h : ∀ p ∈ news, p.1 < D) (hs : Sub cells news) : Off cl D := off_ne CA fun p hp => Nat.ne_of_lt (h p (hs p hp))
theorem off_then {mc : Str → Option Value} {cl : List (Str × Addr)} {cells news : List (Addr × Obj)} {D : Addr} {G : Prop} (CA : CellsAre mc cl cells) (h : ∀ p ∈ news, p.1 < D) (hs : Sub cells news) (k : Off cl D → G) : G := k (off_fresh CA h hs)
theorem off_c {cl : List (Str × Addr)} {x : Str} {c D : Addr} (h : Off cl D) (hc : cl.lookup x = some c) : D ≠ c := fun e => h _ (lookup_mem hc) e.symm
theorem off_cells {mc : Str → Option Value} {cl : List (Str × Addr)} {cells : List (Addr × Obj)} {D : Addr} (CA : CellsAre mc cl cells) (h : Off cl D) : ∀ p ∈ cells, p.1 ≠ D := by
  intro p hp e
  have hm : p.1 ∈ cl.map (·.2) := by rw [← ca_adr CA]; exact List.mem_map_of_mem hp
  obtain ⟨q, hq, he⟩ := List.mem_map.mp hm
  exact h q hq (he.trans e)
theorem cf_adr : ∀ (names : List (Str × NameKind)) (n : Nat) (acc : List (Str × Addr)), (acc.map (·.2)).Nodup → (∀ q ∈ acc, q.2 < n) → ((cellsFrom n names acc).map (·.2)).Nodup ∧ ∀ q ∈ cellsFrom n names acc, q ∈ acc ∨ n ≤ q.2
  | [], n, acc, h, _ => ⟨h, fun _ hq => .inl hq⟩
  | (x, k) :: r, n, acc, h, h2 => by
    unfold cellsFrom
    split
    · obtain ⟨a, b⟩ := cf_adr r (n + 1) ((x, n) :: acc) (by
        rw [List.map_cons, List.nodup_cons]
        refine ⟨fun hm => ?_, h⟩
        obtain ⟨q, hq, e⟩ := List.mem_map.mp hm
        exact absurd e (Nat.ne_of_lt (h2 q hq))) (fun q hq => by
        rcases List.mem_cons.mp hq with rfl | hq
        · exact Nat.lt_succ_self _
        · exact Nat.lt_succ_of_lt (h2 q hq))
      refine ⟨a, fun q hq => ?_⟩
      rcases b q hq with hq | hq
      · rcases List.mem_cons.mp hq with rfl | hq
        · exact .inr (Nat.le_refl _)
        · exact .inl hq
      · exact .inr (Nat.le_of_succ_le hq)
    · exact cf_adr r n acc h h2
theorem sub_tl {cells Y pre news : List (Addr × Obj)} (h : Sub cells Y) (t : Tl Y pre news) : Sub cells news := fun p hp => t.sub p (h p hp)
theorem ca_facts {mc : Str → Option Value} {L : Addr} {names : List (Str × NameKind)} {cells : List (Addr × Obj)} (_ : CellsAre mc (cellsFrom (L + 1) names []) cells) (hnd : ((cellsFrom 0 names []).map (·.1)).Nodup) :
    ((cellsFrom (L + 1) names []).map (·.1)).Nodup ∧ ((cellsFrom (L + 1) names []).map (·.2)).Nodup ∧ ∀ q ∈ cellsFrom (L + 1) names [], L < q.2 := by
  obtain ⟨a, b⟩ := cf_adr names (L + 1) [] List.nodup_nil (fun _ h => (nomatch h))
  refine ⟨cellsFrom_names names (L + 1) 0 [] [] rfl ▸ hnd, a, fun q hq => ?_⟩
  rcases b q hq with h | h
  · cases h
  · exact h
section
variable {A : Around} {E : Value → Shared → Prop} {P : Heap} {s : Shared} {L a : Addr} {m mc : Str → Option Value} {cn : Str} {cs : Scope} {ccd : Value} {cl : List (Str × Addr)} {x : Str} {v : Value} {pos : Pos} {c D : Addr} {news news' pre cells : List (Addr × Obj)} {n : Nat}
theorem name_CO {cl₀ : List (Str × Addr)} {Q : Value → Shared → Prop} (hcl : cl₀ = cl) (N : News P L s.heap news) (CA : CellsAre mc cl cells) (hs : Sub cells news) (hc : cl₀.lookup x = some c) (hv : mc x = some v) (h : Q v s)
    (hk : cs.kind = .function := by rfl) (hx : (envX cn cs L a ccd cl₀).kindOf x = some .cell := by rfl) (hb : (x == ("__debug__" : Str)) = false := by decide) : wpAny (model PR w) A (eval (.Name x pos) (envX cn cs L a ccd cl₀)) Q E s := by
  subst hcl
  exact name_CA N CA hs hc hv h hk hx hb
theorem load_CO {cl₀ : List (Str × Addr)} {Q : Value → Shared → Prop} (hcl : cl₀ = cl) (N : News P L s.heap news) (CA : CellsAre mc cl cells) (hs : Sub cells news) (hc : cl₀.lookup x = some c) (hv : mc x = some v) (h : Q v s)
    (hk : cs.kind = .function := by rfl) (hx : (envX cn cs L a ccd cl₀).kindOf x = some .cell := by rfl) : wpAny (model PR w) A (loadName (envX cn cs L a ccd cl₀) x) Q E s := by
  subst hcl
  exact load_CA N CA hs hc hv h hk hx
theorem load_L {Q : Value → Shared → Prop} (F : Fr P L s.heap m) (hv : m x = some v) (h : Q v s) (hk : cs.kind = .function := by rfl) (hx : (envX cn cs L a ccd cl).kindOf x = some .local := by rfl) : wpAny (model PR w) A (loadName (envX cn cs L a ccd cl) x) Q E s := wpAny_loadName_local hk hx F.ns hv h
theorem store_CO {cl₀ : List (Str × Addr)} {Q : Unit → Shared → Prop} (hcl : cl₀ = cl) (F : Fr P L s.heap m) (N : News P L s.heap news) (CA : CellsAre mc cl cells) (T : Tl cells pre news) (hc : cl₀.lookup x = some c) (hpre : ∀ p ∈ pre, Off cl p.1) (hn : (cl.map (·.1)).Nodup) (ha : (cl.map (·.2)).Nodup)
    (h : ∀ h' cells', Fr P L h' m → News P L h' (pre ++ cells') → CellsAre (fun y => if y = x then some v else mc y) cl cells' → Q () { s with heap := h' })
    (hk : cs.kind = .function := by rfl) (hx : (envX cn cs L a ccd cl₀).kindOf x = some .cell := by rfl) : wpAny (model PR w) A (storeName (envX cn cs L a ccd cl₀) x v) Q E s := by
  subst hcl
  exact store_CA F N CA T hc (fun p hp => off_c (hpre p hp) hc) hn ha h hk hx
theorem comp_CO {scope : Scope} {cl₀ cl' : List (Str × Addr)} {C : Addr} {env : Env} {Q : Value → Shared → Prop} (hcl : cl₀ = cl) (N : News P C s.heap news) (CA : CellsAre mc cl cells) (hs : Sub cells news) (hc' : cl₀.lookup x = some c) (hc : (compEnvC scope cl' C env).cells.lookup x = some c) (hv : mc x = some v) (h : Q v s)
    (hk : (compEnvC scope cl' C env).scope.kind = .function := by rfl) (hl : (compEnvC scope cl' C env).kindOf x = some .cell := by rfl) (hd : (x == ("__debug__" : Str)) = false := by decide) : wpAny (model PR w) A (eval (.Name x pos) (compEnvC scope cl' C env)) Q E s := by
  subst hcl
  exact comp_CA N CA hs hc' hc hv h hk hl hd
end
/-- signs by their texts, cut at a place -/
theorem Sg.at {vs : List Value} {l : List Nat} (h : Sg vs l) : ∀ {i : Nat}, i < l.length → ∃ p t q, vs = p ++ .str (S [l.getD i 0]) t :: q ∧ p.length = i ∧ Sg (p ++ q) (l.eraseIdx i) := by
  induction h with
  | nil => intro i hi; exact absurd hi (Nat.not_lt_zero _)
  | @cons c t vs l h ih =>
    intro i hi
    cases i with
    | zero => exact ⟨[], t, vs, rfl, rfl, h⟩
    | succ i =>
      obtain ⟨p, t', q, rfl, hp, hs⟩ := ih (i := i) (Nat.lt_of_succ_lt_succ hi)
      exact ⟨.str (S [c]) t :: p, t', q, rfl, by rw [List.length_cons, hp], .cons c t hs⟩
section
variable {A : Around} {E : Value → Shared → Prop} {P : Heap} {s : Shared} {m mg mb : Str → Option Value} {scope : Scope} {cl : List (Str × Addr)} {C : Addr} {env : Env} {x : Str} {pos : Pos} {v : Value} {Q : Value → Shared → Prop} {K : Frag} {p : Program} {loose : List Str}
theorem comp_gk (F : Fr P C s.heap m) (X : K.In P) (T : TopRead p loose mg mb P) (e : nsIn K mainGlobals x = some (some v)) (h : Q v s) (hg : env.globals = mainGlobals := by rfl)
    (hk : (compEnvC scope cl C env).scope.kind = .function := by rfl) (hx : (compEnvC scope cl C env).kindOf x = some .globalImplicit := by rfl) (hd : (x == ("__debug__" : Str)) = false := by decide) : wpAny (model PR w) A (eval (.Name x pos) (compEnvC scope cl C env)) Q E s :=
  Name_function_global hk hx (loadGlobal_global (env := compEnvC scope cl C env) (by show s.heap.Ns env.globals mg; rw [hg]; exact T.g.keeps F.keep) (mg_of X T.g e) h) hd
theorem comp_gb (F : Fr P C s.heap m) (X : K.In P) (T : TopRead p loose mg mb P) (e : nsIn K mainGlobals x = some none) (hv : bootBuiltins x = some v) (hn : x ≠ "__name__") (h : Q v s) (hg : env.globals = mainGlobals := by rfl) (hb : env.builtins = builtinsNs := by rfl)
    (hk : (compEnvC scope cl C env).scope.kind = .function := by rfl) (hx : (compEnvC scope cl C env).kindOf x = some .globalImplicit := by rfl) (hd : (x == ("__debug__" : Str)) = false := by decide) : wpAny (model PR w) A (eval (.Name x pos) (compEnvC scope cl C env)) Q E s :=
  Name_function_global hk hx (loadGlobal_builtin (env := compEnvC scope cl C env) (by show s.heap.Ns env.globals mg; rw [hg]; exact T.g.keeps F.keep) (mg_none_of X T.g e) (by show s.heap.Ns env.builtins mb; rw [hb]; exact T.b.keeps F.keep) ((T.builtins x hn).trans hv) h) hd
end
/-- where a lexer's objects stand -/
def lexAd (a : LexA) : List Addr := a.dx :: a.sg :: a.pb :: a.x :: a.st :: a.sd :: a.lam :: a.rest.map (·.1)
def LAp (a : LexA) (Y : List (Addr × Obj)) : Prop := ∀ q ∈ Y, q.1 ∉ lexAd a
section
variable {a : LexA} {line : Int} {t1 : Tok} {vs : List Value} {e2 : Nat} {pv : List Value} {e3 : Nat} {Y Z : List (Addr × Obj)}
theorem lexH_ad : (lexH w a line t1 vs e2 pv e3).map (·.1) = lexAd a := rfl
theorem LAp.ne (h : LAp a Y) : ∀ p ∈ Y, ∀ q ∈ lexH w a line t1 vs e2 pv e3, p.1 ≠ q.1 := fun p hp q hq e => h p hp (by rw [e, ← lexH_ad (w := w) (line := line) (t1 := t1) (vs := vs) (e2 := e2) (pv := pv) (e3 := e3)]; exact List.mem_map_of_mem hq)
theorem LAp.of (h : ∀ p ∈ lexH w a line t1 vs e2 pv e3, ∀ q ∈ Y, p.1 ≠ q.1) : LAp a Y := fun q hq hm => by
  rw [← lexH_ad (w := w) (line := line) (t1 := t1) (vs := vs) (e2 := e2) (pv := pv) (e3 := e3)] at hm
  obtain ⟨p, hp, e⟩ := List.mem_map.mp hm
  exact h p hp q hq e
theorem LAp.one {q : Addr} {o : Obj} (h : ∀ p ∈ lexH w a line t1 vs e2 pv e3, p.1 ≠ q) : LAp a [(q, o)] := LAp.of fun p hp r hr => by rw [List.mem_singleton.mp hr]; exact h p hp
theorem LAp.app (h : LAp a Y) (k : LAp a Z) : LAp a (Y ++ Z) := fun q hq => (List.mem_append.mp hq).elim (h q) (k q)
theorem LAp.at {q : Addr} {o o' : Obj} (h : LAp a Y) (hm : (q, o) ∈ Y) : LAp a [(q, o')] := fun r hr => by rw [List.mem_singleton.mp hr]; exact h (q, o) hm
theorem LAp.cons {q : Addr} {o o' : Obj} (h : LAp a [(q, o)]) (k : LAp a Y) : LAp a ((q, o') :: Y) := fun r hr => by
  rcases List.mem_cons.mp hr with rfl | hr
  · exact h (q, o) (.head _)
  · exact k r hr
theorem LAp.nil : LAp a [] := fun _ h => nomatch h
theorem LAp.sub (h : LAp a Y) (k : Sub Z Y) : LAp a Z := fun q hq => h q (k q hq)
end
theorem Tl.mk {cells : List (Addr × Obj)} : ∀ {pre : List (Addr × Obj)}, Tl cells pre (pre ++ cells)
  | [] => .here
  | p :: _ => .cons p Tl.mk
theorem LAp.cells {a : LexA} {mc mc' : Str → Option Value} {cl : List (Str × Addr)} {cells cells' : List (Addr × Obj)} (CA : CellsAre mc cl cells) (CA' : CellsAre mc' cl cells') (h : LAp a cells) : LAp a cells' := fun q hq hm => by
  have h1 : q.1 ∈ cells.map (·.1) := by rw [ca_adr CA, ← ca_adr CA']; exact List.mem_map_of_mem hq
  obtain ⟨p, hp, e⟩ := List.mem_map.mp h1
  exact h p hp (by rw [e]; exact hm)
theorem lexAd_two {a : LexA} {p q : Addr × Obj} (h : a.rest = [p, q]) {x : Addr} (h1 : x ∉ lexAo a) (h2 : x ≠ q.1) : x ∉ lexAd a := by
  unfold lexAo at h1
  unfold lexAd
  rw [h] at h1 ⊢
  simp only [List.take, List.map_cons, List.map_nil, List.mem_cons, List.not_mem_nil, or_false, not_or] at h1 ⊢
  obtain ⟨a1, a2, a3, a4, a5, a6, a7, a8⟩ := h1
  exact ⟨a1, a2, a3, a4, a5, a6, a7, a8, h2⟩
end
section
open PySem PySem.W PySem.Calls PyProof.Rows
/-- a list is empty or ends somewhere -/
theorem snoc_cases (l : List Nat) : l = [] ∨ ∃ l' x, l = l' ++ [x] := by
  rcases List.eq_nil_or_concat l with h | ⟨L, b, h⟩
  · exact .inl h
  · exact .inr ⟨L, b, by rw [h, ← List.concat_eq_append]⟩
theorem dist_s3 (a b : List Nat) (c d : Nat) : dist (a ++ [c]) (b ++ [d]) = min (min (dist a b + cst c d) (dist a (b ++ [d]) + 2)) (dist (a ++ [c]) b + 2) := by
  unfold dist
  rw [List.length_append, List.length_singleton, List.length_append, List.length_singleton, ED_ss]
  have e1 : ED (sIdx (a ++ [c]) (b ++ [d])) a.length b.length = ED (sIdx a b) a.length b.length := ED_congr fun i j hi hj => by unfold sIdx; rw [getD_app _ _ _ hi, getD_app _ _ _ hj]
  have e2 : ED (sIdx (a ++ [c]) (b ++ [d])) a.length (b.length + 1) = ED (sIdx a (b ++ [d])) a.length (b.length + 1) := ED_congr fun i j hi hj => by unfold sIdx; rw [getD_app _ _ _ hi]
  have e3 : ED (sIdx (a ++ [c]) (b ++ [d])) (a.length + 1) b.length = ED (sIdx (a ++ [c]) b) (a.length + 1) b.length := ED_congr fun i j hi hj => by unfold sIdx; rw [getD_app _ _ _ hj]
  have e4 : sIdx (a ++ [c]) (b ++ [d]) a.length b.length = cst c d := by unfold sIdx; rw [getD_last, getD_last]
  rw [e1, e2, e3, e4]
theorem min3_cases (a b c : Int) : min (min a b) c = a ∨ min (min a b) c = b ∨ min (min a b) c = c := by omega
theorem min3_le (a b c : Int) : min (min a b) c ≤ a ∧ min (min a b) c ≤ b ∧ min (min a b) c ≤ c := by omega
theorem dist_ge (a b : List Nat) : 2 * ((a.length : Int) - b.length) ≤ dist a b := by
  rw [dist_comm]
  exact ED_gap (sIdx_b _ _) b.length a.length
theorem dist_upL (c : Nat) (x y : List Nat) : dist (x ++ [c]) y ≤ dist x y + 2 := by
  unfold dist
  rw [List.length_append, List.length_singleton]
  have h := (ED_up (s := sIdx (x ++ [c]) y) (sIdx_b _ _) x.length y.length).1
  rw [ED_congr (s := sIdx (x ++ [c]) y) (t := sIdx x y) (i := x.length) (j := y.length)] at h
  · exact h
  · intro a b ha _
    unfold sIdx
    rw [getD_app _ _ _ ha]
theorem dist_upR (c : Nat) (x y : List Nat) : dist x (y ++ [c]) ≤ dist x y + 2 := by
  rw [dist_comm, dist_comm x]; exact dist_upL c y x
/-- two ways put together -/
theorem dist_add : ∀ (n : Nat) (a b c d : List Nat), b.length + d.length ≤ n → dist (a ++ b) (c ++ d) ≤ dist a c + dist b d := by
  intro n
  induction n using Nat.strongRecOn with
  | _ n ih =>
    intro a b c d h
    rcases snoc_cases b with rfl | ⟨b, x, rfl⟩
    · rcases snoc_cases d with rfl | ⟨d, y, rfl⟩
      · rw [List.append_nil, List.append_nil, dist_self]; exact Int.le_of_eq (Int.add_zero _).symm
      · rcases n with _ | n
        · simp at h
        have i := ih n (Nat.lt_succ_self n) a [] c d (by simp only [List.length_append, List.length_cons, List.length_nil] at h ⊢; omega)
        have j := dist_upR y (a ++ []) (c ++ d)
        rw [dist_nil_l] at i ⊢
        rw [← List.append_assoc, List.length_append, List.length_singleton]
        omega
    · rcases snoc_cases d with rfl | ⟨d, y, rfl⟩
      · rcases n with _ | n
        · simp at h
        have i := ih n (Nat.lt_succ_self n) a b c [] (by simp only [List.length_append, List.length_cons, List.length_nil] at h ⊢; omega)
        have j := dist_upL x (a ++ b) (c ++ [])
        rw [dist_nil_r] at i ⊢
        rw [← List.append_assoc, List.length_append, List.length_singleton]
        omega
      · rcases n with _ | n
        · simp at h
        simp only [List.length_append, List.length_cons, List.length_nil] at h
        have i1 := ih n (Nat.lt_succ_self n) a b c d (by omega)
        have i2 := ih n (Nat.lt_succ_self n) a b c (d ++ [y]) (by rw [List.length_append, List.length_singleton]; omega)
        have i3 := ih n (Nat.lt_succ_self n) a (b ++ [x]) c d (by rw [List.length_append, List.length_singleton]; omega)
        rw [← List.append_assoc] at i2 i3
        rw [← List.append_assoc, ← List.append_assoc, dist_s3, dist_s3 b d]
        omega
/-- where a way is to be cut -/
theorem dist_cut : ∀ (n : Nat) (w u v : List Nat), w.length + v.length ≤ n → ∃ k, k ≤ w.length ∧ dist (w.take k) u + dist (w.drop k) v ≤ dist w (u ++ v) := by
  intro n
  induction n using Nat.strongRecOn with
  | _ n ih =>
    intro w u v h
    rcases snoc_cases v with rfl | ⟨v, d, rfl⟩
    · exact ⟨w.length, Nat.le_refl _, by rw [List.take_length, List.drop_length, List.append_nil, dist_self]; exact Int.le_of_eq (Int.add_zero _)⟩
    rcases snoc_cases w with rfl | ⟨w, c, rfl⟩
    · refine ⟨0, Nat.le_refl _, ?_⟩
      rw [List.take_nil, List.drop_nil, dist_nil_l, dist_nil_l, dist_nil_l]
      simp only [List.length_append]
      omega
    rcases n with _ | n
    · simp at h
    simp only [List.length_append, List.length_cons, List.length_nil] at h
    rw [← List.append_assoc, dist_s3]
    rcases min3_cases (dist w (u ++ v) + cst c d) (dist w (u ++ v ++ [d]) + 2) (dist (w ++ [c]) (u ++ v) + 2) with e | e | e <;> rw [e]
    · obtain ⟨k, hk, i⟩ := ih n (Nat.lt_succ_self n) w u v (by omega)
      refine ⟨k, by rw [List.length_append]; omega, ?_⟩
      rw [List.take_append_of_le_length hk, List.drop_append_of_le_length hk]
      have := (min3_le (dist (w.drop k) v + cst c d) (dist (w.drop k) (v ++ [d]) + 2) (dist (w.drop k ++ [c]) v + 2)).1
      rw [← dist_s3] at this
      omega
    · obtain ⟨k, hk, i⟩ := ih n (Nat.lt_succ_self n) w u (v ++ [d]) (by rw [List.length_append, List.length_singleton]; omega)
      refine ⟨k, by rw [List.length_append]; omega, ?_⟩
      rw [List.take_append_of_le_length hk, List.drop_append_of_le_length hk]
      have := dist_upL c (w.drop k) (v ++ [d])
      rw [← List.append_assoc] at i
      omega
    · obtain ⟨k, hk, i⟩ := ih n (Nat.lt_succ_self n) (w ++ [c]) u v (by rw [List.length_append, List.length_singleton]; omega)
      refine ⟨k, hk, ?_⟩
      have := dist_upR d ((w ++ [c]).drop k) v
      omega
theorem dist_le_cut (w u v : List Nat) (k : Nat) : dist w (u ++ v) ≤ dist (w.take k) u + dist (w.drop k) v := by
  have := dist_add _ (w.take k) (w.drop k) u v (Nat.le_refl _)
  rwa [List.take_append_drop] at this
/-- what a run of one sign costs -/
def prc (n a b s : Nat) : Int := 2 * max (s : Int) (n : Int) - 2 * min (s : Int) (a : Int) - min ((s : Int) - min (s : Int) (a : Int)) (b : Int)
theorem min3_eq {A B C D : Int} (h1 : D ≤ A) (h2 : D ≤ B) (h3 : D ≤ C) (h : A ≤ D ∨ B ≤ D) : D = min (min A B) C := by omega
theorem prc_ge {n a b : Nat} (s : Nat) (k : a + b ≤ n) : 2 * (n : Int) - 2 * s ≤ prc n a b s ∧ 2 * (n : Int) - a - s ≤ prc n a b s ∧ 2 * (n : Int) - 2 * a - b ≤ prc n a b s ∧ 2 * (s : Int) - 2 * a - b ≤ prc n a b s := by
  unfold prc
  omega
theorem prc_of {n a b : Nat} (s : Nat) (k : a + b ≤ n) : prc n a b s ≤ 2 * (n : Int) - 2 * s ∨ prc n a b s ≤ 2 * (n : Int) - a - s ∨ prc n a b s ≤ 2 * (n : Int) - 2 * a - b ∨ prc n a b s ≤ 2 * (s : Int) - 2 * a - b := by
  unfold prc
  omega
theorem prc_step {n a b n' a' b' s : Nat} {c : Int} (k : a + b ≤ n) (hn : n' = n + 1) (h : (a' = a + 1 ∧ b' = b ∧ c = 0) ∨ (a' = a ∧ b' = b + 1 ∧ c = 1) ∨ (a' = a ∧ b' = b ∧ c = 2)) :
    prc n' a' b' (s + 1) = min (min (prc n a b s + c) (prc n a b (s + 1) + 2)) (prc n' a' b' s + 2) := by
  have k' : a' + b' ≤ n' := by omega
  have g1 := prc_ge s k
  have g2 := prc_ge (s + 1) k
  have g3 := prc_ge s k'
  have g4 := prc_ge (s + 1) k'
  have o1 := prc_of s k
  have o2 := prc_of (s + 1) k
  have o4 := prc_of (s + 1) k'
  subst hn
  generalize prc n a b s = A at *
  generalize prc n a b (s + 1) = B at *
  generalize prc (n + 1) a' b' s = C at *
  generalize prc (n + 1) a' b' (s + 1) = D at *
  rcases h with ⟨rfl, rfl, rfl⟩ | ⟨rfl, rfl, rfl⟩ | ⟨rfl, rfl, rfl⟩
  · refine min3_eq ?_ ?_ ?_ (.inl ?_)
    · clear o1 o2 g2 g3 g4 k'; omega
    · clear o1 o2 g1 g3 g4 k'; omega
    · clear o1 o2 g1 g2 g4 k'; omega
    · clear o2 o4 g1 g2 g3 k'; omega
  · refine min3_eq ?_ ?_ ?_ ?_
    · clear o1 o2 g2 g3 g4 k'; omega
    · clear o1 o2 g1 g3 g4 k'; omega
    · clear o1 o2 g1 g2 g4 k'; omega
    · by_cases h : a' ≤ s
      · left; clear o2 o4 g1 g2 g3 k'; omega
      · right; clear o1 o4 g1 g2 g3 k'; omega
  · refine min3_eq ?_ ?_ ?_ ?_
    · clear o1 o2 g2 g3 g4 k'; omega
    · clear o1 o2 g1 g3 g4 k'; omega
    · clear o1 o2 g1 g2 g4 k'; omega
    · by_cases h : a' + b' ≤ s
      · left; clear o2 o4 g1 g2 g3 k'; omega
      · right; clear o1 o4 g1 g2 g3 k'; omega
theorem count_two {x o : Nat} (hx : x ≠ o) : ∀ p : List Nat, p.count x + p.count o ≤ p.length
  | [] => Nat.le_refl _
  | c :: p => by
    have := count_two hx p
    rw [List.count_cons, List.count_cons, List.length_cons]
    by_cases h1 : c = x
    · subst h1
      rw [if_pos (by simp), if_neg (by simp [hx])]
      omega
    · rw [if_neg (by simpa using h1)]
      split <;> omega
theorem dist_run {x o : Nat} (hx : x ≠ o) : ∀ (s n : Nat) (p : List Nat), p.length ≤ n → (∀ c ∈ p, cst c x = if c = x then 0 else if c = o then 1 else 2) → dist p (List.replicate s x) = prc p.length (p.count x) (p.count o) s := by
  intro s
  induction s with
  | zero =>
    intro n p _ _
    rw [List.replicate_zero, dist_nil_r]
    unfold prc
    omega
  | succ s ihs =>
    intro n
    induction n with
    | zero =>
      intro p hp _
      obtain rfl := List.eq_nil_of_length_eq_zero (Nat.le_zero.mp hp)
      rw [dist_nil_l, List.length_replicate]
      simp only [prc, List.length_nil, List.count_nil]
      omega
    | succ n ihn =>
      intro p hp hc
      rcases snoc_cases p with rfl | ⟨p, c, rfl⟩
      · rw [dist_nil_l, List.length_replicate]
        simp only [prc, List.length_nil, List.count_nil]
        omega
      have hp' : p.length ≤ n := by rw [List.length_append, List.length_singleton] at hp; omega
      have hc' : ∀ c ∈ p, cst c x = if c = x then 0 else if c = o then 1 else 2 := fun q hq => hc q (List.mem_append_left _ hq)
      have i1 := ihs n p hp' hc'
      have i2 := ihn p hp' hc'
      have i3 := ihs (n + 1) (p ++ [c]) hp hc
      have h0 := hc c (List.mem_append_right _ (.head _))
      have ht := count_two hx p
      rw [List.replicate_succ', dist_s3, i1, i3, ← List.replicate_succ', i2, h0]
      rw [List.length_append, List.length_singleton, List.count_append, List.count_append, List.count_singleton, List.count_singleton]
      clear i1 i2 i3 ihs ihn hc hc' h0 hp hp'
      refine (prc_step ht rfl ?_).symm
      by_cases h1 : c = x
      · subst h1
        exact .inl ⟨by rw [if_pos (by simp)], by rw [if_neg (by simp [hx]), Nat.add_zero], if_pos rfl⟩
      · by_cases h2 : c = o
        · subst h2
          exact .inr (.inl ⟨by rw [if_neg (by simpa using h1), Nat.add_zero], by rw [if_pos (by simp)], by rw [if_neg h1, if_pos rfl]⟩)
        · exact .inr (.inr ⟨by rw [if_neg (by simpa using h1), Nat.add_zero], by rw [if_neg (by simpa using h2), Nat.add_zero], by rw [if_neg h1, if_neg h2]⟩)
theorem cst_zero {c d : Nat} (h : cst c d ≤ 0) : c = d := by
  unfold cst at h
  by_cases e : c = d
  · exact e
  · rw [if_neg e] at h
    split at h <;> omega
/-- a distance as small as can be: the shorter text lies in the longer one -/
theorem sub_of_dist : ∀ (n : Nat) (a b : List Nat), a.length + b.length ≤ n → dist a b ≤ 2 * ((a.length : Int) - b.length) → b.Sublist a := by
  intro n
  induction n using Nat.strongRecOn with
  | _ n ih =>
    intro a b h hd
    rcases snoc_cases b with rfl | ⟨b, d, rfl⟩
    · exact List.nil_sublist _
    rcases snoc_cases a with rfl | ⟨a, c, rfl⟩
    · rw [dist_nil_l] at hd
      simp only [List.length_append, List.length_cons, List.length_nil] at hd
      omega
    rcases n with _ | n
    · simp at h
    rw [dist_s3] at hd
    simp only [List.length_append, List.length_cons, List.length_nil] at h hd
    have g1 := dist_ge a b
    have g3 := dist_ge (a ++ [c]) b
    rw [List.length_append, List.length_singleton] at g3
    have g0 := (cst_b c d).1
    rcases min3_cases (dist a b + cst c d) (dist a (b ++ [d]) + 2) (dist (a ++ [c]) b + 2) with e | e | e <;> rw [e] at hd
    · have := cst_zero (c := c) (d := d) (by omega)
      subst this
      exact List.Sublist.append (ih n (Nat.lt_succ_self n) a b (by omega) (by omega)) (List.Sublist.refl _)
    · exact (ih n (Nat.lt_succ_self n) a (b ++ [d]) (by rw [List.length_append, List.length_singleton]; omega) (by rw [List.length_append, List.length_singleton]; omega)).trans (List.sublist_append_left _ _)
    · omega
theorem dist_of_sub {a b : List Nat} (h : b.Sublist a) : dist a b ≤ 2 * ((a.length : Int) - b.length) := by
  have k : ∀ {b a : List Nat}, b.Sublist a → dist a.reverse b.reverse ≤ 2 * ((a.length : Int) - (b.length : Int)) := by
    intro b a h
    induction h with
    | slnil => rw [List.reverse_nil, dist_self]; simp
    | @cons a b c _ ih =>
      rw [List.reverse_cons, List.length_cons]
      have := dist_upL c b.reverse a.reverse
      omega
    | @cons_cons a b c _ ih =>
      rw [List.reverse_cons, List.reverse_cons, dist_snoc, List.length_cons, List.length_cons]
      omega
  have h1 := k h.reverse
  rwa [List.reverse_reverse, List.reverse_reverse, List.length_reverse, List.length_reverse] at h1
theorem dist_iff (a b : List Nat) : dist a b ≤ 2 * ((a.length : Int) - b.length) ↔ b.Sublist a := ⟨sub_of_dist _ a b (Nat.le_refl _), dist_of_sub⟩
/-- whose turn it is -/
theorem turn_iff {x y c : Nat} (hxy : x ≠ y) {p q : List Nat} (hc : c = x ∨ c = y) : (List.replicate (p.count x + 1) x ++ List.replicate ((c :: q).count y) y).Sublist (p ++ c :: q) ↔ c = x := by
  constructor
  · intro h
    rcases hc with rfl | rfl
    · rfl
    exfalso
    obtain ⟨r1, r2, e, h1, h2⟩ := List.append_sublist_iff.mp h
    rw [List.replicate_sublist_iff] at h1 h2
    rw [List.count_cons_self] at h2
    rcases List.append_eq_append_iff.mp e with ⟨a', e1, e2⟩ | ⟨c', e1, e2⟩
    · rcases a' with _ | ⟨z, a'⟩
      · rw [List.append_nil] at e1
        rw [e1] at h1
        omega
      · rw [List.cons_append] at e2
        have e3 := (List.cons.inj e2).2
        rw [e3, List.count_append] at h2
        omega
    · rw [e1, List.count_append] at h1
      omega
  · rintro rfl
    rw [List.count_cons_of_ne (fun e => hxy e), List.replicate_succ']
    rw [show p ++ c :: q = (p ++ [c]) ++ q by simp]
    exact List.Sublist.append (List.Sublist.append (List.replicate_sublist_iff.mpr (Nat.le_refl _)) (List.Sublist.refl _)) (List.replicate_sublist_iff.mpr (Nat.le_refl _))
def inP (x y : Nat) (c : Nat) : Bool := decide (c = x) || decide (c = y)
theorem sub_filter {x y s t : Nat} {w : List Nat} : (List.replicate s x ++ List.replicate t y).Sublist w ↔ (List.replicate s x ++ List.replicate t y).Sublist (w.filter (inP x y)) := by
  constructor
  · intro h
    have := h.filter (inP x y)
    rwa [List.filter_eq_self.mpr] at this
    intro a ha
    rcases List.mem_append.mp ha with ha | ha
    · rw [(List.mem_replicate.mp ha).2]; simp [inP]
    · rw [(List.mem_replicate.mp ha).2]; simp [inP]
  · intro h
    exact h.trans List.filter_sublist
end
section
open PySem PySem.W PySem.Calls PyProof.Rows
def pool7 : List Nat := [97, 65, 98, 66, 34, 32, 10]
/-- the letter in the other size -/
def othr (c : Nat) : Nat := if c = 97 then 65 else if c = 65 then 97 else if c = 98 then 66 else if c = 66 then 98 else 45
theorem cst_pool : ∀ x ∈ pool7, ∀ c ∈ pool7, cst c x = if c = x then 0 else if c = othr x then 1 else 2 := by decide +kernel
theorem othr_ne : ∀ x ∈ pool7, x ≠ othr x := by decide
def prcS (p : List Nat) (x s : Nat) : Int := prc p.length (p.count x) (p.count (othr x)) s
theorem dist_prc {p : List Nat} {x s : Nat} (hx : x ∈ pool7) (hp : ∀ c ∈ p, c ∈ pool7) : dist p (List.replicate s x) = prcS p x s :=
  dist_run (othr_ne x hx) s p.length p (Nat.le_refl _) fun c hc => cst_pool x hx c (hp c hc)
/-- what a cut costs -/
def cutC (w : List Nat) (x y s t k : Nat) : Int := prcS (w.take k) x s + prcS (w.drop k) y t
theorem cuts_min {w : List Nat} {x y s t : Nat} {M : Int} (hx : x ∈ pool7) (hy : y ∈ pool7) (hw : ∀ c ∈ w, c ∈ pool7)
    (h1 : M ∈ (List.range' 0 (w.length + 1)).map (cutC w x y s t)) (h2 : ∀ a ∈ (List.range' 0 (w.length + 1)).map (cutC w x y s t), M ≤ a) : M = dist w (List.replicate s x ++ List.replicate t y) := by
  have e : ∀ k, cutC w x y s t k = dist (w.take k) (List.replicate s x) + dist (w.drop k) (List.replicate t y) := fun k => by
    unfold cutC
    rw [dist_prc hx (fun c hc => hw c (List.mem_of_mem_take hc)), dist_prc hy (fun c hc => hw c (List.mem_of_mem_drop hc))]
  obtain ⟨k, hk, rfl⟩ := List.mem_map.mp h1
  obtain ⟨k', hk', i⟩ := dist_cut _ w (List.replicate s x) (List.replicate t y) (Nat.le_refl _)
  have a := h2 _ (List.mem_map_of_mem (List.mem_range'_1.mpr ⟨Nat.zero_le _, by lia⟩ : k' ∈ _))
  have b := dist_le_cut w (List.replicate s x) (List.replicate t y) k
  rw [e] at a ⊢
  rw [e] at a
  lia
theorem prcS_b {p : List Nat} {x s : Nat} (hp : p.length ≤ 100) (hs : s ≤ 100) : -1000 ≤ prcS p x s ∧ prcS p x s ≤ 1000 := by
  unfold prcS prc
  have := List.count_le_length (a := x) (l := p)
  have := List.count_le_length (a := othr x) (l := p)
  lia
end
section
open PySem PySem.W PySem.Calls PyProof.Rows
section
variable {A : Around} {E : Value → Shared → Prop} {s : Shared} {t u : Tok} {value slice : Expr} {x y : Nat} {Q : Value → Shared → Prop}
theorem pr0 (h : Q (.str (S [x]) s.toks) { s with toks := s.toks + 1 })
    (hs : subscripted slice false (.str (S [x, y]) t) (.int 0 u) = operate [.str (S [x, y]) t, .int 0 u] (getItem (.str (S [x, y]) t) (.int 0 u)) := by with_unfolding_all rfl)
    (ht : ∀ r, letTemporaryGo value (.str (S [x, y]) t) r = pure () := by intro _; with_unfolding_all rfl) :
    wpAny (model PR w) A (subscriptTail value slice (.str (S [x, y]) t) (.int 0 u)) Q E s :=
  it_nat (l := [x, y]) (by decide) (by simp) (by simp) h hs ht
theorem pr1 (h : Q (.str (S [y]) s.toks) { s with toks := s.toks + 1 })
    (hs : subscripted slice false (.str (S [x, y]) t) (.int 1 u) = operate [.str (S [x, y]) t, .int 1 u] (getItem (.str (S [x, y]) t) (.int 1 u)) := by with_unfolding_all rfl)
    (ht : ∀ r, letTemporaryGo value (.str (S [x, y]) t) r = pure () := by intro _; with_unfolding_all rfl) :
    wpAny (model PR w) A (subscriptTail value slice (.str (S [x, y]) t) (.int 1 u)) Q E s :=
  it_nat (l := [x, y]) (by decide) (by simp) (by simp) h hs ht
theorem pr_sel {c : Nat} {i : Int} (hc : (i = 1 ∧ c = x) ∨ (i = 0 ∧ c = y)) (h : Q (.str (S [c]) s.toks) { s with toks := s.toks + 1 })
    (hs : ∀ i, subscripted slice false (.str (S [x, y]) t) (.int i u) = operate [.str (S [x, y]) t, .int i u] (getItem (.str (S [x, y]) t) (.int i u)) := by intro _; with_unfolding_all rfl)
    (ht : ∀ r, letTemporaryGo value (.str (S [x, y]) t) r = pure () := by intro _; with_unfolding_all rfl) :
    wpAny (model PR w) A (subscriptTail value slice (.str (S [x, y]) t) (.int (1 - i) u)) Q E s := by
  rcases hc with ⟨rfl, rfl⟩ | ⟨rfl, rfl⟩
  · exact pr0 h (hs _) ht
  · exact pr1 h (hs _) ht
end
/-- a call that leaves the objects it is shown and lays new ones ahead -/
theorem call_ro {w : World} {d : Nat} {A : Around} {P : Heap} {L : Addr} {s z : Shared} {m : Str → Option Value} {f : Value} {args : List Value} {H news : List (Addr × Obj)} {Qr : Value → List (Addr × Obj) → Prop} {Qv : Value → Shared → Prop} {E : Value → Shared → Prop}
    (S : Spec w d f args H (fun v H' => ∃ X, Qr v X ∧ (∀ p ∈ X, ∀ q ∈ H, p.1 ≠ q.1) ∧ H' = X ++ H)) (r : Rm A d) (G : Gd w P) (F : Fr P L s.heap m) (N : News P L s.heap news) (hn : Sub H news)
    (lz : Like z s) (h : ∀ v X s', Qr v X → Like z s' → Fr P L s'.heap m → News P L s'.heap (X ++ news) → (∀ p ∈ X, ∀ q ∈ news, p.1 ≠ q.1) → Qv v s') :
    wpAny (model PR w) A (call f args) Qv E s := by
  classical
  have key : ∀ p ∈ news, (∃ q ∈ H, q.1 = p.1) → p ∈ H := by
    rintro p hp ⟨q, hq, e⟩
    have h1 := (N p hp).1
    have h2 := (N q (hn q hq)).1
    rw [← e, h2] at h1
    have : p = q := Prod.ext e.symm (Option.some.inj h1).symm
    rw [this]; exact hq
  refine call_spec (rest := news.filter fun p => decide (¬ ∃ q ∈ H, q.1 = p.1)) S r G F N (fun p hp => ?_) (fun p hp q hq e => ?_) lz ?_
  · rcases List.mem_append.mp hp with hp | hp
    · exact hn p hp
    · exact (List.mem_filter.mp hp).1
  · exact of_decide_eq_true (List.mem_filter.mp hp).2 ⟨q, hq, e.symm⟩
  · rintro v H' s' ⟨X, hX, hap, rfl⟩ l' F' N' ap
    have cl : ∀ p ∈ news, p ∈ H ∨ p ∈ news.filter fun p => decide (¬ ∃ q ∈ H, q.1 = p.1) := fun p hp => by
      by_cases c : ∃ q ∈ H, q.1 = p.1
      · exact .inl (key p hp c)
      · exact .inr (List.mem_filter.mpr ⟨hp, decide_eq_true c⟩)
    refine h v X s' hX l' F' (subN N' fun p hp => ?_) fun p hp q hq => ?_
    · rcases List.mem_append.mp hp with hp | hp
      · exact List.mem_append_left _ (List.mem_append_left _ hp)
      · rcases cl p hp with c | c
        · exact List.mem_append_left _ (List.mem_append_right _ c)
        · exact List.mem_append_right _ c
    · rcases cl q hq with c | c
      · exact hap p hp q c
      · exact ap p (List.mem_append_left _ hp) q c
end
section
theorem lit_oth : Str.ofString "AaBb-" = S [65, 97, 66, 98, 45] := by decide +kernel
section
variable {A : Around} {E : Value → Shared → Prop} {P : Heap} {s : Shared} {L : Addr} {m : Str → Option Value} {H : List (Addr × Obj)} {t u : Tok} {value slice : Expr} {Q : Value → Shared → Prop}
theorem othr_at {c : Nat} (hc : c ∈ pool7) (h : Q (.str (S [othr c]) s.toks) { s with toks := s.toks + 1 })
    (hs : ∀ i, subscripted slice false (.str (S [65, 97, 66, 98, 45]) t) (.int i u) = operate [.str (S [65, 97, 66, 98, 45]) t, .int i u] (getItem (.str (S [65, 97, 66, 98, 45]) t) (.int i u)) := by intro _; with_unfolding_all rfl)
    (ht : ∀ r, letTemporaryGo value (.str (S [65, 97, 66, 98, 45]) t) r = pure () := by intro _; with_unfolding_all rfl) :
    wpAny (model PR w) A (subscriptTail value slice (.str (Str.ofString "AaBb-") t) (.int (Txt.find (Str.ofString "aAbB") (S [c])) u)) Q E s := by
  rw [lit_oth]
  simp only [pool7, List.mem_cons, List.not_mem_nil, or_false] at hc
  rcases hc with rfl | rfl | rfl | rfl | rfl | rfl | rfl
  · rw [show Txt.find (Str.ofString "aAbB") (S [97]) = 0 by decide +kernel]
    exact it_nat (l := [65, 97, 66, 98, 45]) (by decide) (by decide) (by decide) h (hs _) ht
  · rw [show Txt.find (Str.ofString "aAbB") (S [65]) = 1 by decide +kernel]
    exact it_nat (l := [65, 97, 66, 98, 45]) (by decide) (by decide) (by decide) h (hs _) ht
  · rw [show Txt.find (Str.ofString "aAbB") (S [98]) = 2 by decide +kernel]
    exact it_nat (l := [65, 97, 66, 98, 45]) (by decide) (by decide) (by decide) h (hs _) ht
  · rw [show Txt.find (Str.ofString "aAbB") (S [66]) = 3 by decide +kernel]
    exact it_nat (l := [65, 97, 66, 98, 45]) (by decide) (by decide) (by decide) h (hs _) ht
  · rw [show Txt.find (Str.ofString "aAbB") (S [34]) = -1 by decide +kernel]
    exact it_neg (l := [65, 97, 66, 98, 45]) (by decide) (by decide) (by decide) h (hs _) ht
  · rw [show Txt.find (Str.ofString "aAbB") (S [32]) = -1 by decide +kernel]
    exact it_neg (l := [65, 97, 66, 98, 45]) (by decide) (by decide) (by decide) h (hs _) ht
  · rw [show Txt.find (Str.ofString "aAbB") (S [10]) = -1 by decide +kernel]
    exact it_neg (l := [65, 97, 66, 98, 45]) (by decide) (by decide) (by decide) h (hs _) ht
theorem cnt_count (c : Nat) : ∀ l : List Nat, PyProof.Rows.cnt c l = ((l.count c : Nat) : Int)
  | [] => rfl
  | d :: l => by
    rw [PyProof.Rows.cnt_cons, cnt_count c l, List.count_cons]
    by_cases h : d = c
    · subst h; simp; lia
    · simp [h]
theorem countS_S {l : List Nat} {c : Nat} (h : Q (.int ((l.count c : Nat) : Int) s.toks) { s with toks := s.toks + 1 }) : wpAny (model PR w) A (call (.builtin "str.count") [.str (S l) t, .str (S [c]) u]) Q E s := by
  refine SC.count ?_
  rw [show Txt.count (S l) (S [c]) = ((l.count c : Nat) : Int) from (PyProof.Rows.count_is (S l) c).trans (cnt_count c l)]
  exact h
end
local macro_rules | `(tactic| walk_at "subscriptTail") => `(tactic| ((with_reducible show wpAny _ _ (subscriptTail _ _ (Value.str (Str.ofString "AaBb-") _) (Value.int (Txt.find _ _) _)) _ _ _); refine othr_at (by assumption) ?_))
local macro_rules | `(tactic| walk_at "call builtin:str.count") => `(tactic| refine countS_S ?_)
local macro_rules | `(tactic| walk_at "call builtin:max") => `(tactic| (refine max_two_N (Rm.hh (by assumption)) (by assumption) (by assumption) ?_; intro _ _ _ _))
theorem if_max (a b : Int) : (if a > b then a else b) = max b a := by lia
theorem if_min (a b : Int) : (if a < b then a else b) = min b a := by lia
theorem price_eq {n a b k : Nat} : (((2 * if (n : Int) > (k : Int) then (n : Int) else (k : Int)) - 2 * if (a : Int) < (k : Int) then (a : Int) else (k : Int)) - if (b : Int) < (k : Int) - (if (a : Int) < (k : Int) then (a : Int) else (k : Int)) then (b : Int) else (k : Int) - if (a : Int) < (k : Int) then (a : Int) else (k : Int)) = prc n a b k := by
  unfold prc
  rw [if_max, if_min, if_min]
theorem price_s {p : List Nat} {c k : Nat} {t u v : Tok} (hc : c ∈ pool7) (hp : p.length ≤ 100) (hkk : k ≤ 100) :
   Spec w 3 (.ref 117) [.str (S p) t, .str (S [c]) u, .int (k : Nat) v] [] (fun v H' => ∃ tk, v = .int (prcS p c k) tk ∧ H' = []) := by
  walk_at "m fill"
  refine' spec_def [("part", .str (S p) t), ("sign", .str (S [c]) u), ("size", .int (k : Nat) v)] ?k1 ?k2 ?k3 ?k4 ?k5 ?c1 ?c2 ?c3 ?c4
  walk_at "m enter"
  intro A P L s z p loose mean mg mb r G lz X T F N K0 hK0
  (try k_fold)
  walk_at "m go"
  exact ⟨⟨_, congrArg (fun x => Value.int x _) price_eq, rfl⟩⟩
end
section
theorem lit_sn : Str.ofString " \n" = S [32, 10] := by decide +kernel
local macro_rules | `(tactic| walk_at "compareOp In str str") => `(tactic| refine in_one lit_sn ?_)
theorem ex_val {v : Value} {p : Prop} {x y : List Nat} {t : Tok} (h : v = .str (S x) t) (e : x = y) (hp : p) : ∃ tt, v = .str (S y) tt ∧ p := ⟨t, e ▸ h, hp⟩
theorem ex_txt {o : Option Value} {x y : List Nat} {t : Tok} (h : o = some (.str (S x) t)) (e : x = y) : ∃ tt, o = some (.str (S y) tt) := ⟨t, e ▸ h⟩
theorem need_f (k c : Nat) : need false k c = (decide (c ∈ [10, 9, 13, 32, 92]) || (decide (k = 0) && decide (c = 34))) := rfl
theorem piece_yes {q : Bool} {word : List Nat} {sl : List Int} {k : Nat} (h : need q k (word.getD k 0) = true ∨ (sl.getD k 0) % 2 = 1) : piece q word sl k = [92] ++ [word.getD k 0] := if_pos h
theorem piece_no {q : Bool} {word : List Nat} {sl : List Int} {k : Nat} (h : need q k (word.getD k 0) = false) (h2 : ¬ (sl.getD k 0) % 2 = 1) : piece q word sl k = [word.getD k 0] := if_neg (by rintro (a | a); rw [h] at a; cases a; exact h2 a)
theorem p_q : ∀ c ∈ pool7, decide (c ∈ [34, 92]) = decide (c = 34) := by decide
theorem p_b : ∀ c ∈ pool7, decide (c ∈ [10, 9, 13, 32, 92]) = decide (c ∈ [32, 10]) := by decide
theorem S1_b (c d : Nat) : (S [c] == S [d]) = decide (c = d) := by rw [S_beq]; by_cases h : c = d <;> simp [h]
theorem gd_pool {word : List Nat} (hp : ∀ c ∈ word, c ∈ pool7) {k : Nat} (hkk : k < word.length) : word.getD k 0 ∈ pool7 := by
  rw [List.getD_eq_getElem?_getD, List.getElem?_eq_getElem hkk]
  exact hp _ (List.getElem_mem hkk)
theorem written_s {word : List Nat} {sl : List Int} {q : Bool} {wc : Nat} {D : Addr} {vs : List Value} {n : Nat} {t tw : Tok} (hv : IntsAre vs sl) (hl : sl.length = word.length) (hw : word.length ≤ 100) (hp : ∀ c ∈ word, c ∈ pool7) :
   Spec w 5 (.ref 84) [.str (S word) t, .ref D, .bool q, .str (S [wc]) tw] [(D, listOf vs.toArray n)] (fun v H' => ∃ tk, v = .str (S (open1 q word sl ++ [close1 q wc])) tk ∧ H' = [(D, listOf vs.toArray n)]) := by
  walk_at "m fill"
  refine' spec_def [("word", .str (S word) t), ("slashes", .ref D), ("quoted", .bool q), ("white", .str (S [wc]) tw)] ?k1 ?k2 ?k3 ?k4 ?k5 ?c1 ?c2 ?c3 ?c4
  walk_at "m enter"
  intro A P L s z p loose mean mg mb r G lz X T F N K0 hK0
  (try k_fold)
  have hvl := hv.length
  obtain ⟨op, hop⟩ : ∃ op : List Nat, op = if q = true then [34] else [] := ⟨_, rfl⟩
  have hol : op.length ≤ 1 := by rw [hop]; split <;> simp
  refine cut P L (s₀ := z) (by walk_at "LK") (fun m' H' => (∃ tt, m' "text" = some (.str (S op) tt)) ∧ m' "word" = some (.str (S word) t) ∧ m' "slashes" = some (.ref D) ∧ m' "quoted" = some (.bool q) ∧ m' "white" = some (.str (S [wc]) tw) ∧ H' = [(D, listOf vs.toArray n)]) ?_ ?_
  · intro K1 hK1
    walk_at "m go"
    · refine ⟨⟨_, Sub.rfl', ⟨s.toks, ?_⟩, rfl, rfl, rfl, rfl, rfl⟩⟩
      rw [hop, if_pos (by assumption)]; rfl
    · refine ⟨⟨_, Sub.rfl', ⟨s.toks, ?_⟩, rfl, rfl, rfl, rfl, rfl⟩⟩
      have hq : q = false := by assumption
      rw [hop, hq]; rfl
  rintro s₁ m' H' l₁ ⟨⟨tt, g1⟩, g2, g3, g4, g5, rfl⟩ F₁ N₁
  k_sweep
  refine cut P L (s₀ := z) (by walk_at "LK") (fun m' H' => (∃ tt, m' "text" = some (.str (S (op ++ body q word sl word.length)) tt)) ∧ m' "quoted" = some (.bool q) ∧ m' "white" = some (.str (S [wc]) tw) ∧ H' = [(D, listOf vs.toArray n)]) ?_ ?_
  · intro K1 hK1
    refine for_in ?_
    walk_at "m go"
    refine' ⟨loop_range (by assumption) r.hh rfl rfl (s₀ := z) (by walk_at "LK") (by lia) (by lia) (by lia) (by lia) (n := word.length) (by lia) ?LF ?LN
      (fun k m' H' => (∃ tt, m' "text" = some (.str (S (op ++ body q word sl k)) tt)) ∧ m' "word" = some (.str (S word) t) ∧ m' "slashes" = some (.ref D) ∧ m' "quoted" = some (.bool q) ∧ m' "white" = some (.str (S [wc]) tw) ∧ H' = [(D, listOf vs.toArray n)]) ?LJ ?_ ?_⟩
    case LF => assumption
    case LN => assumption
    case LJ => exact ⟨⟨tt, by rw [body_zero, List.append_nil]; exact g1⟩, g2, g3, g4, g5, rfl⟩
    · rintro k tv m₁ H₁ s₁ I io l₁ hkk ⟨⟨tt, g1⟩, g2, g3, g4, g5, rfl⟩ ne F₁ N₁ K2 hK2
      have e0 : (0 : Int) + k = k := by lia
      rw [e0] at F₁
      have hb := body_len q word sl k
      have hDI : D ≠ I := ne _ (.head _)
      k_sweep
      refine cut P L (s₀ := z) (by walk_at "LK") (fun m' H' => m' "needed" = some (.bool (need q k (word.getD k 0))) ∧ m' "k" = some (.int k tv) ∧ (∃ tt, m' "text" = some (.str (S (op ++ body q word sl k)) tt)) ∧ m' "word" = some (.str (S word) t) ∧ m' "slashes" = some (.ref D) ∧ m' "quoted" = some (.bool q) ∧ m' "white" = some (.str (S [wc]) tw) ∧ H' = [(I, io), (D, listOf vs.toArray n)]) ?_ ?_
      · intro K1 hK1
        have hpk := gd_pool hp hkk
        walk_at "m go"
        · refine ⟨⟨_, Sub.rfl', ?_, rfl, ⟨tt, g1⟩, g2, g3, g4, g5, rfl⟩⟩
          have hq : q = true := by assumption
          show some (Value.bool (S [word.getD k 0] == Str.ofString "\"")) = some (Value.bool _)
          rw [hq, lit_q, S1_b]
          exact congrArg (fun x => some (Value.bool x)) (p_q _ hpk).symm
        · refine ⟨⟨_, Sub.rfl', ?_, rfl, ⟨tt, g1⟩, g2, g3, g4, g5, rfl⟩⟩
          have hq : q = false := by assumption
          have h0 : word.getD k 0 ∈ [32, 10] := by assumption
          show some (Value.bool (decide (word.getD k 0 ∈ [32, 10]))) = some (Value.bool _)
          rw [hq, need_f, p_b _ hpk, decide_eq_true h0]; rfl
        · refine ⟨⟨_, Sub.rfl', ?_, rfl, ⟨tt, g1⟩, g2, g3, g4, g5, rfl⟩⟩
          have hq : q = false := by assumption
          have h0 : ¬ word.getD k 0 ∈ [32, 10] := by assumption
          have hk1 : (k : Int) = 0 := by assumption
          have hk0 : k = 0 := by lia
          show some (Value.bool (S [word.getD k 0] == Str.ofString "\"")) = some (Value.bool _)
          rw [hq, need_f, p_b _ hpk, decide_eq_false h0, decide_eq_true hk0, Bool.false_or, Bool.true_and, lit_q, S1_b]
        · refine ⟨⟨_, Sub.rfl', ?_, rfl, ⟨tt, g1⟩, g2, g3, g4, g5, rfl⟩⟩
          have hq : q = false := by assumption
          have h0 : ¬ word.getD k 0 ∈ [32, 10] := by assumption
          have hk1 : ¬ (k : Int) = 0 := by assumption
          have hk0 : ¬ k = 0 := by lia
          have hk2 : ((k : Int) == 0) = false := by simpa using hk0
          show some (Value.bool ((k : Int) == 0)) = some (Value.bool _)
          rw [hq, need_f, p_b _ hpk, decide_eq_false h0, decide_eq_false hk0, hk2]; rfl
      · rintro s₂ m₂ H₂ l₂ ⟨f1, f2, ⟨tt, f3⟩, f4, f5, f6, f7, rfl⟩ F₂ N₂
        k_sweep
        have hfm : (sl.getD ((k : Int)).toNat 0).fmod 2 = sl.getD k 0 % 2 := by rw [Int.toNat_natCast]; exact Int.fmod_eq_emod_of_nonneg _ (by decide)
        generalize hnd : need q k (word.getD k 0) = nd at f1
        walk_at "m go"
        · refine ⟨⟨_, Sub.rfl', ?_, ex_txt (x := op ++ body q word sl k ++ ([92] ++ [word.getD k 0])) (y := op ++ body q word sl (k + 1)) rfl (by rw [body_succ, piece_yes (.inl (by rw [hnd]; assumption)), List.append_assoc]), f4, f5, f6, f7, rfl⟩⟩
          intro p hp; rw [List.mem_singleton.mp hp]; exact hDI
        · refine ⟨⟨_, Sub.rfl', ?_, ex_txt (x := op ++ body q word sl k ++ ([92] ++ [word.getD k 0])) (y := op ++ body q word sl (k + 1)) rfl (by rw [body_succ, piece_yes (.inr (by rw [← hfm]; assumption)), List.append_assoc]), f4, f5, f6, f7, rfl⟩⟩
          intro p hp; rw [List.mem_singleton.mp hp]; exact hDI
        · refine ⟨⟨_, Sub.rfl', ?_, ex_txt (x := op ++ body q word sl k ++ [word.getD k 0]) (y := op ++ body q word sl (k + 1)) rfl (by rw [body_succ, piece_no (by rw [hnd]; assumption) (by rw [← hfm]; assumption), List.append_assoc]), f4, f5, f6, f7, rfl⟩⟩
          intro p hp; rw [List.mem_singleton.mp hp]; exact hDI
    · rintro m₁ H₁ s₁ l₁ ⟨⟨tt, g1⟩, g2, g3, g4, g5, rfl⟩ F₁ N₁
      refine Imp2.go (by assumption) ?_; exact CutQ.next l₁ F₁ N₁ ⟨_, Sub.rfl', ⟨tt, g1⟩, g4, g5, rfl⟩
  · rintro s₁ m' H' l₁ ⟨⟨tt, g1⟩, g4, g5, rfl⟩ F₁ N₁
    have hb := body_len q word sl word.length
    k_sweep
    walk_at "m go"
    · have hq : q = true := by assumption
      exact ⟨ex_val rfl (by subst hop hq; rfl) rfl⟩
    · have hq : q = false := by assumption
      exact ⟨ex_val rfl (by subst hop hq; rfl) rfl⟩
end
section
local macro_rules | `(tactic| walk_at "setItem ref int") => `(tactic| (refine' ll_set ?k1 ?k2 ?k3 ?k4 ?k5 ?k6 ?_; (case k1 => assumption); (case k2 => assumption); (case k3 => walk_at "m upd"); (case k4 => lia); (case k5 => first | (simp only [List.length_cons, List.length_nil]; lia) | (simp; done)); (case k6 => lia); intro h' F' N'; (try k_sweep)))
theorem regk3 : True := by
  k_with "eval Name" => k_dflt (refine nameX_B (by assumption) (by assumption) (by exact topRead_of (by assumption)) (by k_is) (by boot_by_name) (by decide) ?_; k_whole)
  k_with "eval ListComp" => refine halt ?_
  k_with "binaryOp Mult str int" => (refine mult_S (by walk_at "m lit") (by lia) ?_; intro _ _)
  k_with "call builtin:str.count" => (refine count_S (by walk_at "m lit") ?_)
  k_with "subscriptTail" => ((with_reducible show wpAny _ _ (subscriptTail _ _ (Value.ref _) (Value.int _ _)) _ _ _); refine ll_sub (by assumption) (by k_mem) (by decide) rfl ?_ (by with_unfolding_all rfl))
  k_with "subscriptTail" => ((with_reducible show wpAny _ _ (subscriptTail _ _ (Value.str (Str.ofString _) _) (Value.int (Int.fmod _ 4) _)) _ _ _); refine white_at (fmod4 _) ?_)
  k_with "subscriptTail Name Name ref int" => refine ll_sub (by assumption) (by k_mem) (by decide) rfl ?_ (by with_unfolding_all rfl)
  k_with "subscriptTail Name Constant ref int" => refine ll_sub (by assumption) (by k_mem) (by decide) rfl ?_ (by with_unfolding_all rfl)
  k_with "newTuple" => (refine kup_newTuple (by assumption) (by assumption) ?_ (by size_fits); walk_at "i5l")
  k_with "binaryOp Add ref ref" => (refine ll_add (by assumption) (by assumption) (by k_mem) (by k_mem) (by (first | (simp only [List.length_cons, List.length_nil]; lia) | (simp; done))) ?_; walk_at "i5l")
  k_with "compareOp NotEq ref ref" => refine halt ?_
  k_with "subscriptTail" => ((with_reducible show wpAny _ _ (subscriptTail _ _ (Value.ref _) (Value.ref _)) _ _ _); refine halt ?_)
  k_with "getItem ref int" => refine ll_item (by assumption) (by k_mem) (by rw [(by assumption : Int.fmod (_ : Int) 2 = _)]; decide) (by rw [(by assumption : Int.fmod (_ : Int) 2 = _)]; rfl) ?_
  k_with "subscriptTail Name BinOp ref int" => refine ll_sub (by assumption) (by k_mem) (by rw [(by assumption : Int.fmod (_ : Int) 2 = _)]; decide) (by rw [(by assumption : Int.fmod (_ : Int) 2 = _)]; rfl) ?_ (by with_unfolding_all rfl)
  k_with "subscriptTail Name Constant ref int" => refine ll_sub (by assumption) (by k_mem) (by decide) (by assumption) ?_ (by with_unfolding_all rfl)
  k_with "subscriptTail Name UnaryOp ref int" => refine ll_last (by assumption) (by k_mem) (by assumption) (by assumption) ?_ (by with_unfolding_all rfl)
  k_with "call type:list" => ((with_reducible show wpAny _ _ (call (Value.type _) [Value.str _ _]) _ _ _); (refine list_S (by walk_at "LK") (Rm.hh (by assumption)) (by assumption) (by assumption) (by lia) ?_; intro _ _ _ _ _ _ _ _ _))
  k_with "assign Tuple" => ((with_reducible show wpAny _ _ (assign (Expr.Tuple _ _ _) _ (Value.ref _)) _ _ _); (first | refine kun_list (by assumption) (by assumption) (News.isList (by assumption) (by k_mem)) (Rm.hh (by assumption)) (by exact rfl) (by exact rfl) ?_ | refine unpackN_ (by assumption) (by assumption) (News.isTup (by assumption) (by k_mem)) (Rm.hh (by assumption)) (by exact rfl) (by exact rfl) ?_); walk_at "i3")
  k_with "subscriptTail" => ((with_reducible show wpAny _ _ (subscriptTail _ _ (Value.ref _) (Value.int _ _)) _ _ _); refine tup_sub (by assumption) (by k_mem) (by decide) rfl ?_ (by with_unfolding_all rfl))
  k_with "subscriptTail Name Constant str int" => ((with_reducible show wpAny _ _ (subscriptTail _ _ (Value.str (S [_, _]) _) (Value.int 0 _)) _ _ _); refine pr0 ?_)
  k_with "subscriptTail Name Constant str int" => ((with_reducible show wpAny _ _ (subscriptTail _ _ (Value.str (S [_, _]) _) (Value.int 1 _)) _ _ _); refine pr1 ?_)
  k_with "subscriptTail Name BinOp str int" => ((with_reducible show wpAny _ _ (subscriptTail _ _ (Value.str (S [_, _]) _) (Value.int (1 - _) _)) _ _ _); refine pr_sel (by assumption) ?_)
  trivial
section
theorem yes_iff {D least slack told : Int} (h0 : 0 ≤ slack) (h : Tells D (least + slack) told) : (told ≤ least ↔ D ≤ least) := by
  unfold Tells at h
  by_cases hd : D ≤ least + slack
  · rw [h.1 hd]
  · have := h.2 (by lia); lia
theorem yes_s {wd : List Nat} {x y s t : Nat} {least slack : Int} {As : Addr} {vs : List Value} {n : Nat} {tw tp ts tt tl tk : Tok} (hw : wd.length ≤ 20) (hs : s ≤ 20) (ht : t ≤ 20) (hl : -1000 ≤ least ∧ least ≤ 1000) (hkk : 0 ≤ slack ∧ slack ≤ 1000) (hvs : vs.length ≤ 1000) :
   Spec w 6 (.ref 105) [.ref As, .str (S wd) tw, .str (S [x, y]) tp, .int (s : Nat) ts, .int (t : Nat) tt, .int least tl, .int slack tk] [(As, listOf vs.toArray n)] (fun v H' => ∃ (k : Tok) (q : Addr) (told : Int) (a b c d : Tok), v = .int (if dist wd (List.replicate s x ++ List.replicate t y) ≤ least then 1 else 0) k ∧ Tells (dist wd (List.replicate s x ++ List.replicate t y)) (least + slack) told ∧ As ≠ q ∧ H' = [(q, tupOf [.int (s : Nat) a, .int (t : Nat) b, .int told c, .int (least + slack) d]), (As, listOf (vs ++ [Value.ref q]).toArray (n + 1))]) := by
  walk_at "m fill"
  refine' spec_def [("asked", .ref As), ("word", .str (S wd) tw), ("pair", .str (S [x, y]) tp), ("s", .int (s : Nat) ts), ("t", .int (t : Nat) tt), ("least", .int least tl), ("slack", .int slack tk)] ?k1 ?k2 ?k3 ?k4 ?k5 ?c1 ?c2 ?c3 ?c4
  walk_at "m enter"
  intro A P L s₀ z p loose mean mg mb r G lz X T F N K0 hK0
  (try k_fold)
  refine cut P L (s₀ := z) (by walk_at "LK") (fun m' H' => (∃ tr, m' "run" = some (.str (S (List.replicate s x ++ List.replicate t y)) tr)) ∧ m' "asked" = some (.ref As) ∧ m' "word" = some (.str (S wd) tw) ∧ m' "s" = some (.int (s : Nat) ts) ∧ m' "t" = some (.int (t : Nat) tt) ∧ m' "least" = some (.int least tl) ∧ m' "slack" = some (.int slack tk) ∧ H' = [(As, listOf vs.toArray n)]) ?_ ?_
  · intro K1 hK1
    have hr1 : (List.replicate ((s : Nat) : Int).toNat x).length ≤ 20 := by rw [List.length_replicate]; lia
    have hr2 : (List.replicate ((t : Nat) : Int).toNat y).length ≤ 20 := by rw [List.length_replicate]; lia
    walk_at "m go"
    exact ⟨⟨_, Sub.rfl', ⟨_, rfl⟩, rfl, rfl, rfl, rfl, rfl, rfl, rfl⟩⟩
  rintro s₁ m₁ H₁ l₁ ⟨⟨tr, g1⟩, g2, g3, g4, g5, g6, g7, rfl⟩ F₁ N₁
  have hrl : (List.replicate s x ++ List.replicate t y).length ≤ 40 := by rw [List.length_append, List.length_replicate, List.length_replicate]; lia
  generalize hru : List.replicate s x ++ List.replicate t y = run at g1 hrl hK0
  k_sweep
  refine cut P L (s₀ := z) (by walk_at "LK") (fun m' H' => (∃ u v, ∃ (tu tv : Tok), m' "one" = some (.str (S u) tu) ∧ m' "two" = some (.str (S v) tv) ∧ dist u v = dist wd run ∧ u.length ≤ 40 ∧ v.length ≤ 40) ∧ m' "asked" = some (.ref As) ∧ m' "s" = some (.int (s : Nat) ts) ∧ m' "t" = some (.int (t : Nat) tt) ∧ m' "least" = some (.int least tl) ∧ m' "slack" = some (.int slack tk) ∧ H' = [(As, listOf vs.toArray n)]) ?_ ?_
  · intro K1 hK1
    walk_at "m go"
    · exact ⟨⟨_, Sub.rfl'.tail, ⟨wd, run, _, _, rfl, rfl, rfl, by lia, hrl⟩, g2, g4, g5, g6, g7, rfl⟩⟩
    · exact ⟨⟨_, Sub.rfl'.tail, ⟨run, wd, _, _, rfl, rfl, dist_comm _ _, hrl, by lia⟩, g2, g4, g5, g6, g7, rfl⟩⟩
  rintro s₂ m₂ H₂ l₂ ⟨⟨u, v, tu, tv, e1, e2, hd, hu, hv⟩, f2, f4, f5, f6, f7, rfl⟩ F₂ N₂
  k_sweep
  rw [← hd] at hK0
  refine cut P L (s₀ := z) (by walk_at "LK") (fun m' H' => (∃ told, ∃ (tq : Tok), m' "told" = some (.int told tq) ∧ Tells (dist u v) (least + slack) told) ∧ m' "asked" = some (.ref As) ∧ m' "s" = some (.int (s : Nat) ts) ∧ m' "t" = some (.int (t : Nat) tt) ∧ m' "least" = some (.int least tl) ∧ m' "slack" = some (.int slack tk) ∧ H' = [(As, listOf vs.toArray n)]) ?_ ?_
  · intro K1 hK1
    walk_at "m go"
    refine ⟨call_spec (H := []) (rest := [(As, listOf vs.toArray n)]) (lev_s hu hv) (Rm.le (by assumption) (Nat.le_of_ble_eq_true rfl)) G (by assumption) (by assumption) (fun p hp => hp) (fun _ _ _ hq => nomatch hq) (by walk_at "LK") ?_⟩
    rintro _ H' s₃ ⟨tk', rfl⟩ l₃ F₃ N₃ ap
    replace N₃ := subN N₃ (fun p hp => List.mem_append_right _ hp)
    k_sweep
    have hT := levF_ok u v (least + slack) (by unfold big; lia)
    generalize levF u v (least + slack) = told at hT ⊢
    walk_at "m go"
    exact ⟨⟨_, Sub.rfl', ⟨told, _, rfl, hT⟩, f2, f4, f5, f6, f7, rfl⟩⟩
  rintro s₃ m₃ H₃ l₃ ⟨⟨told, tq, e1, hT⟩, f2, f4, f5, f6, f7, rfl⟩ F₃ N₃
  k_sweep
  refine cut P L (s₀ := z) (by walk_at "LK") (fun m' H' => m' "told" = some (.int told tq) ∧ m' "least" = some (.int least tl) ∧ ∃ (q : Addr) (d : Tok), As ≠ q ∧ H' = [(q, tupOf [.int (s : Nat) ts, .int (t : Nat) tt, .int told tq, .int (least + slack) d]), (As, listOf (vs ++ [Value.ref q]).toArray (n + 1))]) ?_ ?_
  · intro K1 hK1
    walk_at "m go"
    rename_i D9 _ nD9 _ _ _
    exact ⟨⟨_, Sub.rfl', e1, f6, D9, _, Nat.ne_of_lt nD9, rfl⟩⟩
  rintro s₄ m₄ H₄ l₄ ⟨e1, e2, q, d, hq, rfl⟩ F₄ N₄
  k_sweep
  have hY := yes_iff hkk.1 hT
  walk_at "m go"
  · have h0 : told ≤ least := by assumption
    exact ⟨⟨_, q, told, _, _, _, _, by rw [if_pos (hY.mp h0)], hT, hq, rfl⟩⟩
  · have h0 : ¬ told ≤ least := by assumption
    exact ⟨⟨_, q, told, _, _, _, _, by rw [if_neg (fun e => h0 (hY.mpr e))], hT, hq, rfl⟩⟩
end
section
/-- the file's text, word by word -/
def fw2 (mix : Int) (k : Nat) : Nat := wsl.getD ((mix.fdiv 24 + k).fmod 4).toNat 0
def gap2 (mix : Int) (k : Nat) : List Nat := List.replicate ((mix.fdiv 8).fmod 3).toNat (fw2 mix k)
def part2 (mix : Int) (w : List Nat) (sl : List Int) (k : Nat) : List Nat := gap2 mix k ++ (open1 (fq mix w k) w sl ++ [close1 (fq mix w k) (fw2 mix k)])
def ftx (mix : Int) (ws : List (List Nat)) (sls : List (List Int)) (k : Nat) : List Nat := (List.range' 0 k).flatMap fun i => part2 mix (ws.getD i []) (sls.getD i []) i
def stp (mix : Int) (ws : List (List Nat)) (sls : List (List Int)) (k : Nat) : List (List Nat × Int × Int) := (List.range' 0 k).map fun i => (ws.getD i [], 1 + cnt (ftx mix ws sls (i + 1)), ((ftx mix ws sls (i + 1)).length : Int))
theorem ftx_succ (mix : Int) (ws : List (List Nat)) (sls : List (List Int)) (k : Nat) : ftx mix ws sls (k + 1) = ftx mix ws sls k ++ part2 mix (ws.getD k []) (sls.getD k []) k := by
  unfold ftx
  rw [List.range'_concat, List.flatMap_append]
  simp
theorem stp_succ (mix : Int) (ws : List (List Nat)) (sls : List (List Int)) (k : Nat) : stp mix ws sls (k + 1) = stp mix ws sls k ++ [(ws.getD k [], 1 + cnt (ftx mix ws sls (k + 1)), ((ftx mix ws sls (k + 1)).length : Int))] := by
  unfold stp
  rw [List.range'_concat, List.map_append]
  simp
theorem part2_len (mix : Int) (w : List Nat) (sl : List Int) (k : Nat) : (part2 mix w sl k).length ≤ 2 * w.length + 5 := by
  unfold part2 gap2
  have := open1_len (fq mix w k) w sl
  have := fmod3 (mix.fdiv 8)
  simp only [List.length_append, List.length_replicate, List.length_cons, List.length_nil]
  lia
theorem ftx_len {mix : Int} {ws : List (List Nat)} {sls : List (List Int)} (h : ∀ i, (ws.getD i []).length ≤ 10) : ∀ k, (ftx mix ws sls k).length ≤ 25 * k
  | 0 => Nat.zero_le _
  | k + 1 => by
    rw [ftx_succ, List.length_append]
    have := part2_len mix (ws.getD k []) (sls.getD k []) k
    have := h k
    have := ftx_len (mix := mix) (sls := sls) h k
    lia
theorem list3 {α : Type _} : ∀ {l : List α}, l.length = 3 → ∃ a b c, l = [a, b, c]
  | [a, b, c], _ => ⟨a, b, c, rfl⟩
theorem regk4 : True := by
  k_with "subscriptTail Name Name ref int" => refine ll_sub (by assumption) (List.mem_cons_of_mem _ (List.mem_cons_of_mem _ (by assumption))) (by lia) (by assumption) ?_ (by with_unfolding_all rfl)
  trivial
/-- what the file's maker is handed -/
abbrev FIn (W1 W2 D0 D1 D2 : Addr) (w0 w1 w2 : List Nat) (a0 a1 a2 : Tok) (f1 f2 g0 g1 g2 : Nat) (vs0 vs1 vs2 : List Value) : List (Addr × Obj) := [(W1, listOf [.str (S w0) a0, .str (S w1) a1, .str (S w2) a2].toArray f1), (W2, listOf [.ref D0, .ref D1, .ref D2].toArray f2), (D0, listOf vs0.toArray g0), (D1, listOf vs1.toArray g1), (D2, listOf vs2.toArray g2)]
theorem file_s {W1 W2 D0 D1 D2 : Addr} {w0 w1 w2 : List Nat} {a0 a1 a2 : Tok} {f1 f2 g0 g1 g2 : Nat} {vs0 vs1 vs2 : List Value} {sl0 sl1 sl2 : List Int} {mix : Int} {tm : Tok}
   (hv0 : IntsAre vs0 sl0) (hv1 : IntsAre vs1 sl1) (hv2 : IntsAre vs2 sl2) (hl0 : sl0.length = w0.length) (hl1 : sl1.length = w1.length) (hl2 : sl2.length = w2.length) (hw0 : w0.length ≤ 10) (hw1 : w1.length ≤ 10) (hw2 : w2.length ≤ 10)
   (hp0 : ∀ c ∈ w0, c ∈ pool7) (hp1 : ∀ c ∈ w1, c ∈ pool7) (hp2 : ∀ c ∈ w2, c ∈ pool7) :
   Spec w 8 (.ref 91) [.ref W1, .ref W2, .int mix tm] (FIn W1 W2 D0 D1 D2 w0 w1 w2 a0 a1 a2 f1 f2 g0 g1 g2 vs0 vs1 vs2) (fun v H' => ∃ X, (∃ (Tp R : Addr) (tk : Tok) (e : Nat) (Q : List (Addr × Obj)), v = .ref Tp ∧ TupAre Q (stp mix [w0, w1, w2] [sl0, sl1, sl2] 3 ++ [([], 1 + cnt (ftx mix [w0, w1, w2] [sl0, sl1, sl2] 3), ((ftx mix [w0, w1, w2] [sl0, sl1, sl2] 3).length : Int))]) ∧
     X = (Tp, tupOf [.str (S (ftx mix [w0, w1, w2] [sl0, sl1, sl2] 3)) tk, .ref R]) :: (R, listOf (Q.map fun p => Value.ref p.1).toArray e) :: Q) ∧ (∀ p ∈ X, ∀ q ∈ FIn W1 W2 D0 D1 D2 w0 w1 w2 a0 a1 a2 f1 f2 g0 g1 g2 vs0 vs1 vs2, p.1 ≠ q.1) ∧ H' = X ++ FIn W1 W2 D0 D1 D2 w0 w1 w2 a0 a1 a2 f1 f2 g0 g1 g2 vs0 vs1 vs2) := by
  walk_at "m fill"
  refine' spec_def [("words", .ref W1), ("slashes", .ref W2), ("mix", .int mix tm)] ?k1 ?k2 ?k3 ?k4 ?k5 ?c1 ?c2 ?c3 ?c4
  walk_at "m enter"
  intro A P L s z p loose mean mg mb r G lz X T F N K0 hK0
  have hrs : RetSub := ⟨⟩
  obtain ⟨ws, hws⟩ : ∃ ws, ws = [w0, w1, w2] := ⟨_, rfl⟩
  obtain ⟨sls, hsls⟩ : ∃ sls, sls = [sl0, sl1, sl2] := ⟨_, rfl⟩
  have hkk : ∀ k : Nat, k < 3 → ∃ (wk : List Nat) (ak : Tok) (slk : List Int) (Dk : Addr) (vk : List Value) (gk : Nat), [Value.str (S w0) a0, Value.str (S w1) a1, Value.str (S w2) a2][((k : Nat) : Int).toNat]? = some (.str (S wk) ak) ∧ [Value.ref D0, Value.ref D1, Value.ref D2][((k : Nat) : Int).toNat]? = some (.ref Dk) ∧
      (Dk, listOf vk.toArray gk) ∈ FIn W1 W2 D0 D1 D2 w0 w1 w2 a0 a1 a2 f1 f2 g0 g1 g2 vs0 vs1 vs2 ∧ IntsAre vk slk ∧ slk.length = wk.length ∧ wk.length ≤ 10 ∧ (∀ c ∈ wk, c ∈ pool7) ∧ ws.getD k [] = wk ∧ sls.getD k [] = slk := by
    intro k hkk
    subst hws hsls
    have h3 : k = 0 ∨ k = 1 ∨ k = 2 := by lia
    rcases h3 with rfl | rfl | rfl
    · exact ⟨w0, a0, sl0, D0, vs0, g0, rfl, rfl, .tail _ (.tail _ (.head _)), hv0, hl0, hw0, hp0, rfl, rfl⟩
    · exact ⟨w1, a1, sl1, D1, vs1, g1, rfl, rfl, .tail _ (.tail _ (.tail _ (.head _))), hv1, hl1, hw1, hp1, rfl, rfl⟩
    · exact ⟨w2, a2, sl2, D2, vs2, g2, rfl, rfl, .tail _ (.tail _ (.tail _ (.tail _ (.head _)))), hv2, hl2, hw2, hp2, rfl, rfl⟩
  have hwl : ∀ i, (ws.getD i []).length ≤ 10 := by
    intro i
    by_cases hi : i < 3
    · obtain ⟨wk, _, _, _, _, _, _, _, _, _, _, h, _, e, _⟩ := hkk i hi
      rw [e]; exact h
    · rw [List.getD_eq_getElem?_getD, List.getElem?_eq_none (by rw [hws]; simp; lia)]
      simp
  rw [← hws, ← hsls] at hK0
  have hm1 : (W1, listOf [.str (S w0) a0, .str (S w1) a1, .str (S w2) a2].toArray f1) ∈ FIn W1 W2 D0 D1 D2 w0 w1 w2 a0 a1 a2 f1 f2 g0 g1 g2 vs0 vs1 vs2 := .head _
  have hm2 : (W2, listOf [.ref D0, .ref D1, .ref D2].toArray f2) ∈ FIn W1 W2 D0 D1 D2 w0 w1 w2 a0 a1 a2 f1 f2 g0 g1 g2 vs0 vs1 vs2 := .tail _ (.head _)
  generalize hY0 : FIn W1 W2 D0 D1 D2 w0 w1 w2 a0 a1 a2 f1 f2 g0 g1 g2 vs0 vs1 vs2 = Y0 at N hkk hm1 hm2 hK0
  clear hv0 hv1 hv2 hl0 hl1 hl2 hw0 hw1 hw2 hp0 hp1 hp2
  have hfl := ftx_len (mix := mix) (sls := sls) hwl
  have hg := fmod3 (mix.fdiv 8)
  (try k_fold)
  refine cut P L (s₀ := z) (by walk_at "LK") (fun m' H' => (∃ tt, m' "text" = some (.str (S []) tt)) ∧ m' "words" = some (.ref W1) ∧ m' "slashes" = some (.ref W2) ∧ m' "mix" = some (.int mix tm) ∧ ∃ St, m' "steps" = some (.ref St) ∧ (∀ p ∈ Y0, p.1 ≠ St) ∧ H' = (St, listOf [].toArray 0) :: Y0) ?_ ?_
  · intro K1 hK1
    walk_at "m go"
    rename_i St _ hl1 _ _ _ _ _ _ _ _
    exact ⟨⟨_, Sub.rfl'.tail, ⟨_, by rw [← lit_e]; rfl⟩, rfl, rfl, rfl, St, rfl, fun p hp => Nat.ne_of_lt (hl1 p hp), rfl⟩⟩
  rintro s₁ m' H' l₁ ⟨⟨tt, j1⟩, j2, j3, j4, St, j5, y1, rfl⟩ F₁ N₁
  k_sweep
  refine cut P L (s₀ := z) (by walk_at "LK") (fun m H => m "steps" = some (.ref St) ∧ (∃ tt, m "text" = some (.str (S (ftx mix ws sls 3)) tt)) ∧ ∃ Q e, TupAre Q (stp mix ws sls 3) ∧ (∀ p ∈ Q ++ Y0, p.1 ≠ St) ∧ (∀ p ∈ Q, ∀ q ∈ Y0, p.1 ≠ q.1) ∧ H = (St, listOf (Q.map fun p => Value.ref p.1).toArray e) :: (Q ++ Y0)) ?_ ?_
  · intro K1 hK1
    refine for_in ?_
    walk_at "m go"
    refine' ⟨loop_range (by assumption) r.hh rfl rfl (s₀ := z) (by walk_at "LK") (by lia) (by lia) (by lia) (by lia) (n := 3) (by lia) ?LF ?LN
      (fun k m H => m "words" = some (.ref W1) ∧ m "slashes" = some (.ref W2) ∧ m "mix" = some (.int mix tm) ∧ m "steps" = some (.ref St) ∧ (∃ tt, m "text" = some (.str (S (ftx mix ws sls k)) tt)) ∧ ∃ Q e, TupAre Q (stp mix ws sls k) ∧ (∀ p ∈ Q ++ Y0, p.1 ≠ St) ∧ (∀ p ∈ Q, ∀ q ∈ Y0, p.1 ≠ q.1) ∧ H = (St, listOf (Q.map fun p => Value.ref p.1).toArray e) :: (Q ++ Y0)) ?LJ ?_ ?_⟩
    case LF => assumption
    case LN => assumption
    case LJ => exact ⟨j2, j3, j4, j5, ⟨tt, j1⟩, [], _, .nil, y1, fun _ h => (nomatch h), rfl⟩
    · rintro k tv m₁ H₁ s₁ I io l₁ hk3 ⟨i2, i3, i4, i5, ⟨tt, i1⟩, Q, e, hQ, hSt, hQY, rfl⟩ ne F₁ N₁ K2 hK2
      have e0 : (0 : Int) + k = k := by lia
      rw [e0] at F₁
      obtain ⟨wk, ak, slk, Dk, vk, gk, c1, c2, c3, c4, c5, c6, c7, c8, c9⟩ := hkk k hk3
      have hQl := hQ.length
      rw [show (stp mix ws sls k).length = k by unfold stp; rw [List.length_map, List.length_range']] at hQl
      have hml : (Q.map fun p => Value.ref p.1).length = k := by rw [List.length_map, hQl]
      have hfk := hfl k
      have hfs := ftx_succ mix ws sls k
      have hss := stp_succ mix ws sls k
      rw [c8, c9] at hfs
      rw [c8] at hss
      have hpl := part2_len mix wk slk k
      have hol := open1_len (fq mix wk k) wk slk
      have hrep : (List.replicate ((mix.fdiv 8).fmod 3).toNat (fw2 mix k)).length ≤ 2 := by rw [List.length_replicate]; lia
      obtain ⟨Y, hY⟩ : ∃ Y, Y = Q ++ Y0 := ⟨_, rfl⟩
      have hY1 : ∀ p ∈ Y0, p ∈ Y := fun p hp => hY ▸ List.mem_append_right _ hp
      replace hm1 := hY1 _ hm1
      replace hm2 := hY1 _ hm2
      replace c3 := hY1 _ c3
      rw [← hY] at N₁ hSt ne
      have hSI : St ≠ I := ne _ (.head _)
      have hYI : ∀ p ∈ Y, p.1 ≠ I := fun p hp => ne p (.tail _ hp)
      k_sweep
      refine cut P L (s₀ := z) (by walk_at "LK") (fun m H => m "quoted" = some (.bool (fq mix wk k)) ∧ (∃ tw, m "white" = some (.str (S [fw2 mix k]) tw)) ∧ m "k" = some (.int k tv) ∧ (∃ tt, m "text" = some (.str (S (ftx mix ws sls k)) tt)) ∧ m "words" = some (.ref W1) ∧ m "slashes" = some (.ref W2) ∧ m "mix" = some (.int mix tm) ∧ m "steps" = some (.ref St) ∧ H = (I, io) :: (St, listOf (Q.map fun p => Value.ref p.1).toArray e) :: Y) ?_ ?_
      · intro K3 hK3
        walk_at "m go"
        · have h0 : wk = [] := List.length_eq_zero_iff.mp (by assumption)
          refine ⟨⟨_, Sub.rfl'.tail, ?_, ⟨_, rfl⟩, rfl, ⟨tt, i1⟩, i2, i3, i4, i5, rfl⟩⟩
          show some (Value.bool (S wk == Str.ofString "")) = some (Value.bool _)
          rw [fq_nil _ _ _ h0, h0, lit_e, beq_self_eq_true]
        · have h0 : ¬ wk = [] := fun e => absurd (List.length_eq_zero_iff.mpr e) (by assumption)
          refine ⟨⟨_, Sub.rfl'.tail, ?_, ⟨_, rfl⟩, rfl, ⟨tt, i1⟩, i2, i3, i4, i5, rfl⟩⟩
          show some (Value.bool ((mix.fdiv (2 ^ Int.toNat ((k : Nat) : Int))).fmod 2 == 1)) = some (Value.bool (fq mix wk k))
          unfold fq
          rw [decide_eq_false h0, Int.toNat_natCast]
          rfl
      rintro s₂ m₂ H₂ l₂ ⟨f1, ⟨tw, f2⟩, f3, ⟨tt, f4⟩, f5, f6, f7, f8, rfl⟩ F₂ N₂
      k_sweep
      refine cut P L (s₀ := z) (by walk_at "LK") (fun m H => m "k" = some (.int k tv) ∧ (∃ tt, m "text" = some (.str (S (ftx mix ws sls (k + 1))) tt)) ∧ m "words" = some (.ref W1) ∧ m "slashes" = some (.ref W2) ∧ m "mix" = some (.int mix tm) ∧ m "steps" = some (.ref St) ∧ H = (I, io) :: (St, listOf (Q.map fun p => Value.ref p.1).toArray e) :: Y) ?_ ?_
      · intro K3 hK3
        walk_at "m go"
        refine ⟨call_ro (H := [(Dk, listOf vk.toArray gk)]) (Qr := fun v X => (∃ tk, v = .str (S (open1 (fq mix wk k) wk slk ++ [close1 (fq mix wk k) (fw2 mix k)])) tk) ∧ X = []) ((written_s (q := fq mix wk k) (wc := fw2 mix k) c4 c5 (by lia) c7).mono (Nat.le_refl _) fun v H' ⟨tk, e, h⟩ => ⟨[], ⟨⟨tk, e⟩, rfl⟩, fun _ h => (nomatch h), h⟩) (Rm.le r (Nat.le_of_ble_eq_true rfl)) G (by assumption) (by assumption) (fun p hp => by rw [List.mem_singleton.mp hp]; exact .tail _ (.tail _ c3)) (by walk_at "LK") ?_⟩
        rintro v X s₃ ⟨⟨tk, rfl⟩, rfl⟩ l₃ F₃ N₃ ap₃
        rw [List.nil_append] at N₃
        k_sweep
        walk_at "m go"
        exact ⟨⟨_, Sub.rfl', f3, ⟨_, by rw [hfs]; rfl⟩, f5, f6, f7, f8, rfl⟩⟩
      rintro s₃ m₃ H₃ l₃ ⟨f3, ⟨tt, f4⟩, f5, f6, f7, f8, rfl⟩ F₃ N₃
      have hfk1 := hfl (k + 1)
      k_sweep
      walk_at "m go"
      rename_i sX _ D9 _ nD9 _ _ _
      have nY : ∀ p ∈ Y, p.1 ≠ D9 := fun p hp => Nat.ne_of_lt (allLt_to nD9.2.2 p hp)
      have hDS : D9 ≠ St := Nat.ne_of_gt nD9.2.1
      have hDI : D9 ≠ I := Nat.ne_of_gt nD9.1
      have hQ2 : TupAre (Q ++ [(D9, tupOf [.str (S wk) ak, .int (1 + cnt (ftx mix ws sls (k + 1))) (sX.toks + 1 + 1 + 1), .int (ftx mix ws sls (k + 1)).length (sX.toks + 1 + 1 + 1 + 1 + 1)])]) (stp mix ws sls (k + 1)) := by
        rw [hss]
        exact hQ.append (.cons _ _ _ _ _ _ _ .nil)
      have hQY' := fun p (hp : p ∈ Q) => hY ▸ (List.mem_append_left Y0 hp)
      obtain ⟨Q9, hQ9⟩ : ∃ Q9, Q9 = Q ++ [(D9, tupOf [.str (S wk) ak, .int (1 + cnt (ftx mix ws sls (k + 1))) (sX.toks + 1 + 1 + 1), .int (ftx mix ws sls (k + 1)).length (sX.toks + 1 + 1 + 1 + 1 + 1)])] := ⟨_, rfl⟩
      rw [← hQ9] at hQ2
      refine ⟨⟨(St, listOf (Q9.map fun p => Value.ref p.1).toArray (e + 1)) :: (Q9 ++ Y0), ?_, ?_, f5, f6, f7, f8, ⟨tt, f4⟩, Q9, e + 1, hQ2, ?_, ?_, rfl⟩⟩
      all_goals subst hQ9
      · rw [List.map_append]
        intro p hp
        rcases List.mem_cons.mp hp with rfl | hp
        · exact .tail _ (.head _)
        rcases List.mem_cons.mp hp with rfl | hp
        · exact .tail _ (.tail _ (.head _))
        rcases List.mem_append.mp hp with hp | hp
        · rcases List.mem_append.mp hp with hp | hp
          · exact .tail _ (.tail _ (.tail _ (hQY' p hp)))
          · rw [List.mem_singleton.mp hp]; exact .head _
        · exact .tail _ (.tail _ (.tail _ (hY1 p hp)))
      · intro p hp
        rcases List.mem_cons.mp hp with rfl | hp
        · exact hSI
        rcases List.mem_append.mp hp with hp | hp
        · rcases List.mem_append.mp hp with hp | hp
          · exact hYI p (hQY' p hp)
          · rw [List.mem_singleton.mp hp]; exact hDI
        · exact hYI p (hY1 p hp)
      · intro p hp
        rcases List.mem_append.mp hp with hp | hp
        · rcases List.mem_append.mp hp with hp | hp
          · exact hSt p (hQY' p hp)
          · rw [List.mem_singleton.mp hp]; exact hDS
        · exact hSt p (hY1 p hp)
      · intro p hp q hq
        rcases List.mem_append.mp hp with hp | hp
        · exact hQY p hp q hq
        · rw [List.mem_singleton.mp hp]; exact (nY q (hY1 q hq)).symm
    · rintro m₁ H₁ s₁ l₁ ⟨i2, i3, i4, i5, i1, Q, e, hQ, hSt, hQY, rfl⟩ F₁ N₁
      refine Imp2.go (by assumption) ?_; exact CutQ.next l₁ F₁ N₁ ⟨_, Sub.rfl', i5, i1, Q, e, hQ, hSt, hQY, rfl⟩
  rintro s₂ m₂ H₂ l₂ ⟨i5, ⟨tt, i1⟩, Q, e, hQ, hSt, hQY, rfl⟩ F₂ N₂
  have hQl := hQ.length
  rw [show (stp mix ws sls 3).length = 3 by unfold stp; rw [List.length_map, List.length_range']] at hQl
  obtain ⟨q0, q1, q2, rfl⟩ : ∃ a b c, Q = [a, b, c] := list3 hQl
  have hf3 := hfl 3
  generalize hT : ftx mix ws sls 3 = T at hf3 i1 hK0
  simp only [List.map_cons, List.map_nil, List.cons_append, List.nil_append] at N₂
  k_sweep
  walk_at "m go"
  rename_i sX _ De _ nDe Ln _ _ Rn _ nRn Tp _ _ _ nTp
  have hQ2 : TupAre ([q0, q1, q2] ++ [(De, tupOf [.str (S []) sX.toks, .int (1 + cnt T) (sX.toks + 1 + 1 + 1 + 1), .int T.length (sX.toks + 1 + 1 + 1 + 1 + 1 + 1)])]) (stp mix ws sls 3 ++ [([], 1 + cnt T, (T.length : Int))]) := hQ.append (.cons _ _ _ _ _ _ _ .nil)
  refine ⟨⟨((Tp, tupOf [.str (S T) tt, .ref Rn]) :: (Rn, listOf [.ref q0.1, .ref q1.1, .ref q2.1, .ref De].toArray 0) :: ([q0, q1, q2] ++ [(De, tupOf [.str (S []) sX.toks, .int (1 + cnt T) (sX.toks + 1 + 1 + 1 + 1), .int T.length (sX.toks + 1 + 1 + 1 + 1 + 1 + 1)])])) ++ Y0, ?_, _, ⟨Tp, Rn, tt, 0, _, rfl, hQ2, rfl⟩, ?_, rfl⟩⟩
  · exact Sub.consm (.head _) (Sub.consm (.tail _ (.head _)) (Sub.consm (.tail _ (.tail _ (.tail _ (.tail _ (.tail _ (.head _)))))) (Sub.consm (.tail _ (.tail _ (.tail _ (.tail _ (.tail _ (.tail _ (.head _))))))) (Sub.consm (.tail _ (.tail _ (.tail _ (.tail _ (.tail _ (.tail _ (.tail _ (.head _)))))))) (Sub.consm (.tail _ (.tail _ (.tail _ (.head _)))) (Sub.rfl'.tail.tail.tail.tail.tail.tail.tail.tail))))))
  · intro p hp q hq
    rcases List.mem_cons.mp hp with rfl | hp
    · exact Nat.ne_of_gt (allLt_to nTp.2.2.2.2.2.2.2 q hq)
    rcases List.mem_cons.mp hp with rfl | hp
    · exact Nat.ne_of_gt (allLt_to nRn.2.2.2.2.2.2 q hq)
    rcases List.mem_append.mp hp with hp | hp
    · exact hQY p hp q hq
    · rw [List.mem_singleton.mp hp]; exact Nat.ne_of_gt (allLt_to nDe.2.2.2.2 q hq)
end
section
local macro_rules | `(tactic| walk_at "m cs") => `(tactic| first | assumption | (refine' sub_tl ?h ?t; (case h => assumption); (case t => walk_at "m tl")) | (refine fun p hp => ?_; repeat (first | exact hp | apply List.mem_cons_of_mem)))
local macro_rules | `(tactic| walk_at "m tl") => `(tactic| first | exact Tl.here | (apply Tl.cons; walk_at "m tl"))
local macro_rules | `(tactic| walk_at "m pre") => `(tactic| repeat (first | exact List.forall_mem_nil _ | (refine List.forall_mem_cons.mpr (And.intro ?_ ?_); assumption)))
local macro_rules | `(tactic| walk_at "eval Name") => `(tactic| k_dflt (refine' name_CO ?k9 ?k0 ?k1 ?k2 ?k3 ?k4 ?_; (case k9 => assumption); (case k0 => assumption); (case k1 => assumption); (case k2 => walk_at "m cs"); (case k3 => exact rfl); (case k4 => first | assumption | exact rfl); k_whole))
local macro_rules | `(tactic| walk_at "loadName") => `(tactic| k_dflt (refine' load_CO ?k9 ?k0 ?k1 ?k2 ?k3 ?k4 ?_; (case k9 => assumption); (case k0 => assumption); (case k1 => assumption); (case k2 => walk_at "m cs"); (case k3 => exact rfl); (case k4 => first | assumption | exact rfl); k_whole))
local macro_rules | `(tactic| walk_at "storeName") => `(tactic| ((k_dflt (refine' store_CO ?k9 ?k0 ?k1 ?k2 ?k3 ?k4 ?k5 ?k6 ?k7 ?_; (case k9 => assumption); (case k0 => assumption); (case k1 => assumption); (case k2 => assumption); (case k3 => walk_at "m tl"); (case k4 => exact rfl); (case k5 => walk_at "m pre"); (case k6 => assumption); (case k7 => assumption); k_whole)); intro h' cells' F' N' CA'; simp only [List.cons_append, List.nil_append] at N'; (try k_sweep)))
local macro_rules | `(tactic| walk_at "newList") => `(tactic| (k_here; k_dflt (refine' newList_K ?k1 ?k2 ?_; (case k1 => k_asm); (case k2 => k_asm); k_whole); intro l' h' F' N' l1; k_dflt (refine' off_then ?c1 l1 ?c2 ?_; (case c1 => assumption); (case c2 => walk_at "m cs"); intro o1); k_lt l1; (try k_sweep)))
local macro_rules | `(tactic| walk_at "newTuple") => `(tactic| (refine' kup_newTuple ?k1 ?k2 ?_ ?k3; (case k1 => assumption); (case k2 => assumption); (case k3 => size_fits); intro D' h' F' N' nD; k_dflt (refine' off_then ?c1 nD ?c2 ?_; (case c1 => assumption); (case c2 => walk_at "m cs"); intro o1); k_lt nD; (try k_sweep)))
theorem regk5 : True := by
  k_with "eval Name" => k_dflt (refine comp_gb (by assumption) (by assumption) (by exact topRead_of (by assumption)) (by k_is) (by boot_by_name) (by decide) ?_; k_whole)
  k_with "eval Name" => k_dflt (refine comp_gk (by assumption) (by assumption) (by exact topRead_of (by assumption)) (by k_is) ?_; k_whole)
  k_with "eval Name" => k_dflt (refine comp_CO (by assumption) (by assumption) (by assumption) (by assumption) (by exact rfl) (by exact rfl) (by (first | assumption | exact rfl)) ?_; k_whole)
  k_with "eval Name" => k_dflt (refine comp_ld (by assumption) (by exact rfl) ?_; k_whole)
  k_with "exec Assign cons ListComp" => ((with_reducible show wpAny _ _ (exec (.Assign [.Name _ _] _ _) _) _ _ _); refine halt ?_)
  k_with "loadName" => k_dflt (refine load_L (by assumption) (by (first | assumption | exact rfl)) ?_; k_whole)
  trivial
section
theorem min_cuts {A : Around} {E : Value → Shared → Prop} {P : Heap} {L : Addr} {sh : Shared} {m : Str → Option Value} {news : List (Addr × Obj)} {l : Addr} {vc : List Value} {wd : List Nat} {x y s t : Nat} {D : Int} {Q : Value → Shared → Prop} (hi : IntsAre vc ((List.range' 0 (wd.length + 1)).map (cutC wd x y s t))) (hD : D = dist wd (List.replicate s x ++ List.replicate t y)) (hx : x ∈ pool7) (hy : y ∈ pool7) (hwp : ∀ c ∈ wd, c ∈ pool7) (hh : A.handled = none) (F : Fr P L sh.heap m) (N : News P L sh.heap news)
    (hl : sh.heap.IsList l vc.toArray)
    (h : ∀ h' (tt : Tok) tk, Fr P L h' m → News P L h' news → Q (.int D tt) { sh with heap := h', toks := tk }) : wpAny (model PR w) A (call (.builtin "min") [.ref l]) Q E sh := by
  refine min_list_N hh F N hl hi (by rw [List.length_map, List.length_range']; lia) ?_
  intro h' M tt tk F' N' h1 h2
  obtain rfl : M = D := (cuts_min hx hy hwp h1 h2).trans hD.symm
  exact h h' tt tk F' N'
theorem regk6 : True := by
  k_with "call builtin:min" => ((with_reducible show wpAny _ _ (call (Value.builtin _) [Value.ref _]) _ _ _); refine min_cuts (by assumption) (by assumption) (by assumption) (by assumption) (by assumption) (Rm.hh (by assumption)) (by assumption) (by assumption) (News.isList (by assumption) (by k_mem)) ?_; intro h₈ t₈ k₈ F₈ N₈; (try k_sweep))
  trivial
theorem cutC_b {wd : List Nat} {x y s t k : Nat} (hw : wd.length ≤ 20) (hs : s ≤ 20) (ht : t ≤ 20) : -2000 ≤ cutC wd x y s t k ∧ cutC wd x y s t k ≤ 2000 := by
  unfold cutC
  have h1 := prcS_b (p := wd.take k) (x := x) (s := s) (by rw [List.length_take]; lia) (by lia)
  have h2 := prcS_b (p := wd.drop k) (x := y) (s := t) (by rw [List.length_drop]; lia) (by lia)
  lia
theorem dist_bd (a b : List Nat) : 0 ≤ dist a b ∧ dist a b ≤ 2 * a.length + 2 * b.length := by
  have h1 := dist_ge a b
  have h2 := dist_ge b a
  rw [dist_comm] at h2
  have h3 := dist_add _ a [] [] b (Nat.le_refl _)
  rw [dist_nil_r, dist_nil_l, List.append_nil, List.nil_append] at h3
  lia
theorem cuts_succ (f : Nat → Int) (i : Nat) : (List.range' 0 (i + 1)).map f = (List.range' 0 i).map f ++ [f i] := by
  rw [List.range'_concat, List.map_append]; simp
theorem right_s {wd : List Nat} {x y s t : Nat} {told bound : Int} {q : Addr} {a b c d tw tp : Tok} (hx : x ∈ pool7) (hy : y ∈ pool7) (hwp : ∀ c ∈ wd, c ∈ pool7) (hw : wd.length ≤ 20) (hs : s ≤ 20) (ht : t ≤ 20) (hT : Tells (dist wd (List.replicate s x ++ List.replicate t y)) bound told) :
   Spec w 9 (.ref 122) [.str (S wd) tw, .str (S [x, y]) tp, .ref q] [(q, tupOf [.int (s : Nat) a, .int (t : Nat) b, .int told c, .int bound d])] (fun v H' => ∃ X : List (Addr × Obj), (v = .bool true ∧ X = []) ∧ (∀ p ∈ X, ∀ r ∈ [(q, tupOf [.int (s : Nat) a, .int (t : Nat) b, .int told c, .int bound d])], p.1 ≠ r.1) ∧ H' = X ++ [(q, tupOf [.int (s : Nat) a, .int (t : Nat) b, .int told c, .int bound d])]) := by
  walk_at "m fill"
  refine' spec_defC [("word", .str (S wd) tw), ("pair", .str (S [x, y]) tp), ("question", .ref q)] ?k1 ?k2 ?k3 ?k4 ?k5 ?k6 ?c1 ?c2 ?c3
  walk_at "m enterC"
  intro A P L s₀ z cells p loose mean mg mb r G lz X T F N CA hL K0 hK0
  have hrs : RetSub := ⟨⟩
  generalize hmc : bindC _ _ _ = mc at CA
  have hmw : mc "word" = some (.str (S wd) tw) := by rw [← hmc]; rfl
  have hmp : mc "pair" = some (.str (S [x, y]) tp) := by rw [← hmc]; rfl
  clear hmc
  obtain ⟨hnm, hna, hLq⟩ := ca_facts CA (by decide)
  have hqL := hL _ (.head _)
  have oq : Off _ q := fun r hr e => absurd (Nat.lt_trans hqL (hLq r hr)) (by rw [e]; exact Nat.lt_irrefl _)
  replace N := subN N (A := (q, tupOf [.int (s : Nat) a, .int (t : Nat) b, .int told c, .int bound d]) :: cells) (fun p hp => by
    rcases List.mem_cons.mp hp with rfl | hp
    · exact List.mem_append_right _ (.head _)
    · exact List.mem_append_left _ hp)
  generalize hcl : cellsFrom (L + 1) _ [] = cl at CA hnm hna oq
  clear hLq
  (try k_fold)
  refine cut P L (s₀ := z) (by walk_at "LK") (fun m H => m "told" = some (.int told c) ∧ m "bound" = some (.int bound d) ∧ ∃ mc cells, CellsAre mc cl cells ∧ mc "word" = some (.str (S wd) tw) ∧ mc "pair" = some (.str (S [x, y]) tp) ∧ mc "s" = some (.int (s : Nat) a) ∧ mc "t" = some (.int (t : Nat) b) ∧ H = (q, tupOf [.int (s : Nat) a, .int (t : Nat) b, .int told c, .int bound d]) :: cells) ?_ ?_
  · intro K1 hK1
    walk_at "m go"
    have CA9 := (by assumption : CellsAre _ cl _)
    exact ⟨⟨_, Sub.rfl', rfl, rfl, _, _, CA9, hmw, hmp, rfl, rfl, rfl⟩⟩
  clear CA hmw hmp N F
  rintro s₁ m₁ H₁ l₁ ⟨g1, g2, mc, cells, CA, hmw, hmp, hms, hmt, rfl⟩ F₁ N₁
  k_sweep
  have hlen := List.length_replicate (n := s) (a := x)
  refine cut P L (s₀ := z) (by walk_at "LK") (fun m H => m "told" = some (.int told c) ∧ m "bound" = some (.int bound d) ∧ ∃ Rc vc e, m "costs" = some (.ref Rc) ∧ IntsAre vc ((List.range' 0 (wd.length + 1)).map (cutC wd x y s t)) ∧ H = (Rc, listOf vc.toArray e) :: (q, tupOf [.int (s : Nat) a, .int (t : Nat) b, .int told c, .int bound d]) :: cells) ?_ ?_
  · intro K1 hK1
    walk_at "m go"
    refine ⟨comp_asg (by with_unfolding_all rfl) rfl rfl (by decide) ?_⟩
    walk_at "m go"
    refine ⟨comp_rgU (n := wd.length + 1) (z := z) (by assumption) (by lia) (by lia) (by lia) (by lia) (by lia) (by decide) rfl rfl r.hh (by walk_at "LK") (by lia) (by assumption) (by assumption)
      (fun i ys H => IntsAre ys ((List.range' 0 i).map (cutC wd x y s t)) ∧ H = (q, tupOf [.int (s : Nat) a, .int (t : Nat) b, .int told c, .int bound d]) :: cells) ?_ ⟨.nil, rfl⟩ ?_ rfl rfl ?_⟩
    · rintro i ys H ⟨hy, rfl⟩
      have := hy.length
      rw [List.length_map, List.length_range'] at this
      lia
    · rintro i tv ys C s₅ m₅ H₅ own l₅ hi ⟨hys, rfl⟩ F₅ N₅ ap₅
      have ei : (0 : Int) + i = i := by lia
      rw [ei] at F₅
      have hcs : Sub cells (own ++ ((q, tupOf [.int (s : Nat) a, .int (t : Nat) b, .int told c, .int bound d]) :: cells)) := fun p hp => List.mem_append_right _ (.tail _ hp)
      have hb := cutC_b (wd := wd) (x := x) (y := y) (k := i) hw hs ht
      have hp1 := prcS_b (p := wd.take i) (x := x) (s := s) (by rw [List.length_take]; lia) (by lia)
      have hp2 := prcS_b (p := wd.drop i) (x := y) (s := t) (by rw [List.length_drop]; lia) (by lia)
      simp only [List.forIn_nil]
      refine wpAny_pure ?_
      simp only [if_true]
      walk_at "m go"
      refine ⟨call_spec (H := []) (price_s hx (by rw [List.length_take]; lia) (by lia)) (Rm.le r (Nat.le_of_ble_eq_true rfl)) G (by assumption) (by assumption) (fun p hp => hp) (fun _ _ _ hq => nomatch hq) (by walk_at "LK") ?_⟩
      rintro _ H' s₆ ⟨tk', rfl, rfl⟩ l₆ F₆ N₆ ap₆
      rw [List.nil_append] at N₆
      k_sweep
      walk_at "m go"
      refine ⟨call_spec (H := []) (price_s hy (by rw [List.length_drop]; lia) (by lia)) (Rm.le r (Nat.le_of_ble_eq_true rfl)) G (by assumption) (by assumption) (fun p hp => hp) (fun _ _ _ hq => nomatch hq) (by walk_at "LK") ?_⟩
      rintro _ H' s₇ ⟨tk'', rfl, rfl⟩ l₇ F₇ N₇ ap₇
      rw [List.nil_append] at N₇
      k_sweep
      walk_at "m go"
      refine CompEnd.intro (by walk_at "LK") (by assumption) (by assumption) ⟨⟨_, Sub.rfl', ap₅, ?_, rfl⟩⟩
      rw [cuts_succ]
      exact hys.append (.cons _ _ .nil)
    · rintro Rc e₅ ys H₅ s₅ l₅ ⟨hys, rfl⟩ F₅ N₅ ap₅
      k_sweep
      walk_at "m go"
      exact ⟨⟨_, Sub.rfl', g1, g2, Rc, _, _, rfl, hys, rfl⟩⟩
  rintro s₂ m₂ H₂ l₂ ⟨g1, g2, Rc, vc, e, g3, hvc, rfl⟩ F₂ N₂
  k_sweep
  have hcl9 := hvc.length
  rw [List.length_map, List.length_range'] at hcl9
  obtain ⟨D, hD⟩ : ∃ D, D = dist wd (List.replicate s x ++ List.replicate t y) := ⟨_, rfl⟩
  have hDb : 0 ≤ D ∧ D ≤ 1000 := by
    rw [hD]
    have h1 := dist_bd wd (List.replicate s x ++ List.replicate t y)
    rw [List.length_append, List.length_replicate, List.length_replicate] at h1
    lia
  rw [← hD] at hT
  unfold Tells at hT
  obtain ⟨hT1, hT2⟩ := hT
  walk_at "m go"
  · have hc : D ≤ bound := by assumption
    refine ⟨⟨_, Sub.consm (.tail _ (.head _)) Sub.nil, [], ⟨?_, rfl⟩, fun _ h => (nomatch h), rfl⟩⟩
    rw [hT1 hc, beq_self_eq_true]
  · have hc : ¬ D ≤ bound := by assumption
    refine ⟨⟨_, Sub.consm (.tail _ (.head _)) Sub.nil, [], ⟨?_, rfl⟩, fun _ h => (nomatch h), rfl⟩⟩
    rw [decide_eq_true (hT2 (by lia))]
end
section
open PySem PySem.W PySem.Calls PyProof.Rows
theorem levF_nil (l : List Nat) (M : Int) : levF [] l M = 2 * (l.length : Int) := by
  unfold levF
  by_cases h : ([] : List Nat) = l
  · rw [if_pos h, ← h]; rfl
  · rw [if_neg h]
    have e : lcp [] l = 0 := by cases l <;> rfl
    have e2 : ∀ r : List Nat, lcp [] r = 0 := fun r => by cases r <;> rfl
    simp [e, e2]
theorem rep_sub {c s : Nat} {l : List Nat} : (List.replicate s c).Sublist l ↔ s ≤ l.count c := by
  rw [List.replicate_sublist_iff]
theorem yes0 {wd : List Nat} {x y s : Nat} {k : Int} (hk : k = 2 * (wd.length : Int) - 2 * (s : Int)) : dist wd (List.replicate s x ++ List.replicate 0 y) ≤ k ↔ s ≤ wd.count x := by
  have h := dist_iff wd (List.replicate s x)
  rw [List.replicate_zero, List.append_nil, ← rep_sub (c := x), ← h, List.length_replicate, hk]
  have e : 2 * (wd.length : Int) - 2 * (s : Int) = 2 * ((wd.length : Int) - (s : Int)) := by lia
  rw [e]
theorem yes1 {wd : List Nat} {x y t : Nat} {k : Int} (hk : k = 2 * (wd.length : Int) - 2 * (t : Int)) : dist wd (List.replicate 0 x ++ List.replicate t y) ≤ k ↔ t ≤ wd.count y := by
  have h := dist_iff wd (List.replicate t y)
  rw [List.replicate_zero, List.nil_append, ← rep_sub (c := y), ← h, List.length_replicate, hk]
  have e : 2 * (wd.length : Int) - 2 * (t : Int) = 2 * ((wd.length : Int) - (t : Int)) := by lia
  rw [e]
theorem subl_len {x y : Nat} (hxy : x ≠ y) : ∀ l : List Nat, (l.filter (inP x y)).length = l.count x + l.count y
  | [] => rfl
  | c :: l => by
    have ih := subl_len hxy l
    rw [List.filter_cons, List.count_cons, List.count_cons]
    unfold inP at ih ⊢
    by_cases h1 : c = x
    · subst h1
      rw [if_pos (by simp), List.length_cons, ih, if_pos (by simp), if_neg (by simp [hxy])]
      lia
    · by_cases h2 : c = y
      · subst h2
        rw [if_pos (by simp), List.length_cons, ih, if_neg (by simp [h1]), if_pos (by simp)]
        lia
      · rw [if_neg (by simp [h1, h2]), ih, if_neg (by simp [h1]), if_neg (by simp [h2])]
        lia
theorem subl_count {x y c : Nat} (hc : c = x ∨ c = y) (l : List Nat) : (l.filter (inP x y)).count c = l.count c := by
  rw [List.count_filter]
  unfold inP
  rcases hc with rfl | rfl <;> simp
/-- the turn: what comes next -/
theorem turn_at {wd sub : List Nat} {x y j s t : Nat} {k : Int} (hxy : x ≠ y) (hs : sub = wd.filter (inP x y)) (hj : j < sub.length) (e1 : s = (sub.take j).count x + 1) (e2 : t + (sub.take j).count y = wd.count y) (hk : k = 2 * (wd.length : Int) - 2 * ((s : Int) + (t : Int))) :
    (sub.getD j 0 = x ∨ sub.getD j 0 = y) ∧ (dist wd (List.replicate s x ++ List.replicate t y) ≤ k ↔ sub.getD j 0 = x) := by
  have hg : sub.getD j 0 = sub[j] := by rw [List.getD_eq_getElem?_getD, List.getElem?_eq_getElem hj]; rfl
  have hc : sub.getD j 0 = x ∨ sub.getD j 0 = y := by
    rw [hg]
    have hm : sub[j] ∈ sub := List.getElem_mem hj
    have hm2 : sub[j] ∈ wd.filter (inP x y) := hs ▸ hm
    have := (List.mem_filter.mp hm2).2
    unfold inP at this
    simpa using this
  refine ⟨hc, ?_⟩
  have hsp : sub = sub.take j ++ sub.getD j 0 :: sub.drop (j + 1) := by
    rw [hg, List.getElem_cons_drop, List.take_append_drop]
  have ht : t = (sub.getD j 0 :: sub.drop (j + 1)).count y := by
    have h1 : sub.count y = wd.count y := by rw [hs]; exact subl_count (.inr rfl) wd
    rw [hsp, List.count_append] at h1
    have h2 : (sub.take j ++ sub.getD j 0 :: sub.drop (j + 1)).take j = sub.take j := by rw [← hsp]
    lia
  have h := turn_iff hxy (p := sub.take j) (q := sub.drop (j + 1)) hc
  rw [← hsp, ← ht, ← e1] at h
  rw [← h, hs, ← sub_filter, ← dist_iff, List.length_append, List.length_replicate, List.length_replicate, hk]
  have e : 2 * (wd.length : Int) - 2 * ((s : Int) + (t : Int)) = 2 * ((wd.length : Int) - ((s + t : Nat) : Int)) := by lia
  rw [e]
theorem take_at {l : List Nat} {j : Nat} (hj : j < l.length) : l.take (j + 1) = l.take j ++ [l.getD j 0] := by
  rw [List.take_succ_eq_append_getElem hj, List.getD_eq_getElem?_getD, List.getElem?_eq_getElem hj]
  rfl
/-- texts -/
inductive Txs : List Value → List (List Nat) → Prop where
  | nil : Txs [] []
  | cons (u : List Nat) (t : Tok) {vs : List Value} {us : List (List Nat)} : Txs vs us → Txs (.str (S u) t :: vs) (u :: us)
theorem Txs.append {vs ws : List Value} {us ts : List (List Nat)} (h : Txs vs us) (k : Txs ws ts) : Txs (vs ++ ws) (us ++ ts) := by
  induction h with
  | nil => exact k
  | cons u t _ ih => exact .cons u t ih
theorem Txs.length {vs : List Value} {us : List (List Nat)} (h : Txs vs us) : vs.length = us.length := by
  induction h with
  | nil => rfl
  | cons u t _ ih => simp [ih]
/-- a question that was asked, as it was answered -/
def AskOk (wd : List Nat) (x y : Nat) (p : Addr × Obj) : Prop := ∃ (s t : Nat) (told bound : Int) (a b c d : Tok), s ≤ 20 ∧ t ≤ 20 ∧ Tells (dist wd (List.replicate s x ++ List.replicate t y)) bound told ∧ p.2 = tupOf [.int (s : Nat) a, .int (t : Nat) b, .int told c, .int bound d]
end
section
abbrev GF (As Nm Gn : Addr) (wd : List Nat) (x y : Nat) (slack : Int) (tw tp tk tq : Tok) (m : Str → Option Value) : Prop :=
  m "asked" = some (.ref As) ∧ m "number" = some (.ref Nm) ∧ m "gone" = some (.ref Gn) ∧ m "word" = some (.str (S wd) tw) ∧ m "pair" = some (.str (S [x, y]) tp) ∧ m "slack" = some (.int slack tk) ∧ m "told" = some (.int (2 * (wd.length : Int)) tq)
/-- the objects of the game apart from its three lists -/
structure Gm (As Nm Gn : Addr) (Z QA : List (Addr × Obj)) (wd : List Nat) (x y : Nat) : Prop where
  ok : ∀ p ∈ QA, AskOk wd x y p
  as : ∀ p ∈ QA ++ Z, p.1 ≠ As
  nm : ∀ p ∈ QA ++ Z, p.1 ≠ Nm
  gn : ∀ p ∈ QA ++ Z, p.1 ≠ Gn
  za : ∀ p ∈ QA, ∀ q ∈ Z, p.1 ≠ q.1
abbrev GL (As Nm Gn : Addr) (Z QA : List (Addr × Obj)) (n e1 e2 : Nat) (v1 v2 : List Value) : List (Addr × Obj) :=
  (As, listOf (QA.map fun p => Value.ref p.1).toArray n) :: (Nm, listOf v1.toArray e1) :: (Gn, listOf v2.toArray e2) :: (QA ++ Z)
theorem more_ne {Z QA : List (Addr × Obj)} {a q : Addr} {o : Obj} (ha : ∀ p ∈ QA ++ Z, p.1 ≠ a) (hq : q ≠ a) : ∀ p ∈ (QA ++ [(q, o)]) ++ Z, p.1 ≠ a := fun p hp => by
  rcases List.mem_append.mp hp with hp | hp
  · rcases List.mem_append.mp hp with hp | hp
    · exact ha p (List.mem_append_left _ hp)
    · rw [List.mem_singleton.mp hp]; exact hq
  · exact ha p (List.mem_append_right _ hp)
theorem Gm.more {As Nm Gn : Addr} {Z QA : List (Addr × Obj)} {wd : List Nat} {x y : Nat} (g : Gm As Nm Gn Z QA wd x y) {q : Addr} {o : Obj} (h : AskOk wd x y (q, o)) (h1 : q ≠ As) (h2 : q ≠ Nm) (h3 : q ≠ Gn) (h4 : ∀ p ∈ QA ++ Z, q ≠ p.1) : Gm As Nm Gn Z (QA ++ [(q, o)]) wd x y := by
  refine ⟨fun p hp => ?_, more_ne g.as h1, more_ne g.nm h2, more_ne g.gn h3, fun p hp r hr => ?_⟩
  · rcases List.mem_append.mp hp with hp | hp
    · exact g.ok p hp
    · rw [List.mem_singleton.mp hp]; exact h
  · rcases List.mem_append.mp hp with hp | hp
    · exact g.za p hp r hr
    · rw [List.mem_singleton.mp hp]; exact h4 r (List.mem_append_right _ hr)
theorem gl_sub {As Nm Gn I q : Addr} {io o : Obj} {Z QA : List (Addr × Obj)} {n e1 e2 : Nat} {v1 v2 : List Value} : Sub ((I, io) :: GL As Nm Gn Z (QA ++ [(q, o)]) n e1 e2 v1 v2) ((q, o) :: (As, listOf (QA.map (fun p => Value.ref p.1) ++ [Value.ref q]).toArray n) :: (I, io) :: (Nm, listOf v1.toArray e1) :: (Gn, listOf v2.toArray e2) :: (QA ++ Z)) := by
  intro p hp
  simp only [GL, List.map_append, List.map_cons, List.map_nil, List.mem_cons, List.mem_append, List.not_mem_nil, or_false] at hp ⊢
  rcases hp with h | h | h | h | (h | h) | h
  · exact .inr (.inr (.inl h))
  · exact .inr (.inl h)
  · exact .inr (.inr (.inr (.inl h)))
  · exact .inr (.inr (.inr (.inr (.inl h))))
  · exact .inr (.inr (.inr (.inr (.inr (.inl h)))))
  · exact .inl h
  · exact .inr (.inr (.inr (.inr (.inr (.inr h)))))
/-- the same in the turns: the lexer's objects apart -/
structure Gt (a : LexA) (As Nm Gn : Addr) (cells QA : List (Addr × Obj)) (wd : List Nat) (x y : Nat) : Prop where
  ok : ∀ p ∈ QA, AskOk wd x y p
  as : ∀ p ∈ QA ++ cells, p.1 ≠ As
  nm : ∀ p ∈ QA ++ cells, p.1 ≠ Nm
  gn : ∀ p ∈ QA ++ cells, p.1 ≠ Gn
  l : LAp a (QA ++ cells)
  lA : LAp a [(As, Obj0)]
  lN : LAp a [(Nm, Obj0)]
  lG : LAp a [(Gn, Obj0)]
abbrev GT (w : World) (a : LexA) (line : Int) (t1 : Tok) (vs : List Value) (e2 : Nat) (As Nm Gn : Addr) (cells QA : List (Addr × Obj)) (pv : List Value) (e3 n f1 f2 : Nat) (v1 v2 : List Value) : List (Addr × Obj) :=
  (As, listOf (QA.map fun p => Value.ref p.1).toArray n) :: (Nm, listOf v1.toArray f1) :: (Gn, listOf v2.toArray f2) :: (lexH w a line t1 vs e2 pv e3 ++ (QA ++ cells))
theorem Gm.gt {a : LexA} {line : Int} {t1 : Tok} {vs : List Value} {e2 : Nat} {pv : List Value} {e3 : Nat} {As Nm Gn : Addr} {cells QA : List (Addr × Obj)} {wd : List Nat} {x y : Nat} (g : Gm As Nm Gn (lexH w a line t1 vs e2 pv e3 ++ cells) QA wd x y) (hl : LAp a cells) : Gt a As Nm Gn cells QA wd x y := by
  have t : ∀ {b : Addr}, (∀ p ∈ QA ++ (lexH w a line t1 vs e2 pv e3 ++ cells), p.1 ≠ b) → (∀ p ∈ QA ++ cells, p.1 ≠ b) := fun h p hp => by
    rcases List.mem_append.mp hp with hp | hp
    · exact h p (List.mem_append_left _ hp)
    · exact h p (List.mem_append_right _ (List.mem_append_right _ hp))
  have u : ∀ {b : Addr}, (∀ p ∈ QA ++ (lexH w a line t1 vs e2 pv e3 ++ cells), p.1 ≠ b) → LAp a [(b, Obj0)] := fun h => LAp.one (w := w) fun p hp => h p (List.mem_append_right _ (List.mem_append_left _ hp))
  exact ⟨g.ok, t g.as, t g.nm, t g.gn, LAp.app (LAp.of (w := w) fun p hp q hq => (g.za q hq p (List.mem_append_left _ hp)).symm) hl, u g.as, u g.nm, u g.gn⟩
/-- no object of the turn's ledger stands there -/
theorem gt_ne {a : LexA} {line : Int} {t1 : Tok} {vs : List Value} {e2 : Nat} {pv : List Value} {e3 : Nat} {W : List (Addr × Obj)} {b : Addr} (h : LAp a [(b, Obj0)]) (k : ∀ p ∈ W, p.1 ≠ b) : ∀ p ∈ lexH w a line t1 vs e2 pv e3 ++ W, p.1 ≠ b := fun p hp => by
  rcases List.mem_append.mp hp with hp | hp
  · exact (h.ne _ (.head _) p hp).symm
  · exact k p hp
theorem Gt.more {a : LexA} {As Nm Gn : Addr} {cells QA : List (Addr × Obj)} {wd : List Nat} {x y : Nat} (g : Gt a As Nm Gn cells QA wd x y) {q : Addr} {o : Obj} (h : AskOk wd x y (q, o)) (h1 : q ≠ As) (h2 : q ≠ Nm) (h3 : q ≠ Gn) (h4 : LAp a [(q, o)]) : Gt a As Nm Gn cells (QA ++ [(q, o)]) wd x y := by
  refine ⟨fun p hp => ?_, more_ne g.as h1, more_ne g.nm h2, more_ne g.gn h3, (LAp.app (LAp.app (g.l.sub fun p hp => List.mem_append_left _ hp) h4) (g.l.sub fun p hp => List.mem_append_right _ hp)), g.lA, g.lN, g.lG⟩
  rcases List.mem_append.mp hp with hp | hp
  · exact g.ok p hp
  · rw [List.mem_singleton.mp hp]; exact h
theorem gt_sub {a : LexA} {line : Int} {t1 : Tok} {vs : List Value} {e2 : Nat} {pv : List Value} {e3 : Nat} {As Nm Gn I q : Addr} {io o : Obj} {cells QA : List (Addr × Obj)} {n f1 f2 : Nat} {v1 v2 : List Value} : Sub ((I, io) :: GT w a line t1 vs e2 As Nm Gn cells (QA ++ [(q, o)]) pv e3 n f1 f2 v1 v2) ((q, o) :: (As, listOf (QA.map (fun p => Value.ref p.1) ++ [Value.ref q]).toArray n) :: (I, io) :: (Nm, listOf v1.toArray f1) :: (Gn, listOf v2.toArray f2) :: (lexH w a line t1 vs e2 pv e3 ++ (QA ++ cells))) := by
  intro p hp
  simp only [GT, List.map_append, List.map_cons, List.map_nil, List.mem_cons, List.mem_append, List.not_mem_nil, or_false] at hp ⊢
  rcases hp with h | h | h | h | h | (h | h) | h
  · exact .inr (.inr (.inl h))
  · exact .inr (.inl h)
  · exact .inr (.inr (.inr (.inl h)))
  · exact .inr (.inr (.inr (.inr (.inl h))))
  · exact .inr (.inr (.inr (.inr (.inr (.inl h)))))
  · exact .inr (.inr (.inr (.inr (.inr (.inr (.inl h))))))
  · exact .inl h
  · exact .inr (.inr (.inr (.inr (.inr (.inr (.inr h))))))
theorem gl_gt {a : LexA} {line : Int} {t1 : Tok} {vs : List Value} {e2 : Nat} {pv : List Value} {e3 : Nat} {As Nm Gn : Addr} {cells QA : List (Addr × Obj)} {n f1 f2 : Nat} {v1 v2 : List Value} : Sub (GT w a line t1 vs e2 As Nm Gn cells QA pv e3 n f1 f2 v1 v2) (GL As Nm Gn (lexH w a line t1 vs e2 pv e3 ++ cells) QA n f1 f2 v1 v2) := by
  intro p hp
  simp only [GT, GL, List.mem_cons, List.mem_append] at hp ⊢
  rcases hp with h | h | h | h | h | h
  · exact .inl h
  · exact .inr (.inl h)
  · exact .inr (.inr (.inl h))
  · exact .inr (.inr (.inr (.inr (.inl h))))
  · exact .inr (.inr (.inr (.inl h)))
  · exact .inr (.inr (.inr (.inr (.inr h))))
theorem sub_swap4 {A W : List (Addr × Obj)} {a b c d : Addr × Obj} : Sub (A ++ (a :: b :: c :: d :: W)) (a :: b :: c :: d :: (A ++ W)) := fun p hp => by
  simp only [List.mem_append, List.mem_cons] at hp ⊢
  rcases hp with h | h | h | h | h | h
  · exact .inr (.inr (.inr (.inr (.inl h))))
  · exact .inl h
  · exact .inr (.inl h)
  · exact .inr (.inr (.inl h))
  · exact .inr (.inr (.inr (.inl h)))
  · exact .inr (.inr (.inr (.inr (.inr h))))
theorem sub_back4 {A W : List (Addr × Obj)} {a b c d : Addr × Obj} : Sub (a :: b :: c :: d :: (A ++ W)) (A ++ (a :: b :: c :: d :: W)) := fun p hp => by
  simp only [List.mem_append, List.mem_cons] at hp ⊢
  rcases hp with h | h | h | h | h | h
  · exact .inr (.inl h)
  · exact .inr (.inr (.inl h))
  · exact .inr (.inr (.inr (.inl h)))
  · exact .inr (.inr (.inr (.inr (.inl h))))
  · exact .inl h
  · exact .inr (.inr (.inr (.inr (.inr h))))
theorem sub_swap3 {A W : List (Addr × Obj)} {a b c : Addr × Obj} : Sub (A ++ (a :: b :: c :: W)) (a :: b :: c :: (A ++ W)) := fun p hp => by
  simp only [List.mem_append, List.mem_cons] at hp ⊢
  rcases hp with h | h | h | h | h
  · exact .inr (.inr (.inr (.inl h)))
  · exact .inl h
  · exact .inr (.inl h)
  · exact .inr (.inr (.inl h))
  · exact .inr (.inr (.inr (.inr h)))
theorem sub_back3 {A W : List (Addr × Obj)} {a b c : Addr × Obj} : Sub (a :: b :: c :: (A ++ W)) (A ++ (a :: b :: c :: W)) := fun p hp => by
  simp only [List.mem_append, List.mem_cons] at hp ⊢
  rcases hp with h | h | h | h | h
  · exact .inr (.inl h)
  · exact .inr (.inr (.inl h))
  · exact .inr (.inr (.inr (.inl h)))
  · exact .inl h
  · exact .inr (.inr (.inr (.inr h)))
theorem game_s {a : LexA} {line : Int} {t1 : Tok} {vs : List Value} {e2 : Nat} {e3 : Nat} {wd : List Nat} {x y : Nat} {slack : Int} {tw tp tk : Tok} (ok : LexOk w a) (hx : x ∈ pool7) (hy : y ∈ pool7) (hxy : x ≠ y) (hw : wd.length ≤ 8) (hkk : 0 ≤ slack ∧ slack ≤ 1000) :
   Spec w 12 (.ref 110) [.ref a.x, .str (S wd) tw, .str (S [x, y]) tp, .int slack tk] (lexH w a line t1 vs e2 [] e3) (fun v H' => ∃ (Tp As Cm : Addr) (QA : List (Addr × Obj)) (PV : List Value) (tq : Tok) (n c e : Nat), v = .ref Tp ∧ (∀ p ∈ QA, AskOk wd x y p) ∧ QA.length ≤ 100 ∧ Txs PV ((wd.filter (inP x y)).map (fun c => [c]) ++ [[x, y], []]) ∧ (LAp a QA ∧ LAp a [(As, Obj0)] ∧ LAp a [(Cm, Obj0)]) ∧
     H' = (Tp, tupOf [.int (2 * (wd.length : Int)) tq, .ref As, .ref Cm]) :: (As, listOf (QA.map fun p => Value.ref p.1).toArray n) :: (Cm, listOf PV.toArray c) :: (QA ++ lexH w a line t1 vs e2 [] e)) := by
  walk_at "m fill"
  refine' spec_defC [("lexer", .ref a.x), ("word", .str (S wd) tw), ("pair", .str (S [x, y]) tp), ("slack", .int slack tk)] ?k1 ?k2 ?k3 ?k4 ?k5 ?k6 ?c1 ?c2 ?c3
  walk_at "m enterC"
  intro A P L s₀ z cells p loose mean mg mb r G lz X T F N CA hL K0 hK0
  have hrs : RetSub := ⟨⟩
  generalize hmc : bindC _ _ _ = mc at CA
  have hml : mc "lexer" = some (.ref a.x) := by rw [← hmc]; rfl
  clear hmc
  obtain ⟨hnm, hna, hLq⟩ := ca_facts CA (by decide)
  generalize hcl : cellsFrom (L + 1) _ [] = cl at CA hnm hna hLq
  have hla : LAp a cells := by
    intro q hq hm
    have h1 : q.1 ∈ cl.map (·.2) := by rw [← ca_adr CA]; exact List.mem_map_of_mem hq
    obtain ⟨r', hr', e⟩ := List.mem_map.mp h1
    obtain ⟨p', hp', e'⟩ := List.mem_map.mp (show q.1 ∈ (lexH w a line t1 vs e2 [] e3).map (·.1) from hm)
    have h2 := hL p' hp'
    have h3 := hLq r' hr'
    rw [e, ← e'] at h3
    exact absurd (Nat.lt_trans h2 h3) (Nat.lt_irrefl _)
  clear hLq
  obtain ⟨Z, hZ⟩ : ∃ Z, Z = lexH w a line t1 vs e2 [] e3 ++ cells := ⟨_, rfl⟩
  replace N := subN N (A := Z) (fun p hp => by
    rw [hZ] at hp
    rcases List.mem_append.mp hp with hp | hp
    · exact List.mem_append_right _ hp
    · exact List.mem_append_left _ hp)
  have hlev : ∀ t t' t'', Spec w 3 (.ref 70) [.str (Str.ofString "") t, .str (S wd) t', .int (-1) t''] [] (fun v H' => ∃ tk, v = .int (levF [] wd (-1)) tk) := by
    intro t t' t''
    rw [lit_e]
    exact lev_s (la := []) (lb := wd) (by simp) (by lia)
  have hcZ : Sub cells Z := fun p hp => hZ ▸ List.mem_append_right _ hp
  (try k_fold)
  refine cut P L (s₀ := z) (by walk_at "LK") (fun m H => ∃ As Nm Gn t0 t1 t2 t3, m "word" = some (.str (S wd) tw) ∧ m "pair" = some (.str (S [x, y]) tp) ∧ m "slack" = some (.int slack tk) ∧ m "asked" = some (.ref As) ∧ m "number" = some (.ref Nm) ∧ m "gone" = some (.ref Gn) ∧ Bx (As ≠ Nm ∧ As ≠ Gn ∧ Nm ≠ Gn) ∧ Gm As Nm Gn Z [] wd x y ∧ H = GL As Nm Gn Z [] 0 0 0 [.int 0 t0, .int 0 t1] [.int 0 t2, .int 0 t3]) ?_ ?_
  · intro K1 hK1
    walk_at "m go"
    rename_i lA _ lA1 lN _ _ lN1 lG _ _ lG1 _ _ _ _ _ _ _ _ _ _
    exact ⟨⟨_, Sub.consm (.tail _ (.tail _ (.tail _ (.head _)))) (Sub.consm (.tail _ (.tail _ (.head _))) (Sub.consm (.tail _ (.head _)) (Sub.rfl'.tail.tail.tail.tail))), lA, lN, lG, _, _, _, _, rfl, rfl, rfl, rfl, rfl, rfl, ⟨Nat.ne_of_lt lN1.1, Nat.ne_of_lt lG1.2.1, Nat.ne_of_lt lG1.1⟩,
      ⟨fun _ h => (nomatch h), fun p hp => Nat.ne_of_lt (lA1 p hp), fun p hp => Nat.ne_of_lt (allLt_to lN1.2 p hp), fun p hp => Nat.ne_of_lt (allLt_to lG1.2.2 p hp), fun _ h => (nomatch h)⟩, rfl⟩⟩
  clear N F
  rintro s₁ m' H' l₁ ⟨As, Nm, Gn, t0, t1', t2, t3, g4, g5, g6, g1, g2, g3, hAN, hG, rfl⟩ F₁ N₁
  k_sweep
  refine cut P L (s₀ := z) (by walk_at "LK") (fun m H => (∃ tq, GF As Nm Gn wd x y slack tw tp tk tq m) ∧ H = GL As Nm Gn Z [] 0 0 0 [.int 0 t0, .int 0 t1'] [.int 0 t2, .int 0 t3]) ?_ ?_
  · intro K1 hK1
    simp only [GL, List.map_nil, List.nil_append] at N₁
    walk_at "m go"
    refine ⟨call_spec (H := []) (rest := (As, listOf ([] : List Value).toArray 0) :: (Nm, listOf [.int 0 t0, .int 0 t1'].toArray 0) :: (Gn, listOf [.int 0 t2, .int 0 t3].toArray 0) :: Z) (hlev _ _ _) (Rm.le (by assumption) (Nat.le_of_ble_eq_true rfl)) G (by assumption) (by assumption) (fun p hp => hp) (fun _ _ _ hq => nomatch hq) (by walk_at "LK") ?_⟩
    rintro _ H' s₃ ⟨tk', rfl⟩ l₃ F₃ N₃ ap
    replace N₃ := subN N₃ (fun p hp => List.mem_append_right _ hp)
    rw [levF_nil]
    k_sweep
    walk_at "m go"
    exact ⟨⟨_, Sub.rfl', ⟨_, g1, g2, g3, g4, g5, g6, rfl⟩, rfl⟩⟩
  clear g1 g2 g3 g4 g5 g6 F₁ N₁
  rintro s₂ m₂ H₂ l₂ ⟨⟨tq, g1, g2, g3, g4, g5, g6, g7⟩, rfl⟩ F₂ N₂
  have hn0 : wd.count x ≤ wd.length := List.count_le_length
  have hn1 : wd.count y ≤ wd.length := List.count_le_length
  have hfd : Int.fdiv (2 * (wd.length : Int)) 2 = wd.length := by rw [Int.mul_comm]; exact Int.mul_fdiv_cancel _ (by decide)
  k_sweep
  refine cut P L (s₀ := z) (by walk_at "LK") (fun m H => GF As Nm Gn wd x y slack tw tp tk tq m ∧ ∃ QA n e t0 t1', QA.length ≤ 16 ∧ Gm As Nm Gn Z QA wd x y ∧ H = GL As Nm Gn Z QA n e 0 [.int (wd.count x : Nat) t0, .int (wd.count y : Nat) t1'] [.int 0 t2, .int 0 t3]) ?_ ?_
  · intro K1 hK1
    refine for_in ?_
    simp only [GL, List.map_nil, List.nil_append] at N₂
    walk_at "m go"
    refine' ⟨loop_range (by assumption) r.hh rfl rfl (s₀ := z) (by walk_at "LK") (by lia) (by lia) (by lia) (by lia) (n := wd.length) (by lia) ?LF ?LN
      (fun k m H => GF As Nm Gn wd x y slack tw tp tk tq m ∧ ∃ QA n e t0 t1', QA.length = 2 * k ∧ Gm As Nm Gn Z QA wd x y ∧ H = GL As Nm Gn Z QA n e 0 [.int (min k (wd.count x) : Nat) t0, .int (min k (wd.count y) : Nat) t1'] [.int 0 t2, .int 0 t3]) ?LJ ?_ ?_⟩
    case LF => assumption
    case LN => assumption
    case LJ => exact ⟨⟨g1, g2, g3, g4, g5, g6, g7⟩, [], _, _, t0, t1', rfl, hG, by rw [Nat.zero_min, Nat.zero_min]; rfl⟩
    · rintro k tv m₁ H₁ s₁ I io l₁ hk8 ⟨⟨g1, g2, g3, g4, g5, g6, g7⟩, QA, n, e, t0, t1, hQ, hGm, rfl⟩ ne F₁ N₁ K2 hK2
      have ek : (1 : Int) + (k : Int) = ((k + 1 : Nat) : Int) := by lia
      rw [ek] at F₁
      simp only [GL] at N₁ ne
      have hIA : As ≠ I := ne _ (.head _)
      have hIN : Nm ≠ I := ne _ (.tail _ (.head _))
      have hIG : Gn ≠ I := ne _ (.tail _ (.tail _ (.head _)))
      have hIY : ∀ p ∈ QA ++ Z, p.1 ≠ I := fun p hp => ne p (.tail _ (.tail _ (.tail _ hp)))
      clear ne
      have y0 := yes0 (wd := wd) (x := x) (y := y) (s := k + 1) (k := 2 * (wd.length : Int) - 2 * ((k + 1 : Nat) : Int)) rfl
      have y1 := yes1 (wd := wd) (x := x) (y := y) (t := k + 1) (k := 2 * (wd.length : Int) - 2 * ((k + 1 : Nat) : Int)) rfl
      k_sweep
      refine cut P L (s₀ := z) (by walk_at "LK") (fun m H => GF As Nm Gn wd x y slack tw tp tk tq m ∧ m "times" = some (.int ((k + 1 : Nat) : Int) tv) ∧ ∃ QA n e t0, QA.length = 2 * k + 1 ∧ Gm As Nm Gn Z QA wd x y ∧ (∀ p ∈ QA ++ Z, p.1 ≠ I) ∧ H = (I, io) :: GL As Nm Gn Z QA n e 0 [.int (min (k + 1) (wd.count x) : Nat) t0, .int (min k (wd.count y) : Nat) t1] [.int 0 t2, .int 0 t3]) ?_ ?_
      · intro K3 hK3
        obtain ⟨qv, hqv⟩ : ∃ qv, qv = QA.map (fun p => Value.ref p.1) := ⟨_, rfl⟩
        have hql : qv.length = 2 * k := by rw [hqv, List.length_map, hQ]
        obtain ⟨Y, hY⟩ : ∃ Y, Y = QA ++ Z := ⟨_, rfl⟩
        rw [← hY, ← hqv] at N₁
        rw [← hY] at hIY
        have yA : ∀ p ∈ Y, p.1 ≠ As := hY ▸ hGm.as
        have yN : ∀ p ∈ Y, p.1 ≠ Nm := hY ▸ hGm.nm
        have aAN := hAN.out.1
        have aNG := hAN.out.2.2
        walk_at "m go"
        refine ⟨call_spec (H := [(As, listOf qv.toArray n)]) (rest := (I, io) :: (Nm, listOf [.int (min k (wd.count x) : Nat) t0, .int (min k (wd.count y) : Nat) t1].toArray e) :: (Gn, listOf [.int 0 t2, .int 0 t3].toArray 0) :: Y) (yes_s (s := k + 1) (t := 0) (by lia) (by lia) (by lia) (by lia) hkk (by lia)) (Rm.le (by assumption) (Nat.le_of_ble_eq_true rfl)) G (by assumption) (by assumption) (Sub.consm (.tail _ (.head _)) (Sub.consm (.head _) (Sub.rfl'.tail.tail))) ?_ (by walk_at "LK") ?_⟩
        · intro p hp q hq
          rw [List.mem_singleton.mp hq]
          revert p
          exact List.forall_mem_cons.mpr ⟨hIA.symm, List.forall_mem_cons.mpr ⟨aAN.symm, List.forall_mem_cons.mpr ⟨hAN.out.2.1.symm, yA⟩⟩⟩
        rintro v H' s₆ ⟨kq, q, told, b1, b2, b3, b4, rfl, hT, hAq, rfl⟩ l₆ F₆ N₆ ap₆
        obtain ⟨dl, hdl⟩ : ∃ dl : Int, dl = if dist wd (List.replicate (k + 1) x ++ List.replicate 0 y) ≤ 2 * (wd.length : Int) - 2 * ((k + 1 : Nat) : Int) then 1 else 0 := ⟨_, rfl⟩
        rw [← hdl]
        have hqN : q ≠ Nm := ap₆ _ (.head _) _ (.tail _ (.head _))
        have hqG : q ≠ Gn := ap₆ _ (.head _) _ (.tail _ (.tail _ (.head _)))
        have hqI : q ≠ I := ap₆ _ (.head _) _ (.head _)
        have hqY : ∀ p ∈ Y, q ≠ p.1 := fun p hp => ap₆ _ (.head _) p (.tail _ (.tail _ (.tail _ hp)))
        simp only [List.cons_append, List.nil_append] at N₆
        obtain ⟨o, ho⟩ : ∃ o, o = tupOf [.int ((k + 1 : Nat) : Int) b1, .int ((0 : Nat) : Int) b2, .int told b3, .int (2 * (wd.length : Int) - 2 * ((k + 1 : Nat) : Int) + slack) b4] := ⟨_, rfl⟩
        rw [← ho] at N₆
        have hask : AskOk wd x y (q, o) := ⟨_, _, told, _, b1, b2, b3, b4, by lia, by lia, hT, ho⟩
        have hmore := hGm.more hask hAq.symm hqN hqG (fun p hp => hqY p (by rw [hY]; exact hp))
        have hIm := more_ne (o := o) (hY ▸ hIY) hqI
        have he : ((min k (wd.count x) : Nat) : Int) + dl = ((min (k + 1) (wd.count x) : Nat) : Int) := by
          rw [hdl]
          by_cases h : k + 1 ≤ wd.count x
          · rw [if_pos (y0.mpr h)]; lia
          · rw [if_neg (fun e => h (y0.mp e))]; lia
        k_sweep
        walk_at "m go"
        have hS := gl_sub (As := As) (Nm := Nm) (Gn := Gn) (I := I) (q := q) (io := io) (o := o) (Z := Z) (QA := QA) (n := n + 1) (e1 := e) (e2 := 0) (v1 := [.int (((min k (wd.count x) : Nat) : Int) + dl) s₆.toks, .int (min k (wd.count y) : Nat) t1]) (v2 := [.int 0 t2, .int 0 t3])
        rw [← hY, ← hqv] at hS
        exact ⟨⟨_, hS, ⟨g1, g2, g3, g4, g5, g6, g7⟩, rfl, QA ++ [(q, o)], n + 1, e, s₆.toks, by rw [List.length_append, hQ]; rfl, hmore, hIm, by rw [he]⟩⟩
      clear g1 g2 g3 g4 g5 g6 g7 F₁ N₁ hGm hIY hQ
      rintro s₁ m₁ H₁ l₁ ⟨⟨g1, g2, g3, g4, g5, g6, g7⟩, g8, QA, n, e, t0, hQ, hGm, hIY, rfl⟩ F₁ N₁
      simp only [GL] at N₁
      k_sweep
      obtain ⟨qv, hqv⟩ : ∃ qv, qv = QA.map (fun p => Value.ref p.1) := ⟨_, rfl⟩
      have hql : qv.length = 2 * k + 1 := by rw [hqv, List.length_map, hQ]
      obtain ⟨Y, hY⟩ : ∃ Y, Y = QA ++ Z := ⟨_, rfl⟩
      rw [← hY, ← hqv] at N₁
      rw [← hY] at hIY
      have yA : ∀ p ∈ Y, p.1 ≠ As := hY ▸ hGm.as
      have yN : ∀ p ∈ Y, p.1 ≠ Nm := hY ▸ hGm.nm
      have aAN := hAN.out.1
      have aNG := hAN.out.2.2
      walk_at "m go"
      refine ⟨call_spec (H := [(As, listOf qv.toArray n)]) (rest := (I, io) :: (Nm, listOf [.int (min (k + 1) (wd.count x) : Nat) t0, .int (min k (wd.count y) : Nat) t1].toArray e) :: (Gn, listOf [.int 0 t2, .int 0 t3].toArray 0) :: Y) (yes_s (s := 0) (t := k + 1) (by lia) (by lia) (by lia) (by lia) hkk (by lia)) (Rm.le (by assumption) (Nat.le_of_ble_eq_true rfl)) G (by assumption) (by assumption) (Sub.consm (.tail _ (.head _)) (Sub.consm (.head _) (Sub.rfl'.tail.tail))) ?_ (by walk_at "LK") ?_⟩
      · intro p hp q hq
        rw [List.mem_singleton.mp hq]
        revert p
        exact List.forall_mem_cons.mpr ⟨hIA.symm, List.forall_mem_cons.mpr ⟨aAN.symm, List.forall_mem_cons.mpr ⟨hAN.out.2.1.symm, yA⟩⟩⟩
      rintro v H' s₆ ⟨kq, q, told, b1, b2, b3, b4, rfl, hT, hAq, rfl⟩ l₆ F₆ N₆ ap₆
      obtain ⟨dl, hdl⟩ : ∃ dl : Int, dl = if dist wd (List.replicate 0 x ++ List.replicate (k + 1) y) ≤ 2 * (wd.length : Int) - 2 * ((k + 1 : Nat) : Int) then 1 else 0 := ⟨_, rfl⟩
      rw [← hdl]
      have hqN : q ≠ Nm := ap₆ _ (.head _) _ (.tail _ (.head _))
      have hqG : q ≠ Gn := ap₆ _ (.head _) _ (.tail _ (.tail _ (.head _)))
      have hqI : q ≠ I := ap₆ _ (.head _) _ (.head _)
      have hqY : ∀ p ∈ Y, q ≠ p.1 := fun p hp => ap₆ _ (.head _) p (.tail _ (.tail _ (.tail _ hp)))
      simp only [List.cons_append, List.nil_append] at N₆
      obtain ⟨o, ho⟩ : ∃ o, o = tupOf [.int ((0 : Nat) : Int) b1, .int ((k + 1 : Nat) : Int) b2, .int told b3, .int (2 * (wd.length : Int) - 2 * ((k + 1 : Nat) : Int) + slack) b4] := ⟨_, rfl⟩
      rw [← ho] at N₆
      have hask : AskOk wd x y (q, o) := ⟨_, _, told, _, b1, b2, b3, b4, by lia, by lia, hT, ho⟩
      have hmore := hGm.more hask hAq.symm hqN hqG (fun p hp => hqY p (by rw [hY]; exact hp))
      have hIm := more_ne (o := o) (hY ▸ hIY) hqI
      have he : ((min k (wd.count y) : Nat) : Int) + dl = ((min (k + 1) (wd.count y) : Nat) : Int) := by
        rw [hdl]
        by_cases h : k + 1 ≤ wd.count y
        · rw [if_pos (y1.mpr h)]; lia
        · rw [if_neg (fun e => h (y1.mp e))]; lia
      k_sweep
      walk_at "m go"
      have hS := gl_sub (As := As) (Nm := Nm) (Gn := Gn) (I := I) (q := q) (io := io) (o := o) (Z := Z) (QA := QA) (n := n + 1) (e1 := e) (e2 := 0) (v1 := [.int (min (k + 1) (wd.count x) : Nat) t0, .int (((min k (wd.count y) : Nat) : Int) + dl) s₆.toks]) (v2 := [.int 0 t2, .int 0 t3])
      rw [← hY, ← hqv] at hS
      exact ⟨⟨_, hS, List.forall_mem_cons.mpr ⟨hIA, List.forall_mem_cons.mpr ⟨hIN, List.forall_mem_cons.mpr ⟨hIG, hIm⟩⟩⟩, ⟨g1, g2, g3, g4, g5, g6, g7⟩, QA ++ [(q, o)], n + 1, e, t0, s₆.toks, by rw [List.length_append, hQ, List.length_singleton]; lia, hmore, by rw [he]⟩⟩
    · rintro m₁ H₁ s₁ l₁ ⟨hg, QA, n, e, t0, t1, hQ, hGm, rfl⟩ F₁ N₁
      refine Imp2.go (by assumption) ?_; exact CutQ.next l₁ F₁ N₁ ⟨_, Sub.rfl', hg, QA, n, e, t0, t1, by lia, hGm, by rw [Nat.min_eq_right hn0, Nat.min_eq_right hn1]⟩
  clear g1 g2 g3 g4 g5 g6 g7 F₂ N₂ hG
  subst hZ
  rintro s₁ m₁ H₁ l₁ ⟨⟨g1, g2, g3, g4, g5, g6, g7⟩, QA, n, e, t0, t1', hQ, hGm, rfl⟩ F₁ N₁
  have hGt := hGm.gt hla
  replace N₁ := subN N₁ gl_gt
  clear hGm
  obtain ⟨sub, hsub⟩ : ∃ sub, sub = wd.filter (inP x y) := ⟨_, rfl⟩
  have hsl : sub.length = wd.count x + wd.count y := by rw [hsub]; exact subl_len hxy wd
  rw [← hsub] at hK0
  k_sweep
  refine cut P L (s₀ := z) (by walk_at "LK") (fun m H => GF As Nm Gn wd x y slack tw tp tk tq m ∧ ∃ QA n f1 f2 pv e3 t0 t1' t2 t3, QA.length ≤ 40 ∧ Gt a As Nm Gn cells QA wd x y ∧ Txs pv (sub.map fun c => [c]) ∧ H = GT w a line t1 vs e2 As Nm Gn cells QA pv e3 n f1 f2 [.int (wd.count x : Nat) t0, .int (wd.count y : Nat) t1'] [.int (sub.count x : Nat) t2, .int (sub.count y : Nat) t3]) ?_ ?_
  · intro K1 hK1
    refine for_in ?_
    obtain ⟨Y, hY⟩ : ∃ Y, Y = lexH w a line t1 vs e2 [] e3 ++ (QA ++ cells) := ⟨_, rfl⟩
    simp only [GT] at N₁
    rw [← hY] at N₁
    have hd0 : [((wd.count x : Nat) : Int), ((wd.count y : Nat) : Int)].getD (Int.toNat 0) 0 = ((wd.count x : Nat) : Int) := rfl
    have hd1 : [((wd.count x : Nat) : Int), ((wd.count y : Nat) : Int)].getD (Int.toNat 1) 0 = ((wd.count y : Nat) : Int) := rfl
    walk_at "m go"
    refine' ⟨loop_range (by assumption) r.hh rfl rfl (s₀ := z) (by walk_at "LK") (by lia) (by lia) (by lia) (by lia) (n := sub.length) (by lia) ?LF ?LN
      (fun k m H => GF As Nm Gn wd x y slack tw tp tk tq m ∧ ∃ QA n f1 f2 pv e3 t0 t1' t2 t3, QA.length ≤ 16 + k ∧ Gt a As Nm Gn cells QA wd x y ∧ Txs pv ((sub.take k).map fun c => [c]) ∧ H = GT w a line t1 vs e2 As Nm Gn cells QA pv e3 n f1 f2 [.int (wd.count x : Nat) t0, .int (wd.count y : Nat) t1'] [.int ((sub.take k).count x : Nat) t2, .int ((sub.take k).count y : Nat) t3]) ?LJ ?_ ?_⟩
    case LF => assumption
    case LN => assumption
    case LJ => exact ⟨⟨g1, g2, g3, g4, g5, g6, g7⟩, QA, _, _, _, [], _, t0, t1', t2, t3, hQ, hGt, .nil, by rw [hY]; rfl⟩
    · rintro k tv m₁ H₁ s₁ I io l₁ hk8 ⟨⟨g1, g2, g3, g4, g5, g6, g7⟩, QA, n, f1, f2, pv, e3, t0, t1', t2, t3, hQ, hGt, hPV, rfl⟩ ne F₁ N₁ K2 hK2
      simp only [GT] at N₁ ne
      have hIA : As ≠ I := ne _ (.head _)
      have hIN : Nm ≠ I := ne _ (.tail _ (.head _))
      have hIG : Gn ≠ I := ne _ (.tail _ (.tail _ (.head _)))
      have hIW : ∀ p ∈ QA ++ cells, p.1 ≠ I := fun p hp => ne p (.tail _ (.tail _ (.tail _ (List.mem_append_right _ hp))))
      have hIL : LAp a [(I, Obj0)] := LAp.one (w := w) fun p hp => ne p (.tail _ (.tail _ (.tail _ (List.mem_append_left _ hp))))
      clear ne hd0 hd1 hY
      have htk := take_at hk8
      have hsx : (sub.take k).count x ≤ wd.count x := by have h2 := (List.take_sublist k sub).count_le x; rw [hsub, subl_count (.inl rfl), ← hsub] at h2; exact h2
      have hsy : (sub.take k).count y ≤ wd.count y := by have h2 := (List.take_sublist k sub).count_le y; rw [hsub, subl_count (.inr rfl), ← hsub] at h2; exact h2
      obtain ⟨tt, htt⟩ : ∃ tt, tt + (sub.take k).count y = wd.count y := ⟨wd.count y - (sub.take k).count y, by lia⟩
      obtain ⟨hcc, hyes⟩ := turn_at (wd := wd) (sub := sub) (j := k) (s := (sub.take k).count x + 1) (t := tt) hxy hsub hk8 rfl htt rfl
      generalize sub.getD k 0 = c at htk hcc hyes
      generalize h0 : (sub.take k).count x = c0 at hsx hyes N₁
      generalize h1 : (sub.take k).count y = c1 at hsy htt N₁
      have aAN := hAN.out.1
      have aAG := hAN.out.2.1
      have aNG := hAN.out.2.2
      k_sweep
      refine cut P L (s₀ := z) (by walk_at "LK") (fun m H => GF As Nm Gn wd x y slack tw tp tk tq m ∧ (∃ tk, m "s" = some (.int ((c0 + 1 : Nat) : Int) tk)) ∧ (∃ tk, m "t" = some (.int ((tt : Nat) : Int) tk)) ∧ H = (I, io) :: GT w a line t1 vs e2 As Nm Gn cells QA pv e3 n f1 f2 [.int (wd.count x : Nat) t0, .int (wd.count y : Nat) t1'] [.int (c0 : Nat) t2, .int (c1 : Nat) t3]) ?_ ?_
      · intro K3 hK3
        obtain ⟨Y, hY⟩ : ∃ Y, Y = lexH w a line t1 vs e2 pv e3 ++ (QA ++ cells) := ⟨_, rfl⟩
        rw [← hY] at N₁
        walk_at "m go"
        exact ⟨⟨_, Sub.rfl'.tail, ⟨g1, g2, g3, g4, g5, g6, g7⟩, ⟨_, congrArg (fun v => some (Value.int v _)) (by show (c0 : Int) + 1 = ((c0 + 1 : Nat) : Int); lia)⟩, ⟨_, congrArg (fun v => some (Value.int v _)) (by show ((wd.count y : Nat) : Int) - (c1 : Nat) = ((tt : Nat) : Int); lia)⟩, by rw [hY]⟩⟩
      clear g1 g2 g3 g4 g5 g6 g7 F₁ N₁
      rintro s₁ m₁ H₁ l₁ ⟨⟨g1, g2, g3, g4, g5, g6, g7⟩, ⟨ts, g8⟩, ⟨tt9, g9⟩, rfl⟩ F₁ N₁
      simp only [GT] at N₁
      k_sweep
      refine cut P L (s₀ := z) (by walk_at "LK") (fun m H => GF As Nm Gn wd x y slack tw tp tk tq m ∧ (∃ tk, m "yes" = some (.int (if c = x then 1 else 0) tk)) ∧ ∃ QA n, QA.length ≤ 16 + (k + 1) ∧ Gt a As Nm Gn cells QA wd x y ∧ (∀ p ∈ QA ++ cells, p.1 ≠ I) ∧ H = (I, io) :: GT w a line t1 vs e2 As Nm Gn cells QA pv e3 n f1 f2 [.int (wd.count x : Nat) t0, .int (wd.count y : Nat) t1'] [.int (c0 : Nat) t2, .int (c1 : Nat) t3]) ?_ ?_
      · intro K3 hK3
        have gA := gt_ne (w := w) (line := line) (t1 := t1) (vs := vs) (e2 := e2) (pv := pv) (e3 := e3) hGt.lA hGt.as
        obtain ⟨Y, hY⟩ : ∃ Y, Y = lexH w a line t1 vs e2 pv e3 ++ (QA ++ cells) := ⟨_, rfl⟩
        obtain ⟨qv, hqv⟩ : ∃ qv, qv = QA.map (fun p => Value.ref p.1) := ⟨_, rfl⟩
        have hql : qv.length ≤ 40 := by rw [hqv, List.length_map]; lia
        rw [← hY, ← hqv] at N₁
        rw [← hY] at gA
        walk_at "m go"
        refine ⟨call_spec (H := [(As, listOf qv.toArray n)]) (rest := (I, io) :: (Nm, listOf [.int (wd.count x : Nat) t0, .int (wd.count y : Nat) t1'].toArray f1) :: (Gn, listOf [.int (c0 : Nat) t2, .int (c1 : Nat) t3].toArray f2) :: Y) (yes_s (s := c0 + 1) (t := tt) (by lia) (by lia) (by lia) (by lia) hkk (by lia)) (Rm.le (by assumption) (Nat.le_of_ble_eq_true rfl)) G (by assumption) (by assumption) (Sub.consm (.tail _ (.head _)) (Sub.consm (.head _) (Sub.rfl'.tail.tail))) ?_ (by walk_at "LK") ?_⟩
        · intro p hp q hq
          rw [List.mem_singleton.mp hq]
          revert p
          exact List.forall_mem_cons.mpr ⟨hIA.symm, List.forall_mem_cons.mpr ⟨aAN.symm, List.forall_mem_cons.mpr ⟨aAG.symm, gA⟩⟩⟩
        rintro v H' s₆ ⟨kq, q, told, b1, b2, b3, b4, rfl, hT, hAq, rfl⟩ l₆ F₆ N₆ ap₆
        have he : (if dist wd (List.replicate (c0 + 1) x ++ List.replicate tt y) ≤ 2 * (wd.length : Int) - 2 * (((c0 + 1 : Nat) : Int) + ((tt : Nat) : Int)) then (1 : Int) else 0) = if c = x then 1 else 0 := by
          by_cases h : c = x
          · rw [if_pos (hyes.mpr h), if_pos h]
          · rw [if_neg (fun e => h (hyes.mp e)), if_neg h]
        rw [he]
        have hqN : q ≠ Nm := ap₆ _ (.head _) _ (.tail _ (.head _))
        have hqG : q ≠ Gn := ap₆ _ (.head _) _ (.tail _ (.tail _ (.head _)))
        have hqI : q ≠ I := ap₆ _ (.head _) _ (.head _)
        have hqY : ∀ p ∈ Y, q ≠ p.1 := fun p hp => ap₆ _ (.head _) p (.tail _ (.tail _ (.tail _ hp)))
        simp only [List.cons_append, List.nil_append] at N₆
        obtain ⟨o, ho⟩ : ∃ o, o = tupOf [.int ((c0 + 1 : Nat) : Int) b1, .int ((tt : Nat) : Int) b2, .int told b3, .int (2 * (wd.length : Int) - 2 * (((c0 + 1 : Nat) : Int) + ((tt : Nat) : Int)) + slack) b4] := ⟨_, rfl⟩
        rw [← ho] at N₆
        have hask : AskOk wd x y (q, o) := ⟨_, _, told, _, b1, b2, b3, b4, by lia, by lia, hT, ho⟩
        have hmore := hGt.more hask hAq.symm hqN hqG (LAp.one (w := w) (line := line) (t1 := t1) (vs := vs) (e2 := e2) (pv := pv) (e3 := e3) fun p hp => (hqY p (by rw [hY]; exact List.mem_append_left _ hp)).symm)
        have hIm := more_ne (o := o) hIW hqI
        k_sweep
        walk_at "m go"
        have hS := gt_sub (w := w) (a := a) (line := line) (t1 := t1) (vs := vs) (e2 := e2) (pv := pv) (e3 := e3) (As := As) (Nm := Nm) (Gn := Gn) (I := I) (q := q) (io := io) (o := o) (cells := cells) (QA := QA) (n := n + 1) (f1 := f1) (f2 := f2) (v1 := [.int (wd.count x : Nat) t0, .int (wd.count y : Nat) t1']) (v2 := [.int (c0 : Nat) t2, .int (c1 : Nat) t3])
        rw [← hY, ← hqv] at hS
        exact ⟨⟨_, hS, ⟨g1, g2, g3, g4, g5, g6, g7⟩, ⟨_, rfl⟩, QA ++ [(q, o)], n + 1, by rw [List.length_append, List.length_singleton]; lia, hmore, hIm, rfl⟩⟩
      clear g1 g2 g3 g4 g5 g6 g7 g8 g9 F₁ N₁ hGt hIW hQ
      rintro s₁ m₁ H₁ l₁ ⟨⟨g1, g2, g3, g4, g5, g6, g7⟩, ⟨ty, g8⟩, QA, n, hQ, hGt, hIW, rfl⟩ F₁ N₁
      obtain ⟨yv, hy9, hyv⟩ : ∃ yv : Int, (if c = x then (1 : Int) else 0) = yv ∧ ((yv = 1 ∧ c = x) ∨ (yv = 0 ∧ c = y)) := by
        by_cases h : c = x
        · exact ⟨1, if_pos h, .inl ⟨rfl, h⟩⟩
        · exact ⟨0, if_neg h, .inr ⟨rfl, hcc.resolve_left h⟩⟩
      rw [hy9] at g8
      clear hy9 hyes
      have hyb : 0 ≤ 1 - yv ∧ 1 - yv < 2 := by lia
      k_sweep
      refine cut P L (s₀ := z) (by walk_at "LK") (fun m H => GF As Nm Gn wd x y slack tw tp tk tq m ∧ m "yes" = some (.int yv ty) ∧ ∃ pv e3, Txs pv ((sub.take (k + 1)).map fun c => [c]) ∧ H = (I, io) :: GT w a line t1 vs e2 As Nm Gn cells QA pv e3 n f1 f2 [.int (wd.count x : Nat) t0, .int (wd.count y : Nat) t1'] [.int (c0 : Nat) t2, .int (c1 : Nat) t3]) ?_ ?_
      · intro K4 hK4
        have NN := N₁
        clear N₁
        have hcs : Sub cells ((I, io) :: GT w a line t1 vs e2 As Nm Gn cells QA pv e3 n f1 f2 [.int (wd.count x : Nat) t0, .int (wd.count y : Nat) t1'] [.int (c0 : Nat) t2, .int (c1 : Nat) t3]) := fun p hp => .tail _ (.tail _ (.tail _ (.tail _ (List.mem_append_right _ (List.mem_append_right _ hp)))))
        have hlap : LAp a ((I, io) :: (As, listOf (QA.map fun p => Value.ref p.1).toArray n) :: (Nm, listOf [.int (wd.count x : Nat) t0, .int (wd.count y : Nat) t1'].toArray f1) :: (Gn, listOf [.int (c0 : Nat) t2, .int (c1 : Nat) t3].toArray f2) :: (QA ++ cells)) := hIL.cons (hGt.lA.cons (hGt.lN.cons (hGt.lG.cons hGt.l)))
        have hpl : pv.length ≤ 40 := by rw [hPV.length, List.length_map, List.length_take]; lia
        simp only [GT, lexH, lexD, List.cons_append, List.nil_append] at NN hcs
        walk_at "m go"
        refine ⟨call_spec (H := lexH w a line t1 vs e2 pv e3) (rest := (I, io) :: (As, listOf (QA.map fun p => Value.ref p.1).toArray n) :: (Nm, listOf [.int (wd.count x : Nat) t0, .int (wd.count y : Nat) t1'].toArray f1) :: (Gn, listOf [.int (c0 : Nat) t2, .int (c1 : Nat) t3].toArray f2) :: (QA ++ cells)) (push_s ok (by lia)) (Rm.le r (Nat.le_of_ble_eq_true rfl)) G (by assumption) (by assumption) (sub_swap4 (A := lexH w a line t1 vs e2 pv e3)) hlap.ne (by walk_at "LK") ?_⟩
        rintro v H' s₅ ⟨e5, rfl⟩ l₅ F₅ N₅ ap₅
        k_sweep
        walk_at "m go"
        exact ⟨⟨_, sub_back4 (A := lexH w a line t1 vs e2 (pv ++ [_]) e5), ⟨g1, g2, g3, g4, g5, g6, g7⟩, g8, _, e5, by rw [htk, List.map_append]; exact hPV.append (.cons _ _ .nil), rfl⟩⟩
      clear g1 g2 g3 g4 g5 g6 g7 g8 F₁ N₁ hPV
      rintro s8 m₁ H₁ l₁ ⟨⟨g1, g2, g3, g4, g5, g6, g7⟩, g8, pv, e3, hPV, rfl⟩ F₁ N₁
      simp only [GT] at N₁
      have gW := gt_ne (w := w) (line := line) (t1 := t1) (vs := vs) (e2 := e2) (pv := pv) (e3 := e3) hGt.lG hGt.gn
      have iW := gt_ne (w := w) (line := line) (t1 := t1) (vs := vs) (e2 := e2) (pv := pv) (e3 := e3) hIL hIW
      obtain ⟨Y, hY⟩ : ∃ Y, Y = lexH w a line t1 vs e2 pv e3 ++ (QA ++ cells) := ⟨_, rfl⟩
      rw [← hY] at N₁ gW iW
      k_sweep
      walk_at "m go"
      rcases hyv with ⟨rfl, hcx⟩ | ⟨rfl, hcx⟩
      · have hc1 : (sub.take (k + 1)).count x = c0 + 1 := by rw [htk, List.count_append, h0, hcx, List.count_singleton, if_pos (by simp)]
        have hc2 : (sub.take (k + 1)).count y = c1 := by rw [htk, List.count_append, h1, hcx, List.count_singleton, if_neg (by simp [hxy])]; lia
        exact ⟨⟨(As, listOf (QA.map fun p => Value.ref p.1).toArray n) :: (Nm, listOf [.int (wd.count x : Nat) t0, .int (wd.count y : Nat) t1'].toArray f1) :: (Gn, listOf [.int ((c0 : Int) + 1) _, .int (c1 : Nat) t3].toArray f2) :: Y, Sub.rfl', List.forall_mem_cons.mpr ⟨hIA, List.forall_mem_cons.mpr ⟨hIN, List.forall_mem_cons.mpr ⟨hIG, iW⟩⟩⟩, ⟨g1, g2, g3, g4, g5, g6, g7⟩, QA, n, f1, f2, pv, e3, t0, t1', _, t3, by lia, hGt, hPV, by rw [hc1, hc2, hY]; rfl⟩⟩
      · have hc1 : (sub.take (k + 1)).count y = c1 + 1 := by rw [htk, List.count_append, h1, hcx, List.count_singleton, if_pos (by simp)]
        have hc2 : (sub.take (k + 1)).count x = c0 := by rw [htk, List.count_append, h0, hcx, List.count_singleton, if_neg (by simp [Ne.symm hxy])]; lia
        exact ⟨⟨(As, listOf (QA.map fun p => Value.ref p.1).toArray n) :: (Nm, listOf [.int (wd.count x : Nat) t0, .int (wd.count y : Nat) t1'].toArray f1) :: (Gn, listOf [.int (c0 : Nat) t2, .int ((c1 : Int) + 1) _].toArray f2) :: Y, Sub.rfl', List.forall_mem_cons.mpr ⟨hIA, List.forall_mem_cons.mpr ⟨hIN, List.forall_mem_cons.mpr ⟨hIG, iW⟩⟩⟩, ⟨g1, g2, g3, g4, g5, g6, g7⟩, QA, n, f1, f2, pv, e3, t0, t1', t2, _, by lia, hGt, hPV, by rw [hc1, hc2, hY]; rfl⟩⟩
    · rintro m₁ H₁ s₁ l₁ ⟨hg, QA, n, f1, f2, pv, e3, t0, t1, t2, t3, hQ, hGt, hT, rfl⟩ F₁ N₁
      rw [List.take_length] at hT N₁
      refine Imp2.go (by assumption) ?_; exact CutQ.next l₁ F₁ N₁ ⟨_, Sub.rfl', hg, QA, n, f1, f2, pv, e3, t0, t1, t2, t3, by lia, hGt, hT, rfl⟩
  clear g1 g2 g3 g4 g5 g6 g7 F₁ N₁ hQ hGt
  rintro s₁ m₁ H₁ l₁ ⟨⟨g1, g2, g3, g4, g5, g6, g7⟩, QA, n, f1, f2, pv, e3, t0, t1', t2, t3, hQ, hGt, hPV, rfl⟩ F₁ N₁
  have hpl : pv.length ≤ 60 := by rw [hPV.length, List.length_map]; lia
  have hlap : LAp a ((As, listOf (QA.map fun p => Value.ref p.1).toArray n) :: (Nm, listOf [.int (wd.count x : Nat) t0, .int (wd.count y : Nat) t1'].toArray f1) :: (Gn, listOf [.int (sub.count x : Nat) t2, .int (sub.count y : Nat) t3].toArray f2) :: (QA ++ cells)) := hGt.lA.cons (hGt.lN.cons (hGt.lG.cons hGt.l))
  k_sweep
  refine cut P L (s₀ := z) (by walk_at "LK") (fun m H => GF As Nm Gn wd x y slack tw tp tk tq m ∧ ∃ pv e3, Txs pv ((sub.map fun c => [c]) ++ [[x, y]]) ∧ H = GT w a line t1 vs e2 As Nm Gn cells QA pv e3 n f1 f2 [.int (wd.count x : Nat) t0, .int (wd.count y : Nat) t1'] [.int (sub.count x : Nat) t2, .int (sub.count y : Nat) t3]) ?_ ?_
  · intro K4 hK4
    have NN := N₁
    clear N₁
    have hcs : Sub cells (GT w a line t1 vs e2 As Nm Gn cells QA pv e3 n f1 f2 [.int (wd.count x : Nat) t0, .int (wd.count y : Nat) t1'] [.int (sub.count x : Nat) t2, .int (sub.count y : Nat) t3]) := fun p hp => .tail _ (.tail _ (.tail _ (List.mem_append_right _ (List.mem_append_right _ hp))))
    simp only [GT, lexH, lexD, List.cons_append, List.nil_append] at NN hcs
    walk_at "m go"
    refine ⟨call_spec (H := lexH w a line t1 vs e2 pv e3) (rest := (As, listOf (QA.map fun p => Value.ref p.1).toArray n) :: (Nm, listOf [.int (wd.count x : Nat) t0, .int (wd.count y : Nat) t1'].toArray f1) :: (Gn, listOf [.int (sub.count x : Nat) t2, .int (sub.count y : Nat) t3].toArray f2) :: (QA ++ cells)) (push_s ok (by lia)) (Rm.le r (Nat.le_of_ble_eq_true rfl)) G (by assumption) (by assumption) (sub_swap3 (A := lexH w a line t1 vs e2 pv e3)) hlap.ne (by walk_at "LK") ?_⟩
    rintro v H' s₅ ⟨e5, rfl⟩ l₅ F₅ N₅ ap₅
    k_sweep
    walk_at "m go"
    exact ⟨⟨_, sub_back3 (A := lexH w a line t1 vs e2 (pv ++ [_]) e5), ⟨g1, g2, g3, g4, g5, g6, g7⟩, _, e5, hPV.append (.cons _ _ .nil), rfl⟩⟩
  clear g1 g2 g3 g4 g5 g6 g7 F₁ N₁ hPV hpl
  rintro s₁ m₁ H₁ l₁ ⟨⟨g1, g2, g3, g4, g5, g6, g7⟩, pv, e3, hPV, rfl⟩ F₁ N₁
  have hpl : pv.length ≤ 60 := by rw [hPV.length, List.length_append, List.length_map]; simp; lia
  k_sweep
  refine cut P L (s₀ := z) (by walk_at "LK") (fun m H => GF As Nm Gn wd x y slack tw tp tk tq m ∧ ∃ pv e3, Txs pv ((sub.map fun c => [c]) ++ [[x, y], []]) ∧ H = GT w a line t1 vs e2 As Nm Gn cells QA pv e3 n f1 f2 [.int (wd.count x : Nat) t0, .int (wd.count y : Nat) t1'] [.int (sub.count x : Nat) t2, .int (sub.count y : Nat) t3]) ?_ ?_
  · intro K4 hK4
    have NN := N₁
    clear N₁
    have hcs : Sub cells (GT w a line t1 vs e2 As Nm Gn cells QA pv e3 n f1 f2 [.int (wd.count x : Nat) t0, .int (wd.count y : Nat) t1'] [.int (sub.count x : Nat) t2, .int (sub.count y : Nat) t3]) := fun p hp => .tail _ (.tail _ (.tail _ (List.mem_append_right _ (List.mem_append_right _ hp))))
    simp only [GT, lexH, lexD, List.cons_append, List.nil_append] at NN hcs
    walk_at "m go"
    refine ⟨call_spec (H := lexH w a line t1 vs e2 pv e3) (rest := (As, listOf (QA.map fun p => Value.ref p.1).toArray n) :: (Nm, listOf [.int (wd.count x : Nat) t0, .int (wd.count y : Nat) t1'].toArray f1) :: (Gn, listOf [.int (sub.count x : Nat) t2, .int (sub.count y : Nat) t3].toArray f2) :: (QA ++ cells)) (push_s ok (by lia)) (Rm.le r (Nat.le_of_ble_eq_true rfl)) G (by assumption) (by assumption) (sub_swap3 (A := lexH w a line t1 vs e2 pv e3)) hlap.ne (by walk_at "LK") ?_⟩
    rintro v H' s₅ ⟨e5, rfl⟩ l₅ F₅ N₅ ap₅
    k_sweep
    walk_at "m go"
    exact ⟨⟨_, sub_back3 (A := lexH w a line t1 vs e2 (pv ++ [_]) e5), ⟨g1, g2, g3, g4, g5, g6, g7⟩, _, e5, by have := hPV.append (Txs.cons [] s₁.toks .nil); rw [List.append_assoc] at this; exact this, rfl⟩⟩
  clear g1 g2 g3 g4 g5 g6 g7 F₁ N₁ hPV hpl
  rintro s₁ m₁ H₁ l₁ ⟨⟨g1, g2, g3, g4, g5, g6, g7⟩, pv, e3, hPV, rfl⟩ F₁ N₁
  have hpl : pv.length ≤ 60 := by rw [hPV.length, List.length_append, List.length_map]; simp; lia
  k_sweep
  have hPl : pv.length = sub.length + 2 := by rw [hPV.length, List.length_append, List.length_map]; rfl
  have hd0 : [((wd.count x : Nat) : Int), ((wd.count y : Nat) : Int)].getD (Int.toNat 0) 0 = ((wd.count x : Nat) : Int) := rfl
  have hd1 : [((wd.count x : Nat) : Int), ((wd.count y : Nat) : Int)].getD (Int.toNat 1) 0 = ((wd.count y : Nat) : Int) := rfl
  obtain ⟨Y3, hY3⟩ : ∃ Y3, Y3 = (As, listOf (QA.map fun p => Value.ref p.1).toArray n) :: (Nm, listOf [.int (wd.count x : Nat) t0, .int (wd.count y : Nat) t1'].toArray f1) :: (Gn, listOf [.int (sub.count x : Nat) t2, .int (sub.count y : Nat) t3].toArray f2) :: (QA ++ cells) := ⟨_, rfl⟩
  have NN : News P L s₁.heap (lexH w a line t1 vs e2 (pv.drop 0) e3 ++ Y3) := subN N₁ (by rw [hY3]; exact sub_swap3)
  rw [← hY3] at hlap
  have hm1 : (Nm, listOf [.int (wd.count x : Nat) t0, .int (wd.count y : Nat) t1'].toArray f1) ∈ lexH w a line t1 vs e2 (pv.drop 0) e3 ++ Y3 := List.mem_append_right _ (by rw [hY3]; exact .tail _ (.head _))
  have hcY : Sub cells Y3 := fun p hp => by rw [hY3]; exact .tail _ (.tail _ (.tail _ (List.mem_append_right _ hp)))
  clear N₁
  k_sweep
  walk_at "m go"
  refine ⟨comp_in rfl rfl (by decide) ?_⟩
  walk_at "m go"
  refine ⟨comp_rg (n := sub.length + 2) (z := z) (by assumption) (by lia) (by lia) (by lia) (by lia) (by lia) (by decide) rfl rfl r.hh (by walk_at "LK") (by lia) (by assumption) (by assumption)
    (fun i ys H => ys = pv.take i ∧ ∃ e, H = lexH w a line t1 vs e2 (pv.drop i) e ++ Y3) ?_ ⟨rfl, e3, rfl⟩ ?_ ?_⟩
  · rintro i ys H ⟨rfl, _⟩
    rw [List.length_take]; lia
  · rintro i tv ys C s₇ m₇ H₇ own l₇ hi ⟨rfl, e, rfl⟩ F₇ N₇ ap₇
    have hip : i < pv.length := by lia
    rw [List.drop_eq_getElem_cons hip] at N₇ ap₇
    have hcs : Sub cells (lexH w a line t1 vs e2 (pv[i] :: pv.drop (i + 1)) e ++ (Y3 ++ own)) := fun p hp => List.mem_append_right _ (List.mem_append_left _ (hcY p hp))
    have NN := subN (A := lexH w a line t1 vs e2 (pv[i] :: pv.drop (i + 1)) e ++ (Y3 ++ own)) N₇ (by
      intro p hp
      simp only [List.mem_append] at hp ⊢
      rcases hp with h | h | h
      · exact .inr (.inl h)
      · exact .inr (.inr h)
      · exact .inl h)
    clear N₇
    have hdl : (pv.drop (i + 1)).length ≤ 1000 := by rw [List.length_drop]; lia
    simp only [List.forIn_nil]
    refine wpAny_pure ?_
    simp only [if_true]
    simp only [lexH, lexD, List.cons_append, List.nil_append] at NN hcs
    walk_at "m go"
    refine ⟨call_spec (H := lexH w a line t1 vs e2 (pv[i] :: pv.drop (i + 1)) e) (rest := Y3 ++ own) (pop_s ok hdl) (Rm.le r (Nat.le_of_ble_eq_true rfl)) G (by assumption) (by assumption) (fun p hp => hp) ?_ (by walk_at "LK") ?_⟩
    · intro p hp q hq
      rcases List.mem_append.mp hp with h | h
      · exact hlap.ne p h q hq
      · exact (ap₇ q (List.mem_append_left _ hq) p h).symm
    rintro v H' s₈ ⟨e5, rfl, rfl⟩ l₈ F₈ N₈ ap₈
    refine CompEnd.intro l₈ F₈ N₈ ⟨⟨lexH w a line t1 vs e2 (pv.drop (i + 1)) e5 ++ Y3, ?_, ?_, by rw [List.take_succ_eq_append_getElem hip], e5, rfl⟩⟩
    · intro p hp
      simp only [List.mem_append] at hp ⊢
      rcases hp with h | h | h
      · exact .inr (.inr h)
      · exact .inl h
      · exact .inr (.inl h)
    · intro p hp q hq
      rcases List.mem_append.mp hp with h | h
      · exact ap₈ p h q (List.mem_append_right _ hq)
      · exact ap₇ p (List.mem_append_right _ h) q hq
  · rintro Cm e₅ ys H₅ s₅ l₅ ⟨rfl, e, rfl⟩ F₅ N₅ ap₅
    rw [← hPl, List.take_length, List.drop_length] at N₅
    rw [← hPl, List.drop_length] at ap₅
    k_sweep
    walk_at "m go"
    rename_i Tp _ _ _ _
    refine ⟨⟨_, ?_, Tp, As, Cm, QA, pv, tq, n, e₅, e, rfl, hGt.ok, by lia, hPV, ⟨hGt.l.sub fun p hp => List.mem_append_left _ hp, hGt.lA, LAp.one (w := w) fun p hp => ap₅ p (List.mem_append_left _ hp)⟩, rfl⟩⟩
    intro p hp
    simp only [hY3, List.mem_cons, List.mem_append] at hp ⊢
    rcases hp with h | h | h | h | h
    · exact .inl h
    · exact .inr (.inr (.inr (.inl h)))
    · exact .inr (.inl h)
    · exact .inr (.inr (.inr (.inr (.inr (.inr (.inl h))))))
    · exact .inr (.inr (.inl h))
end
section
open PySem PySem.W PySem.Calls PyProof.Rows
def drawn2 (nums : List Int) : List Int := (if nums = [] then [5610, 17, 2, 2752] else nums).take 5
def keep2 (x : Int) : Bool := decide (x.fmod 8 < 7)
def wd2 (l : List Int) : List Nat := (l.filter keep2).map fun x => pool7.getD (x.fmod 8).toNat 0
def sl2 (l : List Int) : List Int := (l.filter keep2).map fun x => x.fdiv 8
theorem dr2_yes {l : List Int} {k : Nat} {x : Int} (hx : l[k]? = some x) (h : x.fmod 8 < 7) : wd2 (l.take (k + 1)) = wd2 (l.take k) ++ [pool7.getD (x.fmod 8).toNat 0] ∧ sl2 (l.take (k + 1)) = sl2 (l.take k) ++ [x.fdiv 8] := by
  obtain ⟨hk, rfl⟩ := List.getElem?_eq_some_iff.mp hx
  unfold wd2 sl2
  rw [List.take_succ_eq_append_getElem hk, List.filter_append, List.map_append, List.map_append]
  have e : [l[k]].filter keep2 = [l[k]] := by rw [List.filter_cons, if_pos (by unfold keep2; exact decide_eq_true h)]; rfl
  rw [e]
  exact ⟨rfl, rfl⟩
theorem dr2_no {l : List Int} {k : Nat} {x : Int} (hx : l[k]? = some x) (h : ¬ x.fmod 8 < 7) : wd2 (l.take (k + 1)) = wd2 (l.take k) ∧ sl2 (l.take (k + 1)) = sl2 (l.take k) := by
  obtain ⟨hk, rfl⟩ := List.getElem?_eq_some_iff.mp hx
  unfold wd2 sl2
  rw [List.take_succ_eq_append_getElem hk, List.filter_append, List.map_append, List.map_append]
  have e : [l[k]].filter keep2 = [] := by rw [List.filter_cons, if_neg (by unfold keep2; simpa using h)]; rfl
  rw [e]
  simp
theorem wd2_len (l : List Int) : (wd2 l).length ≤ l.length ∧ (sl2 l).length = (wd2 l).length := by
  unfold wd2 sl2
  rw [List.length_map, List.length_map]
  exact ⟨List.length_filter_le _ _, rfl⟩
theorem p7_mem {i : Nat} (h : i < 7) : pool7.getD i 0 ∈ pool7 := by
  have e : ∀ i < 7, pool7.getD i 0 ∈ pool7 := by decide
  exact e i h
theorem fm_nat {a : Int} {n : Nat} (h : 0 < n) : ∃ i : Nat, a.fmod n = i ∧ i < n := by
  have := fmod_b a n h
  exact ⟨(a.fmod n).toNat, by lia, by lia⟩
theorem wd2_pool (l : List Int) : ∀ c ∈ wd2 l, c ∈ pool7 := by
  intro c hc
  obtain ⟨x, hx, rfl⟩ := List.mem_map.mp hc
  have h := (List.mem_filter.mp hx).2
  unfold keep2 at h
  have h2 := of_decide_eq_true h
  obtain ⟨i, hi, _⟩ := fm_nat (a := x) (n := 8) (by decide)
  have hi' : x.fmod 8 = (i : Nat) := hi
  rw [hi'] at h2 ⊢
  exact p7_mem (by lia)
def pairX (pick : Int) : Nat := pool7.getD (pick.fmod 7).toNat 0
def pairY (pick : Int) : Nat := pool7.getD ((pick.fmod 7 + 1 + (pick.fdiv 7).fmod 6).fmod 7).toNat 0
theorem pair_dec : ∀ i < 7, ∀ j < 6, pool7.getD i 0 ≠ pool7.getD ((i + 1 + j) % 7) 0 := by decide
theorem pair_ok (pick : Int) : pairX pick ∈ pool7 ∧ pairY pick ∈ pool7 ∧ pairX pick ≠ pairY pick := by
  obtain ⟨i, hi, hi7⟩ := fm_nat (a := pick) (n := 7) (by decide)
  obtain ⟨j, hj, hj6⟩ := fm_nat (a := pick.fdiv 7) (n := 6) (by decide)
  have hi' : pick.fmod 7 = (i : Nat) := hi
  have hj' : (pick.fdiv 7).fmod 6 = (j : Nat) := hj
  unfold pairX pairY
  rw [hi', hj']
  have e : (((i : Nat) : Int) + 1 + ((j : Nat) : Int)).fmod 7 = (((i + 1 + j) % 7 : Nat) : Int) := by
    rw [Int.fmod_eq_emod_of_nonneg _ (by decide)]
    lia
  rw [e, Int.toNat_natCast, Int.toNat_natCast]
  exact ⟨p7_mem hi7, p7_mem (Nat.mod_lt _ (by decide)), pair_dec i hi7 j hj6⟩
/-- what the file holds behind the first k words -/
def remx (mix : Int) (ws : List (List Nat)) (sls : List (List Int)) (k : Nat) : List Nat := (List.range' k (3 - k)).flatMap fun i => part2 mix (ws.getD i []) (sls.getD i []) i
theorem ftx_remx (mix : Int) (ws : List (List Nat)) (sls : List (List Int)) {k : Nat} (h : k ≤ 3) : ftx mix ws sls k ++ remx mix ws sls k = ftx mix ws sls 3 := by
  unfold ftx remx
  rw [← List.flatMap_append]
  congr 1
  have e := List.range'_append_1 (s := 0) (m := k) (n := 3 - k)
  rw [Nat.zero_add] at e
  rw [e]
  congr 1
  lia
theorem remx_succ (mix : Int) (ws : List (List Nat)) (sls : List (List Int)) {k : Nat} (h : k < 3) : remx mix ws sls k = part2 mix (ws.getD k []) (sls.getD k []) k ++ remx mix ws sls (k + 1) := by
  unfold remx
  have e : 3 - k = (3 - (k + 1)) + 1 := by lia
  rw [e, List.range'_succ, List.flatMap_cons]
theorem remx_nil (mix : Int) (ws : List (List Nat)) (sls : List (List Int)) {k : Nat} (h : 3 ≤ k) : remx mix ws sls k = [] := by
  unfold remx
  have e : 3 - k = 0 := by lia
  rw [e]
  rfl
theorem fw2_ws (mix : Int) (k : Nat) : ws (fw2 mix k) := by
  unfold fw2
  have h := fmod4 (mix.fdiv 24 + k)
  generalize (mix.fdiv 24 + k).fmod 4 = a at h
  obtain ⟨n, rfl⟩ : ∃ n : Nat, a = n := ⟨a.toNat, by lia⟩
  rw [Int.toNat_natCast]
  have e : ∀ n < 4, ws (wsl.getD n 0) := by decide
  exact e n (by lia)
theorem tok_part2 (mix : Int) (w : List Nat) (sl : List Int) (k : Nat) (rest : List Nat) : tokF (part2 mix w sl k ++ rest) = (w, rest) := by
  unfold part2 gap2
  rw [List.append_assoc, tokF_gap _ _ (fw2_ws mix k), List.append_assoc]
  exact tok_closed _ _ _ _ _ (fw2_ws mix k) (fun h => fq_nil _ _ _ h)
def row4 (mix : Int) (ws : List (List Nat)) (sls : List (List Int)) (k : Nat) : Int := 1 + cnt (ftx mix ws sls (min k 3))
def off4 (mix : Int) (ws : List (List Nat)) (sls : List (List Int)) (k : Nat) : Int := ((ftx mix ws sls (min k 3)).length : Int)
/-- the four steps that are due -/
def ds4 (mix : Int) (ws : List (List Nat)) (sls : List (List Int)) (n : Nat) : List (List Nat × Int × Int) := (List.range' 0 n).map fun i => (ws.getD i [], row4 mix ws sls (i + 1), off4 mix ws sls (i + 1))
theorem ds4_stp (mix : Int) (w0 w1 w2 : List Nat) (sls : List (List Int)) : stp mix [w0, w1, w2] sls 3 ++ [([], 1 + cnt (ftx mix [w0, w1, w2] sls 3), ((ftx mix [w0, w1, w2] sls 3).length : Int))] = ds4 mix [w0, w1, w2] sls 4 := rfl
theorem rd4 (mix : Int) (ws : List (List Nat)) (sls : List (List Int)) (hw : ws.length = 3) (k : Nat) : tokF (remx mix ws sls k) = (ws.getD k [], remx mix ws sls (k + 1)) := by
  by_cases h : k < 3
  · rw [remx_succ _ _ _ h]
    exact tok_part2 _ _ _ _ _
  · rw [remx_nil _ _ _ (by lia), remx_nil _ _ _ (by lia), tokF, List.getD_eq_getElem?_getD, List.getElem?_eq_none (by lia)]
    rfl
theorem ftx_min (mix : Int) (ws : List (List Nat)) (sls : List (List Int)) (k : Nat) : ftx mix ws sls (min k 3) ++ remx mix ws sls k = ftx mix ws sls 3 := by
  by_cases h : k ≤ 3
  · rw [Nat.min_eq_left h]; exact ftx_remx _ _ _ h
  · rw [Nat.min_eq_right (by lia), remx_nil _ _ _ (by lia), List.append_nil]
theorem row4_at (mix : Int) (ws : List (List Nat)) (sls : List (List Int)) (k : Nat) : row4 mix ws sls k + cnt (remx mix ws sls k) = 1 + cnt (ftx mix ws sls 3) ∧ off4 mix ws sls k + ((remx mix ws sls k).length : Nat) = ((ftx mix ws sls 3).length : Int) := by
  have e := ftx_min mix ws sls k
  unfold row4 off4
  rw [← e, cnt_app, List.length_append]
  lia
theorem row4_b {mix : Int} {ws : List (List Nat)} {sls : List (List Int)} (hl : (ftx mix ws sls 3).length ≤ 100) (k : Nat) : 0 ≤ row4 mix ws sls k ∧ row4 mix ws sls k ≤ 1000 ∧ (remx mix ws sls k).length ≤ 1000 := by
  have e := ftx_min mix ws sls k
  have h : (ftx mix ws sls (min k 3)).length + (remx mix ws sls k).length = (ftx mix ws sls 3).length := by rw [← e, List.length_append]
  have h1 := cnt_le (ftx mix ws sls (min k 3))
  have h2 := cnt_nonneg (ftx mix ws sls (min k 3))
  unfold row4
  lia
theorem ok_p7 {u : List Nat} (h : ∀ x ∈ u, x ∈ pool7) : PyData.strOk (S u) = true := by
  have hb : ∀ x ∈ pool7, x < 0x110000 := by decide
  unfold PyData.strOk S
  simp only [List.all_toArray, List.all_eq_true, decide_eq_true_eq]
  exact fun x hx => hb x (h x hx)
section
variable {A : Around} {P : Heap} {s : Shared} {L : Addr}
/-- two like tuples -/
theorem ne_tri {D K : Addr} {H : List (Addr × Obj)} {u : List Nat} {i j : Int} {b1 b2 b3 c1 c2 c3 : Tok} {E Qv : Value → Shared → Prop} (N : News P L s.heap H) (hD : (D, tupOf [.str (S u) b1, .int i b2, .int j b3]) ∈ H) (hK : (K, tupOf [.str (S u) c1, .int i c2, .int j c3]) ∈ H)
    (hok : PyData.strOk (S u) = true) (hu : A.units + 64 < cLine) (h : Qv (.bool false) s) : wpAny (model PR w) A (compareOp .NotEq (.ref D) (.ref K)) Qv E s := by
  have sh : SeqAt.shaped (triD (u, i, j)) = true := by
    simp [SeqAt.shaped, triD, PyData.canLay0, PyData.canLayAll0, PyData.depth, PyData.depthAll, hok]
  refine ne_dataH (da := triD (u, i, j)) (db := triD (u, i, j)) (reads_tuple_at (News.get N hD) rfl rfl (.cons (.str _ _) (.cons (.int _ _) (.cons (.int _ _) .nil)))) (reads_tuple_at (News.get N hK) rfl rfl (.cons (.str _ _) (.cons (.int _ _) (.cons (.int _ _) .nil)))) sh sh hu ?_
  have e : PyData.eqv (triD (u, i, j)) (triD (u, i, j)) = true := by simp [PyData.eqvAll, PyData.eqv, triD]
  rw [e]
  exact h
theorem Txs.reads {h : Heap} {vs : List Value} {us : List (List Nat)} (k : Txs vs us) : ∃ as, ReadsAll h vs (us.map fun u => PyData.str (S u)) as := by
  induction k with
  | nil => exact ⟨_, .nil⟩
  | cons u t _ ih =>
    obtain ⟨as, ra⟩ := ih
    exact ⟨_, .cons (.str _ _) ra⟩
theorem txt_eqv : ∀ us : List (List Nat), PyData.eqvAll (us.map fun u => PyData.str (S u)) (us.map fun u => PyData.str (S u)) = true
  | [] => by simp [PyData.eqvAll]
  | u :: us => by simp [PyData.eqvAll, PyData.eqv, txt_eqv us]
theorem txt_lay : ∀ us : List (List Nat), (∀ u ∈ us, PyData.strOk (S u) = true) → PyData.canLayAll0 (us.map fun u => PyData.str (S u)) = true ∧ PyData.depthAll (us.map fun u => PyData.str (S u)) ≤ 1
  | [], _ => by simp [PyData.canLayAll0, PyData.depthAll]
  | u :: us, h => by
    obtain ⟨a, b⟩ := txt_lay us fun x hx => h x (.tail _ hx)
    simp [PyData.canLayAll0, PyData.canLay0, PyData.depthAll, PyData.depth, a, h u (.head _)]
    lia
/-- two lists of like texts -/
theorem ne_txts {D K : Addr} {n1 n2 : Nat} {H : List (Addr × Obj)} {vs ws : List Value} {us : List (List Nat)} {E Qv : Value → Shared → Prop} (N : News P L s.heap H) (hD : (D, listOf vs.toArray n1) ∈ H) (hK : (K, listOf ws.toArray n2) ∈ H)
    (hv : Txs vs us) (hw : Txs ws us) (hok : ∀ u ∈ us, PyData.strOk (S u) = true) (hu : A.units + 64 < cLine) (h : Qv (.bool false) s) : wpAny (model PR w) A (compareOp .NotEq (.ref D) (.ref K)) Qv E s := by
  obtain ⟨as, ra⟩ := hv.reads (h := s.heap)
  obtain ⟨bs, rb⟩ := hw.reads (h := s.heap)
  have sh : SeqAt.shaped (.list (us.map fun u => PyData.str (S u))) = true := by
    obtain ⟨a, b⟩ := txt_lay us hok
    simp [SeqAt.shaped, PyData.canLay0, PyData.depth, a]
    lia
  refine ne_dataH (reads_list_at (News.get N hD) rfl rfl (by simpa using ra)) (reads_list_at (News.get N hK) rfl rfl (by simpa using rb)) sh sh hu ?_
  have e : PyData.eqv (.list (us.map fun u => PyData.str (S u))) (.list (us.map fun u => PyData.str (S u))) = true := by rw [PyData.eqv]; exact txt_eqv us
  rw [e]
  exact h
end
end
section
open PySem PySem.W PySem.Calls PyProof.Rows
section
variable {A : Around} {P : Heap} {s : Shared} {env : Env} {x : Str} {px : Pos} {m : Str → Option Value} {H : List (Addr × Obj)} {n : Nat}
/-- over a text -/
theorem comp_st {elt iter : Expr} {ifs : List Expr} {scope : Scope} {cl : List (Str × Addr)} {pos : Pos} {E : Value → Shared → Prop} {Q : Value → Shared → Prop} {l : List Nat} {t : Tok}
    (hcell : ∀ y ∈ scope.names, y.2 ≠ .cell) (hkind : scope.kind = .function) (hx : scope.names.lookup x = some .local) (hh : A.handled = none)
    {z : Shared} (hz : Like z s) (hn : l.length ≤ 100000) (F : Fr P env.locals s.heap m) (N : News P env.locals s.heap H)
    (J : Nat → List Value → List (Addr × Obj) → Prop) (hJl : ∀ i ys H, J i ys H → ys.length ≤ i) (h0 : J 0 [] H)
    (turn : ∀ i c tv ys C s₁ (m₁ : Str → Option Value) H₁ own, Like z s₁ → l[i]? = some c → J i ys H₁ → Fr P C s₁.heap (fun y => if y = x then some (.str (S [c]) tv) else m₁ y) → News P C s₁.heap (own ++ H₁) → (∀ p ∈ H₁, ∀ q ∈ own, p.1 ≠ q.1) →
      wpAny (model PR w) A (forIn ifs true fun c r => if r = true then do let ok ← isTrue c (compEnvC scope cl C env) (eval c (compEnvC scope cl C env)); pure (ForInStep.yield ok) else pure (ForInStep.yield r))
        (fun ok s₂ => if ok = true then wpAny (model PR w) A (eval elt (compEnvC scope cl C env)) (fun y s₃ => CompEnd P C z own (J (i + 1)) (ys ++ [y]) s₃) NoE s₂ else CompEnd P C z own (J (i + 1)) ys s₂) NoE s₁)
    (done : ∀ R e ys H₁ s₁, Like z s₁ → J l.length ys H₁ → Fr P env.locals s₁.heap m → News P env.locals s₁.heap ((R, listOf ys.toArray e) :: H₁) → (∀ p ∈ H₁, p.1 ≠ R) → Q (.ref R) s₁) :
    wpAny (model PR w) A (pyIter (.str (S l) t)) (CompK w A env E Q elt iter x px ifs scope cl pos) E s := by
  have hsz : (S l).cps.size = l.length := by simp [S]
  have tn : ∀ i v ys C s₁ (m₁ : Str → Option Value) H₁ own, Like z s₁ → i < l.length → SignAt (S l) i v → J i ys H₁ → Fr P C s₁.heap (fun y => if y = x then some v else m₁ y) → News P C s₁.heap (own ++ H₁) → (∀ p ∈ H₁, ∀ q ∈ own, p.1 ≠ q.1) →
      wpAny (model PR w) A (forIn ifs true fun c r => if r = true then do let ok ← isTrue c (compEnvC scope cl C env) (eval c (compEnvC scope cl C env)); pure (ForInStep.yield ok) else pure (ForInStep.yield r))
        (fun ok s₂ => if ok = true then wpAny (model PR w) A (eval elt (compEnvC scope cl C env)) (fun y s₃ => CompEnd P C z own (J (i + 1)) (ys ++ [y]) s₃) NoE s₂ else CompEnd P C z own (J (i + 1)) ys s₂) NoE s₁ := by
    rintro i v ys C s₁ m₁ H₁ own lk hi ⟨c, tv, hc, rfl⟩ hJ F₁ N₁ ap
    exact turn i c tv ys C s₁ m₁ H₁ own lk (by simpa [S] using hc) hJ F₁ N₁ ap
  cases ha : (S l).cps.all (· < 128)
  · refine wpAny_pyIter_wide ha ?_
    have W := Walks.strWide (prog := PR) (w := w) hh s.heap.objs.size (S l) t
    rw [hsz] at W
    exact comp_one W (fun _ _ e => let ⟨o, ho, _⟩ := e; ⟨o, ho⟩) rfl (fun h' e => ⟨_, e, rfl, rfl⟩) hcell hkind hx hz hn F N J hJl h0 tn done
  · refine wpAny_pyIter_ascii ha ?_
    have W := Walks.strAscii (prog := PR) (w := w) hh s.heap.objs.size (S l) t
    rw [hsz] at W
    exact comp_one W (fun _ _ e => let ⟨o, ho, _⟩ := e; ⟨o, ho⟩) rfl (fun h' e => ⟨_, e, rfl, rfl⟩) hcell hkind hx hz hn F N J hJl h0 tn done
end
section
variable {A : Around} {P : Heap} {s : Shared} {m : Str → Option Value} {H : List (Addr × Obj)} {L D : Addr} {vs : List Value} {n : Nat}
theorem pick_fr (vs : List Value) : slicePick vs.toArray (some 1) none none = (vs.drop 1).toArray := by
  rw [slicePick_plain]
  have e1 : clipAt vs.toArray.size (1 : Int) = min 1 vs.toArray.size := clipAt_nat _ 1
  simp only [Option.elim, e1]
  match vs with
  | [] => rfl
  | x :: r => simp
/-- a list from its second place on -/
theorem ll_fr1 {value slice : Expr} {ui : Tok} {E : Value → Shared → Prop} {Q : Value → Shared → Prop} (F : Fr P L s.heap m) (N : News P L s.heap H) (hm : (D, listOf vs.toArray n) ∈ H) (hz : vs.length ≤ 100000)
    (h : ∀ R h', Fr P L h' m → News P L h' ((R, listOf (vs.drop 1).toArray 0) :: H) → (∀ p ∈ H, p.1 < R) → Q (.ref R) { s with heap := h' })
    (hs : subscripted slice false (.ref D) (.ref s.heap.objs.size) = operate [.ref s.heap.objs.size, .ref D] (getItem (.ref D) (.ref s.heap.objs.size)) := by with_unfolding_all rfl) :
    wpAny (model PR w) A (subscriptTail value slice (.ref D) (.ref s.heap.objs.size)) Q E { s with heap := s.heap.push { cls := .type "slice", data := .fields #[.int 1 ui, .none, .none] } } := by
  refine kba_turn (value' := PySem.Expr.Name (PySem.Str.ofString "_") ⟨0, 0, 0, 0⟩) (fun _ => rfl) ?_
  refine slice_list F N (News.isList N hm) (.int 1 ui) .none (fun h' F' N' => ?_) hs (fun _ => rfl) (by rw [sizeLine_eq]; simp; lia)
  rw [pick_fr vs] at N'
  exact h _ h' F' N' fun p hp => Nat.lt_succ_of_lt (Heap.lt_size (N p hp).1)
end
theorem TupAre.at {Q : List (Addr × Obj)} {ds : List (List Nat × Int × Int)} (h : TupAre Q ds) : ∀ {i : Nat} {u : List Nat} {a b : Int}, ds[i]? = some (u, a, b) → ∃ q b1 b2 b3, (q, tupOf [.str (S u) b1, .int a b2, .int b b3]) ∈ Q ∧ (Q.map fun p => Value.ref p.1)[i]? = some (.ref q) := by
  induction h with
  | nil => intro i u a b h; cases h
  | cons q u i j b1 b2 b3 _ ih =>
    intro k u' a b h
    cases k with
    | zero => cases h; exact ⟨q, b1, b2, b3, .head _, rfl⟩
    | succ k =>
      obtain ⟨q', c1, c2, c3, hm, hi⟩ := ih (by simpa using h)
      exact ⟨q', c1, c2, c3, .tail _ hm, by simpa using hi⟩
theorem TupAre.tail1 {Q : List (Addr × Obj)} {ds : List (List Nat × Int × Int)} (h : TupAre Q ds) : TupAre (Q.drop 1) (ds.drop 1) := by
  cases h with
  | nil => exact .nil
  | cons _ _ _ _ _ _ _ h => exact h
end
section
theorem lit_p7 : Str.ofString "aAbB\" \n" = S pool7 := by decide +kernel
local macro_rules | `(tactic| walk_at "inplaceOp Add ref ref") => `(tactic| refine halt ?_)
local macro_rules | `(tactic| walk_at "setItem ref int") => `(tactic| refine halt ?_)
local macro_rules | `(tactic| walk_at "call builtin:list.reverse") => `(tactic| refine halt ?_)
local macro_rules | `(tactic| walk_at "call builtin:list.append") => `(tactic| refine halt ?_)
theorem regk7 : True := by
  k_with "subscriptTail Name Name ref int" => refine ll_sub (by assumption) (by k_mem) (by lia) (by assumption) ?_ (by with_unfolding_all rfl)
  k_with "compareOp In str str" => refine in_one rfl ?_
  trivial
theorem ints_at {vs : List Value} {ns : List Int} (h : IntsAre vs ns) : ∀ {i : Nat} {v : Value}, vs[i]? = some v → ∃ x t, ns[i]? = some x ∧ v = .int x t := by
  induction h with
  | nil => intro i v hv; cases hv
  | cons n t _ ih =>
    intro i v hv
    cases i with
    | zero => cases hv; exact ⟨n, t, rfl, rfl⟩
    | succ i => exact ih (by simpa using hv)
theorem ints_snoc {ys : List Value} {sl : List Int} {i : Nat} {x : Int} {f : Int → Int} (h : IntsAre ys ((sl.take i).map f)) (hx : sl[i]? = some x) (t : Tok) : IntsAre (ys ++ [.int (f x) t]) ((sl.take (i + 1)).map f) := by
  rw [List.take_add_one, hx, List.map_append]
  exact h.append (.cons _ t .nil)
/-- a step of the lexer in the file -/
theorem stepK {a : LexA} {mix : Int} {ws : List (List Nat)} {sls : List (List Int)} {T : List Nat} {k : Nat} {t1 : Tok} {vs : List Value} {e2 e3 : Nat} (ok : LexOk w a) (hT : T = ftx mix ws sls 3) (hTl : T.length ≤ 75) (hw : ws.length = 3) (hS : Sg vs (remx mix ws sls k).reverse) (ts : Tok) :
    Spec w 10 (.ref 98) [.ref a.x, .ref a.sg, .int (T.length : Nat) ts] (lexH w a (row4 mix ws sls k) t1 vs e2 [] e3) (fun v H' => ∃ (t1' : Tok) (vs' : List Value) (e2' : Nat) (q : Addr) (k1 k2 k3 : Tok), v = .ref q ∧ Sg vs' (remx mix ws sls (k + 1)).reverse ∧ H' = (q, tupOf [.str (S (ws.getD k [])) k1, .int (row4 mix ws sls (k + 1)) k2, .int (off4 mix ws sls (k + 1)) k3]) :: lexH w a (row4 mix ws sls (k + 1)) t1' vs' e2' [] e3 ∧ ∀ p ∈ lexH w a (row4 mix ws sls (k + 1)) t1' vs' e2' [] e3, p.1 ≠ q) := by
  subst hT
  have b := row4_b (mix := mix) (ws := ws) (sls := sls) (by lia) k
  refine (step_s ok hS b.2.2 ⟨b.1, b.2.1⟩).mono (Nat.le_refl _) ?_
  rintro v H' ⟨line', t1', vs', e', q, rfl, hs', hcnt, k1, k2, k3, rfl, hq⟩
  rw [rd4 mix ws sls hw k] at hs' hcnt ⊢
  dsimp only at hs' hcnt ⊢
  have r1 := row4_at mix ws sls k
  have r2 := row4_at mix ws sls (k + 1)
  obtain rfl : line' = row4 mix ws sls (k + 1) := by lia
  have e : ((ftx mix ws sls 3).length : Int) - ((remx mix ws sls (k + 1)).length : Nat) = off4 mix ws sls (k + 1) := by lia
  rw [e]
  exact ⟨t1', vs', e', q, k1, k2, k3, rfl, hs', rfl, hq⟩
/-- the steps behind the first -/
def dsA (mix : Int) (ws : List (List Nat)) (sls : List (List Int)) (n : Nat) : List (List Nat × Int × Int) := (List.range' 1 n).map fun i => (ws.getD i [], row4 mix ws sls (i + 1), off4 mix ws sls (i + 1))
theorem dsA_succ (mix : Int) (ws : List (List Nat)) (sls : List (List Int)) (n : Nat) : dsA mix ws sls (n + 1) = dsA mix ws sls n ++ [(ws.getD (n + 1) [], row4 mix ws sls (n + 1 + 1), off4 mix ws sls (n + 1 + 1))] := by
  unfold dsA
  rw [List.range'_concat, List.map_append]
  simp only [List.map_cons, List.map_nil, Nat.one_mul, Nat.add_comm 1]
theorem dsA_ds4 (mix : Int) (ws : List (List Nat)) (sls : List (List Int)) : (ds4 mix ws sls 4).drop 1 = dsA mix ws sls 3 := rfl
theorem run_s {l : Addr} {vs : List Value} {nums : List Int} (hI : IntsAre vs nums) (h63 : nums.length ≤ 63) : SpecK w 60 (.ref 127) [.ref l] (fun P => P.IsList l vs.toArray) [(72, tabObj #[])] (fun v H' => v = .bool true ∧ ∃ c' oc vs1 tq H₂, oc.data = .fields vs1 ∧ vs1[1]? = some (.str lqual tq) ∧ c' ≠ 72 ∧ H' = (72, tabObj (ltab c')) :: (c', oc) :: H₂) := by
  walk_at "m fill"
  refine' spec_defKC [("script", .ref l)] ?k1 ?k2 ?k3 ?k4 ?k5 ?k6 ?c1 ?c2 ?c3
  walk_at "m enterC"
  intro A P L s z cells p loose mean mg mb r G kp lz X T F N CA hL K0 hK0
  generalize bindC _ _ _ = mc at CA
  obtain ⟨hnm, hna, hLq⟩ := ca_facts CA (by decide)
  have h72 := hL _ (.head _)
  have o72 : Off _ 72 := fun q hq e => absurd (Nat.lt_trans h72 (hLq q hq)) (by rw [e]; exact Nat.lt_irrefl _)
  replace N := subN N (A := (72, tabObj #[]) :: cells) (fun p hp => by
    rcases List.mem_cons.mp hp with rfl | hp
    · exact List.mem_append_right _ (.head _)
    · exact List.mem_append_left _ hp)
  generalize hcl : cellsFrom (L + 1) _ [] = cl at CA hnm hna o72
  clear hLq
  (try k_fold)
  have hun : A.units + 64 < cLine := by have := r.un; unfold cLine; lia
  refine cut P L (s₀ := z) (by walk_at "LK") (fun m H => m "script" = some (.ref l) ∧ ∃ Dr dvs e, m "drawn" = some (.ref Dr) ∧ IntsAre dvs (drawn2 nums) ∧ Off cl Dr ∧ 72 < Dr ∧ H = (Dr, listOf dvs.toArray e) :: (72, tabObj #[]) :: cells) ?_ ?_
  · intro K1 hK1
    walk_at "m go"
    obtain ⟨oS, hoS, rS⟩ := kp
    refine ⟨ne_intsK (ns := nums) (ms := []) ⟨oS, Fr.keep (by assumption) _ _ hoS, rS⟩ hI (⟨_, News.get (by assumption) (.head _), rfl, _, rfl⟩) .nil hun ?_⟩
    walk_at "m go"
    · refine ⟨ll_to (vs := vs) ⟨oS, Fr.keep (by assumption) _ _ hoS, rS⟩ (by decide) (by have := hI.length; lia) (by assumption) (by assumption) ?_⟩
      intro R h' F' N' nR
      k_sweep
      walk_at "m go"
      have hne : ¬ nums = [] := by assumption
      exact ⟨⟨_, (Sub.consm (.head _) (Sub.rfl'.tail.tail)), rfl, R, _, 0, rfl, by unfold drawn2; rw [if_neg hne]; exact hI.take 5, off_ne CA fun p hp => Nat.ne_of_lt (nR p (.tail _ (.tail _ hp))), nR _ (.tail _ (.head _)), rfl⟩⟩
    · refine ⟨ll_to (vs := [_, _, _, _]) ⟨_, News.get (by assumption) (.head _), rfl, _, rfl⟩ (by decide) (by simp) (by assumption) (by assumption) ?_⟩
      intro R h' F' N' nR
      k_sweep
      walk_at "m go"
      have hne : nums = [] := by first | assumption | exact Classical.not_not.mp (by assumption)
      exact ⟨⟨_, (Sub.consm (.head _) (Sub.rfl'.tail.tail.tail)), rfl, R, _, 0, rfl, by unfold drawn2; rw [if_pos hne]; exact .cons _ _ (.cons _ _ (.cons _ _ (.cons _ _ .nil))), off_ne CA fun p hp => Nat.ne_of_lt (nR p (.tail _ (.tail _ (.tail _ hp)))), nR _ (.tail _ (.tail _ (.head _))), rfl⟩⟩
  rintro s₁ m' H' l₁ ⟨j1, Dr, dvs, ed, j2, hD, oDr, hDr, rfl⟩ F₁ N₁
  have hdl : (drawn2 nums).length ≤ 5 := by unfold drawn2; rw [List.length_take]; lia
  have hd1 : (drawn2 nums).length ≠ 0 := by
    unfold drawn2
    rw [List.length_take]
    split
    · decide
    · rename_i h
      have := mt List.length_eq_zero_iff.mp h
      lia
  generalize drawn2 nums = dn at hD hdl hd1
  have hdv := hD.length
  k_sweep
  refine cut P L (s₀ := z) (by walk_at "LK") (fun m H => m "drawn" = some (.ref Dr) ∧ ∃ tm Sl tp mc tw cells, m "pick" = some (.int ((dn.getD 0 0).fdiv 32) tm) ∧ m "slashes" = some (.ref Sl) ∧ m "pool" = some (.str (S pool7) tp) ∧ CellsAre mc cl cells ∧ mc "word" = some (.str (S []) tw) ∧ Off cl Sl ∧ Bx (Sl ≠ Dr ∧ Sl ≠ 72) ∧
     H = (Sl, listOf [].toArray 0) :: (Dr, listOf dvs.toArray ed) :: (72, tabObj #[]) :: cells) ?_ ?_
  · intro K1 hK1
    walk_at "m go"
    rename_i Sl _ oS lS _ _ _ _ _ _ _ cs2 CA2 _ _ _ _ _
    exact ⟨⟨_, Sub.rfl'.tail, j2, _, Sl, _, _, _, cs2, rfl, rfl, congrArg (fun u => some (Value.str u _)) lit_p7, CA2, rfl, oS, ⟨Nat.ne_of_gt lS.1, Nat.ne_of_gt lS.2.1⟩, rfl⟩⟩
  clear CA j2
  generalize (dn.getD 0 0).fdiv 32 = pick
  rintro s₂ m₂ H₂ l₂ ⟨j2, tm, Sl, tp, mc, tw, cells, j3, j4, j5, CA, k1, oSl, hSl, rfl⟩ F₂ N₂
  k_sweep
  refine cut P L (s₀ := z) (by walk_at "LK") (fun m H => m "drawn" = some (.ref Dr) ∧ m "pick" = some (.int pick tm) ∧ m "slashes" = some (.ref Sl) ∧ m "pool" = some (.str (S pool7) tp) ∧ ∃ svs e mc cells tw, IntsAre svs (sl2 dn) ∧ CellsAre mc cl cells ∧ mc "word" = some (.str (S (wd2 dn)) tw) ∧
     H = (Sl, listOf svs.toArray e) :: (Dr, listOf dvs.toArray ed) :: (72, tabObj #[]) :: cells) ?_ ?_
  · intro K1 hK1
    refine for_in ?_
    walk_at "m go"
    refine ⟨loop_list (n := ed) (vs := dvs) (D := Dr) r.hh rfl rfl (s₀ := z) (by walk_at "LK") (by assumption) (by assumption) (.tail _ (.head _))
      (fun k m H => k ≤ dn.length ∧ m "drawn" = some (.ref Dr) ∧ m "pick" = some (.int pick tm) ∧ m "slashes" = some (.ref Sl) ∧ m "pool" = some (.str (S pool7) tp) ∧ ∃ svs e mc cells tw, IntsAre svs (sl2 (dn.take k)) ∧ CellsAre mc cl cells ∧ mc "word" = some (.str (S (wd2 (dn.take k))) tw) ∧
        H = (Sl, listOf svs.toArray e) :: (Dr, listOf dvs.toArray ed) :: (72, tabObj #[]) :: cells) ?_ ?_ ?_ ?_⟩
    · rintro i m H ⟨_, _, _, _, _, _, _, _, _, _, _, _, _, rfl⟩
      exact .tail _ (.head _)
    · exact ⟨Nat.zero_le _, j2, j3, j4, j5, [], 0, mc, cells, tw, .nil, CA, k1, rfl⟩
    · rintro k v m₁ H₁ s₁ I io lI hv ⟨hk, i2, i3, i4, i5, svs, e, mc, cells, tw, hs, CA, k1, rfl⟩ ne F₁ N₁ K2 hK2
      obtain ⟨x, tx, hx, rfl⟩ := ints_at hD hv
      have hk1 : k + 1 ≤ dn.length := by rw [← hdv]; exact (List.getElem?_eq_some_iff.mp hv).1
      obtain ⟨a1, a2⟩ := wd2_len (dn.take k)
      have a3 := List.length_take_le k dn
      have hsl := hs.length
      k_sweep
      have oI : Off cl I := off_ne CA fun p hp => ne p (.tail _ (.tail _ (.tail _ hp)))
      have hIS := (ne _ (.head _)).symm
      have hIall : ∀ p ∈ (Sl, listOf svs.toArray e) :: (Dr, listOf dvs.toArray ed) :: (72, tabObj #[]) :: cells, p.1 ≠ I := ne
      have hx0 : 0 ≤ x.fmod 8 := (fmod_b _ 8 (by decide)).1
      have hp7 : pool7.length = 7 := rfl
      walk_at "m go"
      · have hlt : x.fmod 8 < 7 := by assumption
        obtain ⟨d1, d2⟩ := dr2_yes hx hlt
        rename_i CA2 _ _ _ _
        refine ⟨ll_append (n := e) (vs := svs) (by assumption) (by assumption) (Upd.tail hIS (Upd.head (List.forall_mem_cons.mpr ⟨hSl.out.1.symm, List.forall_mem_cons.mpr ⟨hSl.out.2.symm, off_cells CA2 oSl⟩⟩))) (by lia) ?_⟩
        intro h₆ F₆ N₆
        k_sweep
        walk_at "m go"
        exact ⟨⟨_, Sub.rfl', List.forall_mem_cons.mpr ⟨hIS.symm, List.forall_mem_cons.mpr ⟨ne _ (.tail _ (.head _)), List.forall_mem_cons.mpr ⟨ne _ (.tail _ (.tail _ (.head _))), off_cells CA2 oI⟩⟩⟩, hk1, i2, i3, i4, i5, _, _, _, _, _, by rw [d2]; exact hs.append (.cons _ _ .nil), CA2, by rw [d1]; rfl, rfl⟩⟩
      · have hlt : ¬ x.fmod 8 < 7 := by assumption
        obtain ⟨d1, d2⟩ := dr2_no hx hlt
        exact ⟨⟨_, Sub.rfl', hIall, hk1, i2, i3, i4, i5, svs, e, mc, cells, tw, by rw [d2]; exact hs, CA, by rw [d1]; exact k1, rfl⟩⟩
    · rintro m₁ H₁ s₁ lI ⟨hk, i2, i3, i4, i5, svs, e, mc, cells, tw, hs, CA, k1, rfl⟩ F₁ N₁
      rw [hdv, List.take_length] at hs k1
      refine Imp2.go (by assumption) ?_; exact CutQ.next lI F₁ N₁ ⟨_, Sub.rfl', i2, i3, i4, i5, svs, e, mc, cells, tw, hs, CA, k1, rfl⟩
  clear CA j2 j3 j4 j5 k1 F₂ N₂ tw
  rintro s₃ m₃ H₃ l₃ ⟨j2, j3, j4, j5, svs, eS, mc, cells, tw, hs, CA, k1, rfl⟩ F₃ N₃
  obtain ⟨a1, a2⟩ := wd2_len dn
  have hwp := wd2_pool dn
  generalize wd2 dn = wd at a1 a2 hwp k1
  generalize sl2 dn = sl at a2 hs
  have hw5 : wd.length ≤ 5 := by lia
  have hsl := hs.length
  obtain ⟨hx, hy, hxy⟩ := pair_ok pick
  have hf1 : 0 ≤ pick.fmod 7 ∧ pick.fmod 7 < 7 := fmod_b pick 7 (by decide)
  have hf2 : 0 ≤ (pick.fmod 7 + 1 + (pick.fdiv 7).fmod 6).fmod 7 ∧ (pick.fmod 7 + 1 + (pick.fdiv 7).fmod 6).fmod 7 < 7 := fmod_b _ 7 (by decide)
  have hp7 : pool7.length = 7 := rfl
  have lp1 : [pool7.getD (pick.fmod 7).toNat 0].length = 1 := rfl
  k_sweep
  refine cut P L (s₀ := z) (by walk_at "LK") (fun m H => m "drawn" = some (.ref Dr) ∧ m "pick" = some (.int pick tm) ∧ m "slashes" = some (.ref Sl) ∧ ∃ mc cells tpr, CellsAre mc cl cells ∧ mc "word" = some (.str (S wd) tw) ∧ mc "pair" = some (.str (S [pairX pick, pairY pick]) tpr) ∧
     H = (Sl, listOf svs.toArray eS) :: (Dr, listOf dvs.toArray ed) :: (72, tabObj #[]) :: cells) ?_ ?_
  · intro K1 hK1
    walk_at "m go"
    rename_i CA2
    exact ⟨⟨_, Sub.rfl', j2, j3, j4, _, _, _, CA2, k1, rfl, rfl⟩⟩
  clear CA j2 j3 j4 j5 k1 F₃ N₃ hf1 hf2 lp1
  generalize pairX pick = x at hx hxy
  generalize pairY pick = y at hy hxy
  rintro s₄ m₄ H₄ l₄ ⟨j2, j3, j4, mc, cells, tpr, CA, k1, k2, rfl⟩ F₄ N₄
  k_sweep
  have hsl2 : (sl.map fun x => x.fdiv 2).length = wd.length := by rw [List.length_map, a2]
  have hxyp : ∀ c ∈ [x, y], c ∈ pool7 := List.forall_mem_cons.mpr ⟨hx, List.forall_mem_cons.mpr ⟨hy, List.forall_mem_nil _⟩⟩
  refine cut P L (s₀ := z) (by walk_at "LK") (fun m H => m "pick" = some (.int pick tm) ∧ ∃ R e Q mc cells tt, m "steps" = some (.ref R) ∧ TupAre Q (ds4 ((dn.getD (-1 + (dn.length : Int)).toNat 0).fdiv 32) [wd, [x, y], wd] [sl, [0, 0], sl.map fun x => x.fdiv 2] 4) ∧ Off cl R ∧ R ≠ 72 ∧ (∀ p ∈ Q, Off cl p.1) ∧ (∀ p ∈ Q, p.1 ≠ 72) ∧ CellsAre mc cl cells ∧ mc "word" = some (.str (S wd) tw) ∧ mc "pair" = some (.str (S [x, y]) tpr) ∧ mc "text" = some (.str (S (ftx ((dn.getD (-1 + (dn.length : Int)).toNat 0).fdiv 32) [wd, [x, y], wd] [sl, [0, 0], sl.map fun x => x.fdiv 2] 3)) tt) ∧
     H = (R, listOf (Q.map fun p => Value.ref p.1).toArray e) :: (Q ++ ((72, tabObj #[]) :: cells))) ?_ ?_
  · intro K1 hK1
    walk_at "m go"
    rename_i W1 _ oW1 lW1 D1 h₆ F₆ N₆ oD1 lD1
    refine ⟨comp_in rfl rfl (by decide) ?_⟩
    walk_at "m go"
    refine ⟨comp_ll (n := eS) (D := Sl) (vs := svs) (z := z) (by decide) rfl rfl r.hh (by walk_at "LK") (by lia) (by assumption) (by assumption) (.tail _ (.tail _ (.head _)))
      (fun i ys H => IntsAre ys ((sl.take i).map fun x => x.fdiv 2) ∧ H = _) ?_ ?_ ⟨.nil, rfl⟩ ?_ ?_⟩
    · rintro i ys H ⟨_, rfl⟩
      exact .tail _ (.tail _ (.head _))
    · rintro i ys H ⟨hy, rfl⟩
      have := hy.length
      rw [List.length_map, List.length_take] at this
      lia
    · rintro i v ys C s₇ m₇ H₇ own l₇ hv ⟨hy, rfl⟩ F₇ N₇ ap₇
      obtain ⟨x, tx, hx, rfl⟩ := ints_at hs hv
      simp only [List.forIn_nil]
      refine wpAny_pure ?_
      simp only [if_true]
      walk1
      refine comp_ld (by assumption) (by exact rfl) ?_
      walk_at "m go"
      exact CompEnd.intro (by walk_at "LK") (by assumption) N₇ ⟨⟨_, Sub.rfl', ap₇, ints_snoc hy hx _, rfl⟩⟩
    rintro D2 n2 ys2 H₇ s₇ l₇ ⟨hy2, rfl⟩ F₇ N₇ ap₇
    rw [hsl, List.take_length] at hy2
    have oD2 : Off cl D2 := off_ne CA fun c hc => ap₇ c (.tail _ (.tail _ (.tail _ (.tail _ (.tail _ hc)))))
    k_sweep
    walk_at "m go"
    rename_i W2 _ _ _ oW2 lW2 _
    refine ⟨call_ro (H := FIn W1 W2 Sl D1 D2 wd [x, y] wd tw tpr tw 0 0 eS 0 n2 svs [.int 0 _, .int 0 _] ys2) (file_s hs (.cons _ _ (.cons _ _ .nil)) hy2 a2 rfl hsl2 (by lia) (by simp) (by lia) hwp hxyp hwp) (Rm.le r (Nat.le_of_ble_eq_true rfl)) G (by assumption) (by assumption)
      (Sub.consm (.tail _ (.tail _ (.tail _ (.head _)))) (Sub.consm (.head _) (Sub.consm (.tail _ (.tail _ (.tail _ (.tail _ (.head _))))) (Sub.consm (.tail _ (.tail _ (.head _))) (Sub.consm (.tail _ (.head _)) Sub.nil))))) (by walk_at "LK") ?_⟩
    rintro v X s₈ ⟨Tp, R, tk, e, Q, rfl, hQ, rfl⟩ l₈ F₉ N₉ ap₉
    rw [ds4_stp] at hQ
    have hXo : ∀ p ∈ (Tp, tupOf [.str (S (ftx ((dn.getD (-1 + (dn.length : Int)).toNat 0).fdiv 32) [wd, [x, y], wd] [sl, [0, 0], sl.map fun x => x.fdiv 2] 3)) tk, .ref R]) :: (R, listOf (Q.map fun p => Value.ref p.1).toArray e) :: Q, Off cl p.1 := fun p hp => off_ne CA fun c hc => (ap₉ p hp c (.tail _ (.tail _ (.tail _ (.tail _ (.tail _ (.tail _ (.tail _ hc)))))))).symm
    have hX72 : ∀ p ∈ (Tp, tupOf [.str (S (ftx ((dn.getD (-1 + (dn.length : Int)).toNat 0).fdiv 32) [wd, [x, y], wd] [sl, [0, 0], sl.map fun x => x.fdiv 2] 3)) tk, .ref R]) :: (R, listOf (Q.map fun p => Value.ref p.1).toArray e) :: Q, p.1 ≠ 72 := fun p hp => ap₉ p hp _ (.tail _ (.tail _ (.tail _ (.tail _ (.tail _ (.tail _ (.head _)))))))
    have NN := subN N₉ (A := (Tp, tupOf [.str (S (ftx ((dn.getD (-1 + (dn.length : Int)).toNat 0).fdiv 32) [wd, [x, y], wd] [sl, [0, 0], sl.map fun x => x.fdiv 2] 3)) tk, .ref R]) :: (R, listOf (Q.map fun p => Value.ref p.1).toArray e) :: ((Q ++ [(72, tabObj #[])]) ++ cells)) (by
      intro p hp
      simp only [List.cons_append, List.mem_cons, List.mem_append, List.not_mem_nil, or_false] at hp ⊢
      rcases hp with h | h | (h | h) | h
      · exact .inl h
      · exact .inr (.inl h)
      · exact .inr (.inr (.inl h))
      · exact .inr (.inr (.inr (.inr (.inr (.inr (.inr (.inr (.inr (.inl h)))))))))
      · exact .inr (.inr (.inr (.inr (.inr (.inr (.inr (.inr (.inr (.inr h))))))))))
    clear N₉ ap₉
    k_sweep
    walk_at "m go"
    rename_i h9 F9 N9
    refine store_CO hcl F9 (show News P L h9 (((Tp, tupOf [.str (S (ftx ((dn.getD (-1 + (dn.length : Int)).toNat 0).fdiv 32) [wd, [x, y], wd] [sl, [0, 0], sl.map fun x => x.fdiv 2] 3)) tk, .ref R]) :: (R, listOf (Q.map fun p => Value.ref p.1).toArray e) :: (Q ++ [(72, tabObj #[])])) ++ cells) from N9) CA Tl.mk (by exact rfl) ?_ hnm hna ?_
    · intro p hp
      simp only [List.mem_cons, List.mem_append, List.not_mem_nil, or_false] at hp
      rcases hp with h | h | h | h
      · exact hXo p (List.mem_cons.mpr (.inl h))
      · exact hXo p (.tail _ (List.mem_cons.mpr (.inl h)))
      · exact hXo p (.tail _ (.tail _ h))
      · rw [h]; exact o72
    intro h₅ cells₅ F₅ N₅ CA₅
    k_sweep
    walk_at "m go"
    refine ⟨⟨_, ?_, j3, R, e, Q, _, cells₅, _, rfl, hQ, hXo (R, _) (.tail _ (.head _)), hX72 (R, _) (.tail _ (.head _)), fun p hp => hXo p (.tail _ (.tail _ hp)), fun p hp => hX72 p (.tail _ (.tail _ hp)), CA₅, k1, k2, rfl, rfl⟩⟩
    intro p hp
    simp only [List.cons_append, List.mem_cons, List.mem_append, List.not_mem_nil, or_false] at hp ⊢
    rcases hp with h | h | h | h
    · exact .inr (.inl h)
    · exact .inr (.inr (.inl (.inl h)))
    · exact .inr (.inr (.inl (.inr h)))
    · exact .inr (.inr (.inr h))
  clear CA j2 j3 j4 k1 k2 F₄ N₄ hD hs oDr hDr oSl hSl
  generalize hmx : (dn.getD (-1 + (dn.length : Int)).toNat 0).fdiv 32 = mix at *
  clear hmx
  rintro s₅ m₅ H₅ l₅ ⟨j3, R, eR, Q, mc, cells, tt, j4, hQ, oR, r72, oQ, q72, CA, k1, k2, k3, rfl⟩ F₅ N₅
  obtain ⟨ws, hws⟩ : ∃ ws, ws = [wd, [x, y], wd] := ⟨_, rfl⟩
  obtain ⟨sls, hsls⟩ : ∃ sls, sls = [sl, [0, 0], sl.map fun x => x.fdiv 2] := ⟨_, rfl⟩
  rw [← hws, ← hsls] at hQ k3
  have hTl : (ftx mix ws sls 3).length ≤ 75 := ftx_len (by
    intro i
    subst hws
    match i with
    | 0 => show wd.length ≤ 10; lia
    | 1 => show 2 ≤ 10; lia
    | 2 => show wd.length ≤ 10; lia
    | i + 3 => show 0 ≤ 10; lia) 3
  obtain ⟨T, hT⟩ : ∃ T, T = ftx mix ws sls 3 := ⟨_, rfl⟩
  rw [← hT] at k3 hTl
  obtain ⟨B, hB⟩ : ∃ B, B = (R, listOf (Q.map fun p => Value.ref p.1).toArray eR) :: Q := ⟨_, rfl⟩
  have oB : ∀ p ∈ B, Off cl p.1 := by rw [hB]; exact List.forall_mem_cons.mpr ⟨oR, oQ⟩
  have b72 : ∀ p ∈ B, p.1 ≠ 72 := by rw [hB]; exact List.forall_mem_cons.mpr ⟨r72, q72⟩
  have hRB : (R, listOf (Q.map fun p => Value.ref p.1).toArray eR) ∈ B := by rw [hB]; exact .head _
  have hQB : Sub Q B := by rw [hB]; exact Sub.rfl'.tail
  have N5 : News P L s₅.heap (B ++ ((72, tabObj #[]) :: cells)) := subN N₅ (by rw [hB]; exact fun p hp => hp)
  clear N₅ oR oQ r72 q72 hB
  k_sweep
  refine cut P L (s₀ := z) (by walk_at "LK") (fun m H => m "pick" = some (.int pick tm) ∧ m "steps" = some (.ref R) ∧ ∃ Sn svs eS mc cells, Sg svs T ∧ Off cl Sn ∧ Sn ≠ 72 ∧ (∀ p ∈ B, p.1 ≠ Sn) ∧ CellsAre mc cl cells ∧ mc "word" = some (.str (S wd) tw) ∧ mc "pair" = some (.str (S [x, y]) tpr) ∧ mc "text" = some (.str (S T) tt) ∧ mc "signs" = some (.ref Sn) ∧
     H = (Sn, listOf svs.toArray eS) :: (B ++ ((72, tabObj #[]) :: cells))) ?_ ?_
  · intro K1 hK1
    have hcs : Sub cells (B ++ ((72, tabObj #[]) :: cells)) := fun p hp => List.mem_append_right _ (.tail _ hp)
    walk_at "m go"
    rename_i Sn svs₉ c₉ s₉ l₉ hS₉ F₉ N₉ nS
    have oSn : Off cl Sn := off_fresh CA nS hcs
    refine store_CO hcl F₉ (show News P L s₉.heap (((Sn, listOf svs₉.toArray c₉) :: (B ++ [(72, tabObj #[])])) ++ cells) from subN N₉ (fun p hp => by rw [List.cons_append, List.append_assoc] at hp; exact hp)) CA Tl.mk (by exact rfl) ?_ hnm hna ?_
    · intro p hp
      simp only [List.mem_cons, List.mem_append, List.not_mem_nil, or_false] at hp
      rcases hp with h | h | h
      · rw [h]; exact oSn
      · exact oB p h
      · rw [h]; exact o72
    intro h₅ cells₅ F₅ N₅ CA₅
    k_sweep
    walk_at "m go"
    refine ⟨⟨_, ?_, j3, j4, Sn, svs₉, c₉, _, cells₅, hS₉, oSn, (Nat.ne_of_lt (nS _ (List.mem_append_right _ (.head _)))).symm, fun p hp => Nat.ne_of_lt (nS p (List.mem_append_left _ hp)), CA₅, k1, k2, k3, rfl, rfl⟩⟩
    intro p hp
    rw [List.cons_append, List.append_assoc]
    exact hp
  clear CA j3 j4 k1 k2 k3 F₅ N5
  rintro s₆ m₆ H₆ l₆ ⟨j3, j4, Sn, svs, eS, mc, cells, hS, oSn, s72, bSn, CA, k1, k2, k3, k4, rfl⟩ F₆ N₆
  have hsl := hS.length
  k_sweep
  refine cut P L (s₀ := z) (by walk_at "LK") (fun m H => m = m₆ ∧ H = (Sn, listOf svs.reverse.toArray eS) :: (B ++ ((72, tabObj #[]) :: cells))) ?_ ?_
  · intro K1 hK1
    have hcs : Sub cells ((Sn, listOf svs.toArray eS) :: (B ++ ((72, tabObj #[]) :: cells))) := fun p hp => .tail _ (List.mem_append_right _ (.tail _ hp))
    walk_at "m go"
    refine ⟨ll_reverse (n := eS) (vs := svs) (by assumption) (by assumption) (Upd.head ?_) (by lia) ?_⟩
    · intro p hp
      rcases List.mem_append.mp hp with h | h
      · exact bSn p h
      rcases List.mem_cons.mp h with rfl | h
      · exact s72.symm
      · exact off_cells CA oSn p h
    intro h₅ F₅ N₅
    k_sweep
    walk_at "m go"
    exact ⟨⟨_, Sub.rfl', rfl, rfl⟩⟩
  rintro s₇ m₇ H₇ l₇ ⟨rfl, rfl⟩ F₇ N₇
  replace hS := hS.reverse
  generalize svs.reverse = svs' at hS N₇
  clear hsl F₆ N₆
  k_sweep
  refine cut P L (s₀ := z) (by walk_at "LK") (fun m H => m "pick" = some (.int pick tm) ∧ m "steps" = some (.ref R) ∧ ∃ a c' oc vs1 tq t1 e1 f1 mc cells, LexOk w a ∧ oc.data = .fields vs1 ∧ vs1[1]? = some (.str lqual tq) ∧ c' ≠ 72 ∧ (∀ line t vs e pv f, (c', oc) ∈ lexH w a line t vs e pv f) ∧ a.sg = Sn ∧ LAp a ((72, tabObj (ltab c')) :: (B ++ cells)) ∧
     CellsAre mc cl cells ∧ mc "word" = some (.str (S wd) tw) ∧ mc "pair" = some (.str (S [x, y]) tpr) ∧ mc "text" = some (.str (S T) tt) ∧ mc "signs" = some (.ref Sn) ∧ mc "lexer" = some (.ref a.x) ∧
     H = lexH w a 1 t1 svs' e1 [] f1 ++ ((72, tabObj (ltab c')) :: (B ++ cells))) ?_ ?_
  · intro K1 hK1
    have hcs : Sub cells ((Sn, listOf svs'.toArray eS) :: (B ++ ((72, tabObj #[]) :: cells))) := fun p hp => .tail _ (List.mem_append_right _ (.tail _ hp))
    walk_at "m go"
    refine ⟨call_spec (H := [(72, tabObj #[]), (Sn, listOf svs'.toArray eS)]) (rest := B ++ cells) (lexer_s1 (sg := Sn) s72) (Rm.le r (Nat.le_of_ble_eq_true rfl)) G (by assumption) (by assumption) ?_ ?_ (by walk_at "LK") ?_⟩
    · intro p hp
      simp only [List.cons_append, List.nil_append, List.mem_cons, List.mem_append] at hp ⊢
      rcases hp with h | h | h | h
      · exact .inr (.inr (.inl h))
      · exact .inl h
      · exact .inr (.inl h)
      · exact .inr (.inr (.inr h))
    · intro p hp q hq
      simp only [List.mem_cons, List.not_mem_nil, or_false] at hq
      rcases hq with rfl | rfl
      · exact (List.mem_append.mp hp).elim (b72 p) (off_cells CA o72 p)
      · exact (List.mem_append.mp hp).elim (bSn p) (off_cells CA oSn p)
    rintro v H' sD ⟨c', oc, vs1, tq, dq1, dq2, hc72, a, t1, e1', f1, cell1, co1, rfl, hsg1, rfl, ok1, hr1, v01, hco1⟩ lD FD ND apD
    k_sweep
    have hO : Sub (lexO w a 1 t1 svs' e1' [] f1) (((72, tabObj (ltab c')) :: lexH w a 1 t1 svs' e1' [] f1) ++ (B ++ cells)) := fun p hp => List.mem_append_left _ (List.mem_cons_of_mem _ (by rw [lexH_eq hr1]; exact List.mem_append_left _ hp))
    have g72 : (72 : Addr) ∉ lexAd a := lexAd_two hr1 (lex_data ND ok1 hr1 hco1 hO (.head _) rfl) (fun e => hc72 e.symm)
    have hLY : LAp a (B ++ cells) := LAp.of fun p hp q hq => apD p (.tail _ hp) q hq
    have hpre : ∀ p ∈ ((72, tabObj (ltab c')) :: lexH w a 1 t1 svs' e1' [] f1) ++ B, Off cl p.1 := fun p hp => (List.mem_append.mp hp).elim
      (fun h => (List.mem_cons.mp h).elim (fun e => e ▸ o72) (fun h => off_ne CA fun q hq => (apD p (.tail _ h) q (List.mem_append_right _ hq)).symm))
      (fun h => oB p h)
    have NE : News P L sD.heap ((((72, tabObj (ltab c')) :: lexH w a 1 t1 svs' e1' [] f1) ++ B) ++ cells) := subN ND (fun p hp => by rw [List.append_assoc] at hp; exact hp)
    clear ND
    walk_at "m go"
    refine store_CO hcl (by assumption) NE CA Tl.mk (by exact rfl) hpre hnm hna ?_
    intro h₅ cells₅ F₅ N₅ CA₅
    clear NE
    k_sweep
    walk_at "m go"
    have hin : ∀ line t vs e pv f, (c', oc) ∈ lexH w a line t vs e pv f := fun line t vs e pv f => by rw [lexH_eq hr1]; exact List.mem_append_right _ (.head _)
    refine ⟨⟨_, ?_, j3, j4, a, c', oc, vs1, tq, t1, e1', f1, _, cells₅, ok1, dq1, dq2, hc72, hin, hsg1, ?_, CA₅, k1, k2, k3, k4, rfl, rfl⟩⟩
    · intro p hp
      rcases List.mem_append.mp hp with h | h
      · exact List.mem_append_left _ (List.mem_append_left _ (.tail _ h))
      rcases List.mem_cons.mp h with rfl | h
      · exact List.mem_append_left _ (List.mem_append_left _ (.head _))
      · exact (List.mem_append.mp h).elim (fun h => List.mem_append_left _ (List.mem_append_right _ h)) (fun h => List.mem_append_right _ h)
    · intro q hq
      rcases List.mem_cons.mp hq with rfl | h
      · exact g72
      · exact (List.mem_append.mp h).elim (fun h => hLY q (List.mem_append_left _ h)) (LAp.cells CA CA₅ (hLY.sub (fun p hp => List.mem_append_right _ hp)) q)
  clear CA j3 j4 k1 k2 k3 k4 F₇ N₇
  rintro s₈ m₈ H₈ l₈ ⟨j3, j4, a, c', oc, vs1, tq, t1, e1, f1, mc, cells, ok, dq1, dq2, hc72, hin, hsg, hLY, CA, k1, k2, k3, k4, k5, rfl⟩ F₈ N₈
  have hwl : ws.length = 3 := by rw [hws]; rfl
  have hw0 : ws.getD 0 [] = wd := by rw [hws]; rfl
  have hwok : ∀ k, PyData.strOk (S (ws.getD k [])) = true := by
    intro k
    subst hws
    match k with
    | 0 => exact ok_p7 hwp
    | 1 => exact ok_p7 hxyp
    | 2 => exact ok_p7 hwp
    | k + 3 => exact ok_p7 fun _ h => (nomatch h)
  have hr0 : T = remx mix ws sls 0 := by rw [hT, ← ftx_remx mix ws sls (Nat.zero_le 3)]; rfl
  have hS0 : Sg svs' (remx mix ws sls 0).reverse := hr0 ▸ hS
  clear hr0 hS
  obtain ⟨Y, hY⟩ : ∃ Y, Y = (72, tabObj (ltab c')) :: (B ++ cells) := ⟨_, rfl⟩
  rw [← hY] at hLY N₈
  have y72 : (72, tabObj (ltab c')) ∈ Y := by rw [hY]; exact .head _
  have yB : Sub B Y := by rw [hY]; exact fun p hp => .tail _ (List.mem_append_left _ hp)
  have yc : Sub cells Y := by rw [hY]; exact fun p hp => .tail _ (List.mem_append_right _ hp)
  have yR := yB _ hRB
  have yQ : Sub Q Y := fun p hp => yB p (hQB p hp)
  clear hY yB hQB hRB oB b72 bSn s72 oSn o72
  subst hsg
  rw [show (1 : Int) = row4 mix ws sls 0 from rfl] at N₈
  k_sweep
  refine cut P L (s₀ := z) (by walk_at "LK") (fun m H => m "pick" = some (.int pick tm) ∧ m "steps" = some (.ref R) ∧ ∃ q0 u1 u2 u3 t1 vs e Y1, m "first" = some (.ref q0) ∧ Sg vs (remx mix ws sls 1).reverse ∧ LAp a Y1 ∧ Sub Y Y1 ∧ (q0, tupOf [.str (S wd) u1, .int (row4 mix ws sls 1) u2, .int (off4 mix ws sls 1) u3]) ∈ Y1 ∧ H = lexH w a (row4 mix ws sls 1) t1 vs e [] f1 ++ Y1) ?_ ?_
  · intro K1 hK1
    have hcs : Sub cells (lexH w a (row4 mix ws sls 0) t1 svs' e1 [] f1 ++ Y) := fun p hp => List.mem_append_right _ (yc p hp)
    walk_at "m go"
    refine ⟨call_spec (H := lexH w a (row4 mix ws sls 0) t1 svs' e1 [] f1) (rest := Y) (stepK (k := 0) ok hT hTl hwl hS0 _) (Rm.le r (Nat.le_of_ble_eq_true rfl)) G (by assumption) (by assumption) (fun p hp => hp) hLY.ne (by walk_at "LK") ?_⟩
    rintro v H' s₉ ⟨t1', vs', e', q, u1, u2, u3, rfl, hvs', rfl, hq⟩ l₉ F₉ N₉ ap₉
    rw [hw0] at N₉ ap₉
    have N9 := subN N₉ (A := lexH w a (row4 mix ws sls 1) t1' vs' e' [] f1 ++ ((q, tupOf [.str (S wd) u1, .int (row4 mix ws sls 1) u2, .int (off4 mix ws sls 1) u3]) :: Y)) (fun p hp => by
      simp only [List.cons_append, List.mem_cons, List.mem_append] at hp ⊢
      rcases hp with h | h | h
      · exact .inr (.inl h)
      · exact .inl h
      · exact .inr (.inr h))
    clear N₉
    k_sweep
    walk_at "m go"
    exact ⟨⟨_, Sub.rfl', j3, j4, q, u1, u2, u3, t1', vs', e', _, rfl, hvs', (LAp.cons (o := Obj0) (LAp.one hq) hLY), Sub.rfl'.tail, .head _, rfl⟩⟩
  clear j3 j4 F₈ N₈ hS0 hLY
  rintro s₉ m₉ H₉ l₉ ⟨j3, j4, q0, u1, u2, u3, t1', vs, e, Y1, j5, hS, hLY, yY, yq0, rfl⟩ F₉ N₉
  replace y72 := yY _ y72
  replace yR := yY _ yR
  replace yQ : Sub Q Y1 := fun p hp => yY p (yQ p hp)
  replace yc : Sub cells Y1 := fun p hp => yY p (yc p hp)
  clear yY
  obtain ⟨qa, b1, b2, b3, hqa, hqi⟩ := hQ.at (i := 0) (u := ws.getD 0 []) (a := row4 mix ws sls 1) (b := off4 mix ws sls 1) rfl
  rw [hw0] at hqa
  replace hqi : (Q.map fun p => Value.ref p.1)[(0 : Int).toNat]? = some (.ref qa) := hqi
  k_sweep
  refine cut P L (s₀ := z) (by walk_at "LK") (fun m H => m = m₉ ∧ H = lexH w a (row4 mix ws sls 1) t1' vs e [] f1 ++ Y1) ?_ ?_
  · intro K1 hK1
    have hRm : (R, listOf (Q.map fun p => Value.ref p.1).toArray eR) ∈ lexH w a (row4 mix ws sls 1) t1' vs e [] f1 ++ Y1 := List.mem_append_right _ yR
    walk_at "m go"
    refine ⟨ne_tri (by assumption) (List.mem_append_right _ yq0) (List.mem_append_right _ (yQ _ hqa)) (ok_p7 hwp) hun ?_⟩
    walk_at "m go"
    exact ⟨⟨_, Sub.rfl', rfl, rfl⟩⟩
  rintro sA mA HA lA ⟨rfl, rfl⟩ FA NA
  clear F₉ N₉ hqa hqi
  have hsk : 0 ≤ (pick.fdiv 42).fmod 13 ∧ (pick.fdiv 42).fmod 13 < 13 := fmod_b _ 13 (by decide)
  k_sweep
  refine cut P L (s₀ := z) (by walk_at "LK") (fun m H => m "steps" = some (.ref R) ∧ ∃ As Cm QA PV tq n c f1 Y2, m "told" = some (.int (2 * (wd.length : Int)) tq) ∧ m "asked" = some (.ref As) ∧ m "came" = some (.ref Cm) ∧ (∀ p ∈ QA, AskOk wd x y p) ∧ QA.length ≤ 100 ∧ Txs PV ((wd.filter (inP x y)).map (fun c => [c]) ++ [[x, y], []]) ∧ LAp a Y2 ∧ Sub Y1 Y2 ∧
     (As, listOf (QA.map fun p => Value.ref p.1).toArray n) ∈ Y2 ∧ (Cm, listOf PV.toArray c) ∈ Y2 ∧ Sub QA Y2 ∧ H = lexH w a (row4 mix ws sls 1) t1' vs e [] f1 ++ Y2) ?_ ?_
  · intro K1 hK1
    have hcs : Sub cells (lexH w a (row4 mix ws sls 1) t1' vs e [] f1 ++ Y1) := fun p hp => List.mem_append_right _ (yc p hp)
    have hqm : (q0, tupOf [.str (S wd) u1, .int (row4 mix ws sls 1) u2, .int (off4 mix ws sls 1) u3]) ∈ lexH w a (row4 mix ws sls 1) t1' vs e [] f1 ++ Y1 := List.mem_append_right _ yq0
    walk_at "m go"
    refine ⟨call_spec (H := lexH w a (row4 mix ws sls 1) t1' vs e [] f1) (rest := Y1) (game_s ok hx hy hxy (by lia) ⟨hsk.1, by lia⟩) (Rm.le r (Nat.le_of_ble_eq_true rfl)) G (by assumption) (by assumption) (fun p hp => hp) hLY.ne (by walk_at "LK") ?_⟩
    rintro v H' sB ⟨Tp, As, Cm, QA, PV, tq, n, c, e', rfl, hQA, hQl, hPV, ⟨laQ, laA, laC⟩, rfl⟩ lB FB NB apB
    have NB2 := subN NB (A := (Tp, tupOf [.int (2 * (wd.length : Int)) tq, .ref As, .ref Cm]) :: (lexH w a (row4 mix ws sls 1) t1' vs e [] e' ++ ((As, listOf (QA.map fun p => Value.ref p.1).toArray n) :: (Cm, listOf PV.toArray c) :: (QA ++ Y1)))) (by
      intro p hp
      simp only [List.cons_append, List.mem_cons, List.mem_append] at hp ⊢
      rcases hp with h | h | h | h | h | h
      · exact .inl h
      · exact .inr (.inr (.inr (.inl (.inr h))))
      · exact .inr (.inl h)
      · exact .inr (.inr (.inl h))
      · exact .inr (.inr (.inr (.inl (.inl h))))
      · exact .inr (.inr (.inr (.inr h))))
    clear NB
    k_sweep
    walk_at "m go"
    exact ⟨⟨_, Sub.rfl'.tail, j4, As, Cm, QA, PV, tq, n, c, e', _, rfl, rfl, rfl, hQA, hQl, hPV, LAp.cons laA (LAp.cons laC (laQ.app hLY)), (fun p hp => .tail _ (.tail _ (List.mem_append_right _ hp))), .head _, .tail _ (.head _), (fun p hp => .tail _ (.tail _ (List.mem_append_left _ hp))), rfl⟩⟩
  clear j3 j4 j5 FA NA hLY yq0
  rintro sB mB HB lB ⟨j4, As, Cm, QA, PV, tq, n, c, f2, Y2, j5, j6, j7, hQA, hQl, hPV, hLY, yY, yAs, yCm, yQA, rfl⟩ FB NB
  replace y72 := yY _ y72
  replace yR := yY _ yR
  replace yQ : Sub Q Y2 := fun p hp => yY p (yQ p hp)
  replace yc : Sub cells Y2 := fun p hp => yY p (yc p hp)
  clear yY
  k_sweep
  refine cut P L (s₀ := z) (by walk_at "LK") (fun m H => m "told" = some (.int (2 * (wd.length : Int)) tq) ∧ m "asked" = some (.ref As) ∧ m "came" = some (.ref Cm) ∧ H = (c', oc) :: Y2) ?_ ?_
  · intro K1 hK1
    walk_at "m go"
    refine ⟨comp_in rfl rfl (by decide) ?_⟩
    walk_at "m go"
    refine ⟨comp_rg (n := 3) (z := z) (by assumption) (by lia) (by lia) (by lia) (by lia) (by lia) (by decide) rfl rfl r.hh (by walk_at "LK") (by lia) (by assumption) (by assumption)
      (fun i ys H => ∃ Qn t1 vs e, ys = Qn.map (fun p => Value.ref p.1) ∧ TupAre Qn (dsA mix ws sls i) ∧ Sg vs (remx mix ws sls (i + 1)).reverse ∧ LAp a Qn ∧ (∀ p ∈ Y2, ∀ q ∈ Qn, p.1 ≠ q.1) ∧ H = Qn ++ (lexH w a (row4 mix ws sls (i + 1)) t1 vs e [] f2 ++ Y2)) ?_ ⟨[], t1', vs, e, rfl, .nil, hS, LAp.nil, fun _ _ _ h => (nomatch h), rfl⟩ ?_ ?_⟩
    · rintro i ys H ⟨Qn, _, _, _, rfl, hQn, _, _, _, _⟩
      have := hQn.length
      unfold dsA at this
      rw [List.length_map, List.length_range'] at this
      rw [List.length_map]; lia
    · rintro i tv ys C s₅ m₅ H₅ own l₅ hi ⟨Qn, t1, vs, e, rfl, hQn, hvs, hLQ, hYQ, rfl⟩ F₅ N₅ ap₅
      have hcs : Sub cells (own ++ (Qn ++ (lexH w a (row4 mix ws sls (i + 1)) t1 vs e [] f2 ++ Y2))) := fun p hp => List.mem_append_right _ (List.mem_append_right _ (List.mem_append_right _ (yc p hp)))
      simp only [List.forIn_nil]
      refine wpAny_pure ?_
      simp only [if_true]
      walk_at "m go"
      refine ⟨call_spec (H := lexH w a (row4 mix ws sls (i + 1)) t1 vs e [] f2) (rest := own ++ (Qn ++ Y2)) (stepK (k := i + 1) ok hT hTl hwl hvs _) (Rm.le r (Nat.le_of_ble_eq_true rfl)) G (by assumption) (by assumption) ?_ ?_ (by walk_at "LK") ?_⟩
      · intro p hp
        rcases List.mem_append.mp hp with h | h
        · exact List.mem_append_right _ (List.mem_append_right _ (List.mem_append_left _ h))
        rcases List.mem_append.mp h with h | h
        · exact List.mem_append_left _ h
        rcases List.mem_append.mp h with h | h
        · exact List.mem_append_right _ (List.mem_append_left _ h)
        · exact List.mem_append_right _ (List.mem_append_right _ (List.mem_append_right _ h))
      · intro p hp q hq
        rcases List.mem_append.mp hp with h | h
        · exact (ap₅ q (List.mem_append_right _ (List.mem_append_left _ hq)) p h).symm
        rcases List.mem_append.mp h with h | h
        · exact hLQ.ne p h q hq
        · exact hLY.ne p h q hq
      rintro v H' s₆ ⟨t1', vs', e', q, u1, u2, u3, rfl, hvs', rfl, hq⟩ l₆ F₆ N₆ ap₆
      refine CompEnd.intro l₆ F₆ N₆ ⟨⟨(Qn ++ [(q, tupOf [.str (S (ws.getD (i + 1) [])) u1, .int (row4 mix ws sls (i + 1 + 1)) u2, .int (off4 mix ws sls (i + 1 + 1)) u3])]) ++ (lexH w a (row4 mix ws sls (i + 1 + 1)) t1' vs' e' [] f2 ++ Y2), ?_, ?_, ⟨Qn ++ [(q, tupOf [.str (S (ws.getD (i + 1) [])) u1, .int (row4 mix ws sls (i + 1 + 1)) u2, .int (off4 mix ws sls (i + 1 + 1)) u3])], t1', vs', e', by rw [List.map_append]; rfl, by rw [dsA_succ]; exact hQn.append (.cons _ _ _ _ _ _ _ .nil), hvs', hLQ.app (LAp.one hq), ?_, rfl⟩⟩⟩
      · intro p hp
        rcases List.mem_append.mp hp with h | h
        · exact List.mem_append_right _ (List.mem_append_left _ h)
        rcases List.mem_append.mp h with h | h
        · rcases List.mem_append.mp h with h | h
          · exact List.mem_append_right _ (List.mem_append_right _ (List.mem_append_left _ h))
          · rw [List.mem_singleton.mp h]; exact List.mem_append_left _ (.head _)
        rcases List.mem_append.mp h with h | h
        · exact List.mem_append_left _ (.tail _ h)
        · exact List.mem_append_right _ (List.mem_append_right _ (List.mem_append_right _ h))
      · intro p hp o ho
        rcases List.mem_append.mp hp with h | h
        · rcases List.mem_append.mp h with h | h
          · exact ap₅ p (List.mem_append_left _ h) o ho
          · rw [List.mem_singleton.mp h]; exact ap₆ _ (.head _) o (List.mem_append_left _ ho)
        rcases List.mem_append.mp h with h | h
        · exact ap₆ p (.tail _ h) o (List.mem_append_left _ ho)
        · exact ap₅ p (List.mem_append_right _ (List.mem_append_right _ h)) o ho
      · intro p hp o ho
        rcases List.mem_append.mp ho with h | h
        · exact hYQ p hp o h
        · rw [List.mem_singleton.mp h]; exact (ap₆ _ (.head _) p (List.mem_append_right _ (List.mem_append_right _ hp))).symm
    · rintro Kn eK ys H₅ s₅ l₅ ⟨Qn, t1, vs, e, rfl, hQn, hvs, hLQ, hYQ, rfl⟩ F₅ N₅ ap₅
      have hQ4 : Q.length = 4 := hQ.length.trans rfl
      k_sweep
      walk_at "m go"
      refine ⟨ll_fr1 (D := R) (n := eR) (vs := Q.map fun p => Value.ref p.1) (by assumption) (by assumption) (.tail _ (List.mem_append_right _ (List.mem_append_right _ yR))) (by rw [List.length_map, hQ4]; decide) ?_⟩
      intro Kr h₆ F₆ N₆ nKr
      k_sweep
      walk_at "m go"
      refine ⟨ne_told (Q := Qn) (R := Q.drop 1) (ds := dsA mix ws sls 3) (by assumption) (.tail _ (.head _)) (by rw [List.map_drop]; exact .head _) hQn (by rw [← dsA_ds4]; exact hQ.tail1) (fun p hp => .tail _ (.tail _ (List.mem_append_left _ hp))) (fun p hp => .tail _ (.tail _ (List.mem_append_right _ (List.mem_append_right _ (yQ p (List.mem_of_mem_drop hp)))))) ?_ hun ?_⟩
      · intro d hd
        obtain ⟨i, _, rfl⟩ := List.mem_map.mp hd
        exact hwok i
      walk_at "m go"
      exact ⟨⟨_, Sub.consm (.tail _ (.tail _ (List.mem_append_right _ (List.mem_append_left _ (hin _ _ _ _ _ _))))) (fun p hp => .tail _ (.tail _ (List.mem_append_right _ (List.mem_append_right _ hp)))), j5, j6, j7, rfl⟩⟩
  clear j4 j5 j6 j7 FB NB hLY hS
  rintro sC mC HC lC ⟨j5, j6, j7, rfl⟩ FC NC
  k_sweep
  refine cut P L (s₀ := z) (by walk_at "LK") (fun m H => m "asked" = some (.ref As) ∧ H = (c', oc) :: Y2) ?_ ?_
  · intro K1 hK1
    have hcs : Sub cells ((c', oc) :: Y2) := yc.tail
    walk_at "m go"
    refine ⟨comp_in rfl rfl (by decide) ?_⟩
    walk_at "m go"
    refine ⟨comp_st (l := wd) (z := z) (by decide) rfl rfl r.hh (by walk_at "LK") (by lia) (by assumption) (by assumption)
      (fun i ys H => Txs ys (((wd.take i).filter (inP x y)).map fun c => [c]) ∧ H = (c', oc) :: Y2) ?_ ⟨.nil, rfl⟩ ?_ ?_⟩
    · rintro i ys H ⟨hys, rfl⟩
      have h1 := List.length_filter_le (inP x y) (wd.take i)
      have h2 := List.length_take_le i wd
      rw [hys.length, List.length_map]
      lia
    · rintro i ch tv ys C s₇ m₇ H₇ own l₇ hch ⟨hys, rfl⟩ F₇ N₇ ap₇
      have hcs7 : Sub cells (own ++ ((c', oc) :: Y2)) := fun p hp => List.mem_append_right _ (hcs p hp)
      obtain ⟨hil, hci⟩ := List.getElem?_eq_some_iff.mp hch
      have htk : wd.take (i + 1) = wd.take i ++ [ch] := by rw [List.take_succ_eq_append_getElem hil, hci]
      refine wpAny_tests_one ?_
      walk_at "m go"
      · have hin2 : ch ∈ [x, y] := by assumption
        refine CompEnd.intro (by walk_at "LK") (by assumption) (by assumption) ⟨⟨_, Sub.rfl', ap₇, ?_, rfl⟩⟩
        rw [htk, List.filter_append, List.map_append]
        have e : [ch].filter (inP x y) = [ch] := by rw [List.filter_cons, if_pos (by unfold inP; simpa using hin2)]; rfl
        rw [e]
        exact hys.append (.cons _ _ .nil)
      · have hin2 : ¬ ch ∈ [x, y] := by assumption
        refine CompEnd.intro (by walk_at "LK") (by assumption) (by assumption) ⟨⟨_, Sub.rfl', ap₇, ?_, rfl⟩⟩
        rw [htk, List.filter_append, List.map_append]
        have e : [ch].filter (inP x y) = [] := by rw [List.filter_cons, if_neg (by unfold inP; simpa using hin2)]; rfl
        rw [e, List.map_nil, List.append_nil]
        exact hys
    · rintro Lw eL ys H₅ s₅ l₅ ⟨hys, rfl⟩ F₅ N₅ ap₅
      rw [List.take_length] at hys
      have hyl : ys.length ≤ 5 := by
        have h1 := List.length_filter_le (inP x y) wd
        rw [hys.length, List.length_map]
        lia
      have hcs5 : Sub cells ((Lw, listOf ys.toArray eL) :: (c', oc) :: Y2) := hcs.tail
      k_sweep
      walk_at "m go"
      rename_i Rw _ _ _ _
      refine ⟨ne_txts (D := Cm) (K := Rw) (by assumption) (.tail _ (.tail _ (.tail _ (.tail _ yCm)))) (.head _) hPV (hys.append (.cons [x, y] _ (.cons [] _ .nil))) ?_ hun ?_⟩
      · intro u hu
        rcases List.mem_append.mp hu with hu | hu
        · obtain ⟨ch, hch, rfl⟩ := List.mem_map.mp hu
          exact ok_p7 fun d hd => by rw [List.mem_singleton.mp hd]; exact hwp ch (List.mem_filter.mp hch).1
        · simp only [List.mem_cons, List.not_mem_nil, or_false] at hu
          rcases hu with rfl | rfl
          · exact ok_p7 hxyp
          · exact ok_p7 fun _ h => (nomatch h)
      walk_at "m go"
      exact ⟨⟨_, Sub.rfl'.tail.tail.tail, j6, rfl⟩⟩
  clear j5 j6 j7 FC NC
  rintro sD mD HD lD ⟨j6, rfl⟩ FD ND
  have hrs : RetSub := ⟨⟩
  have hcs : Sub cells ((c', oc) :: Y2) := yc.tail
  k_sweep
  walk_at "m go"
  refine ⟨comp_in rfl rfl (by decide) ?_⟩
  walk_at "m go"
  refine ⟨comp_ll (n := n) (D := As) (vs := QA.map fun p => Value.ref p.1) (z := z) (by decide) rfl rfl r.hh (by walk_at "LK") (by rw [List.length_map]; lia) (by assumption) (by assumption) (.tail _ yAs)
    (fun i ys H => ys = [] ∧ H = (c', oc) :: Y2) ?_ ?_ ⟨rfl, rfl⟩ ?_ ?_⟩
  · rintro i ys H ⟨_, rfl⟩
    exact .tail _ yAs
  · rintro i ys H ⟨rfl, _⟩
    exact Nat.zero_le _
  · rintro i v ys C s₇ m₇ H₇ own l₇ hv ⟨rfl, rfl⟩ F₇ N₇ ap₇
    rw [List.getElem?_map] at hv
    obtain ⟨p, hp, rfl⟩ := Option.map_eq_some_iff.mp hv
    have hpm := List.mem_of_getElem? hp
    obtain ⟨s, t, told, bound, b1, b2, b3, b4, hs, ht, hTl, ho⟩ := hQA p hpm
    have hpY : (p.1, tupOf [.int (s : Nat) b1, .int (t : Nat) b2, .int told b3, .int bound b4]) ∈ Y2 := by rw [← ho]; exact yQA p hpm
    have hcs7 : Sub cells (own ++ ((c', oc) :: Y2)) := fun p hp => List.mem_append_right _ (hcs p hp)
    refine wpAny_tests_one ?_
    walk_at "m go"
    refine ⟨call_ro (H := [(p.1, tupOf [.int (s : Nat) b1, .int (t : Nat) b2, .int told b3, .int bound b4])]) (right_s hx hy hwp (by lia) hs ht hTl) (Rm.le r (Nat.le_of_ble_eq_true rfl)) G (by assumption) (by assumption) (fun q hq => by rw [List.mem_singleton.mp hq]; exact List.mem_append_right _ (.tail _ hpY)) (by walk_at "LK") ?_⟩
    rintro v X s₈ ⟨rfl, rfl⟩ l₈ F₈ N₈ ap₈
    rw [List.nil_append] at N₈
    walk_at "m go"
    exact CompEnd.intro l₈ F₈ N₈ ⟨⟨_, Sub.rfl', ap₇, rfl, rfl⟩⟩
  · rintro Rl eR ys H₅ s₅ l₅ ⟨rfl, rfl⟩ F₅ N₅ ap₅
    k_sweep
    walk_at "m go"
    exact ⟨⟨_, Sub.consm (.tail _ (.tail _ (.tail _ y72))) (Sub.consm (.tail _ (.tail _ (.head _))) Sub.nil), rfl, c', oc, vs1, _, [], dq1, dq2, hc72, rfl⟩⟩
end
end
end
section
def as : List Addr := [2, 3, 6, 22, 24, 25, 27, 28, 29, 31, 32, 34, 35, 36, 38, 39, 41, 42, 43, 45, 46, 48, 49, 50, 51, 52, 53, 54, 57, 59, 60, 62, 63, 64, 66, 67, 69, 70, 71, 73, 74, 76, 77, 78, 80, 81, 83, 84, 85, 87, 88, 90, 91, 92, 94, 95, 97, 98, 99, 101, 102, 104, 105, 106, 109, 110, 111, 113, 114, 116, 117, 118, 121, 122, 123, 126, 127, 128, 130, 131, 133, 134]
theorem wkAll : ∀ d, defOf vw PySem.Challenge.rw_pm0020_02.row.name = some (d, []) → WalkO vw [] (XL vw []) (kmHook hk.heap_1
        as (fun _ => by kernel_rfl) [72]).says PySem.Challenge.rw_pm0020_02.row.toRowW d [] fun f vs => PySem.call f vs := by
  intro d hd
  have e := (rfl : defOf vw PySem.Challenge.rw_pm0020_02.row.name = some (_, _))
  obtain rfl : _ = d := (Prod.mk.inj (Option.some.inj (e.symm.trans hd))).1
  clear hd e
  k_go0
  walk_at "m go"
  rename_i w0 s0 s1 mg mb G0 Y0 fa o pm cd doc kV ho hcd hg X V T B TE TW nums hs hlay hL1 hr1 hl2 as1 as2 l vs as3 hL ra w1 r0 hI hr hc1 hc2 hD h1 X1 T1 K1 F1 N1 l0
  refine ⟨wpAny_call (codeAny_mono (run_s hI (by lia) _ _ _ ⟨rfl, Nat.le_of_ble_eq_true rfl, Nat.le_of_ble_eq_true rfl⟩ ⟨X1, ⟨_, _, _, _, _, T1⟩, codeHd⟩ lifted F1.keep (Nat.le_trans F1.above (Nat.le_of_lt F1.ns.lt)) (fun p hp => ⟨(N1 p hp).1, (N1 p hp).2.2⟩)) ?_)⟩
  rintro r s' ⟨v, H', rfl, lk, keep, led, rfl, c', oc, vs1, tq, H₂, d1, d2, hc, rfl⟩
  refine ⟨⟨.inl ⟨_, .bool true, [], rfl, fun _ => rfl, .bool true, postW_of (X := true) rfl (by first | rfl | with_unfolding_all rfl | decide) rfl, fun _ => ⟨List.nodup_nil, fun _ h => (nomatch h)⟩⟩, keep, lk.2.2, lk.1.trans hg⟩, ⟨_, (led _ (.head _)).1⟩, True.intro⟩
end
section
open PySem PySem.W PyProof.Rows
def hd.tw6019021122589006684 : Unit := ()
def hd.tw10458740792067480800 : Unit := ()
def hd.tw11117797201346649052 : Unit := ()
def hd.tw15790720579355451973 : Unit := ()
def hd.tw3039998526598829958 : Unit := ()
def hd.tw6407587892757256292 : Unit := ()
def hd.tw4494801613693538912 : Unit := ()
def hd.tw3451239065008710300 : Unit := ()
def hd.tw2928011746711518518 : Unit := ()
def hd.tw17650839729002327288 : Unit := ()
def hd.tw6060742912462422084 : Unit := ()
def hd.tw2930668341846507884 : Unit := ()
def hd.tw15616948245753086127 : Unit := ()
def hd.tw7914949630228597729 : Unit := ()
def hd.tw6785817131721698500 : Unit := ()
def hd.tw6082411064634330575 : Unit := ()
def hd.tw3789350110615891812 : Unit := ()
def hd.tw15967140613478806237 : Unit := ()
def hd.tw6291416237084387574 : Unit := ()
def hd.tw11232374478483605306 : Unit := ()
def hd.tw5373601922739893978 : Unit := ()
def hd.tw11465210709893060100 : Unit := ()
def hd.tw22551697357593593 : Unit := ()
def hd.tw11319097763535126812 : Unit := ()
def hd.tw17054507655720011243 : Unit := ()
def hd.tw9641152695372364146 : Unit := ()
def hd.tw2867327485932766208 : Unit := ()
def hd.tw1011335219593555734 : Unit := ()
def hd.tw14103535550066685397 : Unit := ()
def hd.tw4478166936697009375 : Unit := ()
def hd.tw5961118342813265553 : Unit := ()
def hd.tw8343274005884668182 : Unit := ()
def hd.tw18300207936620678264 : Unit := ()
def hd.tw5148922909946612681 : Unit := ()
def hd.tw10792051664901133789 : Unit := ()
def hd.tw7754304195085646258 : Unit := ()
def hd.tw4272726840584523970 : Unit := ()
def hd.tw11893437276241958245 : Unit := ()
def hd.tw13855881374063213867 : Unit := ()
def hd.tw18322514126500204803 : Unit := ()
def hd.tw16194383521188589630 : Unit := ()
def hd.tw17096064922765204443 : Unit := ()
def hd.tw13267510147771200024 : Unit := ()
def hd.tw2708950531961675432 : Unit := ()
def hd.tw7752216883906862206 : Unit := ()
def hd.tw6442067068224118133 : Unit := ()
def hd.tw2068664650715991707 : Unit := ()
def hd.tw9719896912496429819 : Unit := ()
def hd.tw11660266114150955751 : Unit := ()
def hd.tw4086058157674990017 : Unit := ()
def hd.tw10111801491309104144 : Unit := ()
def hd.tw2549352325252075173 : Unit := ()
def hd.tw6411954120941647267 : Unit := ()
def hd.tw15089522573102190283 : Unit := ()
def hd.tw12070051907170230399 : Unit := ()
def hd.tw16091413853298234908 : Unit := ()
def hd.tw17950676927832955104 : Unit := ()
def hd.tw9421340871869096474 : Unit := ()
def hd.tw9170477692918782315 : Unit := ()
def hd.tw4115565904173853331 : Unit := ()
def hd.tw5190246844813560578 : Unit := ()
def hd.tw3219085151875037572 : Unit := ()
def hd.tw13225837485096350037 : Unit := ()
def hd.tw2312034457802059207 : Unit := ()
def hd.tw16634568088961857937 : Unit := ()
def hd.tw15527848837575444561 : Unit := ()
def hd.tw11953376511379268794 : Unit := ()
def hd.tw18103342009636024947 : Unit := ()
def hd.tw16259696140248634718 : Unit := ()
def hd.tw4225703048834024713 : Unit := ()
def hd.tw10170382586518783626 : Unit := ()
def hd.tw9277588360372424766 : Unit := ()
def hd.tw1413172679324656950 : Unit := ()
def hd.tw17699125900338286826 : Unit := ()
def hd.tw922143313871775805 : Unit := ()
def hd.tw6767318904944593275 : Unit := ()
def hd.tw1600037746751723098 : Unit := ()
def hd.tw3646829019195819677 : Unit := ()
def hd.tw12487502673411948298 : Unit := ()
def hd.tw6293948785866598258 : Unit := ()
def hd.tw10258999931320997221 : Unit := ()
def hd.tw14246236162039180721 : Unit := ()
def hd.tw12023040214023829324 : Unit := ()
def hd.tw6196171512934965099 : Unit := ()
def hd.tw8735263284916673568 : Unit := ()
def hd.tw12901994302517312135 : Unit := ()
def hd.tw16345102440705955213 : Unit := ()
def hd.tw17087091549796120035 : Unit := ()
def hd.tw8959176491354863721 : Unit := ()
def hd.tw11917015161858427179 : Unit := ()
def hd.tw13828106393651249627 : Unit := ()
def hd.tw6820862383352777685 : Unit := ()
def hd.tw9673543361469618366 : Unit := ()
def hd.tw7028611270464810887 : Unit := ()
def hd.tw16432713993328977331 : Unit := ()
def hd.tw701787995468756871 : Unit := ()
def hd.tw6305734824756694309 : Unit := ()
def hd.tw8458067239894703972 : Unit := ()
def hd.tw6276725880618359904 : Unit := ()
def hd.tw14168552714766633299 : Unit := ()
def hd.tw17672654358674132775 : Unit := ()
def hd.tw14727110085682223627 : Unit := ()
def hd.tw15595854959937240912 : Unit := ()
def hd.tw16056359734778111409 : Unit := ()
def hd.tw3673089383077640791 : Unit := ()
def hd.tw4360684699965382250 : Unit := ()
def hd.tw7751791981175770698 : Unit := ()
def hd.tw17542962492245011380 : Unit := ()
def hd.tw2195365466389143174 : Unit := ()
def hd.tw16037735763661986305 : Unit := ()
def hd.tw1097998534492414930 : Unit := ()
def hd.tw3493717111155160527 : Unit := ()
def hd.tw3530705653197291679 : Unit := ()
def hd.tw5511420028821071320 : Unit := ()
def hd.tw8226494294326810461 : Unit := ()
def hd.tw15833661619300960221 : Unit := ()
def hd.tw5567388512258382067 : Unit := ()
def hd.tw3571134770919094901 : Unit := ()
def hd.tw8457440626546761165 : Unit := ()
def hd.tw13330244855972007585 : Unit := ()
set_option Elab.async true
theorem hd : PySem.Challenge.rw_pm0020_02.Holds := by
  w_on
  o_law
  o_head (kmHook hk.heap_1
        as (fun _ => by kernel_rfl) [72])
  case hw => w_witness2
  exact wkAll _ (by rfl)
set_option Elab.async false
end
end Mine
set_option maxHeartbeats 40000000 in
theorem PySem.Challenge.cw_pm0020_02_holds : PySem.Challenge.rw_pm0020_02.Holds := by
  exact Mine.hd
