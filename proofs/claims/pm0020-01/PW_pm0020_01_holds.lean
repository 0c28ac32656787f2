import PyProof.Rows.All
import Wide.All
import OpenK.AllK
import Wide.FinOn
import PyProof.Rows.StrCountLaw
import PyProof.Rows.StrJoinRep
import PyProof.Rows.StrMul
import Lean
import PySem.Challenge.RW_pm0020_01
set_option Elab.async false
set_option linter.all false
set_option maxRecDepth 100000
set_option maxHeartbeats 40000000
namespace Mine
section
open PySem PySem.W PyProof.Rows
local macro_rules | `(tactic| o_head $_) => `(tactic| assumption)
theorem hk (h : PySem.Challenge.rw_pm0020_01.row.Holds) : PySem.Challenge.rw_pm0020_01.row.Holds := by k_head
end
section
open PySem PySem.W PyProof.Rows
def vw : Program := { PySem.Challenge.rw_pm0020_01.prog with main := { PySem.Challenge.rw_pm0020_01.prog.main with
  body := (PySem.Challenge.rw_pm0020_01.prog.main.body.drop 1).take 5 ++ ((PySem.Challenge.rw_pm0020_01.prog.main.body.drop 7).take 1 ++ PySem.Challenge.rw_pm0020_01.prog.main.body.drop 9) } }
end
section
open PySem PySem.W PySem.Calls PyProof.Rows

abbrev PR : Program := PySem.Challenge.rw_pm0020_01.row.prog

structure Rm (A : Around) (d : Nat) : Prop where
  hh : A.handled = none
  dep : A.depth + d < 1000
  un : A.units + 10 * d < 9900

theorem Rm.le {A : Around} {d d' : Nat} (r : Rm A d) (h : d' ≤ d) : Rm A d' := ⟨r.hh, by have := r.dep; lia, by have := r.un; lia⟩
theorem Rm.room {A : Around} {d : Nat} (r : Rm A d) : A.depth < recursionLimit := by have := r.dep; unfold recursionLimit; lia
theorem Rm.units {A : Around} {d : Nat} (r : Rm A d) : A.units < cLine := by have := r.un; unfold cLine; lia
theorem Rm.deeper {A : Around} {d : Nat} {env : Env} (r : Rm A (d + 1)) : Rm (A.deeper env) d := ⟨r.hh, by have := r.dep; show A.depth + 1 + d < 1000; lia, by have := r.un; show A.units + 3 + 10 * d < 9900; lia⟩
theorem Rm.in1 {A : Around} {d : Nat} (r : Rm A (d + 1)) : Rm A.in1 d := ⟨r.hh, by have := r.dep; show A.depth + d < 1000; lia, by have := r.un; show A.units + 1 + 10 * d < 9900; lia⟩

/-- the protected part holds the text's own objects -/
structure Gd (w : World) (P : Heap) : Prop where
  X : (hk.heap_1 w.params).In P
  T : ∃ p loose mean mg mb, Top p loose mean mg mb P
  C : CodeHd P 76 72
theorem Gd.keeps {w : World} {P P' : Heap} (G : Gd w P) (k : ∀ b o, P.get? b = some o → P'.get? b = some o) : Gd w P' := by
  obtain ⟨X, ⟨p, l, me, mg, mb, T⟩, C⟩ := G
  exact ⟨X.keeps k, ⟨p, l, me, mg, mb, T.keeps k⟩, C.keeps k⟩

def Led (P h : Heap) (H : List (Addr × Obj)) : Prop := ∀ p ∈ H, h.get? p.1 = some p.2 ∧ P.get? p.1 = none

abbrev Post := Value → List (Addr × Obj) → Prop

/-- all but the heap and the toks is as it was -/
def Like (s s' : Shared) : Prop := s'.gens = s.gens ∧ s'.drawn = s.drawn ∧ s'.os = s.os
theorem Like.rfl' {s : Shared} : Like s s := ⟨rfl, rfl, rfl⟩
theorem Like.trans {a b c : Shared} (x : Like a b) (y : Like b c) : Like a c := ⟨y.1.trans x.1, y.2.1.trans x.2.1, y.2.2.trans x.2.2⟩
theorem Like.to {s s₁ : Shared} (x : Like s s₁) {h : Heap} {tk : Nat} : Like s { heap := h, gens := s₁.gens, drawn := s₁.drawn, toks := tk, os := s₁.os } := x
theorem Like.mk' {s : Shared} {h : Heap} {tk : Nat} : Like s { heap := h, gens := s.gens, drawn := s.drawn, toks := tk, os := s.os } := ⟨rfl, rfl, rfl⟩

def Out (P : Heap) (s : Shared) (Q : Post) (r : Result) (s' : Shared) : Prop :=
  ∃ v H', r = .ok (.ret v) ∧ Like s s' ∧ (∀ b o, P.get? b = some o → s'.heap.get? b = some o) ∧ Led P s'.heap H' ∧ Q v H'

/-- what a call does, from any place -/
def Spec (w : World) (d : Nat) (f : Value) (args : List Value) (H : List (Addr × Obj)) (Q : Post) : Prop :=
  ∀ A P s, Rm A d → Gd w P → (∀ b o, P.get? b = some o → s.heap.get? b = some o) → P.objs.size ≤ s.heap.objs.size → Led P s.heap H →
    codeAny (model PR w) A (.call f ⟨args, []⟩) (Out P s Q) s

theorem Spec.mono {w : World} {d d' : Nat} {f : Value} {args : List Value} {H : List (Addr × Obj)} {Q Q' : Post} (S : Spec w d f args H Q) (hd : d ≤ d') (h : ∀ v H', Q v H' → Q' v H') : Spec w d' f args H Q' :=
  fun A P s r G k hs L => codeAny_mono (S A P s (r.le hd) G k hs L) fun _ _ ⟨v, H', a, b, c, d, e⟩ => ⟨v, H', a, b, c, d, h _ _ e⟩

structure Bx (p : Prop) : Prop where
  out : p

/-- the end of a body -/
def Ret (P : Heap) (L : Addr) (s : Shared) (Q : Post) (v : Value) (s' : Shared) : Prop :=
  ∃ m' H', Like s s' ∧ Fr P L s'.heap m' ∧ News P L s'.heap H' ∧ Q v H'

theorem Ret.intro {P : Heap} {L : Addr} {s s' : Shared} {Q : Post} {v : Value} {m' : Str → Option Value} {H' : List (Addr × Obj)} (k : Like s s') (F : Fr P L s'.heap m') (N : News P L s'.heap H') (q : Bx (Q v H')) :
    Ret P L s Q v s' := ⟨m', H', k, F, N, q.out⟩

/-- a way to go on that is known by one that it follows from -/
def Imp2 (R K : Flow → Shared → Prop) : Prop := ∀ f s', R f s' → K f s'
theorem Imp2.go {R K : Flow → Shared → Prop} {f : Flow} {s' : Shared} (h : Imp2 R K) (x : R f s') : K f s' := h f s' x
/-- entering a def -/
theorem spec_def {w : World} {d : Nat} {H : List (Addr × Obj)} {Q : Post} {name qual : Str} {params : Arguments} {body : List Stmt} {scope : Scope} {dV kV doc pm cdv ct oc : Value} {an od : Option Addr} {osl : Array (Option Value)} {f : Addr} {args : List Value} (binds : List (Str × Value))
    (ho : (hk.heap_1 w.params).lookup f = some ⟨oc, od, .func (fnOf name qual params body scope dV kV doc pm an cdv ct), osl⟩) (hcd : codeIn (hk.heap_1 w.params) cdv qual = true)
    (hbind : bindArgs (fnOf name qual params body scope dV kV doc pm an cdv ct) ⟨args, []⟩ = pure binds) (hloc : ∀ y ∈ binds, scope.names.lookup y.1 = some .local)
    (h : ∀ A P L s s₁ p loose mean mg mb, Rm A d → Gd w P → Like s₁ s → (hk.heap_1 w.params).In P → Top p loose mean mg mb P → Fr P L s.heap (fun y => binds.reverse.lookup y) → News P L s.heap H → ∀ K, Imp2 (fun fl s' => Ret P L s₁ Q (match fl with | .ret v => v | _ => .none) s') K →
      wpAny (model PR w) A (execs body (envOf qual scope L f cdv)) K (fun _ _ => False) s)
    (hco : scope.isCoroutine = false := by rfl) (hgen : scope.isGenerator = false := by rfl) (hk : scope.kind = .function := by rfl)
    (hcell : ∀ x ∈ scope.names, x.2 ≠ .cell := by decide) : Spec w (d + 1) (.ref f) args H Q := by
  intro A P s r G k hs L
  obtain ⟨X, ⟨p, l, me, mg, mb, T⟩, _⟩ := id G
  refine codeAny_call_def (fd := fnOf name qual params body scope dV kV doc pm an cdv ct) (body := body) (binds := binds) r.room (k _ _ (X _ _ ho)) rfl (T.nolimit.keeps k) (codeRec_of (X.keeps k) hcd) rfl (BindsTo.of_eq hbind) hcell hloc (fun h₁ hns hk₁ => ?_) hco hgen hk
  refine wpAny_mono (h (A.deeper (envOf qual scope s.heap.objs.size f cdv)) P s.heap.objs.size { s with heap := h₁, toks := s.toks + binds.length } s p l me mg mb r.deeper G Like.mk' X T ⟨hns, fun b o e => hk₁ b o (k b o e), hs⟩ (fun q hq => ⟨hk₁ _ _ (L q hq).1, Nat.ne_of_lt (Heap.lt_size (L q hq).1), (L q hq).2⟩) _ (fun _ _ x => x)) (fun fl s' hl => ?_) fun _ _ e => e.elim
  obtain ⟨m', H', e, F', N', q⟩ := hl
  exact ⟨_, H', rfl, e, F'.keep, fun q hq => ⟨(N' q hq).1, (N' q hq).2.2⟩, q⟩

/-- a call out of a frame, as code -/
theorem code_spec {w : World} {d : Nat} {A : Around} {P : Heap} {L : Addr} {s z : Shared} {m : Str → Option Value} {f : Value} {args : List Value} {H rest news : List (Addr × Obj)} {Q : Post} {R : Result → Shared → Prop}
    (S : Spec w d f args H Q) (r : Rm A d) (G : Gd w P) (F : Fr P L s.heap m) (N : News P L s.heap news) (hn : ∀ p ∈ H ++ rest, p ∈ news) (hne : ∀ p ∈ rest, ∀ q ∈ H, p.1 ≠ q.1)
    (lz : Like z s) (h : ∀ v H' s', Q v H' → Like z s' → Fr P L s'.heap m → News P L s'.heap (H' ++ rest) → (∀ p ∈ H', ∀ q ∈ rest, p.1 ≠ q.1) → R (.ok (.ret v)) s') :
    codeAny (model PR w) A (.call f ⟨args, []⟩) R s := by
  refine codeAny_mono (S A (hideAll s.heap (H.map (·.1))) s r (G.keeps fun b o e => ?_) (fun b o e => of_hideAll _ e) (Nat.le_of_eq (hideAll_size _ _)) (fun p hp => ⟨(N p (hn p (List.mem_append_left _ hp))).1, hideAll_none _ (List.mem_map_of_mem hp)⟩)) fun r s' o => ?_
  · refine hideAll_get _ (F.keep b o e) fun q => ?_
    obtain ⟨p, hp, rfl⟩ := List.mem_map.mp q
    rw [(N p (hn p (List.mem_append_left _ hp))).2.2] at e; cases e
  · obtain ⟨v, H', rfl, lk, k, L', q⟩ := o
    obtain ⟨oL, es, ep, hL, hLd, hLk, hLf⟩ := F.ns
    have nL : L ∉ H.map (·.1) := fun q => by
      obtain ⟨p, hp, e⟩ := List.mem_map.mp q
      exact (N p (hn p (List.mem_append_left _ hp))).2.1 e
    have nR : ∀ p ∈ rest, p.1 ∉ H.map (·.1) := fun p hp q => by
      obtain ⟨p', hp', e⟩ := List.mem_map.mp q
      exact hne p hp p' hp' e.symm
    have hLg := hideAll_get (H.map (·.1)) hL nL
    have st : ∀ b o, P.get? b = some o → (hideAll s.heap (H.map (·.1))).get? b = some o := fun b o e => by
      refine hideAll_get _ (F.keep b o e) fun q => ?_
      obtain ⟨p, hp, rfl⟩ := List.mem_map.mp q
      rw [(N p (hn p (List.mem_append_left _ hp))).2.2] at e; cases e
    refine h v H' s' q (lz.trans lk) ⟨⟨oL, es, ep, k L oL hLg, hLd, hLk, hLf⟩, fun b o e => k b o (st b o e), F.above⟩ (fun p hp => ?_) fun p hp q hq e => ?_
    · rcases List.mem_append.mp hp with hp | hp
      · refine ⟨(L' p hp).1, fun q => ?_, ?_⟩
        · have := (L' p hp).2; rw [q, hLg] at this; cases this
        · cases q : P.get? p.1 with
          | none => rfl
          | some o => have := (L' p hp).2; rw [st _ _ q] at this; cases this
      · have n := N p (hn p (List.mem_append_right _ hp))
        exact ⟨k _ _ (hideAll_get _ n.1 (nR p hp)), n.2⟩
    · have := (L' p hp).2
      rw [e, hideAll_get _ (N q (hn q (List.mem_append_right _ hq))).1 (nR q hq)] at this; cases this

/-- a call out of a frame -/
theorem call_spec {w : World} {d : Nat} {A : Around} {P : Heap} {L : Addr} {s z : Shared} {m : Str → Option Value} {f : Value} {args : List Value} {H rest news : List (Addr × Obj)} {Q : Post} {Qv : Value → Shared → Prop} {E : Value → Shared → Prop}
    (S : Spec w d f args H Q) (r : Rm A d) (G : Gd w P) (F : Fr P L s.heap m) (N : News P L s.heap news) (hn : ∀ p ∈ H ++ rest, p ∈ news) (hne : ∀ p ∈ rest, ∀ q ∈ H, p.1 ≠ q.1)
    (lz : Like z s) (h : ∀ v H' s', Q v H' → Like z s' → Fr P L s'.heap m → News P L s'.heap (H' ++ rest) → (∀ p ∈ H', ∀ q ∈ rest, p.1 ≠ q.1) → Qv v s') :
    wpAny (model PR w) A (call f args) Qv E s :=
  wpAny_call (code_spec S r G F N hn hne lz h)

end
section
open PySem PySem.W PySem.Calls PyProof.Rows
open PySem PySem.W PySem.Calls PyProof.Rows

abbrev NoE : Value → Shared → Prop := fun _ _ => False

/-- the end of a loop's turn -/
def LoopEnd (P : Heap) (L : Addr) (s : Shared) (own : List (Addr × Obj)) (J : (Str → Option Value) → List (Addr × Obj) → Prop) (Q : Flow → Shared → Prop) (f : Flow) (s' : Shared) : Prop :=
  match f with
  | .ret v => Q (.ret v) s'
  | .brk => Q .next s'
  | _ => ∃ m' H', Like s s' ∧ Fr P L s'.heap m' ∧ News P L s'.heap (own ++ H') ∧ (∀ p ∈ H', ∀ q ∈ own, p.1 ≠ q.1) ∧ J m' H'

section
variable {w : World} {A : Around} {P : Heap} {s : Shared} {env : Env} {x : Str} {px : Pos} {body : List Stmt} {Q : Flow → Shared → Prop} {m : Str → Option Value} {H : List (Addr × Obj)}

abbrev LoopQ (w : World) (A : Around) (env : Env) (x : Str) (px : Pos) (body : List Stmt) (Q : Flow → Shared → Prop) (it : Value) (s₂ : Shared) : Prop :=
  codeAny (model PR w) A (.forLoop (.Name x px) it body [] env) (fun r s' => match r with | .ok f => Q f s' | .error e => cameBackBy (model PR w) A env NoE e s') s₂

theorem for_in {iter : Expr} {pos : Pos} (h : wpAny (model PR w) A (eval iter env) (fun xv s₁ => wpAny (model PR w) A (pyIter xv) (LoopQ w A env x px body Q) NoE s₁) NoE s)
    (hs : ∀ x, foldedSetIterable iter env x = pure x := by intro _; rfl) : wpAny (model PR w) A (exec (.For (.Name x px) iter body [] pos) env) Q NoE s :=
  wpAny_For h hs

theorem loop_one {I : Addr} {n : Nat} {Pv : Nat → Value → Prop} {St : Nat → Heap → Prop} (W : Walks PR w A I [I] [I] n Pv St) (hx : env.kindOf x = some .local)
    (hk : env.scope.kind = .function) {s₀ : Shared} (hs₀ : Like s₀ s) (hst : St 0 s.heap) (hI : env.locals < I) (hIP : P.get? I = none) (live : ∀ i h, St i h → ∃ o, h.get? I = some o)
    (F : Fr P env.locals s.heap m) (N : News P env.locals s.heap H) (hH : ∀ p ∈ H, p.1 ≠ I)
    (J : Nat → (Str → Option Value) → List (Addr × Obj) → Prop) (h0 : J 0 m H)
    (turn : ∀ i v m₁ H₁ s₁ io, Like s₀ s₁ → i < n → Pv i v → J i m₁ H₁ → (∀ p ∈ H₁, p.1 ≠ I) → Fr P env.locals s₁.heap (fun y => if y = x then some v else m₁ y) → News P env.locals s₁.heap ((I, io) :: H₁) → ∀ K, Imp2 (LoopEnd P env.locals s₀ [(I, io)] (J (i + 1)) Q) K →
      wpAny (model PR w) A (execs body env) K NoE s₁)
    (done : ∀ m₁ H₁ s₁, Like s₀ s₁ → J n m₁ H₁ → Fr P env.locals s₁.heap m₁ → News P env.locals s₁.heap H₁ → Q .next s₁) :
    LoopQ w A env x px body Q (.ref I) s := by
  refine codeAny_forLoop
    (fun k s' => ∃ m' H' i, Like s₀ s' ∧ St i s'.heap ∧ Fr P env.locals s'.heap m' ∧ News P env.locals s'.heap H' ∧ (∀ p ∈ H', p.1 ≠ I) ∧ J i m' H' ∧ i ≤ n ∧ k = n + 1 - i) ?_ (n + 1)
    ⟨m, H, 0, hs₀, hst, F, N, hH, h0, Nat.zero_le _, rfl⟩
  rintro k s' ⟨m', H', i, lk, hst', F', N', hne', hJ, hi, rfl⟩
  have hp : (env.scope.kind == .class || (env.scope.kind == .module && env.locals != env.globals)) = false := by rw [hk]; rfl
  have next : ∀ h₁ : Heap, (∀ b o, b ∉ [I] → s'.heap.get? b = some o → h₁.get? b = some o) → Fr P env.locals h₁ m' ∧ News P env.locals h₁ H' := fun h₁ hk₁ =>
    ⟨⟨F'.ns.at' fun o e => hk₁ _ o (by simpa using Nat.ne_of_lt hI) e, fun b o e => hk₁ b o (by intro q; simp at q; rw [q, hIP] at e; cases e) (F'.keep b o e), F'.above⟩, fun p hp => ⟨hk₁ _ _ (by simp; exact hne' p hp) (N' p hp).1, (N' p hp).2⟩⟩
  by_cases hlt : i < n
  · refine W.item i _ _ _ hlt hst' fun v h₁ tk₁ hP hst₁ hk₁ => ?_
    obtain ⟨F₁, N₁⟩ := next h₁ hk₁
    refine wpAny_assign_Name (wpAny_storeName_local hx F₁.ns (fun h₂ hn₂ hs₂ => ?_) hp)
    have F₂ := F₁.set hn₂ hs₂
    have N₂ := N₁.set hs₂
    have hst₂ : St (i + 1) h₂ := W.frame _ _ _ hst₁ fun b hb o e => (hs₂.2 b (by simp at hb; rw [hb]; exact Nat.ne_of_gt hI)).trans e
    obtain ⟨io, hio⟩ := live _ _ hst₂
    · have N₃ : News P env.locals h₂ ((I, io) :: H') := fun p hp => by
        rcases List.mem_cons.mp hp with rfl | hp
        · exact ⟨hio, Nat.ne_of_gt hI, hIP⟩
        · exact N₂ p hp
      refine wpAny_mono (turn i v m' H' { s' with heap := h₂, toks := tk₁ + 1 } io lk hlt hP hJ hne' F₂ N₃ _ (fun _ _ x => x)) (fun f s₃ h₃ => ?_) fun _ _ e => e.elim
      have fin : ∀ f', (f' = .next ∨ f' = .cont) → LoopEnd P env.locals s₀ [(I, io)] (J (i + 1)) Q f' s₃ → ∃ m, m < n + 1 - i ∧ ∃ m' H' i, Like s₀ s₃ ∧ St i s₃.heap ∧ Fr P env.locals s₃.heap m' ∧ News P env.locals s₃.heap H' ∧ (∀ p ∈ H', p.1 ≠ I) ∧ J i m' H' ∧ i ≤ n ∧ m = n + 1 - i := by
        rintro f' hf' he
        have he : ∃ m' H', Like s₀ s₃ ∧ Fr P env.locals s₃.heap m' ∧ News P env.locals s₃.heap ([(I, io)] ++ H') ∧ (∀ p ∈ H', ∀ q ∈ [(I, io)], p.1 ≠ q.1) ∧ J (i + 1) m' H' := by
          rcases hf' with rfl | rfl <;> exact he
        obtain ⟨m₃, H₃, lk₃, F₃, N₃', ha₃, hJ₃⟩ := he
        have hI₃ := (N₃' (I, io) (by simp)).1
        refine ⟨n + 1 - (i + 1), by lia, m₃, H₃, i + 1, lk₃, ?_, F₃, fun p hp => N₃' p (by simp [hp]), fun p hp => ha₃ p hp (I, io) (by simp), hJ₃, hlt, rfl⟩
        refine W.frame _ _ _ hst₂ fun b hb o e => ?_
        simp at hb
        subst hb
        rw [hio] at e; cases e; exact hI₃
      cases f with
      | ret v => exact h₃
      | brk => exact h₃
      | cont => exact fin _ (.inr rfl) h₃
      | next => exact fin _ (.inl rfl) h₃
  · have hin : i = n := by lia
    subst hin
    refine W.done _ _ _ hst' fun h₁ tk₁ hk₁ => wpAny_execs_nil ?_
    obtain ⟨F₁, N₁⟩ := next h₁ hk₁
    exact done m' H' { s' with heap := h₁, toks := tk₁ } lk hJ F₁ N₁
end
end
section
open PySem PySem.W PySem.Calls PyProof.Rows
open PySem PySem.W PySem.Calls PyProof.Rows
open PySem PySem.W PySem.Calls PyProof.Rows
section
variable {w : World} {A : Around} {P : Heap} {s : Shared} {env : Env} {x : Str} {px : Pos} {body : List Stmt} {Q : Flow → Shared → Prop} {m : Str → Option Value} {H : List (Addr × Obj)}

theorem Led.ne_size {P h : Heap} {L : Addr} {H : List (Addr × Obj)} (N : News P L h H) : ∀ p ∈ H, p.1 ≠ h.objs.size := fun p hp => Nat.ne_of_lt (Heap.lt_size (N p hp).1)
theorem Fr.size_none {P h : Heap} {L : Addr} {m : Str → Option Value} (F : Fr P L h m) : P.get? h.objs.size = none := by
  cases q : P.get? h.objs.size with
  | none => rfl
  | some o => exact absurd (Heap.lt_size (F.keep _ _ q)) (Nat.lt_irrefl _)

theorem News.push' {P h : Heap} {L : Addr} {H : List (Addr × Obj)} (N : News P L h H) (o : Obj) : News P L (h.push o) H := fun p hp => ⟨Heap.get?_push_of_some _ (N p hp).1, (N p hp).2⟩

/-- a range's turns: from a, by ones, n of them -/
theorem loop_range {E : Value → Shared → Prop} {r : Addr} {a b : Int} {t u v : Tok} {n : Nat} (hr : IsRange s.heap r a b 1 t u v) (hh : A.handled = none) (hx : env.kindOf x = some .local) (hk : env.scope.kind = .function)
    {s₀ : Shared} (hs₀ : Like s₀ s) (ha : -(2 ^ 62) ≤ a) (ha' : a < 2 ^ 62) (hb : -(2 ^ 62) ≤ b) (hb' : b < 2 ^ 62) (hn : (b - a).toNat = n)
    (F : Fr P env.locals s.heap m) (N : News P env.locals s.heap H) (J : Nat → (Str → Option Value) → List (Addr × Obj) → Prop) (h0 : J 0 m H)
    (turn : ∀ i tv m₁ H₁ s₁ I io, Like s₀ s₁ → i < n → J i m₁ H₁ → (∀ p ∈ H₁, p.1 ≠ I) → Fr P env.locals s₁.heap (fun y => if y = x then some (.int (a + i) tv) else m₁ y) → News P env.locals s₁.heap ((I, io) :: H₁) → ∀ K, Imp2 (LoopEnd P env.locals s₀ [(I, io)] (J (i + 1)) Q) K →
      wpAny (model PR w) A (execs body env) K NoE s₁)
    (done : ∀ m₁ H₁ s₁, Like s₀ s₁ → J n m₁ H₁ → Fr P env.locals s₁.heap m₁ → News P env.locals s₁.heap H₁ → Q .next s₁) :
    wpAny (model PR w) A (pyIter (.ref r)) (LoopQ w A env x px body Q) E s := by
  refine wpAny_pyIter_range hr (small_one ha ha' hb hb') ?_
  have hsz : Builtin.Range.rangeSize a b 1 = (n : Int) := by rw [rangeSize_nat, hn]
  refine loop_one (Walks.range hh s.heap.objs.size a 1 n) hx hk (s₀ := s₀) hs₀ ?_ F.ns.lt (Fr.size_none F) (fun _ _ e => ⟨_, e⟩) (F.push _) (News.push' N _) (Led.ne_size N) J h0 ?_ done
  · show IsRangeIter _ _ _ _ _
    rw [hsz]; simpa using Heap.get?_push_size _ rfl
  · rintro i v m₁ H₁ s₁ io lk hi ⟨tv, rfl⟩ hJ hne F' N' K hK
    have e : a + (i : Int) * 1 = a + i := by lia
    rw [e] at F'
    exact turn i tv m₁ H₁ s₁ _ io lk hi hJ hne F' N' K hK

/-- a text's turns -/
theorem loop_str {E : Value → Shared → Prop} {y : Str} {t : Tok} (hh : A.handled = none) (hx : env.kindOf x = some .local) (hk : env.scope.kind = .function) {s₀ : Shared} (hs₀ : Like s₀ s)
    (F : Fr P env.locals s.heap m) (N : News P env.locals s.heap H) (J : Nat → (Str → Option Value) → List (Addr × Obj) → Prop) (h0 : J 0 m H)
    (turn : ∀ i c tv m₁ H₁ s₁ I io, Like s₀ s₁ → y.cps[i]? = some c → J i m₁ H₁ → (∀ p ∈ H₁, p.1 ≠ I) → Fr P env.locals s₁.heap (fun z => if z = x then some (.str ⟨#[c]⟩ tv) else m₁ z) → News P env.locals s₁.heap ((I, io) :: H₁) → ∀ K, Imp2 (LoopEnd P env.locals s₀ [(I, io)] (J (i + 1)) Q) K →
      wpAny (model PR w) A (execs body env) K NoE s₁)
    (done : ∀ m₁ H₁ s₁, Like s₀ s₁ → J y.cps.size m₁ H₁ → Fr P env.locals s₁.heap m₁ → News P env.locals s₁.heap H₁ → Q .next s₁) :
    wpAny (model PR w) A (pyIter (.str y t)) (LoopQ w A env x px body Q) E s := by
  have go : ∀ o (ty : String), (Walks PR w A s.heap.objs.size [s.heap.objs.size] [s.heap.objs.size] y.cps.size (SignAt y) (fun i h => h.IsStrIter s.heap.objs.size ty y t i)) → (s.heap.push o).IsStrIter s.heap.objs.size ty y t 0 →
      LoopQ w A env x px body Q (.ref s.heap.objs.size) { s with heap := s.heap.push o } := by
    intro o ty W st
    refine loop_one W hx hk (s₀ := s₀) hs₀ st F.ns.lt (Fr.size_none F) (fun _ _ e => let ⟨o, ho, _⟩ := e; ⟨o, ho⟩) (F.push _) (News.push' N _) (Led.ne_size N) J h0 ?_ done
    rintro i v m₁ H₁ s₁ io lk hi ⟨c, tv, hc, rfl⟩ hJ hne F' N' K hK
    exact turn i c tv m₁ H₁ s₁ _ io lk hc hJ hne F' N' K hK
  cases ha : y.cps.all (· < 128)
  · exact wpAny_pyIter_wide ha (go _ _ (Walks.strWide hh _ y t) ⟨_, Heap.get?_push_size _ rfl, rfl, rfl⟩)
  · exact wpAny_pyIter_ascii ha (go _ _ (Walks.strAscii hh _ y t) ⟨_, Heap.get?_push_size _ rfl, rfl, rfl⟩)

/-- the end of a while's turn -/
def WhileEnd (P : Heap) (L : Addr) (s : Shared) (J : Nat → (Str → Option Value) → List (Addr × Obj) → Prop) (n : Nat) (Q : Flow → Shared → Prop) (f : Flow) (s' : Shared) : Prop :=
  match f with
  | .ret v => Q (.ret v) s'
  | .brk => Q .next s'
  | _ => ∃ m' H' n', Like s s' ∧ Fr P L s'.heap m' ∧ News P L s'.heap H' ∧ n' < n ∧ J n' m' H'

theorem while_in {L : Addr} {test : Expr} {pos : Pos} {s₀ : Shared} (hs₀ : Like s₀ s) (J : Nat → (Str → Option Value) → List (Addr × Obj) → Prop) (n₀ : Nat)
    (F : Fr P L s.heap m) (N : News P L s.heap H) (hJ : J n₀ m H)
    (turn : ∀ n m₁ H₁ s₁, Like s₀ s₁ → Fr P L s₁.heap m₁ → News P L s₁.heap H₁ → J n m₁ H₁ → ∀ K, Imp2 (WhileEnd P L s₀ J n Q) K →
      wpAny (model PR w) A (isTrue test env (eval test env)) (fun b s₂ =>
        if b then wpAny (model PR w) A (execs body env) K NoE s₂ else Q .next s₂) NoE s₁) :
    wpAny (model PR w) A (exec (.While test body [] pos) env) Q NoE s := by
  refine wpAny_While (codeAny_whileLoop (fun n s' => ∃ m₁ H₁, Like s₀ s' ∧ Fr P L s'.heap m₁ ∧ News P L s'.heap H₁ ∧ J n m₁ H₁) ?_ n₀ ⟨m, H, hs₀, F, N, hJ⟩)
  rintro n s' ⟨m₁, H₁, lk, F₁, N₁, J₁⟩
  refine wpAny_mono (turn n m₁ H₁ s' lk F₁ N₁ J₁ _ (fun _ _ x => x)) (fun b s₂ h₂ => ?_) fun _ _ e => e.elim
  cases b with
  | false =>
    simp only [Bool.false_eq_true, if_false] at h₂ ⊢
    exact wpAny_execs_nil h₂
  | true =>
    simp only [if_true] at h₂ ⊢
    refine wpAny_mono h₂ (fun f s₃ h₃ => ?_) fun _ _ e => e.elim
    cases f with
    | ret v => exact h₃
    | brk => exact h₃
    | next => obtain ⟨m₂, H₂, n', lk, F₂, N₂, hn, J₂⟩ := h₃; exact ⟨n', hn, m₂, H₂, lk, F₂, N₂, J₂⟩
    | cont => obtain ⟨m₂, H₂, n', lk, F₂, N₂, hn, J₂⟩ := h₃; exact ⟨n', hn, m₂, H₂, lk, F₂, N₂, J₂⟩
end
end
section
open PySem PySem.W PySem.Calls PyProof.Rows
open PySem PySem.W PySem.Calls PyProof.Rows
open PySem PySem.W PySem.Calls PyProof.Rows
open PySem PySem.W PySem.Calls PyProof.Rows

structure Halt (p : Prop) : Prop where
  go : p
theorem halt {p : Prop} (h : Halt p) : p := h.go

/-- a part of a ledger -/
def Sub (A B : List (Addr × Obj)) : Prop := ∀ p ∈ A, p ∈ B
theorem Sub.rfl' {A : List (Addr × Obj)} : Sub A A := fun _ h => h
theorem Sub.nil {A : List (Addr × Obj)} : Sub [] A := fun _ h => nomatch h
theorem Sub.tail {p : Addr × Obj} {A B : List (Addr × Obj)} (h : Sub A B) : Sub A (p :: B) := fun q hq => List.mem_cons_of_mem _ (h q hq)
theorem Sub.cons {p : Addr × Obj} {A B : List (Addr × Obj)} (h : Sub A B) : Sub (p :: A) (p :: B) := fun q hq => by
  rcases List.mem_cons.mp hq with rfl | hq
  · exact List.mem_cons_self
  · exact List.mem_cons_of_mem _ (h q hq)
theorem subN {P h : Heap} {L : Addr} {A B : List (Addr × Obj)} (N : News P L h B) (s : Sub A B) : News P L h A := fun p hp => N p (s p hp)

def Fin (P : Heap) (L : Addr) (s : Shared) (J : (Str → Option Value) → List (Addr × Obj) → Prop) (s' : Shared) : Prop :=
  ∃ m' H', Like s s' ∧ Fr P L s'.heap m' ∧ News P L s'.heap H' ∧ J m' H'

def CutQ (P : Heap) (L : Addr) (s : Shared) (J : (Str → Option Value) → List (Addr × Obj) → Prop) (Q : Flow → Shared → Prop) (f : Flow) (s' : Shared) : Prop :=
  match f with
  | .next => Fin P L s J s'
  | f => Q f s'

section
variable {w : World} {A : Around} {P : Heap} {L : Addr} {s s' : Shared} {env : Env} {Q : Flow → Shared → Prop} {m : Str → Option Value} {H : List (Addr × Obj)} {J : (Str → Option Value) → List (Addr × Obj) → Prop}

theorem CutQ.next (k : Like s s') (F : Fr P L s'.heap m) (N : News P L s'.heap H) (j : Bx (∃ H₂, Sub H₂ H ∧ J m H₂)) : CutQ P L s J Q .next s' := by
  obtain ⟨H₂, a, b⟩ := j.out; exact ⟨m, H₂, k, F, subN N a, b⟩
theorem CutQ.ret {v : Value} (h : Q (.ret v) s') : CutQ P L s J Q (.ret v) s' := h

theorem cut {st : Stmt} {rest : List Stmt} (P : Heap) (L : Addr) {s₀ : Shared} (hs₀ : Like s₀ s) (J : (Str → Option Value) → List (Addr × Obj) → Prop) (h1 : ∀ K, Imp2 (CutQ P L s₀ J Q) K → wpAny (model PR w) A (exec st env) K NoE s)
    (h2 : ∀ s' m' H', Like s₀ s' → J m' H' → Fr P L s'.heap m' → News P L s'.heap H' → wpAny (model PR w) A (execs rest env) Q NoE s') :
    wpAny (model PR w) A (execs (st :: rest) env) Q NoE s := by
  refine wpAny_execs_cons (wpAny_mono (h1 _ fun _ _ x => x) (fun f s' h => ?_) fun _ _ e => e)
  cases f with
  | next => obtain ⟨m', H', lk, F, N, j⟩ := h; exact h2 s' m' H' lk j F N
  | brk => exact h
  | cont => exact h
  | ret v => exact h

theorem LoopEnd.ret {own : List (Addr × Obj)} {v : Value} (h : Q (.ret v) s') : LoopEnd P L s own J Q (.ret v) s' := h
theorem WhileEnd.ret {J : Nat → (Str → Option Value) → List (Addr × Obj) → Prop} {n : Nat} {v : Value} (h : Q (.ret v) s') : WhileEnd P L s J n Q (.ret v) s' := h
theorem LoopEnd.next1 {own : Addr × Obj} (k : Like s s') (F : Fr P L s'.heap m) (N : News P L s'.heap H) (j : Bx (∃ H₂, Sub (own :: H₂) H ∧ (∀ p ∈ H₂, p.1 ≠ own.1) ∧ J m H₂)) : LoopEnd P L s [own] J Q .next s' := by
  obtain ⟨H₂, a, b, c⟩ := j.out
  exact ⟨m, H₂, k, F, subN N a, fun p hp q hq => by rw [List.mem_singleton.mp hq]; exact b p hp, c⟩
theorem LoopEnd.cont1 {own : Addr × Obj} (k : Like s s') (F : Fr P L s'.heap m) (N : News P L s'.heap H) (j : Bx (∃ H₂, Sub (own :: H₂) H ∧ (∀ p ∈ H₂, p.1 ≠ own.1) ∧ J m H₂)) : LoopEnd P L s [own] J Q .cont s' := by
  obtain ⟨H₂, a, b, c⟩ := j.out
  exact ⟨m, H₂, k, F, subN N a, fun p hp q hq => by rw [List.mem_singleton.mp hq]; exact b p hp, c⟩
theorem WhileEnd.next' {J : Nat → (Str → Option Value) → List (Addr × Obj) → Prop} {n : Nat} (k : Like s s') (F : Fr P L s'.heap m) (N : News P L s'.heap H) (j : Bx (∃ n', n' < n ∧ J n' m H)) : WhileEnd P L s J n Q .next s' := by
  obtain ⟨n', a, b⟩ := j.out; exact ⟨m, H, n', k, F, N, a, b⟩
end
end
section
open PySem PySem.W PySem.Calls PyProof.Rows

/-- a text by its signs' numbers -/
abbrev S (l : List Nat) : PySem.Str := ⟨l.toArray⟩

theorem S_len (l : List Nat) : (S l).length = l.length := by simp [PySem.Str.length]
theorem S_inj {a b : List Nat} : S a = S b ↔ a = b := by
  constructor
  · intro h; have := congrArg (fun s : PySem.Str => s.cps.toList) h; simpa using this
  · rintro rfl; rfl
theorem S_beq (a b : List Nat) : (S a == S b) = decide (a = b) := by
  by_cases h : a = b
  · subst h; simp
  · have : S a ≠ S b := fun q => h (S_inj.mp q)
    rw [beq_eq_false_iff_ne.mpr this]; simp [h]
theorem S_append (a b : List Nat) : S a ++ S b = S (a ++ b) := by
  show PySem.Str.append (S a) (S b) = _
  simp [PySem.Str.append, S]
theorem S_of (x : PySem.Str) : x = S x.cps.toList := by cases x; simp [S]

def cl (v : Option Int) (d n : Nat) : Nat := match v with
  | none => d
  | some i => (max 0 (min (if i < 0 then i + n else i) n)).toNat

theorem filterMap_range (l : List Nat) (a c : Nat) (h : a + c ≤ l.length) : ((List.range c).map fun k => a + k).filterMap (fun k => l[k]?) = (l.drop a).take c := by
  induction c with
  | zero => simp
  | succ c ih =>
    rw [List.range_succ, List.map_append, List.filterMap_append, ih (by lia)]
    have h1 : a + c < l.length := by lia
    simp only [List.map_cons, List.map_nil, List.filterMap_cons, List.filterMap_nil, List.getElem?_eq_getElem h1]
    rw [List.take_add_one]
    congr 1
    simp [List.getElem?_drop, List.getElem?_eq_getElem h1]

theorem range_1 (a b : Nat) : PySem.sliceRange (a : Int) (b : Int) 1 = (List.range (b - a)).map fun k => a + k := by
  unfold PySem.sliceRange
  have e : (if (a : Int) < b then ((b : Int) - a + 1 - 1) / 1 else 0).toNat = b - a := by
    rw [Int.ediv_one, Int.add_sub_cancel]
    split
    · rw [Int.toNat_sub]
    · rename_i h
      rw [Nat.sub_eq_zero_of_le (Int.ofNat_le.mp (Int.not_lt.mp h))]
      rfl
  simp only [show (1 : Int) > 0 by decide, if_true, e, Int.one_mul]
  rfl
theorem clip_1 (v : Option Int) (d n : Nat) : (match v with | none => (d : Int) | some i => max 0 (min (if i < 0 then i + n else i) n)) = (cl v d n : Int) := by
  cases v with
  | none => rfl
  | some i => exact (Int.toNat_of_nonneg (Int.le_max_left _ _)).symm
theorem sliceIdx (l : List Nat) (lo hi : Option Int) : (PySem.Builtin.Str.strSliceIndices lo hi 1 l.length) = (List.range (cl hi l.length l.length - cl lo 0 l.length)).map fun k => cl lo 0 l.length + k := by
  rw [← range_1, ← clip_1, ← clip_1]
  rfl

theorem slice_S (l : List Nat) (lo hi : Option Int) : Txt.slice (S l) lo hi = S ((l.drop (cl lo 0 l.length)).take (cl hi l.length l.length - cl lo 0 l.length)) := by
  unfold Txt.slice
  rw [S_len, sliceIdx]
  have hb : cl hi l.length l.length ≤ l.length := by unfold cl; cases hi <;> simp <;> lia
  have ha : cl lo 0 l.length ≤ l.length := by unfold cl; cases lo <;> simp <;> lia
  generalize hA : cl lo 0 l.length = a at *
  generalize hB : cl hi l.length l.length = b at *
  have f : ((List.range (b - a)).map fun k => a + k).filterMap (fun k => l.toArray[k]?) = (l.drop a).take (b - a) := by
    rw [← filterMap_range l a (b - a) (by lia)]
    simp
  split
  · rename_i q
    simp at q
    have h0 : a = 0 := by lia
    have h1 : b = l.length := by lia
    subst h0 h1
    simp
  · exact congrArg S f

theorem cl_nat (k d n : Nat) : cl (some (k : Int)) d n = min k n := by
  unfold cl
  dsimp only
  rw [if_neg (Int.not_lt.mpr (Int.natCast_nonneg k))]
  lia
theorem cl_neg (k d n : Nat) (hk : 0 < k) : cl (some (-(k : Int))) d n = n - k := by
  unfold cl
  dsimp only
  rw [if_pos (by lia)]
  lia
theorem slice_from (l : List Nat) (k : Nat) : Txt.slice (S l) (some (k : Int)) none = S (l.drop k) := by
  rw [slice_S, cl_nat]
  congr 1
  show List.take (l.length - _) (List.drop _ l) = _
  rcases Nat.le_total k l.length with h | h
  · rw [Nat.min_eq_left h, List.take_of_length_le (by rw [List.length_drop]; exact Nat.le_refl _)]
  · rw [Nat.min_eq_right h, List.drop_length, List.drop_of_length_le h, List.take_nil]

theorem take_min (l : List Nat) (k : Nat) : l.take (min k l.length) = l.take k := by
  rcases Nat.le_total k l.length with h | h
  · rw [Nat.min_eq_left h]
  · rw [Nat.min_eq_right h, List.take_length, List.take_of_length_le h]
theorem slice_to (l : List Nat) (k : Nat) : Txt.slice (S l) none (some (k : Int)) = S (l.take k) := by
  rw [slice_S, cl_nat]
  show S (List.take (_ - 0) (List.drop 0 l)) = _
  rw [Nat.sub_zero, List.drop_zero, take_min]

theorem slice_to_neg (l : List Nat) (k : Nat) (hk : 0 < k) : Txt.slice (S l) none (some (-(k : Int))) = S (l.take (l.length - k)) := by
  rw [slice_S, cl_neg _ _ _ hk]
  show S (List.take (_ - 0) (List.drop 0 l)) = _
  rw [Nat.sub_zero, List.drop_zero]



theorem item_S (l : List Nat) (k : Nat) (h : k < l.length) : Txt.item (S l) (k : Int) = S [l[k]] := by
  unfold Txt.item Txt.charAt PySem.seqIndex?
  rw [S_len]
  have h1 : ¬ ((k : Int) < 0) := by lia
  simp [h1, h]

theorem item_S_neg (l : List Nat) (k : Nat) (h0 : 0 < k) (h : k ≤ l.length) : Txt.item (S l) (-(k : Int)) = S [l[l.length - k]'(by lia)] := by
  unfold Txt.item Txt.charAt PySem.seqIndex?
  rw [S_len]
  have h1 : ((-(k : Int)) < 0) := by lia
  have h2 : (0 ≤ -(k : Int) + l.length) := by lia
  have h3 : (-(k : Int) + l.length).toNat = l.length - k := by lia
  have h4 : l.length - k < l.length := by lia
  simp only [if_pos h1, h3]
  have h5 : (decide (0 ≤ -(k : Int) + l.length) && decide (-(k : Int) + l.length < l.length)) = true := by simp; lia
  rw [if_pos h5]
  simp [h4]
end
section
open PySem PySem.W PySem.Calls PyProof.Rows
open PySem PySem.W PySem.Calls PyProof.Rows

structure HaltIf : Prop where

theorem ite_ways {c : Prop} [Decidable c] {a b : Prop} (h1 : c → a) (h2 : ¬ c → b) : if c then a else b := by by_cases h : c <;> simp [h, h1, h2]

def lcp : List Nat → List Nat → Nat
  | x :: xs, y :: ys => if x = y then lcp xs ys + 1 else 0
  | _, _ => 0

theorem lcp_nil_left (b : List Nat) : lcp [] b = 0 := by cases b <;> rfl
theorem lcp_nil_right (a : List Nat) : lcp a [] = 0 := by cases a <;> rfl
theorem lcp_drop : ∀ (k : Nat) (a b : List Nat), a.take k = b.take k → k ≤ a.length → k ≤ b.length → lcp a b = k + lcp (a.drop k) (b.drop k)
  | 0, a, b, _, _, _ => by simp
  | k + 1, [], b, _, h, _ => by simp at h
  | k + 1, a, [], _, _, h => by simp at h
  | k + 1, x :: xs, y :: ys, h, ha, hb => by
    simp only [List.take_succ_cons, List.cons.injEq] at h
    obtain ⟨rfl, h⟩ := h
    have := lcp_drop k xs ys h (by simpa using ha) (by simpa using hb)
    simp only [lcp, if_true, List.drop_succ_cons]
    lia

theorem drop_cons {l : List Nat} {k : Nat} (h : k < l.length) : l.drop k = l[k] :: l.drop (k + 1) := List.drop_eq_getElem_cons h





theorem lcp_end {a b : List Nat} {k : Nat} (h : a.take k = b.take k) (ha : k ≤ a.length) (hb : k ≤ b.length) (e : a.length ≤ k ∨ b.length ≤ k ∨ ∃ (h1 : k < a.length) (h2 : k < b.length), a[k] ≠ b[k]) : lcp a b = k := by
  rw [lcp_drop k a b h ha hb]
  rcases e with e | e | ⟨h1, h2, e⟩
  · rw [List.drop_of_length_le e, lcp_nil_left]; rfl
  · rw [List.drop_of_length_le e, lcp_nil_right]; rfl
  · rw [drop_cons h1, drop_cons h2]; simp [lcp, e]

theorem take_one_more {a b : List Nat} {k : Nat} (h : a.take k = b.take k) (h1 : k < a.length) (h2 : k < b.length) (e : a[k] = b[k]) : a.take (k + 1) = b.take (k + 1) := by
  rw [List.take_add_one, List.take_add_one, h, List.getElem?_eq_getElem h1, List.getElem?_eq_getElem h2, e]

theorem slice_all (l : List Nat) : Txt.slice (S l) none none = S l := by
  rw [slice_S]; simp [cl]




end
section
open PySem PySem.W PySem.Calls PyProof.Rows
open PySem PySem.W PySem.Calls PyProof.Rows
open PySem PySem.W PySem.Calls PyProof.Rows
section
variable {w : World} {A : Around} {E : Value → Shared → Prop} {s : Shared} {value slice : PySem.Expr} {l : List Nat} {t : Tok} {P : Heap} {L : Addr} {m : Str → Option Value} {H : List (Addr × Obj)} {Q : Value → Shared → Prop}

theorem sl_from_eq {i : Int} (h : 0 ≤ i) : Txt.slice (S l) (some i) none = S (l.drop i.toNat) := by
  have := slice_from l i.toNat
  rwa [Int.toNat_of_nonneg h] at this
theorem sl_to_eq {j : Int} (h : 0 ≤ j) : Txt.slice (S l) none (some j) = S (l.take j.toNat) := by
  have := slice_to l j.toNat
  rwa [Int.toNat_of_nonneg h] at this
theorem sl_toneg_eq {j : Int} (h : j < 0) : Txt.slice (S l) none (some j) = S (l.take (l.length + j).toNat) := by
  obtain ⟨k, rfl⟩ := Int.eq_negSucc_of_lt_zero h
  rw [Int.negSucc_eq, ← Int.natCast_succ, slice_to_neg l (k + 1) (Nat.succ_pos _)]
  congr 2
  lia

theorem sl_ij_eq {i j : Int} (h : 0 ≤ i) (hj : 0 ≤ j) : Txt.slice (S l) (some i) (some j) = S ((l.take j.toNat).drop i.toNat) := by
  obtain ⟨a, rfl⟩ := Int.eq_ofNat_of_zero_le h
  obtain ⟨b, rfl⟩ := Int.eq_ofNat_of_zero_le hj
  rw [slice_S, cl_nat, cl_nat, Int.toNat_natCast, Int.toNat_natCast, List.drop_take]
  congr 1
  rcases Nat.le_total a l.length with h1 | h1
  · rw [Nat.min_eq_left h1]
    rcases Nat.le_total b l.length with h2 | h2
    · rw [Nat.min_eq_left h2]
    · rw [Nat.min_eq_right h2, List.take_of_length_le (by rw [List.length_drop]; exact Nat.le_refl _), List.take_of_length_le (by rw [List.length_drop]; exact Nat.sub_le_sub_right h2 a)]
  · rw [Nat.min_eq_right h1, List.drop_length, List.drop_of_length_le h1, List.take_nil, List.take_nil]

theorem S_size {l : List Nat} (hl : l.length ≤ 100000) : (S l).length ≤ sizeLine := by rw [S_len, sizeLine_eq]; lia

theorem sl_nn (hl : l.length ≤ 100000) (hF : Fr P L s.heap m) (hN : News P L s.heap H) (h : ∀ h' t' k, Fr P L h' m → News P L h' H → Q (.str (S l) t') { s with heap := h', toks := k })
    (hs : subscripted slice false (.str (S l) t) (.ref s.heap.objs.size) = operate [.ref s.heap.objs.size, .str (S l) t] (getItem (.str (S l) t) (.ref s.heap.objs.size)) := by with_unfolding_all rfl)
    (ht : ∀ r, letTemporaryGo value (.str (S l) t) r = pure () := by intro _; with_unfolding_all rfl) :
    wpAny (model PR w) A (subscriptTail value slice (.str (S l) t) (.ref s.heap.objs.size)) Q E { s with heap := s.heap.push { cls := .type "slice", data := .fields #[.none, .none, .none] } } :=
  slice_strN_nn hF hN (fun h' t' k F N => by rw [slice_all]; exact h h' t' k F N) hs ht (S_size hl)
theorem sl_from {i : Int} {ui : Tok} (hi : 0 ≤ i) (hl : l.length ≤ 100000) (hF : Fr P L s.heap m) (hN : News P L s.heap H) (h : ∀ h' t' k, Fr P L h' m → News P L h' H → Q (.str (S (l.drop i.toNat)) t') { s with heap := h', toks := k })
    (hs : subscripted slice false (.str (S l) t) (.ref s.heap.objs.size) = operate [.ref s.heap.objs.size, .str (S l) t] (getItem (.str (S l) t) (.ref s.heap.objs.size)) := by with_unfolding_all rfl)
    (ht : ∀ r, letTemporaryGo value (.str (S l) t) r = pure () := by intro _; with_unfolding_all rfl) :
    wpAny (model PR w) A (subscriptTail value slice (.str (S l) t) (.ref s.heap.objs.size)) Q E { s with heap := s.heap.push { cls := .type "slice", data := .fields #[.int i ui, .none, .none] } } :=
  slice_strN_sn hF hN (fun h' t' k F N => by rw [sl_from_eq hi]; exact h h' t' k F N) hs ht (S_size hl)
theorem sl_to {j : Int} {uj : Tok} (hj : 0 ≤ j) (hl : l.length ≤ 100000) (hF : Fr P L s.heap m) (hN : News P L s.heap H) (h : ∀ h' t' k, Fr P L h' m → News P L h' H → Q (.str (S (l.take j.toNat)) t') { s with heap := h', toks := k })
    (hs : subscripted slice false (.str (S l) t) (.ref s.heap.objs.size) = operate [.ref s.heap.objs.size, .str (S l) t] (getItem (.str (S l) t) (.ref s.heap.objs.size)) := by with_unfolding_all rfl)
    (ht : ∀ r, letTemporaryGo value (.str (S l) t) r = pure () := by intro _; with_unfolding_all rfl) :
    wpAny (model PR w) A (subscriptTail value slice (.str (S l) t) (.ref s.heap.objs.size)) Q E { s with heap := s.heap.push { cls := .type "slice", data := .fields #[.none, .int j uj, .none] } } :=
  slice_strN_ns hF hN (fun h' t' k F N => by rw [sl_to_eq hj]; exact h h' t' k F N) hs ht (S_size hl)
theorem sl_toneg {j : Int} {uj : Tok} (hj : j < 0) (hl : l.length ≤ 100000) (hF : Fr P L s.heap m) (hN : News P L s.heap H) (h : ∀ h' t' k, Fr P L h' m → News P L h' H → Q (.str (S (l.take (l.length + j).toNat)) t') { s with heap := h', toks := k })
    (hs : subscripted slice false (.str (S l) t) (.ref s.heap.objs.size) = operate [.ref s.heap.objs.size, .str (S l) t] (getItem (.str (S l) t) (.ref s.heap.objs.size)) := by with_unfolding_all rfl)
    (ht : ∀ r, letTemporaryGo value (.str (S l) t) r = pure () := by intro _; with_unfolding_all rfl) :
    wpAny (model PR w) A (subscriptTail value slice (.str (S l) t) (.ref s.heap.objs.size)) Q E { s with heap := s.heap.push { cls := .type "slice", data := .fields #[.none, .int j uj, .none] } } :=
  slice_strN_ns hF hN (fun h' t' k F N => by rw [sl_toneg_eq hj]; exact h h' t' k F N) hs ht (S_size hl)
theorem sl_ij {i j : Int} {ui uj : Tok} (hi : 0 ≤ i) (hj : 0 ≤ j) (hl : l.length ≤ 100000) (hF : Fr P L s.heap m) (hN : News P L s.heap H) (h : ∀ h' t' k, Fr P L h' m → News P L h' H → Q (.str (S ((l.take j.toNat).drop i.toNat)) t') { s with heap := h', toks := k })
    (hs : subscripted slice false (.str (S l) t) (.ref s.heap.objs.size) = operate [.ref s.heap.objs.size, .str (S l) t] (getItem (.str (S l) t) (.ref s.heap.objs.size)) := by with_unfolding_all rfl)
    (ht : ∀ r, letTemporaryGo value (.str (S l) t) r = pure () := by intro _; with_unfolding_all rfl) :
    wpAny (model PR w) A (subscriptTail value slice (.str (S l) t) (.ref s.heap.objs.size)) Q E { s with heap := s.heap.push { cls := .type "slice", data := .fields #[.int i ui, .int j uj, .none] } } :=
  slice_strN_ss hF hN (fun h' t' k F N => by rw [sl_ij_eq hi hj]; exact h h' t' k F N) hs ht (S_size hl)

theorem getD_at {l : List Nat} {k : Nat} (h : k < l.length) : l.getD k 0 = l[k] := by simp [List.getD, h]

theorem it_nat {i : Int} {u : Tok} (hi : 0 ≤ i) (hi' : i < l.length) (hl : l.length ≤ 100000) (h : Q (.str (S [l.getD i.toNat 0]) s.toks) { s with toks := s.toks + 1 })
    (hs : subscripted slice false (.str (S l) t) (.int i u) = operate [.str (S l) t, .int i u] (getItem (.str (S l) t) (.int i u)) := by with_unfolding_all rfl)
    (ht : ∀ r, letTemporaryGo value (.str (S l) t) r = pure () := by intro _; with_unfolding_all rfl) :
    wpAny (model PR w) A (subscriptTail value slice (.str (S l) t) (.int i u)) Q E s := by
  have e : Txt.item (S l) i = S [l.getD i.toNat 0] := by
    have := item_S l i.toNat (by lia)
    rw [Int.toNat_of_nonneg hi] at this
    rw [this, getD_at]
  have hc : (Txt.charAt (S l) i).isSome = true := by
    unfold Txt.charAt PySem.seqIndex?
    rw [S_len]
    have h1 : ¬ (i < 0) := by lia
    have h2 : i.toNat < l.length := by lia
    simp [h1, hi, hi', h2]
  exact tail_of_ItemOn (SB.item (fitsSsize_of (N := 9223372036854775808) (by lia) (by lia) (Int.le_refl _)) hc (by rw [e]; exact h)) hs ht
theorem it_neg {i : Int} {u : Tok} (hi : i < 0) (hi' : -(l.length : Int) ≤ i) (hl : l.length ≤ 100000) (h : Q (.str (S [l.getD (l.length + i).toNat 0]) s.toks) { s with toks := s.toks + 1 })
    (hs : subscripted slice false (.str (S l) t) (.int i u) = operate [.str (S l) t, .int i u] (getItem (.str (S l) t) (.int i u)) := by with_unfolding_all rfl)
    (ht : ∀ r, letTemporaryGo value (.str (S l) t) r = pure () := by intro _; with_unfolding_all rfl) :
    wpAny (model PR w) A (subscriptTail value slice (.str (S l) t) (.int i u)) Q E s := by
  obtain ⟨k, rfl⟩ : ∃ k : Nat, i = -(k : Int) := ⟨i.natAbs, by lia⟩
  have e : Txt.item (S l) (-(k : Int)) = S [l.getD (l.length + -(k : Int)).toNat 0] := by
    rw [item_S_neg l k (by lia) (by lia)]
    have : (l.length + -(k : Int)).toNat = l.length - k := by lia
    rw [this, getD_at]
  have hc : (Txt.charAt (S l) (-(k : Int))).isSome = true := by
    unfold Txt.charAt PySem.seqIndex?
    rw [S_len]
    have h3 : (-(k : Int) + l.length).toNat = l.length - k := by lia
    have h4 : l.length - k < l.length := by lia
    simp only [if_pos hi, h3]
    have h5 : (decide (0 ≤ -(k : Int) + l.length) && decide (-(k : Int) + l.length < l.length)) = true := by simp; lia
    rw [if_pos h5]
    simp [h4]
  exact tail_of_ItemOn (SB.item (fitsSsize_of (N := 9223372036854775808) (by lia) (by lia) (Int.le_refl _)) hc (by rw [e]; exact h)) hs ht

theorem truthy_S (hl : l.length ≤ 100000) {Q : Bool → Shared → Prop} (h : Q (decide (l ≠ [])) { s with toks := s.toks + 1 + 1 }) : wpAny (model PR w) A (truthy (.str (S l) t)) Q E s := by
  refine PySem.P.truthy_str (by rw [S_len]; lia) ?_
  have e : (((S l).length : Int) != 0) = decide (l ≠ []) := by
    rw [S_len]
    cases l <;> simp
    lia
  rw [e]; exact h
theorem sl_from_nat {i : Nat} {ui : Tok} (hl : l.length ≤ 100000) (hF : Fr P L s.heap m) (hN : News P L s.heap H) (h : ∀ h' t' k, Fr P L h' m → News P L h' H → Q (.str (S (l.drop i)) t') { s with heap := h', toks := k })
    (hs : subscripted slice false (.str (S l) t) (.ref s.heap.objs.size) = operate [.ref s.heap.objs.size, .str (S l) t] (getItem (.str (S l) t) (.ref s.heap.objs.size)) := by with_unfolding_all rfl)
    (ht : ∀ r, letTemporaryGo value (.str (S l) t) r = pure () := by intro _; with_unfolding_all rfl) :
    wpAny (model PR w) A (subscriptTail value slice (.str (S l) t) (.ref s.heap.objs.size)) Q E { s with heap := s.heap.push { cls := .type "slice", data := .fields #[.int (i : Int) ui, .none, .none] } } :=
  sl_from (by lia) hl hF hN (by simpa using h) hs ht
theorem sl_to_nat {j : Nat} {uj : Tok} (hl : l.length ≤ 100000) (hF : Fr P L s.heap m) (hN : News P L s.heap H) (h : ∀ h' t' k, Fr P L h' m → News P L h' H → Q (.str (S (l.take j)) t') { s with heap := h', toks := k })
    (hs : subscripted slice false (.str (S l) t) (.ref s.heap.objs.size) = operate [.ref s.heap.objs.size, .str (S l) t] (getItem (.str (S l) t) (.ref s.heap.objs.size)) := by with_unfolding_all rfl)
    (ht : ∀ r, letTemporaryGo value (.str (S l) t) r = pure () := by intro _; with_unfolding_all rfl) :
    wpAny (model PR w) A (subscriptTail value slice (.str (S l) t) (.ref s.heap.objs.size)) Q E { s with heap := s.heap.push { cls := .type "slice", data := .fields #[.none, .int (j : Int) uj, .none] } } :=
  sl_to (by lia) hl hF hN (by simpa using h) hs ht
theorem sl_toneg_nat {j : Nat} {uj : Tok} (hj : 0 < j) (hl : l.length ≤ 100000) (hF : Fr P L s.heap m) (hN : News P L s.heap H) (h : ∀ h' t' k, Fr P L h' m → News P L h' H → Q (.str (S (l.take (l.length - j))) t') { s with heap := h', toks := k })
    (hs : subscripted slice false (.str (S l) t) (.ref s.heap.objs.size) = operate [.ref s.heap.objs.size, .str (S l) t] (getItem (.str (S l) t) (.ref s.heap.objs.size)) := by with_unfolding_all rfl)
    (ht : ∀ r, letTemporaryGo value (.str (S l) t) r = pure () := by intro _; with_unfolding_all rfl) :
    wpAny (model PR w) A (subscriptTail value slice (.str (S l) t) (.ref s.heap.objs.size)) Q E { s with heap := s.heap.push { cls := .type "slice", data := .fields #[.none, .int (-(j : Int)) uj, .none] } } :=
  sl_toneg (by lia) hl hF hN (by
    have e : ((l.length : Int) + -(j : Int)).toNat = l.length - j := by lia
    rw [e]; exact h) hs ht
theorem sl_ij_nat {i j : Nat} {ui uj : Tok} (hl : l.length ≤ 100000) (hF : Fr P L s.heap m) (hN : News P L s.heap H) (h : ∀ h' t' k, Fr P L h' m → News P L h' H → Q (.str (S ((l.take j).drop i)) t') { s with heap := h', toks := k })
    (hs : subscripted slice false (.str (S l) t) (.ref s.heap.objs.size) = operate [.ref s.heap.objs.size, .str (S l) t] (getItem (.str (S l) t) (.ref s.heap.objs.size)) := by with_unfolding_all rfl)
    (ht : ∀ r, letTemporaryGo value (.str (S l) t) r = pure () := by intro _; with_unfolding_all rfl) :
    wpAny (model PR w) A (subscriptTail value slice (.str (S l) t) (.ref s.heap.objs.size)) Q E { s with heap := s.heap.push { cls := .type "slice", data := .fields #[.int (i : Int) ui, .int (j : Int) uj, .none] } } :=
  sl_ij (by lia) (by lia) hl hF hN (by simpa using h) hs ht
theorem it_nat_nat {i : Nat} {u : Tok} (hi' : i < l.length) (hl : l.length ≤ 100000) (h : Q (.str (S [l.getD i 0]) s.toks) { s with toks := s.toks + 1 })
    (hs : subscripted slice false (.str (S l) t) (.int ((i : Int)) u) = operate [.str (S l) t, .int ((i : Int)) u] (getItem (.str (S l) t) (.int ((i : Int)) u)) := by with_unfolding_all rfl)
    (ht : ∀ r, letTemporaryGo value (.str (S l) t) r = pure () := by intro _; with_unfolding_all rfl) :
    wpAny (model PR w) A (subscriptTail value slice (.str (S l) t) (.int ((i : Int)) u)) Q E s :=
  it_nat (by lia) (by lia) hl (by simpa using h) hs ht
theorem it_neg1 {k : Nat} {u : Tok} (hi' : k < l.length) (hl : l.length ≤ 100000) (h : Q (.str (S [l.reverse.getD k 0]) s.toks) { s with toks := s.toks + 1 })
    (hs : subscripted slice false (.str (S l) t) (.int (-(k : Int) - 1) u) = operate [.str (S l) t, .int (-(k : Int) - 1) u] (getItem (.str (S l) t) (.int (-(k : Int) - 1) u)) := by with_unfolding_all rfl)
    (ht : ∀ r, letTemporaryGo value (.str (S l) t) r = pure () := by intro _; with_unfolding_all rfl) :
    wpAny (model PR w) A (subscriptTail value slice (.str (S l) t) (.int (-(k : Int) - 1) u)) Q E s :=
  it_neg (by lia) (by lia) hl (by
    have e : ((l.length : Int) + (-(k : Int) - 1)).toNat = l.length - 1 - k := by lia
    have e2 : l.reverse.getD k 0 = l.getD (l.length - 1 - k) 0 := by
      rw [getD_at (by simpa using hi'), getD_at (by lia), List.getElem_reverse]
    rw [e, ← e2]; exact h) hs ht
end
end
section
open PySem PySem.W PySem.Calls PyProof.Rows
open PySem PySem.W PySem.Calls PyProof.Rows
open PySem PySem.W PySem.Calls PyProof.Rows
open PySem PySem.W PySem.Calls PyProof.Rows
theorem lcp_stop {a b : List Nat} {k : Nat} (h : a.take k = b.take k) (ha : k ≤ a.length) (hb : k ≤ b.length) (e : a.length ≤ k ∨ b.length ≤ k ∨ ¬ a.getD k 0 = b.getD k 0) : lcp a b = k := by
  by_cases h1 : a.length ≤ k
  · exact lcp_end h ha hb (.inl h1)
  by_cases h2 : b.length ≤ k
  · exact lcp_end h ha hb (.inr (.inl h2))
  refine lcp_end h ha hb (.inr (.inr ⟨by lia, by lia, ?_⟩))
  rcases e with e | e | e
  · exact absurd e h1
  · exact absurd e h2
  · rwa [getD_at (by lia), getD_at (by lia)] at e
theorem take_more {a b : List Nat} {k : Nat} (h : a.take k = b.take k) (h1 : ¬ a.length ≤ k) (h2 : ¬ b.length ≤ k) (e : a.getD k 0 = b.getD k 0) : a.take (k + 1) = b.take (k + 1) := by
  rw [getD_at (by lia), getD_at (by lia)] at e
  exact take_one_more h (by lia) (by lia) e
theorem lcp_le_left : ∀ (a b : List Nat), lcp a b ≤ a.length
  | [], b => by rw [lcp_nil_left]; exact Nat.zero_le _
  | x :: xs, [] => by rw [lcp_nil_right]; exact Nat.zero_le _
  | x :: xs, y :: ys => by unfold lcp; split; (have := lcp_le_left xs ys; simp only [List.length_cons]; lia); exact Nat.zero_le _
theorem lcp_le_right : ∀ (a b : List Nat), lcp a b ≤ b.length
  | [], b => by rw [lcp_nil_left]; exact Nat.zero_le _
  | x :: xs, [] => by rw [lcp_nil_right]; exact Nat.zero_le _
  | x :: xs, y :: ys => by unfold lcp; split; (have := lcp_le_right xs ys; simp only [List.length_cons]; lia); exact Nat.zero_le _
theorem nil_len (l : List Nat) : (l = []) = (l.length = 0) := by cases l <;> simp
theorem execs_cons_s {M : Model} {A : Around} {E : Value → Shared → Prop} {env : Env} {st : Stmt} {rest : List Stmt} {Q : Flow → Shared → Prop} {P : Heap} {L : Addr} {z s : Shared} {m : Str → Option Value} {H : List (Addr × Obj)}
    (lk : Like z s) (F : Fr P L s.heap m) (N : News P L s.heap H) (hh : ∀ s₁, Like z s₁ → Fr P L s₁.heap m → News P L s₁.heap H → wpAny M A (exec st env) (fun f s' => match f with | .next => wpAny M A (execs rest env) Q E s' | f => Q f s') E s₁) : wpAny M A (execs (st :: rest) env) Q E s := wpAny_execs_cons (hh s lk F N)
theorem vi {a b : Int} {t : Tok} (h : a = b) : some (Value.int a t) = some (Value.int b t) := by rw [h]
end
section
open PySem PySem.W PySem.Calls PyProof.Rows
section
variable {w : World} {A : Around} {E : Value → Shared → Prop} {s : Shared} {l : List Nat} {t : Tok} {P : Heap} {L : Addr} {m : Str → Option Value} {H : List (Addr × Obj)} {Q : Value → Shared → Prop}
theorem len_S (hl : l.length ≤ 100000) (h : Q (.int (l.length : Nat) (s.toks + 1)) { s with toks := s.toks + 1 + 1 }) : wpAny (model PR w) A (call (.builtin "len") [.str (S l) t]) Q E s :=
  PySem.P.len_str (by rw [S_len]; lia) (by rw [S_len]; exact h)

theorem rangeSize_two (n : Nat) : Builtin.Range.rangeSize 2 (2 * ((n : Int) + 1)) 2 = (n : Int) := by
  unfold Builtin.Range.rangeSize
  rw [if_pos (by decide : (2 : Int) > 0)]
  split <;> lia
theorem small_two (n : Nat) (h : n ≤ 100000) : Builtin.Range.small 2 (2 * ((n : Int) + 1)) 2 = true := by
  unfold Builtin.Range.small
  rw [rangeSize_two]
  rw [if_pos (by decide : (2 : Int) > 0)]
  simp only [Builtin.Range.rangeFitsLong, Bool.and_eq_true, Bool.or_eq_true, decide_eq_true_eq, beq_iff_eq]
  lia

/-- the first row: two, four .. -/
def row0 (n : Nat) : List Int := rangeInts 2 2 n
theorem CarriedAll.ints {vs : List Value} {ns : List Int} (h : CarriedAll vs (ns.map .int)) : IntsAre vs ns := by simpa using CarriedAll.intsOf h

theorem list_range2 {r : Addr} {n : Nat} {t u v : Tok} (hh : A.handled = none) (F : Fr P L s.heap m) (N : News P L s.heap H) (hr : IsRange s.heap r 2 (2 * ((n : Int) + 1)) 2 t u v) (hn : n ≤ 100000) {z : Shared} (lk : Like z s)
    (h : ∀ l s' vs c, Like z s' → Fr P L s'.heap m → News P L s'.heap ((l, listOf vs.toArray c) :: H) → (∀ p ∈ H, p.1 ≠ l) → IntsAre vs (row0 n) → Q (.ref l) s') :
    wpAny (model PR w) A (call (.type "list") [.ref r]) Q E s := by
  refine list_rangeD hh F N hr (small_two n hn) (rangeSize_two n) (by lia) fun h' tk ys F' N' hk hn0 hl np ca => ?_
  obtain ⟨c, ho⟩ := np.1
  refine h s.heap.objs.size _ ys c (lk.trans Like.mk') F' (fun p hp => ?_) (fun p hp => Nat.ne_of_lt (Heap.lt_size (N p hp).1)) (CarriedAll.ints ca)
  rcases List.mem_cons.mp hp with rfl | hp
  · exact ⟨ho, np.ne_locals F', hn0⟩
  · exact N' p hp
end

/-- the price of one sign for another -/
def cst (a b : Nat) : Int := if a = b then 0 else if Txt.lower (S [a]) = Txt.lower (S [b]) then 1 else 2
def big : Int := 9223372036854775807
structure RSt where
  row : List Int
  dist : Int
  res : Int
  mn : Int
/-- the inner loop's state behind j turns -/
def rowSt (c : Nat) (x : List Nat) (row : List Int) (d : Int) : Nat → RSt
  | 0 => ⟨row, d, d, big⟩
  | j + 1 =>
    let st := rowSt c x row d j
    let sub := st.dist + cst c (x.getD j 0)
    let dist' := st.row.getD j 0
    let idl := (if dist' < st.res then dist' else st.res) + 2
    let res' := if sub < idl then sub else idl
    ⟨st.row.set j res', dist', res', if res' < st.mn then res' else st.mn⟩
def scan (x y : List Nat) (M : Int) : Nat → Nat → List Int → Int → Int
  | 0, _, _, res => res
  | n + 1, i, row, _ =>
    let st := rowSt (y.getD i 0) x row (i * 2) x.length
    if st.mn > M then M + 1 else scan x y M n (i + 1) st.row st.res
def levF (la lb : List Nat) (M : Int) : Int :=
  if la = lb then 0 else
  let k0 := lcp la lb
  let a := la.drop k0
  let b := lb.drop k0
  let k1 := lcp a.reverse b.reverse
  let a := a.take (a.length - k1)
  let b := b.take (b.length - k1)
  if a.length = 0 ∨ b.length = 0 then 2 * (a.length + b.length) else
  let x := if b.length < a.length then b else a
  let y := if b.length < a.length then a else b
  if ((y.length : Int) - x.length) * 2 > M then M + 1 else scan x y M y.length 0 (row0 x.length) 0
theorem rowSt_len (c : Nat) (x : List Nat) (row : List Int) (d : Int) : ∀ j, (rowSt c x row d j).row.length = row.length
  | 0 => rfl
  | j + 1 => by simp only [rowSt, List.length_set]; exact rowSt_len c x row d j
def rowNext (st : RSt) (c d j : Nat) : RSt :=
    let sub := st.dist + cst c d
    let dist' := st.row.getD j 0
    let idl := (if dist' < st.res then dist' else st.res) + 2
    let res' := if sub < idl then sub else idl
    ⟨st.row.set j res', dist', res', if res' < st.mn then res' else st.mn⟩
theorem rowSt_succ (c : Nat) (x : List Nat) (row : List Int) (d : Int) (j : Nat) : rowSt c x row d (j + 1) = rowNext (rowSt c x row d j) c (x.getD j 0) j := rfl
end
section
open PySem PySem.W PySem.Calls PyProof.Rows
theorem slot_ci_next : Slot "callable_iterator" "__next__" "callable_iterator.__next__" :=
  .of (owner := "callable_iterator") (n := "__next__") (by rw [typeLookup_type, builtinLookup_eq_fast]; kernel_rfl) (by decide +kernel) (by decide +kernel) (by decide +kernel)
    (by first | exact .inl (by decide +kernel) | exact .inr (by decide +kernel)) (by rw [isSubtype_type]; kernel_rfl)
theorem entry_ci_next : entryFor table "callable_iterator.__next__" = some Builtin.«callable_iterator.__next__» := entryFor_of_tree (by kernel_rfl)
theorem args_ci_next (a : Value) : argsOk "callable_iterator.__next__" ⟨[a], []⟩ := by unfold argsOk; kernel_rfl
theorem slot_ci_iter : Slot "callable_iterator" "__iter__" "callable_iterator.__iter__" :=
  .of (owner := "callable_iterator") (n := "__iter__") (by rw [typeLookup_type, builtinLookup_eq_fast]; kernel_rfl) (by decide +kernel) (by decide +kernel) (by decide +kernel)
    (by first | exact .inl (by decide +kernel) | exact .inr (by decide +kernel)) (by rw [isSubtype_type]; kernel_rfl)
theorem entry_iter : entryFor table "iter" = some Builtin.«iter» := entryFor_of_tree (by kernel_rfl)

abbrev ciEnd : Obj := { cls := .type "callable_iterator", data := .fields #[.none, .none, .bool true] }
abbrev ciObj (f s0 : Value) (e : Bool) : Obj := { cls := .type "callable_iterator", data := .fields #[f, s0, .bool e] }

section
variable {w : World} {M : Model} {A : Around} {E : Value → Shared → Prop} {s : Shared}
theorem wpAny_callBorrowed {f : Value} {pos : List Value} {Q : Value → Shared → Prop}
    (hc : codeAny M A (.call f ⟨pos, []⟩) (fun r s' => match r with | .ok (.ret v) => Q v s' | .ok _ => False | .error e => E e s') s) : wpAny M A (callBorrowed f pos) Q E s := fun Γ p hΓ => by
  unfold callBorrowed
  rw [Sem.wp_call]
  refine wpCode_mono (fun r s' h => ?_) (hc _ p rfl (hΓ.enter _ none p (by intro x; cases x)))
  cases r with
  | ok f => cases f <;> first | exact h | exact h.elim
  | error e => exact h

theorem borrows_method {q fn : Addr} {self : Value} {ofn : Obj} {fd : FuncData} {Q : Bool → Shared → Prop} (hq : s.heap.get? q = some (methodObj (.ref fn) self)) (hf : s.heap.get? fn = some ofn) (hfd : ofn.data = .func fd) (h : Q true s) :
    wpAny M A (borrowsExactly (.ref q)) Q E s := by
  unfold borrowsExactly
  dsimp only
  refine wpAny_bind (wpAny_load hq ?_)
  show wpAny M A (load fn >>= fun o => match o.data with | .func _ => pure true | _ => pure false) Q E s
  refine wpAny_bind (wpAny_load hf ?_)
  rw [hfd]
  exact wpAny_pure h

theorem stop_it {α : Type} {Qa : α → Shared → Prop} (hh : A.handled = none)
    (h : ∀ e h', (∀ b o, s.heap.get? b = some o → h'.get? b = some o) → (∃ oe, h'.get? e = some oe ∧ oe.cls = .type "StopIteration") → E (.ref e) { s with heap := h' }) :
    wpAny M A (Builtin.SmallTypes.stopIteration : Sem α) Qa E s := by
  unfold Builtin.SmallTypes.stopIteration
  refine wpAny_bind ?_
  show wpAny _ _ (newExc (.type "StopIteration") []) _ _ _
  simp only [newExc, newTuple]
  refine wpAny_bind (wpAny_newObj_type ?_ (by size_fits))
  refine wpAny_bind (m := firstArgMember _ _) (wpAny_of_eq (a := Value.none) (by first | rfl | (simp only [firstArgMember]; rfl)) ?_)
  refine wpAny_newObj_type ?_ (by size_fits)
  simp only [raiseNew]
  refine wpAny_bind (wpAny_handled ?_)
  rw [hh]
  refine wpAny_bind (wpAny_pure (wpAny_throw ?_))
  exact h _ _ (fun b o e => Heap.get?_push_of_some _ (Heap.get?_push_of_some _ e)) ⟨_, Heap.get?_push_size _ rfl, rfl⟩
end

section
variable {w : World} {A : Around} {E : Value → Shared → Prop} {s : Shared}
/-- the next of a callable iterator: what is called, and what comes of it -/
theorem ci_next {I q fn : Addr} {self : Value} {ofn : Obj} {fd : FuncData} {t : Tok} {Q : Option Value → Shared → Prop} (hh : A.handled = none)
    (hI : s.heap.get? I = some (ciObj (.ref q) (.str "" t) false)) (hq : s.heap.get? q = some (methodObj (.ref fn) self)) (hf : s.heap.get? fn = some ofn) (hfd : ofn.data = .func fd)
    (h : codeAny (model PR w) A.in1 (.call (.ref q) ⟨[], []⟩) (fun r s' => ∃ c tk, r = .ok (.ret (.str (S c) tk)) ∧ s'.heap.get? I = some (ciObj (.ref q) (.str "" t) false) ∧ s'.heap.get? q = some (methodObj (.ref fn) self) ∧ (∃ o, s'.heap.get? fn = some o ∧ o.data = .func fd) ∧
      (c ≠ [] → Q (some (.str (S c) tk)) s') ∧ (c = [] → ∀ h', Heap.ExtBut I s'.heap h' → h'.get? I = some ciEnd → Q none { s' with heap := h' })) s) :
    wpAny (model PR w) A (pyNext (.ref I)) Q E s := by
  have hT : s.TypeIs (.ref I) "callable_iterator" := ⟨_, hI, rfl⟩
  unfold pyNext
  refine wpAny_bind (wpAny_attempt (wpAny_callSpecial?_slot (name := Str.ofString "__next__") hT slot_ci_next (wpAny_call_entry slot_ci_next hT entry_ci_next ?_ (args_ci_next _))))
  unfold Builtin.«callable_iterator.__next__»
  show wpAny _ _ (field (.ref I) 2 >>= _) _ _ s
  refine wpAny_bind (wpAny_field hI rfl (x := .bool false) rfl ?_)
  show wpAny _ _ (field (.ref I) 0 >>= _) _ _ s
  refine wpAny_bind (wpAny_field hI rfl (x := .ref q) rfl ?_)
  refine wpAny_bind (wpAny_attempt ?_)
  unfold callOutOfASlot
  refine wpAny_bind (borrows_method hq hf hfd ?_)
  show wpAny _ _ (callBorrowed (.ref q) []) _ _ s
  refine wpAny_callBorrowed (codeAny_mono h fun r s' hr => ?_)
  obtain ⟨c, tk, rfl, hI', hq', ⟨o', hf', hfd'⟩, h1, h2⟩ := hr
  dsimp only
  refine wpAny_bind (wpAny_field hI' rfl (x := .bool false) rfl ?_)
  show wpAny _ _ (field (.ref I) 1 >>= _) _ _ s'
  refine wpAny_bind (wpAny_field hI' rfl (x := .str "" t) rfl ?_)
  refine wpAny_bind (wpAny_holding ?_)
  refine wpAny_eqBool_str ?_
  by_cases hc : c = []
  · subst hc
    rw [show decide ((Str.ofString "") = S []) = true from by decide +kernel]
    show wpAny _ _ (rule _ >>= _) _ _ s'
    refine wpAny_bind (wpAny_rule ?_)
    refine wpAny_bind ?_
    k_delta "callableEnd"
    refine wpAny_bind (wpAny_field hI' rfl (x := .ref q) rfl ?_)
    refine wpAny_bind ?_
    unfold slotLetsGo
    dsimp only
    refine wpAny_bind (borrows_method hq' hf' hfd' ?_)
    show wpAny _ _ (pure ()) _ _ s'
    refine wpAny_pure ?_
    refine wpAny_bind (wpAny_setField hI' rfl (by simp) ?_)
    have e1 := Heap.get?_update_self (Obj.mapFields (·.setIfInBounds 0 Value.none)) hI' rfl
    refine wpAny_bind (wpAny_setField e1 rfl (by simp [Obj.mapFields]) ?_)
    have e2 := Heap.get?_update_self (Obj.mapFields (·.setIfInBounds 1 Value.none)) e1 rfl
    refine wpAny_setField e2 rfl (by simp [Obj.mapFields]) ?_
    refine stop_it hh fun e h' hk ⟨oe, hoe, hcls⟩ => ?_
    refine wpAny_bind (wpAny_isInstance (T := "StopIteration") (b := true) ⟨oe, hoe, hcls⟩ isSubtype_stop ?_)
    refine wpAny_pure (h2 rfl h' (fun b o hb eb => ?_) (hk _ _ ?_))
    rotate_left
    · have e3 := Heap.get?_update_self (Obj.mapFields (·.setIfInBounds 2 (Value.bool true))) e2 rfl
      exact e3
    refine hk b o ?_
    show Heap.get? (((s'.heap.update I _).update I _).update I _) b = some o
    rw [Heap.get?_update_ne _ _ _ _ hb, Heap.get?_update_ne _ _ _ _ hb, Heap.get?_update_ne _ _ _ _ hb]
    exact eb
  · have hne : decide ((Str.ofString "") = S c) = false := by
      refine decide_eq_false fun e => hc ?_
      have : S [] = S c := (show S [] = Str.ofString "" from by decide +kernel).trans e
      exact (S_inj.mp this).symm
    rw [hne]
    show wpAny _ _ (ret (.str (S c) tk)) _ _ s'
    refine wpAny_pure ⟨_, rfl, wpAny_pure (h1 hc)⟩
theorem ci_done {I : Addr} {Q : Option Value → Shared → Prop} (hh : A.handled = none) (hI : s.heap.get? I = some ciEnd)
    (h : ∀ h', (∀ b o, s.heap.get? b = some o → h'.get? b = some o) → Q none { s with heap := h' }) : wpAny (model PR w) A (pyNext (.ref I)) Q E s := by
  have hT : s.TypeIs (.ref I) "callable_iterator" := ⟨_, hI, rfl⟩
  unfold pyNext
  refine wpAny_bind (wpAny_attempt (wpAny_callSpecial?_slot (name := Str.ofString "__next__") hT slot_ci_next (wpAny_call_entry slot_ci_next hT entry_ci_next ?_ (args_ci_next _))))
  unfold Builtin.«callable_iterator.__next__»
  show wpAny _ _ (field (.ref I) 2 >>= _) _ _ s
  refine wpAny_bind (wpAny_field hI rfl (x := .bool true) rfl ?_)
  show wpAny _ _ (rule _ >>= _) _ _ s
  refine wpAny_bind (wpAny_rule ?_)
  refine wpAny_bind ?_
  refine stop_it hh fun e h' hk ⟨oe, hoe, hcls⟩ => ?_
  refine wpAny_bind (wpAny_isInstance (T := "StopIteration") (b := true) ⟨oe, hoe, hcls⟩ isSubtype_stop ?_)
  exact wpAny_pure (h h' hk)
end
end
section
open PySem PySem.W PySem.Calls PyProof.Rows
theorem entry_ci_iter : entryFor table "callable_iterator.__iter__" = some Builtin.«dict_keyiterator.__iter__» := entryFor_alias (id' := "dict_keyiterator.__iter__") (by kernel_rfl) rfl (by decide +kernel) (by kernel_rfl)
theorem args_ci_iter (a : Value) : argsOk "callable_iterator.__iter__" ⟨[a], []⟩ := by unfold argsOk; kernel_rfl

section
variable {w : World} {A : Around} {E : Value → Shared → Prop} {s : Shared}
theorem pyIter_ci {I : Addr} {f s0 : Value} {e : Bool} {Q : Value → Shared → Prop} (hI : s.heap.get? I = some (ciObj f s0 e)) (h : Q (.ref I) s) : wpAny (model PR w) A (pyIter (.ref I)) Q E s := by
  have hT : s.TypeIs (.ref I) "callable_iterator" := ⟨_, hI, rfl⟩
  refine wpAny_pyIter_slot hT slot_ci_iter (wpAny_call_entry slot_ci_iter hT entry_ci_iter ?_ (args_ci_iter _))
  show wpAny _ _ (ret (.ref I)) _ _ s
  exact wpAny_pure ⟨_, rfl, "callable_iterator", _, hT, slot_ci_next.lookup, h⟩

variable {P : Heap} {env : Env} {x : Str} {px : Pos} {body : List Stmt} {Q : Flow → Shared → Prop} {m : Str → Option Value} {H : List (Addr × Obj)} {z : Shared}
/-- a for over any iterator, by a measure -/
theorem for_gen {it : Value} (lz : Like z s) (hx : env.kindOf x = some .local) (hk : env.scope.kind = .function) (J : Nat → (Str → Option Value) → List (Addr × Obj) → Prop) (n₀ : Nat)
    (F : Fr P env.locals s.heap m) (N : News P env.locals s.heap H) (hJ : J n₀ m H)
    (turn : ∀ n m₁ H₁ s₁, Like z s₁ → Fr P env.locals s₁.heap m₁ → News P env.locals s₁.heap H₁ → J n m₁ H₁ → ∀ K, Imp2 (WhileEnd P env.locals z J n Q) K →
      wpAny (model PR w) A (pyNext it) (fun r s₂ => match r with
        | none => Q .next s₂
        | some v => ∃ H₂, Like z s₂ ∧ Fr P env.locals s₂.heap m₁ ∧ News P env.locals s₂.heap H₂ ∧ ∀ s₃, Like z s₃ → Fr P env.locals s₃.heap (fun y => if y = x then some v else m₁ y) → News P env.locals s₃.heap H₂ →
            wpAny (model PR w) A (execs body env) K NoE s₃) NoE s₁) :
    LoopQ w A env x px body Q it s := by
  refine codeAny_forLoop (fun n s' => ∃ m₁ H₁, Like z s' ∧ Fr P env.locals s'.heap m₁ ∧ News P env.locals s'.heap H₁ ∧ J n m₁ H₁) ?_ n₀ ⟨m, H, lz, F, N, hJ⟩
  have hp : (env.scope.kind == .class || (env.scope.kind == .module && env.locals != env.globals)) = false := by rw [hk]; rfl
  rintro n s' ⟨m₁, H₁, lk, F₁, N₁, J₁⟩
  refine wpAny_mono (turn n m₁ H₁ s' lk F₁ N₁ J₁ _ (fun _ _ x => x)) (fun r s₂ h₂ => ?_) fun _ _ e => e.elim
  cases r with
  | none => exact wpAny_execs_nil h₂
  | some v =>
    obtain ⟨H₂, lk₂, F₂, N₂, h₃⟩ := h₂
    refine wpAny_assign_Name (wpAny_storeName_local hx F₂.ns (fun h₂ hn₂ hs₂ => ?_) hp)
    refine wpAny_mono (h₃ { s₂ with heap := h₂, toks := s₂.toks + 1 } lk₂ (F₂.set hn₂ hs₂) (N₂.set hs₂)) (fun f s₃ h₃ => ?_) fun _ _ e => e.elim
    cases f with
    | ret v => exact h₃
    | brk => exact h₃
    | next => obtain ⟨m₂, H₂, n', lk, F₂, N₂, hn, J₂⟩ := h₃; exact ⟨n', hn, m₂, H₂, lk, F₂, N₂, J₂⟩
    | cont => obtain ⟨m₂, H₂, n', lk, F₂, N₂, hn, J₂⟩ := h₃; exact ⟨n', hn, m₂, H₂, lk, F₂, N₂, J₂⟩
end

/-- a list of one-sign texts -/
inductive Sg : List Value → List Nat → Prop where
  | nil : Sg [] []
  | cons (c : Nat) (t : Tok) {vs : List Value} {l : List Nat} : Sg vs l → Sg (.str (S [c]) t :: vs) (c :: l)
theorem Sg.length {vs : List Value} {l : List Nat} (h : Sg vs l) : vs.length = l.length := by
  induction h with
  | nil => rfl
  | cons _ _ _ ih => simp [ih]
theorem Sg.snoc {vs : List Value} : ∀ {l : List Nat} {c : Nat}, Sg vs (l ++ [c]) → ∃ vs' t, vs = vs' ++ [.str (S [c]) t] ∧ Sg vs' l := by
  induction vs with
  | nil => intro l c h; cases l <;> cases h
  | cons v vs ih =>
    intro l c h
    cases l with
    | nil =>
      cases h with
      | cons _ t h => cases h; exact ⟨[], t, rfl, .nil⟩
    | cons d l =>
      cases h with
      | cons _ t h =>
        obtain ⟨vs', t', rfl, h'⟩ := ih h
        exact ⟨.str (S [d]) t :: vs', t', rfl, .cons d t h'⟩
theorem Sg.append {vs us : List Value} {l k : List Nat} (h : Sg vs l) (h' : Sg us k) : Sg (vs ++ us) (l ++ k) := by
  induction h with
  | nil => exact h'
  | cons c t _ ih => exact .cons c t ih
theorem Sg.reverse {vs : List Value} {l : List Nat} (h : Sg vs l) : Sg vs.reverse l.reverse := by
  induction h with
  | nil => exact .nil
  | cons c t _ ih => simp only [List.reverse_cons]; exact ih.append (.cons c t .nil)

/-- a dict's entry under a text -/
abbrev ent (w : World) (name : String) (k : Tok) (v : Value) : DictEntry := ⟨PyData.keyHash w.params name, .str name k, v⟩

theorem Sub.consm {p : Addr × Obj} {A B : List (Addr × Obj)} (h : p ∈ B) (h' : Sub A B) : Sub (p :: A) B := fun q hq => by
  rcases List.mem_cons.mp hq with rfl | hq
  · exact h
  · exact h' q hq
theorem Sub.appm {A B C : List (Addr × Obj)} (h : Sub A C) (h' : Sub B C) : Sub (A ++ B) C := fun q hq => by
  rcases List.mem_append.mp hq with hq | hq
  · exact h q hq
  · exact h' q hq
theorem Sub.left {A B : List (Addr × Obj)} : Sub A (A ++ B) := fun q hq => List.mem_append_left _ hq
theorem Sub.right {A B C : List (Addr × Obj)} (h : Sub A C) : Sub A (B ++ C) := fun q hq => List.mem_append_right _ (h q hq)
theorem lit_nl : Str.ofString "\n" = S [10] := by decide +kernel
theorem lit_q : Str.ofString "\"" = S [34] := by decide +kernel
theorem lit_bs : Str.ofString "\\" = S [92] := by decide +kernel
theorem lit_e : Str.ofString "" = S [] := by decide +kernel
end
section
open PySem PySem.W PySem.Calls PyProof.Rows
section
variable {w : World} {A : Around} {E : Value → Shared → Prop} {s : Shared} {P : Heap} {L D : Addr} {m : Str → Option Value} {news news' : List (Addr × Obj)} {vs : List Value} {n : Nat}
theorem ll_truthy {Q : Bool → Shared → Prop} (N : News P L s.heap news) (hm : (D, listOf vs.toArray n) ∈ news) (hz : vs.length ≤ 100000) (h : Q (!vs.isEmpty) { s with toks := s.toks + 1 + 1 }) : wpAny (model PR w) A (truthy (.ref D)) Q E s :=
  kgr_truthy N hm rfl rfl (by lia) h
theorem ll_append {x : Value} {Q : Value → Shared → Prop} (F : Fr P L s.heap m) (N : News P L s.heap news) (U : Upd D (listOf vs.toArray n) (listOf (vs ++ [x]).toArray (n + 1)) news news') (hz : vs.length ≤ 100000)
    (h : ∀ h', Fr P L h' m → News P L h' news' → Q .none { s with heap := h' }) : wpAny (model PR w) A (call (.builtin "list.append") [.ref D, x]) Q E s := by
  refine append_K (its := vs.toArray) (n := n) F N (by rw [List.push_toArray]; exact U) h ?_
  rw [List.size_toArray, sizeLine_eq]; lia
theorem last_snoc : ∀ (vs : List Value) (x : Value), kl_last (vs ++ [x]) = some (vs, x)
  | [], x => rfl
  | y :: r, x => by simp only [List.cons_append, kl_last, last_snoc r x]
theorem ll_pop {x : Value} {Q : Value → Shared → Prop} (F : Fr P L s.heap m) (N : News P L s.heap news) (U : Upd D (listOf (vs ++ [x]).toArray n) (listOf vs.toArray (n + 1)) news news') (hz : vs.length ≤ 100000)
    (h : ∀ h', Fr P L h' m → News P L h' news' → Q x { s with heap := h' }) : wpAny (model PR w) A (call (.builtin "list.pop") [.ref D]) Q E s := by
  refine kl_pop F N (p := vs) (last_snoc vs x) U ?_ h
  rw [sizeLine_eq]; simp; lia
theorem ll_pop0 {x : Value} {u : Tok} {Q : Value → Shared → Prop} (F : Fr P L s.heap m) (N : News P L s.heap news) (U : Upd D (listOf (x :: vs).toArray n) (listOf vs.toArray (n + 1)) news news') (hz : vs.length ≤ 100000)
    (h : ∀ h', Fr P L h' m → News P L h' news' → Q x { s with heap := h' }) : wpAny (model PR w) A (call (.builtin "list.pop") [.ref D, .int 0 u]) Q E s := by
  refine kl_popAt (its := (x :: vs).toArray) (n := n) (k := 0) (p := []) (q := vs) F N (by decide) (by unfold seqIndex?; simp) rfl U ?_ h
  rw [sizeLine_eq]; simp; lia
theorem ll_reverse {Q : Value → Shared → Prop} (F : Fr P L s.heap m) (N : News P L s.heap news) (U : Upd D (listOf vs.toArray n) (listOf vs.reverse.toArray n) news news') (hz : vs.length ≤ 100000)
    (h : ∀ h', Fr P L h' m → News P L h' news' → Q .none { s with heap := h' }) : wpAny (model PR w) A (call (.builtin "list.reverse") [.ref D]) Q E s := by
  refine kl_reverse F N (by simp) U ?_ h
  rw [sizeLine_eq]; simp; lia
theorem in_one {c : Nat} {l : List Nat} {x : PySem.Str} {t u : Tok} {Q : Value → Shared → Prop} (hx : x = S l) (h : Q (.bool (decide (c ∈ l))) s) : wpAny (model PR w) A (compareOp .In (.str (S [c]) u) (.str x t)) Q E s := by
  subst hx
  refine in_str ?_
  rw [show S [c] = ⟨#[c]⟩ from rfl, PySem.StrLaws.found_one]
  simpa using h
theorem lit_ws : Str.ofString "\n\t\r " = S [10, 9, 13, 32] := by decide +kernel
theorem lit_qb : Str.ofString "\"\\" = S [34, 92] := by decide +kernel
theorem lit_wb : Str.ofString "\n\t\r \\" = S [10, 9, 13, 32, 92] := by decide +kernel
theorem lit_AB : Str.ofString "AB" = S [65, 66] := by decide +kernel
theorem lit_ab : Str.ofString "ab" = S [97, 98] := by decide +kernel
theorem add_S {l k : List Nat} {x y : PySem.Str} {t u : Tok} {Q : Value → Shared → Prop} (hx : x = S l) (hy : y = S k) (hz : l.length + k.length ≤ 100000) (h : ∀ t' kk, Q (.str (S (l ++ k)) t') { s with toks := kk }) : wpAny (model PR w) A (binaryOp .Add (.str x t) (.str y u)) Q E s := by
  subst hx hy
  refine SBL.add (hsz := by rw [S_len, S_len, sizeLine_eq]; lia) fun t' kk _ => ?_
  rw [S_append]; exact h t' kk
theorem iadd_S {l k : List Nat} {x y : PySem.Str} {t u : Tok} {Q : Value → Shared → Prop} (hx : x = S l) (hy : y = S k) (hz : l.length + k.length ≤ 100000) (h : ∀ t' kk, Q (.str (S (l ++ k)) t') { s with toks := kk }) : wpAny (model PR w) A (inplaceOp .Add (.str x t) (.str y u)) Q E s := by
  subst hx hy
  refine SBL.iadd (hsz := by rw [S_len, S_len, sizeLine_eq]; lia) fun t' kk _ => ?_
  rw [S_append]; exact h t' kk
end
theorem WhileEnd.cont' {P : Heap} {L : Addr} {s s' : Shared} {Q : Flow → Shared → Prop} {m : Str → Option Value} {H : List (Addr × Obj)} {J : Nat → (Str → Option Value) → List (Addr × Obj) → Prop} {n : Nat} (k : Like s s') (F : Fr P L s'.heap m) (N : News P L s'.heap H) (j : Bx (∃ n', n' < n ∧ J n' m H)) : WhileEnd P L s J n Q .cont s' := by
  obtain ⟨n', a, b⟩ := j.out; exact ⟨m, H, n', k, F, N, a, b⟩
structure RetSub : Prop where
theorem Ret.intro' {P : Heap} {L : Addr} {s s' : Shared} {Q : Post} {v : Value} {m' : Str → Option Value} {H' : List (Addr × Obj)} (k : Like s s') (F : Fr P L s'.heap m') (N : News P L s'.heap H') (q : Bx (∃ H₂, Sub H₂ H' ∧ Q v H₂)) :
    Ret P L s Q v s' := by
  obtain ⟨H₂, a, b⟩ := q.out
  exact ⟨m', H₂, k, F, subN N a, b⟩
theorem CutQ.cont {P : Heap} {L : Addr} {s s' : Shared} {J : (Str → Option Value) → List (Addr × Obj) → Prop} {Q : Flow → Shared → Prop} (h : Q .cont s') : CutQ P L s J Q .cont s' := h
theorem CutQ.brk {P : Heap} {L : Addr} {s s' : Shared} {J : (Str → Option Value) → List (Addr × Obj) → Prop} {Q : Flow → Shared → Prop} (h : Q .brk s') : CutQ P L s J Q .brk s' := h
end
section
open PySem PySem.W PySem.Calls PyProof.Rows
abbrev tupOf (vs : List Value) : Obj := { cls := .type "tuple", data := .seq vs.toArray }
section
variable {w : World} {A : Around} {P : Heap} {s : Shared} {env : Env} {x : Str} {px : Pos} {body : List Stmt} {m : Str → Option Value} {H : List (Addr × Obj)} {L D : Addr} {vs : List Value} {n : Nat}
theorem ll_len {E : Value → Shared → Prop} {Q : Value → Shared → Prop} (N : News P L s.heap H) (hm : (D, listOf vs.toArray n) ∈ H) (hz : vs.length ≤ 100000) (h : Q (.int (vs.length : Nat) (s.toks + 1)) { s with toks := s.toks + 1 + 1 }) :
    wpAny (model PR w) A (call (.builtin "len") [.ref D]) Q E s := by
  have e : vs.toArray.size = vs.length := by simp
  exact len_list (News.isList N hm) (by rw [e]; lia) (by rw [e]; exact h)
theorem ll_item {E : Value → Shared → Prop} {Q : Value → Shared → Prop} {k : Int} {t : Tok} {x : Value} (N : News P L s.heap H) (hm : (D, listOf vs.toArray n) ∈ H) (h0 : 0 ≤ k ∧ k < 100000) (hx : vs[k.toNat]? = some x) (h : Q x s) :
    wpAny (model PR w) A (getItem (.ref D) (.int k t)) Q E s := getItem_listL (News.isList N hm) h0.1 (by lia) hx h
theorem ll_sub {E : Value → Shared → Prop} {value slice : Expr} {Q : Value → Shared → Prop} {k : Int} {t : Tok} {x : Value} (N : News P L s.heap H) (hm : (D, listOf vs.toArray n) ∈ H) (h0 : 0 ≤ k ∧ k < 100000) (hx : vs[k.toNat]? = some x) (h : Q x s)
    (hs : subscripted slice false (.ref D) (.int k t) = operate [.ref D, .int k t] (getItem (.ref D) (.int k t)) := by with_unfolding_all rfl) :
    wpAny (model PR w) A (subscriptTail value slice (.ref D) (.int k t)) Q E s :=
  tail_any (News.isList N hm).typeIs slot_list_getitem.lookup (ll_item N hm h0 hx h) hs
/-- a list's turns -/
theorem loop_list {E : Value → Shared → Prop} {Q : Flow → Shared → Prop} (hh : A.handled = none) (hx : env.kindOf x = some .local) (hk : env.scope.kind = .function)
    {s₀ : Shared} (hs₀ : Like s₀ s) (F : Fr P env.locals s.heap m) (N : News P env.locals s.heap H) (hm : (D, listOf vs.toArray n) ∈ H)
    (J : Nat → (Str → Option Value) → List (Addr × Obj) → Prop) (hJD : ∀ i m H, J i m H → (D, listOf vs.toArray n) ∈ H) (h0 : J 0 m H)
    (turn : ∀ i v m₁ H₁ s₁ I io, Like s₀ s₁ → vs[i]? = some v → J i m₁ H₁ → (∀ p ∈ H₁, p.1 ≠ I) → Fr P env.locals s₁.heap (fun y => if y = x then some v else m₁ y) → News P env.locals s₁.heap ((I, io) :: H₁) → ∀ K, Imp2 (LoopEnd P env.locals s₀ [(I, io)] (J (i + 1)) Q) K →
      wpAny (model PR w) A (execs body env) K NoE s₁)
    (done : ∀ m₁ H₁ s₁, Like s₀ s₁ → J vs.length m₁ H₁ → Fr P env.locals s₁.heap m₁ → News P env.locals s₁.heap H₁ → Q .next s₁) :
    wpAny (model PR w) A (pyIter (.ref D)) (LoopQ w A env x px body Q) E s := by
  have hl : s.heap.IsList D vs.toArray := News.isList N hm
  refine wpAny_pyIter_list hl ?_
  generalize hI0 : s.heap.objs.size = I
  have hDI : D ≠ I := by rw [← hI0]; exact Nat.ne_of_lt (Heap.lt_size (N _ hm).1)
  have hI : env.locals < I := by rw [← hI0]; exact F.ns.lt
  have hIP : P.get? I = none := by rw [← hI0]; exact Fr.size_none F
  have W := Walks.list (prog := PR) (w := w) (A := A) hh I D hDI vs.toArray
  have hsz : vs.toArray.size = vs.length := by simp
  have hDL : ∀ i m H h, J i m H → News P env.locals h H → h.get? D = some (listOf vs.toArray n) ∧ D ≠ env.locals := fun i m H h j N' => ⟨(N' _ (hJD i m H j)).1, (N' _ (hJD i m H j)).2.1⟩
  refine codeAny_forLoop
    (fun k s' => ∃ m' H' i, Like s₀ s' ∧ (s'.heap.IsListIter I D i ∧ s'.heap.IsList D vs.toArray) ∧ Fr P env.locals s'.heap m' ∧ News P env.locals s'.heap H' ∧ (∀ p ∈ H', p.1 ≠ I) ∧ J i m' H' ∧ i ≤ vs.length ∧ k = vs.length + 1 - i) ?_ (vs.length + 1)
    ⟨m, H, 0, hs₀, ⟨⟨_, by rw [← hI0]; exact Heap.get?_push_size _ rfl, rfl, rfl⟩, News.isList (News.push' N _) hm⟩, F.push _, News.push' N _, (by rw [← hI0]; exact Led.ne_size N), h0, Nat.zero_le _, rfl⟩
  rintro k s' ⟨m', H', i, lk, hst', F', N', hne', hJ, hi, rfl⟩
  have hp : (env.scope.kind == .class || (env.scope.kind == .module && env.locals != env.globals)) = false := by rw [hk]; rfl
  have next : ∀ h₁ : Heap, (∀ b o, b ∉ [I] → s'.heap.get? b = some o → h₁.get? b = some o) → Fr P env.locals h₁ m' ∧ News P env.locals h₁ H' := fun h₁ hk₁ =>
    ⟨⟨F'.ns.at' fun o e => hk₁ _ o (by simpa using Nat.ne_of_lt hI) e, fun b o e => hk₁ b o (by intro q; simp at q; rw [q, hIP] at e; cases e) (F'.keep b o e), F'.above⟩, fun p hp => ⟨hk₁ _ _ (by simp; exact hne' p hp) (N' p hp).1, (N' p hp).2⟩⟩
  by_cases hlt : i < vs.length
  · refine W.item i _ _ _ (by rw [hsz]; exact hlt) hst' fun v h₁ tk₁ hP hst₁ hk₁ => ?_
    obtain ⟨F₁, N₁⟩ := next h₁ hk₁
    refine wpAny_assign_Name (wpAny_storeName_local hx F₁.ns (fun h₂ hn₂ hs₂ => ?_) hp)
    have F₂ := F₁.set hn₂ hs₂
    have N₂ := N₁.set hs₂
    have hD2 := hDL i m' H' h₂ hJ N₂
    have hst₂ : h₂.IsListIter I D (i + 1) ∧ h₂.IsList D vs.toArray := W.frame _ _ _ hst₁ fun b hb o e => (hs₂.2 b (by
      simp at hb
      rcases hb with rfl | rfl
      · exact Nat.ne_of_gt hI
      · exact hD2.2)).trans e
    obtain ⟨io, hio, -⟩ := hst₂.1
    have N₃ : News P env.locals h₂ ((I, io) :: H') := fun p hp => by
      rcases List.mem_cons.mp hp with rfl | hp
      · exact ⟨hio, Nat.ne_of_gt hI, hIP⟩
      · exact N₂ p hp
    refine wpAny_mono (turn i v m' H' { s' with heap := h₂, toks := tk₁ + 1 } I io lk (by simpa using hP) hJ hne' F₂ N₃ _ (fun _ _ x => x)) (fun f s₃ h₃ => ?_) fun _ _ e => e.elim
    have fin : ∀ f', (f' = .next ∨ f' = .cont) → LoopEnd P env.locals s₀ [(I, io)] (J (i + 1)) Q f' s₃ → ∃ m, m < vs.length + 1 - i ∧ ∃ m' H' i, Like s₀ s₃ ∧ (s₃.heap.IsListIter I D i ∧ s₃.heap.IsList D vs.toArray) ∧ Fr P env.locals s₃.heap m' ∧ News P env.locals s₃.heap H' ∧ (∀ p ∈ H', p.1 ≠ I) ∧ J i m' H' ∧ i ≤ vs.length ∧ m = vs.length + 1 - i := by
      rintro f' hf' he
      have he : ∃ m' H', Like s₀ s₃ ∧ Fr P env.locals s₃.heap m' ∧ News P env.locals s₃.heap ([(I, io)] ++ H') ∧ (∀ p ∈ H', ∀ q ∈ [(I, io)], p.1 ≠ q.1) ∧ J (i + 1) m' H' := by
        rcases hf' with rfl | rfl <;> exact he
      obtain ⟨m₃, H₃, lk₃, F₃, N₃', ha₃, hJ₃⟩ := he
      have hI₃ := (N₃' (I, io) (by simp)).1
      have hD3 := hDL (i + 1) m₃ H₃ s₃.heap hJ₃ (fun p hp => N₃' p (by simp [hp]))
      refine ⟨vs.length + 1 - (i + 1), by lia, m₃, H₃, i + 1, lk₃, ?_, F₃, fun p hp => N₃' p (by simp [hp]), fun p hp => ha₃ p hp (I, io) (by simp), hJ₃, hlt, rfl⟩
      refine W.frame _ _ _ hst₂ fun b hb o e => ?_
      simp at hb
      rcases hb with rfl | rfl
      · rw [hio] at e; cases e; exact hI₃
      · rw [hD2.1] at e; cases e; exact hD3.1
    cases f with
    | ret v => exact h₃
    | brk => exact h₃
    | cont => exact fin _ (.inr rfl) h₃
    | next => exact fin _ (.inl rfl) h₃
  · have hin : i = vs.length := by lia
    subst hin
    refine W.done _ _ _ (by rw [hsz]; exact hst') fun h₁ tk₁ hk₁ => wpAny_execs_nil ?_
    obtain ⟨F₁, N₁⟩ := next h₁ hk₁
    exact done m' H' { s' with heap := h₁, toks := tk₁ } lk hJ F₁ N₁
end
theorem noR_list_addM : typeLookup (.type "list") (dunderR "add") = pure none := by rw [typeLookup_type, builtinLookup_eq_fast]; kernel_rfl
theorem noFill_list_addM : fillsNumberSlot (.type "list") "add" = pure false := PySem.fillsNumberSlot_seq (id := "list.__add__") (r := none) PySem.F.slot_list_add.lookup (by decide +kernel) noR_list_addM rfl
theorem seq_list_iaddM : seqSlot? (.type "list") (dunderI "add") = pure (some (.builtin "list.__iadd__"))   := PySem.seqSlot_of PySem.F.slot_list_iadd.lookup (by decide +kernel)
theorem fills_list_iaddM : fillsInplaceSlot (.type "list") "add" (Operator.Add == .Add) = pure false := by
  unfold fillsInplaceSlot
  show (typeLookup (.type "list") (dunderI "add") >>= fun fi => pure (fi.isSome && !isSeqSlot fi)) = pure false
  rw [PySem.F.slot_list_iadd.lookup]
  show (pure _ : Sem Bool) = _
  congr 1
section
variable {w : World} {A : Around} {E : Value → Shared → Prop} {P : Heap} {s : Shared} {m : Str → Option Value} {news news' : List (Addr × Obj)} {L D b : Addr} {vs us : List Value} {n n2 : Nat}
theorem ll_iadd {Q : Value → Shared → Prop} (F : Fr P L s.heap m) (N : News P L s.heap news) (hb : (b, listOf us.toArray n2) ∈ news) (hne : us.length ≠ 0)
    (U : Upd D (listOf vs.toArray n) (listOf (vs ++ us).toArray (n + 1)) news news') (hz : vs.length + us.length ≤ 100000)
    (h : ∀ h', Fr P L h' m → News P L h' news' → Q (.ref D) { s with heap := h' }) : wpAny (model PR w) A (inplaceOp .Add (.ref D) (.ref b)) Q E s := by
  obtain ⟨pre, post, rfl, rfl, a, c⟩ := U.split
  have z := N (D, listOf vs.toArray n) (List.mem_append.mpr (.inr (.head _)))
  have zb := N _ hb
  have ha' : s.TypeIs (.ref D) "list" := ⟨_, z.1, rfl⟩
  have hb' : s.TypeIs (.ref b) "list" := ⟨_, zb.1, rfl⟩
  unfold inplaceOp
  refine wpAny_holding ?_
  refine wpAny_bind (wpAny_typeOf ha' (wpAny_bind (wpAny_of_eq fills_list_iaddM ?_)))
  show wpAny _ A (if false = true then _ else _) Q E s
  rw [if_neg Bool.false_ne_true]
  refine wpAny_bind (binaryOp1_none (nm := "add") ha' hb' noFill_list_addM ?_)
  refine wpAny_bind (wpAny_of_eq seq_list_iaddM ?_)
  refine wpAny_bind (wpAny_rule ?_)
  refine call_meets PySem.F.slot_list_iadd ha' PySem.F.entry_list_iadd (PySem.F.args_list_iadd_2 _ _) (PySem.AutoSeq1.list___iadd___list_list_0 D vs.toArray n b us.toArray n2 ?_ (by rw [sizeLine_eq]; simp; lia) (by rw [sizeLine_eq]; simp; lia)) ⟨z.1, zb.1, ?_⟩
  · simp [Builtin.List.listTooLong, sizeLine_eq]; intro _; lia
  · have N' : News P L (s.heap.update D (Obj.mapSeq fun x => x ++ us.toArray)) (pre ++ (D, listOf (vs ++ us).toArray (n + 1)) :: post) := by
      refine news_set N a c (Heap.SameBut.update ..) ?_
      have q := PySem.IsL.update (z.1 : PySem.IsL s.heap D vs.toArray n) (fun x => x ++ us.toArray)
      rw [if_neg (by simp; intro e; apply hne; rw [e]; rfl)] at q
      rw [List.append_toArray] at q
      exact q
    exact h _ (F.change (Heap.SameBut.update ..) z.2.1 z.2.2) N'
end
end
section
open PySem PySem.W PySem.Calls PyProof.Rows
def CompEnd (P : Heap) (C : Addr) (z : Shared) (own : List (Addr × Obj)) (J : List Value → List (Addr × Obj) → Prop) (ys : List Value) (s₂ : Shared) : Prop :=
  ∃ H₂ m₂, Like z s₂ ∧ Fr P C s₂.heap m₂ ∧ News P C s₂.heap (own ++ H₂) ∧ (∀ p ∈ H₂, ∀ q ∈ own, p.1 ≠ q.1) ∧ J ys H₂
theorem CompEnd.intro {P : Heap} {C : Addr} {z : Shared} {own : List (Addr × Obj)} {J : List Value → List (Addr × Obj) → Prop} {ys : List Value} {s₂ : Shared} {news : List (Addr × Obj)} {m₂ : Str → Option Value} (lk : Like z s₂) (F : Fr P C s₂.heap m₂) (N : News P C s₂.heap news)
    (h : Bx (∃ H₂, Sub (own ++ H₂) news ∧ (∀ p ∈ H₂, ∀ q ∈ own, p.1 ≠ q.1) ∧ J ys H₂)) : CompEnd P C z own J ys s₂ := by
  obtain ⟨H₂, a, b, c⟩ := h.out
  exact ⟨H₂, m₂, lk, F, subN N a, b, c⟩
section
variable {w : World} {A : Around} {P : Heap} {s : Shared} {env : Env} {x : Str} {px : Pos} {m : Str → Option Value} {H : List (Addr × Obj)} {D : Addr} {vs : List Value} {n : Nat}
abbrev CompK (w : World) (A : Around) (env : Env) (E : Value → Shared → Prop) (Q : Value → Shared → Prop) (elt iter : Expr) (x : Str) (px : Pos) (ifs : List Expr) (scope : Scope) (cl : List (Str × Addr)) (pos : Pos) (it : Value) (s₂ : Shared) : Prop :=
  wpAny (model PR w) A (newList []) (fun acc s₃ => wpAny (model PR w) A (newFunctionEnv scope env.globals cl [] env.qual none .none (some env)) (fun cenv s₄ =>
      codeAny (model PR w) A (.compStart (.ListComp elt [⟨.Name x px, iter, ifs, 0⟩] scope pos) 0 it acc { cenv with scope := relabel scope env }) (compPost (model PR w) A E none Q acc cenv.locals) s₄) E s₃) E s₂
theorem comp_in {elt iter : Expr} {ifs : List Expr} {scope : Scope} {cl : List (Str × Addr)} {pos : Pos} {E : Value → Shared → Prop} {Q : Value → Shared → Prop}
    (hclos : closureFor scope env = pure cl) (hkind : scope.kind = .function) (hnames : ∀ y ∈ scope.names, y.2 = .local → scope.names.lookup y.1 = some .local)
    (h : wpAny (model PR w) A (eval iter env) (fun xv s₁ => wpAny (model PR w) A (pyIter xv) (CompK w A env E Q elt iter x px ifs scope cl pos) E s₁) E s)
    (hs : ∀ x, foldedSetIterable iter env x = pure x := by intro _; rfl) :
    wpAny (model PR w) A (eval (.ListComp elt [⟨.Name x px, iter, ifs, 0⟩] scope pos) env) Q E s := by
  rw [eval_ListComp]
  exact wpAny_comprehension_free (use := none) rfl hs hclos hkind hnames h
theorem comp_ll {elt iter : Expr} {ifs : List Expr} {scope : Scope} {cl : List (Str × Addr)} {pos : Pos} {E : Value → Shared → Prop} {Q : Value → Shared → Prop}
    (hcell : ∀ y ∈ scope.names, y.2 ≠ .cell) (hkind : scope.kind = .function) (hx : scope.names.lookup x = some .local)
    (hh : A.handled = none) {z : Shared} (hz : Like z s) (hvs : vs.length ≤ 100000) (F : Fr P env.locals s.heap m) (N : News P env.locals s.heap H) (hm : (D, listOf vs.toArray n) ∈ H)
    (J : Nat → List Value → List (Addr × Obj) → Prop) (hJD : ∀ i ys H, J i ys H → (D, listOf vs.toArray n) ∈ H) (hJl : ∀ i ys H, J i ys H → ys.length ≤ i) (h0 : J 0 [] H)
    (turn : ∀ i v ys C s₁ (m₁ : Str → Option Value) H₁ own, Like z s₁ → vs[i]? = some v → J i ys H₁ → Fr P C s₁.heap (fun y => if y = x then some v else m₁ y) → News P C s₁.heap (own ++ H₁) → (∀ p ∈ H₁, ∀ q ∈ own, p.1 ≠ q.1) →
      wpAny (model PR w) A (forIn ifs true fun c r => if r = true then do let ok ← isTrue c (compEnvC scope cl C env) (eval c (compEnvC scope cl C env)); pure (ForInStep.yield ok) else pure (ForInStep.yield r))
        (fun ok s₂ => if ok = true then wpAny (model PR w) A (eval elt (compEnvC scope cl C env)) (fun y s₃ => CompEnd P C z own (J (i + 1)) (ys ++ [y]) s₃) NoE s₂ else CompEnd P C z own (J (i + 1)) ys s₂) NoE s₁)
    (done : ∀ R e ys H₁ s₁, Like z s₁ → J vs.length ys H₁ → Fr P env.locals s₁.heap m → News P env.locals s₁.heap ((R, listOf ys.toArray e) :: H₁) → (∀ p ∈ H₁, p.1 ≠ R) → Q (.ref R) s₁) :
    wpAny (model PR w) A (pyIter (.ref D)) (CompK w A env E Q elt iter x px ifs scope cl pos) E s := by
  have hl : s.heap.IsList D vs.toArray := News.isList N hm
  have hsz : vs.toArray.size = vs.length := by simp
  refine wpAny_pyIter_list hl ?_
  generalize hI0 : s.heap.objs.size = I
  have hDs : D < I := by rw [← hI0]; exact Heap.lt_size (N _ hm).1
  have hLI : env.locals < I := by rw [← hI0]; exact F.ns.lt
  have hPI : P.objs.size ≤ I := Nat.le_trans F.above (Nat.le_of_lt hLI)
  have none_of : ∀ a, I ≤ a → P.get? a = none := fun a ha => Heap.get?_none_of_le (Nat.le_trans hPI ha)
  have W := Walks.list (prog := PR) (w := w) (A := A) hh I D (Nat.ne_of_lt hDs) vs.toArray
  obtain ⟨oL, es, ep, hL, hLd, hLk, hLf⟩ := id F.ns
  refine wpAny_newObj_type (wpAny_newFunctionEnv hcell (by intro y hy; simp at hy) (fun h₁ hns₁ hsb₁ => ?_) hkind)
  dsimp only at hns₁ hsb₁ ⊢
  have hR1 : (s.heap.push { cls := .type "list_iterator", data := .fields #[.ref D, .int 0 0] }).objs.size = I + 1 := by rw [Heap.size_push, hI0]
  rw [hR1]
  have hC1 : ((s.heap.push { cls := .type "list_iterator", data := .fields #[.ref D, .int 0 0] }).push { cls := .type "list", dict := none, data := .seq ([] : List Value).toArray }).objs.size = I + 2 := by rw [Heap.size_push, hR1]
  rw [hC1] at hns₁ hsb₁ ⊢
  have old : ∀ b o, s.heap.get? b = some o → h₁.get? b = some o := fun b o e =>
    hsb₁.extBut b o (Nat.ne_of_lt (Nat.lt_trans (hI0 ▸ Heap.lt_size e) (by lia))) (Heap.get?_push_of_some _ (Heap.get?_push_of_some _ (Heap.get?_push_of_some _ e)))
  have hIo : h₁.get? I = some { cls := .type "list_iterator", data := .fields #[.ref D, .int 0 0] } :=
    hsb₁.extBut _ _ (Nat.ne_of_lt (by lia)) (Heap.get?_push_of_some _ (Heap.get?_push_of_some _ (by rw [← hI0]; exact Heap.get?_push_size _ rfl)))
  have hRo : h₁.get? (I + 1) = some (listOf ([] : List Value).toArray 0) :=
    hsb₁.extBut _ _ (Nat.ne_of_lt (by lia)) (Heap.get?_push_of_some _ (by rw [← hR1]; exact Heap.get?_push_size _ rfl))
  have FC : Fr P (I + 2) h₁ (fun y => ([] : List (Str × Value)).reverse.lookup y) := ⟨hns₁, fun b o e => old b o (F.keep b o e), Nat.le_trans hPI (by lia)⟩
  have NH : News P (I + 2) h₁ H := fun p hp => ⟨old _ _ (N p hp).1, Nat.ne_of_lt (Nat.lt_trans (hI0 ▸ Heap.lt_size (N p hp).1) (by lia)), (N p hp).2.2⟩
  have hLP : P.get? env.locals = none := Heap.get?_none_of_le F.above
  have apH : ∀ p ∈ H, p.1 ≠ I ∧ p.1 ≠ I + 1 ∧ p.1 ≠ env.locals := fun p hp => ⟨Nat.ne_of_lt (hI0 ▸ Heap.lt_size (N p hp).1), Nat.ne_of_lt (Nat.lt_trans (hI0 ▸ Heap.lt_size (N p hp).1) (by lia)), (N p hp).2.1⟩
  have hLC : env.locals ≠ I + 2 := Nat.ne_of_lt (Nat.lt_trans hLI (by lia))
  have hRL : (I + 1 : Addr) ≠ env.locals := Nat.ne_of_gt (Nat.lt_trans hLI (by lia))
  have hIL : I ≠ env.locals := Nat.ne_of_gt hLI
  have hIR : I ≠ I + 1 := Nat.ne_of_lt (by lia)
  have hIC : I ≠ I + 2 := Nat.ne_of_lt (by lia)
  have hRC : (I + 1 : Addr) ≠ I + 2 := Nat.ne_of_lt (by lia)
  have hkx : (compEnvC scope cl (I + 2) env).kindOf x = some .local := lookup_relabel_local hx
  have hp : ((compEnvC scope cl (I + 2) env).scope.kind == .class || ((compEnvC scope cl (I + 2) env).scope.kind == .module && (compEnvC scope cl (I + 2) env).locals != (compEnvC scope cl (I + 2) env).globals)) = false := by simp [compEnvC, relabel, hkind]
  have loop : ∀ s₃ : Shared, s₃.heap = h₁ → Like z s₃ →
      codeAny (model PR w) A (.compLoop (.ListComp elt [⟨.Name x px, iter, ifs, 0⟩] scope pos) 0 (.ref I) (.ref (I + 1)) (compEnvC scope cl (I + 2) env))
        (compPost (model PR w) A E none Q (.ref (I + 1)) (I + 2)) s₃ := by
    intro s₃ hs₃ lk₃
    refine codeAny_compLoop_tests
      (fun k s' => ∃ m' H' ys e i, Like z s' ∧ (s'.heap.IsListIter I D i ∧ s'.heap.IsList D vs.toArray) ∧ Fr P (I + 2) s'.heap m' ∧ News P (I + 2) s'.heap H' ∧ (∀ p ∈ H', p.1 ≠ I ∧ p.1 ≠ I + 1 ∧ p.1 ≠ env.locals) ∧ s'.heap.get? (I + 1) = some (listOf ys.toArray e) ∧ s'.heap.get? env.locals = some oL ∧
        J i ys H' ∧ i ≤ vs.length ∧ k = vs.length + 1 - i) ?_ (vs.length + 1)
      ⟨_, H, [], 0, 0, lk₃, ⟨⟨_, by rw [hs₃]; exact hIo, rfl, rfl⟩, ⟨_, by rw [hs₃]; exact old _ _ (N _ hm).1, rfl, _, rfl⟩⟩, by rw [hs₃]; exact FC, by rw [hs₃]; exact NH, apH, by rw [hs₃]; exact hRo, by rw [hs₃]; exact old _ _ hL, h0, Nat.zero_le _, rfl⟩
    rintro k s' ⟨m', H', ys, e, i, lk, hst', F', N', ap', hR', hL', hJ, hi, rfl⟩
    by_cases hlt : i < vs.length
    · refine W.item i _ _ _ (by rw [hsz]; exact hlt) hst' fun v h₂ tk₂ hv hst₂ hk₂ => ?_
      have k2 : ∀ b o, b ≠ I → s'.heap.get? b = some o → h₂.get? b = some o := fun b o hb => hk₂ b o (by simpa using hb)
      refine wpAny_assign_Name (wpAny_storeName_local hkx (F'.ns.at' fun o e => k2 _ o (Ne.symm hIC) e) (fun h₃ hn₃ hs₃ => ?_) hp)
      have k3 : ∀ b o, b ≠ I → b ≠ I + 2 → s'.heap.get? b = some o → h₃.get? b = some o := fun b o hb hb2 e => (hs₃.2 b hb2).trans (k2 b o hb e)
      have hDC : D ≠ I + 2 := (N' _ (hJD i ys H' hJ)).2.1
      have hst₃ : h₃.IsListIter I D (i + 1) ∧ h₃.IsList D vs.toArray := W.frame _ _ _ hst₂ fun b hb o e => (hs₃.2 b (by
        simp at hb
        rcases hb with rfl | rfl
        · exact hIC
        · exact hDC)).trans e
      obtain ⟨io, hio, -⟩ := id hst₃.1
      have keepP : ∀ b o, P.get? b = some o → h₃.get? b = some o := fun b o e => k3 b o (fun q => by rw [q, none_of I (Nat.le_refl _)] at e; cases e) (fun q => by rw [q, none_of _ (by lia)] at e; cases e) (F'.keep b o e)
      have F₃ : Fr P (I + 2) h₃ (fun y => if y = x then some v else m' y) := ⟨hn₃, keepP, F'.above⟩
      have N₃ : News P (I + 2) h₃ ([(I, io), (I + 1, listOf ys.toArray e), (env.locals, oL)] ++ H') := by
        intro p hp
        simp only [List.cons_append, List.nil_append, List.mem_cons] at hp
        rcases hp with rfl | rfl | rfl | hp
        · exact ⟨hio, hIC, none_of _ (Nat.le_refl _)⟩
        · exact ⟨k3 _ _ (Ne.symm hIR) hRC hR', hRC, none_of _ (by lia)⟩
        · exact ⟨k3 _ _ (Ne.symm hIL) hLC hL', hLC, hLP⟩
        · exact ⟨k3 _ _ (ap' p hp).1 (N' p hp).2.1 (N' p hp).1, (N' p hp).2⟩
      have ap₃ : ∀ p ∈ H', ∀ q ∈ [(I, io), (I + 1, listOf ys.toArray e), (env.locals, oL)], p.1 ≠ q.1 := fun p hp q hq => by
        simp only [List.mem_cons, List.not_mem_nil, or_false] at hq
        rcases hq with rfl | rfl | rfl
        · exact (ap' p hp).1
        · exact (ap' p hp).2.1
        · exact (ap' p hp).2.2
      have fin : ∀ ys' s₅, CompEnd P (I + 2) z [(I, io), (I + 1, listOf ys.toArray e), (env.locals, oL)] (J (i + 1)) ys' s₅ → ∀ h₆ e', h₆.get? (I + 1) = some (listOf ys'.toArray e') → (∀ b, b ≠ I + 1 → h₆.get? b = s₅.heap.get? b) →
          ∃ k, k < vs.length + 1 - i ∧ ∃ m' H' ys e i, Like z { s₅ with heap := h₆ } ∧ (h₆.IsListIter I D i ∧ h₆.IsList D vs.toArray) ∧ Fr P (I + 2) h₆ m' ∧ News P (I + 2) h₆ H' ∧ (∀ p ∈ H', p.1 ≠ I ∧ p.1 ≠ I + 1 ∧ p.1 ≠ env.locals) ∧ h₆.get? (I + 1) = some (listOf ys.toArray e) ∧ h₆.get? env.locals = some oL ∧
            J i ys H' ∧ i ≤ vs.length ∧ k = vs.length + 1 - i := by
        rintro ys' s₅ ⟨H₂, m₂, lk₂, F₂, N₂, ap₂, J₂⟩ h₆ e' hR₆ hk₆
        have n1 := (N₂ (I, io) (by simp)).1
        have n3 := (N₂ (env.locals, oL) (by simp)).1
        have nH : ∀ p ∈ H₂, p.1 ≠ I ∧ p.1 ≠ I + 1 ∧ p.1 ≠ env.locals := fun p hp => ⟨ap₂ p hp (I, io) (by simp), ap₂ p hp (I + 1, listOf ys.toArray e) (by simp), ap₂ p hp (env.locals, oL) (by simp)⟩
        have hD2 := hJD (i + 1) ys' H₂ J₂
        refine ⟨vs.length + 1 - (i + 1), by lia, m₂, H₂, ys', e', i + 1, lk₂.to, ⟨?_, ?_⟩, ⟨F₂.ns.at' fun o e => (hk₆ _ (Ne.symm hRC)).trans e, fun b o e => (hk₆ b (fun q => by rw [q, none_of _ (by lia)] at e; cases e)).trans (F₂.keep b o e), F₂.above⟩, fun p hp => ⟨(hk₆ _ (nH p hp).2.1).trans (N₂ p (by simp [hp])).1, (N₂ p (by simp [hp])).2⟩, nH, hR₆, (hk₆ _ (Ne.symm hRL)).trans n3, J₂, hlt, rfl⟩
        · obtain ⟨io', hio', r⟩ := hst₃.1
          rw [hio] at hio'; cases hio'
          exact ⟨io, (hk₆ _ hIR).trans n1, r⟩
        · exact ⟨_, (hk₆ _ (nH _ hD2).2.1).trans (N₂ _ (by simp [hD2])).1, rfl, _, rfl⟩
      refine wpAny_mono (turn i v ys (I + 2) { s' with heap := h₃, toks := tk₂ + 1 } m' H' [(I, io), (I + 1, listOf ys.toArray e), (env.locals, oL)] lk.to (by simpa using hv) hJ F₃ N₃ ap₃) (fun ok s₄ h₄ => ?_) fun _ _ e => e.elim
      cases ok with
      | false =>
        simp only [Bool.false_eq_true, if_false] at h₄ ⊢
        have hR4 : s₄.heap.get? (I + 1) = some (listOf ys.toArray e) := by obtain ⟨H₂, m₂, _, _, N₂, _⟩ := h₄; exact (N₂ (I + 1, listOf ys.toArray e) (by simp)).1
        obtain ⟨k, hk, r⟩ := fin ys s₄ h₄ s₄.heap e hR4 (fun _ _ => rfl)
        exact ⟨k, hk, r⟩
      | true =>
        simp only [if_true] at h₄ ⊢
        refine wpAny_mono h₄ (fun y s₅ h₅ => ?_) fun _ _ e => e.elim
        have hR5 : s₅.heap.get? (I + 1) = some (listOf ys.toArray e) := by obtain ⟨H₂, m₂, _, _, N₂, _⟩ := h₅; exact (N₂ (I + 1, listOf ys.toArray e) (by simp)).1
        have hyl := hJl i ys H' hJ
        refine wpAny_list_append_plain (l := I + 1) (items := ys.toArray) ⟨e, hR5⟩ (fun h₆ hp₆ hs₆ => ?_) (by rw [sizeLine_eq]; simp; lia)
        obtain ⟨e', he'⟩ := hp₆
        obtain ⟨k, hk, r⟩ := fin (ys ++ [y]) s₅ h₅ h₆ e' (by rw [he']; simp) (fun b hb => hs₆.2 b hb)
        exact ⟨k, hk, r⟩
    · have hin : i = vs.length := by lia
      subst hin
      refine W.done _ _ _ (by rw [hsz]; exact hst') fun h₂ tk₂ hk₂ => ?_
      have k2 : ∀ b o, b ≠ I → s'.heap.get? b = some o → h₂.get? b = some o := fun b o hb => hk₂ b o (by simpa using hb)
      refine ⟨m', F'.ns.at' fun o e => k2 _ o (Ne.symm hIC) e, fun h₃ hs₃ => ?_⟩
      have k3 : ∀ b o, b ≠ I → b ≠ I + 2 → s'.heap.get? b = some o → h₃.get? b = some o := fun b o hb hb2 e => (hs₃.2 b hb2).trans (k2 b o hb e)
      refine done (I + 1) e ys H' { s' with heap := h₃, toks := tk₂ } lk.to hJ ⟨⟨oL, es, ep, k3 _ _ (Ne.symm hIL) hLC hL', hLd, hLk, hLf⟩, fun b o e => k3 b o (fun q => by rw [q, none_of I (Nat.le_refl _)] at e; cases e) (fun q => by rw [q, none_of _ (by lia)] at e; cases e) (F'.keep b o e), F.above⟩ (fun p hp => ?_) fun p hp => (ap' p hp).2.1
      rcases List.mem_cons.mp hp with rfl | hp
      · exact ⟨k3 _ _ (Ne.symm hIR) hRC hR', hRL, none_of _ (by lia)⟩
      · exact ⟨k3 _ _ (ap' p hp).1 (N' p hp).2.1 (N' p hp).1, (ap' p hp).2.2, (N' p hp).2.2⟩
  exact codeAny_compStart_list (loop _ rfl hz.to) (W.self 0 _ _ _ ⟨⟨_, hIo, rfl, rfl⟩, ⟨_, old _ _ (N _ hm).1, rfl, _, rfl⟩⟩ (loop _ rfl hz.to))
end
end
section
/-- the edit distance of two prefixes, the price s -/
def ED (s : Nat → Nat → Int) : Nat → Nat → Int
  | 0, j => 2 * j
  | i + 1, 0 => 2 * (i + 1 : Nat)
  | i + 1, j + 1 => min (min (ED s i j + s i j) (ED s i (j + 1) + 2)) (ED s (i + 1) j + 2)
termination_by i j => (i, j)
theorem ED_zl (s) (j : Nat) : ED s 0 j = 2 * j := by rw [ED]
theorem ED_zr (s) (i : Nat) : ED s i 0 = 2 * i := by cases i <;> simp [ED]
theorem ED_ss (s) (i j : Nat) : ED s (i + 1) (j + 1) = min (min (ED s i j + s i j) (ED s i (j + 1) + 2)) (ED s (i + 1) j + 2) := by rw [ED]
theorem ED_congr {s t : Nat → Nat → Int} : ∀ {i j : Nat}, (∀ a b, a < i → b < j → s a b = t a b) → ED s i j = ED t i j := by
  intro i
  induction i with
  | zero => intro j _; rw [ED_zl, ED_zl]
  | succ i ih =>
    intro j
    induction j with
    | zero => intro _; rw [ED_zr, ED_zr]
    | succ j jh =>
      intro h
      rw [ED_ss, ED_ss, ih (j := j) (fun a b ha hb => h a b (by omega) (by omega)), ih (j := j + 1) (fun a b ha hb => h a b (by omega) (by omega)), jh (fun a b ha hb => h a b (by omega) (by omega)), h i j (by omega) (by omega)]
theorem ED_symm {s : Nat → Nat → Int} : ∀ (i j : Nat), ED s i j = ED (fun a b => s b a) j i := by
  intro i
  induction i with
  | zero => intro j; rw [ED_zl, ED_zr]
  | succ i ih =>
    intro j
    induction j with
    | zero => rw [ED_zl, ED_zr]
    | succ j jh => rw [ED_ss, ED_ss, ← ih j, ← ih (j + 1), ← jh]; omega
variable {s : Nat → Nat → Int} (hs : ∀ i j, 0 ≤ s i j ∧ s i j ≤ 2)
include hs
theorem ED_nonneg : ∀ (i j : Nat), 0 ≤ ED s i j := by
  intro i
  induction i with
  | zero => intro j; rw [ED_zl]; omega
  | succ i ih =>
    intro j
    induction j with
    | zero => rw [ED_zr]; omega
    | succ j jh => rw [ED_ss]; have := ih j; have := ih (j + 1); have := hs i j; omega
theorem ED_shift (h0 : s 0 0 = 0) : ∀ (i j : Nat), ED s (i + 1) (j + 1) = ED (fun a b => s (a + 1) (b + 1)) i j := by
  intro i
  induction i with
  | zero =>
    intro j
    rw [ED_zl]
    induction j with
    | zero => rw [ED_ss, ED_zl, ED_zl, ED_zr, h0]; omega
    | succ j jh => rw [ED_ss, ED_zl, ED_zl, jh]; have := hs 0 (j + 1); omega
  | succ i ih =>
    intro j
    induction j with
    | zero => rw [ED_zr, ED_ss, ED_zr, ED_zr, ih 0, ED_zr]; have := hs (i + 1) 0; omega
    | succ j jh => rw [ED_ss, ih j, ih (j + 1), jh, ED_ss]
theorem ED_lip : ∀ (i j : Nat), ED s i j ≤ ED s (i + 1) j + 2 ∧ ED s i j ≤ ED s i (j + 1) + 2 := by
  intro i
  induction i with
  | zero =>
    intro j
    induction j with
    | zero => rw [ED_zl, ED_zl, ED_zr]; omega
    | succ j jh =>
      rw [ED_ss]
      have h1 := hs 0 j
      simp only [ED_zl] at *
      omega
  | succ i ih =>
    intro j
    induction j with
    | zero =>
      rw [ED_ss, ED_zr, ED_zr, ED_zr]
      have h1 := hs i 0
      have := (ih 1).1
      have := (ih 0).2
      simp only [ED_zr] at *
      omega
    | succ j jh =>
      have h1 := hs (i + 1) j
      have h2 := hs i (j + 1)
      have e1 := ED_ss s (i + 1) j
      have e2 := ED_ss s i (j + 1)
      have e3 := ED_ss s i j
      have := ih j
      have := ih (j + 1)
      have := ih (j + 1 + 1)
      omega
/-- a common last sign -/
theorem ED_last (i j : Nat) (h : s i j = 0) : ED s (i + 1) (j + 1) = ED s i j := by
  rw [ED_ss, h]
  have := ED_lip hs i j
  have a := (ED_lip hs i j).1
  have b := (ED_lip hs i j).2
  have c := ED_lip hs i (j + 1)
  have d := ED_lip hs (i + 1) j
  omega
theorem ED_gap (i j : Nat) : 2 * ((j : Int) - i) ≤ ED s i j := by
  induction i generalizing j with
  | zero => rw [ED_zl]; omega
  | succ i ih => have := ih j; have := (ED_lip hs i j).1; omega
end
section
open PySem PySem.W PySem.Calls PyProof.Rows
def sIdx (x y : List Nat) (i j : Nat) : Int := cst (x.getD i 0) (y.getD j 0)
theorem cst_b (a b : Nat) : 0 ≤ cst a b ∧ cst a b ≤ 2 := by unfold cst; split; lia; split <;> lia
theorem cst_self (a : Nat) : cst a a = 0 := by simp [cst]
theorem cst_comm (a b : Nat) : cst a b = cst b a := by
  unfold cst
  by_cases h : a = b
  · simp [h]
  · rw [if_neg h, if_neg (Ne.symm h)]
    by_cases g : PySem.Txt.lower (S [a]) = PySem.Txt.lower (S [b])
    · rw [if_pos g, if_pos g.symm]
    · rw [if_neg g, if_neg (Ne.symm g)]
theorem sIdx_b (x y : List Nat) : ∀ i j, 0 ≤ sIdx x y i j ∧ sIdx x y i j ≤ 2 := fun i j => cst_b _ _
/-- the edit distance of two words -/
def dist (x y : List Nat) : Int := ED (sIdx x y) x.length y.length
theorem dist_cons (c : Nat) (x y : List Nat) : dist (c :: x) (c :: y) = dist x y := by
  unfold dist
  rw [List.length_cons, List.length_cons, ED_shift (sIdx_b _ _) (by simp [sIdx, cst_self])]
  exact ED_congr fun a b _ _ => by simp [sIdx]
theorem getD_app (x : List Nat) (c : Nat) (i : Nat) (h : i < x.length) : (x ++ [c]).getD i 0 = x.getD i 0 := by
  rw [List.getD_eq_getElem?_getD, List.getD_eq_getElem?_getD, List.getElem?_append_left h]
theorem getD_last (x : List Nat) (c : Nat) : (x ++ [c]).getD x.length 0 = c := by
  rw [List.getD_eq_getElem?_getD]; simp
theorem dist_snoc (c : Nat) (x y : List Nat) : dist (x ++ [c]) (y ++ [c]) = dist x y := by
  unfold dist
  rw [List.length_append, List.length_append]
  show ED _ (x.length + 1) (y.length + 1) = _
  rw [ED_last (sIdx_b _ _) _ _ (by rw [sIdx, getD_last, getD_last, cst_self])]
  exact ED_congr fun a b ha hb => by rw [sIdx, sIdx, getD_app x c a ha, getD_app y c b hb]
theorem dist_pre (p x y : List Nat) : dist (p ++ x) (p ++ y) = dist x y := by
  induction p with
  | nil => rfl
  | cons c p ih => rw [List.cons_append, List.cons_append, dist_cons, ih]
theorem dist_suf (p x y : List Nat) : dist (x ++ p) (y ++ p) = dist x y := by
  induction p generalizing x y with
  | nil => rw [List.append_nil, List.append_nil]
  | cons c p ih =>
    have h : ∀ z : List Nat, z ++ c :: p = (z ++ [c]) ++ p := fun z => by simp
    rw [h, h, ih, dist_snoc]
theorem dist_nil_l (y : List Nat) : dist [] y = 2 * y.length := ED_zl _ _
theorem dist_nil_r (y : List Nat) : dist y [] = 2 * y.length := ED_zr _ _
theorem dist_self (x : List Nat) : dist x x = 0 := by have := dist_pre x [] []; rw [List.append_nil] at this; rw [this, dist_nil_l]; rfl
theorem dist_comm (x y : List Nat) : dist x y = dist y x := by
  unfold dist
  rw [ED_symm]
  exact ED_congr fun a b _ _ => cst_comm _ _
theorem dist_nonneg (x y : List Nat) : 0 ≤ dist x y := ED_nonneg (sIdx_b _ _) _ _
theorem lcp_take : ∀ (a b : List Nat), a.take (lcp a b) = b.take (lcp a b)
  | [], b => by rw [lcp_nil_left]; rfl
  | x :: xs, [] => by rw [lcp_nil_right]; rfl
  | x :: xs, y :: ys => by
    unfold lcp
    split
    · rename_i h; rw [List.take_succ_cons, List.take_succ_cons, lcp_take xs ys, h]
    · rfl
theorem dist_lcp (a b : List Nat) : dist (a.drop (lcp a b)) (b.drop (lcp a b)) = dist a b := by
  have h1 := List.take_append_drop (lcp a b) a
  have h2 := List.take_append_drop (lcp a b) b
  rw [← dist_pre (a.take (lcp a b)), h1, lcp_take, h2]
theorem take_rev (a : List Nat) (k : Nat) : a.take (a.length - k) ++ (a.reverse.take k).reverse = a := by
  rw [List.take_reverse, List.reverse_reverse]
  exact List.take_append_drop _ _
theorem dist_lcs (a b : List Nat) : dist (a.take (a.length - lcp a.reverse b.reverse)) (b.take (b.length - lcp a.reverse b.reverse)) = dist a b := by
  have h1 := take_rev a (lcp a.reverse b.reverse)
  have h2 := take_rev b (lcp a.reverse b.reverse)
  rw [← dist_suf (a.reverse.take (lcp a.reverse b.reverse)).reverse, h1, lcp_take, h2]
/-- what a turn of the inner loop keeps -/
structure RowOk (x y : List Nat) (i : Nat) (k : Nat) (st : RSt) : Prop where
  row : ∀ m, m < x.length → st.row.getD m 0 = ED (sIdx x y) (m + 1) (if m < k then i + 1 else i)
  len : st.row.length = x.length
  dist : st.dist = ED (sIdx x y) k i
  res : st.res = if k = 0 then ED (sIdx x y) 0 i else ED (sIdx x y) k (i + 1)
  mn : ∀ m, m < k → st.mn ≤ ED (sIdx x y) (m + 1) (i + 1)
  mn' : st.mn = big ∨ ∃ m, m < k ∧ st.mn = ED (sIdx x y) (m + 1) (i + 1)
theorem getD_set (l : List Int) (i : Nat) (v : Int) (m : Nat) (hi : i < l.length) : (l.set i v).getD m 0 = if m = i then v else l.getD m 0 := by
  rw [List.getD_eq_getElem?_getD, List.getD_eq_getElem?_getD, List.getElem?_set]
  by_cases h : i = m
  · subst h; simp [hi]
  · rw [if_neg h, if_neg (Ne.symm h)]
theorem RowOk.next {x y : List Nat} {i k : Nat} {st : RSt} (h : RowOk x y i k st) (hk : k < x.length) : RowOk x y i (k + 1) (rowNext st (y.getD i 0) (x.getD k 0) k) := by
  have e := ED_ss (sIdx x y) k i
  have hsub : cst (y.getD i 0) (x.getD k 0) = sIdx x y k i := cst_comm _ _
  have hb := sIdx_b x y k i
  have hrow : st.row.getD k 0 = ED (sIdx x y) (k + 1) i := by rw [h.row k hk, if_neg (by lia)]
  have hr : (rowNext st (y.getD i 0) (x.getD k 0) k).res = ED (sIdx x y) (k + 1) (i + 1) := by
    have hd := h.dist
    have hres := h.res
    simp only [rowNext, hsub, hrow]
    rw [e]
    by_cases h0 : k = 0
    · subst h0
      rw [if_pos rfl] at hres
      have e1 := ED_zl (sIdx x y) i
      have e2 := ED_zl (sIdx x y) (i + 1)
      rw [hd, hres, e1] at *
      rw [e2]
      split <;> split <;> lia
    · rw [if_neg h0] at hres
      rw [hd, hres]
      split <;> split <;> lia
  refine ⟨fun m hm => ?_, ?_, hrow, ?_, fun m hm => ?_, ?_⟩
  · show (st.row.set k (rowNext st (y.getD i 0) (x.getD k 0) k).res).getD m 0 = _
    rw [getD_set _ _ _ _ (by rw [h.len]; exact hk), hr]
    by_cases h1 : m = k
    · subst h1; rw [if_pos rfl, if_pos (by lia)]
    · rw [if_neg h1, h.row m hm]
      by_cases h2 : m < k
      · rw [if_pos h2, if_pos (by lia)]
      · rw [if_neg h2, if_neg (by lia)]
  · show (st.row.set k _).length = _
    rw [List.length_set, h.len]
  · rw [hr, if_neg (by lia)]
  · show (if (rowNext st (y.getD i 0) (x.getD k 0) k).res < st.mn then (rowNext st (y.getD i 0) (x.getD k 0) k).res else st.mn) ≤ _
    rw [hr]
    by_cases h1 : m = k
    · subst h1; split <;> lia
    · have := h.mn m (by lia); split <;> lia
  · show (if (rowNext st (y.getD i 0) (x.getD k 0) k).res < st.mn then (rowNext st (y.getD i 0) (x.getD k 0) k).res else st.mn) = _ ∨ _
    have hm : (rowNext st (y.getD i 0) (x.getD k 0) k).mn = if (rowNext st (y.getD i 0) (x.getD k 0) k).res < st.mn then (rowNext st (y.getD i 0) (x.getD k 0) k).res else st.mn := rfl
    rw [hm, hr]
    by_cases h1 : ED (sIdx x y) (k + 1) (i + 1) < st.mn
    · rw [if_pos h1]; exact .inr ⟨k, by lia, rfl⟩
    · rw [if_neg h1]
      rcases h.mn' with h2 | ⟨m, h2, h3⟩
      · exact .inl h2
      · exact .inr ⟨m, by lia, h3⟩
/-- the row ahead of the turn i -/
def RowAt (x y : List Nat) (i : Nat) (row : List Int) : Prop := row.length = x.length ∧ ∀ m, m < x.length → row.getD m 0 = ED (sIdx x y) (m + 1) i
theorem RowAt.go {x y : List Nat} {i : Nat} {row : List Int} (h : RowAt x y i row) : ∀ k, k ≤ x.length → RowOk x y i k (rowSt (y.getD i 0) x row (i * 2) k)
  | 0, _ => ⟨fun m hm => by rw [if_neg (by lia)]; exact h.2 m hm, h.1, by rw [ED_zl]; simp only [rowSt]; lia, by rw [if_pos rfl, ED_zl]; simp only [rowSt]; lia, fun m hm => by lia, .inl rfl⟩
  | k + 1, hk => by rw [rowSt_succ]; exact (RowAt.go h k (by lia)).next (by lia)
theorem row_above {x y : List Nat} {M : Int} {i : Nat} (h : ∀ m, m ≤ x.length → M < ED (sIdx x y) m i) : ∀ m, m ≤ x.length → M < ED (sIdx x y) m (i + 1) := by
  have hb := sIdx_b x y
  intro m
  induction m with
  | zero => intro _; have := h 0 (by lia); rw [ED_zl] at *; lia
  | succ m ih =>
    intro hm
    have a := ih (by lia)
    have b := h m (by lia)
    have c := h (m + 1) (by lia)
    rw [ED_ss]
    have := hb m i
    lia
theorem row_end {x y : List Nat} {M : Int} (n : Nat) : ∀ {i : Nat}, (∀ m, m ≤ x.length → M < ED (sIdx x y) m i) → M < ED (sIdx x y) x.length (i + n) := by
  induction n with
  | zero => intro i h; exact h _ (Nat.le_refl _)
  | succ n ih => intro i h; have := ih (row_above h); rw [show i + (n + 1) = i + 1 + n by lia]; exact this
/-- the dynamic program tells the distance, or a number above the bound -/
def Tells (d M r : Int) : Prop := (d ≤ M → r = d) ∧ (M < d → M < r)
theorem Tells.rfl' {d M : Int} : Tells d M d := ⟨fun _ => rfl, fun h => h⟩
theorem Tells.above {d M : Int} (h : M < d) : Tells d M (M + 1) := ⟨fun g => by lia, fun _ => by lia⟩
theorem scan_ok {x y : List Nat} {M : Int} (hM : M < big) (hx : x.length ≠ 0) : ∀ (n i : Nat) (row : List Int) (r : Int), RowAt x y i row → i + n = y.length → (n = 0 → r = ED (sIdx x y) x.length i) → Tells (dist x y) M (scan x y M n i row r)
  | 0, i, row, r, h, hn, hr => by
    rw [scan, hr rfl]
    have : i = y.length := by lia
    subst this
    exact Tells.rfl'
  | n + 1, i, row, r, h, hn, hr => by
    have g := RowAt.go h x.length (Nat.le_refl _)
    rw [scan]
    by_cases hm : (rowSt (y.getD i 0) x row (i * 2) x.length).mn > M
    · rw [if_pos hm]
      refine Tells.above ?_
      have hall : ∀ m, m ≤ x.length → M < ED (sIdx x y) m (i + 1) := by
        intro m hle
        cases m with
        | succ m => have := g.mn m (by lia); lia
        | zero =>
          have a := g.mn 0 (by lia)
          have b := ED_ss (sIdx x y) 0 i
          have c := sIdx_b x y 0 i
          rw [ED_zl] at *
          rw [ED_zl] at b
          lia
      have := row_end n hall
      unfold dist
      rw [show y.length = i + 1 + n by lia]
      exact this
    · rw [if_neg hm]
      refine scan_ok hM hx n (i + 1) _ _ ⟨g.len, fun m hle => ?_⟩ (by lia) (fun _ => ?_)
      · rw [g.row m hle, if_pos hle]
      · rw [g.res, if_neg hx]
theorem row0_at (x y : List Nat) : RowAt x y 0 (row0 x.length) := by
  have hl : ∀ (n : Nat) (a : Int), (rangeInts a 2 n).length = n := fun n a => by simp [rangeInts]
  have hg : ∀ (n m : Nat) (a : Int), m < n → (rangeInts a 2 n).getD m 0 = a + 2 * m := fun n m a h => by
    unfold rangeInts
    rw [List.getD_eq_getElem?_getD, List.getElem?_map, List.getElem?_range h]
    simp only [Option.map_some, Option.getD_some]
    lia
  refine ⟨hl _ _, fun m hm => ?_⟩
  rw [row0, hg _ _ _ hm, ED_zr]
  lia
theorem levF_ok (la lb : List Nat) (M : Int) (hM : M < big) : Tells (dist la lb) M (levF la lb M) := by
  unfold levF
  split
  · rename_i h; subst h; rw [dist_self]; exact Tells.rfl'
  dsimp only
  rw [← dist_lcp la lb]
  generalize la.drop (lcp la lb) = a
  generalize lb.drop (lcp la lb) = b
  rw [← dist_lcs a b]
  generalize a.take (a.length - lcp a.reverse b.reverse) = c
  generalize b.take (b.length - lcp a.reverse b.reverse) = d
  split
  · rename_i h
    rcases h with h | h
    · have := List.length_eq_zero_iff.mp h; subst this
      rw [dist_nil_l]; simp only [List.length_nil]
      rw [show (2 : Int) * ((0 : Nat) + (d.length : Int)) = 2 * d.length by lia]; exact Tells.rfl'
    · have := List.length_eq_zero_iff.mp h; subst this
      rw [dist_nil_r]; simp only [List.length_nil]
      rw [show (2 : Int) * ((c.length : Int) + (0 : Nat)) = 2 * c.length by lia]; exact Tells.rfl'
  rename_i h
  have key : ∀ x y : List Nat, x.length ≠ 0 → y.length ≠ 0 → Tells (dist x y) M (if ((y.length : Int) - x.length) * 2 > M then M + 1 else scan x y M y.length 0 (row0 x.length) 0) := by
    intro x y hx hy
    split
    · rename_i g
      refine Tells.above ?_
      have := ED_gap (sIdx_b x y) x.length y.length
      unfold dist
      lia
    · exact scan_ok hM hx _ 0 _ _ (row0_at x y) (by lia) (fun h0 => absurd h0 hy)
  split
  · rw [dist_comm]; exact key d c (by lia) (by lia)
  · exact key c d (by lia) (by lia)
end
section
/-- small letters -/
def small (c : Nat) : Nat := if c = 65 ∨ c = 66 then c + 32 else c
def mk4 (c : Nat) : List (List Nat) := [[], [], [small c, small c], [c]]
def marks (u : List Nat) : List (List Nat) := u.flatMap mk4
theorem marks_len (u : List Nat) : (marks u).length = 4 * u.length := by
  induction u with
  | nil => rfl
  | cons c u ih => rw [marks, List.flatMap_cons, List.length_append]; change _ + (marks u).length = _; rw [ih]; simp only [mk4, List.length_cons, List.length_nil]; omega
theorem marks_app (u v : List Nat) : marks (u ++ v) = marks u ++ marks v := List.flatMap_append
/-- a strand's way through the line -/
def rowI (one : List Nat) : List (List Nat) → List Int → Int → List Int
  | o :: os, x :: xs, st => if one = o ∨ st > x then st :: rowI one os xs x else x :: rowI one os xs st
  | _, _, _ => []
def endsF (mu mv : List (List Nat)) (line : List Int) : List Int := mu.foldl (fun l m => rowI m mv l (-1)) line
def bits (T : Int) (l : List Int) : List Bool := l.map fun x => decide (T ≤ x)
def brow : List Bool → List Bool → Bool → List Bool
  | e :: es, h :: hs, s => if e then s :: brow es hs h else (h || s) :: brow es hs (h && s)
  | _, _, _ => []
def bcar : List Bool → List Bool → Bool → Bool
  | e :: es, h :: hs, s => if e then bcar es hs h else bcar es hs (h && s)
  | _, _, s => s
theorem rowI_bits (T : Int) (one : List Nat) : ∀ (os : List (List Nat)) (xs : List Int) (st : Int), bits T (rowI one os xs st) = brow (os.map fun o => decide (one = o)) (bits T xs) (decide (T ≤ st))
  | [], _, _ => by simp [rowI, brow, bits]
  | o :: os, [], _ => by simp [rowI, brow, bits]
  | o :: os, x :: xs, st => by
    have ih := rowI_bits T one os xs
    simp only [bits] at ih
    simp only [rowI, bits, List.map_cons, brow]
    by_cases h : one = o
    · simp only [h, decide_true, true_or, if_true, List.map_cons]
      rw [← h, ih]
    · simp only [h, decide_false, false_or, Bool.false_eq_true, if_false]
      by_cases g : st > x
      · rw [if_pos g, List.map_cons, ih]
        by_cases a : T ≤ x <;> by_cases b : T ≤ st <;> simp [a, b] <;> omega
      · rw [if_neg g, List.map_cons, ih]
        by_cases a : T ≤ x <;> by_cases b : T ≤ st <;> simp [a, b] <;> omega
theorem brow_app : ∀ (e1 h1 e2 h2 : List Bool) (s : Bool), e1.length = h1.length → brow (e1 ++ e2) (h1 ++ h2) s = brow e1 h1 s ++ brow e2 h2 (bcar e1 h1 s)
  | [], [], _, _, _, _ => by simp [brow, bcar]
  | e :: e1, h :: h1, e2, h2, s, hl => by
    have ih := fun s => brow_app e1 h1 e2 h2 s (by simpa using hl)
    simp only [List.cons_append, brow, bcar, ih]
    split <;> rfl
theorem brow_front : ∀ (n : Nat) (e1 : List Bool), e1.length = n → brow e1 (List.replicate n false) false = List.replicate n false ∧ bcar e1 (List.replicate n false) false = false
  | 0, e1, h => by
    have := List.length_eq_zero_iff.mp h; subst this; exact ⟨rfl, rfl⟩
  | n + 1, e :: e1, h => by
    have ih := brow_front n e1 (by simpa using h)
    simp only [List.replicate_succ, brow, bcar, Bool.or_false, Bool.and_false, ih, ite_self, and_self]
theorem brow_take : ∀ (n : Nat) (es hs : List Bool) (s : Bool), (brow es hs s).take n = brow (es.take n) (hs.take n) s
  | 0, es, hs, s => by simp [brow]
  | n + 1, [], hs, s => by simp [brow]
  | n + 1, e :: es, [], s => by simp [brow]
  | n + 1, e :: es, h :: hs, s => by
    simp only [brow, List.take_succ_cons]
    split <;> rw [List.take_succ_cons, brow_take]
theorem brow_len : ∀ (es hs : List Bool) (s : Bool), es.length = hs.length → (brow es hs s).length = hs.length
  | [], [], s, _ => rfl
  | e :: es, h :: hs, s, hl => by
    have ih := fun s => brow_len es hs s (by simpa using hl)
    simp only [brow]
    split <;> rw [List.length_cons, List.length_cons, ih]
def eqs (m : List Nat) (mv : List (List Nat)) : List Bool := mv.map fun o => decide (m = o)
theorem eqs_len (m) (mv : List (List Nat)) : (eqs m mv).length = mv.length := List.length_map _
def bends (mu mv : List (List Nat)) (l : List Bool) : List Bool := mu.foldl (fun l m => brow (eqs m mv) l false) l
theorem ends_bits {T : Int} (hT : 0 ≤ T) (mv : List (List Nat)) : ∀ (mu : List (List Nat)) (line : List Int), bits T (endsF mu mv line) = bends mu mv (bits T line)
  | [], line => rfl
  | m :: mu, line => by
    have := ends_bits hT mv mu (rowI m mv line (-1))
    simp only [endsF, bends, List.foldl_cons] at this ⊢
    rw [this, rowI_bits]
    simp only [show ¬ T ≤ -1 by omega, decide_false]
    rfl
theorem bends_take (n : Nat) (mv : List (List Nat)) : ∀ (mu : List (List Nat)) (l : List Bool), (bends mu mv l).take n = bends mu (mv.take n) (l.take n)
  | [], l => rfl
  | m :: mu, l => by
    have := bends_take n mv mu
    simp only [bends, List.foldl_cons] at this ⊢
    rw [this, brow_take]
    simp only [eqs, List.map_take]
theorem bends_front (n : Nat) (m1 mv : List (List Nat)) (h : m1.length = n) : ∀ (mu : List (List Nat)) (l : List Bool), bends mu (m1 ++ mv) (List.replicate n false ++ l) = List.replicate n false ++ bends mu mv l
  | [], l => rfl
  | m :: mu, l => by
    have := bends_front n m1 mv h mu
    simp only [bends, List.foldl_cons] at this ⊢
    have hf := brow_front n (eqs m m1) (by rw [eqs_len, h])
    rw [eqs, List.map_append, ← eqs, ← eqs, brow_app _ _ _ _ _ (by rw [eqs_len, List.length_replicate, h]), hf.1, hf.2, this]
/-- one sign's block -/
def cnt4 (a b c d : Bool) : Int := a.toNat + b.toNat + c.toNat + d.toNat
def g0 : List Bool := [true, true, false, false]
def g2 (e : Bool) : List Bool := [false, false, e, false]
def g3 (e : Bool) : List Bool := [false, false, false, e]
def blkB (e2 e3 s0 s1 s2 s3 : Bool) (l : List Bool) : List Bool := brow (g3 e3) (brow (g2 e2) (brow g0 (brow g0 l s0) s1) s2) s3
def blkR0 (s0 : Bool) (l : List Bool) : Bool := bcar g0 l s0
def blkR1 (s0 s1 : Bool) (l : List Bool) : Bool := bcar g0 (brow g0 l s0) s1
def blkR2 (e2 s0 s1 s2 : Bool) (l : List Bool) : Bool := bcar (g2 e2) (brow g0 (brow g0 l s0) s1) s2
def blkR3 (e2 e3 s0 s1 s2 s3 : Bool) (l : List Bool) : Bool := bcar (g3 e3) (brow (g2 e2) (brow g0 (brow g0 l s0) s1) s2) s3
def price (e2 e3 : Bool) : Int := if e3 then 0 else if e2 then 1 else 2
def okL (l : List Bool) : Bool := match l with | [a, b, _, _] => a || !b | _ => false
def okS (a b : Bool) : Bool := !a || b
def cntL (l : List Bool) : Int := (l.count true : Nat)
def mn3 (a b c : Int) : Int := min (min a b) c
set_option maxRecDepth 100000 in
theorem blk_ok : ∀ e2 e3 s0 s1 s2 s3 h0 h1 h2 h3 : Bool, (e3 → e2) → okL [h0, h1, h2, h3] → okS s0 s1 →
    okL (blkB e2 e3 s0 s1 s2 s3 [h0, h1, h2, h3]) ∧ okS (blkR0 s0 [h0, h1, h2, h3]) (blkR1 s0 s1 [h0, h1, h2, h3]) ∧
    cntL (blkB e2 e3 s0 s1 s2 s3 [h0, h1, h2, h3]) = cnt4 s0 s1 s2 s3 + mn3 (price e2 e3) (cntL [h0, h1, h2, h3]) (4 - cnt4 s0 s1 s2 s3) ∧
    cnt4 (blkR0 s0 [h0, h1, h2, h3]) (blkR1 s0 s1 [h0, h1, h2, h3]) (blkR2 e2 s0 s1 s2 [h0, h1, h2, h3]) (blkR3 e2 e3 s0 s1 s2 s3 [h0, h1, h2, h3]) = cntL [h0, h1, h2, h3] - mn3 (price e2 e3) (cntL [h0, h1, h2, h3]) (4 - cnt4 s0 s1 s2 s3) := by
  decide +kernel
def rows4 (x : Nat) (w : List Nat) (l : List Bool) (s0 s1 s2 s3 : Bool) : List Bool :=
  brow (eqs [x] (marks w)) (brow (eqs [small x, small x] (marks w)) (brow (eqs [] (marks w)) (brow (eqs [] (marks w)) l s0) s1) s2) s3
theorem eqs_app (m) (a b : List (List Nat)) : eqs m (a ++ b) = eqs m a ++ eqs m b := List.map_append
theorem len4 {l : List Bool} (h : okL l = true) : ∃ a b c d, l = [a, b, c, d] := by
  match l, h with
  | [a, b, c, d], _ => exact ⟨a, b, c, d, rfl⟩
theorem rows4_cons (x y : Nat) (w : List Nat) (h0 h1 h2 h3 : Bool) (l : List Bool) (s0 s1 s2 s3 : Bool) :
    rows4 x (y :: w) ([h0, h1, h2, h3] ++ l) s0 s1 s2 s3 = blkB (decide (small x = small y)) (decide (x = y)) s0 s1 s2 s3 [h0, h1, h2, h3] ++
      rows4 x w l (blkR0 s0 [h0, h1, h2, h3]) (blkR1 s0 s1 [h0, h1, h2, h3]) (blkR2 (decide (small x = small y)) s0 s1 s2 [h0, h1, h2, h3]) (blkR3 (decide (small x = small y)) (decide (x = y)) s0 s1 s2 s3 [h0, h1, h2, h3]) := by
  have e0 : eqs [] (marks (y :: w)) = g0 ++ eqs [] (marks w) := by
    rw [marks, List.flatMap_cons, eqs_app]; rfl
  have e2 : eqs [small x, small x] (marks (y :: w)) = g2 (decide (small x = small y)) ++ eqs [small x, small x] (marks w) := by
    rw [marks, List.flatMap_cons, eqs_app]
    simp [eqs, mk4, g2]; rfl
  have e3 : eqs [x] (marks (y :: w)) = g3 (decide (x = y)) ++ eqs [x] (marks w) := by
    rw [marks, List.flatMap_cons, eqs_app]
    simp [eqs, mk4, g3]; rfl
  unfold rows4
  have q0 : (brow g0 [h0, h1, h2, h3] s0).length = 4 := brow_len _ _ _ rfl
  have q1 : (brow g0 (brow g0 [h0, h1, h2, h3] s0) s1).length = 4 := (brow_len _ _ _ (by rw [q0]; rfl)).trans q0
  have q2 : (brow (g2 (decide (small x = small y))) (brow g0 (brow g0 [h0, h1, h2, h3] s0) s1) s2).length = 4 := (brow_len _ _ _ (by rw [q1]; rfl)).trans q1
  rw [e0, e2, e3, brow_app g0 [h0, h1, h2, h3] _ _ _ rfl, brow_app g0 _ _ _ _ q0.symm, brow_app (g2 _) _ _ _ _ q1.symm, brow_app (g3 _) _ _ _ _ q2.symm]
  rfl
/-- a line in blocks: each block tells the difference of two distances -/
def GInv : List Nat → (Nat → Int) → List Bool → Prop
  | [], _, l => l = []
  | _ :: w, f, l => ∃ h0 h1 h2 h3 r, l = [h0, h1, h2, h3] ++ r ∧ okL [h0, h1, h2, h3] = true ∧ cntL [h0, h1, h2, h3] = 2 + f 1 - f 0 ∧ GInv w (fun j => f (j + 1)) r
/-- the two prices are one -/
def Same (x y : Nat) : Prop := cst x y = price (decide (small x = small y)) (decide (x = y))
theorem rows4_ok {x : Nat} : ∀ (w : List Nat) (f g : Nat → Int) (l : List Bool) (s0 s1 s2 s3 : Bool), (∀ y ∈ w, Same x y) → GInv w f l → okS s0 s1 = true → cnt4 s0 s1 s2 s3 = 2 - g 0 + f 0 →
    (∀ j, j < w.length → g (j + 1) = min (min (f j + cst x (w.getD j 0)) (f (j + 1) + 2)) (g j + 2)) → GInv w g (rows4 x w l s0 s1 s2 s3)
  | [], f, g, l, s0, s1, s2, s3, _, h, _, _, _ => by
    simp only [GInv] at h ⊢
    subst h
    simp [rows4, brow, eqs, marks]
  | y :: w, f, g, l, s0, s1, s2, s3, hS, ⟨h0, h1, h2, h3, r, hl, ho, hc, hr⟩, hs, hcs, hg => by
    subst hl
    rw [rows4_cons]
    obtain ⟨k1, k2, k3, k4⟩ := blk_ok (decide (small x = small y)) (decide (x = y)) s0 s1 s2 s3 h0 h1 h2 h3 (by simp only [decide_eq_true_eq]; intro h; rw [h]) ho hs
    obtain ⟨b0, b1, b2, b3, hb⟩ := len4 k1
    rw [hb] at k1 k3 ⊢
    have hS0 := hS y List.mem_cons_self
    unfold Same at hS0
    have hg0 := hg 0 (by simp)
    rw [List.getD_cons_zero, hS0] at hg0
    simp only [Nat.zero_add] at hg0
    generalize price (decide (small x = small y)) (decide (x = y)) = p at *
    refine ⟨b0, b1, b2, b3, _, rfl, k1, ?_, ?_⟩
    · rw [k3, hcs, hc]; unfold mn3; omega
    · refine rows4_ok w _ _ r _ _ _ _ (fun z hz => hS z (List.mem_cons_of_mem _ hz)) hr k2 ?_ fun j hj => ?_
      · rw [k4, hcs, hc]; simp only [Nat.zero_add]; unfold mn3; omega
      · have := hg (j + 1) (by simp only [List.length_cons]; omega)
        rw [List.getD_cons_succ] at this
        exact this
theorem GInv.total : ∀ (w : List Nat) (f : Nat → Int) (l : List Bool), GInv w f l → cntL l = 2 * w.length + f w.length - f 0
  | [], f, l, h => by simp only [GInv] at h; subst h; simp [cntL]
  | y :: w, f, l, ⟨h0, h1, h2, h3, r, hl, ho, hc, hr⟩ => by
    have ih := GInv.total w _ r hr
    subst hl
    simp only [cntL, List.count_append, List.length_cons, Nat.zero_add] at hc ih ⊢
    omega
theorem GInv.init : ∀ (w : List Nat) (a : Int), GInv w (fun j => 2 * (j : Int) + a) (List.replicate (4 * w.length) true)
  | [], a => rfl
  | y :: w, a => by
    refine ⟨true, true, true, true, List.replicate (4 * w.length) true, ?_, rfl, ?_, ?_⟩
    · rw [show 4 * (y :: w).length = 4 + 4 * w.length by simp only [List.length_cons]; omega, ← List.replicate_append_replicate]; rfl
    · show (4 : Int) = 2 + (2 * ((1 : Nat) : Int) + a) - (2 * ((0 : Nat) : Int) + a); omega
    · have := GInv.init w (a + 2)
      have e : (fun j : Nat => 2 * (j : Int) + (a + 2)) = fun j : Nat => 2 * ((j + 1 : Nat) : Int) + a := by funext j; omega
      rw [e] at this
      exact this
theorem bends_blocks (u w : List Nat) (hS : ∀ x ∈ u, ∀ y ∈ w, Same x y) : ∀ I, I ≤ u.length → GInv w (fun j => ED (sIdx u w) I j) (bends (marks (u.take I)) (marks w) (List.replicate (4 * w.length) true))
  | 0, _ => by
    have := GInv.init w 0
    simp only [Int.add_zero] at this
    have e : (fun j => ED (sIdx u w) 0 j) = fun j : Nat => 2 * (j : Int) := by funext j; exact ED_zl _ _
    rw [e]
    exact this
  | I + 1, hI => by
    have ih := bends_blocks u w hS I (by omega)
    have hI' : I < u.length := by omega
    rw [List.take_succ_eq_append_getElem hI', marks_app]
    unfold bends at ih ⊢
    rw [List.foldl_append]
    have hx : u.getD I 0 = u[I] := by rw [List.getD_eq_getElem?_getD, List.getElem?_eq_getElem hI']; rfl
    refine rows4_ok w _ _ _ false false false false (fun y hy => hS _ (List.getElem_mem hI') y hy) ih rfl ?_ fun j hj => ?_
    · simp only [ED_zr]; show (0 : Int) = _; omega
    · rw [ED_ss]; simp only [sIdx, hx]
/-- the strands tell the distance -/
theorem bends_dist (u w : List Nat) (hS : ∀ x ∈ u, ∀ y ∈ w, Same x y) : cntL (bends (marks u) (marks w) (List.replicate (4 * w.length) true)) = 2 * w.length - 2 * u.length + dist u w := by
  have h := bends_blocks u w hS u.length (Nat.le_refl _)
  rw [List.take_length] at h
  rw [GInv.total _ _ _ h, ED_zr]
  unfold dist
  omega
end
section
open PySem
/-- the signs of the words -/
def alpha : List Nat := [97, 65, 98, 66, 34, 92, 124, 39, 35, 12, 11, 10, 9, 13, 32]
theorem alpha_same : ∀ x ∈ alpha, ∀ y ∈ alpha, Same x y := by
  have h : ∀ x ∈ alpha, Txt.lower (S [x]) = S [small x] := by
    intro x hx
    simp only [alpha, List.mem_cons, List.not_mem_nil, or_false] at hx
    rcases hx with h | h | h | h | h | h | h | h | h | h | h | h | h | h | h <;> subst h <;> rfl
  intro x hx y hy
  unfold Same cst price
  rw [h x hx, h y hy]
  have e : S [small x] = S [small y] ↔ small x = small y := by
    constructor
    · intro h; exact (by simpa using S_inj.mp h)
    · intro h; rw [h]
  by_cases h1 : x = y <;> by_cases h2 : small x = small y <;> simp [h1, h2, e]
def line0 (n : Nat) : List Int := (List.range n).map Int.ofNat
theorem bits_line0 (a b : Nat) : bits (a : Int) (line0 (a + b)) = List.replicate a false ++ List.replicate b true := by
  unfold bits line0
  rw [List.range_add, List.map_append, List.map_append]
  congr 1
  · rw [List.map_map]
    refine List.eq_replicate_iff.mpr ⟨by simp, fun x hx => ?_⟩
    obtain ⟨k, hk, rfl⟩ := List.mem_map.mp hx
    have := List.mem_range.mp hk
    simp; lia
  · rw [List.map_map, List.map_map]
    refine List.eq_replicate_iff.mpr ⟨by simp, fun x hx => ?_⟩
    obtain ⟨k, hk, rfl⟩ := List.mem_map.mp hx
    simp; lia
theorem cnt_bits (T : Int) (l : List Int) : cntL (bits T l) = ((l.filter fun x => decide (T ≤ x)).length : Nat) := by
  unfold cntL bits
  rw [List.count_eq_countP, List.countP_map, List.countP_eq_length_filter]
  congr 3
  funext x
  simp
theorem marks_take (v : List Nat) (j : Nat) (h : j ≤ v.length) : (marks v).take (4 * j) = marks (v.take j) := by
  have := marks_app (v.take j) (v.drop j)
  rw [List.take_append_drop] at this
  rw [this, List.take_append_of_le_length (by rw [marks_len, List.length_take]; lia), List.take_of_length_le (by rw [marks_len, List.length_take]; lia)]
theorem bits_take (T : Int) (l : List Int) (n : Nat) : bits T (l.take n) = (bits T l).take n := List.map_take
/-- the law of the strands -/
theorem ends_law {u v : List Nat} (hu : ∀ x ∈ u, x ∈ alpha) (hv : ∀ x ∈ v, x ∈ alpha) {i j : Nat} (hij : i ≤ j) (hj : j ≤ v.length) :
    2 * ((u.length : Int) - (j - i)) + ((((endsF (marks u) (marks v) (line0 (4 * v.length))).take (4 * j)).filter fun x => decide ((4 * (i : Int)) ≤ x)).length : Nat) = dist u ((v.take j).drop i) := by
  have hw : ((v.take j).drop i).length = j - i := by rw [List.length_drop, List.length_take]; lia
  rw [← cnt_bits, bits_take, ends_bits (by lia), bends_take, marks_take _ _ hj]
  have e : bits (4 * (i : Int)) (line0 (4 * v.length)) = List.replicate (4 * i) false ++ List.replicate (4 * v.length - 4 * i) true := by
    have := bits_line0 (4 * i) (4 * v.length - 4 * i)
    rw [show 4 * i + (4 * v.length - 4 * i) = 4 * v.length by lia] at this
    rw [← this]
    congr 1
  rw [e, List.take_append, List.length_replicate, List.take_replicate, List.take_replicate, Nat.min_eq_right (by lia : 4 * i ≤ 4 * j)]
  have m := marks_app ((v.take j).take i) ((v.take j).drop i)
  rw [List.take_append_drop] at m
  rw [m, bends_front _ _ _ (by rw [marks_len, List.length_take, List.length_take]; lia)]
  have h := bends_dist u ((v.take j).drop i) (fun x hx y hy => alpha_same x (hu x hx) y (hv y (List.mem_of_mem_take (List.mem_of_mem_drop hy))))
  rw [hw] at h
  rw [show min (4 * j - 4 * i) (4 * v.length - 4 * i) = 4 * (j - i) by lia]
  simp only [cntL, List.count_append] at h ⊢
  rw [List.count_replicate]
  simp only [Bool.false_eq_true, beq_iff_eq, if_false] at *
  lia
end
section
abbrev ws (c : Nat) : Prop := c ∈ [10, 9, 13, 32]
/-- a quoted word's rest -/
def quo (tok : List Nat) : List Nat → List Nat × List Nat
  | [] => (tok, [])
  | c :: r => if c = 34 then (tok, r) else if c = 92 then quo (tok ++ r.take 1) r.tail else quo (tok ++ [c]) r
termination_by r => r.length
decreasing_by all_goals simp <;> lia
/-- a bare word's rest -/
def bar (tok : List Nat) : List Nat → List Nat × List Nat
  | [] => (tok, [])
  | c :: r => if ws c then (tok, r) else if c = 92 then bar (tok ++ r.take 1) r.tail else bar (tok ++ [c]) r
termination_by r => r.length
decreasing_by all_goals simp <;> lia
def tokF : List Nat → List Nat × List Nat
  | [] => ([], [])
  | c :: r => if ws c then tokF r else if c = 34 then quo [] r else if c = 92 then bar (r.take 1) r.tail else bar [c] r
def cnt (l : List Nat) : Int := (l.count 10 : Nat)
theorem cnt_nonneg (l : List Nat) : 0 ≤ cnt l := by unfold cnt; lia
theorem cnt_le (l : List Nat) : cnt l ≤ l.length := by unfold cnt; have := List.count_le_length (a := 10) (l := l); lia
theorem cnt_cons (c : Nat) (l : List Nat) : cnt (c :: l) = cnt l + if c = 10 then 1 else 0 := by
  unfold cnt; rw [List.count_cons]; by_cases h : c = 10 <;> simp [h]
theorem cnt_app (a b : List Nat) : cnt (a ++ b) = cnt a + cnt b := by
  unfold cnt; rw [List.count_append]; lia
theorem cnt_tail (l : List Nat) : cnt l = cnt l.tail + if l.take 1 = [10] then 1 else 0 := by
  cases l with
  | nil => simp [cnt]
  | cons c r => rw [cnt_cons]; simp
theorem quo_cons (tok : List Nat) (c : Nat) (r : List Nat) : quo tok (c :: r) = if c = 34 then (tok, r) else if c = 92 then quo (tok ++ r.take 1) r.tail else quo (tok ++ [c]) r := by rw [quo]
theorem quo_nil (tok : List Nat) : quo tok [] = (tok, []) := by rw [quo]
theorem bar_cons (tok : List Nat) (c : Nat) (r : List Nat) : bar tok (c :: r) = if ws c then (tok, r) else if c = 92 then bar (tok ++ r.take 1) r.tail else bar (tok ++ [c]) r := by rw [bar]
theorem bar_nil (tok : List Nat) : bar tok [] = (tok, []) := by rw [bar]
theorem tokF_cons (c : Nat) (r : List Nat) : tokF (c :: r) = if ws c then tokF r else if c = 34 then quo [] r else if c = 92 then bar (r.take 1) r.tail else bar [c] r := by rw [tokF]
theorem quo_len (r : List Nat) : ∀ (n : Nat) (tok : List Nat), r.length ≤ n → (quo tok r).2.length ≤ r.length := by
  intro n
  induction n generalizing r with
  | zero => intro tok h; have := List.length_eq_zero_iff.mp (Nat.le_zero.mp h); subst this; rw [quo_nil]; exact Nat.le_refl _
  | succ n ih =>
    intro tok h
    cases r with
    | nil => rw [quo_nil]; exact Nat.le_refl _
    | cons c r =>
      simp only [List.length_cons] at h
      rw [quo_cons]
      split
      · simp
      · split
        · have := ih r.tail (tok ++ r.take 1) (by rw [List.length_tail]; lia)
          rw [List.length_tail] at this; simp only [List.length_cons]; lia
        · have := ih r (tok ++ [c]) (by lia); simp only [List.length_cons]; lia
theorem bar_len (r : List Nat) : ∀ (n : Nat) (tok : List Nat), r.length ≤ n → (bar tok r).2.length ≤ r.length := by
  intro n
  induction n generalizing r with
  | zero => intro tok h; have := List.length_eq_zero_iff.mp (Nat.le_zero.mp h); subst this; rw [bar_nil]; exact Nat.le_refl _
  | succ n ih =>
    intro tok h
    cases r with
    | nil => rw [bar_nil]; exact Nat.le_refl _
    | cons c r =>
      simp only [List.length_cons] at h
      rw [bar_cons]
      split
      · simp
      · split
        · have := ih r.tail (tok ++ r.take 1) (by rw [List.length_tail]; lia)
          rw [List.length_tail] at this; simp only [List.length_cons]; lia
        · have := ih r (tok ++ [c]) (by lia); simp only [List.length_cons]; lia
theorem tokF_len : ∀ (r : List Nat), (tokF r).2.length ≤ r.length
  | [] => Nat.le_refl _
  | c :: r => by
    rw [tokF_cons]
    have ih := tokF_len r
    simp only [List.length_cons]
    split
    · lia
    · split
      · have := quo_len r _ [] (Nat.le_refl _); lia
      · split
        · have := bar_len r.tail _ (r.take 1) (Nat.le_refl _); rw [List.length_tail] at this; lia
        · have := bar_len r _ [c] (Nat.le_refl _); lia
/-- what is written of a word's sign k -/
def need (q : Bool) (k : Nat) (c : Nat) : Bool := if q then decide (c ∈ [34, 92]) else decide (c ∈ [10, 9, 13, 32, 92]) || (decide (k = 0) && decide (c = 34))
def piece (q : Bool) (word : List Nat) (sl : List Int) (k : Nat) : List Nat := if need q k (word.getD k 0) = true ∨ (sl.getD k 0) % 2 = 1 then [92, word.getD k 0] else [word.getD k 0]
def body (q : Bool) (word : List Nat) (sl : List Int) (n : Nat) : List Nat := (List.range' 0 n).flatMap (piece q word sl)
theorem body_zero (q : Bool) (word : List Nat) (sl : List Int) : body q word sl 0 = [] := rfl
theorem body_succ (q : Bool) (word : List Nat) (sl : List Int) (n : Nat) : body q word sl (n + 1) = body q word sl n ++ piece q word sl n := by
  unfold body
  rw [List.range'_concat, List.flatMap_append]
  simp
theorem body_len (q : Bool) (word : List Nat) (sl : List Int) : ∀ n, (body q word sl n).length ≤ 2 * n
  | 0 => Nat.zero_le _
  | n + 1 => by
    rw [body_succ, List.length_append]
    have := body_len q word sl n
    have : (piece q word sl n).length ≤ 2 := by unfold piece; split <;> simp
    lia
theorem quo_body {word : List Nat} {sl : List Int} (rest : List Nat) : ∀ (n s : Nat) (tok : List Nat), quo tok ((List.range' s n).flatMap (piece true word sl) ++ rest) = quo (tok ++ (List.range' s n).map fun k => word.getD k 0) rest
  | 0, s, tok => by simp
  | n + 1, s, tok => by
    rw [List.range'_succ, List.flatMap_cons, List.map_cons, List.append_assoc]
    have ih := quo_body (word := word) (sl := sl) rest n (s + 1)
    unfold piece need
    simp only [if_true]
    split
    · rw [List.cons_append, List.cons_append, List.nil_append, quo_cons, if_neg (by decide), if_pos rfl]
      simp only [List.take_succ_cons, List.take_zero, List.tail_cons]
      refine (ih _).trans ?_
      rw [List.append_assoc]; rfl
    · rename_i h
      simp only [List.mem_cons, List.not_mem_nil, or_false, decide_eq_true_eq, not_or] at h
      rw [List.cons_append, List.nil_append, quo_cons, if_neg h.1.1, if_neg h.1.2]
      refine (ih _).trans ?_
      rw [List.append_assoc]; rfl
theorem bar_body {word : List Nat} {sl : List Int} (rest : List Nat) : ∀ (n s : Nat) (tok : List Nat), 0 < s → bar tok ((List.range' s n).flatMap (piece false word sl) ++ rest) = bar (tok ++ (List.range' s n).map fun k => word.getD k 0) rest
  | 0, s, tok, _ => by simp
  | n + 1, s, tok, hs => by
    rw [List.range'_succ, List.flatMap_cons, List.map_cons, List.append_assoc]
    have ih := fun tok => bar_body (word := word) (sl := sl) rest n (s + 1) tok (by lia)
    unfold piece need
    simp only [if_false, Bool.false_eq_true, show ¬ s = 0 by lia, decide_false, Bool.false_and, Bool.or_false]
    split
    · rw [List.cons_append, List.cons_append, List.nil_append, bar_cons, if_neg (by decide), if_pos rfl]
      simp only [List.take_succ_cons, List.take_zero, List.tail_cons]
      refine (ih _).trans ?_
      rw [List.append_assoc]; rfl
    · rename_i h
      simp only [List.mem_cons, List.not_mem_nil, or_false, decide_eq_true_eq, not_or] at h
      rw [List.cons_append, List.nil_append, bar_cons, if_neg (fun hh => by simp only [ws, List.mem_cons, List.not_mem_nil, or_false] at hh; lia), if_neg h.1.2.2.2.2]
      refine (ih _).trans ?_
      rw [List.append_assoc]; rfl
theorem map_word (word : List Nat) : (List.range' 0 word.length).map (fun k => word.getD k 0) = word := by
  rw [← List.range_eq_range']
  refine List.ext_getElem (by simp) fun i h1 h2 => ?_
  rw [List.getElem_map, List.getElem_range, List.getD_eq_getElem?_getD, List.getElem?_eq_getElem h2]
  rfl
theorem tokF_quoted (word : List Nat) (sl : List Int) (rest : List Nat) : tokF (34 :: (body true word sl word.length ++ rest)) = quo word rest := by
  rw [tokF_cons, if_neg (by decide), if_pos rfl]
  unfold body
  rw [quo_body, map_word, List.nil_append]
theorem tokF_bare (word : List Nat) (sl : List Int) (rest : List Nat) (hw : word ≠ []) : tokF (body false word sl word.length ++ rest) = bar word rest := by
  obtain ⟨c, r, rfl⟩ := List.exists_cons_of_ne_nil hw
  have hm := map_word (c :: r)
  unfold body
  rw [List.length_cons, List.range'_succ, List.flatMap_cons, List.append_assoc] at *
  rw [List.map_cons] at hm
  have hb := bar_body (word := c :: r) (sl := sl) rest r.length (0 + 1) [c] (by lia)
  have key : tokF (piece false (c :: r) sl 0 ++ ((List.range' (0 + 1) r.length).flatMap (piece false (c :: r) sl) ++ rest)) = bar [c] ((List.range' (0 + 1) r.length).flatMap (piece false (c :: r) sl) ++ rest) := by
    generalize (List.range' (0 + 1) r.length).flatMap (piece false (c :: r) sl) ++ rest = z
    unfold piece need
    simp only [if_false, Bool.false_eq_true, decide_true, Bool.true_and, List.getD_cons_zero]
    split
    · rw [List.cons_append, List.cons_append, List.nil_append, tokF_cons, if_neg (by decide), if_neg (by decide), if_pos rfl]
      rfl
    · rename_i h
      simp only [List.mem_cons, List.not_mem_nil, or_false, Bool.or_eq_true, decide_eq_true_eq, not_or] at h
      rw [List.cons_append, List.nil_append, tokF_cons, if_neg (fun hh => by simp only [ws, List.mem_cons, List.not_mem_nil, or_false] at hh; lia), if_neg h.1.2, if_neg h.1.1.2.2.2.2]
  rw [key, hb]
  have e : [c] ++ (List.range' (0 + 1) r.length).map (fun k => (c :: r).getD k 0) = c :: r := hm
  rw [e]
theorem tokF_gap (n : Nat) (c : Nat) (hc : ws c) (x : List Nat) : tokF (List.replicate n c ++ x) = tokF x := by
  induction n with
  | zero => rfl
  | succ n ih => rw [List.replicate_succ, List.cons_append, tokF_cons, if_pos hc, ih]
/-- a word in its writing, without and with the last sign -/
def open1 (q : Bool) (word : List Nat) (sl : List Int) : List Nat := (if q then [34] else []) ++ body q word sl word.length
def close1 (q : Bool) (white : Nat) : Nat := if q then 34 else white
theorem tok_open (q : Bool) (word : List Nat) (sl : List Int) (rest : List Nat) (hq : word = [] → q = true) : tokF (open1 q word sl ++ rest) = if q then quo word rest else bar word rest := by
  unfold open1
  cases q with
  | true => simp only [if_true, List.append_assoc]; exact tokF_quoted word sl rest
  | false => simp only [Bool.false_eq_true, if_false, List.nil_append]; exact tokF_bare word sl rest (fun h => by simpa using hq h)
theorem tok_closed (q : Bool) (word : List Nat) (sl : List Int) (white : Nat) (rest : List Nat) (hw : ws white) (hq : word = [] → q = true) : tokF (open1 q word sl ++ close1 q white :: rest) = (word, rest) := by
  rw [tok_open _ _ _ _ hq]
  unfold close1
  cases q with
  | true => simp only [if_true, quo_cons]
  | false => simp only [Bool.false_eq_true, if_false, bar_cons, if_pos hw]
theorem tok_cut (q : Bool) (word : List Nat) (sl : List Int) (n : Nat) (hn : n ≤ 1) (hq : word = [] → q = true) : tokF (open1 q word sl ++ List.replicate n 92) = (word, []) := by
  rw [tok_open _ _ _ _ hq]
  have : n = 0 ∨ n = 1 := by lia
  rcases this with rfl | rfl <;> cases q <;> simp [quo_nil, bar_nil, quo_cons, bar_cons]
end
open PySem PySem.W PySem.Calls PyProof.Rows
variable {w : World}
local macro_rules | `(tactic| walk_at $s:str) => `(tactic| k_extra $s)
local macro_rules | `(tactic| walk_at "i3") => `(tactic| (intro h' F' N'; (try k_sweep)))
local macro_rules | `(tactic| walk_at "i4") => `(tactic| (intro s₁ l₁ F₁ N₁; k_sweep))
local macro_rules | `(tactic| walk_at "i5") => `(tactic| (intro D' h' F' N' nD; (try k_sweep)))
local macro_rules | `(tactic| walk_at "i5l") => `(tactic| (intro D' h' F' N' nD; k_lt nD; (try k_sweep)))
local macro_rules | `(tactic| walk_at "ihc") => `(tactic| (intro hc <;> (try simp only [bne_iff_ne, ne_eq, beq_iff_eq, decide_eq_true_eq, Bool.not_eq_true, Bool.and_eq_true, Bool.or_eq_true, Bool.not_eq_true', decide_eq_false_iff_not, Classical.not_not, List.isEmpty_cons, List.isEmpty_nil, Bool.not_true, Bool.not_false, Bool.false_eq_true, not_true_eq_false, not_false_eq_true, lit_nl, lit_q, lit_bs, lit_e, S_inj, List.cons.injEq, and_true, nil_len, List.length_drop, List.length_take] at hc) <;> (try (exfalso; first | assumption | contradiction | lia))))
theorem regk_none : True := by
  k_with_none
  trivial
theorem regk0 : True := by
  k_with "LK" => first | assumption | (dsimp only; exact Like.to (by assumption))
  k_with "l1" => first | (apply Nat.le_trans; assumption; exact Nat.le_of_ble_eq_true rfl) | lia | (simp only [List.length_drop, List.length_take, List.length_append, List.length_cons, List.length_nil, Int.toNat_natCast]; lia)
  k_with "l2" => first | (apply Nat.le_trans; assumption; exact Nat.le_of_ble_eq_true rfl) | lia | (simp only [List.length_drop, List.length_take]; lia)
  k_with "m fill" => (have kkk : (hk.heap_1 (World.params (by assumption))).length = PySem.Challenge.rw_pm0020_01.foot → True := (by k_fill; intro _; trivial); clear kkk)
  trivial
section
/-- a lexer's addresses and toks; what stands unturned -/
structure LexA where
  x : Addr
  dx : Addr
  st : Addr
  sd : Addr
  lam : Addr
  sg : Addr
  pb : Addr
  k1 : Tok
  k2 : Tok
  k3 : Tok
  k4 : Tok
  t3 : Tok
  sde : List DictEntry
  sn : Nat
  lo : Obj
  lf : FuncData
  rest : List (Addr × Obj)
def lexD (w : World) (a : LexA) (line : Int) (t1 : Tok) : Obj := dictOf [ent w "lineno" a.k1 (.int line t1), ent w "instream" a.k2 (.ref a.st), ent w "whitespace" a.k3 (.str "\n\t\r " a.t3), ent w "pushback" a.k4 (.ref a.pb)] 4
def lexH (w : World) (a : LexA) (line : Int) (t1 : Tok) (vs : List Value) (e2 : Nat) (pv : List Value) (e3 : Nat) : List (Addr × Obj) :=
  (a.dx, lexD w a line t1) :: (a.sg, listOf vs.toArray e2) :: (a.pb, listOf pv.toArray e3) :: (a.x, instObj 66 a.dx) :: (a.st, instObj 66 a.sd) :: (a.sd, dictOf a.sde a.sn) :: (a.lam, a.lo) :: a.rest
/-- what its reader does -/
structure LexOk (w : World) (a : LexA) : Prop where
  lam : ∀ vs n t (rem : List Nat), Sg vs rem.reverse → rem.length ≤ 100000 → Spec w 3 (.ref a.lam) [.int 1 t] ((a.sg, listOf vs.toArray n) :: (a.lam, a.lo) :: a.rest)
    (fun v H' => ∃ vs' n' tk, v = .str (S (rem.take 1)) tk ∧ Sg vs' rem.tail.reverse ∧ H' = (a.sg, listOf vs'.toArray n') :: (a.lam, a.lo) :: a.rest)
  lf : ∃ oc od sl, a.lo = ⟨oc, od, .func a.lf, sl⟩
  read : getL "read" a.sde = some (some (.ref a.lam))
  nodup : (a.dx ≠ a.sg ∧ a.dx ≠ a.pb ∧ a.dx ≠ a.x ∧ a.dx ≠ a.st ∧ a.dx ≠ a.sd ∧ a.dx ≠ a.lam) ∧ (a.sg ≠ a.pb ∧ a.sg ≠ a.x ∧ a.sg ≠ a.st ∧ a.sg ≠ a.sd ∧ a.sg ≠ a.lam) ∧ (a.pb ≠ a.x ∧ a.pb ≠ a.st ∧ a.pb ≠ a.sd ∧ a.pb ≠ a.lam) ∧ (a.x ≠ a.lam ∧ a.st ≠ a.lam ∧ a.sd ≠ a.lam) ∧ ∀ p ∈ a.rest, p.1 ≠ a.dx ∧ p.1 ≠ a.sg ∧ p.1 ≠ a.pb ∧ p.1 ≠ a.x ∧ p.1 ≠ a.st ∧ p.1 ≠ a.sd

theorem stream_read {a : LexA} {A : Around} {E : Value → Shared → Prop} {s : Shared} {P : Heap} {L : Addr} {m : Str → Option Value} {news : List (Addr × Obj)} {pl : Sem Bool} {Q : Value × List Value → Shared → Prop} (ok : LexOk w a) (F : Fr P L s.heap m) (X : (hk.heap_1 w.params).In P) (N : News P L s.heap news)
   (hm : (a.st, instObj 66 a.sd) ∈ news) (hm2 : (a.sd, dictOf a.sde a.sn) ∈ news) (h : Q (.ref a.lam, []) { s with toks := s.toks + 1 }) : wpAny (model PR w) A (getMethod (.ref a.st) "read" pl) Q E s := by
  walk_at "m fill"
  have I : InstAt s.heap a.st ⟨.ref 66, some a.sd, .plain, #[]⟩ 66 (some (dictOf a.sde a.sn)) := InstAt.of_news N hm hm2
  refine' kmu_own F X I ?k4 ?k5 ?_
  case k4 => k_is
  case k5 => k_is
  refine' get_own F X I ?k4 ?k5 ?k6 ?k7 ok.read ?k9 h
  case k4 => k_is
  case k5 => k_is
  case k6 => k_is
  case k7 => k_is
  case k9 => rfl
theorem fnAt_lam {a : LexA} {h P : Heap} {L : Addr} {news : List (Addr × Obj)} (ok : LexOk w a) (N : News P L h news) (hm : (a.lam, a.lo) ∈ news) : FnAt a.lam h := by
  obtain ⟨oc, od, sl, e⟩ := ok.lf
  have := N.get hm
  rw [e] at this
  exact ⟨_, _, _, _, this⟩
end
section
theorem kind_iter : builtinKind "iter" = none := by decide +kernel
theorem plain_iter : plainId "iter" = true := by decide +kernel
theorem args_iter2 (a b : Value) : argsOk "iter" ⟨[a, b], []⟩ := by unfold argsOk; kernel_rfl
theorem look_method_call : typeLookup (.type "method") "__call__" = pure (some (.builtin "method.__call__")) := by rw [typeLookup_type, builtinLookup_eq_fast]; kernel_rfl
theorem call_iter2 {A : Around} {E : Value → Shared → Prop} {s : Shared} {q : Addr} {f self : Value} {t : Tok} {Q : Value → Shared → Prop} (hq : s.heap.get? q = some (methodObj f self))
    (h : Q (.ref s.heap.objs.size) { s with heap := s.heap.push (ciObj (.ref q) (.str "" t) false) }) : wpAny (model PR w) A (call (.builtin "iter") [.ref q, .str "" t]) Q E s := by
  refine Calls.call_function_entry kind_iter plain_iter entry_iter (args_iter2 _ _) ?_
  unfold Builtin.«iter»
  refine wpAny_bind (wpAny_of_eq (a := [.ref q, .str "" t]) (by first | rfl | kernel_rfl) ?_)
  dsimp only
  refine wpAny_bind (wpAny_specialOf (T := "method") ⟨_, hq, rfl⟩ look_method_call ?_)
  show wpAny _ _ (rule _ >>= _) _ _ s
  refine wpAny_bind (wpAny_rule ?_)
  refine wpAny_bind ?_
  unfold newFields
  refine wpAny_newObj_type ?_ (by size_fits)
  exact wpAny_pure ⟨_, rfl, h⟩

theorem iter_N {A : Around} {E : Value → Shared → Prop} {s : Shared} {P : Heap} {L : Addr} {m : Str → Option Value} {news : List (Addr × Obj)} {q : Addr} {f self : Value} {t : Tok} {Q : Value → Shared → Prop} (F : Fr P L s.heap m) (N : News P L s.heap news) (hq : (q, methodObj f self) ∈ news)
    (h : ∀ I h', Fr P L h' m → News P L h' ((I, ciObj (.ref q) (.str "" t) false) :: news) → (∀ p ∈ news, p.1 ≠ I) → Q (.ref I) { s with heap := h' }) : wpAny (model PR w) A (call (.builtin "iter") [.ref q, .str "" t]) Q E s :=
  call_iter2 (N _ hq).1 (h _ _ (F.push _) (N.push F _) (Led.ne_size N))
theorem bound_N {A : Around} {E : Value → Shared → Prop} {s : Shared} {K : Frag} {x C f L : Addr} {ox : Obj} {name : Str} {expr : Bool} {h₀ : Heap} {m : Str → Option Value} {news : List (Addr × Obj)} {es : List DictEntry} {n : Nat} {Q : Value → Shared → Prop}
    (F : Fr h₀ L s.heap m) (X₀ : K.In h₀) (N : News h₀ L s.heap news) (I : InstAt s.heap x ox C (some (dictOf es n))) (hg : plainGet K C name = true) (hh : hasDictIn K C = true) (ha : findIn K (.ref C) name = some (some (.ref f))) (hf : isFn K (.ref f) = true)
    (hgf : specialIn K (.ref f) "__get__" = some (some (.builtin "function.__get__"))) (ht : takesIn K (.ref f) = some false) (hc : copiedNames.contains name = false) (hl : getL name es = some none)
    (h : ∀ q h', Fr h₀ L h' m → News h₀ L h' ((q, methodObj (.ref f) (.ref x)) :: news) → (∀ p ∈ news, p.1 ≠ q) → Q (.ref q) { s with heap := h', toks := s.toks + 1 }) : wpAny (model PR w) A (getAttr (.ref x) name expr) Q E s :=
  kbm_bound F X₀ N I hg hh ha hf hgf ht hc hl fun q h' F' N' l => h q h' F' N' fun p hp => Nat.ne_of_lt (l p hp)
theorem fn_at {f : Addr} {name qual : Str} {params : Arguments} {body : List Stmt} {scope : Scope} {dV kV doc pm cdv ct oc : Value} {an od : Option Addr} {osl : Array (Option Value)}
    (ho : (hk.heap_1 w.params).lookup f = some ⟨oc, od, .func (fnOf name qual params body scope dV kV doc pm an cdv ct), osl⟩) : ∃ oc od fd osl, (hk.heap_1 w.params).lookup f = some ⟨oc, od, .func fd, osl⟩ := ⟨_, _, _, _, ho⟩
end
local macro_rules | `(tactic| walk_at "m upd") => `(tactic| (refine Upd.head ?_; intro p hp; simp only [List.mem_cons] at hp; rcases hp with hp | hp | hp | hp | hp | hp | hp <;> first | (rw [hp]; dsimp only; apply Ne.symm; assumption) | (exact (LexOk.nodup (by assumption)).2.2.2.2 _ hp |>.1)))
local macro_rules | `(tactic| walk_at "inplaceOp Add ref ref") => `(tactic| (refine' ll_iadd ?k1 ?k2 ?k3 ?k4 ?k5 ?k6 ?_; (case k1 => assumption); (case k2 => assumption); (case k3 => k_mem); (case k5 => walk_at "m upd"); (case k4 => first | (apply Nat.le_trans; assumption; exact Nat.le_of_ble_eq_true rfl) | lia | (simp; done)); (case k6 => first | (apply Nat.le_trans; assumption; exact Nat.le_of_ble_eq_true rfl) | lia | (simp only [List.length_cons, List.length_append, List.length_nil]; lia)); intro h' F' N'; (try k_sweep)))
local macro_rules | `(tactic| walk_at "setItem ref int") => `(tactic| refine halt ?_)
local macro_rules | `(tactic| walk_at "m upd") => `(tactic| first | (refine' Upd.head ?a; (case a => walk_at "m all"; done)) | (refine' Upd.tail ?a ?b; (case a => walk_at "m ne"); (case b => walk_at "m upd")))
local macro_rules | `(tactic| walk_at "m lex") => `(tactic| (obtain ⟨⟨d1, d2, d3, d4, d5, d6⟩, ⟨d7, d8, d9, d10, d11⟩, ⟨d12, d13, d14, d15⟩, ⟨d16, d17, d18⟩, hrest⟩ := LexOk.nodup (by assumption); have hr1 := fun p hp => (hrest p hp).1; have hr2 := fun p hp => (hrest p hp).2.1; have hr3 := fun p hp => (hrest p hp).2.2.1; have hr4 := fun p hp => (hrest p hp).2.2.2.1))
local macro_rules | `(tactic| walk_at "call builtin:list.append") => `(tactic| (refine' ll_append ?k1 ?k2 ?k4 ?k3 ?_; (case k1 => assumption); (case k2 => assumption); (case k4 => walk_at "m upd"); (case k3 => first | (apply Nat.le_trans; assumption; exact Nat.le_of_ble_eq_true rfl) | lia | (simp only [List.length_cons, List.length_append, List.length_nil]; lia) | (simp; done)); intro h' F' N'; (try k_sweep)))
local macro_rules | `(tactic| walk_at "call builtin:list.pop") => `(tactic| ((first | refine' ll_pop0 ?k1 ?k2 ?k4 ?k3 ?_ | refine' ll_pop ?k1 ?k2 ?k4 ?k3 ?_); (case k1 => assumption); (case k2 => assumption); (case k4 => walk_at "m upd"); (case k3 => first | (apply Nat.le_trans; assumption; exact Nat.le_of_ble_eq_true rfl) | lia | (simp only [List.length_cons, List.length_append, List.length_nil]; lia) | (simp; done)); intro h' F' N'; (try k_sweep)))
local macro_rules | `(tactic| walk_at "call builtin:list.reverse") => `(tactic| (refine' ll_reverse ?k1 ?k2 ?k4 ?k3 ?_; (case k1 => assumption); (case k2 => assumption); (case k4 => walk_at "m upd"); (case k3 => first | (apply Nat.le_trans; assumption; exact Nat.le_of_ble_eq_true rfl) | lia | (simp only [List.length_cons, List.length_append, List.length_nil]; lia) | (simp; done)); intro h' F' N'; (try k_sweep)))
local macro_rules | `(tactic| walk_at "setAttr ref") => `(tactic| k_dflt (refine' set_dict (C := 66) ?k1 ?k2 ?k3 ?k4 ?k5 ?k6 ?k7 ?k8 ?k9 ?k10 ?k11 ?k12 ?k13 ?_; (case k1 => assumption); (case k2 => assumption); (case k3 => assumption); (case k4 => exact InstAt.of_news (by assumption) (by k_mem) (by k_mem)); (case k5 => exact rfl); (case k6 => k_is); (case k7 => k_is); (case k8 => k_is); (case k9 => k_is); (case k10 => k_get); (case k11 => k_put); (case k12 => walk_at "m upd"); (case k13 => exact Nat.le_of_ble_eq_true rfl); k_whole; intro h' F' N'; (try k_sweep)))
theorem regk1 : True := by
  k_with "m enter" => (
    case k1 => k_is
    case k2 => k_is
    case k3 => exact rfl
    case k4 => exact locs rfl
    case c1 => exact rfl
    case c2 => exact rfl
    case c3 => exact rfl
    case c4 => decide
    k_whole)
  k_with "m go" => repeat' (first | (k_unfold; (try dsimp only)) | walk1 | (dsimp only; walk1) | refine Imp2.go (by assumption) ?_ | fail "no step")
  k_with "Ret" => refine Ret.intro (by walk_at "LK") (by assumption) (by assumption) ?_
  k_with "Ret" => ((with_reducible have hxx : RetSub := (by assumption)); clear hxx; refine Ret.intro' (by walk_at "LK") (by assumption) (by assumption) ?_)
  k_with "CutQ" => first | refine CutQ.next (by walk_at "LK") (by assumption) (by assumption) ?_ | refine CutQ.ret ?_ | refine CutQ.cont ?_ | refine CutQ.brk ?_
  k_with "LoopEnd" => first | refine LoopEnd.ret ?_ | refine LoopEnd.next1 (by walk_at "LK") (by assumption) (by assumption) ?_ | refine LoopEnd.cont1 (by walk_at "LK") (by assumption) (by assumption) ?_
  k_with "WhileEnd" => first | refine WhileEnd.ret ?_ | refine WhileEnd.next' (by walk_at "LK") (by assumption) (by assumption) ?_ | refine WhileEnd.cont' (by walk_at "LK") (by assumption) (by assumption) ?_
  k_with "loadName" => (k_here; k_dflt (refine ldn (by k_asm) (by (first | exact rfl | assumption)) ?_; k_whole))
  k_with "eval Name" => k_dflt (refine name_B (by assumption) (by assumption) (by exact topRead_of (by assumption)) (by k_is) (by boot_by_name) (by decide) ?_; k_whole)
  k_with "eval Name" => k_dflt (refine name_K (by assumption) (by assumption) (by exact topRead_of (by assumption)) (by k_is) ?_; k_whole)
  k_with "eval Name" => (k_here; k_dflt (refine ld (by k_asm) (by assumption) ?_; k_whole))
  k_with "eval Name" => (k_here; k_dflt (refine ld (by k_asm) (by exact rfl) ?_; k_whole))
  k_with "call type:range" => (refine range1_rows (by assumption) (by assumption) ?_; intro _ _ _ _ _ _ _ _ _)
  k_with "call ref" => refine halt ?_
  k_with "execs cons" => refine wpAny_execs_cons ?_
  k_with "execs cons" => (refine execs_cons_s (by walk_at "LK") (by assumption) (by assumption) ?_; walk_at "i4")
  k_with "newTuple" => (refine kup_newTuple (by assumption) (by assumption) ?_ (by size_fits); walk_at "i5")
  k_with "call builtin:len" => refine len_S (by walk_at "l1") ?_
  k_with "call builtin:len" => ((with_reducible show wpAny _ _ (call (Value.builtin _) [Value.ref _]) _ _ _); refine ll_len (by assumption) (by k_mem) (by first | (apply Nat.le_trans; assumption; exact Nat.le_of_ble_eq_true rfl) | lia | (simp only [List.length_cons, List.length_append, List.length_nil]; lia)) ?_)
  k_with "call builtin:min" => (refine min_two_N (Rm.hh (by assumption)) (by assumption) (by assumption) ?_; intro _ _ _ _)
  k_with "call type:list" => (refine list_range2 (Rm.hh (by assumption)) (by assumption) (by assumption) (by assumption) (by lia) (by walk_at "LK") ?_; intro _ _ _ _ _ _ _ _ _)
  k_with "subscriptTail Name Name ref int" => (refine ksa_sub (by assumption) (by k_mem) (by assumption) (by lia) (by lia) (by lia) ?_ (by with_unfolding_all rfl); intro _)
  k_with "unpackItems ref" => (refine unpackItemsN_ (by assumption) (by assumption) (News.isTup (by assumption) (by k_mem)) (by first | exact rfl | exact Rm.hh (by assumption)) (by first | exact rfl | exact Rm.hh (by assumption)) ?_; intro _ _ _)
  k_with "pyIter ref" => refine halt ?_
  k_with "pyIter str" => refine halt ?_
  k_with "m mem1" => repeat (first | with_reducible exact List.mem_cons_self | with_reducible apply List.mem_cons_of_mem | with_reducible apply List.mem_append_right)
  k_with "m sub" => (show Sub _ _; (try simp only [lexH, lexD, List.cons_append, List.nil_append, List.append_assoc]); repeat' (first | with_reducible exact Sub.nil | with_reducible exact Sub.rfl' | (refine Sub.consm (by walk_at "m mem1") ?_) | with_reducible refine Sub.appm ?_ ?_ | with_reducible exact Sub.left | with_reducible refine Sub.tail ?_ | with_reducible refine Sub.right ?_))
  k_with "m ne" => (dsimp only; first | with_reducible assumption | (apply Ne.symm; with_reducible assumption) | lia | exact Nat.ne_of_gt (by lia) | exact Nat.ne_of_lt (by lia))
  k_with "m all" => repeat (first | with_reducible assumption | exact List.forall_mem_nil _ | refine List.forall_mem_cons.mpr ⟨by walk_at "m ne", ?_⟩)
  k_with "truthy ref" => refine ll_truthy (by assumption) (by k_mem) (by first | (apply Nat.le_trans; assumption; exact Nat.le_of_ble_eq_true rfl) | lia | (simp only [List.length_cons, List.length_append, List.length_nil]; lia)) ?_
  k_with "m lexm" => skip
  k_with "call builtin:iter" => (refine iter_N (by assumption) (by assumption) (by k_mem) ?_; k_whole; walk_at "i5")
  k_with "compareOp In str str" => (first | refine in_one lit_ws ?_ | refine in_one lit_qb ?_ | refine in_one lit_wb ?_ | refine in_one lit_AB ?_)
  k_with "m lit" => first | with_reducible exact lit_e | with_reducible exact lit_q | with_reducible exact lit_bs | with_reducible exact lit_nl | with_reducible exact lit_ab | with_reducible exact lit_AB | with_reducible exact rfl
  k_with "m len" => first | (apply Nat.le_trans; assumption; exact Nat.le_of_ble_eq_true rfl) | lia | (simp only [List.length_drop, List.length_take, List.length_tail, List.length_append, List.length_cons, List.length_nil, Int.toNat_natCast] at *; lia)
  k_with "inplaceOp Add str str" => (refine iadd_S (by walk_at "m lit") (by walk_at "m lit") (by walk_at "m len") ?_; intro _ _)
  k_with "binaryOp Add str str" => (refine add_S (by walk_at "m lit") (by walk_at "m lit") (by walk_at "m len") ?_; intro _ _)
  k_with "getAttr ref" => k_dflt (refine bound_N (C := 66) (by assumption) (by assumption) (by assumption) (by exact InstAt.of_news (by assumption) (by k_mem) (by k_mem)) (by k_is) (by k_is) (by k_is) (by k_is) (by k_is) (by k_is) (by decide +kernel) (by k_get) ?_; k_whole; walk_at "i5")
  k_with "getAttr ref" => k_dflt (refine get_own (C := 66) (by assumption) (by assumption) (by exact InstAt.of_news (by assumption) (by k_mem) (by k_mem)) (by k_is) (by k_is) (by k_is) (by k_is) (by k_get) (by k_handed) ?_; k_whole)
  k_with "getMethod ref" => k_dflt (refine stream_read (by assumption) (by assumption) (by assumption) (by assumption) (by k_mem) (by k_mem) ?_; k_whole)
  k_with "getMethod ref" => k_dflt (refine method_inst (C := 66) (by assumption) (by assumption) (by exact InstAt.of_news (by assumption) (by k_mem) (by k_mem)) (by k_is) (by k_is) (by k_is) (by k_get) ?_; k_whole)
  k_with "getMethod ref" => (first | refine kl_method (by assumption) (by k_mem) PySem.F.slot_list_append PySem.F.type_list_append ?_ | refine kl_method (by assumption) (by k_mem) PySem.F.slot_list_pop PySem.F.type_list_pop ?_ | refine kl_method (by assumption) (by k_mem) PySem.F.slot_list_reverse PySem.F.type_list_reverse ?_)
  k_with "callWith ref" => (refine callWith_F (fnAt_lam (by assumption) (by assumption) (by k_mem)) ?_)
  k_with "ite" => (refine' ite_ways ?_ ?_ <;> walk_at "ihc")
  k_with "ite" => (k_closed; k_dflt (first | refine ite_pos (by decide) ?_ | refine ite_neg (by decide) ?_))
  k_with "execs cons" => ((with_reducible show wpAny _ _ (execs (Stmt.If _ _ _ _ :: _) _) _ _ _); (with_reducible have hxx : HaltIf := (by assumption)); clear hxx; refine halt ?_)
  k_with "execs cons" => ((with_reducible show wpAny _ _ (execs (Stmt.For _ _ _ _ _ :: _) _) _ _ _); refine halt ?_)
  k_with "execs cons" => ((with_reducible show wpAny _ _ (execs (Stmt.While _ _ _ _ :: _) _) _ _ _); refine halt ?_)
  k_with "fam0" => ((with_reducible show wpAny _ _ (subscriptTail _ _ (Value.str _ _) (Value.ref _)) _ _ _); first
    | (refine sl_nn (by walk_at "l1") (by assumption) (by assumption) ?_; intro _ _ _ _ _)
    | (refine sl_from_nat (by walk_at "l1") (by assumption) (by assumption) ?_; intro _ _ _ _ _)
    | (refine sl_to_nat (by walk_at "l1") (by assumption) (by assumption) ?_; intro _ _ _ _ _)
    | (refine sl_toneg_nat (by lia) (by walk_at "l1") (by assumption) (by assumption) ?_; intro _ _ _ _ _)
    | (refine sl_ij_nat (by walk_at "l1") (by assumption) (by assumption) ?_; intro _ _ _ _ _)
    | (refine sl_from (by lia) (by walk_at "l1") (by assumption) (by assumption) ?_; intro _ _ _ _ _)
    | (refine sl_to (by lia) (by walk_at "l1") (by assumption) (by assumption) ?_; intro _ _ _ _ _)
    | (refine sl_toneg (by lia) (by walk_at "l1") (by assumption) (by assumption) ?_; intro _ _ _ _ _)
    | (refine sl_ij (by lia) (by lia) (by walk_at "l1") (by assumption) (by assumption) ?_; intro _ _ _ _ _))
  k_with "subscriptTail Name Slice str ref" => walk_at "fam0"
  k_with "subscriptTail" => walk_at "fam0"
  k_with "fam1" => ((with_reducible show wpAny _ _ (subscriptTail _ _ (Value.str _ _) (Value.int _ _)) _ _ _); first
    | refine it_nat_nat (by walk_at "l2") (by walk_at "l1") ?_
    | refine it_neg1 (by walk_at "l2") (by walk_at "l1") ?_
    | refine it_nat (by lia) (by walk_at "l2") (by walk_at "l1") ?_
    | refine it_neg (by lia) (by walk_at "l2") (by walk_at "l1") ?_
    | refine halt ?_)
  k_with "subscriptTail Name Name str int" => walk_at "fam1"
  k_with "subscriptTail Name BinOp str int" => walk_at "fam1"
  k_with "subscriptTail Name Constant str int" => walk_at "fam1"
  k_with "subscriptTail Name UnaryOp str int" => walk_at "fam1"
  k_with "subscriptTail" => walk_at "fam1"
  k_with "truthy str" => refine truthy_S (by walk_at "l1") ?_
  trivial
section
theorem subst_s {c d : Nat} {t t' : Tok} : Spec w 1 (.ref 21) [.str (S [c]) t, .str (S [d]) t'] [] (fun v _ => ∃ tk, v = .int (cst c d) tk) := by
  walk_at "m fill"
  have h1 : (S [c]).length ≤ 40 := by rw [S_len]; simp
  have h2 : (S [d]).length ≤ 40 := by rw [S_len]; simp
  refine' spec_def [("ch_a", .str (S [c]) t), ("ch_b", .str (S [d]) t')] ?k1 ?k2 ?k3 ?k4 ?k5 ?c1 ?c2 ?c3 ?c4
  walk_at "m enter"
  intro A P L s z p loose mean mg mb r G lz X T F N K0 hK0
  (try k_fold)
  walk_at "m go"
  · have hc : c = d := by assumption
    exact ⟨_, by unfold cst; rw [if_pos hc]⟩
  · have hc : ¬ c = d := by assumption
    have hd : Txt.lower (S [c]) = Txt.lower (S [d]) := by assumption
    exact ⟨_, by unfold cst; rw [if_neg hc, if_pos hd]⟩
  · have hc : ¬ c = d := by assumption
    have hd : ¬ Txt.lower (S [c]) = Txt.lower (S [d]) := by assumption
    exact ⟨_, by unfold cst; rw [if_neg hc, if_neg hd]⟩
end
section
local macro_rules | `(tactic| walk_at "m subst") => `(tactic| (refine ⟨call_spec (H := []) subst_s (Rm.le (by assumption) (Nat.le_of_ble_eq_true rfl)) (by assumption) (by assumption) (by assumption) (fun p hp => hp) (fun _ _ _ hq => nomatch hq) (by walk_at "LK") ?_⟩; rintro v' H' s' ⟨tk', hv'⟩ l₁ F₁ N₁ n₁; subst hv'; replace N₁ := subN N₁ (fun p hp => List.mem_append_right _ hp); (try dsimp only)))
section
theorem lev_s {la lb : List Nat} {ta tb tm : Tok} {M : Int} (ha : la.length ≤ 40) (hb : lb.length ≤ 40) :
   Spec w 3 (.ref 28) [.str (S la) ta, .str (S lb) tb, .int M tm] [] (fun v _ => ∃ tk, v = .int (levF la lb M) tk) := by
  walk_at "m fill"
  refine' spec_def [("a", .str (S la) ta), ("b", .str (S lb) tb), ("max_cost", .int M tm)] ?k1 ?k2 ?k3 ?k4 ?k5 ?c1 ?c2 ?c3 ?c4
  walk_at "m enter"
  intro A P L s z p loose mean mg mb r G lz X T F N K0 hK0
  (try k_fold)
  walk_at "m go"
  · have hc : la = lb := by assumption
    exact ⟨_, by unfold levF; rw [if_pos hc]⟩
  refine ⟨cut P L (s₀ := z) (by assumption) (fun m' H' => H' = [] ∧ m' "a" = some (.str (S la) ta) ∧ m' "b" = some (.str (S lb) tb) ∧ m' "max_cost" = some (.int M tm) ∧ ∃ t, m' "pre" = some (.int (lcp la lb : Nat) t)) ?_ ?_⟩
  · intro K1 hK1
    refine' while_in (s₀ := z) (by assumption) (fun n m' H' => H' = [] ∧ m' "a" = some (.str (S la) ta) ∧ m' "b" = some (.str (S lb) tb) ∧ m' "max_cost" = some (.int M tm) ∧ ∃ k t, m' "pre" = some (.int (k : Nat) t) ∧ la.take k = lb.take k ∧ k ≤ la.length ∧ k ≤ lb.length ∧ n = la.length - k) la.length ?F ?N ?J ?T
    case F => assumption
    case N => assumption
    case J => exact ⟨rfl, rfl, rfl, rfl, 0, _, rfl, by simp, by simp, by simp, by simp⟩
    rintro n m₁ H₁ s₁ l₁ F₁ N₁ ⟨rfl, h1, h2, h3, k, t, h4, h5, h6, h7, rfl⟩ K2 hK2
    k_sweep
    walk_at "m go"
    · exact ⟨la.length - (k + 1), by lia, rfl, h1, h2, h3, k + 1, _, rfl, take_more h5 (by lia) (by lia) (by assumption), by lia, by lia, rfl⟩
    · exact ⟨_, Sub.rfl', rfl, h1, h2, h3, t, by rw [lcp_stop h5 h6 h7 (.inr (.inr (by assumption)))]; exact h4⟩
    · exact ⟨_, Sub.rfl', rfl, h1, h2, h3, t, by rw [lcp_stop h5 h6 h7 (.inr (.inl (by lia)))]; exact h4⟩
    · exact ⟨_, Sub.rfl', rfl, h1, h2, h3, t, by rw [lcp_stop h5 h6 h7 (.inl (by lia))]; exact h4⟩
  rintro s₁ m' H' l₁ ⟨rfl, h1, h2, h3, t, h4⟩ F' N'
  k_sweep
  have el := lcp_le_left la lb
  have er := lcp_le_right la lb
  obtain ⟨k0, e0⟩ : ∃ k0, k0 = lcp la lb := ⟨_, rfl⟩
  rw [← e0] at h4 el er
  walk_at "m go"
  obtain ⟨la', ela⟩ : ∃ l, l = la.drop k0 := ⟨_, rfl⟩
  obtain ⟨lb', elb⟩ : ∃ l, l = lb.drop k0 := ⟨_, rfl⟩
  have hA : la'.length ≤ 40 := by rw [ela]; simp; lia
  have hB : lb'.length ≤ 40 := by rw [elb]; simp; lia
  refine ⟨cut P L (s₀ := z) (by assumption) (fun m' H'' => H'' = [] ∧ (∃ t, m' "a" = some (.str (S la') t)) ∧ (∃ t, m' "b" = some (.str (S lb') t)) ∧ m' "max_cost" = some (.int M tm) ∧ ∃ t, m' "post" = some (.int (-(lcp la'.reverse lb'.reverse : Nat)) t)) ?_ ?_⟩
  · intro K1 hK1
    refine' while_in (s₀ := z) (by assumption) (fun n m' H'' => H'' = [] ∧ (∃ t, m' "a" = some (.str (S la') t)) ∧ (∃ t, m' "b" = some (.str (S lb') t)) ∧ m' "max_cost" = some (.int M tm) ∧ ∃ k t, m' "post" = some (.int (-(k : Nat)) t) ∧ la'.reverse.take k = lb'.reverse.take k ∧ k ≤ la'.length ∧ k ≤ lb'.length ∧ n = la'.length - k) la'.length ?F2 ?N2 ?J2 ?T2
    case F2 => assumption
    case N2 => assumption
    case J2 => subst ela elb; exact ⟨rfl, ⟨_, rfl⟩, ⟨_, rfl⟩, h3, 0, _, rfl, by simp, by simp, by simp, by simp⟩
    rintro n m₁ H₁ s₁ l₁ F₁ N₁ ⟨rfl, ⟨_, h1⟩, ⟨_, h2⟩, h3, k, t, h4, h5, h6, h7, rfl⟩ K2 hK2
    k_sweep
    walk_at "m go"
    · exact ⟨la'.length - (k + 1), by lia, rfl, ⟨_, h1⟩, ⟨_, h2⟩, h3, k + 1, _, vi (by lia), take_more h5 (by simp; lia) (by simp; lia) (by assumption), by lia, by lia, rfl⟩
    · exact ⟨_, Sub.rfl', rfl, ⟨_, h1⟩, ⟨_, h2⟩, h3, t, by rw [lcp_stop h5 (by simp; lia) (by simp; lia) (.inr (.inr (by assumption)))]; exact h4⟩
    · exact ⟨_, Sub.rfl', rfl, ⟨_, h1⟩, ⟨_, h2⟩, h3, t, by rw [lcp_stop h5 (by simp; lia) (by simp; lia) (.inr (.inl (by simp; lia)))]; exact h4⟩
    · exact ⟨_, Sub.rfl', rfl, ⟨_, h1⟩, ⟨_, h2⟩, h3, t, by rw [lcp_stop h5 (by simp; lia) (by simp; lia) (.inl (by simp; lia))]; exact h4⟩
    · exact ⟨la'.length - (k + 1), by lia, rfl, ⟨_, h1⟩, ⟨_, h2⟩, h3, k + 1, _, vi (by lia), take_more h5 (by simp; lia) (by simp; lia) (by assumption), by lia, by lia, rfl⟩
    · exact ⟨_, Sub.rfl', rfl, ⟨_, h1⟩, ⟨_, h2⟩, h3, t, by rw [lcp_stop h5 (by simp; lia) (by simp; lia) (.inr (.inr (by assumption)))]; exact h4⟩
    · exact ⟨_, Sub.rfl', rfl, ⟨_, h1⟩, ⟨_, h2⟩, h3, t, by rw [lcp_stop h5 (by simp; lia) (by simp; lia) (.inr (.inl (by simp; lia)))]; exact h4⟩
    · exact ⟨_, Sub.rfl', rfl, ⟨_, h1⟩, ⟨_, h2⟩, h3, t, by rw [lcp_stop h5 (by simp; lia) (by simp; lia) (.inl (by simp; lia))]; exact h4⟩
  rintro s₁ m' H'' l₁ ⟨rfl, ⟨_, h1⟩, ⟨_, h2⟩, h3, t, h4⟩ F' N'
  k_sweep
  have gl := lcp_le_left la'.reverse lb'.reverse
  have gr := lcp_le_right la'.reverse lb'.reverse
  rw [List.length_reverse] at gl gr
  obtain ⟨k1, e1⟩ : ∃ k1, k1 = lcp la'.reverse lb'.reverse := ⟨_, rfl⟩
  rw [← e1] at h4 gl gr
  obtain ⟨A', eA⟩ : ∃ l, l = la'.take (la'.length - k1) := ⟨_, rfl⟩
  obtain ⟨B', eB⟩ : ∃ l, l = lb'.take (lb'.length - k1) := ⟨_, rfl⟩
  have hA' : A'.length ≤ 40 := by rw [eA]; simp; lia
  have hB' : B'.length ≤ 40 := by rw [eB]; simp; lia
  refine cut P L (s₀ := z) (by assumption) (fun m' H'' => H'' = [] ∧ (∃ t, m' "a" = some (.str (S A') t)) ∧ (∃ t, m' "b" = some (.str (S lb') t)) ∧ m' "max_cost" = some (.int M tm) ∧ ∃ t, m' "post" = some (.int (-(k1 : Nat)) t)) ?_ ?_
  · intro K1 hK1
    walk_at "m go"
    · rw [← eA]; exact ⟨_, Sub.rfl', rfl, ⟨_, rfl⟩, ⟨_, h2⟩, h3, t, h4⟩
    · have : la' = A' := by rw [eA, List.take_of_length_le (by lia)]
      rw [this] at *; exact ⟨_, Sub.rfl', rfl, ⟨_, rfl⟩, ⟨_, h2⟩, h3, t, h4⟩
  rintro s₁ m' H'' l₁ ⟨rfl, ⟨_, h1⟩, ⟨_, h2⟩, h3, t, h4⟩ F' N'
  k_sweep
  refine cut P L (s₀ := z) (by assumption) (fun m' H'' => H'' = [] ∧ (∃ t, m' "a" = some (.str (S A') t)) ∧ (∃ t, m' "b" = some (.str (S B') t)) ∧ m' "max_cost" = some (.int M tm)) ?_ ?_
  · intro K1 hK1
    walk_at "m go"
    · rw [← eB]; exact ⟨_, Sub.rfl', rfl, ⟨_, h1⟩, ⟨_, rfl⟩, h3⟩
    · have : lb' = B' := by rw [eB, List.take_of_length_le (by lia)]
      rw [this] at *; exact ⟨_, Sub.rfl', rfl, ⟨_, h1⟩, ⟨_, rfl⟩, h3⟩
  rintro s₁ m' H'' l₁ ⟨rfl, ⟨_, h1⟩, ⟨_, h2⟩, h3⟩ F' N'
  k_sweep
  have hne : ¬ la = lb := by assumption
  have hF : levF la lb M = if A'.length = 0 ∨ B'.length = 0 then 2 * ((A'.length : Int) + B'.length) else
      if (((if B'.length < A'.length then A' else B').length : Int) - (if B'.length < A'.length then B' else A').length) * 2 > M then M + 1 else scan (if B'.length < A'.length then B' else A') (if B'.length < A'.length then A' else B') M (if B'.length < A'.length then A' else B').length 0 (row0 (if B'.length < A'.length then B' else A').length) 0 := by
    unfold levF
    rw [if_neg hne]
    simp only [← e0, ← ela, ← elb, ← e1, ← eA, ← eB]
  have hi : HaltIf := ⟨⟩
  refine cut P L (s₀ := z) (by assumption) (fun m' H'' => H'' = [] ∧ (∃ t, m' "a" = some (.str (S A') t)) ∧ (∃ t, m' "b" = some (.str (S B') t)) ∧ m' "max_cost" = some (.int M tm) ∧ ¬ A'.length = 0 ∧ ¬ B'.length = 0) ?_ ?_
  · intro K1 hK1
    walk_at "m go"
    · exact ⟨_, by rw [hF, if_pos (by lia)]⟩
    · exact ⟨_, by rw [hF, if_pos (by lia)]⟩
    · exact ⟨_, Sub.rfl', rfl, ⟨_, h1⟩, ⟨_, h2⟩, h3, by lia, by lia⟩
  rintro s₁ m' H'' l₁ ⟨rfl, ⟨_, h1⟩, ⟨_, h2⟩, h3, hA0, hB0⟩ F' N'
  k_sweep
  rw [if_neg (by lia)] at hF
  refine cut P L (s₀ := z) (by assumption) (fun m' H'' => H'' = [] ∧ (∃ t, m' "a" = some (.str (S A') t)) ∧ (∃ t, m' "b" = some (.str (S B') t)) ∧ m' "max_cost" = some (.int M tm)) ?_ ?_
  · intro K1 hK1
    walk_at "m go"
    exact ⟨_, Sub.rfl', rfl, ⟨_, h1⟩, ⟨_, h2⟩, h3⟩
  rintro s₁ m' H'' l₁ ⟨rfl, ⟨_, h1⟩, ⟨_, h2⟩, h3⟩ F' N'
  k_sweep
  obtain ⟨x, ex⟩ : ∃ x, x = if B'.length < A'.length then B' else A' := ⟨_, rfl⟩
  obtain ⟨y, ey⟩ : ∃ y, y = if B'.length < A'.length then A' else B' := ⟨_, rfl⟩
  rw [← ex, ← ey] at hF
  refine cut P L (s₀ := z) (by assumption) (fun m' H'' => H'' = [] ∧ (∃ t, m' "a" = some (.str (S x) t)) ∧ (∃ t, m' "b" = some (.str (S y) t)) ∧ m' "max_cost" = some (.int M tm)) ?_ ?_
  · intro K1 hK1
    walk_at "m go"
    · rw [ex, ey, if_pos (by lia), if_pos (by lia)]; exact ⟨_, Sub.nil, rfl, ⟨_, rfl⟩, ⟨_, rfl⟩, h3⟩
    · rw [ex, ey, if_neg (by lia), if_neg (by lia)]; exact ⟨_, Sub.nil, rfl, ⟨_, h1⟩, ⟨_, h2⟩, h3⟩
  rintro s₁ m' H'' l₁ ⟨rfl, ⟨_, h1⟩, ⟨_, h2⟩, h3⟩ F' N'
  k_sweep
  have hx : x.length ≤ 40 := by rw [ex]; split <;> lia
  have hy : y.length ≤ 40 := by rw [ey]; split <;> lia
  have hxy : x.length ≤ y.length := by rw [ex, ey]; split <;> lia
  clear hi
  walk_at "m go"
  · exact ⟨_, by rw [hF, if_pos (by lia)]⟩
  rw [if_neg (by lia)] at hF
  replace hF := Bx.mk hF
  rename_i lr s₂ vs₀ c₀ lk₀ n₀ i₀ h₂ h₃ F₃ N₃
  refine ⟨cut P L (s₀ := z) (by walk_at "LK") (fun m' H'' => ∃ t, m' "result" = some (.int (levF la lb M) t)) ?_ ?_⟩
  · intro K1 hK1
    refine for_in ?_
    walk_at "m go"
    refine ⟨loop_range (by assumption) r.hh rfl rfl (s₀ := z) (by walk_at "LK") (by lia) (by lia) (by lia) (by lia) (n := y.length) (by lia) (by assumption) (by assumption)
      (fun i m' H'' => ∃ row res vs c tr, H'' = [(lr, listOf vs.toArray c)] ∧ (∃ t, m' "a" = some (.str (S x) t)) ∧ (∃ t, m' "b" = some (.str (S y) t)) ∧ m' "max_cost" = some (.int M tm) ∧ m' "row" = some (.ref lr) ∧ m' "result" = some (.int res tr) ∧ IntsAre vs row ∧ row.length = x.length ∧ Bx (levF la lb M = scan x y M (y.length - i) i row res))
      ?_ ?_ ?_⟩
    · exact ⟨_, _, _, _, _, rfl, ⟨_, h1⟩, ⟨_, h2⟩, h3, rfl, rfl, i₀, by simp [row0, rangeInts_length], hF⟩
    · rintro i tv m₁ H₁ s₁ I io l₁ hi ⟨row, res, vs, c, tr, rfl, ⟨_, h1⟩, ⟨_, h2⟩, h3, h4, h5, iA, hr, hS⟩ hne F' N' K2 hK2
      have hI : lr ≠ I := hne _ (.head _)
      k_sweep
      have e0 : (0 : Int) + i = i := by lia
      rw [e0] at F'
      walk_at "m go"
      refine ⟨cut P L (s₀ := z) (by walk_at "LK") (fun m' H'' => ∃ st vs c, st = rowSt (y.getD i 0) x row (i * 2) x.length ∧ H'' = [(I, io), (lr, listOf vs.toArray c)] ∧ (∃ t, m' "a" = some (.str (S x) t)) ∧ (∃ t, m' "b" = some (.str (S y) t)) ∧ m' "max_cost" = some (.int M tm) ∧ m' "row" = some (.ref lr) ∧ (∃ t, m' "result" = some (.int st.res t)) ∧ (∃ t, m' "minimum" = some (.int st.mn t)) ∧ IntsAre vs st.row) ?_ ?_⟩
      · intro K1 hK1
        refine for_in ?_
        walk_at "m go"
        refine ⟨loop_range (by assumption) r.hh rfl rfl (s₀ := z) (by walk_at "LK") (by lia) (by lia) (by lia) (by lia) (n := x.length) (by lia) (by assumption) (by assumption)
          (fun j m' H'' => ∃ st vs c, st = rowSt (y.getD i 0) x row (i * 2) j ∧ st.row.length = x.length ∧ H'' = [(I, io), (lr, listOf vs.toArray c)] ∧ (∃ t, m' "a" = some (.str (S x) t)) ∧ (∃ t, m' "b" = some (.str (S y) t)) ∧ m' "max_cost" = some (.int M tm) ∧ m' "row" = some (.ref lr) ∧ (∃ t, m' "bchar" = some (.str (S [y.getD i 0]) t)) ∧ (∃ t, m' "distance" = some (.int st.dist t)) ∧ (∃ t, m' "result" = some (.int st.res t)) ∧ (∃ t, m' "minimum" = some (.int st.mn t)) ∧ IntsAre vs st.row)
          ?_ ?_ ?_⟩
        · exact ⟨_, _, _, rfl, by rw [rowSt_len]; exact hr, rfl, ⟨_, h1⟩, ⟨_, h2⟩, h3, h4, ⟨_, rfl⟩, ⟨_, rfl⟩, ⟨_, rfl⟩, ⟨_, rfl⟩, iA⟩
        · rintro j tv m₁ H₁ s₁ I2 io2 l₁ hj ⟨st, vs, c, est, hlen, rfl, ⟨_, h1⟩, ⟨_, h2⟩, h3, h4, ⟨_, h5⟩, ⟨_, h6⟩, ⟨_, h7⟩, ⟨_, h8⟩, iB⟩ hne2 F' N' K2 hK2
          have hI2 : I ≠ I2 := hne2 _ (.head _)
          have hI3 : lr ≠ I2 := hne2 _ (.tail _ (.head _))
          k_sweep
          have e0 : (0 : Int) + j = j := by lia
          rw [e0] at F'
          walk_at "m go"
          walk_at "m subst"
          walk_at "m go"
          constructor
          refine' ksa_set ?u1 ?u2 ?u3 ?u4 ?u5 ?u6 ?u7 ?u8
          case u1 => assumption
          case u2 => assumption
          case u3 => exact Upd.tail hI3.symm (Upd.tail hI.symm (Upd.head (List.forall_mem_nil _)))
          case u4 => assumption
          case u5 => lia
          case u6 => lia
          case u7 => lia
          intro h' F' N' hi' _ _
          walk_at "m go"
          · have es : rowSt (y.getD i 0) x row (i * 2) (j + 1) = rowNext st (y.getD i 0) (x.getD j 0) j := by rw [rowSt_succ, est]
            refine ⟨_, Sub.rfl', ?_, rowNext st (y.getD i 0) (x.getD j 0) j, _, c, es.symm, by rw [← es, rowSt_len]; exact hr, rfl, ⟨_, h1⟩, ⟨_, h2⟩, h3, h4, ⟨_, h5⟩, ⟨_, rfl⟩, ⟨_, rfl⟩, ⟨_, vi (if_pos (by assumption)).symm⟩, hi'⟩
            intro p hp
            rcases List.mem_cons.mp hp with rfl | hp
            · exact hI2
            · rw [List.mem_singleton.mp hp]; exact hI3
          · have es : rowSt (y.getD i 0) x row (i * 2) (j + 1) = rowNext st (y.getD i 0) (x.getD j 0) j := by rw [rowSt_succ, est]
            refine ⟨_, Sub.rfl', ?_, rowNext st (y.getD i 0) (x.getD j 0) j, _, c, es.symm, by rw [← es, rowSt_len]; exact hr, rfl, ⟨_, h1⟩, ⟨_, h2⟩, h3, h4, ⟨_, h5⟩, ⟨_, rfl⟩, ⟨_, rfl⟩, ⟨_, h8.trans (vi (if_neg (by assumption)).symm)⟩, hi'⟩
            intro p hp
            rcases List.mem_cons.mp hp with rfl | hp
            · exact hI2
            · rw [List.mem_singleton.mp hp]; exact hI3
        · rintro m₁ H₁ s₁ l₁ ⟨st, vs, c, est, hlen, rfl, ⟨_, h1⟩, ⟨_, h2⟩, h3, h4, ⟨_, h5⟩, ⟨_, h6⟩, ⟨_, h7⟩, ⟨_, h8⟩, iB⟩ F' N'
          refine Imp2.go (by assumption) ?_; exact CutQ.next l₁ F' N' ⟨_, Sub.rfl', st, vs, c, est, rfl, ⟨_, h1⟩, ⟨_, h2⟩, h3, h4, ⟨_, h7⟩, ⟨_, h8⟩, iB⟩
      rintro s₁ m' H' l₁ ⟨st, vs, c, est, rfl, ⟨_, h1⟩, ⟨_, h2⟩, h3, h4, ⟨_, h5⟩, ⟨_, h6⟩, iB⟩ F' N'
      k_sweep
      walk_at "m go"
      · have hm : M < st.mn := by assumption
        refine ⟨_, congrArg (fun i => Value.int i _) ?_⟩
        rw [hS.out, show y.length - i = (y.length - (i + 1)) + 1 by lia, scan, ← est, if_pos hm]
      · have hm : ¬ M < st.mn := by assumption
        refine ⟨_, Sub.rfl', fun p hp => by rw [List.mem_singleton.mp hp]; exact hI, st.row, st.res, vs, c, _, rfl, ⟨_, h1⟩, ⟨_, h2⟩, h3, h4, h5, iB, by rw [est, rowSt_len]; exact hr, ⟨?_⟩⟩
        rw [hS.out, show y.length - i = (y.length - (i + 1)) + 1 by lia, scan, ← est, if_neg hm]
    · rintro m₁ H₁ s₁ l₁ ⟨row, res, vs, c, tr, rfl, ⟨_, h1⟩, ⟨_, h2⟩, h3, h4, h5, iA, hr, hS⟩ F' N'
      refine Imp2.go (by assumption) ?_; refine CutQ.next l₁ F' N' ⟨_, Sub.rfl', tr, ?_⟩
      rw [hS.out, Nat.sub_self]
      exact h5
  · rintro s₁ m' H' l₁ ⟨t, h1⟩ F' N'
    walk_at "m go"
    exact ⟨_, rfl⟩
end
end
section
theorem read_s {a : LexA} {line : Int} {t1 : Tok} {vs : List Value} {e2 : Nat} {pv : List Value} {e3 : Nat} {rem : List Nat} (ok : LexOk w a) (hs : Sg vs rem.reverse) (hr : rem.length ≤ 100000) (hl : 0 ≤ line ∧ line ≤ 100000) :
   Spec w 5 (.ref 49) [.ref a.x] (lexH w a line t1 vs e2 pv e3) (fun v H' => ∃ t1' vs' e2' tk, v = .str (S (rem.take 1)) tk ∧ Sg vs' rem.tail.reverse ∧ H' = lexH w a (if rem.take 1 = [10] then line + 1 else line) t1' vs' e2' pv e3) := by
  walk_at "m fill"
  refine' spec_def [("self", .ref a.x)] ?k1 ?k2 ?k3 ?k4 ?k5 ?c1 ?c2 ?c3 ?c4
  walk_at "m enter"
  intro A P L s z p loose mean mg mb r G lz X T F N K0 hK0
  (try k_fold)
  unfold lexH lexD at N
  walk_at "m go"
  exact fnAt_lam ok (by assumption) (by k_mem)
  refine ⟨?_⟩
  obtain ⟨⟨d1, d2, d3, d4, d5, d6⟩, ⟨d7, d8, d9, d10, d11⟩, ⟨d12, d13, d14, d15⟩, ⟨d16, d17, d18⟩, hrest⟩ := ok.nodup
  refine call_spec (rest := [(a.dx, lexD w a line t1), (a.pb, listOf pv.toArray e3), (a.x, instObj 66 a.dx), (a.st, instObj 66 a.sd), (a.sd, dictOf a.sde a.sn)]) (ok.lam vs e2 _ rem hs hr) (Rm.le r (Nat.le_of_ble_eq_true rfl)) G (by assumption) (by assumption) ?_ ?_ (by walk_at "LK") ?_
  · walk_at "m sub"
  · intro q hq p' hp'
    simp only [List.mem_cons, List.not_mem_nil, or_false] at hq hp'
    rcases hq with rfl | rfl | rfl | rfl | rfl <;> rcases hp' with rfl | rfl | hp' <;> dsimp only <;> first | assumption | (apply Ne.symm; assumption) | (apply Ne.symm; have := hrest p' hp'; simp [this]) | skip
  rintro v H' s₂ ⟨vs', n', tk, hv, hs', hH⟩ l₂ F₂ N₂ n₂
  subst hv
  subst hH
  replace N₂ := subN N₂ (A := lexH w a line t1 vs' n' pv e3) (by walk_at "m sub")
  simp only [lexH, lexD, List.cons_append, List.nil_append] at N₂
  k_sweep
  walk_at "m go"
  · exact ⟨⟨_, vs', n', _, rfl, hs', by rw [if_pos (by assumption)]; rfl⟩⟩
  · exact ⟨⟨_, vs', n', _, rfl, hs', by rw [if_neg (by assumption)]; rfl⟩⟩
end
section
/-- the next sign of a lexer's iterator -/
theorem next_rd {a : LexA} {line : Int} {t1 : Tok} {vs : List Value} {e2 : Nat} {pv : List Value} {e3 : Nat} {rem : List Nat} {A : Around} {P : Heap} {L I q : Addr} {s z : Shared} {m : Str → Option Value} {t : Tok} {Q : Option Value → Shared → Prop} {E : Value → Shared → Prop}
    (ok : LexOk w a) (hs : Sg vs rem.reverse) (hr : rem.length ≤ 100000) (hl : 0 ≤ line ∧ line ≤ 100000) (r : Rm A 6) (G : Gd w P) (F : Fr P L s.heap m)
    (N : News P L s.heap ((I, ciObj (.ref q) (.str "" t) false) :: (q, methodObj (.ref 49) (.ref a.x)) :: lexH w a line t1 vs e2 pv e3)) (nd : I ≠ q ∧ ∀ p ∈ lexH w a line t1 vs e2 pv e3, p.1 ≠ I ∧ p.1 ≠ q) (lz : Like z s)
    (h1 : ∀ c rr s' t1' vs' e2' tk, rem = c :: rr → Like z s' → Fr P L s'.heap m → News P L s'.heap ((I, ciObj (.ref q) (.str "" t) false) :: (q, methodObj (.ref 49) (.ref a.x)) :: lexH w a (if c = 10 then line + 1 else line) t1' vs' e2' pv e3) →
      Sg vs' rr.reverse → Q (some (.str (S [c]) tk)) s')
    (h2 : ∀ s' t1' vs' e2', rem = [] → Like z s' → Fr P L s'.heap m → News P L s'.heap ((I, ciEnd) :: (q, methodObj (.ref 49) (.ref a.x)) :: lexH w a line t1' vs' e2' pv e3) → Sg vs' [] → Q none s') :
    wpAny (model PR w) A (pyNext (.ref I)) Q E s := by
  walk_at "m fill"
  have hf : ∃ oc od fd osl, (hk.heap_1 w.params).lookup 49 = some ⟨oc, od, .func fd, osl⟩ := by
    refine' fn_at ?k
    case k => k_is
  obtain ⟨oc, od, fd, osl, hf⟩ := hf
  have hI := (N _ List.mem_cons_self).1
  have hq := (N _ (List.mem_cons_of_mem _ List.mem_cons_self)).1
  refine ci_next r.hh hI hq (F.keep _ _ (G.X _ _ hf)) rfl ?_
  refine method_call hq (code_spec (rest := [(I, ciObj (.ref q) (.str "" t) false), (q, methodObj (.ref 49) (.ref a.x))]) (read_s (t1 := t1) (e2 := e2) (pv := pv) (e3 := e3) ok hs hr hl) r.in1 G F N ?_ ?_ lz ?_)
  · walk_at "m sub"
  · intro p hp p' hp'
    simp only [List.mem_cons, List.not_mem_nil, or_false] at hp
    rcases hp with rfl | rfl
    · exact (nd.2 p' hp').1.symm
    · exact (nd.2 p' hp').2.symm
  rintro v H' s' ⟨t1', vs', e2', tk, rfl, hs', rfl⟩ l' F' N' ap
  have hI' := (N' (I, ciObj (.ref q) (.str "" t) false) (List.mem_append_right _ List.mem_cons_self)).1
  have hq' := (N' (q, methodObj (.ref 49) (.ref a.x)) (List.mem_append_right _ (List.mem_cons_of_mem _ List.mem_cons_self))).1
  refine ⟨_, _, rfl, hI', hq', ⟨_, F'.keep _ _ (G.X _ _ hf), rfl⟩, fun hc => ?_, fun hc h' hx he => ?_⟩
  · cases rem with
    | nil => exact absurd rfl hc
    | cons c rr =>
      refine h1 c rr s' t1' vs' e2' tk rfl l' F' ?_ hs'
      have e : (if (c :: rr).take 1 = [10] then line + 1 else line) = (if c = 10 then line + 1 else line) := by simp
      rw [e] at N'
      exact subN N' (by walk_at "m sub")
  · cases rem with
    | cons c rr => simp at hc
    | nil =>
      have hLI : L ≠ I := fun q => (N _ List.mem_cons_self).2.1 q.symm
      have hPI : P.get? I = none := (N _ List.mem_cons_self).2.2
      refine h2 _ t1' vs' e2' rfl l' ⟨F'.ns.at' fun o e => hx _ o hLI e, fun b o e => hx b o (fun q => by rw [q, hPI] at e; cases e) (F'.keep b o e), F'.above⟩ ?_ hs'
      intro p hp
      rcases List.mem_cons.mp hp with rfl | hp
      · exact ⟨he, (N _ List.mem_cons_self).2⟩
      · rcases List.mem_cons.mp hp with rfl | hp
        · exact ⟨hx _ _ (Ne.symm nd.1) hq', (N _ (List.mem_cons_of_mem _ List.mem_cons_self)).2⟩
        · have n := N' p (List.mem_append_left _ hp)
          exact ⟨hx _ _ (ap p hp _ List.mem_cons_self) n.1, n.2⟩
end
section
theorem pop_s {a : LexA} {line : Int} {t1 : Tok} {vs : List Value} {e2 : Nat} {v0 : Value} {pv : List Value} {e3 : Nat} (ok : LexOk w a) (hp : pv.length ≤ 1000) :
   Spec w 3 (.ref 56) [.ref a.x] (lexH w a line t1 vs e2 (v0 :: pv) e3) (fun v H' => ∃ e3', v = v0 ∧ H' = lexH w a line t1 vs e2 pv e3') := by
  walk_at "m fill"
  refine' spec_def [("self", .ref a.x)] ?k1 ?k2 ?k3 ?k4 ?k5 ?c1 ?c2 ?c3 ?c4
  walk_at "m enter"
  intro A P L s z p loose mean mg mb r G lz X T F N K0 hK0
  (try k_fold)
  unfold lexH lexD at N
  walk_at "m lex"
  walk_at "m go"
  exact ⟨⟨_, rfl, rfl⟩⟩
theorem push_s {a : LexA} {line : Int} {t1 : Tok} {vs : List Value} {e2 : Nat} {v0 : Value} {pv : List Value} {e3 : Nat} (ok : LexOk w a) (hp : pv.length ≤ 1000) :
   Spec w 3 (.ref 63) [.ref a.x, v0] (lexH w a line t1 vs e2 pv e3) (fun v H' => ∃ e3', H' = lexH w a line t1 vs e2 (pv ++ [v0]) e3') := by
  walk_at "m fill"
  refine' spec_def [("self", .ref a.x), ("token", v0)] ?k1 ?k2 ?k3 ?k4 ?k5 ?c1 ?c2 ?c3 ?c4
  walk_at "m enter"
  intro A P L s z p loose mean mg mb r G lz X T F N K0 hK0
  (try k_fold)
  unfold lexH lexD at N
  walk_at "m lex"
  walk_at "m go"
  exact ⟨⟨_, rfl⟩⟩
end
section
theorem sub_ab {a b : Addr × Obj} {H : List (Addr × Obj)} : ∀ p ∈ H ++ [a, b], p ∈ a :: b :: H := by
  intro p hp
  simp only [List.mem_append, List.mem_cons, List.not_mem_nil, or_false] at hp ⊢
  rcases hp with h | h | h
  · exact .inr (.inr h)
  · exact .inl h
  · exact .inr (.inl h)
theorem sub_ba {a b : Addr × Obj} {H : List (Addr × Obj)} : Sub (a :: b :: H) (H ++ [a, b]) := by
  intro p hp
  simp only [List.mem_append, List.mem_cons, List.not_mem_nil, or_false] at hp ⊢
  rcases hp with h | h | h
  · exact .inr (.inl h)
  · exact .inr (.inr h)
  · exact .inl h
theorem lexH_apart {a : LexA} {line line' : Int} {t1 t1' : Tok} {vs vs' pv pv' : List Value} {e2 e3 e2' e3' : Nat} {I : Addr} (h : ∀ p ∈ lexH w a line t1 vs e2 pv e3, p.1 ≠ I) : ∀ p ∈ lexH w a line' t1' vs' e2' pv' e3', p.1 ≠ I := by
  simp only [lexH, List.forall_mem_cons] at h ⊢
  exact h
theorem apart2 {a : LexA} {line line' : Int} {t1 t1' : Tok} {vs vs' pv pv' : List Value} {e2 e3 e2' e3' : Nat} {I q : Addr} {o1 o2 : Obj} (h : ∀ p ∈ lexH w a line t1 vs e2 pv e3, p.1 ≠ I) (h' : ∀ p ∈ lexH w a line t1 vs e2 pv e3, p.1 ≠ q) :
    ∀ p ∈ [(I, o1), (q, o2)], ∀ p' ∈ lexH w a line' t1' vs' e2' pv' e3', p.1 ≠ p'.1 := by
  intro p hp p' hp'
  simp only [List.mem_cons, List.not_mem_nil, or_false] at hp
  rcases hp with rfl | rfl
  · exact (lexH_apart h p' hp').symm
  · exact (lexH_apart h' p' hp').symm
theorem tok_s {a : LexA} {line : Int} {t1 : Tok} {vs : List Value} {e2 : Nat} {e3 : Nat} {rem : List Nat} (ok : LexOk w a) (hs : Sg vs rem.reverse) (hr : rem.length ≤ 1000) (hl : 0 ≤ line ∧ line ≤ 1000) :
   Spec w 8 (.ref 56) [.ref a.x] (lexH w a line t1 vs e2 [] e3) (fun v H' => ∃ line' t1' vs' e2' tk, v = .str (S (tokF rem).1) tk ∧ Sg vs' (tokF rem).2.reverse ∧ H' = lexH w a line' t1' vs' e2' [] e3 ∧ line' + cnt (tokF rem).2 = line + cnt rem) := by
  walk_at "m fill"
  refine' spec_def [("self", .ref a.x)] ?k1 ?k2 ?k3 ?k4 ?k5 ?c1 ?c2 ?c3 ?c4
  walk_at "m enter"
  intro A P L s z p loose mean mg mb r G lz X T F N K0 hK0
  (try k_fold)
  unfold lexH lexD at N
  walk_at "m go"
  refine ⟨cut P L (s₀ := z) (by walk_at "LK") (fun m' H' => (∃ tt, m' "token" = some (.str (S (tokF rem).1) tt)) ∧ ∃ line' t1' vs' e2', H' = lexH w a line' t1' vs' e2' [] e3 ∧ Sg vs' (tokF rem).2.reverse ∧ line' + cnt (tokF rem).2 = line + cnt rem) ?_ ?_⟩
  rotate_left
  · rintro s₁ m' H' l₁ ⟨⟨tt, h1⟩, line', t1', vs', e2', rfl, h2, h3⟩ F' N'
    k_sweep
    walk_at "m go"
    exact ⟨⟨line', t1', vs', e2', tt, rfl, h2, rfl, h3⟩⟩
  intro K1 hK1
  refine for_in ?_
  walk_at "m go"
  rename_i q _ nq I _ nI _ F' N'
  refine ⟨pyIter_ci (N' _ List.mem_cons_self).1 ?_⟩
  have nd1 : ∀ p ∈ lexH w a line t1 vs e2 [] e3, p.1 ≠ I := fun p hp => nI p (List.mem_cons_of_mem _ hp)
  have nd2 : ∀ p ∈ lexH w a line t1 vs e2 [] e3, p.1 ≠ q := nq
  have nd3 : I ≠ q := (nI _ List.mem_cons_self).symm
  refine for_gen (z := z) (by walk_at "LK") rfl rfl (fun n m₁ H₁ => m₁ "self" = some (.ref a.x) ∧ m₁ "fiter" = some (.ref I) ∧
    ((∃ rem1 line1 t1' vs' e2' tt ts, Sub ((I, ciObj (.ref q) (.str "" ts) false) :: (q, methodObj (.ref 49) (.ref a.x)) :: lexH w a line1 t1' vs' e2' [] e3) H₁ ∧ Sg vs' rem1.reverse ∧ rem1.length ≤ 1000 ∧ 0 ≤ line1 ∧ line1 + cnt rem1 = line + cnt rem ∧ tokF rem1 = tokF rem ∧ n = rem1.length + 1 ∧ m₁ "token" = some (.str (S []) tt)) ∨
     (∃ line1 t1' vs' e2' tt, Sub ((I, ciEnd) :: (q, methodObj (.ref 49) (.ref a.x)) :: lexH w a line1 t1' vs' e2' [] e3) H₁ ∧ Sg vs' (tokF rem).2.reverse ∧ line1 + cnt (tokF rem).2 = line + cnt rem ∧ n = 0 ∧ m₁ "token" = some (.str (S (tokF rem).1) tt)))) (rem.length + 1) (by assumption) (by assumption)
    ⟨rfl, rfl, .inl ⟨rem, line, t1, vs, e2, _, _, Sub.rfl', hs, hr, hl.1, rfl, rfl, rfl, by rw [← lit_e]; rfl⟩⟩ ?_
  rintro n m₁ H₁ s₁ l₁ F₁ N₁ ⟨h1, h2, h3⟩ K2 hK2
  k_sweep
  have hcr := cnt_le rem
  have hcr2 := cnt_nonneg rem
  rcases h3 with ⟨rem1, line1, t1', vs', e2', tt, ts, hsub, hs1, hr1, hl1, hl2, hT, hn, h3⟩ | ⟨line1, t1', vs', e2', tt, hsub, hs1, hl1, hn, h3⟩
  · have hc1 := cnt_nonneg rem1
    refine next_rd ok hs1 (by lia) (by lia) (r.le (by lia)) G F₁ (subN N₁ hsub) ⟨nd3, fun p hp => ⟨lexH_apart nd1 p hp, lexH_apart nd2 p hp⟩⟩ l₁ ?_ ?_
    rotate_left
    · rintro s₂ t1b vs₂ e2b rfl l₂ F₂ N₂ hs₂
      refine Imp2.go (by assumption) ?_; exact CutQ.next l₂ F₂ N₂ ⟨lexH w a line1 t1b vs₂ e2b [] e3, Sub.rfl'.tail.tail, ⟨tt, by rw [← hT]; exact h3⟩, line1, t1b, vs₂, e2b, rfl, by rw [← hT]; exact hs₂, by rw [← hT]; exact hl2⟩
    rintro c rr s₂ t1b vs₂ e2b tk rfl l₂ F₂ N₂ hs₂
    refine ⟨_, l₂, F₂, N₂, fun s₃ l₃ F₃ N₃ => ?_⟩
    replace F₃ : Fr P L s₃.heap _ := F₃
    replace N₃ : News P L s₃.heap _ := N₃
    obtain ⟨line2, hline2⟩ : ∃ l2, l2 = (if c = 10 then line1 + 1 else line1) := ⟨_, rfl⟩
    rw [← hline2] at N₃
    have hl3 : 0 ≤ line2 ∧ line2 + cnt rr = line + cnt rem := by rw [cnt_cons] at hl2; subst hline2; split <;> rename_i hq <;> simp only [hq, if_true, if_false] at hl2 <;> lia
    have hc2 := cnt_nonneg rr
    simp only [List.length_cons] at hr1 hn
    rw [tokF_cons] at hT
    k_sweep
    have hi : HaltIf := ⟨⟩
    walk_at "m go"
    refine ⟨cut P L (s₀ := z) (by walk_at "LK") (fun m' H' => ¬ ws c ∧ m' "ch" = some (.str (S [c]) tk) ∧ m' "self" = some (.ref a.x) ∧ m' "fiter" = some (.ref I) ∧ m' "token" = some (.str (S []) tt) ∧ H' = (I, ciObj (.ref q) (.str "" ts) false) :: (q, methodObj (.ref 49) (.ref a.x)) :: lexH w a line2 t1b vs₂ e2b [] e3) ?_ ?_⟩
    · intro K1 hK1
      clear hi
      walk_at "m go"
      · rename_i hw
        rw [if_pos hw] at hT
        exact ⟨⟨rr.length + 1, by lia, h1, h2, .inl ⟨rr, line2, t1b, vs₂, e2b, tt, ts, Sub.rfl', hs₂, by lia, hl3.1, hl3.2, hT, rfl, h3⟩⟩⟩
      · exact ⟨⟨_, Sub.rfl', by assumption, rfl, h1, h2, h3, rfl⟩⟩
    rintro s₄ m₂ H₂ l₄ ⟨hw, g1, g2, g3, g4, rfl⟩ F₄ N₄
    k_sweep
    rw [if_neg hw] at hT
    refine wpAny_execs_cons ?_
    walk_at "m go"
    · rename_i hq
      rw [if_pos hq] at hT
      clear hi
      refine ⟨wpAny_execs_cons (for_in ?_)⟩
      walk_at "m go"
      refine ⟨pyIter_ci (News.get (by assumption) (by k_mem)) ?_⟩
      refine' for_gen (z := z) (by walk_at "LK") rfl rfl (fun n m₁ H₁ => m₁ "self" = some (.ref a.x) ∧ m₁ "fiter" = some (.ref I) ∧
        ∃ tok rem2 line1 t1' vs' e2' tt, Sub ((I, ciObj (.ref q) (.str "" ts) false) :: (q, methodObj (.ref 49) (.ref a.x)) :: lexH w a line1 t1' vs' e2' [] e3) H₁ ∧ Sg vs' rem2.reverse ∧ tok.length + rem2.length ≤ 1000 ∧ 0 ≤ line1 ∧ line1 + cnt rem2 = line + cnt rem ∧ quo tok rem2 = tokF rem ∧ n = rem2.length ∧ m₁ "token" = some (.str (S tok) tt)) rr.length ?F1 ?N1 ?J1 ?T1
      case F1 => assumption
      case N1 => assumption
      case J1 => exact ⟨g2, g3, [], rr, line2, t1b, vs₂, e2b, tt, Sub.rfl', hs₂, by simp only [List.length_nil]; lia, hl3.1, hl3.2, hT, rfl, g4⟩
      rintro n m₁ H₁ s₁ l₁ F₁ N₁ ⟨h1, h2, tok, rem2, line3, t1c, vs₃, e2c, tt, hsub, hs3, hr3, hl4, hl5, hQ, hn2, h3⟩ K2 hK2
      k_sweep
      have hc2 := cnt_nonneg rem2
      refine next_rd ok hs3 (by lia) (by lia) (r.le (by lia)) G F₁ (subN N₁ hsub) ⟨nd3, fun p hp => ⟨lexH_apart nd1 p hp, lexH_apart nd2 p hp⟩⟩ l₁ ?_ ?_
      · rintro c2 rr2 s₂ t1d vs₄ e2d tk2 rfl l₂ F₂ N₂ hs4
        refine ⟨_, l₂, F₂, N₂, fun s₃ l₃ F₃ N₃ => ?_⟩
        replace F₃ : Fr P L s₃.heap _ := F₃
        replace N₃ : News P L s₃.heap _ := N₃
        obtain ⟨line4, hline4⟩ : ∃ l2, l2 = (if c2 = 10 then line3 + 1 else line3) := ⟨_, rfl⟩
        rw [← hline4] at N₃
        have hl6 : 0 ≤ line4 ∧ line4 + cnt rr2 = line + cnt rem := by rw [cnt_cons] at hl5; subst hline4; split <;> rename_i hq <;> simp only [hq, if_true, if_false] at hl5 <;> lia
        have hc3 := cnt_nonneg rr2
        simp only [List.length_cons] at hr3 hn2
        rw [quo_cons] at hQ
        k_sweep
        have hrs : RetSub := ⟨⟩
        walk_at "m go"
        · rename_i hq
          rw [if_pos hq] at hQ
          refine ⟨⟨lexH w a line4 t1d vs₄ e2d [] e3, Sub.rfl'.tail.tail, line4, t1d, vs₄, e2d, tt, ?_, ?_, rfl, ?_⟩⟩
          · rw [← hQ]
          · rw [← hQ]; exact hs4
          · rw [← hQ]; exact hl6.2
        · rename_i hq hq2
          rw [if_neg (by assumption), if_pos (by assumption)] at hQ
          refine ⟨call_spec (rest := [(I, ciObj (.ref q) (.str "" ts) false), (q, methodObj (.ref 49) (.ref a.x))]) (read_s (line := line4) (t1 := t1d) (vs := vs₄) (e2 := e2d) (pv := []) (e3 := e3) (rem := rr2) ok hs4 (by lia) (by lia)) (Rm.le r (Nat.le_of_ble_eq_true rfl)) G (by assumption) (by assumption) (by with_reducible exact sub_ab) (apart2 nd1 nd2) (by walk_at "LK") ?_⟩
          rintro v H' s₅ ⟨t1e, vs₅, e2e, tk5, rfl, hs5, rfl⟩ l₅ F₅ N₅ ap
          k_sweep
          have hct := cnt_tail rr2
          have hlt : (rr2.take 1).length + rr2.tail.length = rr2.length := by cases rr2 <;> simp <;> lia
          walk_at "m go"
          refine ⟨⟨rr2.tail.length, by lia, h1, h2, _, rr2.tail, (if rr2.take 1 = [10] then line4 + 1 else line4), t1e, vs₅, e2e, _, ?_, hs5, ?_, ?_, ?_, hQ, rfl, rfl⟩⟩
          · with_reducible exact sub_ba
          · rw [List.length_append]; lia
          · split <;> lia
          · split <;> rename_i hq <;> simp only [hq, if_true, if_false] at hct <;> lia
        · rw [if_neg (by assumption), if_neg (by assumption)] at hQ
          refine ⟨⟨rr2.length, by lia, h1, h2, _, rr2, line4, t1d, vs₄, e2d, _, ?_, hs4, ?_, hl6.1, hl6.2, hQ, rfl, rfl⟩⟩
          · with_reducible exact Sub.rfl'
          · rw [List.length_append]; simp only [List.length_cons, List.length_nil]; lia
      · rintro s₂ t1d vs₄ e2d rfl l₂ F₂ N₂ hs4
        rw [quo_nil] at hQ
        walk_at "m go"
        refine ⟨⟨0, by lia, h1, h2, .inr ⟨line3, t1d, vs₄, e2d, tt, ?_, ?_, ?_, rfl, ?_⟩⟩⟩
        · with_reducible exact Sub.rfl'
        · rw [← hQ]; exact hs4
        · rw [← hQ]; exact hl5
        · rw [← hQ]; exact h3

    rw [if_neg (by assumption)] at hT
    refine ⟨cut P L (s₀ := z) (by walk_at "LK") (fun m' H' => ∃ d rr' line5 t1c vs₃ e2c tk', m' "ch" = some (.str (S d) tk') ∧ m' "self" = some (.ref a.x) ∧ m' "fiter" = some (.ref I) ∧ m' "token" = some (.str (S []) tt) ∧ H' = (I, ciObj (.ref q) (.str "" ts) false) :: (q, methodObj (.ref 49) (.ref a.x)) :: lexH w a line5 t1c vs₃ e2c [] e3 ∧ Sg vs₃ rr'.reverse ∧ d.length + rr'.length ≤ 1000 ∧ 0 ≤ line5 ∧ line5 + cnt rr' = line + cnt rem ∧ rr'.length ≤ rr.length ∧ bar d rr' = tokF rem) ?_ ?_⟩
    · intro K1 hK1
      clear hi
      walk_at "m go"
      · rw [if_pos (by assumption)] at hT
        refine ⟨call_spec (rest := [(I, ciObj (.ref q) (.str "" ts) false), (q, methodObj (.ref 49) (.ref a.x))]) (read_s (line := line2) (t1 := t1b) (vs := vs₂) (e2 := e2b) (pv := []) (e3 := e3) (rem := rr) ok hs₂ (by lia) (by lia)) (Rm.le r (Nat.le_of_ble_eq_true rfl)) G (by assumption) (by assumption) (by with_reducible exact sub_ab) (apart2 nd1 nd2) (by walk_at "LK") ?_⟩
        rintro v H' s₅ ⟨t1e, vs₅, e2e, tk5, rfl, hs5, rfl⟩ l₅ F₅ N₅ ap
        k_sweep
        have hct := cnt_tail rr
        have hlt : (rr.take 1).length + rr.tail.length = rr.length := by cases rr <;> simp <;> lia
        walk_at "m go"
        refine ⟨⟨_, ?_, rr.take 1, rr.tail, (if rr.take 1 = [10] then line2 + 1 else line2), t1e, vs₅, e2e, tk5, rfl, g2, g3, g4, rfl, hs5, by lia, ?_, ?_, by lia, hT⟩⟩
        · with_reducible exact sub_ba
        · split <;> lia
        · split <;> rename_i hq <;> simp only [hq, if_true, if_false] at hct <;> lia
      · rw [if_neg (by assumption)] at hT
        exact ⟨⟨_, Sub.rfl', [c], rr, line2, t1b, vs₂, e2b, _, g1, g2, g3, g4, rfl, hs₂, by simp only [List.length_cons, List.length_nil]; lia, hl3.1, hl3.2, by lia, hT⟩⟩
    clear hi
    rintro s₆ m₃ H₃ l₆ ⟨d, rr', line5, t1c, vs₃, e2c, tk', g1, g2, g3, g4, rfl, hs6, hd, hl7, hl8, hl9, hB⟩ F₆ N₆
    k_sweep
    walk_at "m go"
    · refine ⟨wpAny_execs_cons (for_in ?_)⟩
      walk_at "m go"
      refine ⟨pyIter_ci (News.get (by assumption) (by k_mem)) ?_⟩
      refine' for_gen (z := z) (by walk_at "LK") rfl rfl (fun n m₁ H₁ => m₁ "self" = some (.ref a.x) ∧ m₁ "fiter" = some (.ref I) ∧
        ∃ tok rem2 line1 t1' vs' e2' tt, Sub ((I, ciObj (.ref q) (.str "" ts) false) :: (q, methodObj (.ref 49) (.ref a.x)) :: lexH w a line1 t1' vs' e2' [] e3) H₁ ∧ Sg vs' rem2.reverse ∧ tok.length + rem2.length ≤ 1000 ∧ 0 ≤ line1 ∧ line1 + cnt rem2 = line + cnt rem ∧ bar tok rem2 = tokF rem ∧ n = rem2.length ∧ m₁ "token" = some (.str (S tok) tt)) rr'.length ?F2 ?N2 ?J2 ?T2
      case F2 => assumption
      case N2 => assumption
      case J2 => exact ⟨g2, g3, d, rr', line5, t1c, vs₃, e2c, _, Sub.rfl', hs6, hd, hl7, hl8, hB, rfl, rfl⟩
      rintro n m₁ H₁ s₁ l₁ F₁ N₁ ⟨h1, h2, tok, rem2, line3, t1c, vs₃, e2c, tt, hsub, hs3, hr3, hl4, hl5, hQ, hn2, h3⟩ K2 hK2
      k_sweep
      have hc2 := cnt_nonneg rem2
      refine next_rd ok hs3 (by lia) (by lia) (r.le (by lia)) G F₁ (subN N₁ hsub) ⟨nd3, fun p hp => ⟨lexH_apart nd1 p hp, lexH_apart nd2 p hp⟩⟩ l₁ ?_ ?_
      · rintro c2 rr2 s₂ t1d vs₄ e2d tk2 rfl l₂ F₂ N₂ hs4
        refine ⟨_, l₂, F₂, N₂, fun s₃ l₃ F₃ N₃ => ?_⟩
        replace F₃ : Fr P L s₃.heap _ := F₃
        replace N₃ : News P L s₃.heap _ := N₃
        obtain ⟨line4, hline4⟩ : ∃ l2, l2 = (if c2 = 10 then line3 + 1 else line3) := ⟨_, rfl⟩
        rw [← hline4] at N₃
        have hl6 : 0 ≤ line4 ∧ line4 + cnt rr2 = line + cnt rem := by rw [cnt_cons] at hl5; subst hline4; split <;> rename_i hq <;> simp only [hq, if_true, if_false] at hl5 <;> lia
        have hc3 := cnt_nonneg rr2
        simp only [List.length_cons] at hr3 hn2
        rw [bar_cons] at hQ
        k_sweep
        have hrs : RetSub := ⟨⟩
        walk_at "m go"
        · rename_i hq
          rw [if_pos hq] at hQ
          refine ⟨⟨lexH w a line4 t1d vs₄ e2d [] e3, Sub.rfl'.tail.tail, line4, t1d, vs₄, e2d, tt, ?_, ?_, rfl, ?_⟩⟩
          · rw [← hQ]
          · rw [← hQ]; exact hs4
          · rw [← hQ]; exact hl6.2
        · rename_i hq hq2
          rw [if_neg (by assumption), if_pos (by assumption)] at hQ
          refine ⟨call_spec (rest := [(I, ciObj (.ref q) (.str "" ts) false), (q, methodObj (.ref 49) (.ref a.x))]) (read_s (line := line4) (t1 := t1d) (vs := vs₄) (e2 := e2d) (pv := []) (e3 := e3) (rem := rr2) ok hs4 (by lia) (by lia)) (Rm.le r (Nat.le_of_ble_eq_true rfl)) G (by assumption) (by assumption) (by with_reducible exact sub_ab) (apart2 nd1 nd2) (by walk_at "LK") ?_⟩
          rintro v H' s₅ ⟨t1e, vs₅, e2e, tk5, rfl, hs5, rfl⟩ l₅ F₅ N₅ ap
          k_sweep
          have hct := cnt_tail rr2
          have hlt : (rr2.take 1).length + rr2.tail.length = rr2.length := by cases rr2 <;> simp <;> lia
          walk_at "m go"
          refine ⟨⟨rr2.tail.length, by lia, h1, h2, _, rr2.tail, (if rr2.take 1 = [10] then line4 + 1 else line4), t1e, vs₅, e2e, _, ?_, hs5, ?_, ?_, ?_, hQ, rfl, rfl⟩⟩
          · with_reducible exact sub_ba
          · rw [List.length_append]; lia
          · split <;> lia
          · split <;> rename_i hq <;> simp only [hq, if_true, if_false] at hct <;> lia
        · rw [if_neg (by assumption), if_neg (by assumption)] at hQ
          refine ⟨⟨rr2.length, by lia, h1, h2, _, rr2, line4, t1d, vs₄, e2d, _, ?_, hs4, ?_, hl6.1, hl6.2, hQ, rfl, rfl⟩⟩
          · with_reducible exact Sub.rfl'
          · rw [List.length_append]; simp only [List.length_cons, List.length_nil]; lia
      · rintro s₂ t1d vs₄ e2d rfl l₂ F₂ N₂ hs4
        rw [bar_nil] at hQ
        walk_at "m go"
        refine ⟨⟨0, by lia, h1, h2, .inr ⟨line3, t1d, vs₄, e2d, tt, ?_, ?_, ?_, rfl, ?_⟩⟩⟩
        · with_reducible exact Sub.rfl'
        · rw [← hQ]; exact hs4
        · rw [← hQ]; exact hl5
        · rw [← hQ]; exact h3

  · refine ci_done r.hh (News.get (subN N₁ hsub) List.mem_cons_self) fun h' hk => ?_
    have F₂ : Fr P L h' m₁ := ⟨F₁.ns.at' fun o e => hk _ o e, fun b o e => hk b o (F₁.keep b o e), F₁.above⟩
    have N₂ : News P L h' (lexH w a line1 t1' vs' e2' [] e3) := fun p hp => ⟨hk _ _ ((subN N₁ hsub) p (List.mem_cons_of_mem _ (List.mem_cons_of_mem _ hp))).1, ((subN N₁ hsub) p (List.mem_cons_of_mem _ (List.mem_cons_of_mem _ hp))).2⟩
    refine Imp2.go (by assumption) ?_; exact CutQ.next (Like.to l₁) F₂ N₂ ⟨_, Sub.rfl', ⟨tt, h3⟩, line1, t1', vs', e2', rfl, hs1, hl1⟩
end
section
theorem init_s {x dx : Addr} {fp : Value} (hx : x ≠ dx) :
   Spec w 4 (.ref 42) [.ref x, fp] [(x, instObj 66 dx), (dx, dictOf [] 0)] (fun v H' => v = .none ∧ ∃ k1 k2 k3 k4 t1 t3 pb e, H' = [(pb, listOf #[] e), (x, instObj 66 dx), (dx, dictOf [ent w "lineno" k1 (.int 1 t1), ent w "instream" k2 fp, ent w "whitespace" k3 (.str "\n\t\r " t3), ent w "pushback" k4 (.ref pb)] 4)] ∧ x ≠ pb ∧ dx ≠ pb) := by
  walk_at "m fill"
  refine' spec_def [("self", .ref x), ("fp", fp)] ?k1 ?k2 ?k3 ?k4 ?k5 ?c1 ?c2 ?c3 ?c4
  walk_at "m enter"
  intro A P L s z p loose mean mg mb r G lz X T F N K0 hK0
  (try k_fold)
  walk_at "m go"
  exact ⟨⟨rfl, _, _, _, _, _, _, _, 0, rfl, Nat.ne_of_lt (by lia), Nat.ne_of_lt (by lia)⟩⟩
theorem spec_cls {d : Nat} {C fI : Addr} {args : List Value} {H : List (Addr × Obj)} {Q : Post} (hm : makesIn (hk.heap_1 w.params) C = true) (hi : findIn (hk.heap_1 w.params) (.ref C) "__init__" = some (some (.ref fI))) (hf : typeIn (hk.heap_1 w.params) (.ref fI) = some (.type "function"))
    (Si : ∀ x dx, x ≠ dx → Spec w d (.ref fI) (.ref x :: args) ((x, instObj C dx) :: (dx, dictOf [] 0) :: H) (fun v H' => v = .none ∧ (x ≠ dx → (∀ p ∈ H, p.1 ≠ x ∧ p.1 ≠ dx) → Q (.ref x) H'))) : Spec w (d + 1) (.ref C) args H Q := by
  intro A P s r G k hs L
  obtain ⟨hh, g, dr, t, os⟩ := s
  have X := G.X.keeps k
  change P.objs.size ≤ hh.objs.size at hs
  refine make_core (makes_of X hm) (looks_findIn X hi) (fun self => bind_fn X self hf) (.inl rfl) ?_
  have kk : ∀ b o, hh.get? b = some o → ((hh.push emptyDict).push (instObj C hh.objs.size)).get? b = some o := fun b o e => Heap.get?_push_of_some _ (Heap.get?_push_of_some _ e)
  have szn : ∀ n, hh.objs.size ≤ n → P.get? n = none := fun n hn => by
    cases q : P.get? n with
    | none => rfl
    | some o => exact absurd (Nat.lt_of_lt_of_le (Heap.lt_size q) hs) (by lia)
  have hne : ∀ p ∈ H, p.1 ≠ hh.objs.size + 1 ∧ p.1 ≠ hh.objs.size := fun p hp => by
    have : p.1 < hh.objs.size := Heap.lt_size (L p hp).1
    exact ⟨Nat.ne_of_lt (Nat.lt_succ_of_lt this), Nat.ne_of_lt this⟩
  have rr : Rm (A.under (.builtin "type.__call__" ⟨.ref C :: args, []⟩)) d := ⟨r.hh, by rw [depth_under_make]; have := r.dep; lia, by rw [units_under_make]; have := r.un; lia⟩
  refine codeAny_mono (Si (hh.objs.size + 1) hh.objs.size (Nat.ne_of_gt (by lia)) _ P _ rr G (fun b o e => kk b o (k b o e)) (by
    show P.objs.size ≤ ((hh.push emptyDict).push (instObj C hh.objs.size)).objs.size
    rw [Heap.size_push, Heap.size_push]; lia) (fun p hp => ?_)) fun r s' o => ?_
  · simp only [List.mem_cons] at hp
    rcases hp with rfl | rfl | hp
    · exact ⟨by heap_get, szn _ (by lia)⟩
    · exact ⟨by heap_get, szn _ (by lia)⟩
    · exact ⟨kk _ _ (L p hp).1, (L p hp).2⟩
  · obtain ⟨v, H', rfl, lk, kp, L', rfl, q⟩ := o
    exact ⟨rfl, _, H', rfl, lk, kp, L', q (Nat.ne_of_gt (by lia)) hne⟩
theorem new_s {fp : Value} : Spec w 5 (.ref 66) [fp] [] (fun v H' => ∃ x dx pb k1 k2 k3 k4 t1 t3 e, v = .ref x ∧ H' = [(pb, listOf #[] e), (x, instObj 66 dx), (dx, dictOf [ent w "lineno" k1 (.int 1 t1), ent w "instream" k2 fp, ent w "whitespace" k3 (.str "\n\t\r " t3), ent w "pushback" k4 (.ref pb)] 4)] ∧ x ≠ dx ∧ x ≠ pb ∧ dx ≠ pb) := by
  walk_at "m fill"
  refine' spec_cls (fI := 42) ?k1 ?k2 ?k3 fun x dx hx => (init_s hx).mono (Nat.le_refl _) fun v H' h => ?_
  case k1 => k_is
  case k2 => k_is
  case k3 => k_is
  obtain ⟨rfl, k1, k2, k3, k4, t1, t3, pb, e, rfl, hp⟩ := h
  exact ⟨rfl, fun _ _ => ⟨x, dx, pb, k1, k2, k3, k4, t1, t3, e, rfl, rfl, hx, hp⟩⟩
end
section
open PySem PySem.W PySem.Calls PyProof.Rows
/-- entering a lambda -/
theorem spec_lam {d : Nat} {H : List (Addr × Obj)} {Q : Post} {name qual : Str} {params : Arguments} {body : Expr} {scope : Scope} {cl : List (Str × Addr)} {pm ctv : Value} {c' f : Addr} {oc : Obj} {vs : Array Value} {tq : Tok} {args : List Value} (binds : List (Str × Value))
    (ho : (f, kla_obj name qual params body scope cl pm c' ctv) ∈ H) (hc : (c', oc) ∈ H) (hdt : oc.data = .fields vs) (hv : vs[1]? = some (.str qual tq))
    (hbind : bindArgs (kla_fn name qual params body scope cl pm (.ref c') ctv) ⟨args, []⟩ = pure binds) (hloc : ∀ y ∈ binds, scope.names.lookup y.1 = some .local)
    (h : ∀ A P L s s₁ p loose mean mg mb, Rm A d → Gd w P → Like s₁ s → (hk.heap_1 w.params).In P → Top p loose mean mg mb P → Fr P L s.heap (fun y => binds.reverse.lookup y) → News P L s.heap H →
      wpAny (model PR w) A (eval body (envX qual scope L f (.ref c') cl)) (fun v s' => Ret P L s₁ Q v s') (fun _ _ => False) s)
    (hco : scope.isCoroutine = false := by rfl) (hgen : scope.isGenerator = false := by rfl) (hk : scope.kind = .function := by rfl)
    (hcell : ∀ x ∈ scope.names, x.2 ≠ .cell := by decide) : Spec w (d + 1) (.ref f) args H Q := by
  intro A P s r G k hs L
  obtain ⟨X, ⟨p, l, me, mg, mb, T⟩, _⟩ := id G
  refine kla_callFunE r.room (L _ ho).1 rfl hco hgen rfl ⟨c', oc, vs, tq, rfl, (L _ hc).1, hdt, hv⟩ ?_
  rw [hbind]
  refine wpAny_pure (wpAny_newFunctionEnv hcell hloc (fun h₁ hns hsb => ⟨((T.nolimit).keeps k).fresh _ hsb, ?_⟩) hk)
  show codeAny _ _ (.expr body (envX qual scope s.heap.objs.size f (.ref c') cl)) _ _
  have hk₁ : ∀ b o, s.heap.get? b = some o → h₁.get? b = some o := fun b o e => hsb.extBut b o (Nat.ne_of_lt (Heap.lt_size e)) (Heap.get?_push_of_some _ e)
  refine kla_codeExpr (wpAny_mono (h (A.deeper (envX qual scope s.heap.objs.size f (.ref c') cl)) P s.heap.objs.size { s with heap := h₁, toks := s.toks + binds.length } s p l me mg mb r.deeper G Like.mk' X T ⟨hns, fun b o e => hk₁ b o (k b o e), hs⟩ (fun q hq => ⟨hk₁ _ _ (L q hq).1, Nat.ne_of_lt (Heap.lt_size (L q hq).1), (L q hq).2⟩)) (fun v s' hl => ?_) fun _ _ e => e.elim)
  obtain ⟨m', H', e, F', N', q⟩ := hl
  exact ⟨_, H', rfl, e, F'.keep, fun q hq => ⟨(N' q hq).1, (N' q hq).2.2⟩, q⟩
/-- entering a def with cells -/
theorem spec_defC {d : Nat} {H : List (Addr × Obj)} {Q : Post} {name qual : Str} {params : Arguments} {body : List Stmt} {scope : Scope} {dV kV doc pm cdv ct oc : Value} {an od : Option Addr} {osl : Array (Option Value)} {f : Addr} {args : List Value} (binds : List (Str × Value))
    (ho : (hk.heap_1 w.params).lookup f = some ⟨oc, od, .func (fnOf name qual params body scope dV kV doc pm an cdv ct), osl⟩) (hcd : codeIn (hk.heap_1 w.params) cdv qual = true)
    (hbind : bindArgs (fnOf name qual params body scope dV kV doc pm an cdv ct) ⟨args, []⟩ = pure binds)
    (hkind : (binds.all fun y => scope.names.lookup y.1 == some .local || scope.names.lookup y.1 == some .cell) = true)
    (hnd : ((cellsFrom 0 scope.names []).map (·.1)).Nodup)
    (h : ∀ A P L s s₁ cells p loose mean mg mb, Rm A d → Gd w P → Like s₁ s → (hk.heap_1 w.params).In P → Top p loose mean mg mb P → Fr P L s.heap (bindL (envOfC qual scope L f cdv).kindOf binds fun _ => none) → News P L s.heap (cells ++ H) →
      CellsAre (bindC (envOfC qual scope L f cdv).kindOf binds fun _ => none) (cellsFrom (L + 1) scope.names []) cells → (∀ p ∈ H, p.1 < L) → ∀ K, Imp2 (fun fl s' => Ret P L s₁ Q (match fl with | .ret v => v | _ => .none) s') K →
      wpAny (model PR w) A (execs body (envOfC qual scope L f cdv)) K (fun _ _ => False) s)
    (hco : scope.isCoroutine = false := by rfl) (hgen : scope.isGenerator = false := by rfl) (hk : scope.kind = .function := by rfl) : Spec w (d + 1) (.ref f) args H Q := by
  intro A P s r G k hs L
  obtain ⟨X, ⟨p, l, me, mg, mb, T⟩, _⟩ := id G
  refine codeAny_call_function (fd := fnOf name qual params body scope dV kV doc pm an cdv ct) r.room (k _ _ (X _ _ ho)) rfl hco hgen rfl (codeRec_of (X.keeps k) hcd) ((BindsTo.of_eq hbind : BindsTo s _ _ _) _ _ _ _ ?_)
  refine wpAny_newFunctionEnv_cells hk (kindsX hkind _) fun env' he s' x => ?_
  subst he
  refine ⟨(T.nolimit.keeps k).keeps x.toInCall.keep, codeAny_func ?_⟩
  obtain ⟨h₁, tk, rfl, _⟩ := x.done
  have hk₁ := x.toInCall.keep
  obtain ⟨cells, NC, Y⟩ := Cl.news (h₀ := s.heap) (Nat.le_refl _) fun n c hm => ⟨x.cell n c (lookup_of_mem_nodup (cellsFrom_names scope.names 0 (s.heap.objs.size + 1) [] [] rfl ▸ hnd) hm), x.above n c hm⟩
  refine wpAny_mono (h (A.deeper (envOfC qual scope s.heap.objs.size f cdv)) P s.heap.objs.size { s with heap := h₁, toks := tk } s cells p l me mg mb r.deeper G Like.mk' X T ⟨x.toInCall.ns, fun b o e => hk₁ b o (k b o e), hs⟩ (fun p hp => ?_) Y (fun p hp => Heap.lt_size (L p hp).1) _ (fun _ _ x => x)) (fun fl s' hl => ?_) fun _ _ e => e.elim
  · rcases List.mem_append.mp hp with hp | hp
    · refine ⟨(NC p hp).1, (NC p hp).2.1, ?_⟩
      cases q : P.get? p.1 with
      | none => rfl
      | some o => have := k _ _ q; rw [(NC p hp).2.2] at this; cases this
    · exact ⟨hk₁ _ _ (L p hp).1, Nat.ne_of_lt (Heap.lt_size (L p hp).1), (L p hp).2⟩
  · obtain ⟨m', H', e, F', N', q⟩ := hl
    exact ⟨_, H', rfl, e, F'.keep, fun q hq => ⟨(N' q hq).1, (N' q hq).2.2⟩, q⟩
end
section
theorem told_s {u v : List Nat} {tu tv tc tb : Tok} {c b : Int} (hu : u.length ≤ 40) (hv : v.length ≤ 40) (hc : 0 ≤ c ∧ c ≤ 1000) (h : Tells c b (levF u v b)) : Spec w 6 (.ref 117) [.str (S u) tu, .str (S v) tv, .int c tc, .int b tb] [] (fun r H' => r = .bool true) := by
  walk_at "m fill"
  refine' spec_def [("one", .str (S u) tu), ("two", .str (S v) tv), ("cost", .int c tc), ("bound", .int b tb)] ?k1 ?k2 ?k3 ?k4 ?k5 ?c1 ?c2 ?c3 ?c4
  walk_at "m enter"
  intro A P L s z p loose mean mg mb r G lz X T F N K0 hK0
  (try k_fold)
  walk_at "m go"
  refine ⟨call_spec (H := []) (lev_s hu hv) (Rm.le (by assumption) (Nat.le_of_ble_eq_true rfl)) G (by assumption) (by assumption) (fun p hp => hp) (fun _ _ _ hq => nomatch hq) (by walk_at "LK") ?_⟩
  rintro _ H' s₂ ⟨tk, rfl⟩ l₂ F₂ N₂ ap
  k_sweep
  unfold Tells at h
  generalize levF u v b = n at h ⊢
  walk_at "m go"
  · rename_i hcb
    rw [h.1 hcb, beq_self_eq_true]
    exact ⟨rfl⟩
  · rename_i hcb
    refine ⟨?_⟩
    show Value.bool (decide (b < n)) = _
    rw [decide_eq_true (h.2 (by lia))]
end
section

theorem step_s {a : LexA} {line : Int} {t1 : Tok} {vs : List Value} {e2 : Nat} {e3 : Nat} {rem : List Nat} {size : Int} {ts : Tok} (ok : LexOk w a) (hs : Sg vs rem.reverse) (hr : rem.length ≤ 1000) (hl : 0 ≤ line ∧ line ≤ 1000) :
   Spec w 10 (.ref 98) [.ref a.x, .ref a.sg, .int size ts] (lexH w a line t1 vs e2 [] e3) (fun v H' => ∃ line' t1' vs' e2' q, v = .ref q ∧ Sg vs' (tokF rem).2.reverse ∧ line' + cnt (tokF rem).2 = line + cnt rem ∧ ∃ tk1 tk2 tk3, H' = (q, tupOf [.str (S (tokF rem).1) tk1, .int line' tk2, .int (size - ((tokF rem).2.length : Nat)) tk3]) :: lexH w a line' t1' vs' e2' [] e3 ∧ ∀ p ∈ lexH w a line' t1' vs' e2' [] e3, p.1 ≠ q) := by
  walk_at "m fill"
  refine' spec_def [("lexer", .ref a.x), ("signs", .ref a.sg), ("size", .int size ts)] ?k1 ?k2 ?k3 ?k4 ?k5 ?c1 ?c2 ?c3 ?c4
  walk_at "m enter"
  intro A P L s z p loose mean mg mb r G lz X T F N K0 hK0
  (try k_fold)
  unfold lexH lexD at N
  walk_at "m go"
  refine ⟨call_spec (rest := []) (tok_s (line := line) (t1 := t1) (vs := vs) (e2 := e2) (e3 := e3) ok hs hr hl) (Rm.le r (Nat.le_of_ble_eq_true rfl)) G (by assumption) (by assumption) (by rw [List.append_nil]; exact fun p hp => hp) (fun _ hp => nomatch hp) (by walk_at "LK") ?_⟩
  rintro v H' s₂ ⟨line', t1', vs', e2', tk, rfl, hs', rfl, hc⟩ l₂ F₂ N₂ ap
  k_sweep
  rw [List.append_nil] at N₂
  unfold lexH lexD at N₂
  have hlen := hs'.length
  rw [List.length_reverse] at hlen
  have hlt := tokF_len rem
  walk_at "m go"
  rename_i D' h' F' N' nD
  refine ⟨?_⟩
  rw [← hlen]
  exact ⟨line', t1', vs', e2', D', rfl, hs', hc, _, _, _, rfl, fun p hp => Nat.ne_of_lt (nD p hp)⟩
end
section
inductive Tx : List Value → List (List Nat) → Prop where
  | nil : Tx [] []
  | cons (c : List Nat) (t : Tok) {vs : List Value} {l : List (List Nat)} : Tx vs l → Tx (.str (S c) t :: vs) (c :: l)
theorem Tx.length {vs : List Value} {l : List (List Nat)} (h : Tx vs l) : vs.length = l.length := by
  induction h with
  | nil => rfl
  | cons c t _ ih => rw [List.length_cons, List.length_cons, ih]
theorem Tx.append {vs us : List Value} {l k : List (List Nat)} (h : Tx vs l) (h' : Tx us k) : Tx (vs ++ us) (l ++ k) := by
  induction h with
  | nil => exact h'
  | cons c t _ ih => exact .cons c t ih
theorem Tx.get {vs : List Value} {l : List (List Nat)} (h : Tx vs l) : ∀ (i : Nat) (v : Value), vs[i]? = some v → ∃ c t, l[i]? = some c ∧ v = .str (S c) t := by
  induction h with
  | nil => intro i v h; simp at h
  | cons c t _ ih =>
    intro i v h
    cases i with
    | zero => simp at h; exact ⟨c, t, by simp, h.symm⟩
    | succ i => simp at h; obtain ⟨c', t', a, b⟩ := ih i v h; exact ⟨c', t', by simpa using a, b⟩
theorem Tx.at {vs : List Value} {l : List (List Nat)} (h : Tx vs l) : ∀ (i : Nat) (c : List Nat), l[i]? = some c → ∃ t, vs[i]? = some (.str (S c) t) := by
  induction h with
  | nil => intro i c h; simp at h
  | cons c t _ ih =>
    intro i v h
    cases i with
    | zero => simp at h; subst h; exact ⟨t, by simp⟩
    | succ i => simp at h; obtain ⟨t', a⟩ := ih i v h; exact ⟨t', by simpa using a⟩
theorem find65 : Txt.find (Str.ofString "AB") ⟨#[65]⟩ = ((0 : Nat) : Int) := by decide +kernel
theorem find66 : Txt.find (Str.ofString "AB") ⟨#[66]⟩ = ((1 : Nat) : Int) := by decide +kernel
theorem marks_s {u : List Nat} {tu : Tok} (hu : u.length ≤ 1000) : Spec w 4 (.ref 105) [.str (S u) tu] [] (fun v H' => ∃ q vs e, v = .ref q ∧ Tx vs (marks u) ∧ H' = [(q, listOf vs.toArray e)]) := by
  walk_at "m fill"
  refine' spec_def [("word", .str (S u) tu)] ?k1 ?k2 ?k3 ?k4 ?k5 ?c1 ?c2 ?c3 ?c4
  walk_at "m enter"
  intro A P L s z p loose mean mg mb r G lz X T F N K0 hK0
  (try k_fold)
  walk_at "m go"
  rename_i l' h0 _ h1 F1 N1
  refine ⟨wpAny_execs_cons (for_in ?_)⟩
  walk_at "m go"
  refine ⟨loop_str (s₀ := z) (y := S u) r.hh rfl rfl (by walk_at "LK") (by assumption) (by assumption) (fun i m H => i ≤ u.length ∧ ∃ q vs e, m "marks" = some (.ref q) ∧ H = [(q, listOf vs.toArray e)] ∧ Tx vs (marks (u.take i))) ⟨Nat.zero_le _, l', [], 0, rfl, rfl, .nil⟩ ?_ ?_⟩
  · rintro i c tv m₁ H₁ s₁ I io l₁ hc ⟨hi, q, vs, e, h1, rfl, hT⟩ ne F₁ N₁ K2 hK2
    have hcu : u[i]? = some c := by simpa [S] using hc
    have hiu : i < u.length := by rw [List.getElem?_eq_some_iff] at hcu; exact hcu.1
    have hqI := ne _ List.mem_cons_self
    dsimp only at hqI
    have hTl := hT.length
    rw [marks_len] at hTl
    have hl2 : (u.take i).length ≤ 1000 := by rw [List.length_take]; lia
    k_sweep
    walk_at "m go"
    · rename_i hc2
      simp only [List.mem_cons, List.not_mem_nil, or_false] at hc2
      rcases hc2 with rfl | rfl
      · refine ⟨?_⟩
        rw [find65, show Str.ofString "ab" = S [97, 98] from rfl]
        refine it_nat_nat (by decide) (by decide) ?_
        walk_at "m go"
        refine ⟨⟨_, Sub.rfl'.tail, ?_, hiu, q, _, _, rfl, rfl, ?_⟩⟩
        · intro p hp; rw [List.mem_singleton.mp hp]; exact hqI
        · rw [List.take_succ_eq_append_getElem hiu, marks_app, (List.getElem?_eq_some_iff.mp hcu).2]
          exact hT.append (.cons [] _ (.cons [] _ (.cons [97, 97] _ (.cons [65] _ .nil))))
      · refine ⟨?_⟩
        rw [find66, show Str.ofString "ab" = S [97, 98] from rfl]
        refine it_nat_nat (by decide) (by decide) ?_
        walk_at "m go"
        refine ⟨⟨_, Sub.rfl'.tail, ?_, hiu, q, _, _, rfl, rfl, ?_⟩⟩
        · intro p hp; rw [List.mem_singleton.mp hp]; exact hqI
        · rw [List.take_succ_eq_append_getElem hiu, marks_app, (List.getElem?_eq_some_iff.mp hcu).2]
          exact hT.append (.cons [] _ (.cons [] _ (.cons [98, 98] _ (.cons [66] _ .nil))))
    · have hc2 : ¬ c ∈ [65, 66] := by assumption
      refine ⟨⟨_, Sub.rfl'.tail, ?_, hiu, q, _, _, rfl, rfl, ?_⟩⟩
      · intro p hp; rw [List.mem_singleton.mp hp]; exact hqI
      · rw [List.take_succ_eq_append_getElem hiu, marks_app, (List.getElem?_eq_some_iff.mp hcu).2]
        have e : marks [c] = [[], [], [c, c], [c]] := by
          simp only [List.mem_cons, List.not_mem_nil, or_false] at hc2
          simp [marks, mk4, small, hc2]
        rw [e]
        exact hT.append (.cons [] _ (.cons [] _ (.cons [c, c] _ (.cons [c] _ .nil))))
  · rintro m₁ H₁ s₁ l₁ ⟨hi, q, vs, e, h1, rfl, hT⟩ F₁ N₁
    k_sweep
    walk_at "m go"
    have e2 : (S u).cps.size = u.length := by simp [S]
    rw [e2, List.take_length] at hT
    exact ⟨⟨q, vs, e, rfl, hT, rfl⟩⟩
end
section
theorem ex_val {v : Value} {p : Prop} {x y : List Nat} {t : Tok} (h : v = .str (S x) t) (e : x = y) (hp : p) : ∃ tt, v = .str (S y) tt ∧ p := ⟨t, e ▸ h, hp⟩
theorem ex_txt {o : Option Value} {x y : List Nat} {t : Tok} (h : o = some (.str (S x) t)) (e : x = y) : ∃ tt, o = some (.str (S y) tt) := ⟨t, e ▸ h⟩
theorem need_f (k c : Nat) : need false k c = (decide (c ∈ [10, 9, 13, 32, 92]) || (decide (k = 0) && decide (c = 34))) := rfl
theorem piece_yes {q : Bool} {word : List Nat} {sl : List Int} {k : Nat} (h : need q k (word.getD k 0) = true ∨ (sl.getD k 0) % 2 = 1) : piece q word sl k = [92] ++ [word.getD k 0] := if_pos h
theorem piece_no {q : Bool} {word : List Nat} {sl : List Int} {k : Nat} (h : need q k (word.getD k 0) = false) (h2 : ¬ (sl.getD k 0) % 2 = 1) : piece q word sl k = [word.getD k 0] := if_neg (by rintro (a | a); rw [h] at a; cases a; exact h2 a)
theorem written_s {word : List Nat} {sl : List Int} {q : Bool} {wc : Nat} {D : Addr} {vs : List Value} {n : Nat} {t tw : Tok} (hv : IntsAre vs sl) (hl : sl.length = word.length) (hw : word.length ≤ 100) :
   Spec w 5 (.ref 84) [.str (S word) t, .ref D, .bool q, .str (S [wc]) tw] [(D, listOf vs.toArray n)] (fun v H' => ∃ tk, v = .str (S (open1 q word sl ++ [close1 q wc])) tk ∧ H' = [(D, listOf vs.toArray n)]) := by
  walk_at "m fill"
  refine' spec_def [("word", .str (S word) t), ("slashes", .ref D), ("quoted", .bool q), ("white", .str (S [wc]) tw)] ?k1 ?k2 ?k3 ?k4 ?k5 ?c1 ?c2 ?c3 ?c4
  walk_at "m enter"
  intro A P L s z p loose mean mg mb r G lz X T F N K0 hK0
  (try k_fold)
  have hvl := hv.length
  obtain ⟨op, hop⟩ : ∃ op : List Nat, op = if q = true then [34] else [] := ⟨_, rfl⟩
  have hol : op.length ≤ 1 := by rw [hop]; split <;> simp
  refine cut P L (s₀ := z) (by walk_at "LK") (fun m' H' => (∃ tt, m' "text" = some (.str (S op) tt)) ∧ m' "word" = some (.str (S word) t) ∧ m' "slashes" = some (.ref D) ∧ m' "quoted" = some (.bool q) ∧ m' "white" = some (.str (S [wc]) tw) ∧ H' = [(D, listOf vs.toArray n)]) ?_ ?_
  · intro K1 hK1
    walk_at "m go"
    · refine ⟨⟨_, Sub.rfl', ⟨s.toks, ?_⟩, rfl, rfl, rfl, rfl, rfl⟩⟩
      rw [hop, if_pos (by assumption)]; rfl
    · refine ⟨⟨_, Sub.rfl', ⟨s.toks, ?_⟩, rfl, rfl, rfl, rfl, rfl⟩⟩
      have hq : q = false := by assumption
      rw [hop, hq]; rfl
  rintro s₁ m' H' l₁ ⟨⟨tt, g1⟩, g2, g3, g4, g5, rfl⟩ F₁ N₁
  k_sweep
  refine cut P L (s₀ := z) (by walk_at "LK") (fun m' H' => (∃ tt, m' "text" = some (.str (S (op ++ body q word sl word.length)) tt)) ∧ m' "quoted" = some (.bool q) ∧ m' "white" = some (.str (S [wc]) tw) ∧ H' = [(D, listOf vs.toArray n)]) ?_ ?_
  · intro K1 hK1
    refine for_in ?_
    walk_at "m go"
    refine' ⟨loop_range (by assumption) r.hh rfl rfl (s₀ := z) (by walk_at "LK") (by lia) (by lia) (by lia) (by lia) (n := word.length) (by lia) ?LF ?LN
      (fun k m' H' => (∃ tt, m' "text" = some (.str (S (op ++ body q word sl k)) tt)) ∧ m' "word" = some (.str (S word) t) ∧ m' "slashes" = some (.ref D) ∧ m' "quoted" = some (.bool q) ∧ m' "white" = some (.str (S [wc]) tw) ∧ H' = [(D, listOf vs.toArray n)]) ?LJ ?_ ?_⟩
    case LF => assumption
    case LN => assumption
    case LJ => exact ⟨⟨tt, by rw [body_zero, List.append_nil]; exact g1⟩, g2, g3, g4, g5, rfl⟩
    · rintro k tv m₁ H₁ s₁ I io l₁ hk ⟨⟨tt, g1⟩, g2, g3, g4, g5, rfl⟩ ne F₁ N₁ K2 hK2
      have e0 : (0 : Int) + k = k := by lia
      rw [e0] at F₁
      have hb := body_len q word sl k
      have hDI : D ≠ I := ne _ (.head _)
      k_sweep
      refine cut P L (s₀ := z) (by walk_at "LK") (fun m' H' => m' "needed" = some (.bool (need q k (word.getD k 0))) ∧ m' "k" = some (.int k tv) ∧ (∃ tt, m' "text" = some (.str (S (op ++ body q word sl k)) tt)) ∧ m' "word" = some (.str (S word) t) ∧ m' "slashes" = some (.ref D) ∧ m' "quoted" = some (.bool q) ∧ m' "white" = some (.str (S [wc]) tw) ∧ H' = [(I, io), (D, listOf vs.toArray n)]) ?_ ?_
      · intro K1 hK1
        walk_at "m go"
        · refine ⟨⟨_, Sub.rfl', ?_, rfl, ⟨tt, g1⟩, g2, g3, g4, g5, rfl⟩⟩
          have hq : q = true := by assumption
          show some (Value.bool (decide (word.getD k 0 ∈ [34, 92]))) = some (Value.bool _)
          rw [hq]; rfl
        · refine ⟨⟨_, Sub.rfl', ?_, rfl, ⟨tt, g1⟩, g2, g3, g4, g5, rfl⟩⟩
          have hq : q = false := by assumption
          have h0 : word.getD k 0 ∈ [10, 9, 13, 32, 92] := by assumption
          show some (Value.bool (decide (word.getD k 0 ∈ [10, 9, 13, 32, 92]))) = some (Value.bool _)
          rw [hq, need_f, decide_eq_true h0]; rfl
        · refine ⟨⟨_, Sub.rfl', ?_, rfl, ⟨tt, g1⟩, g2, g3, g4, g5, rfl⟩⟩
          have hq : q = false := by assumption
          have h0 : ¬ word.getD k 0 ∈ [10, 9, 13, 32, 92] := by assumption
          have hk1 : (k : Int) = 0 := by assumption
          have hk0 : k = 0 := by lia
          show some (Value.bool (S [word.getD k 0] == Str.ofString "\"")) = some (Value.bool _)
          rw [hq, need_f, decide_eq_false h0, decide_eq_true hk0, Bool.false_or, Bool.true_and, lit_q, S_beq]
          simp
        · refine ⟨⟨_, Sub.rfl', ?_, rfl, ⟨tt, g1⟩, g2, g3, g4, g5, rfl⟩⟩
          have hq : q = false := by assumption
          have h0 : ¬ word.getD k 0 ∈ [10, 9, 13, 32, 92] := by assumption
          have hk1 : ¬ (k : Int) = 0 := by assumption
          have hk0 : ¬ k = 0 := by lia
          have hk2 : ((k : Int) == 0) = false := by simpa using hk0
          show some (Value.bool ((k : Int) == 0)) = some (Value.bool _)
          rw [hq, need_f, decide_eq_false h0, decide_eq_false hk0, hk2]; rfl
      · rintro s₂ m₂ H₂ l₂ ⟨f1, f2, ⟨tt, f3⟩, f4, f5, f6, f7, rfl⟩ F₂ N₂
        k_sweep
        have hfm : (sl.getD ((k : Int)).toNat 0).fmod 2 = sl.getD k 0 % 2 := by rw [Int.toNat_natCast]; exact Int.fmod_eq_emod_of_nonneg _ (by decide)
        generalize hnd : need q k (word.getD k 0) = nd at f1
        walk_at "m go"
        · refine ⟨⟨_, Sub.rfl', ?_, ex_txt (x := op ++ body q word sl k ++ ([92] ++ [word.getD k 0])) (y := op ++ body q word sl (k + 1)) rfl (by rw [body_succ, piece_yes (.inl (by rw [hnd]; assumption)), List.append_assoc]), f4, f5, f6, f7, rfl⟩⟩
          intro p hp; rw [List.mem_singleton.mp hp]; exact hDI
        · refine ⟨⟨_, Sub.rfl', ?_, ex_txt (x := op ++ body q word sl k ++ ([92] ++ [word.getD k 0])) (y := op ++ body q word sl (k + 1)) rfl (by rw [body_succ, piece_yes (.inr (by rw [← hfm]; assumption)), List.append_assoc]), f4, f5, f6, f7, rfl⟩⟩
          intro p hp; rw [List.mem_singleton.mp hp]; exact hDI
        · refine ⟨⟨_, Sub.rfl', ?_, ex_txt (x := op ++ body q word sl k ++ [word.getD k 0]) (y := op ++ body q word sl (k + 1)) rfl (by rw [body_succ, piece_no (by rw [hnd]; assumption) (by rw [← hfm]; assumption), List.append_assoc]), f4, f5, f6, f7, rfl⟩⟩
          intro p hp; rw [List.mem_singleton.mp hp]; exact hDI
    · rintro m₁ H₁ s₁ l₁ ⟨⟨tt, g1⟩, g2, g3, g4, g5, rfl⟩ F₁ N₁
      refine Imp2.go (by assumption) ?_; exact CutQ.next l₁ F₁ N₁ ⟨_, Sub.rfl', ⟨tt, g1⟩, g4, g5, rfl⟩
  · rintro s₁ m' H' l₁ ⟨⟨tt, g1⟩, g4, g5, rfl⟩ F₁ N₁
    have hb := body_len q word sl word.length
    k_sweep
    walk_at "m go"
    · have hq : q = true := by assumption
      exact ⟨ex_val rfl (by subst hop hq; rfl) rfl⟩
    · have hq : q = false := by assumption
      exact ⟨ex_val rfl (by subst hop hq; rfl) rfl⟩
end
section
open PySem PySem.W PySem.Calls PyProof.Rows
theorem cnt_kit : ∀ l : List Nat, PyProof.Rows.cnt 10 l = cnt l
  | [] => rfl
  | c :: l => by rw [PyProof.Rows.cnt_cons, Mine.cnt_cons, cnt_kit l]; lia
theorem count_nl (l : List Nat) : Txt.count (S l) (S [10]) = cnt l := by
  have h := PyProof.Rows.count_is (S l) 10
  rw [← cnt_kit]
  exact h
theorem mul_S1 (c : Nat) (n : Int) : Txt.mul (S [c]) n = S (List.replicate n.toNat c) := by
  rw [S_of (Txt.mul (S [c]) n)]
  congr 1
  exact mul_one_list c n
section
variable {A : Around} {E : Value → Shared → Prop} {s : Shared} {t u : Tok}
theorem mult_S {c : Nat} {n : Int} {y : PySem.Str} {Q : Value → Shared → Prop} (hy : y = S [c]) (h0 : -1000 ≤ n ∧ n ≤ 1000) (h : ∀ t' k, Q (.str (S (List.replicate n.toNat c)) t') { s with toks := k }) : wpAny (model PR w) A (binaryOp .Mult (.str y t) (.int n u)) Q E s := by
  subst hy
  refine SB.mul (mulOk_of 1 1000 (by rw [S_len]; exact Nat.le_refl _) (by lia) (by lia) (by decide) (by decide)) fun t' k => ?_
  rw [mul_S1]
  exact h t' k
theorem count_S {l : List Nat} {y : PySem.Str} {Q : Value → Shared → Prop} (hy : y = S [10]) (h : Q (.int (cnt l) s.toks) { s with toks := s.toks + 1 }) : wpAny (model PR w) A (call (.builtin "str.count") [.str (S l) t, .str y u]) Q E s := by
  subst hy
  refine SC.count ?_
  rw [count_nl]
  exact h
end
def wsl : List Nat := [10, 9, 13, 32]
def fq (mix : Int) (w : List Nat) (k : Nat) : Bool := decide (w = []) || decide ((mix.fdiv (2 ^ k)).fmod 2 = 1)
def fw (mix : Int) (k : Nat) : Nat := wsl.getD ((mix.fdiv 36 + k).fmod 4).toNat 0
def gap (mix : Int) (k : Nat) : List Nat := List.replicate ((mix.fdiv 12).fmod 3).toNat (fw mix k)
def part (mix : Int) (w : List Nat) (sl : List Int) (k : Nat) : List Nat := gap mix k ++ (open1 (fq mix w k) w sl ++ [close1 (fq mix w k) (fw mix k)])
def fcut (mix : Int) : Int := (mix.fdiv 4).fmod 3
def ftext1 (mix : Int) (w0 w1 : List Nat) (sl0 sl1 : List Int) : List Nat := part mix w0 sl0 0 ++ part mix w1 sl1 1
def ftext (mix : Int) (w0 w1 : List Nat) (sl0 sl1 : List Int) : List Nat :=
  if fcut mix > 0 then (ftext1 mix w0 w1 sl0 sl1).take ((ftext1 mix w0 w1 sl0 sl1).length - 1) ++ List.replicate (fcut mix - 1).toNat 92 else ftext1 mix w0 w1 sl0 sl1
theorem fmod_b (a : Int) (n : Nat) (h : 0 < n) : 0 ≤ a.fmod n ∧ a.fmod n < n := by
  rw [Int.fmod_eq_emod_of_nonneg _ (by lia)]
  exact ⟨Int.emod_nonneg _ (by lia), Int.emod_lt_of_pos _ (by lia)⟩
theorem fmod3 (a : Int) : 0 ≤ a.fmod 3 ∧ a.fmod 3 < 3 := fmod_b a 3 (by decide)
theorem fmod4 (a : Int) : 0 ≤ a.fmod 4 ∧ a.fmod 4 < 4 := fmod_b a 4 (by decide)
theorem open1_len (q : Bool) (w : List Nat) (sl : List Int) : (open1 q w sl).length ≤ 1 + 2 * w.length := by
  unfold open1
  rw [List.length_append]
  have := body_len q w sl w.length
  cases q <;> simp <;> lia
theorem part_len (mix : Int) (w : List Nat) (sl : List Int) (k : Nat) : (part mix w sl k).length ≤ 2 * w.length + 5 := by
  unfold part gap
  have := open1_len (fq mix w k) w sl
  have := fmod3 (mix.fdiv 12)
  simp only [List.length_append, List.length_replicate, List.length_cons, List.length_nil]
  lia
theorem fw_ws (mix : Int) (k : Nat) : ws (fw mix k) := by
  have h := fmod4 (mix.fdiv 36 + k)
  obtain ⟨i, hi, e⟩ : ∃ i : Nat, i < 4 ∧ (mix.fdiv 36 + k).fmod 4 = i := ⟨((mix.fdiv 36 + k).fmod 4).toNat, by lia, by lia⟩
  unfold fw
  rw [e, Int.toNat_natCast]
  have : i = 0 ∨ i = 1 ∨ i = 2 ∨ i = 3 := by lia
  rcases this with rfl | rfl | rfl | rfl <;> decide
theorem fq_nil (mix : Int) (k : Nat) (w : List Nat) (h : w = []) : fq mix w k = true := by unfold fq; rw [decide_eq_true h]; rfl
/-- the first token -/
theorem ftext_tok (mix : Int) (w0 w1 : List Nat) (sl0 sl1 : List Int) : ∃ R, tokF (ftext mix w0 w1 sl0 sl1) = (w0, R) ∧ ftext mix w0 w1 sl0 sl1 = part mix w0 sl0 0 ++ R ∧ tokF R = (w1, []) := by
  have h1 : ∀ R, tokF (part mix w0 sl0 0 ++ R) = (w0, R) := fun R => by
    unfold part
    rw [List.append_assoc, gap, tokF_gap _ _ (fw_ws mix 0), List.append_assoc]
    exact tok_closed _ _ _ _ _ (fw_ws mix 0) (fq_nil mix 0 w0)
  have hcb := fmod3 (mix.fdiv 4)
  by_cases hc : fcut mix > 0
  · refine ⟨gap mix 1 ++ (open1 (fq mix w1 1) w1 sl1 ++ List.replicate (fcut mix - 1).toNat 92), ?_⟩
    have e : ftext mix w0 w1 sl0 sl1 = part mix w0 sl0 0 ++ (gap mix 1 ++ (open1 (fq mix w1 1) w1 sl1 ++ List.replicate (fcut mix - 1).toNat 92)) := by
      unfold ftext
      rw [if_pos hc, ← List.dropLast_eq_take]
      have : ftext1 mix w0 w1 sl0 sl1 = (part mix w0 sl0 0 ++ (gap mix 1 ++ open1 (fq mix w1 1) w1 sl1)) ++ [close1 (fq mix w1 1) (fw mix 1)] := by
        simp only [ftext1, part, List.append_assoc]
      rw [this, List.dropLast_concat]
      simp only [List.append_assoc]
    refine ⟨by rw [e, h1], e, ?_⟩
    rw [gap, tokF_gap _ _ (fw_ws mix 1)]
    exact tok_cut _ _ _ _ (by unfold fcut; lia) (fq_nil mix 1 w1)
  · refine ⟨part mix w1 sl1 1, ?_⟩
    have e : ftext mix w0 w1 sl0 sl1 = part mix w0 sl0 0 ++ part mix w1 sl1 1 := by
      unfold ftext
      rw [if_neg hc]; rfl
    refine ⟨by rw [e, h1], e, ?_⟩
    unfold part
    rw [gap, tokF_gap _ _ (fw_ws mix 1)]
    exact tok_closed _ _ _ _ _ (fw_ws mix 1) (fq_nil mix 1 w1)
end
section
open PySem PySem.W PySem.Calls PyProof.Rows
section
variable {A : Around} {E : Value → Shared → Prop} {P : Heap} {s : Shared} {m : Str → Option Value} {news news' : List (Addr × Obj)} {L D b : Addr} {vs us : List Value} {n n2 : Nat} {t u : Tok}
theorem ll_set {k : Int} {x : Value} {Q : Unit → Shared → Prop} (F : Fr P L s.heap m) (N : News P L s.heap news) (U : Upd D (listOf vs.toArray n) (listOf (vs.set k.toNat x).toArray n) news news') (h0 : 0 ≤ k) (h1 : k < vs.length) (hfit : k < 2 ^ 63)
    (h : ∀ h', Fr P L h' m → News P L h' news' → Q () { s with heap := h' }) :
    wpAny (model PR w) A (setItem (.ref D) (.int k t) x) Q E s := by
  obtain ⟨pre, post, rfl, rfl, a, b⟩ := U.split
  have z := N (D, listOf vs.toArray n) (List.mem_append.mpr (.inr (.head _)))
  have hs : vs.toArray.size = vs.length := by simp
  refine ki_setAt z.1 h0 hfit (by lia) (h _ (F.change (Heap.SameBut.update ..) z.2.1 z.2.2) (ki_turn _ N a b ?_ ?_))
  · show vs.toArray.setIfInBounds k.toNat x = (vs.set k.toNat x).toArray
    apply Array.toList_inj.mp
    simp
  · simp
theorem ll_add {Q : Value → Shared → Prop} (F : Fr P L s.heap m) (N : News P L s.heap news) (ha : (D, listOf vs.toArray n) ∈ news) (hb : (b, listOf us.toArray n2) ∈ news) (hz : vs.length + us.length ≤ 100000)
    (h : ∀ R h', Fr P L h' m → News P L h' ((R, listOf (vs ++ us).toArray 0) :: news) → (∀ p ∈ news, p.1 < R) → Q (.ref R) { s with heap := h' }) : wpAny (model PR w) A (binaryOp .Add (.ref D) (.ref b)) Q E s :=
  add_lists F N (News.isList N ha) (News.isList N hb) (fun h' F' N' => h _ h' F' N' fun p hp => Heap.lt_size (N p hp).1) (by rw [sizeLine_eq]; lia)
theorem white_at {value slice : Expr} {i : Int} {Q : Value → Shared → Prop} (h0 : 0 ≤ i ∧ i < 4) (h : Q (.str (S [wsl.getD i.toNat 0]) s.toks) { s with toks := s.toks + 1 })
    (hs : subscripted slice false (.str (S wsl) t) (.int i u) = operate [.str (S wsl) t, .int i u] (getItem (.str (S wsl) t) (.int i u)) := by with_unfolding_all rfl)
    (ht : ∀ r, letTemporaryGo value (.str (S wsl) t) r = pure () := by intro _; with_unfolding_all rfl) :
    wpAny (model PR w) A (subscriptTail value slice (.str (Str.ofString "\n\t\r ") t) (.int i u)) Q E s := by
  rw [lit_ws]
  exact it_nat h0.1 (by show i < (4 : Nat); lia) (by decide) h hs ht
end
end
section
local macro_rules | `(tactic| walk_at "m updF") => `(tactic| first | (refine' UpdF.head ?a; (case a => walk_at "m all"; done)) | (refine' UpdF.tail ?a ?b; (case a => walk_at "m ne"); (case b => walk_at "m updF")))
theorem regk2 : True := by
  k_with "eval Name" => k_dflt (refine nameX_K (by assumption) (by assumption) (by exact topRead_of (by assumption)) (by k_is) ?_; k_whole)
  k_with "eval Name" => k_dflt (refine nameX_C (by assumption) (by exact rfl) (by k_mem) (by assumption) ?_; k_whole)
  k_with "eval Name" => k_dflt (refine nameX_L (by assumption) (by (first | assumption | exact rfl)) ?_; k_whole)
  k_with "eval Name" => k_dflt (refine nameX_F (by assumption) (by exact rfl) (by k_mem) (by assumption) ?_; k_whole)
  k_with "storeName" => (refine storeX_L (by assumption) (by assumption) ?_; k_whole; walk_at "i3")
  k_with "m enterC" => (
    case k1 => k_is
    case k2 => k_is
    case k3 => exact rfl
    case k4 => exact rfl
    case k5 => decide
    case c1 => exact rfl
    case c2 => exact rfl
    case c3 => exact rfl
    k_whole)
  trivial
def LamOk (w : World) (f sg : Addr) (lo : Obj) (rest : List (Addr × Obj)) : Prop := ∀ vs n t (rem : List Nat), Sg vs rem.reverse → rem.length ≤ 100000 → Spec w 3 (.ref f) [.int 1 t] ((sg, listOf vs.toArray n) :: (f, lo) :: rest)
    (fun v H' => ∃ vs' n' tk, v = .str (S (rem.take 1)) tk ∧ Sg vs' rem.tail.reverse ∧ H' = (sg, listOf vs'.toArray n') :: (f, lo) :: rest)
theorem split_lo {P h : Heap} {L f : Addr} {lo : Obj} {rest : List (Addr × Obj)} (N : News P L h ((f, lo) :: rest)) (C : Obj → Prop) (hC : C lo) : ∃ lo, News P L h ((f, lo) :: rest) ∧ C lo := ⟨_, N, hC⟩
abbrev ltab (c' : Addr) : Array Value := #[] ++ #[rawInt ((96 : Nat) : Int), rawInt ((18 : Nat) : Int), .ref c']
abbrev lqual : Str := (("_law_lexer" : Str) ++ ".<locals>.") ++ "<lambda>"
/-- a new lexer -/
def LexNew (w : World) (sg : Addr) (vs : List Value) (c' : Addr) (oc : Obj) (v : Value) (H' : List (Addr × Obj)) : Prop :=
  ∃ a t1 e2 e3 cell co, v = .ref a.x ∧ a.sg = sg ∧ H' = (72, tabObj (ltab c')) :: lexH w a 1 t1 vs e2 [] e3 ∧ LexOk w a ∧ a.rest = [(cell, co), (c', oc)] ∧ ∃ v0, co.data = .cell v0
theorem lexer_s1 {sg : Addr} {vs : List Value} {e : Nat} (hsg : sg ≠ 72) : Spec w 8 (.ref 77) [.ref sg] [(72, tabObj #[]), (sg, listOf vs.toArray e)] (fun v H' => ∃ c' oc vs1 tq, oc.data = .fields vs1 ∧ vs1[1]? = some (.str lqual tq) ∧ c' ≠ 72 ∧ LexNew w sg vs c' oc v H') := by
  walk_at "m fill"
  refine' spec_defC [("signs", .ref sg)] ?k1 ?k2 ?k3 ?k4 ?k5 ?k6 ?c1 ?c2 ?c3
  walk_at "m enterC"
  intro A P L s z cells p loose mean mg mb r G lz X T F N CA hL K0 hK0
  obtain ⟨co, rfl, hco⟩ := CellsAre.one CA
  (try k_fold)
  walk_at "m go"
  refine ⟨call_spec (H := []) new_s (Rm.le (by assumption) (Nat.le_of_ble_eq_true rfl)) G (by assumption) (by assumption) (fun p hp => hp) (fun _ _ _ hq => nomatch hq) (by walk_at "LK") ?_⟩
  rintro v H' s₂ ⟨x, dx, pb, k1, k2, k3, k4, t1, t3, e', rfl, rfl, n1, n2, n3⟩ l₂ F₂ N₂ ap
  k_sweep
  simp only [List.append, List.cons_append, List.nil_append, List.forall_mem_cons, List.not_mem_nil, false_implies, implies_true, and_true] at N₂ ap
  obtain ⟨⟨p1, p2, p3⟩, ⟨p4, p5, p6⟩, ⟨p7, p8, p9⟩⟩ := ap
  simp only [List.forall_mem_cons, List.not_mem_nil, false_implies, implies_true, and_true] at hL
  have c1 : L + 1 ≠ 72 := Nat.ne_of_gt (Nat.lt_succ_of_lt hL.1)
  have c2 : L + 1 ≠ sg := Nat.ne_of_gt (Nat.lt_succ_of_lt hL.2)
  walk_at "m go"
  rename_i h' F' N'
  refine' kla_eval ?d0 ?_
  case d0 => exact rfl
  refine' kla_nest ?yF ?yN ?yT ?yC ?ycd ?yU ?yt ?yn ?ycl ?_
  case yF => assumption
  case yN => assumption
  case yT => assumption
  case yC => exact G.C
  case ycd => exact rfl
  case yU => walk_at "m updF"
  case yt => kn_triples
  case yn => kn_among
  case ycl => exact rfl
  intro f c' oc' vs' t' ct' h' tk' F' N' d1' d2' l1 l2
  dsimp only at N'
  simp only [List.forall_mem_cons, List.not_mem_nil, false_implies, implies_true, and_true] at l1
  obtain ⟨q1, q2, q3, q4, q5, q6⟩ := l1
  have u1 := Nat.ne_of_gt q1
  have v1 := Nat.ne_of_gt (Nat.lt_trans q1 l2)
  have u2 := Nat.ne_of_gt q2
  have v2 := Nat.ne_of_gt (Nat.lt_trans q2 l2)
  have u3 := Nat.ne_of_gt q3
  have v3 := Nat.ne_of_gt (Nat.lt_trans q3 l2)
  have u4 := Nat.ne_of_gt q4
  have v4 := Nat.ne_of_gt (Nat.lt_trans q4 l2)
  have u5 := Nat.ne_of_gt q5
  have v5 := Nat.ne_of_gt (Nat.lt_trans q5 l2)
  have u6 := Nat.ne_of_gt q6
  have v6 := Nat.ne_of_gt (Nat.lt_trans q6 l2)
  have key := split_lo N' (fun lo => LamOk w f sg lo [(L + 1, co), (c', oc')] ∧ ∃ oc od sl lf, lo = ⟨oc, od, .func lf, sl⟩) (by
    refine ⟨?_, _, _, _, _, rfl⟩
    intro vs n t rem hs hr
    refine spec_lam [("size", .int 1 t)] (.tail _ (.head _)) (.tail _ (.tail _ (.tail _ (.head _)))) d1' d2' rfl (locs rfl) ?_
    clear r lz X T F' N' G h'
    simp only [bindC] at hco
    intro A P L s z p loose mean mg mb r G lz X T F N
    (try k_fold)
    cases rem with
    | nil =>
      cases hs
      walk_at "m go"
      exact ⟨⟨[], n, _, by rw [lit_e]; rfl, .nil, rfl⟩⟩
    | cons c rr =>
      rw [List.reverse_cons] at hs
      obtain ⟨vs', t', rfl, hs'⟩ := hs.snoc
      have hl := hs'.length
      simp only [List.length_reverse, List.length_cons] at hl hr
      walk_at "m go"
      · exact ⟨⟨vs', _, _, rfl, hs', rfl⟩⟩
      · rename_i hc
        simp at hc)
  clear N'
  obtain ⟨lo, N', LAM, oc9, od9, sl9, lf, hlo⟩ := key
  have u7 := Nat.ne_of_gt l2
  walk_at "m go"
  refine ⟨call_spec (H := []) new_s (Rm.le (by assumption) (Nat.le_of_ble_eq_true rfl)) G (by assumption) (by assumption) (fun p hp => hp) (fun _ _ _ hq => nomatch hq) (by walk_at "LK") ?_⟩
  rintro v H' s₂ ⟨x2, dx2, pb2, k5, k6, k7, k8, t5, t6, e2, rfl, rfl, n4, n5, n6⟩ l₂ F₂ N₂ ap
  k_sweep
  simp only [List.append, List.cons_append, List.nil_append, List.forall_mem_cons, List.not_mem_nil, false_implies, implies_true, and_true] at N₂ ap
  obtain ⟨⟨b1, b2, b3, b4, b5, b6, b7, b8⟩, ⟨b9, b10, b11, b12, b13, b14, b15, b16⟩, ⟨b17, b18, b19, b20, b21, b22, b23, b24⟩⟩ := ap
  have hrs : RetSub := ⟨⟩
  walk_at "m go"
  refine ⟨⟨_, (Sub.consm (.tail _ (.tail _ (.tail _ (.tail _ (.tail _ (.tail _ (.tail _ (.tail _ (.tail _ (.head _)))))))))) (Sub.consm (.tail _ (.tail _ (.head _))) (Sub.consm (.tail _ (.tail _ (.tail _ (.tail _ (.tail _ (.tail _ (.tail _ (.tail _ (.tail _ (.tail _ (.head _))))))))))) (Sub.consm (.head _) (Sub.consm (.tail _ (.head _)) (Sub.consm (.tail _ (.tail _ (.tail _ (.tail _ (.tail _ (.tail _ (.head _))))))) (Sub.consm (.tail _ (.tail _ (.tail _ (.tail _ (.tail _ (.tail _ (.tail _ (.head _)))))))) (Sub.consm (.tail _ (.tail _ (.tail _ (.head _)))) (Sub.consm (.tail _ (.tail _ (.tail _ (.tail _ (.tail _ (.tail _ (.tail _ (.tail _ (.head _))))))))) (Sub.consm (.tail _ (.tail _ (.tail _ (.tail _ (.head _))))) Sub.nil)))))))))), c', oc', vs', t', d1', d2', u5, ⟨x2, dx2, x, dx, f, sg, pb2, k5, k6, k7, k8, t6, _, 5, lo, lf, [(L + 1, co), (c', oc')]⟩, t5, e, e2, L + 1, co, rfl, rfl, rfl, ⟨LAM, ⟨_, _, _, hlo⟩, ?_, ?_⟩, rfl, _, hco⟩⟩
  · exact rfl
  · refine ⟨⟨b24, n6, n4.symm, b20, b21, b17⟩, ⟨b8.symm, b16.symm, p6.symm, p9.symm, v6.symm⟩, ⟨n5.symm, b4, b5, b1⟩, ⟨b9, v2.symm, v3.symm⟩, ?_⟩
    intro p hp
    simp only [List.mem_cons, List.not_mem_nil, or_false] at hp
    rcases hp with rfl | rfl
    · exact ⟨b22.symm, c2, b6.symm, b14.symm, p4.symm, p7.symm⟩
    · exact ⟨b18.symm, u6, b2.symm, b10.symm, u2, u3⟩
theorem lexer_s2 {sg : Addr} {vs : List Value} {e : Nat} {c' : Addr} {oc' : Obj} {vs' : Array Value} {t' : Tok} (hsg : sg ≠ 72) (d1' : oc'.data = .fields vs') (d2' : vs'[1]? = some (.str lqual t')) (u5 : c' ≠ 72) (u6 : c' ≠ sg) : Spec w 8 (.ref 77) [.ref sg] [(72, tabObj (ltab c')), (c', oc'), (sg, listOf vs.toArray e)] (LexNew w sg vs c' oc') := by
  walk_at "m fill"
  refine' spec_defC [("signs", .ref sg)] ?k1 ?k2 ?k3 ?k4 ?k5 ?k6 ?c1 ?c2 ?c3
  walk_at "m enterC"
  intro A P L s z cells p loose mean mg mb r G lz X T F N CA hL K0 hK0
  obtain ⟨co, rfl, hco⟩ := CellsAre.one CA
  (try k_fold)
  walk_at "m go"
  refine ⟨call_spec (H := []) new_s (Rm.le (by assumption) (Nat.le_of_ble_eq_true rfl)) G (by assumption) (by assumption) (fun p hp => hp) (fun _ _ _ hq => nomatch hq) (by walk_at "LK") ?_⟩
  rintro v H' s₂ ⟨x, dx, pb, k1, k2, k3, k4, t1, t3, e', rfl, rfl, n1, n2, n3⟩ l₂ F₂ N₂ ap
  k_sweep
  simp only [List.append, List.cons_append, List.nil_append, List.forall_mem_cons, List.not_mem_nil, false_implies, implies_true, and_true] at N₂ ap
  obtain ⟨⟨p1, p2, p10, p3⟩, ⟨p4, p5, p11, p6⟩, ⟨p7, p8, p12, p9⟩⟩ := ap
  have u1 := p10.symm
  have u2 := p11.symm
  have u3 := p12.symm
  simp only [List.forall_mem_cons, List.not_mem_nil, false_implies, implies_true, and_true] at hL
  have c1 : L + 1 ≠ 72 := Nat.ne_of_gt (Nat.lt_succ_of_lt hL.1)
  have c2 : L + 1 ≠ sg := Nat.ne_of_gt (Nat.lt_succ_of_lt hL.2.2)
  have u4 : c' ≠ L + 1 := Nat.ne_of_lt (Nat.lt_succ_of_lt hL.2.1)
  walk_at "m go"
  rename_i h' F' N'
  refine' kla_eval ?d0 ?_
  case d0 => exact rfl
  refine' kla_hit (c' := c') ?wF ?wN ?wT ?wC ?wcd ?wM ?wt ?wn ?wcl ?_
  case wF => assumption
  case wN => assumption
  case wT => assumption
  case wC => exact G.C
  case wcd => exact rfl
  case wM => k_mem
  case wt => kn_triples
  case wn => kn_hit
  case wcl => exact rfl
  intro f ct' h' tk' F' N' l1
  simp only [List.forall_mem_cons, List.not_mem_nil, false_implies, implies_true, and_true] at l1
  obtain ⟨q1, q2, q3, q4, q5, q7, q6⟩ := l1
  have v1 := Nat.ne_of_gt q1
  have v2 := Nat.ne_of_gt q2
  have v3 := Nat.ne_of_gt q3
  have v4 := Nat.ne_of_gt q4
  have v5 := Nat.ne_of_gt q5
  have v6 := Nat.ne_of_gt q6
  have l2 := q7
  have key := split_lo N' (fun lo => LamOk w f sg lo [(L + 1, co), (c', oc')] ∧ ∃ oc od sl lf, lo = ⟨oc, od, .func lf, sl⟩) (by
    refine ⟨?_, _, _, _, _, rfl⟩
    intro vs n t rem hs hr
    refine spec_lam [("size", .int 1 t)] (.tail _ (.head _)) (.tail _ (.tail _ (.tail _ (.head _)))) d1' d2' rfl (locs rfl) ?_
    clear r lz X T F' N' G h'
    simp only [bindC] at hco
    intro A P L s z p loose mean mg mb r G lz X T F N
    (try k_fold)
    cases rem with
    | nil =>
      cases hs
      walk_at "m go"
      exact ⟨⟨[], n, _, by rw [lit_e]; rfl, .nil, rfl⟩⟩
    | cons c rr =>
      rw [List.reverse_cons] at hs
      obtain ⟨vs', t', rfl, hs'⟩ := hs.snoc
      have hl := hs'.length
      simp only [List.length_reverse, List.length_cons] at hl hr
      walk_at "m go"
      · exact ⟨⟨vs', _, _, rfl, hs', rfl⟩⟩
      · rename_i hc
        simp at hc)
  clear N'
  obtain ⟨lo, N', LAM, oc9, od9, sl9, lf, hlo⟩ := key
  have u7 := Nat.ne_of_gt l2
  walk_at "m go"
  refine ⟨call_spec (H := []) new_s (Rm.le (by assumption) (Nat.le_of_ble_eq_true rfl)) G (by assumption) (by assumption) (fun p hp => hp) (fun _ _ _ hq => nomatch hq) (by walk_at "LK") ?_⟩
  rintro v H' s₂ ⟨x2, dx2, pb2, k5, k6, k7, k8, t5, t6, e2, rfl, rfl, n4, n5, n6⟩ l₂ F₂ N₂ ap
  k_sweep
  simp only [List.append, List.cons_append, List.nil_append, List.forall_mem_cons, List.not_mem_nil, false_implies, implies_true, and_true] at N₂ ap
  obtain ⟨⟨b1, b3, b4, b5, b6, b7, b2, b8⟩, ⟨b9, b11, b12, b13, b14, b15, b10, b16⟩, ⟨b17, b19, b20, b21, b22, b23, b18, b24⟩⟩ := ap
  have hrs : RetSub := ⟨⟩
  walk_at "m go"
  refine ⟨⟨_, (Sub.consm (.tail _ (.tail _ (.tail _ (.tail _ (.tail _ (.tail _ (.tail _ (.tail _ (.head _))))))))) (Sub.consm (.tail _ (.tail _ (.head _))) (Sub.consm (.tail _ (.tail _ (.tail _ (.tail _ (.tail _ (.tail _ (.tail _ (.tail _ (.tail _ (.tail _ (.head _))))))))))) (Sub.consm (.head _) (Sub.consm (.tail _ (.head _)) (Sub.consm (.tail _ (.tail _ (.tail _ (.tail _ (.tail _ (.head _)))))) (Sub.consm (.tail _ (.tail _ (.tail _ (.tail _ (.tail _ (.tail _ (.head _))))))) (Sub.consm (.tail _ (.tail _ (.tail _ (.head _)))) (Sub.consm (.tail _ (.tail _ (.tail _ (.tail _ (.tail _ (.tail _ (.tail _ (.head _)))))))) (Sub.consm (.tail _ (.tail _ (.tail _ (.tail _ (.tail _ (.tail _ (.tail _ (.tail _ (.tail _ (.head _)))))))))) Sub.nil)))))))))), ⟨x2, dx2, x, dx, f, sg, pb2, k5, k6, k7, k8, t6, _, 5, lo, lf, [(L + 1, co), (c', oc')]⟩, t5, e, e2, L + 1, co, rfl, rfl, rfl, ⟨LAM, ⟨_, _, _, hlo⟩, ?_, ?_⟩, rfl, _, hco⟩⟩
  · exact rfl
  · refine ⟨⟨b24, n6, n4.symm, b20, b21, b17⟩, ⟨b8.symm, b16.symm, p6.symm, p9.symm, v6.symm⟩, ⟨n5.symm, b4, b5, b1⟩, ⟨b9, v2.symm, v3.symm⟩, ?_⟩
    intro p hp
    simp only [List.mem_cons, List.not_mem_nil, or_false] at hp
    rcases hp with rfl | rfl
    · exact ⟨b22.symm, c2, b6.symm, b14.symm, p4.symm, p7.symm⟩
    · exact ⟨b18.symm, u6, b2.symm, b10.symm, u2, u3⟩
end
section
theorem regk3 : True := by
  k_with "eval ListComp" => refine halt ?_
  trivial
theorem ints_inv {vs : List Value} {n : Int} {ns : List Int} (h : IntsAre vs (n :: ns)) : ∃ t vs', vs = .int n t :: vs' ∧ IntsAre vs' ns := by
  cases h with
  | cons _ t h => exact ⟨t, _, rfl, h⟩
theorem sub_sw {X H : List (Addr × Obj)} : ∀ p ∈ H ++ X, p ∈ X ++ H := fun p hp => by
  rcases List.mem_append.mp hp with h | h
  · exact List.mem_append_right _ h
  · exact List.mem_append_left _ h
theorem call_sw {d : Nat} {A : Around} {P : Heap} {L : Addr} {s z : Shared} {m : Str → Option Value} {f : Value} {args : List Value} {H X : List (Addr × Obj)} {Q : Post} {Qv : Value → Shared → Prop} {E : Value → Shared → Prop}
    (S : Spec w d f args H Q) (r : Rm A d) (G : Gd w P) (F : Fr P L s.heap m) (N : News P L s.heap (X ++ H)) (hne : ∀ p ∈ X, ∀ q ∈ H, p.1 ≠ q.1)
    (lz : Like z s) (h : ∀ v H' s', Q v H' → Like z s' → Fr P L s'.heap m → News P L s'.heap (X ++ H') → (∀ p ∈ X, ∀ q ∈ H', p.1 ≠ q.1) → Qv v s') :
    wpAny (model PR w) A (call f args) Qv E s :=
  call_spec S r G F N sub_sw hne lz fun v H' s' q lk F' N' ap => h v H' s' q lk F' (subN N' fun p hp => sub_sw p hp) (fun p hp q hq => (ap q hq p hp).symm)
theorem rowI_len (m : List Nat) : ∀ (os : List (List Nat)) (l : List Int) (st : Int), l.length = os.length → (rowI m os l st).length = os.length
  | [], [], _, _ => rfl
  | o :: os, x :: l, st, h => by
    have ih := fun st => rowI_len m os l st (by simpa using h)
    simp only [rowI]
    split <;> rw [List.length_cons, List.length_cons, ih]
theorem endsF_len (mv : List (List Nat)) : ∀ (mu : List (List Nat)) (l : List Int), l.length = mv.length → (endsF mu mv l).length = mv.length
  | [], l, h => h
  | m :: mu, l, h => by
    have := endsF_len mv mu (rowI m mv l (-1)) (rowI_len _ _ _ _ h)
    exact this
theorem endsF_take {mu : List (List Nat)} {mv : List (List Nat)} {l : List Int} {i : Nat} {mo : List Nat} (h : mu[i]? = some mo) : endsF (mu.take (i + 1)) mv l = rowI mo mv (endsF (mu.take i) mv l) (-1) := by
  obtain ⟨hi, e⟩ := List.getElem?_eq_some_iff.mp h
  rw [List.take_succ_eq_append_getElem hi, e]
  unfold endsF
  rw [List.foldl_append]
  rfl
theorem lex_ap {a : LexA} {line line' : Int} {t1 t1' : Tok} {vs vs' pv pv' : List Value} {e2 e3 e2' e3' : Nat} {X : List (Addr × Obj)} (h : ∀ p ∈ X, ∀ q ∈ lexH w a line t1 vs e2 pv e3, p.1 ≠ q.1) : ∀ p ∈ X, ∀ q ∈ lexH w a line' t1' vs' e2' pv' e3', p.1 ≠ q.1 :=
  fun p hp q hq => (lexH_apart (I := p.1) (fun q' hq' => (h p hp q' hq').symm) q hq).symm
theorem ends_s {a : LexA} {line : Int} {t1 : Tok} {vs : List Value} {e2 : Nat} {pv : List Value} {e3 : Nat} {D1 D2 : Addr} {vs1 vs2 : List Value} {n1 n2 : Nat} {mu mv : List (List Nat)} {ln : List Int} (ok : LexOk w a) (h1 : Tx vs1 mu) (h2 : Tx vs2 mv) (hp : IntsAre pv ln) (hl : ln.length = mv.length) (hs1 : mu.length ≤ 500) (hs2 : mv.length ≤ 500)
    (hap : ∀ p ∈ [(D1, listOf vs1.toArray n1), (D2, listOf vs2.toArray n2)], ∀ q ∈ lexH w a line t1 vs e2 pv e3, p.1 ≠ q.1) :
   Spec w 12 (.ref 110) [.ref a.x, .ref D1, .ref D2] ([(D1, listOf vs1.toArray n1), (D2, listOf vs2.toArray n2)] ++ lexH w a line t1 vs e2 pv e3) (fun v H' => ∃ R rs e e3', v = .ref R ∧ IntsAre rs (endsF mu mv ln) ∧
     H' = (R, listOf rs.toArray e) :: ([(D1, listOf vs1.toArray n1), (D2, listOf vs2.toArray n2)] ++ lexH w a line t1 vs e2 [] e3') ∧ ∀ p ∈ lexH w a line t1 vs e2 [] e3', p.1 ≠ R) := by
  walk_at "m fill"
  refine' spec_defC [("lexer", .ref a.x), ("first", .ref D1), ("second", .ref D2)] ?k1 ?k2 ?k3 ?k4 ?k5 ?k6 ?c1 ?c2 ?c3
  walk_at "m enterC"
  intro A P L s z cells p loose mean mg mb r G lz X T F N CA hL K0 hK0
  obtain ⟨co, rfl, hco⟩ := CellsAre.one CA
  have hvl1 := h1.length
  have hvl2 := h2.length
  have hapL : ∀ p ∈ [(L + 1, co)], ∀ q ∈ lexH w a line t1 vs e2 pv e3, p.1 ≠ q.1 := fun p hp q hq => by
    rw [List.mem_singleton.mp hp]
    exact Nat.ne_of_gt (Nat.lt_succ_of_lt (hL q (List.mem_append_right _ hq)))
  (try k_fold)
  walk_at "m go"
  refine ⟨cut P L (s₀ := z) (by walk_at "LK") (fun m' H' => m' "second" = some (.ref D2) ∧ ∃ pv' e3', IntsAre pv' (endsF mu mv ln) ∧ H' = (L + 1, co) :: (D1, listOf vs1.toArray n1) :: (D2, listOf vs2.toArray n2) :: lexH w a line t1 vs e2 pv' e3') ?_ ?_⟩
  · intro K1 hK1
    refine for_in ?_
    walk_at "m go"
    refine ⟨loop_list (s₀ := z) (n := n1) r.hh rfl rfl (by walk_at "LK") (by assumption) (by assumption) (.tail _ (.head _)) (fun i m H => m "second" = some (.ref D2) ∧ ∃ pv' e3', IntsAre pv' (endsF (mu.take i) mv ln) ∧ H = (L + 1, co) :: (D1, listOf vs1.toArray n1) :: (D2, listOf vs2.toArray n2) :: lexH w a line t1 vs e2 pv' e3') ?_ ⟨rfl, pv, e3, hp, rfl⟩ ?_ ?_⟩
    · rintro i m H ⟨_, pv', e3', _, rfl⟩
      exact .tail _ (.head _)
    · rintro i v m₁ H₁ s₁ I io l₁ hv ⟨g1, pv', e3', hI, rfl⟩ ne F₁ N₁ K2 hK2
      obtain ⟨mo, to, hmo, rfl⟩ := h1.get i v hv
      have hI1 : I ≠ L + 1 := (ne _ (.head _)).symm
      have hX : ∀ p ∈ [(I, io), (L + 1, co), (D1, listOf vs1.toArray n1), (D2, listOf vs2.toArray n2)], ∀ q ∈ lexH w a line t1 vs e2 pv' e3', p.1 ≠ q.1 := by
        intro p hp q hq
        simp only [List.mem_cons, List.not_mem_nil, or_false] at hp
        rcases hp with rfl | rfl | rfl | rfl
        · exact (ne q (.tail _ (.tail _ (.tail _ hq)))).symm
        · exact lex_ap hapL _ (.head _) q hq
        · exact lex_ap hap _ (.head _) q hq
        · exact lex_ap hap _ (.tail _ (.head _)) q hq
      have hne0 : ∀ pv e, ∀ p ∈ (L + 1, co) :: (D1, listOf vs1.toArray n1) :: (D2, listOf vs2.toArray n2) :: lexH w a line t1 vs e2 pv e, p.1 ≠ I := by
        intro pv e p hp
        rcases List.mem_cons.mp hp with rfl | hp
        · exact ne _ (.head _)
        rcases List.mem_cons.mp hp with rfl | hp
        · exact ne _ (.tail _ (.head _))
        rcases List.mem_cons.mp hp with rfl | hp
        · exact ne _ (.tail _ (.tail _ (.head _)))
        · exact lexH_apart (fun q hq => ne q (.tail _ (.tail _ (.tail _ hq)))) p hp
      have hlI := endsF_len mv (mu.take i) ln hl
      have hE := endsF_take (mv := mv) (l := ln) hmo
      generalize endsF (mu.take i) mv ln = lnI at hI hlI hE
      k_sweep
      walk_at "m go"
      refine ⟨wpAny_execs_cons (for_in ?_)⟩
      walk_at "m go"
      refine' ⟨loop_list (s₀ := z) (n := n2) (D := D2) (vs := vs2) r.hh rfl rfl (by walk_at "LK") ?LF ?LN (.tail _ (.tail _ (.tail _ (.head _))))
        (fun j m H => m "second" = some (.ref D2) ∧ m "one" = some (.str (S mo) to) ∧ ∃ st ts done pv e3, m "strand" = some (.int st ts) ∧ rowI mo mv lnI (-1) = done ++ rowI mo (mv.drop j) (lnI.drop j) st ∧ done.length = j ∧ j ≤ mv.length ∧ IntsAre pv (lnI.drop j ++ done) ∧
          H = (I, io) :: (L + 1, co) :: (D1, listOf vs1.toArray n1) :: (D2, listOf vs2.toArray n2) :: lexH w a line t1 vs e2 pv e3) ?_ ?LJ ?_ ?_⟩
      case LF => assumption
      case LN => assumption
      case LJ => exact ⟨g1, rfl, -1, _, [], pv', e3', rfl, rfl, rfl, Nat.zero_le _, by rw [List.append_nil]; exact hI, rfl⟩
      · rintro i m H ⟨_, _, st, ts, done, pv, e3, _, _, _, _, _, rfl⟩
        exact .tail _ (.tail _ (.tail _ (.head _)))
      · rintro j v2 m₂ H₂ s₂ I2 io2 l₂ hv2 ⟨g2, g3, st, ts, done, pv2, e4, g4, hrow, hdl, hjl, hI2, rfl⟩ ne2 F₂ N₂ K2 hK2
        obtain ⟨mo2, to2, hmo2, rfl⟩ := h2.get j v2 hv2
        have hjv : j < mv.length := (List.getElem?_eq_some_iff.mp hmo2).1
        have hdm : mv.drop j = mo2 :: mv.drop (j + 1) := by rw [List.drop_eq_getElem_cons hjv, (List.getElem?_eq_some_iff.mp hmo2).2]
        obtain ⟨x, hdx⟩ : ∃ x, lnI.drop j = x :: lnI.drop (j + 1) := ⟨_, List.drop_eq_getElem_cons (by lia)⟩
        rw [hdm, hdx] at hrow
        rw [hdx] at hI2
        rw [List.cons_append] at hI2
        have hlen3 := hI2.length
        obtain ⟨tx, pv3, rfl, hI3⟩ := ints_inv hI2
        rw [rowI] at hrow
        have hX2 : ∀ p ∈ [(I2, io2), (I, io), (L + 1, co), (D1, listOf vs1.toArray n1), (D2, listOf vs2.toArray n2)], ∀ q ∈ lexH w a line t1 vs e2 (.int x tx :: pv3) e4, p.1 ≠ q.1 := by
          intro p hp q hq
          rcases List.mem_cons.mp hp with rfl | hp
          · exact (ne2 q (.tail _ (.tail _ (.tail _ (.tail _ hq))))).symm
          · exact lex_ap hX _ hp q hq
        have a1 : I2 ≠ I := (ne2 _ (.head _)).symm
        have hne3 : ∀ pv e, ∀ p ∈ (I, io) :: (L + 1, co) :: (D1, listOf vs1.toArray n1) :: (D2, listOf vs2.toArray n2) :: lexH w a line t1 vs e2 pv e, p.1 ≠ I2 := by
          intro pv e p hp
          rcases List.mem_cons.mp hp with rfl | hp
          · exact ne2 _ (.head _)
          rcases List.mem_cons.mp hp with rfl | hp
          · exact ne2 _ (.tail _ (.head _))
          rcases List.mem_cons.mp hp with rfl | hp
          · exact ne2 _ (.tail _ (.tail _ (.head _)))
          rcases List.mem_cons.mp hp with rfl | hp
          · exact ne2 _ (.tail _ (.tail _ (.tail _ (.head _))))
          · exact lexH_apart (fun q hq => ne2 q (.tail _ (.tail _ (.tail _ (.tail _ hq))))) p hp
        have hpl : pv3.length ≤ 1000 := by
          simp only [List.length_cons, List.length_append, List.length_drop] at hlen3
          lia
        k_sweep
        unfold lexH lexD at N₂
        walk_at "m go"
        refine ⟨call_sw (X := [(I2, io2), (I, io), (L + 1, co), (D1, listOf vs1.toArray n1), (D2, listOf vs2.toArray n2)]) (pop_s (line := line) (t1 := t1) (vs := vs) (e2 := e2) (v0 := .int x tx) (pv := pv3) (e3 := e4) ok hpl) (Rm.le r (Nat.le_of_ble_eq_true rfl)) G (by assumption) (by assumption) hX2 (by walk_at "LK") ?_⟩
        rintro v H' s₃ ⟨e5, rfl, rfl⟩ l₃ F₃ N₃ ap₃
        k_sweep
        unfold lexH lexD at N₃
        walk_at "m go"
        · have hcc : mo = mo2 ∨ st > x := by first | exact .inl (by assumption) | exact .inr (by assumption) | (intro hh; rcases hh with hh | hh <;> (first | (exact absurd hh (by assumption)) | lia))
          refine ⟨call_sw (X := [(I2, io2), (I, io), (L + 1, co), (D1, listOf vs1.toArray n1), (D2, listOf vs2.toArray n2)]) (push_s (line := line) (t1 := t1) (vs := vs) (e2 := e2) (v0 := .int st ts) (pv := pv3) (e3 := e5) ok hpl) (Rm.le r (Nat.le_of_ble_eq_true rfl)) G (by assumption) (by assumption) (lex_ap hX2) (by walk_at "LK") ?_⟩
          rintro v H' s₄ ⟨e6, rfl⟩ l₄ F₄ N₄ ap₄
          k_sweep
          walk_at "m go"
          rw [if_pos hcc] at hrow
          exact ⟨⟨_, Sub.rfl', hne3 _ _, g2, g3, x, tx, done ++ [st], pv3 ++ [.int st ts], e6, rfl, by rw [hrow, List.append_assoc]; rfl, by rw [List.length_append, hdl]; rfl, hjv, by rw [← List.append_assoc]; exact hI3.append (.cons st ts .nil), rfl⟩⟩
        · have hcc : mo = mo2 ∨ st > x := by first | exact .inl (by assumption) | exact .inr (by assumption) | (intro hh; rcases hh with hh | hh <;> (first | (exact absurd hh (by assumption)) | lia))
          refine ⟨call_sw (X := [(I2, io2), (I, io), (L + 1, co), (D1, listOf vs1.toArray n1), (D2, listOf vs2.toArray n2)]) (push_s (line := line) (t1 := t1) (vs := vs) (e2 := e2) (v0 := .int st ts) (pv := pv3) (e3 := e5) ok hpl) (Rm.le r (Nat.le_of_ble_eq_true rfl)) G (by assumption) (by assumption) (lex_ap hX2) (by walk_at "LK") ?_⟩
          rintro v H' s₄ ⟨e6, rfl⟩ l₄ F₄ N₄ ap₄
          k_sweep
          walk_at "m go"
          rw [if_pos hcc] at hrow
          exact ⟨⟨_, Sub.rfl', hne3 _ _, g2, g3, x, tx, done ++ [st], pv3 ++ [.int st ts], e6, rfl, by rw [hrow, List.append_assoc]; rfl, by rw [List.length_append, hdl]; rfl, hjv, by rw [← List.append_assoc]; exact hI3.append (.cons st ts .nil), rfl⟩⟩
        · have hcc : ¬ (mo = mo2 ∨ st > x) := by first | exact .inl (by assumption) | exact .inr (by assumption) | (intro hh; rcases hh with hh | hh <;> (first | (exact absurd hh (by assumption)) | lia))
          refine ⟨call_sw (X := [(I2, io2), (I, io), (L + 1, co), (D1, listOf vs1.toArray n1), (D2, listOf vs2.toArray n2)]) (push_s (line := line) (t1 := t1) (vs := vs) (e2 := e2) (v0 := .int x tx) (pv := pv3) (e3 := e5) ok hpl) (Rm.le r (Nat.le_of_ble_eq_true rfl)) G (by assumption) (by assumption) (lex_ap hX2) (by walk_at "LK") ?_⟩
          rintro v H' s₄ ⟨e6, rfl⟩ l₄ F₄ N₄ ap₄
          k_sweep
          walk_at "m go"
          rw [if_neg hcc] at hrow
          exact ⟨⟨_, Sub.rfl', hne3 _ _, g2, g3, st, ts, done ++ [x], pv3 ++ [.int x tx], e6, g4, by rw [hrow, List.append_assoc]; rfl, by rw [List.length_append, hdl]; rfl, hjv, by rw [← List.append_assoc]; exact hI3.append (.cons x tx .nil), rfl⟩⟩
      · rintro m₂ H₂ s₂ l₂ ⟨g2, g3, st, ts, done, pv2, e4, g4, hrow, hdl, hjl, hI2, rfl⟩ F₂ N₂
        rw [hvl2] at hrow hI2
        rw [List.drop_of_length_le (Nat.le_refl _), List.drop_of_length_le (by lia)] at hrow
        rw [List.drop_of_length_le (by lia), List.nil_append] at hI2
        have e5 : rowI mo [] [] st = [] := rfl
        rw [e5, List.append_nil, ← hE] at hrow
        k_sweep
        walk_at "m go"
        exact ⟨⟨_, Sub.rfl', hne0 _ _, g2, pv2, e4, by rw [hrow]; exact hI2, rfl⟩⟩
    · rintro m₁ H₁ s₁ l₁ ⟨g1, pv', e3', hI, rfl⟩ F₁ N₁
      rw [hvl1, List.take_length] at hI
      refine Imp2.go (by assumption) ?_; exact CutQ.next l₁ F₁ N₁ ⟨_, Sub.rfl', g1, pv', e3', hI, rfl⟩
  · rintro s₁ m' H' l₁ ⟨g1, pv', e3', hI, rfl⟩ F₁ N₁
    k_sweep
    walk_at "m go"
    refine ⟨comp_in rfl rfl (by decide) ?_⟩
    walk_at "m go"
    refine ⟨comp_ll (n := n2) (D := D2) (vs := vs2) (z := z) (by decide) rfl rfl r.hh (by walk_at "LK") (by lia) (by assumption) (by assumption) (.tail _ (.tail _ (.head _)))
      (fun i ys H => ∃ pv e3, i ≤ mv.length ∧ IntsAre ys ((endsF mu mv ln).take i) ∧ IntsAre pv ((endsF mu mv ln).drop i) ∧ H = (L + 1, co) :: (D1, listOf vs1.toArray n1) :: (D2, listOf vs2.toArray n2) :: lexH w a line t1 vs e2 pv e3) ?_ ?_ ⟨pv', e3', Nat.zero_le _, .nil, hI, rfl⟩ ?_ ?_⟩
    · rintro i ys H ⟨pv, e3, _, _, _, rfl⟩
      exact .tail _ (.tail _ (.head _))
    · rintro i ys H ⟨pv, e3, _, hy, _, rfl⟩
      have := hy.length
      rw [List.length_take] at this
      lia
    · rintro i v ys C s₂ m₂ H₂ own l₂ hv ⟨pv2, e4, hil, hy, hpv, rfl⟩ F₂ N₂ ap₂
      simp only [List.forIn_nil]
      refine wpAny_pure ?_
      simp only [if_true]
      have hiv : i < mv.length := by
        have := (List.getElem?_eq_some_iff.mp hv).1
        lia
      have hEl := endsF_len mv mu ln hl
      obtain ⟨x, hdx⟩ : ∃ x, (endsF mu mv ln).drop i = x :: (endsF mu mv ln).drop (i + 1) := ⟨_, List.drop_eq_getElem_cons (by lia)⟩
      have htk : (endsF mu mv ln).take (i + 1) = (endsF mu mv ln).take i ++ [x] := by
        have hh := List.drop_eq_getElem_cons (l := endsF mu mv ln) (i := i) (by lia)
        rw [hdx] at hh
        rw [List.take_succ_eq_append_getElem (by lia), ← (List.cons.inj hh).1]
      rw [hdx] at hpv
      have hlen3 := hpv.length
      obtain ⟨tx, pv3, rfl, hpv3⟩ := ints_inv hpv
      have hpl : pv3.length ≤ 1000 := by
        simp only [List.length_cons, List.length_drop] at hlen3
        lia
      have hco' : co.data = .cell (some (.ref a.x)) := hco
      have hX3 : ∀ p ∈ own ++ [(L + 1, co), (D1, listOf vs1.toArray n1), (D2, listOf vs2.toArray n2)], ∀ q ∈ lexH w a line t1 vs e2 (.int x tx :: pv3) e4, p.1 ≠ q.1 := by
        intro p hp q hq
        rcases List.mem_append.mp hp with hp | hp
        · exact (ap₂ q (.tail _ (.tail _ (.tail _ hq))) p hp).symm
        · rcases List.mem_cons.mp hp with rfl | hp
          · exact lex_ap hapL _ (.head _) q hq
          · exact lex_ap hap _ hp q hq
      have N₈ : News P C s₂.heap ((own ++ [(L + 1, co), (D1, listOf vs1.toArray n1), (D2, listOf vs2.toArray n2)]) ++ lexH w a line t1 vs e2 (.int x tx :: pv3) e4) := by rw [List.append_assoc]; exact N₂
      refine MethodCall_ ?_
      refine wpAny_Name (wpAny_loadName_cell rfl rfl rfl ⟨co, News.get N₂ (List.mem_append_right _ (.head _)), hco'⟩ ?_) (by decide)
      have N₉ := subN N₂ (A := lexH w a line t1 vs e2 (.int x tx :: pv3) e4) (fun p hp => List.mem_append_right _ (.tail _ (.tail _ (.tail _ hp))))
      unfold lexH lexD at N₉
      walk_at "m go"
      refine ⟨call_sw (X := own ++ [(L + 1, co), (D1, listOf vs1.toArray n1), (D2, listOf vs2.toArray n2)]) (pop_s (line := line) (t1 := t1) (vs := vs) (e2 := e2) (v0 := .int x tx) (pv := pv3) (e3 := e4) ok hpl) (Rm.le r (Nat.le_of_ble_eq_true rfl)) G (by assumption) N₈ hX3 (by walk_at "LK") ?_⟩
      rintro v H' s₃ ⟨e5, rfl, rfl⟩ l₃ F₃ N₃ ap₃
      refine CompEnd.intro l₃ F₃ N₃ ⟨⟨_, by rw [List.append_assoc]; exact Sub.rfl', ?_, pv3, e5, by lia, by rw [htk]; exact hy.append (.cons x tx .nil), hpv3, rfl⟩⟩
      intro p hp q hq
      simp only [List.cons_append, List.nil_append, List.mem_cons] at hp
      rcases hp with rfl | rfl | rfl | hp
      · exact ap₂ _ (.head _) q hq
      · exact ap₂ _ (.tail _ (.head _)) q hq
      · exact ap₂ _ (.tail _ (.tail _ (.head _))) q hq
      · exact (ap₃ q (List.mem_append_left _ hq) p hp).symm
    · rintro R e ys H₂ s₂ l₂ ⟨pv2, e4, hil, hy, hpv, rfl⟩ F₂ N₂ ap₂
      have hEl := endsF_len mv mu ln hl
      rw [hvl2, List.take_of_length_le (by lia)] at hy
      rw [hvl2, List.drop_of_length_le (by lia)] at hpv
      cases hpv
      refine Imp2.go (by assumption) ?_
      dsimp only
      refine Ret.intro' (by walk_at "LK") (by assumption) (by assumption) ?_
      exact ⟨⟨_, Sub.consm (.head _) (Sub.rfl'.tail.tail), R, ys, e, e4, rfl, hy, rfl, fun p hp => ap₂ p (.tail _ (.tail _ (.tail _ hp)))⟩⟩
end
section
local macro_rules | `(tactic| walk_at "setItem ref int") => `(tactic| (refine' ll_set ?k1 ?k2 ?k3 ?k4 ?k5 ?k6 ?_; (case k1 => assumption); (case k2 => assumption); (case k3 => walk_at "m upd"); (case k4 => lia); (case k5 => first | (simp only [List.length_cons, List.length_nil]; lia) | (simp; done)); (case k6 => lia); intro h' F' N'; (try k_sweep)))
theorem regk4 : True := by
  k_with "binaryOp Mult str int" => (refine mult_S (by walk_at "m lit") (by lia) ?_; intro _ _)
  k_with "call builtin:str.count" => (refine count_S (by walk_at "m lit") ?_)
  k_with "subscriptTail" => ((with_reducible show wpAny _ _ (subscriptTail _ _ (Value.ref _) (Value.int _ _)) _ _ _); refine ll_sub (by assumption) (by k_mem) (by decide) rfl ?_ (by with_unfolding_all rfl))
  k_with "subscriptTail" => ((with_reducible show wpAny _ _ (subscriptTail _ _ (Value.str (Str.ofString _) _) (Value.int (Int.fmod _ 4) _)) _ _ _); refine white_at (fmod4 _) ?_)
  k_with "subscriptTail Name Name ref int" => refine ll_sub (by assumption) (by k_mem) (by decide) rfl ?_ (by with_unfolding_all rfl)
  k_with "subscriptTail Name Constant ref int" => refine ll_sub (by assumption) (by k_mem) (by decide) rfl ?_ (by with_unfolding_all rfl)
  k_with "newTuple" => (refine kup_newTuple (by assumption) (by assumption) ?_ (by size_fits); walk_at "i5l")
  k_with "binaryOp Add ref ref" => (refine ll_add (by assumption) (by assumption) (by k_mem) (by k_mem) (by (first | (simp only [List.length_cons, List.length_nil]; lia) | (simp; done))) ?_; walk_at "i5l")
  trivial
abbrev FIn (W1 W2 D0 D1 : Addr) (w0 w1 : List Nat) (a0 a1 : Tok) (f1 f2 g0 g1 : Nat) (vs0 vs1 : List Value) : List (Addr × Obj) := [(W1, listOf [.str (S w0) a0, .str (S w1) a1].toArray f1), (W2, listOf [.ref D0, .ref D1].toArray f2), (D0, listOf vs0.toArray g0), (D1, listOf vs1.toArray g1)]
theorem file_s {W1 W2 D0 D1 : Addr} {w0 w1 : List Nat} {a0 a1 : Tok} {f1 f2 g0 g1 : Nat} {vs0 vs1 : List Value} {sl0 sl1 : List Int} {mix : Int} {tm : Tok}
   (hv0 : IntsAre vs0 sl0) (hv1 : IntsAre vs1 sl1) (hl0 : sl0.length = w0.length) (hl1 : sl1.length = w1.length) (hw0 : w0.length ≤ 10) (hw1 : w1.length ≤ 10)
   (x1 : W1 ≠ D0) (x2 : W1 ≠ D1) (x3 : W2 ≠ D0) (x4 : W2 ≠ D1) (x5 : D0 ≠ D1) :
   Spec w 8 (.ref 91) [.ref W1, .ref W2, .int mix tm] (FIn W1 W2 D0 D1 w0 w1 a0 a1 f1 f2 g0 g1 vs0 vs1) (fun v H' => ∃ Tp R q0 q1 q2 tk e b1 b2 b3 b4 b5 b6 b7 b8 b9, v = .ref Tp ∧
     H' = (Tp, tupOf [.str (S (ftext mix w0 w1 sl0 sl1)) tk, .ref R]) :: (R, listOf [.ref q0, .ref q1, .ref q2].toArray e) ::
       (q0, tupOf [.str (S w0) b1, .int (1 + cnt (part mix w0 sl0 0)) b2, .int (part mix w0 sl0 0).length b3]) ::
       (q1, tupOf [.str (S w1) b4, .int (1 + cnt (ftext mix w0 w1 sl0 sl1)) b5, .int (ftext mix w0 w1 sl0 sl1).length b6]) ::
       (q2, tupOf [.str (S []) b7, .int (1 + cnt (ftext mix w0 w1 sl0 sl1)) b8, .int (ftext mix w0 w1 sl0 sl1).length b9]) :: FIn W1 W2 D0 D1 w0 w1 a0 a1 f1 f2 g0 g1 vs0 vs1) := by
  walk_at "m fill"
  refine' spec_def [("words", .ref W1), ("slashes", .ref W2), ("mix", .int mix tm)] ?k1 ?k2 ?k3 ?k4 ?k5 ?c1 ?c2 ?c3 ?c4
  walk_at "m enter"
  intro A P L s z p loose mean mg mb r G lz X T F N K0 hK0
  unfold FIn at N
  (try k_fold)
  have hp0 := part_len mix w0 sl0 0
  have hp1 := part_len mix w1 sl1 1
  have hg := fmod3 (mix.fdiv 12)
  have hc3 := fmod3 (mix.fdiv 4)
  refine cut P L (s₀ := z) (by walk_at "LK") (fun m' H' => (∃ tt, m' "text" = some (.str (S []) tt)) ∧ m' "words" = some (.ref W1) ∧ m' "slashes" = some (.ref W2) ∧ m' "mix" = some (.int mix tm) ∧ ∃ St, m' "steps" = some (.ref St) ∧ (St ≠ W1 ∧ St ≠ W2 ∧ St ≠ D0 ∧ St ≠ D1) ∧ H' = (St, listOf [].toArray 0) :: FIn W1 W2 D0 D1 w0 w1 a0 a1 f1 f2 g0 g1 vs0 vs1) ?_ ?_
  · intro K1 hK1
    walk_at "m go"
    rename_i St _ l1 D9 _ nD _ _ _ F9 N9
    refine ⟨⟨_, Sub.rfl'.tail, ⟨_, by rw [← lit_e]; rfl⟩, rfl, rfl, rfl, St, rfl, ⟨Nat.ne_of_gt l1.1, Nat.ne_of_gt l1.2.1, Nat.ne_of_gt l1.2.2.1, Nat.ne_of_gt l1.2.2.2⟩, rfl⟩⟩
  rintro s₁ m' H' l₁ ⟨⟨tt, j1⟩, j2, j3, j4, St, j5, ⟨y1, y2, y3, y4⟩, rfl⟩ F₁ N₁
  k_sweep
  refine cut P L (s₀ := z) (by walk_at "LK") (fun m H => m "words" = some (.ref W1) ∧ m "slashes" = some (.ref W2) ∧ m "mix" = some (.int mix tm) ∧ m "steps" = some (.ref St) ∧ ∃ q0 q1 e b1 b2 b3 b4 b5 b6, (∃ tt, m "text" = some (.str (S (ftext1 mix w0 w1 sl0 sl1)) tt)) ∧ (St ≠ q0 ∧ St ≠ q1) ∧ H = (St, listOf [.ref q0, .ref q1].toArray e) :: (q0, tupOf [.str (S w0) b1, .int (1 + cnt (part mix w0 sl0 0)) b2, .int (part mix w0 sl0 0).length b3]) :: (q1, tupOf [.str (S w1) b4, .int (1 + cnt (ftext1 mix w0 w1 sl0 sl1)) b5, .int (ftext1 mix w0 w1 sl0 sl1).length b6]) :: FIn W1 W2 D0 D1 w0 w1 a0 a1 f1 f2 g0 g1 vs0 vs1) ?_ ?_
  · intro K1 hK1
    refine for_in ?_
    walk_at "m go"
    refine' ⟨loop_range (by assumption) r.hh rfl rfl (s₀ := z) (by walk_at "LK") (by lia) (by lia) (by lia) (by lia) (n := 2) (by decide) ?LF ?LN
      (fun k m H => m "words" = some (.ref W1) ∧ m "slashes" = some (.ref W2) ∧ m "mix" = some (.int mix tm) ∧ m "steps" = some (.ref St) ∧ ((k = 0 ∧ (∃ tt, m "text" = some (.str (S []) tt)) ∧ H = (St, listOf [].toArray 0) :: FIn W1 W2 D0 D1 w0 w1 a0 a1 f1 f2 g0 g1 vs0 vs1) ∨ (k = 1 ∧ ∃ q0 e b1 b2 b3, (∃ tt, m "text" = some (.str (S (part mix w0 sl0 0)) tt)) ∧ (St ≠ q0 ∧ q0 ≠ D1) ∧ H = (St, listOf [.ref q0].toArray e) :: (q0, tupOf [.str (S w0) b1, .int (1 + cnt (part mix w0 sl0 0)) b2, .int (part mix w0 sl0 0).length b3]) :: FIn W1 W2 D0 D1 w0 w1 a0 a1 f1 f2 g0 g1 vs0 vs1) ∨ (k = 2 ∧ ∃ q0 q1 e b1 b2 b3 b4 b5 b6, (∃ tt, m "text" = some (.str (S (ftext1 mix w0 w1 sl0 sl1)) tt)) ∧ (St ≠ q0 ∧ St ≠ q1) ∧ H = (St, listOf [.ref q0, .ref q1].toArray e) :: (q0, tupOf [.str (S w0) b1, .int (1 + cnt (part mix w0 sl0 0)) b2, .int (part mix w0 sl0 0).length b3]) :: (q1, tupOf [.str (S w1) b4, .int (1 + cnt (ftext1 mix w0 w1 sl0 sl1)) b5, .int (ftext1 mix w0 w1 sl0 sl1).length b6]) :: FIn W1 W2 D0 D1 w0 w1 a0 a1 f1 f2 g0 g1 vs0 vs1))) ?LJ ?_ ?_⟩
    case LF => assumption
    case LN => assumption
    case LJ => exact ⟨j2, j3, j4, j5, .inl ⟨rfl, ⟨tt, j1⟩, rfl⟩⟩
    · rintro k tv m₁ H₁ s₁ I io l₁ hk ⟨i2, i3, i4, i5, hcase⟩ ne F₁ N₁ K2 hK2
      rcases hcase with ⟨rfl, ⟨tt, i1⟩, rfl⟩ | ⟨rfl, q0, e, b1, b2, b3, ⟨tt, i1⟩, ⟨hq, hq2⟩, rfl⟩ | ⟨rfl, _⟩
      rotate_right
      · lia
      · have e0 : (0 : Int) + ((0 : Nat) : Int) = 0 := rfl
        rw [e0] at F₁
        have ho := open1_len (fq mix w0 0) w0 sl0
        have hrep : (List.replicate ((mix.fdiv 12).fmod 3).toNat (fw mix 0)).length ≤ 2 := by rw [List.length_replicate]; lia
        k_sweep
        refine cut P L (s₀ := z) (by walk_at "LK") (fun m H => m "quoted" = some (.bool (fq mix w0 0)) ∧ (∃ tw, m "white" = some (.str (S [fw mix 0]) tw)) ∧ m "k" = some (.int 0 tv) ∧ (∃ tt, m "text" = some (.str (S ([])) tt)) ∧ m "words" = some (.ref W1) ∧ m "slashes" = some (.ref W2) ∧ m "mix" = some (.int mix tm) ∧ m "steps" = some (.ref St) ∧ H = (I, io) :: (St, listOf [].toArray 0) :: [(W1, listOf [.str (S w0) a0, .str (S w1) a1].toArray f1), (W2, listOf [.ref D0, .ref D1].toArray f2), (D0, listOf vs0.toArray g0), (D1, listOf vs1.toArray g1)]) ?_ ?_
        · intro K1 hK1
          walk_at "m go"
          · have h0 : w0 = [] := List.length_eq_zero_iff.mp (by assumption)
            refine ⟨⟨_, Sub.rfl'.tail, ?_, ⟨_, rfl⟩, rfl, ⟨tt, i1⟩, i2, i3, i4, i5, rfl⟩⟩
            show some (Value.bool (S w0 == Str.ofString "")) = some (Value.bool _)
            rw [fq_nil _ _ _ h0, h0, lit_e, beq_self_eq_true]
          · have h0 : ¬ w0 = [] := fun e => absurd (List.length_eq_zero_iff.mpr e) (by assumption)
            refine ⟨⟨_, Sub.rfl'.tail, ?_, ⟨_, rfl⟩, rfl, ⟨tt, i1⟩, i2, i3, i4, i5, rfl⟩⟩
            show some (Value.bool ((mix.fdiv (2 ^ Int.toNat 0)).fmod 2 == 1)) = some (Value.bool (fq mix w0 0))
            unfold fq
            rw [decide_eq_false h0]
            rfl
        rintro s₂ m₂ H₂ l₂ ⟨c1, ⟨tw, c2⟩, c3, ⟨tt2, c4⟩, c5, c6, c7, c8, rfl⟩ F₂ N₂
        k_sweep
        refine cut P L (s₀ := z) (by walk_at "LK") (fun m H => m "k" = some (.int 0 tv) ∧ (∃ tt, m "text" = some (.str (S (part mix w0 sl0 0)) tt)) ∧ m "words" = some (.ref W1) ∧ m "slashes" = some (.ref W2) ∧ m "mix" = some (.int mix tm) ∧ m "steps" = some (.ref St) ∧ H = (I, io) :: (St, listOf [].toArray 0) :: [(W1, listOf [.str (S w0) a0, .str (S w1) a1].toArray f1), (W2, listOf [.ref D0, .ref D1].toArray f2), (D0, listOf vs0.toArray g0), (D1, listOf vs1.toArray g1)]) ?_ ?_
        · intro K1 hK1
          walk_at "m go"
          refine ⟨call_spec (H := [(D0, listOf vs0.toArray g0)]) (rest := [(I, io), (St, listOf [].toArray 0), (W1, listOf [.str (S w0) a0, .str (S w1) a1].toArray f1), (W2, listOf [.ref D0, .ref D1].toArray f2), (D1, listOf vs1.toArray g1)]) (written_s (q := fq mix w0 0) (wc := fw mix 0) hv0 hl0 (by lia)) (Rm.le r (Nat.le_of_ble_eq_true rfl)) G (by assumption) (by assumption) (Sub.consm (.tail _ (.tail _ (.tail _ (.tail _ (.head _))))) (Sub.consm (.head _) (Sub.consm (.tail _ (.head _)) (Sub.consm (.tail _ (.tail _ (.head _))) (Sub.consm (.tail _ (.tail _ (.tail _ (.head _)))) (Sub.consm (.tail _ (.tail _ (.tail _ (.tail _ (.tail _ (.head _)))))) Sub.nil)))))) ?_ (by walk_at "LK") ?_⟩
          · intro p hp q hq
            rw [List.mem_singleton.mp hq]
            simp only [List.mem_cons, List.not_mem_nil, or_false] at hp
            rcases hp with rfl | rfl | rfl | rfl | rfl
            · exact (ne _ (.tail _ (.tail _ (.tail _ (.head _))))).symm
            · exact y3
            · exact x1
            · exact x3
            · exact x5.symm
          rintro v H' s₃ ⟨tk, rfl, rfl⟩ l₃ F₃ N₃ ap₃
          k_sweep
          walk_at "m go"
          exact ⟨⟨_, (Sub.consm (.tail _ (.head _)) (Sub.consm (.tail _ (.tail _ (.head _))) (Sub.consm (.tail _ (.tail _ (.tail _ (.head _)))) (Sub.consm (.tail _ (.tail _ (.tail _ (.tail _ (.head _))))) (Sub.consm (.head _) (Sub.consm (.tail _ (.tail _ (.tail _ (.tail _ (.tail _ (.head _)))))) Sub.nil)))))), c3, ex_txt rfl (by rfl : [] ++ (List.replicate ((mix.fdiv 12).fmod 3).toNat (fw mix 0) ++ (open1 (fq mix w0 0) w0 sl0 ++ [close1 (fq mix w0 0) (fw mix 0)])) = part mix w0 sl0 0), c5, c6, c7, c8, rfl⟩⟩
        rintro s₃ m₃ H₃ l₃ ⟨c3, ⟨tt3, c4⟩, c5, c6, c7, c8, rfl⟩ F₃ N₃
        have hSI : St ≠ I := ne _ (.head _)
        have hft : (part mix w0 sl0 0).length ≤ 60 := by lia
        k_sweep
        walk_at "m go"
        rename_i D9 _ nD9 _ _ _
        refine ⟨⟨_, (Sub.consm (.tail _ (.head _)) (Sub.consm (.tail _ (.tail _ (.head _))) (Sub.consm (.head _) (Sub.consm (.tail _ (.tail _ (.tail _ (.head _)))) (Sub.consm (.tail _ (.tail _ (.tail _ (.tail _ (.head _))))) (Sub.consm (.tail _ (.tail _ (.tail _ (.tail _ (.tail _ (.head _)))))) (Sub.consm (.tail _ (.tail _ (.tail _ (.tail _ (.tail _ (.tail _ (.head _))))))) Sub.nil))))))), ?_, c5, c6, c7, c8, .inr (.inl ⟨by first | rfl | trivial, D9, _, _, _, _, ⟨tt3, c4⟩, ⟨Nat.ne_of_lt nD9.2.1, Nat.ne_of_gt nD9.2.2.2.2.2⟩, rfl⟩)⟩⟩
        intro p hp
        simp only [List.mem_cons, List.not_mem_nil, or_false] at hp
        rcases hp with rfl | rfl | rfl | rfl | rfl | rfl
        · exact hSI
        · exact Nat.ne_of_gt nD9.1
        · exact ne _ (.tail _ (.head _))
        · exact ne _ (.tail _ (.tail _ (.head _)))
        · exact ne _ (.tail _ (.tail _ (.tail _ (.head _))))
        · exact ne _ (.tail _ (.tail _ (.tail _ (.tail _ (.head _)))))

      · have e0 : (0 : Int) + ((1 : Nat) : Int) = 1 := rfl
        rw [e0] at F₁
        have ho := open1_len (fq mix w1 1) w1 sl1
        have hrep : (List.replicate ((mix.fdiv 12).fmod 3).toNat (fw mix 1)).length ≤ 2 := by rw [List.length_replicate]; lia
        k_sweep
        refine cut P L (s₀ := z) (by walk_at "LK") (fun m H => m "quoted" = some (.bool (fq mix w1 1)) ∧ (∃ tw, m "white" = some (.str (S [fw mix 1]) tw)) ∧ m "k" = some (.int 1 tv) ∧ (∃ tt, m "text" = some (.str (S (part mix w0 sl0 0)) tt)) ∧ m "words" = some (.ref W1) ∧ m "slashes" = some (.ref W2) ∧ m "mix" = some (.int mix tm) ∧ m "steps" = some (.ref St) ∧ H = (I, io) :: (St, listOf [.ref q0].toArray e) :: (q0, tupOf [.str (S w0) b1, .int (1 + cnt (part mix w0 sl0 0)) b2, .int (part mix w0 sl0 0).length b3]) :: [(W1, listOf [.str (S w0) a0, .str (S w1) a1].toArray f1), (W2, listOf [.ref D0, .ref D1].toArray f2), (D0, listOf vs0.toArray g0), (D1, listOf vs1.toArray g1)]) ?_ ?_
        · intro K1 hK1
          walk_at "m go"
          · have h0 : w1 = [] := List.length_eq_zero_iff.mp (by assumption)
            refine ⟨⟨_, Sub.rfl'.tail, ?_, ⟨_, rfl⟩, rfl, ⟨tt, i1⟩, i2, i3, i4, i5, rfl⟩⟩
            show some (Value.bool (S w1 == Str.ofString "")) = some (Value.bool _)
            rw [fq_nil _ _ _ h0, h0, lit_e, beq_self_eq_true]
          · have h0 : ¬ w1 = [] := fun e => absurd (List.length_eq_zero_iff.mpr e) (by assumption)
            refine ⟨⟨_, Sub.rfl'.tail, ?_, ⟨_, rfl⟩, rfl, ⟨tt, i1⟩, i2, i3, i4, i5, rfl⟩⟩
            show some (Value.bool ((mix.fdiv (2 ^ Int.toNat 1)).fmod 2 == 1)) = some (Value.bool (fq mix w1 1))
            unfold fq
            rw [decide_eq_false h0]
            rfl
        rintro s₂ m₂ H₂ l₂ ⟨c1, ⟨tw, c2⟩, c3, ⟨tt2, c4⟩, c5, c6, c7, c8, rfl⟩ F₂ N₂
        k_sweep
        refine cut P L (s₀ := z) (by walk_at "LK") (fun m H => m "k" = some (.int 1 tv) ∧ (∃ tt, m "text" = some (.str (S (ftext1 mix w0 w1 sl0 sl1)) tt)) ∧ m "words" = some (.ref W1) ∧ m "slashes" = some (.ref W2) ∧ m "mix" = some (.int mix tm) ∧ m "steps" = some (.ref St) ∧ H = (I, io) :: (St, listOf [.ref q0].toArray e) :: (q0, tupOf [.str (S w0) b1, .int (1 + cnt (part mix w0 sl0 0)) b2, .int (part mix w0 sl0 0).length b3]) :: [(W1, listOf [.str (S w0) a0, .str (S w1) a1].toArray f1), (W2, listOf [.ref D0, .ref D1].toArray f2), (D0, listOf vs0.toArray g0), (D1, listOf vs1.toArray g1)]) ?_ ?_
        · intro K1 hK1
          walk_at "m go"
          refine ⟨call_spec (H := [(D1, listOf vs1.toArray g1)]) (rest := [(I, io), (St, listOf [.ref q0].toArray e), (q0, tupOf [.str (S w0) b1, .int (1 + cnt (part mix w0 sl0 0)) b2, .int (part mix w0 sl0 0).length b3]), (W1, listOf [.str (S w0) a0, .str (S w1) a1].toArray f1), (W2, listOf [.ref D0, .ref D1].toArray f2), (D0, listOf vs0.toArray g0)]) (written_s (q := fq mix w1 1) (wc := fw mix 1) hv1 hl1 (by lia)) (Rm.le r (Nat.le_of_ble_eq_true rfl)) G (by assumption) (by assumption) (Sub.consm (.tail _ (.tail _ (.tail _ (.tail _ (.tail _ (.tail _ (.head _))))))) (Sub.consm (.head _) (Sub.consm (.tail _ (.head _)) (Sub.consm (.tail _ (.tail _ (.head _))) (Sub.consm (.tail _ (.tail _ (.tail _ (.head _)))) (Sub.consm (.tail _ (.tail _ (.tail _ (.tail _ (.head _))))) (Sub.consm (.tail _ (.tail _ (.tail _ (.tail _ (.tail _ (.head _)))))) Sub.nil))))))) ?_ (by walk_at "LK") ?_⟩
          · intro p hp q hq
            rw [List.mem_singleton.mp hq]
            simp only [List.mem_cons, List.not_mem_nil, or_false] at hp
            rcases hp with rfl | rfl | rfl | rfl | rfl | rfl
            · exact (ne _ (.tail _ (.tail _ (.tail _ (.tail _ (.tail _ (.head _))))))).symm
            · exact y4
            · exact hq2
            · exact x2
            · exact x4
            · exact x5
          rintro v H' s₃ ⟨tk, rfl, rfl⟩ l₃ F₃ N₃ ap₃
          k_sweep
          walk_at "m go"
          exact ⟨⟨_, (Sub.consm (.tail _ (.head _)) (Sub.consm (.tail _ (.tail _ (.head _))) (Sub.consm (.tail _ (.tail _ (.tail _ (.head _)))) (Sub.consm (.tail _ (.tail _ (.tail _ (.tail _ (.head _))))) (Sub.consm (.tail _ (.tail _ (.tail _ (.tail _ (.tail _ (.head _)))))) (Sub.consm (.tail _ (.tail _ (.tail _ (.tail _ (.tail _ (.tail _ (.head _))))))) (Sub.consm (.head _) Sub.nil))))))), c3, ex_txt rfl (by rfl : part mix w0 sl0 0 ++ (List.replicate ((mix.fdiv 12).fmod 3).toNat (fw mix 1) ++ (open1 (fq mix w1 1) w1 sl1 ++ [close1 (fq mix w1 1) (fw mix 1)])) = ftext1 mix w0 w1 sl0 sl1), c5, c6, c7, c8, rfl⟩⟩
        rintro s₃ m₃ H₃ l₃ ⟨c3, ⟨tt3, c4⟩, c5, c6, c7, c8, rfl⟩ F₃ N₃
        have hSI : St ≠ I := ne _ (.head _)
        have hft : (ftext1 mix w0 w1 sl0 sl1).length ≤ 60 := by unfold ftext1; rw [List.length_append]; lia
        k_sweep
        walk_at "m go"
        rename_i D9 _ nD9 _ _ _
        refine ⟨⟨_, (Sub.consm (.tail _ (.head _)) (Sub.consm (.tail _ (.tail _ (.head _))) (Sub.consm (.tail _ (.tail _ (.tail _ (.head _)))) (Sub.consm (.head _) (Sub.consm (.tail _ (.tail _ (.tail _ (.tail _ (.head _))))) (Sub.consm (.tail _ (.tail _ (.tail _ (.tail _ (.tail _ (.head _)))))) (Sub.consm (.tail _ (.tail _ (.tail _ (.tail _ (.tail _ (.tail _ (.head _))))))) (Sub.consm (.tail _ (.tail _ (.tail _ (.tail _ (.tail _ (.tail _ (.tail _ (.head _)))))))) Sub.nil)))))))), ?_, c5, c6, c7, c8, .inr (.inr ⟨by first | rfl | trivial, q0, D9, _, _, _, _, _, _, _, ⟨tt3, c4⟩, ⟨hq, Nat.ne_of_lt nD9.2.1⟩, rfl⟩)⟩⟩
        intro p hp
        simp only [List.mem_cons, List.not_mem_nil, or_false] at hp
        rcases hp with rfl | rfl | rfl | rfl | rfl | rfl | rfl
        · exact hSI
        · exact ne _ (.tail _ (.head _))
        · exact Nat.ne_of_gt nD9.1
        · exact ne _ (.tail _ (.tail _ (.head _)))
        · exact ne _ (.tail _ (.tail _ (.tail _ (.head _))))
        · exact ne _ (.tail _ (.tail _ (.tail _ (.tail _ (.head _)))))
        · exact ne _ (.tail _ (.tail _ (.tail _ (.tail _ (.tail _ (.head _))))))

    · rintro m₁ H₁ s₁ l₁ ⟨i2, i3, i4, i5, hcase⟩ F₁ N₁
      rcases hcase with ⟨h0, _⟩ | ⟨h0, _⟩ | ⟨_, q0, q1, e, b1, b2, b3, b4, b5, b6, i1, hq, rfl⟩
      · exact absurd h0 (by decide)
      · exact absurd h0 (by decide)
      · refine Imp2.go (by assumption) ?_; exact CutQ.next l₁ F₁ N₁ ⟨_, Sub.rfl', i2, i3, i4, i5, q0, q1, e, b1, b2, b3, b4, b5, b6, i1, hq, rfl⟩
  rintro s₄ m₄ H₄ l₄ ⟨i2, i3, i4, i5, q0, q1, e, b1, b2, b3, b4, b5, b6, ⟨tt4, i1⟩, ⟨hq, hq2⟩, rfl⟩ F₄ N₄
  have hft : (ftext1 mix w0 w1 sl0 sl1).length ≤ 60 := by unfold ftext1; rw [List.length_append]; lia
  k_sweep
  refine cut P L (s₀ := z) (by walk_at "LK") (fun m H => m "steps" = some (.ref St) ∧ (∃ tt, m "text" = some (.str (S (ftext mix w0 w1 sl0 sl1)) tt)) ∧ ∃ q1 e b1 b2 b3 b4 b5 b6, H = (St, listOf [.ref q0, .ref q1].toArray e) :: (q0, tupOf [.str (S w0) b1, .int (1 + cnt (part mix w0 sl0 0)) b2, .int (part mix w0 sl0 0).length b3]) :: (q1, tupOf [.str (S w1) b4, .int (1 + cnt (ftext mix w0 w1 sl0 sl1)) b5, .int (ftext mix w0 w1 sl0 sl1).length b6]) :: FIn W1 W2 D0 D1 w0 w1 a0 a1 f1 f2 g0 g1 vs0 vs1) ?_ ?_
  · intro K1 hK1
    have hrep2 : (List.replicate ((mix.fdiv 4).fmod 3 - 1).toNat 92).length ≤ 2 := by rw [List.length_replicate]; lia
    walk_at "m go"
    · have hcc : fcut mix > 0 := by assumption
      have e9 : List.take (((ftext1 mix w0 w1 sl0 sl1).length : Int) + -1).toNat (ftext1 mix w0 w1 sl0 sl1) ++ List.replicate ((mix.fdiv 4).fmod 3 - 1).toNat 92 = ftext mix w0 w1 sl0 sl1 := by
        unfold ftext
        rw [if_pos hcc]
        unfold fcut
        congr 2
        lia
      rw [e9]
      exact ⟨⟨_, (Sub.consm (.tail _ (.head _)) (Sub.consm (.tail _ (.tail _ (.head _))) (Sub.consm (.head _) (Sub.rfl'.tail.tail.tail.tail)))), i5, ⟨_, rfl⟩, _, _, _, _, _, _, _, _, rfl⟩⟩
    · have hcc : ¬ fcut mix > 0 := by assumption
      have e9 : ftext mix w0 w1 sl0 sl1 = ftext1 mix w0 w1 sl0 sl1 := if_neg hcc
      rw [e9]
      exact ⟨⟨_, Sub.rfl', i5, ⟨tt4, i1⟩, q1, e, b1, b2, b3, b4, b5, b6, rfl⟩⟩
  rintro s₅ m₅ H₅ l₅ ⟨i5, ⟨tt5, i1⟩, q1, e, b1, b2, b3, b4, b5, b6, rfl⟩ F₅ N₅
  have hft2 : (ftext mix w0 w1 sl0 sl1).length ≤ 100 := by
    unfold ftext
    split
    · rw [List.length_append, List.length_take, List.length_replicate]; unfold fcut; lia
    · lia
  k_sweep
  have hrs : RetSub := ⟨⟩
  walk_at "m go"
  exact ⟨⟨_, (Sub.consm (.head _) (Sub.consm (.tail _ (.head _)) (Sub.consm (.tail _ (.tail _ (.tail _ (.tail _ (.tail _ (.head _)))))) (Sub.consm (.tail _ (.tail _ (.tail _ (.tail _ (.tail _ (.tail _ (.head _))))))) (Sub.consm (.tail _ (.tail _ (.tail _ (.head _)))) (Sub.rfl'.tail.tail.tail.tail.tail.tail.tail)))))), _, _, _, _, _, _, _, _, _, _, _, _, _, _, _, _, rfl, rfl⟩⟩
end
section
open PySem PySem.W PySem.Calls PyProof.Rows
def SpecK (w : World) (d : Nat) (f : Value) (args : List Value) (K : Heap → Prop) (H : List (Addr × Obj)) (Q : Post) : Prop :=
  ∀ A P s, Rm A d → Gd w P → K P → (∀ b o, P.get? b = some o → s.heap.get? b = some o) → P.objs.size ≤ s.heap.objs.size → Led P s.heap H →
    codeAny (model PR w) A (.call f ⟨args, []⟩) (Out P s Q) s
theorem spec_defKC {d : Nat} {K : Heap → Prop} {H : List (Addr × Obj)} {Q : Post} {name qual : Str} {params : Arguments} {body : List Stmt} {scope : Scope} {dV kV doc pm cdv ct oc : Value} {an od : Option Addr} {osl : Array (Option Value)} {f : Addr} {args : List Value} (binds : List (Str × Value))
    (ho : (hk.heap_1 w.params).lookup f = some ⟨oc, od, .func (fnOf name qual params body scope dV kV doc pm an cdv ct), osl⟩) (hcd : codeIn (hk.heap_1 w.params) cdv qual = true)
    (hbind : bindArgs (fnOf name qual params body scope dV kV doc pm an cdv ct) ⟨args, []⟩ = pure binds)
    (hkind : (binds.all fun y => scope.names.lookup y.1 == some .local || scope.names.lookup y.1 == some .cell) = true)
    (hnd : ((cellsFrom 0 scope.names []).map (·.1)).Nodup)
    (h : ∀ A P L s s₁ cells p loose mean mg mb, Rm A d → Gd w P → K P → Like s₁ s → (hk.heap_1 w.params).In P → Top p loose mean mg mb P → Fr P L s.heap (bindL (envOfC qual scope L f cdv).kindOf binds fun _ => none) → News P L s.heap (cells ++ H) →
      CellsAre (bindC (envOfC qual scope L f cdv).kindOf binds fun _ => none) (cellsFrom (L + 1) scope.names []) cells → (∀ p ∈ H, p.1 < L) → ∀ K₉, Imp2 (fun fl s' => Ret P L s₁ Q (match fl with | .ret v => v | _ => .none) s') K₉ →
      wpAny (model PR w) A (execs body (envOfC qual scope L f cdv)) K₉ (fun _ _ => False) s)
    (hco : scope.isCoroutine = false := by rfl) (hgen : scope.isGenerator = false := by rfl) (hk : scope.kind = .function := by rfl) : SpecK w (d + 1) (.ref f) args K H Q := by
  intro A P s r G kp k hs L
  obtain ⟨X, ⟨p, l, me, mg, mb, T⟩, _⟩ := id G
  refine codeAny_call_function (fd := fnOf name qual params body scope dV kV doc pm an cdv ct) r.room (k _ _ (X _ _ ho)) rfl hco hgen rfl (codeRec_of (X.keeps k) hcd) ((BindsTo.of_eq hbind : BindsTo s _ _ _) _ _ _ _ ?_)
  refine wpAny_newFunctionEnv_cells hk (kindsX hkind _) fun env' he s' x => ?_
  subst he
  refine ⟨(T.nolimit.keeps k).keeps x.toInCall.keep, codeAny_func ?_⟩
  obtain ⟨h₁, tk, rfl, _⟩ := x.done
  have hk₁ := x.toInCall.keep
  obtain ⟨cells, NC, Y⟩ := Cl.news (h₀ := s.heap) (Nat.le_refl _) fun n c hm => ⟨x.cell n c (lookup_of_mem_nodup (cellsFrom_names scope.names 0 (s.heap.objs.size + 1) [] [] rfl ▸ hnd) hm), x.above n c hm⟩
  refine wpAny_mono (h (A.deeper (envOfC qual scope s.heap.objs.size f cdv)) P s.heap.objs.size { s with heap := h₁, toks := tk } s cells p l me mg mb r.deeper G kp Like.mk' X T ⟨x.toInCall.ns, fun b o e => hk₁ b o (k b o e), hs⟩ (fun p hp => ?_) Y (fun p hp => Heap.lt_size (L p hp).1) _ (fun _ _ x => x)) (fun fl s' hl => ?_) fun _ _ e => e.elim
  · rcases List.mem_append.mp hp with hp | hp
    · refine ⟨(NC p hp).1, (NC p hp).2.1, ?_⟩
      cases q : P.get? p.1 with
      | none => rfl
      | some o => have := k _ _ q; rw [(NC p hp).2.2] at this; cases this
    · exact ⟨hk₁ _ _ (L p hp).1, Nat.ne_of_lt (Heap.lt_size (L p hp).1), (L p hp).2⟩
  · obtain ⟨m', H', e, F', N', q⟩ := hl
    exact ⟨_, H', rfl, e, F'.keep, fun q hq => ⟨(N' q hq).1, (N' q hq).2.2⟩, q⟩
section
variable {A : Around} {P : Heap} {s : Shared} {env : Env} {x : Str} {px : Pos} {body : List Stmt} {m : Str → Option Value} {H : List (Addr × Obj)} {L D : Addr} {vs : List Value} {n : Nat}
theorem pick_to (vs : List Value) {j : Int} (hj : 0 ≤ j) : slicePick vs.toArray none (some j) none = (vs.take j.toNat).toArray := by
  have ey : j = (j.toNat : Int) := by lia
  have e2 := slicePick_upto' vs.toArray j.toNat
  rw [← ey] at e2
  rw [e2]
  try simp
theorem ll_to {value slice : Expr} {l : Addr} {j : Int} {uj : Tok} {E : Value → Shared → Prop} {Q : Value → Shared → Prop} (hl : s.heap.IsList l vs.toArray) (hj : 0 ≤ j) (hz : vs.length ≤ 100000) (F : Fr P L s.heap m) (N : News P L s.heap H)
    (h : ∀ R h', Fr P L h' m → News P L h' ((R, listOf (vs.take j.toNat).toArray 0) :: H) → (∀ p ∈ H, p.1 < R) → Q (.ref R) { s with heap := h' })
    (hs : subscripted slice false (.ref l) (.ref s.heap.objs.size) = operate [.ref s.heap.objs.size, .ref l] (getItem (.ref l) (.ref s.heap.objs.size)) := by with_unfolding_all rfl)
    :
    wpAny (model PR w) A (subscriptTail value slice (.ref l) (.ref s.heap.objs.size)) Q E { s with heap := s.heap.push { cls := .type "slice", data := .fields #[.none, .int j uj, .none] } } := by
  refine kba_turn (value' := PySem.Expr.Name (PySem.Str.ofString "_") ⟨0, 0, 0, 0⟩) (fun _ => rfl) ?_
  refine slice_list F N hl .none (.int j uj) (fun h' F' N' => ?_) hs (fun _ => rfl) (by rw [sizeLine_eq]; simp; lia)
  rw [pick_to vs hj] at N'
  exact h _ h' F' N' fun p hp => Nat.lt_succ_of_lt (Heap.lt_size (N p hp).1)
/-- a range's turns into a cell -/
theorem loop_rangeC {E : Value → Shared → Prop} {Q : Flow → Shared → Prop} {r : Addr} {a b : Int} {t u v : Tok} {c : Addr} {co : Obj} {v₀ : Option Value} (hr : IsRange s.heap r a b 1 t u v) (hh : A.handled = none) (hx : env.kindOf x = some .cell) (hc : env.cells.lookup x = some c) (hk : env.scope.kind = .function)
    {s₀ : Shared} (hs₀ : Like s₀ s) (ha : -(2 ^ 62) ≤ a) (ha' : a < 2 ^ 62) (hb : -(2 ^ 62) ≤ b) (hb' : b < 2 ^ 62) (hn : (b - a).toNat = n)
    (F : Fr P env.locals s.heap m) (N : News P env.locals s.heap ((c, co) :: H)) (hco : co.data = .cell v₀) (hH : ∀ p ∈ H, p.1 ≠ c) (J : Nat → (Str → Option Value) → List (Addr × Obj) → Prop) (h0 : J 0 m H)
    (turn : ∀ i tv m₁ H₁ s₁ I io co, Like s₀ s₁ → i < n → J i m₁ H₁ → (∀ p ∈ H₁, p.1 ≠ I ∧ p.1 ≠ c) → I ≠ c → co.data = .cell (some (.int (a + i) tv)) → Fr P env.locals s₁.heap m₁ → News P env.locals s₁.heap ((I, io) :: (c, co) :: H₁) → ∀ K, Imp2 (LoopEnd P env.locals s₀ [(I, io), (c, co)] (J (i + 1)) Q) K →
      wpAny (model PR w) A (execs body env) K NoE s₁)
    (done : ∀ m₁ H₁ s₁, Like s₀ s₁ → J n m₁ H₁ → Fr P env.locals s₁.heap m₁ → News P env.locals s₁.heap H₁ → Q .next s₁) :
    wpAny (model PR w) A (pyIter (.ref r)) (LoopQ w A env x px body Q) E s := by
  refine wpAny_pyIter_range hr (small_one ha ha' hb hb') ?_
  have hsz : Builtin.Range.rangeSize a b 1 = (n : Int) := by rw [rangeSize_nat, hn]
  generalize hI0 : s.heap.objs.size = I
  have hI : env.locals < I := by rw [← hI0]; exact F.ns.lt
  have hIP : P.get? I = none := by rw [← hI0]; exact Fr.size_none F
  have hcI : c ≠ I := by rw [← hI0]; exact Nat.ne_of_lt (Heap.lt_size (N _ List.mem_cons_self).1)
  have hcL : c ≠ env.locals := (N _ List.mem_cons_self).2.1
  have hcP : P.get? c = none := (N _ List.mem_cons_self).2.2
  have W := Walks.range (prog := PR) (w := w) (A := A) hh I a 1 n
  refine codeAny_forLoop
    (fun k s' => ∃ (m' : Str → Option Value) (H' : List (Addr × Obj)) (i : Nat) (co : Obj) (v₀ : Option Value), Like s₀ s' ∧ IsRangeIter s'.heap I (a + ((i : Nat) : Int) * 1) ((n : Int) - ((i : Nat) : Int)) 1 ∧ Fr P env.locals s'.heap m' ∧ News P env.locals s'.heap ((c, co) :: H') ∧ co.data = .cell v₀ ∧ (∀ p ∈ H', p.1 ≠ I ∧ p.1 ≠ c) ∧ J i m' H' ∧ i ≤ n ∧ k = n + 1 - i) ?_ (n + 1)
    ⟨m, H, 0, co, v₀, hs₀, ?_, F.push _, News.push' N _, hco, fun p hp => ⟨by rw [← hI0]; exact Led.ne_size N p (List.mem_cons_of_mem _ hp), hH p hp⟩, h0, Nat.zero_le _, rfl⟩
  rotate_left
  · rw [hsz]
    subst hI0
    simpa [IsRangeIter] using Heap.get?_push_size _ rfl
  rintro k s' ⟨m', H', i, co, v₀, lk, hst', F', N', hco', hne', hJ, hi, rfl⟩
  have next : ∀ h₁ : Heap, (∀ b o, b ∉ [I] → s'.heap.get? b = some o → h₁.get? b = some o) → Fr P env.locals h₁ m' ∧ News P env.locals h₁ ((c, co) :: H') := fun h₁ hk₁ =>
    ⟨⟨F'.ns.at' fun o e => hk₁ _ o (by simpa using Nat.ne_of_lt hI) e, fun b o e => hk₁ b o (by intro q; simp at q; rw [q, hIP] at e; cases e) (F'.keep b o e), F'.above⟩, fun p hp => ⟨hk₁ _ _ (by
      simp
      rcases List.mem_cons.mp hp with rfl | hp
      · exact hcI
      · exact (hne' p hp).1) (N' p hp).1, (N' p hp).2⟩⟩
  by_cases hlt : i < n
  · refine W.item i _ _ _ hlt hst' fun v h₁ tk₁ hP hst₁ hk₁ => ?_
    obtain ⟨tv, rfl⟩ := hP
    obtain ⟨F₁, N₁⟩ := next h₁ hk₁
    refine wpAny_assign_Name (wpAny_storeName_cell hk hx hc ⟨co, (N₁ _ List.mem_cons_self).1, hco'⟩ fun h₂ hcell hs₂ => ?_)
    obtain ⟨co₂, hc2, hd2⟩ := hcell
    have F₂ : Fr P env.locals h₂ m' := ⟨F₁.ns.sameBut hs₂ (Ne.symm hcL), fun b o e => (hs₂.2 b (fun q => by rw [q, hcP] at e; cases e)).trans (F₁.keep b o e), F₁.above⟩
    have hst₂ : IsRangeIter h₂ I (a + ((i + 1 : Nat) : Int) * 1) ((n : Int) - ((i + 1 : Nat) : Int)) 1 := W.frame _ _ _ hst₁ fun b hb o e => (hs₂.2 b (by simp at hb; rw [hb]; exact Ne.symm hcI)).trans e
    obtain ⟨io, hio⟩ : ∃ io, h₂.get? I = some io := ⟨_, hst₂⟩
    have N₃ : News P env.locals h₂ ((I, io) :: (c, co₂) :: H') := fun p hp => by
      rcases List.mem_cons.mp hp with rfl | hp
      · exact ⟨hio, Nat.ne_of_gt hI, hIP⟩
      rcases List.mem_cons.mp hp with rfl | hp
      · exact ⟨hc2, hcL, hcP⟩
      · have z := N₁ p (List.mem_cons_of_mem _ hp)
        exact ⟨(hs₂.2 _ (hne' p hp).2).trans z.1, z.2⟩
    have e : a + (i : Int) * 1 = a + i := by lia
    rw [e] at hd2
    refine wpAny_mono (turn i tv m' H' { s' with heap := h₂, toks := tk₁ } I io co₂ lk hlt hJ hne' (Ne.symm hcI) hd2 F₂ N₃ _ (fun _ _ x => x)) (fun f s₃ h₃ => ?_) fun _ _ e => e.elim
    have fin : ∀ f', (f' = .next ∨ f' = .cont) → LoopEnd P env.locals s₀ [(I, io), (c, co₂)] (J (i + 1)) Q f' s₃ → ∃ k, k < n + 1 - i ∧ ∃ (m' : Str → Option Value) (H' : List (Addr × Obj)) (i : Nat) (co : Obj) (v₀ : Option Value), Like s₀ s₃ ∧ IsRangeIter s₃.heap I (a + ((i : Nat) : Int) * 1) ((n : Int) - ((i : Nat) : Int)) 1 ∧ Fr P env.locals s₃.heap m' ∧ News P env.locals s₃.heap ((c, co) :: H') ∧ co.data = .cell v₀ ∧ (∀ p ∈ H', p.1 ≠ I ∧ p.1 ≠ c) ∧ J i m' H' ∧ i ≤ n ∧ k = n + 1 - i := by
      rintro f' hf' he
      have he : ∃ m' H', Like s₀ s₃ ∧ Fr P env.locals s₃.heap m' ∧ News P env.locals s₃.heap ([(I, io), (c, co₂)] ++ H') ∧ (∀ p ∈ H', ∀ q ∈ [(I, io), (c, co₂)], p.1 ≠ q.1) ∧ J (i + 1) m' H' := by
        rcases hf' with rfl | rfl <;> exact he
      obtain ⟨m₃, H₃, lk₃, F₃, N₃', ha₃, hJ₃⟩ := he
      have hI₃ := (N₃' (I, io) (by simp)).1
      refine ⟨n + 1 - (i + 1), by lia, m₃, H₃, i + 1, co₂, _, lk₃, ?_, F₃, fun p hp => N₃' p (by
        rcases List.mem_cons.mp hp with rfl | hp
        · simp
        · simp [hp]), hd2, fun p hp => ⟨ha₃ p hp (I, io) (by simp), ha₃ p hp (c, co₂) (by simp)⟩, hJ₃, hlt, rfl⟩
      refine W.frame _ _ _ hst₂ fun b hb o e => ?_
      simp at hb
      subst hb
      rw [hio] at e; cases e; exact hI₃
    cases f with
    | ret v => exact h₃
    | brk => exact h₃
    | cont => exact fin _ (.inr rfl) h₃
    | next => exact fin _ (.inl rfl) h₃
  · have hin : i = n := by lia
    subst hin
    refine W.done _ _ _ hst' fun h₁ tk₁ hk₁ => wpAny_execs_nil ?_
    obtain ⟨F₁, N₁⟩ := next h₁ hk₁
    exact done m' H' { s' with heap := h₁, toks := tk₁ } lk hJ F₁ (subN N₁ fun p hp => List.mem_cons_of_mem _ hp)
end
end
section
open PySem PySem.W PySem.Calls PyProof.Rows
/-- a lexer's own part of the ledger -/
def lexO (w : World) (a : LexA) (line : Int) (t1 : Tok) (vs : List Value) (e2 : Nat) (pv : List Value) (e3 : Nat) : List (Addr × Obj) :=
  (a.dx, lexD w a line t1) :: (a.sg, listOf vs.toArray e2) :: (a.pb, listOf pv.toArray e3) :: (a.x, instObj 66 a.dx) :: (a.st, instObj 66 a.sd) :: (a.sd, dictOf a.sde a.sn) :: (a.lam, a.lo) :: a.rest.take 1
def lexAo (a : LexA) : List Addr := a.dx :: a.sg :: a.pb :: a.x :: a.st :: a.sd :: a.lam :: (a.rest.take 1).map (·.1)
theorem lexH_eq {a : LexA} {line : Int} {t1 : Tok} {vs : List Value} {e2 : Nat} {pv : List Value} {e3 : Nat} {p q : Addr × Obj} (h : a.rest = [p, q]) : lexH w a line t1 vs e2 pv e3 = lexO w a line t1 vs e2 pv e3 ++ [q] := by
  unfold lexH lexO
  rw [h]
  rfl
theorem lexO_in {a : LexA} {line : Int} {t1 : Tok} {vs : List Value} {e2 : Nat} {pv : List Value} {e3 : Nat} {p : Addr × Obj} (h : p ∈ lexO w a line t1 vs e2 pv e3) : p.1 ∈ lexAo a := List.mem_map_of_mem (f := (·.1)) h
/-- two lexers that share a code object -/
structure Two (w : World) (a1 a2 : LexA) (c' : Addr) (oc : Obj) : Prop where
  ok1 : LexOk w a1
  ok2 : LexOk w a2
  r1 : ∃ p, a1.rest = [p, (c', oc)]
  r2 : ∃ p, a2.rest = [p, (c', oc)]
  ap : ∀ x ∈ lexAo a1, ∀ y ∈ lexAo a2, x ≠ y
  c1 : c' ∉ lexAo a1
  c2 : c' ∉ lexAo a2
/-- apart from both lexers -/
def Yap (a1 a2 : LexA) (c' : Addr) (Y : List (Addr × Obj)) : Prop := ∀ p ∈ Y, p.1 ∉ lexAo a1 ∧ p.1 ∉ lexAo a2 ∧ p.1 ≠ c'
theorem Yap.app {a1 a2 : LexA} {c' : Addr} {X Y : List (Addr × Obj)} (h : Yap a1 a2 c' X) (k : Yap a1 a2 c' Y) : Yap a1 a2 c' (X ++ Y) := fun p hp => by
  rcases List.mem_append.mp hp with hp | hp
  · exact h p hp
  · exact k p hp
theorem Yap.sub {a1 a2 : LexA} {c' : Addr} {X Y : List (Addr × Obj)} (h : Yap a1 a2 c' Y) (k : Sub X Y) : Yap a1 a2 c' X := fun p hp => h p (k p hp)
theorem Yap.one {a1 a2 : LexA} {c' : Addr} {a : Addr} {o o' : Obj} (h : Yap a1 a2 c' [(a, o)]) : Yap a1 a2 c' [(a, o')] := fun p hp => by
  rw [List.mem_singleton.mp hp]; exact h (a, o) (.head _)
/-- what stands: the two lexers, the code, and the rest -/
abbrev TwoH (w : World) (a1 a2 : LexA) (c' : Addr) (oc : Obj) (l1 : Int) (t1 : Tok) (v1 : List Value) (e1 : Nat) (p1 : List Value) (f1 : Nat) (l2 : Int) (t2 : Tok) (v2 : List Value) (e2 : Nat) (p2 : List Value) (f2 : Nat) (Y : List (Addr × Obj)) : List (Addr × Obj) :=
  lexO w a1 l1 t1 v1 e1 p1 f1 ++ (lexO w a2 l2 t2 v2 e2 p2 f2 ++ ((c', oc) :: Y))
theorem two_r1 {a1 a2 : LexA} {c' : Addr} {oc : Obj} {l1 : Int} {t1 : Tok} {v1 : List Value} {e1 : Nat} {p1 : List Value} {f1 : Nat} {l2 : Int} {t2 : Tok} {v2 : List Value} {e2 : Nat} {p2 : List Value} {f2 : Nat} {X Y : List (Addr × Obj)} (T : Two w a1 a2 c' oc) :
    Sub (TwoH w a1 a2 c' oc l1 t1 v1 e1 p1 f1 l2 t2 v2 e2 p2 f2 (X ++ Y)) ((X ++ lexH w a1 l1 t1 v1 e1 p1 f1) ++ (lexO w a2 l2 t2 v2 e2 p2 f2 ++ Y)) := by
  obtain ⟨q, hq⟩ := T.r1
  rw [lexH_eq hq]
  intro p hp
  simp only [List.mem_append, List.mem_cons, List.not_mem_nil, or_false] at hp ⊢
  rcases hp with h | h | h | h | h
  · exact .inl (.inr (.inl h))
  · exact .inr (.inl h)
  · exact .inl (.inr (.inr h))
  · exact .inl (.inl h)
  · exact .inr (.inr h)
theorem two_r2 {a1 a2 : LexA} {c' : Addr} {oc : Obj} {l1 : Int} {t1 : Tok} {v1 : List Value} {e1 : Nat} {p1 : List Value} {f1 : Nat} {l2 : Int} {t2 : Tok} {v2 : List Value} {e2 : Nat} {p2 : List Value} {f2 : Nat} {X Y : List (Addr × Obj)} (T : Two w a1 a2 c' oc) :
    Sub (TwoH w a1 a2 c' oc l1 t1 v1 e1 p1 f1 l2 t2 v2 e2 p2 f2 (X ++ Y)) ((X ++ lexH w a2 l2 t2 v2 e2 p2 f2) ++ (lexO w a1 l1 t1 v1 e1 p1 f1 ++ Y)) := by
  obtain ⟨q, hq⟩ := T.r2
  rw [lexH_eq hq]
  intro p hp
  simp only [List.mem_append, List.mem_cons, List.not_mem_nil, or_false] at hp ⊢
  rcases hp with h | h | h | h | h
  · exact .inr (.inl h)
  · exact .inl (.inr (.inl h))
  · exact .inl (.inr (.inr h))
  · exact .inl (.inl h)
  · exact .inr (.inr h)
section
variable {d : Nat} {A : Around} {P : Heap} {L : Addr} {s z : Shared} {m : Str → Option Value} {f : Value} {args : List Value} {Q : Post} {Qv : Value → Shared → Prop} {E : Value → Shared → Prop} {a1 a2 : LexA} {c' : Addr} {oc : Obj} {l1 : Int} {t1 : Tok} {v1 : List Value} {e1 : Nat} {p1 : List Value} {f1 : Nat} {l2 : Int} {t2 : Tok} {v2 : List Value} {e2 : Nat} {p2 : List Value} {f2 : Nat} {X Y : List (Addr × Obj)}
/-- a call that the first lexer is in -/
theorem call_1 (T : Two w a1 a2 c' oc) (S : Spec w d f args (X ++ lexH w a1 l1 t1 v1 e1 p1 f1) Q) (r : Rm A d) (G : Gd w P) (F : Fr P L s.heap m) (N : News P L s.heap (TwoH w a1 a2 c' oc l1 t1 v1 e1 p1 f1 l2 t2 v2 e2 p2 f2 (X ++ Y)))
    (y : Yap a1 a2 c' (X ++ Y)) (hXY : ∀ p ∈ Y, ∀ q ∈ X, p.1 ≠ q.1) (lz : Like z s)
    (h : ∀ v H' s', Q v H' → Like z s' → Fr P L s'.heap m → News P L s'.heap (H' ++ (lexO w a2 l2 t2 v2 e2 p2 f2 ++ Y)) → (∀ p ∈ H', ∀ q ∈ lexO w a2 l2 t2 v2 e2 p2 f2 ++ Y, p.1 ≠ q.1) → Qv v s') :
    wpAny (model PR w) A (call f args) Qv E s := by
  obtain ⟨q1, hq1⟩ := T.r1
  refine call_spec S r G F N (fun p hp => ?_) (fun p hp q hq => ?_) lz h
  · rw [lexH_eq hq1] at hp
    simp only [List.mem_append, List.mem_cons, List.not_mem_nil, or_false] at hp ⊢
    rcases hp with (h | h | h) | h | h
    · exact .inr (.inr (.inr (.inl h)))
    · exact .inl h
    · exact .inr (.inr (.inl h))
    · exact .inr (.inl h)
    · exact .inr (.inr (.inr (.inr h)))
  · rw [lexH_eq hq1] at hq
    simp only [List.mem_append, List.mem_cons, List.not_mem_nil, or_false] at hp hq
    rcases hp with hp | hp
    · rcases hq with hq | hq | hq
      · exact fun e => (y q (List.mem_append_left _ hq)).2.1 (e ▸ lexO_in hp)
      · exact fun e => T.ap _ (lexO_in hq) _ (lexO_in hp) e.symm
      · rw [hq]; exact fun (e : p.1 = c') => T.c2 (e ▸ lexO_in hp)
    · have yp := y p (List.mem_append_right _ hp)
      rcases hq with hq | hq | hq
      · exact hXY p hp q hq
      · exact fun e => yp.1 (e ▸ lexO_in hq)
      · rw [hq]; exact yp.2.2
/-- a call that the second lexer is in -/
theorem call_2 (T : Two w a1 a2 c' oc) (S : Spec w d f args (X ++ lexH w a2 l2 t2 v2 e2 p2 f2) Q) (r : Rm A d) (G : Gd w P) (F : Fr P L s.heap m) (N : News P L s.heap (TwoH w a1 a2 c' oc l1 t1 v1 e1 p1 f1 l2 t2 v2 e2 p2 f2 (X ++ Y)))
    (y : Yap a1 a2 c' (X ++ Y)) (hXY : ∀ p ∈ Y, ∀ q ∈ X, p.1 ≠ q.1) (lz : Like z s)
    (h : ∀ v H' s', Q v H' → Like z s' → Fr P L s'.heap m → News P L s'.heap (H' ++ (lexO w a1 l1 t1 v1 e1 p1 f1 ++ Y)) → (∀ p ∈ H', ∀ q ∈ lexO w a1 l1 t1 v1 e1 p1 f1 ++ Y, p.1 ≠ q.1) → Qv v s') :
    wpAny (model PR w) A (call f args) Qv E s := by
  obtain ⟨q2, hq2⟩ := T.r2
  refine call_spec S r G F N (fun p hp => ?_) (fun p hp q hq => ?_) lz h
  · rw [lexH_eq hq2] at hp
    simp only [List.mem_append, List.mem_cons, List.not_mem_nil, or_false] at hp ⊢
    rcases hp with (h | h | h) | h | h
    · exact .inr (.inr (.inr (.inl h)))
    · exact .inr (.inl h)
    · exact .inr (.inr (.inl h))
    · exact .inl h
    · exact .inr (.inr (.inr (.inr h)))
  · rw [lexH_eq hq2] at hq
    simp only [List.mem_append, List.mem_cons, List.not_mem_nil, or_false] at hp hq
    rcases hp with hp | hp
    · rcases hq with hq | hq | hq
      · exact fun e => (y q (List.mem_append_left _ hq)).1 (e ▸ lexO_in hp)
      · exact fun e => T.ap _ (lexO_in hp) _ (lexO_in hq) e
      · rw [hq]; exact fun (e : p.1 = c') => T.c1 (e ▸ lexO_in hp)
    · have yp := y p (List.mem_append_right _ hp)
      rcases hq with hq | hq | hq
      · exact hXY p hp q hq
      · exact fun e => yp.2.1 (e ▸ lexO_in hq)
      · rw [hq]; exact yp.2.2
/-- what a step hands back is apart from the lexers -/
theorem yap_1 (T : Two w a1 a2 c' oc) {q : Addr} {o : Obj} (h1 : ∀ p ∈ lexH w a1 l1 t1 v1 e1 p1 f1, p.1 ≠ q) (h2 : ∀ p ∈ lexO w a2 l2 t2 v2 e2 p2 f2, q ≠ p.1) : Yap a1 a2 c' [(q, o)] := by
  obtain ⟨q1, hq1⟩ := T.r1
  rw [lexH_eq hq1] at h1
  intro p hp
  rw [List.mem_singleton.mp hp]
  refine ⟨fun hm => ?_, fun hm => ?_, (h1 _ (List.mem_append_right _ (.head _))).symm⟩
  · obtain ⟨p', hp', e⟩ := List.mem_map.mp (show q ∈ (lexO w a1 l1 t1 v1 e1 p1 f1).map (·.1) from hm)
    exact h1 p' (List.mem_append_left _ hp') e
  · obtain ⟨p', hp', e⟩ := List.mem_map.mp (show q ∈ (lexO w a2 l2 t2 v2 e2 p2 f2).map (·.1) from hm)
    exact h2 p' hp' e.symm
theorem yap_2 (T : Two w a1 a2 c' oc) {q : Addr} {o : Obj} (h1 : ∀ p ∈ lexH w a2 l2 t2 v2 e2 p2 f2, p.1 ≠ q) (h2 : ∀ p ∈ lexO w a1 l1 t1 v1 e1 p1 f1, q ≠ p.1) : Yap a1 a2 c' [(q, o)] := by
  obtain ⟨q1, hq1⟩ := T.r2
  rw [lexH_eq hq1] at h1
  intro p hp
  rw [List.mem_singleton.mp hp]
  refine ⟨fun hm => ?_, fun hm => ?_, (h1 _ (List.mem_append_right _ (.head _))).symm⟩
  · obtain ⟨p', hp', e⟩ := List.mem_map.mp (show q ∈ (lexO w a1 l1 t1 v1 e1 p1 f1).map (·.1) from hm)
    exact h2 p' hp' e.symm
  · obtain ⟨p', hp', e⟩ := List.mem_map.mp (show q ∈ (lexO w a2 l2 t2 v2 e2 p2 f2).map (·.1) from hm)
    exact h1 p' (List.mem_append_left _ hp') e
/-- a new object is apart from all that stands -/
theorem yap_new (N : ∀ p ∈ TwoH w a1 a2 c' oc l1 t1 v1 e1 p1 f1 l2 t2 v2 e2 p2 f2 Y, p.1 < q) {o : Obj} : Yap a1 a2 c' [(q, o)] := by
  intro p hp
  rw [List.mem_singleton.mp hp]
  refine ⟨fun hm => ?_, fun hm => ?_, Nat.ne_of_gt (N _ (List.mem_append_right _ (List.mem_append_right _ (.head _))))⟩
  · obtain ⟨p', hp', e⟩ := List.mem_map.mp (show q ∈ (lexO w a1 l1 t1 v1 e1 p1 f1).map (·.1) from hm)
    exact Nat.ne_of_lt (N p' (List.mem_append_left _ hp')) e
  · obtain ⟨p', hp', e⟩ := List.mem_map.mp (show q ∈ (lexO w a2 l2 t2 v2 e2 p2 f2).map (·.1) from hm)
    exact Nat.ne_of_lt (N p' (List.mem_append_right _ (List.mem_append_left _ hp'))) e
end
theorem News.ne_data {P h : Heap} {L : Addr} {H : List (Addr × Obj)} (N : News P L h H) {a b : Addr} {o o' : Obj} (ha : (a, o) ∈ H) (hb : (b, o') ∈ H) (hd : o.data ≠ o'.data) : a ≠ b := fun e => by
  have h1 := (N _ ha).1
  have h2 := (N _ hb).1
  dsimp only at h1 h2
  rw [e, h2] at h1
  cases h1
  exact hd rfl
/-- apart from a lexer by what is held -/
theorem lex_data {P h : Heap} {L : Addr} {H : List (Addr × Obj)} (N : News P L h H) {a : LexA} {line : Int} {t1 : Tok} {vs : List Value} {e2 : Nat} {pv : List Value} {e3 : Nat} {c b : Addr} {co oc o : Obj} {vs1 : Array Value} {v0 : Option Value} (ok : LexOk w a) (hr : a.rest = [(c, co), (b, oc)]) (hco : co.data = .cell v0)
    (hs : Sub (lexO w a line t1 vs e2 pv e3) H) {x : Addr} (hx : (x, o) ∈ H) (ho : o.data = .fields vs1) : x ∉ lexAo a := by
  obtain ⟨oc1, od, sl, hlo⟩ := ok.lf
  intro hm
  obtain ⟨p, hp, e⟩ := List.mem_map.mp (show x ∈ (lexO w a line t1 vs e2 pv e3).map (·.1) from hm)
  refine News.ne_data N (a := p.1) (o := p.2) (hs p hp) hx ?_ e
  rw [ho]
  unfold lexO at hp
  rw [hr] at hp
  simp only [List.take_succ_cons, List.take_zero, List.mem_cons, List.not_mem_nil, or_false] at hp
  rcases hp with rfl | rfl | rfl | rfl | rfl | rfl | rfl | rfl
  · intro h; cases h
  · intro h; cases h
  · intro h; cases h
  · intro h; cases h
  · intro h; cases h
  · intro h; cases h
  · rw [hlo]; intro h; cases h
  · rw [hco]; intro h; cases h
section
variable {A : Around} {E : Value → Shared → Prop} {P : Heap} {L : Addr} {s : Shared} {m : Str → Option Value} {H : List (Addr × Obj)} {D : Addr} {vs : List Value} {n : Nat}
theorem ll_last {value slice : Expr} {Q : Value → Shared → Prop} {t : Tok} {x : Value} (N : News P L s.heap H) (hm : (D, listOf vs.toArray n) ∈ H) (h0 : vs.length ≠ 0) (hx : vs[vs.length - 1]? = some x) (h : Q x s)
    (hs : subscripted slice false (.ref D) (.int (-1) t) = operate [.ref D, .int (-1) t] (getItem (.ref D) (.int (-1) t)) := by with_unfolding_all rfl) :
    wpAny (model PR w) A (subscriptTail value slice (.ref D) (.int (-1) t)) Q E s := by
  have e : vs.toArray.size = vs.length := by simp
  refine tail_any (News.isList N hm).typeIs slot_list_getitem.lookup (wpAny_getItem_list_neg (News.isList N hm) (by decide) (by rw [e]; lia) (by decide) ?_ h) hs
  rw [e, show (-1 + (vs.length : Int)).toNat = vs.length - 1 by lia]
  simpa using hx
theorem ints_get {vs : List Value} {ns : List Int} (h : IntsAre vs ns) : ∀ {i : Nat}, i < ns.length → ∃ t, vs[i]? = some (.int (ns.getD i 0) t) := by
  induction h with
  | nil => intro i hi; exact absurd hi (Nat.not_lt_zero _)
  | cons n t _ ih =>
    intro i hi
    cases i with
    | zero => exact ⟨t, rfl⟩
    | succ i => exact ih (by simpa using hi)
theorem sg_signs : ∀ (x : List Nat) {vs : List Value}, CarriedAll vs ((x.map fun c => (⟨#[c]⟩ : Str)).map PyData.str) → Sg vs x
  | [], _, .nil => .nil
  | c :: x, _, .cons (.str _ t) r => .cons c t (sg_signs x r)
/-- list(text) -/
theorem list_S {Q : Value → Shared → Prop} {x : List Nat} {t : Tok} {z : Shared} (lk : Like z s) (hh : A.handled = none) (F : Fr P L s.heap m) (N : News P L s.heap H) (hx : x.length ≤ 100000)
    (h : ∀ R vs c s', Like z s' → Sg vs x → Fr P L s'.heap m → News P L s'.heap ((R, listOf vs.toArray c) :: H) → (∀ p ∈ H, p.1 < R) → Q (.ref R) s') : wpAny (model PR w) A (call (.type "list") [.str (S x) t]) Q E s := by
  refine list_strD hh F N (fun h' tk ys F' N' hk hn0 hl np ca => ?_) (by rw [sizeLine_eq]; simp [S, Str.length]; lia)
  obtain ⟨c, ho⟩ := np.1
  refine h s.heap.objs.size ys c { s with heap := h', toks := tk } (lk.trans Like.mk') (sg_signs x ?_) F' (fun p hp => ?_) (fun p hp => Heap.lt_size (N p hp).1)
  · have e : signs (S x) = x.map fun c => (⟨#[c]⟩ : Str) := by simp [signs, S]
    rw [e] at ca
    exact ca
  · rcases List.mem_cons.mp hp with rfl | hp
    · exact ⟨ho, np.ne_locals F', hn0⟩
    · exact N' p hp
theorem comp_ld {scope : Scope} {cl : List (Str × Addr)} {C : Addr} {env : Env} {x : Str} {pos : Pos} {v : Value} {Q : Value → Shared → Prop} (F : Fr P C s.heap m) (hv : m x = some v) (h : Q v s) (hk : (compEnvC scope cl C env).scope.kind = .function := by rfl)
    (hl : (compEnvC scope cl C env).kindOf x = some .local := by rfl) (hd : (x == ("__debug__" : Str)) = false := by decide) : wpAny (model PR w) A (eval (.Name x pos) (compEnvC scope cl C env)) Q E s := wpAny_Name (wpAny_loadName_local hk hl F.ns hv h) hd
theorem comp_cl {scope : Scope} {cl : List (Str × Addr)} {C c : Addr} {co : Obj} {env : Env} {x : Str} {pos : Pos} {v : Value} {Q : Value → Shared → Prop} (N : News P C s.heap H) (hc : (compEnvC scope cl C env).cells.lookup x = some c) (hm : (c, co) ∈ H) (hv : co.data = .cell (some v)) (h : Q v s) (hk : (compEnvC scope cl C env).scope.kind = .function := by rfl)
    (hl : (compEnvC scope cl C env).kindOf x = some .cell := by rfl) (hd : (x == ("__debug__" : Str)) = false := by decide) : wpAny (model PR w) A (eval (.Name x pos) (compEnvC scope cl C env)) Q E s := wpAny_Name (wpAny_loadName_cell hk hl hc ⟨co, News.get N hm, hv⟩ h) hd
end
section
variable {A : Around} {E : Value → Shared → Prop} {P : Heap} {L : Addr} {s : Shared} {m : Str → Option Value} {a1 a2 : LexA} {c' : Addr} {oc : Obj} {l1 : Int} {t1 : Tok} {v1 : List Value} {e1 : Nat} {p1 : List Value} {f1 : Nat} {l2 : Int} {t2 : Tok} {v2 : List Value} {e2 : Nat} {p2 : List Value} {f2 : Nat} {X Y : List (Addr × Obj)}
theorem two_in : Sub (TwoH w a1 a2 c' oc l1 t1 v1 e1 p1 f1 l2 t2 v2 e2 p2 f2 (X ++ Y)) (X ++ TwoH w a1 a2 c' oc l1 t1 v1 e1 p1 f1 l2 t2 v2 e2 p2 f2 Y) := by
  intro p hp
  simp only [List.mem_append, List.mem_cons] at hp ⊢
  rcases hp with h | h | h | h | h
  · exact .inr (.inl h)
  · exact .inr (.inr (.inl h))
  · exact .inr (.inr (.inr (.inl h)))
  · exact .inl h
  · exact .inr (.inr (.inr (.inr h)))
theorem two_out : Sub (X ++ TwoH w a1 a2 c' oc l1 t1 v1 e1 p1 f1 l2 t2 v2 e2 p2 f2 Y) (TwoH w a1 a2 c' oc l1 t1 v1 e1 p1 f1 l2 t2 v2 e2 p2 f2 (X ++ Y)) := by
  intro p hp
  simp only [List.mem_append, List.mem_cons] at hp ⊢
  rcases hp with h | h | h | h | h
  · exact .inr (.inr (.inr (.inl h)))
  · exact .inl h
  · exact .inr (.inl h)
  · exact .inr (.inr (.inl h))
  · exact .inr (.inr (.inr (.inr h)))
theorem two_1 (T : Two w a1 a2 c' oc) : Sub (X ++ TwoH w a1 a2 c' oc l1 t1 v1 e1 p1 f1 l2 t2 v2 e2 p2 f2 Y) ((X ++ lexH w a1 l1 t1 v1 e1 p1 f1) ++ (lexO w a2 l2 t2 v2 e2 p2 f2 ++ Y)) := fun p hp => two_r1 T p (two_out p hp)
theorem two_2 (T : Two w a1 a2 c' oc) : Sub (X ++ TwoH w a1 a2 c' oc l1 t1 v1 e1 p1 f1 l2 t2 v2 e2 p2 f2 Y) ((X ++ lexH w a2 l2 t2 v2 e2 p2 f2) ++ (lexO w a1 l1 t1 v1 e1 p1 f1 ++ Y)) := fun p hp => two_r2 T p (two_out p hp)
theorem two_2' (T : Two w a1 a2 c' oc) : Sub (X ++ TwoH w a1 a2 c' oc l1 t1 v1 e1 p1 f1 l2 t2 v2 e2 p2 f2 Y) (lexH w a2 l2 t2 v2 e2 p2 f2 ++ (lexO w a1 l1 t1 v1 e1 p1 f1 ++ (X ++ Y))) := fun p hp => by
  have h := two_out p hp
  exact two_r2 (X := []) T p h
/-- a ledger with the second lexer's part laid open -/
theorem two_o2 (T : Two w a1 a2 c' oc) : Sub ((X ++ lexH w a2 l2 t2 v2 e2 p2 f2) ++ (lexO w a1 l1 t1 v1 e1 p1 f1 ++ Y)) (X ++ TwoH w a1 a2 c' oc l1 t1 v1 e1 p1 f1 l2 t2 v2 e2 p2 f2 Y) := by
  obtain ⟨q, hq⟩ := T.r2
  rw [lexH_eq hq]
  intro p hp
  simp only [List.mem_append, List.mem_cons, List.not_mem_nil, or_false] at hp ⊢
  rcases hp with (h | h | h) | h | h
  · exact .inl h
  · exact .inr (.inr (.inl h))
  · exact .inr (.inr (.inr (.inl h)))
  · exact .inr (.inl h)
  · exact .inr (.inr (.inr (.inr h)))
theorem line0_succ (k : Nat) : line0 (k + 1) = line0 k ++ [(k : Int)] := by
  unfold line0
  rw [List.range_succ, List.map_append]
  rfl
/-- apart from the lexers: as read off the ledger -/
theorem yap_ne {q : Addr} {o : Obj} (N : ∀ p ∈ TwoH w a1 a2 c' oc l1 t1 v1 e1 p1 f1 l2 t2 v2 e2 p2 f2 Y, p.1 ≠ q) : Yap a1 a2 c' [(q, o)] := by
  intro p hp
  rw [List.mem_singleton.mp hp]
  refine ⟨fun hm => ?_, fun hm => ?_, (N _ (List.mem_append_right _ (List.mem_append_right _ (.head _)))).symm⟩
  · obtain ⟨p', hp', e⟩ := List.mem_map.mp (show q ∈ (lexO w a1 l1 t1 v1 e1 p1 f1).map (·.1) from hm)
    exact N p' (List.mem_append_left _ hp') e
  · obtain ⟨p', hp', e⟩ := List.mem_map.mp (show q ∈ (lexO w a2 l2 t2 v2 e2 p2 f2).map (·.1) from hm)
    exact N p' (List.mem_append_right _ (List.mem_append_left _ hp')) e
theorem two_ne {q : Addr} {o : Obj} (y : Yap a1 a2 c' [(q, o)]) (h : ∀ p ∈ Y, p.1 ≠ q) : ∀ p ∈ TwoH w a1 a2 c' oc l1 t1 v1 e1 p1 f1 l2 t2 v2 e2 p2 f2 Y, p.1 ≠ q := by
  have yy := y (q, o) (.head _)
  have x : q ∉ lexAo a1 := yy.1
  have y' : q ∉ lexAo a2 := yy.2.1
  have z : q ≠ c' := yy.2.2
  intro p hp
  simp only [List.mem_append, List.mem_cons] at hp
  rcases hp with hp | hp | rfl | hp
  · exact fun (e : p.1 = q) => x (e ▸ lexO_in hp)
  · exact fun (e : p.1 = q) => y' (e ▸ lexO_in hp)
  · exact z.symm
  · exact h p hp
theorem yap_lex2 (y : Yap a1 a2 c' X) (T : Two w a1 a2 c' oc) : ∀ p ∈ X, ∀ q ∈ lexH w a2 l2 t2 v2 e2 p2 f2, p.1 ≠ q.1 := by
  obtain ⟨r, hr⟩ := T.r2
  rw [lexH_eq hr]
  intro p hp q hq
  rcases List.mem_append.mp hq with hq | hq
  · exact fun e => (y p hp).2.1 (e ▸ lexO_in hq)
  · rw [List.mem_singleton.mp hq]; exact (y p hp).2.2
theorem tup_sub {value slice : Expr} {D : Addr} {vs : List Value} {H : List (Addr × Obj)} {Q : Value → Shared → Prop} {k : Int} {t : Tok} {x : Value} (N : News P L s.heap H) (hm : (D, tupOf vs) ∈ H) (h0 : 0 ≤ k ∧ k < 1000) (hx : vs[k.toNat]? = some x) (h : Q x s)
    (hs : subscripted slice false (.ref D) (.int k t) = operate [.ref D, .int k t] (getItem (.ref D) (.int k t)) := by with_unfolding_all rfl) :
    wpAny (model PR w) A (subscriptTail value slice (.ref D) (.int k t)) Q E s := by
  have hT : IsTup s.heap D vs.toArray := News.isTup N hm
  have hlt := (List.getElem?_eq_some_iff.mp hx).1
  refine tail_any hT.typeIs slot_tuple_getitem.lookup (getItem_tuple hT (by lia) (by lia) (j := k.toNat) (seqIndex_of h0.1 ?_) (by simpa using hx) h) hs
  simp only [List.size_toArray]
  lia
/-- tuples of a word, a row and a place -/
inductive TupAre : List (Addr × Obj) → List (List Nat × Int × Int) → Prop where
  | nil : TupAre [] []
  | cons (q : Addr) (u : List Nat) (i j : Int) (b1 b2 b3 : Tok) {Q : List (Addr × Obj)} {ds : List (List Nat × Int × Int)} : TupAre Q ds → TupAre ((q, tupOf [.str (S u) b1, .int i b2, .int j b3]) :: Q) ((u, i, j) :: ds)
theorem TupAre.length {Q : List (Addr × Obj)} {ds : List (List Nat × Int × Int)} (h : TupAre Q ds) : Q.length = ds.length := by
  induction h with
  | nil => rfl
  | cons _ _ _ _ _ _ _ _ ih => simp [ih]
theorem TupAre.append {Q R : List (Addr × Obj)} {ds es : List (List Nat × Int × Int)} (h : TupAre Q ds) (k : TupAre R es) : TupAre (Q ++ R) (ds ++ es) := by
  induction h with
  | nil => exact k
  | cons q u i j b1 b2 b3 _ ih => exact .cons q u i j b1 b2 b3 ih
def triD (d : List Nat × Int × Int) : PyData := .tuple [.str (S d.1), .int d.2.1, .int d.2.2]
theorem TupAre.reads {h : Heap} {Q H : List (Addr × Obj)} {ds : List (List Nat × Int × Int)} (k : TupAre Q ds) (N : News P L h H) (hs : Sub Q H) : ∃ as, ReadsAll h (Q.map fun p => Value.ref p.1) (ds.map triD) as := by
  induction k with
  | nil => exact ⟨_, .nil⟩
  | cons q u i j b1 b2 b3 _ ih =>
    obtain ⟨as, ra⟩ := ih fun p hp => hs p (.tail _ hp)
    exact ⟨_, .cons (reads_tuple_at (N _ (hs _ (.head _))).1 rfl rfl (.cons (.str _ _) (.cons (.int _ _) (.cons (.int _ _) .nil)))) ra⟩
theorem tri_eqv : ∀ ds : List (List Nat × Int × Int), PyData.eqvAll (ds.map triD) (ds.map triD) = true
  | [] => by simp [PyData.eqvAll]
  | d :: ds => by simp [PyData.eqvAll, PyData.eqv, triD, tri_eqv ds]
theorem tri_lay : ∀ ds : List (List Nat × Int × Int), (∀ d ∈ ds, PyData.strOk (S d.1) = true) → PyData.canLayAll0 (ds.map triD) = true ∧ PyData.depthAll (ds.map triD) ≤ 1
  | [], _ => by simp [PyData.canLayAll0, PyData.depthAll]
  | d :: ds, h => by
    obtain ⟨a, b⟩ := tri_lay ds fun x hx => h x (.tail _ hx)
    simp [PyData.canLayAll0, PyData.canLay0, PyData.depthAll, PyData.depth, triD, a, h d (.head _)]
    lia
theorem tri_shaped (ds : List (List Nat × Int × Int)) (h : ∀ d ∈ ds, PyData.strOk (S d.1) = true) : SeqAt.shaped (.list (ds.map triD)) = true := by
  obtain ⟨a, b⟩ := tri_lay ds h
  simp [SeqAt.shaped, PyData.canLay0, PyData.depth, a]
  lia
/-- two lists of like tuples -/
theorem ne_told {D K : Addr} {n1 n2 : Nat} {Q R H : List (Addr × Obj)} {ds : List (List Nat × Int × Int)} {Qv : Value → Shared → Prop} (N : News P L s.heap H) (hD : (D, listOf (Q.map fun p => Value.ref p.1).toArray n1) ∈ H) (hK : (K, listOf (R.map fun p => Value.ref p.1).toArray n2) ∈ H)
    (hQ : TupAre Q ds) (hR : TupAre R ds) (sQ : Sub Q H) (sR : Sub R H) (hok : ∀ d ∈ ds, PyData.strOk (S d.1) = true) (hu : A.units + 64 < cLine) (h : Qv (.bool false) s) : wpAny (model PR w) A (compareOp .NotEq (.ref D) (.ref K)) Qv E s := by
  obtain ⟨as, ra⟩ := hQ.reads N sQ
  obtain ⟨bs, rb⟩ := hR.reads N sR
  refine ne_dataH (reads_list_at (News.get N hD) rfl rfl (by simpa using ra)) (reads_list_at (News.get N hK) rfl rfl (by simpa using rb)) (tri_shaped ds hok) (tri_shaped ds hok) hu ?_
  have e : PyData.eqv (.list (ds.map triD)) (.list (ds.map triD)) = true := by rw [PyData.eqv]; exact tri_eqv ds
  rw [e]
  exact h
end
theorem LoopEnd.next2 {P : Heap} {L : Addr} {s s' : Shared} {own own2 : Addr × Obj} {H : List (Addr × Obj)} {m : Str → Option Value} {J : (Str → Option Value) → List (Addr × Obj) → Prop} {Q : Flow → Shared → Prop} (k : Like s s') (F : Fr P L s'.heap m) (N : News P L s'.heap (own :: own2 :: H)) (h : ∀ p ∈ H, p.1 ≠ own.1 ∧ p.1 ≠ own2.1) (j : J m H) :
    LoopEnd P L s [own, own2] J Q .next s' := by
  refine ⟨m, H, k, F, N, fun p hp q hq => ?_, j⟩
  simp only [List.mem_cons, List.not_mem_nil, or_false] at hq
  rcases hq with rfl | rfl
  · exact (h p hp).1
  · exact (h p hp).2
/-- what the frame holds behind both files -/
structure Com7 (l R R' : Addr) (w0 w1 T1 T2 : List Nat) (a0 a1 tk tk' : Tok) (m : Str → Option Value) : Prop where
  script : m "script" = some (.ref l)
  u : m "u" = some (.str (S w0) a0)
  v : m "v" = some (.str (S w1) a1)
  one : m "one" = some (.str (S T1) tk)
  oneDue : m "one_due" = some (.ref R)
  two : m "two" = some (.str (S T2) tk')
  twoDue : m "two_due" = some (.ref R')
/-- what the frame holds behind the lexers -/
structure Com (x1 x2 : LexA) (l R R' : Addr) (w0 w1 T1 T2 : List Nat) (a0 a1 tk tk' : Tok) (m : Str → Option Value) : Prop where
  script : m "script" = some (.ref l)
  u : m "u" = some (.str (S w0) a0)
  v : m "v" = some (.str (S w1) a1)
  one : m "one" = some (.str (S T1) tk)
  oneDue : m "one_due" = some (.ref R)
  two : m "two" = some (.str (S T2) tk')
  twoDue : m "two_due" = some (.ref R')
  ones : m "ones" = some (.ref x1.sg)
  twos : m "twos" = some (.ref x2.sg)
  first : m "first" = some (.ref x1.x)
  second : m "second" = some (.ref x2.x)
abbrev Obj0 : Obj := tupOf []
/-- a step of lexer 1 in a frame -/
theorem step_1 {A : Around} {P : Heap} {L : Addr} {s z : Shared} {m : Str → Option Value} {Qv : Value → Shared → Prop} {E : Value → Shared → Prop} {a1 a2 : LexA} {c' : Addr} {oc : Obj} {l1 : Int} {t1 : Tok} {v1 : List Value} {e1 : Nat} {f1 : Nat} {l2 : Int} {t2 : Tok} {v2 : List Value} {e2 : Nat} {p2 : List Value} {f2 : Nat} {F Y : List (Addr × Obj)}
    {rem wd rest : List Nat} {size : Int} {ts : Tok} {ln n : Int} (T : Two w a1 a2 c' oc) (r : Rm A 10) (G : Gd w P) (Fm : Fr P L s.heap m) (N : News P L s.heap (F ++ TwoH w a1 a2 c' oc l1 t1 v1 e1 [] f1 l2 t2 v2 e2 p2 f2 Y)) (y : Yap a1 a2 c' (F ++ Y))
    (hs : Sg v1 rem.reverse) (hr : rem.length ≤ 1000) (hl : 0 ≤ l1 ∧ l1 ≤ 1000) (hk : tokF rem = (wd, rest)) (hc : l1 + cnt rem = ln + cnt rest) (hz : size - (rest.length : Nat) = n) (lz : Like z s)
    (h : ∀ qn t' v' e' b1 b2 b3 s', Sg v' rest.reverse → Like z s' → Fr P L s'.heap m → News P L s'.heap ((qn, tupOf [.str (S wd) b1, .int ln b2, .int n b3]) :: (F ++ TwoH w a1 a2 c' oc ln t' v' e' [] f1 l2 t2 v2 e2 p2 f2 Y)) → Yap a1 a2 c' [(qn, Obj0)] → (∀ p ∈ F, p.1 ≠ qn) → (∀ p ∈ Y, p.1 ≠ qn) → Qv (.ref qn) s') :
    wpAny (model PR w) A (call (.ref 98) [.ref a1.x, .ref a1.sg, .int size ts]) Qv E s := by
  refine call_1 (X := []) (Y := F ++ Y) T (step_s (line := l1) (t1 := t1) (vs := v1) (e2 := e1) (e3 := f1) (rem := rem) T.ok1 hs hr hl) r G Fm (subN N (two_in (X := F) (Y := Y))) y (fun _ _ _ hq => (nomatch hq)) lz ?_
  rintro v H' s' ⟨ln', t', v', e', qn, rfl, hs', hcnt, b1, b2, b3, rfl, hqn⟩ l' F' N' ap
  rw [hk] at hs' hcnt N' ap
  dsimp only at hs' hcnt N' ap
  have hln : ln' = ln := by lia
  subst hln
  rw [hz] at N' ap
  have hq := fun p hp => ap _ (.head _) p hp
  refine h qn t' v' e' b1 b2 b3 s' hs' l' F' (subN N' fun p hp => two_1 T (X := [(qn, tupOf [.str (S wd) b1, .int ln' b2, .int n b3])]) p ?_) (yap_1 T hqn fun p hp => hq p (List.mem_append_left _ hp)) (fun p hp => (hq p (List.mem_append_right _ (List.mem_append_left _ hp))).symm) (fun p hp => (hq p (List.mem_append_right _ (List.mem_append_right _ hp))).symm)
  rcases List.mem_cons.mp hp with rfl | hp
  · exact .head _
  · exact .tail _ (two_out (X := F) _ hp)
/-- a step of lexer 2 in a frame -/
theorem step_2 {A : Around} {P : Heap} {L : Addr} {s z : Shared} {m : Str → Option Value} {Qv : Value → Shared → Prop} {E : Value → Shared → Prop} {a1 a2 : LexA} {c' : Addr} {oc : Obj} {l1 : Int} {t1 : Tok} {v1 : List Value} {e1 : Nat} {p1 : List Value} {f1 : Nat} {l2 : Int} {t2 : Tok} {v2 : List Value} {e2 : Nat} {f2 : Nat} {F Y : List (Addr × Obj)}
    {rem wd rest : List Nat} {size : Int} {ts : Tok} {ln n : Int} (T : Two w a1 a2 c' oc) (r : Rm A 10) (G : Gd w P) (Fm : Fr P L s.heap m) (N : News P L s.heap (F ++ TwoH w a1 a2 c' oc l1 t1 v1 e1 p1 f1 l2 t2 v2 e2 [] f2 Y)) (y : Yap a1 a2 c' (F ++ Y))
    (hs : Sg v2 rem.reverse) (hr : rem.length ≤ 1000) (hl : 0 ≤ l2 ∧ l2 ≤ 1000) (hk : tokF rem = (wd, rest)) (hc : l2 + cnt rem = ln + cnt rest) (hz : size - (rest.length : Nat) = n) (lz : Like z s)
    (h : ∀ qn t' v' e' b1 b2 b3 s', Sg v' rest.reverse → Like z s' → Fr P L s'.heap m → News P L s'.heap ((qn, tupOf [.str (S wd) b1, .int ln b2, .int n b3]) :: (F ++ TwoH w a1 a2 c' oc l1 t1 v1 e1 p1 f1 ln t' v' e' [] f2 Y)) → Yap a1 a2 c' [(qn, Obj0)] → (∀ p ∈ F, p.1 ≠ qn) → (∀ p ∈ Y, p.1 ≠ qn) → Qv (.ref qn) s') :
    wpAny (model PR w) A (call (.ref 98) [.ref a2.x, .ref a2.sg, .int size ts]) Qv E s := by
  refine call_2 (X := []) (Y := F ++ Y) T (step_s (line := l2) (t1 := t2) (vs := v2) (e2 := e2) (e3 := f2) (rem := rem) T.ok2 hs hr hl) r G Fm (subN N (two_in (X := F) (Y := Y))) y (fun _ _ _ hq => (nomatch hq)) lz ?_
  rintro v H' s' ⟨ln', t', v', e', qn, rfl, hs', hcnt, b1, b2, b3, rfl, hqn⟩ l' F' N' ap
  rw [hk] at hs' hcnt N' ap
  dsimp only at hs' hcnt N' ap
  have hln : ln' = ln := by lia
  subst hln
  rw [hz] at N' ap
  have hq := fun p hp => ap _ (.head _) p hp
  refine h qn t' v' e' b1 b2 b3 s' hs' l' F' (subN N' fun p hp => two_2 T (X := [(qn, tupOf [.str (S wd) b1, .int ln' b2, .int n b3])]) p ?_) (yap_2 T hqn fun p hp => hq p (List.mem_append_left _ hp)) (fun p hp => (hq p (List.mem_append_right _ (List.mem_append_left _ hp))).symm) (fun p hp => (hq p (List.mem_append_right _ (List.mem_append_right _ hp))).symm)
  rcases List.mem_cons.mp hp with rfl | hp
  · exact .head _
  · exact .tail _ (two_out (X := F) _ hp)
theorem sub_q {q a b c : Addr × Obj} {Q W : List (Addr × Obj)} : Sub (a :: b :: c :: ((Q ++ [q]) ++ W)) (q :: a :: b :: c :: (Q ++ W)) := by
  intro p hp
  simp only [List.mem_cons, List.mem_append, List.not_mem_nil, or_false] at hp ⊢
  rcases hp with h | h | h | (h | h) | h
  · exact .inr (.inl h)
  · exact .inr (.inr (.inl h))
  · exact .inr (.inr (.inr (.inl h)))
  · exact .inr (.inr (.inr (.inr (.inl h))))
  · exact .inl h
  · exact .inr (.inr (.inr (.inr (.inr h))))
end
section
local macro_rules | `(tactic| walk_at "setItem ref int") => `(tactic| (refine' ll_set ?k1 ?k2 ?k3 ?k4 ?k5 ?k6 ?_; (case k1 => assumption); (case k2 => assumption); (case k3 => walk_at "m upd"); (case k4 => lia); (case k5 => first | (simp only [List.length_cons, List.length_nil]; lia) | (simp; done)); (case k6 => lia); intro h' F' N'; (try k_sweep)))
theorem regk5 : True := by
  k_with "eval Name" => k_dflt (refine nameX_B (by assumption) (by assumption) (by exact topRead_of (by assumption)) (by k_is) (by boot_by_name) (by decide) ?_; k_whole)
  k_with "compareOp NotEq ref ref" => refine halt ?_
  k_with "subscriptTail" => ((with_reducible show wpAny _ _ (subscriptTail _ _ (Value.ref _) (Value.ref _)) _ _ _); refine halt ?_)
  k_with "getItem ref int" => refine ll_item (by assumption) (by k_mem) (by rw [(by assumption : Int.fmod (_ : Int) 2 = _)]; decide) (by rw [(by assumption : Int.fmod (_ : Int) 2 = _)]; rfl) ?_
  k_with "subscriptTail Name BinOp ref int" => refine ll_sub (by assumption) (by k_mem) (by rw [(by assumption : Int.fmod (_ : Int) 2 = _)]; decide) (by rw [(by assumption : Int.fmod (_ : Int) 2 = _)]; rfl) ?_ (by with_unfolding_all rfl)
  trivial
theorem fmod16 (a : Int) : 0 ≤ a.fmod 16 ∧ a.fmod 16 < 16 := fmod_b a 16 (by decide)
theorem lit_alpha : Str.ofString "aAbB\"\\|'#\x0c\x0b\n\t\r " = S alpha := by decide +kernel
theorem alpha_at {A : Around} {E : Value → Shared → Prop} {s : Shared} {t u : Tok} {value slice : Expr} {i : Int} {Q : Value → Shared → Prop} (h0 : 0 ≤ i) (h1 : i < 15) (h : Q (.str (S [alpha.getD i.toNat 0]) s.toks) { s with toks := s.toks + 1 })
    (hs : subscripted slice false (.str (S alpha) t) (.int i u) = operate [.str (S alpha) t, .int i u] (getItem (.str (S alpha) t) (.int i u)) := by with_unfolding_all rfl)
    (ht : ∀ r, letTemporaryGo value (.str (S alpha) t) r = pure () := by intro _; with_unfolding_all rfl) :
    wpAny (model PR w) A (subscriptTail value slice (.str (Str.ofString "aAbB\"\\|'#\x0c\x0b\n\t\r ") t) (.int i u)) Q E s := by
  rw [lit_alpha]
  exact it_nat h0 (by show i < (15 : Nat); lia) (by decide) h hs ht
theorem regk6 : True := by
  k_with "subscriptTail" => ((with_reducible show wpAny _ _ (subscriptTail _ _ (Value.str (Str.ofString _) _) (Value.int (Int.fmod _ 16) _)) _ _ _); refine alpha_at (fmod16 _).1 (by assumption) ?_)
  k_with "subscriptTail Name Constant ref int" => refine ll_sub (by assumption) (by k_mem) (by decide) (by assumption) ?_ (by with_unfolding_all rfl)
  k_with "subscriptTail Name UnaryOp ref int" => refine ll_last (by assumption) (by k_mem) (by assumption) (by assumption) ?_ (by with_unfolding_all rfl)
  k_with "call type:list" => ((with_reducible show wpAny _ _ (call (Value.type _) [Value.str _ _]) _ _ _); (refine list_S (by walk_at "LK") (Rm.hh (by assumption)) (by assumption) (by assumption) (by lia) ?_; intro _ _ _ _ _ _ _ _ _))
  k_with "assign Tuple" => ((with_reducible show wpAny _ _ (assign (Expr.Tuple _ _ _) _ (Value.ref _)) _ _ _); (first | refine kun_list (by assumption) (by assumption) (News.isList (by assumption) (by k_mem)) (Rm.hh (by assumption)) (by exact rfl) (by exact rfl) ?_ | refine unpackN_ (by assumption) (by assumption) (News.isTup (by assumption) (by k_mem)) (Rm.hh (by assumption)) (by exact rfl) (by exact rfl) ?_); walk_at "i3")
  k_with "subscriptTail" => ((with_reducible show wpAny _ _ (subscriptTail _ _ (Value.ref _) (Value.int _ _)) _ _ _); refine tup_sub (by assumption) (by k_mem) (by decide) rfl ?_ (by with_unfolding_all rfl))
  trivial
/-- the script as drawn -/
def dflt : List Int := [1168, 33, 1, 19, 34, 6660]
def drawnOf (nums : List Int) : List Int := (if nums = [] then dflt else nums).take 8
def signOf (d : Int) : List Nat := [alpha.getD (d.fmod 16).toNat 0]
/-- the words and figures that k numbers draw -/
def drw (dn : List Int) : Nat → (List Nat × List Nat) × (List Int × List Int)
  | 0 => (([], []), ([], []))
  | k + 1 =>
    let st := drw dn k
    let d := dn.getD k 0
    if d.fmod 16 < 15 then
      if k % 2 = 0 then ((st.1.1 ++ signOf d, st.1.2), (st.2.1 ++ [d.fdiv 16], st.2.2)) else ((st.1.1, st.1.2 ++ signOf d), (st.2.1, st.2.2 ++ [d.fdiv 16]))
    else st
theorem drw_len (dn : List Int) : ∀ k, (drw dn k).1.1.length ≤ k ∧ (drw dn k).1.2.length ≤ k ∧ (drw dn k).2.1.length = (drw dn k).1.1.length ∧ (drw dn k).2.2.length = (drw dn k).1.2.length
  | 0 => ⟨Nat.le_refl _, Nat.le_refl _, rfl, rfl⟩
  | k + 1 => by
    obtain ⟨a, b, c, d⟩ := drw_len dn k
    simp only [drw]
    split
    · split <;> simp only [List.length_append, signOf, List.length_cons, List.length_nil] <;> lia
    · lia
theorem sign_alpha {d : Int} (h : d.fmod 16 < 15) : ∀ x ∈ signOf d, x ∈ alpha := by
  intro x hx
  rw [List.mem_singleton.mp hx]
  have h0 := (fmod16 d).1
  have hl : (d.fmod 16).toNat < alpha.length := by show _ < (15 : Nat); lia
  rw [List.getD_eq_getElem?_getD, List.getElem?_eq_getElem hl]
  exact List.getElem_mem hl
theorem drw_alpha (dn : List Int) : ∀ k, (∀ x ∈ (drw dn k).1.1, x ∈ alpha) ∧ (∀ x ∈ (drw dn k).1.2, x ∈ alpha)
  | 0 => ⟨fun _ h => (nomatch h), fun _ h => (nomatch h)⟩
  | k + 1 => by
    obtain ⟨a, b⟩ := drw_alpha dn k
    simp only [drw]
    split
    · rename_i h
      have hs := sign_alpha h
      split
      · exact ⟨fun x hx => (List.mem_append.mp hx).elim (a x) (hs x), b⟩
      · exact ⟨a, fun x hx => (List.mem_append.mp hx).elim (b x) (hs x)⟩
    · exact ⟨a, b⟩
theorem drw_0 {dn : List Int} {k : Nat} (h : (dn.getD k 0).fmod 16 < 15) (hk : k % 2 = 0) : drw dn (k + 1) = (((drw dn k).1.1 ++ signOf (dn.getD k 0), (drw dn k).1.2), ((drw dn k).2.1 ++ [(dn.getD k 0).fdiv 16], (drw dn k).2.2)) := by
  simp only [drw, if_pos h, if_pos hk]
theorem drw_1 {dn : List Int} {k : Nat} (h : (dn.getD k 0).fmod 16 < 15) (hk : ¬ k % 2 = 0) : drw dn (k + 1) = (((drw dn k).1.1, (drw dn k).1.2 ++ signOf (dn.getD k 0)), ((drw dn k).2.1, (drw dn k).2.2 ++ [(dn.getD k 0).fdiv 16])) := by
  simp only [drw, if_pos h, if_neg hk]
theorem drw_n {dn : List Int} {k : Nat} (h : ¬ (dn.getD k 0).fmod 16 < 15) : drw dn (k + 1) = drw dn k := by
  simp only [drw, if_neg h]
theorem ints_at {vs : List Value} {ns : List Int} (h : IntsAre vs ns) : ∀ {i : Nat} {v : Value}, vs[i]? = some v → ∃ x t, ns[i]? = some x ∧ v = .int x t := by
  induction h with
  | nil => intro i v hv; cases hv
  | cons n t _ ih =>
    intro i v hv
    cases i with
    | zero => cases hv; exact ⟨n, t, rfl, rfl⟩
    | succ i => exact ih (by simpa using hv)
theorem ints_snoc {ys : List Value} {sl : List Int} {i : Nat} {x : Int} {f : Int → Int} (h : IntsAre ys ((sl.take i).map f)) (hx : sl[i]? = some x) (t : Tok) : IntsAre (ys ++ [.int (f x) t]) ((sl.take (i + 1)).map f) := by
  rw [List.take_add_one, hx, List.map_append]
  exact h.append (.cons _ t .nil)
theorem ftext_len (mix : Int) (w0 w1 : List Nat) (sl0 sl1 : List Int) (h0 : w0.length ≤ 8) (h1 : w1.length ≤ 8) : (ftext mix w0 w1 sl0 sl1).length ≤ 100 := by
  have a := part_len mix w0 sl0 0
  have b := part_len mix w1 sl1 1
  have c := fmod3 (mix.fdiv 4)
  unfold ftext
  split
  · rw [List.length_append, List.length_take, List.length_replicate]
    unfold ftext1 fcut
    rw [List.length_append]
    lia
  · unfold ftext1
    rw [List.length_append]
    lia
/-- what a file tells -/
structure Rd (T U R w0 w1 : List Nat) : Prop where
  one : tokF T = (w0, R)
  cut : T = U ++ R
  two : tokF R = (w1, [])
  len : T.length ≤ 100
theorem Rd.cnts {T U R w0 w1 : List Nat} (h : Rd T U R w0 w1) : cnt T = cnt U + cnt R := by rw [h.cut, cnt_app]
theorem Rd.sz {T U R w0 w1 : List Nat} (h : Rd T U R w0 w1) : (T.length : Int) - (R.length : Nat) = (U.length : Nat) := by
  have e := congrArg List.length h.cut
  rw [List.length_append] at e
  lia
theorem rd_ftext (mix : Int) (w0 w1 : List Nat) (sl0 sl1 : List Int) (h0 : w0.length ≤ 8) (h1 : w1.length ≤ 8) : ∃ R, Rd (ftext mix w0 w1 sl0 sl1) (part mix w0 sl0 0) R w0 w1 := by
  obtain ⟨R, a, b, c⟩ := ftext_tok mix w0 w1 sl0 sl1
  exact ⟨R, a, b, c, ftext_len _ _ _ _ _ h0 h1⟩
/-- what a file shall be read as, by its text -/
abbrev dueG (R q0 q1 q2 : Addr) (e : Nat) (b1 b2 b3 b4 b5 b6 b7 b8 b9 : Tok) (T U w0 w1 : List Nat) : List (Addr × Obj) :=
  [(R, listOf [.ref q0, .ref q1, .ref q2].toArray e), (q0, tupOf [.str (S w0) b1, .int (1 + cnt U) b2, .int U.length b3]),
   (q1, tupOf [.str (S w1) b4, .int (1 + cnt T) b5, .int T.length b6]), (q2, tupOf [.str (S []) b7, .int (1 + cnt T) b8, .int T.length b9])]
/-- behind the first word: what remains, what is read, which row -/
def rk (R : List Nat) (k : Nat) : List Nat := if k = 0 then R else []
def wk (u : List Nat) (k : Nat) : List Nat := if k = 0 then u else []
def lk (U T : List Nat) (k : Nat) : Int := if k = 0 then 1 + cnt U else 1 + cnt T
def dsK (w0 w1 U1 T1 U2 T2 : List Nat) : Nat → List (List Nat × Int × Int)
  | 0 => [(w1, 1 + cnt U2, (U2.length : Int)), (w0, 1 + cnt U1, (U1.length : Int))]
  | k + 1 => dsK w0 w1 U1 T1 U2 T2 k ++ [(wk w0 k, 1 + cnt T2, (T2.length : Int)), (wk w1 k, 1 + cnt T1, (T1.length : Int))]
theorem dsK_len (w0 w1 U1 T1 U2 T2 : List Nat) : ∀ k, (dsK w0 w1 U1 T1 U2 T2 k).length = 2 * k + 2
  | 0 => rfl
  | k + 1 => by rw [dsK, List.length_append, dsK_len]; simp; lia
theorem rd_k {T U R w0 w1 : List Nat} (rd : Rd T U R w0 w1) (k : Nat) : tokF (rk R k) = (wk w1 k, []) ∧ lk U T k + cnt (rk R k) = 1 + cnt T ∧ (rk R k).length ≤ 100 ∧ 0 ≤ lk U T k ∧ lk U T k ≤ 1000 := by
  have e := rd.cut
  have hl := rd.len
  have e2 : cnt T = cnt U + cnt R := by rw [e, cnt_app]
  have e3 := cnt_le T
  have e4 := cnt_nonneg U
  have e5 := cnt_nonneg R
  have e6 : U.length + R.length = T.length := by rw [e, List.length_append]
  unfold rk wk lk
  split
  · exact ⟨rd.two, by lia, by lia, by lia, by lia⟩
  · refine ⟨by rw [tokF], ?_, by simp, by lia, by lia⟩
    have : cnt [] = 0 := rfl
    lia
theorem ok_S {u : List Nat} (h : ∀ x ∈ u, x ∈ alpha) : PyData.strOk (S u) = true := by
  have hb : ∀ x ∈ alpha, x < 0x110000 := by decide
  unfold PyData.strOk S
  simp only [List.all_toArray, List.all_eq_true, decide_eq_true_eq]
  exact fun x hx => hb x (h x hx)
theorem ds_ok {w0 w1 U1 T1 U2 T2 : List Nat} (h0 : ∀ x ∈ w0, x ∈ alpha) (h1 : ∀ x ∈ w1, x ∈ alpha) : ∀ k, ∀ d ∈ dsK w0 w1 U1 T1 U2 T2 k, PyData.strOk (S d.1) = true
  | 0, d, hd => by
    simp only [dsK, List.mem_cons, List.not_mem_nil, or_false] at hd
    rcases hd with rfl | rfl
    · exact ok_S h1
    · exact ok_S h0
  | k + 1, d, hd => by
    have hw : ∀ u : List Nat, (∀ x ∈ u, x ∈ alpha) → PyData.strOk (S (wk u k)) = true := fun u hu => by
      unfold wk
      split
      · exact ok_S hu
      · exact ok_S fun _ h => (nomatch h)
    rcases List.mem_append.mp hd with hd | hd
    · exact ds_ok h0 h1 k d hd
    · simp only [List.mem_cons, List.not_mem_nil, or_false] at hd
      rcases hd with rfl | rfl
      · exact hw _ h0
      · exact hw _ h1
theorem filt_yes {ys : List Value} {es : List Int} {q : Nat} {x c : Int} (h : IntsAre ys ((es.take q).filter fun x => decide (c ≤ x))) (hx : es[q]? = some x) (hc : c ≤ x) (t : Tok) : IntsAre (ys ++ [.int x t]) ((es.take (q + 1)).filter fun x => decide (c ≤ x)) := by
  rw [List.take_add_one, hx, List.filter_append]
  simp only [Option.toList_some, List.filter_cons, List.filter_nil, decide_eq_true hc, if_true]
  exact h.append (.cons x t .nil)
theorem filt_no {ys : List Value} {es : List Int} {q : Nat} {x c : Int} (h : IntsAre ys ((es.take q).filter fun x => decide (c ≤ x))) (hx : es[q]? = some x) (hc : ¬ c ≤ x) : IntsAre ys ((es.take (q + 1)).filter fun x => decide (c ≤ x)) := by
  rw [List.take_add_one, hx, List.filter_append]
  simp only [Option.toList_some, List.filter_cons, List.filter_nil, decide_eq_false hc, Bool.false_eq_true, if_false, List.append_nil]
  exact h
/-- what a file shall be read as -/
abbrev dueL (R q0 q1 q2 : Addr) (e : Nat) (b1 b2 b3 b4 b5 b6 b7 b8 b9 : Tok) (mix : Int) (w0 w1 : List Nat) (sl0 sl1 : List Int) : List (Addr × Obj) :=
  [(R, listOf [.ref q0, .ref q1, .ref q2].toArray e), (q0, tupOf [.str (S w0) b1, .int (1 + cnt (part mix w0 sl0 0)) b2, .int (part mix w0 sl0 0).length b3]),
   (q1, tupOf [.str (S w1) b4, .int (1 + cnt (ftext mix w0 w1 sl0 sl1)) b5, .int (ftext mix w0 w1 sl0 sl1).length b6]),
   (q2, tupOf [.str (S []) b7, .int (1 + cnt (ftext mix w0 w1 sl0 sl1)) b8, .int (ftext mix w0 w1 sl0 sl1).length b9])]
/-- four addresses apart -/
def DrwAp (a b c d : Addr) : Prop := (a ≠ b ∧ a ≠ c ∧ a ≠ d) ∧ (b ≠ c ∧ b ≠ d) ∧ c ≠ d
theorem run_s {l : Addr} {vs : List Value} {nums : List Int} (hI : IntsAre vs nums) (h63 : nums.length ≤ 63) : SpecK w 60 (.ref 122) [.ref l] (fun P => P.IsList l vs.toArray) [(72, tabObj #[])] (fun v H' => v = .bool true ∧ ∃ c' oc vs1 tq H₂, oc.data = .fields vs1 ∧ vs1[1]? = some (.str lqual tq) ∧ c' ≠ 72 ∧ H' = (72, tabObj (ltab c')) :: (c', oc) :: H₂) := by
  walk_at "m fill"
  refine' spec_defKC [("script", .ref l)] ?k1 ?k2 ?k3 ?k4 ?k5 ?k6 ?c1 ?c2 ?c3
  walk_at "m enterC"
  intro A P L s z cells p loose mean mg mb r G kp lz X T F N CA hL K0 hK0
  obtain ⟨ci, rfl, hci⟩ := CellsAre.one CA
  have hci' : ci.data = .cell none := hci
  have c72 : L + 1 ≠ 72 := Nat.ne_of_gt (Nat.lt_succ_of_lt (hL _ (.head _)))
  (try k_fold)
  refine cut P L (s₀ := z) (by walk_at "LK") (fun m H => m "script" = some (.ref l) ∧ ∃ Dr dvs e, m "drawn" = some (.ref Dr) ∧ IntsAre dvs (drawnOf nums) ∧ H = [(Dr, listOf dvs.toArray e), (L + 1, ci), (72, tabObj #[])]) ?_ ?_
  · intro K1 hK1
    have hun : A.units + 64 < cLine := by have := r.un; unfold cLine; lia
    walk_at "m go"
    obtain ⟨oS, hoS, rS⟩ := kp
    refine ⟨ne_intsK (ns := nums) (ms := []) ⟨oS, Fr.keep (by assumption) _ _ hoS, rS⟩ hI (⟨_, News.get (by assumption) (.head _), rfl, _, rfl⟩) .nil hun ?_⟩
    walk_at "m go"
    · refine ⟨ll_to (vs := vs) ⟨oS, Fr.keep (by assumption) _ _ hoS, rS⟩ (by decide) (by have := hI.length; lia) (by assumption) (by assumption) ?_⟩
      intro R h' F' N' nR
      k_sweep
      walk_at "m go"
      have hne : ¬ nums = [] := by assumption
      exact ⟨⟨_, (Sub.consm (.head _) (Sub.rfl'.tail.tail)), rfl, R, _, 0, rfl, by unfold drawnOf; rw [if_neg hne]; exact hI.take 8, rfl⟩⟩
    · refine ⟨ll_to (vs := [_, _, _, _, _, _]) ⟨_, News.get (by assumption) (.head _), rfl, _, rfl⟩ (by decide) (by simp) (by assumption) (by assumption) ?_⟩
      intro R h' F' N' nR
      k_sweep
      walk_at "m go"
      have hne : nums = [] := by first | assumption | exact Classical.not_not.mp (by assumption)
      exact ⟨⟨_, (Sub.consm (.head _) (Sub.rfl'.tail.tail.tail)), rfl, R, _, 0, rfl, by unfold drawnOf; rw [if_pos hne]; exact .cons _ _ (.cons _ _ (.cons _ _ (.cons _ _ (.cons _ _ (.cons _ _ .nil))))), rfl⟩⟩
  rintro s₁ m' H' l₁ ⟨j1, Dr, dvs, ed, j2, hD, rfl⟩ F₁ N₁
  have hdl : (drawnOf nums).length ≤ 8 := by unfold drawnOf; rw [List.length_take]; lia
  have hd1 : (drawnOf nums).length ≠ 0 := by
    unfold drawnOf
    rw [List.length_take]
    split
    · decide
    · rename_i h
      have := mt List.length_eq_zero_iff.mp h
      lia
  generalize drawnOf nums = dn at hD hdl hd1
  have hdv := hD.length
  obtain ⟨t0, hd0⟩ := ints_get hD (i := 0) (by lia)
  obtain ⟨tz, hdz⟩ := ints_get hD (i := dn.length - 1) (by lia)
  replace hd0 : dvs[Int.toNat 0]? = some (.int (dn.getD 0 0) t0) := hd0
  rw [← hdv] at hdz
  have hd2 : dvs.length ≠ 0 := by lia
  generalize dn.getD (dvs.length - 1) 0 = dz at hdz
  k_sweep
  refine cut P L (s₀ := z) (by walk_at "LK") (fun m H => m "script" = some (.ref l) ∧ m "drawn" = some (.ref Dr) ∧ ∃ W1 W2 D0 D1 a0 a1, m "words" = some (.ref W1) ∧ m "slashes" = some (.ref W2) ∧ DrwAp W1 W2 D0 D1 ∧
     (∀ p ∈ [(W1, ()), (W2, ()), (D0, ()), (D1, ())], p.1 ≠ Dr ∧ p.1 ≠ L + 1 ∧ p.1 ≠ 72) ∧
     H = FIn W1 W2 D0 D1 [] [] a0 a1 0 0 0 0 [] [] ++ [(Dr, listOf dvs.toArray ed), (L + 1, ci), (72, tabObj #[])]) ?_ ?_
  · intro K1 hK1
    walk_at "m go"
    rename_i W1 _ A1 D0 _ B1 D1 _ C1 W2 _ E1 D' _ nD _ _ _ _ _
    refine ⟨⟨_, (Sub.consm (.tail _ (.tail _ (.tail _ (.tail _ (.head _))))) (Sub.consm (.tail _ (.head _)) (Sub.consm (.tail _ (.tail _ (.tail _ (.head _)))) (Sub.consm (.tail _ (.tail _ (.head _))) (Sub.consm (.tail _ (.tail _ (.tail _ (.tail _ (.tail _ (.head _)))))) (Sub.consm (.tail _ (.tail _ (.tail _ (.tail _ (.tail _ (.tail _ (.head _))))))) (Sub.consm (.tail _ (.tail _ (.tail _ (.tail _ (.tail _ (.tail _ (.tail _ (.head _)))))))) Sub.nil))))))), j1, j2, W1, W2, D0, D1, _, _, rfl, rfl, ⟨⟨Nat.ne_of_lt E1.2.2.1, Nat.ne_of_lt B1.1, Nat.ne_of_lt C1.2.1⟩, ⟨Nat.ne_of_gt E1.2.1, Nat.ne_of_gt E1.1⟩, Nat.ne_of_lt C1.1⟩, ?_, rfl⟩⟩
    simp only [List.forall_mem_cons, List.not_mem_nil, false_implies, implies_true, and_true]
    exact ⟨⟨Nat.ne_of_gt A1.1, Nat.ne_of_gt A1.2.1, Nat.ne_of_gt A1.2.2⟩, ⟨Nat.ne_of_gt E1.2.2.2.1, Nat.ne_of_gt E1.2.2.2.2.1, Nat.ne_of_gt E1.2.2.2.2.2⟩, ⟨Nat.ne_of_gt B1.2.1, Nat.ne_of_gt B1.2.2.1, Nat.ne_of_gt B1.2.2.2⟩, ⟨Nat.ne_of_gt C1.2.2.1, Nat.ne_of_gt C1.2.2.2.1, Nat.ne_of_gt C1.2.2.2.2⟩⟩
  rintro s₂ m₂ H₂ l₂ ⟨j1, j2, W1, W2, D0, D1, a0, a1, j3, j4, ⟨⟨x0, x1, x2⟩, ⟨x3, x4⟩, x5⟩, hapD, rfl⟩ F₂ N₂
  simp only [List.forall_mem_cons, List.not_mem_nil, false_implies, implies_true, and_true] at hapD
  simp only [FIn, List.cons_append, List.nil_append] at N₂
  k_sweep
  refine cut P L (s₀ := z) (by walk_at "LK") (fun m H => m "script" = some (.ref l) ∧ m "drawn" = some (.ref Dr) ∧ m "words" = some (.ref W1) ∧ m "slashes" = some (.ref W2) ∧ ∃ a0 a1 f1 f2 g0 g1 vs0 vs1, IntsAre vs0 (drw dn dn.length).2.1 ∧ IntsAre vs1 (drw dn dn.length).2.2 ∧
     H = FIn W1 W2 D0 D1 (drw dn dn.length).1.1 (drw dn dn.length).1.2 a0 a1 f1 f2 g0 g1 vs0 vs1 ++ [(Dr, listOf dvs.toArray ed), (L + 1, ci), (72, tabObj #[])]) ?_ ?_
  · intro K1 hK1
    refine for_in ?_
    walk_at "m go"
    refine' ⟨loop_range (by assumption) r.hh rfl rfl (s₀ := z) (by walk_at "LK") (by lia) (by lia) (by lia) (by lia) (n := dn.length) (by lia) ?LF ?LN
      (fun k m H => k ≤ dn.length ∧ m "script" = some (.ref l) ∧ m "drawn" = some (.ref Dr) ∧ m "words" = some (.ref W1) ∧ m "slashes" = some (.ref W2) ∧ ∃ a0 a1 f1 f2 g0 g1 vs0 vs1, IntsAre vs0 (drw dn k).2.1 ∧ IntsAre vs1 (drw dn k).2.2 ∧
         H = FIn W1 W2 D0 D1 (drw dn k).1.1 (drw dn k).1.2 a0 a1 f1 f2 g0 g1 vs0 vs1 ++ [(Dr, listOf dvs.toArray ed), (L + 1, ci), (72, tabObj #[])]) ?LJ ?_ ?_⟩
    case LF => assumption
    case LN => assumption
    case LJ => exact ⟨Nat.zero_le _, j1, j2, j3, j4, a0, a1, 0, 0, 0, 0, [], [], .nil, .nil, rfl⟩
    · rintro k tv m₁ H₁ s₁ I io l₁ hk ⟨hkl, i1, i2, i3, i4, a0, a1, f1, f2, g0, g1, vs0, vs1, hv0, hv1, rfl⟩ ne F₁ N₁ K2 hK2
      have e0 : (0 : Int) + k = k := by lia
      rw [e0] at F₁
      simp only [FIn, List.cons_append, List.nil_append] at N₁
      have hdb := drw_len dn k
      have hpar : ((k : Int).fmod 2 = 0 ∧ k % 2 = 0) ∨ ((k : Int).fmod 2 = 1 ∧ ¬ k % 2 = 0) := by rw [Int.fmod_eq_emod_of_nonneg _ (by decide)]; lia
      obtain ⟨⟨p1, p2, p3⟩, ⟨p4, p5, p6⟩, ⟨p7, p8, p9⟩, ⟨p10, p11, p12⟩⟩ := hapD
      simp only [FIn, List.cons_append, List.nil_append, List.forall_mem_cons, List.not_mem_nil, false_implies, implies_true, and_true] at ne
      obtain ⟨n1, n2, n3, n4, n5, n6, n7⟩ := ne
      have hv0l := hv0.length
      have hv1l := hv1.length
      k_sweep
      rcases hpar with ⟨hp1, hp2⟩ | ⟨hp1, hp2⟩
      · walk_at "m go"
        · have hlt : (dn.getD k 0).fmod 16 < 15 := by assumption
          refine ⟨?_⟩
          rw [drw_0 hlt hp2]
          simp only [hp1, Int.toNat_natCast]
          exact ⟨_, Sub.rfl', (by simp only [List.forall_mem_cons, List.not_mem_nil, false_implies, implies_true, and_true]; exact ⟨n1, n2, n3, n4, n5, n6, n7⟩), hk, i1, i2, i3, i4, _, _, _, _, _, _, _, _, hv0.append (.cons _ _ .nil), hv1, rfl⟩
        · have hlt : ¬ (dn.getD k 0).fmod 16 < 15 := by assumption
          refine ⟨?_⟩
          rw [drw_n hlt]
          exact ⟨_, Sub.rfl', (by simp only [List.forall_mem_cons, List.not_mem_nil, false_implies, implies_true, and_true]; exact ⟨n1, n2, n3, n4, n5, n6, n7⟩), hk, i1, i2, i3, i4, a0, a1, f1, f2, g0, g1, vs0, vs1, hv0, hv1, rfl⟩
      · walk_at "m go"
        · have hlt : (dn.getD k 0).fmod 16 < 15 := by assumption
          refine ⟨?_⟩
          rw [drw_1 hlt hp2]
          simp only [hp1, Int.toNat_natCast]
          exact ⟨_, Sub.rfl', (by simp only [List.forall_mem_cons, List.not_mem_nil, false_implies, implies_true, and_true]; exact ⟨n1, n2, n3, n4, n5, n6, n7⟩), hk, i1, i2, i3, i4, _, _, _, _, _, _, _, _, hv0, hv1.append (.cons _ _ .nil), rfl⟩
        · have hlt : ¬ (dn.getD k 0).fmod 16 < 15 := by assumption
          refine ⟨?_⟩
          rw [drw_n hlt]
          exact ⟨_, Sub.rfl', (by simp only [List.forall_mem_cons, List.not_mem_nil, false_implies, implies_true, and_true]; exact ⟨n1, n2, n3, n4, n5, n6, n7⟩), hk, i1, i2, i3, i4, a0, a1, f1, f2, g0, g1, vs0, vs1, hv0, hv1, rfl⟩
    · rintro m₁ H₁ s₁ l₁ ⟨hkl, i1, i2, i3, i4, a0, a1, f1, f2, g0, g1, vs0, vs1, hv0, hv1, rfl⟩ F₁ N₁
      refine Imp2.go (by assumption) ?_; exact CutQ.next l₁ F₁ N₁ ⟨_, Sub.rfl', i1, i2, i3, i4, a0, a1, f1, f2, g0, g1, vs0, vs1, hv0, hv1, rfl⟩
  rintro s₃ m₃ H₃ l₃ ⟨j1, j2, j3, j4, a0, a1, f1, f2, g0, g1, vs0, vs1, hv0, hv1, rfl⟩ F₃ N₃
  simp only [FIn, List.cons_append, List.nil_append] at N₃
  obtain ⟨b0, b1, b2, b3⟩ := drw_len dn dn.length
  obtain ⟨al0, al1⟩ := drw_alpha dn dn.length
  generalize drw dn dn.length = dr at *
  obtain ⟨⟨w0, w1⟩, ⟨sl0, sl1⟩⟩ := dr
  dsimp only at b0 b1 b2 b3 al0 al1 hv0 hv1 N₃
  generalize dn.getD 0 0 = d0 at *
  replace b0 : w0.length ≤ 8 := by lia
  replace b1 : w1.length ≤ 8 := by lia
  obtain ⟨⟨p1, p2, p3⟩, ⟨p4, p5, p6⟩, ⟨p7, p8, p9⟩, ⟨p10, p11, p12⟩⟩ := hapD
  k_sweep
  refine cut P L (s₀ := z) (by walk_at "LK") (fun m H => m "script" = some (.ref l) ∧ m "drawn" = some (.ref Dr) ∧ m "slashes" = some (.ref W2) ∧ m "u" = some (.str (S w0) a0) ∧ m "v" = some (.str (S w1) a1) ∧
     H = [(W2, listOf [.ref D0, .ref D1].toArray f2), (D0, listOf vs0.toArray g0), (D1, listOf vs1.toArray g1), (Dr, listOf dvs.toArray ed), (L + 1, ci), (72, tabObj #[])]) ?_ ?_
  · intro K1 hK1
    walk_at "m go"
    exact ⟨⟨_, Sub.rfl'.tail, j1, j2, j4, rfl, rfl, rfl⟩⟩
  rintro s₄ m₄ H₄ l₄ ⟨j1, j2, j4, j5, j6, rfl⟩ F₄ N₄
  k_sweep
  refine cut P L (s₀ := z) (by walk_at "LK") (fun m H => m "script" = some (.ref l) ∧ m "drawn" = some (.ref Dr) ∧ m "slashes" = some (.ref W2) ∧ m "u" = some (.str (S w0) a0) ∧ m "v" = some (.str (S w1) a1) ∧
     ∃ mix tk R q0 q1 q2 e b1 b2 b3 b4 b5 b6 b7 b8 b9, m "one" = some (.str (S (ftext mix w0 w1 sl0 sl1)) tk) ∧ m "one_due" = some (.ref R) ∧
     H = dueL R q0 q1 q2 e b1 b2 b3 b4 b5 b6 b7 b8 b9 mix w0 w1 sl0 sl1 ++ [(W2, listOf [.ref D0, .ref D1].toArray f2), (D0, listOf vs0.toArray g0), (D1, listOf vs1.toArray g1), (Dr, listOf dvs.toArray ed), (L + 1, ci), (72, tabObj #[])]) ?_ ?_
  · intro K1 hK1
    walk_at "m go"
    rename_i W3 _ _ _ hW3 _
    refine ⟨call_spec (rest := [(Dr, listOf dvs.toArray ed), (L + 1, ci), (72, tabObj #[])]) (file_s (W1 := W3) (W2 := W2) (D0 := D0) (D1 := D1) (a0 := a0) (a1 := a1) (f1 := 0) (f2 := f2) (g0 := g0) (g1 := g1) hv0 hv1 b2 b3 (by lia) (by lia) (Nat.ne_of_gt hW3.2.1) (Nat.ne_of_gt hW3.2.2.1) x3 x4 x5) (Rm.le r (Nat.le_of_ble_eq_true rfl)) G (by assumption) (by assumption) (fun p hp => hp) ?_ (by walk_at "LK") ?_⟩
    · intro p hp q hq
      simp only [FIn, List.mem_cons, List.not_mem_nil, or_false] at hp hq
      rcases hp with rfl | rfl | rfl <;> rcases hq with rfl | rfl | rfl | rfl
      · exact Nat.ne_of_lt hW3.2.2.2.1
      · exact p4.symm
      · exact p7.symm
      · exact p10.symm
      · exact Nat.ne_of_lt hW3.2.2.2.2.1
      · exact p5.symm
      · exact p8.symm
      · exact p11.symm
      · exact Nat.ne_of_lt hW3.2.2.2.2.2
      · exact p6.symm
      · exact p9.symm
      · exact p12.symm
    rintro v H' s₅ ⟨Tp, R, q0, q1, q2, tk, e, b1, b2, b3, b4, b5, b6, b7, b8, b9, rfl, rfl⟩ l₅ F₅ N₅ ap₅
    k_sweep
    simp only [FIn, List.cons_append, List.nil_append] at N₅
    walk_at "m go"
    exact ⟨⟨_, (Sub.consm (.tail _ (.head _)) (Sub.consm (.tail _ (.tail _ (.head _))) (Sub.consm (.tail _ (.tail _ (.tail _ (.head _)))) (Sub.consm (.tail _ (.tail _ (.tail _ (.tail _ (.head _))))) Sub.rfl'.tail.tail.tail.tail.tail.tail)))), j1, j2, j4, j5, j6, _, _, _, _, _, _, _, _, _, _, _, _, _, _, _, _, rfl, rfl, rfl⟩⟩
  rintro s₅ m₅ H₅ l₅ ⟨j1, j2, j4, j5, j6, mix, tk, R, q0, q1, q2, e, c1, c2, c3, c4, c5, c6, c7, c8, c9, j7, j8, rfl⟩ F₅ N₅
  simp only [dueL, List.cons_append, List.nil_append] at N₅
  have hv0l := hv0.length
  have hv1l := hv1.length
  k_sweep
  refine cut P L (s₀ := z) (by walk_at "LK") (fun m H => m "script" = some (.ref l) ∧ m "u" = some (.str (S w0) a0) ∧ m "v" = some (.str (S w1) a1) ∧ m "one" = some (.str (S (ftext mix w0 w1 sl0 sl1)) tk) ∧ m "one_due" = some (.ref R) ∧
     ∃ mix' sl0' sl1' tk' R' q3 q4 q5 e' b1 b2 b3 b4 b5 b6 b7 b8 b9, sl0'.length = w0.length ∧ sl1'.length = w1.length ∧ m "two" = some (.str (S (ftext mix' w1 w0 sl1' sl0')) tk') ∧ m "two_due" = some (.ref R') ∧
     H = dueL R q0 q1 q2 e c1 c2 c3 c4 c5 c6 c7 c8 c9 mix w0 w1 sl0 sl1 ++ (dueL R' q3 q4 q5 e' b1 b2 b3 b4 b5 b6 b7 b8 b9 mix' w1 w0 sl1' sl0' ++ [(L + 1, ci), (72, tabObj #[])])) ?_ ?_
  · intro K1 hK1
    walk_at "m go"
    rename_i W3 h₆ F₆ N₆ nW3
    refine ⟨comp_in rfl rfl (by decide) ?_⟩
    walk_at "m go"
    refine ⟨comp_ll (n := g1) (D := D1) (vs := vs1) (z := z) (by decide) rfl rfl r.hh (by walk_at "LK") (by lia) F₆ N₆ (.tail _ (.tail _ (.tail _ (.tail _ (.tail _ (.tail _ (.tail _ (.head _))))))))
      (fun i ys H => IntsAre ys ((sl1.take i).map fun x => x.fdiv 2) ∧ H = _) ?_ ?_ ⟨.nil, rfl⟩ ?_ ?_⟩
    · rintro i ys H ⟨_, rfl⟩
      exact .tail _ (.tail _ (.tail _ (.tail _ (.tail _ (.tail _ (.tail _ (.head _)))))))
    · rintro i ys H ⟨hy, rfl⟩
      have := hy.length
      rw [List.length_map, List.length_take] at this
      lia
    · rintro i v ys C s₇ m₇ H₇ own l₇ hv ⟨hy, rfl⟩ F₇ N₇ ap₇
      obtain ⟨x, tx, hx, rfl⟩ := ints_at hv1 hv
      simp only [List.forIn_nil]
      refine wpAny_pure ?_
      simp only [if_true]
      walk1
      refine comp_ld (by assumption) (by exact rfl) ?_
      walk_at "m go"
      exact CompEnd.intro (by walk_at "LK") (by assumption) N₇ ⟨⟨_, Sub.rfl', ap₇, ints_snoc hy hx _, rfl⟩⟩
    rintro E1 n1 ys1 H₇ s₇ l₇ ⟨hy1, rfl⟩ F₇ N₇ ap₇
    k_sweep
    walk_at "m go"
    refine ⟨comp_in rfl rfl (by decide) ?_⟩
    walk_at "m go"
    refine ⟨comp_ll (n := g0) (D := D0) (vs := vs0) (z := z) (by decide) rfl rfl r.hh (by walk_at "LK") (by lia) F₇ N₇ (.tail _ (.tail _ (.tail _ (.tail _ (.tail _ (.tail _ (.tail _ (.head _))))))))
      (fun i ys H => IntsAre ys ((sl0.take i).map fun x => x.fdiv 2) ∧ H = _) ?_ ?_ ⟨.nil, rfl⟩ ?_ ?_⟩
    · rintro i ys H ⟨_, rfl⟩
      exact (.tail _ (.tail _ (.tail _ (.tail _ (.tail _ (.tail _ (.tail _ (.head _))))))))
    · rintro i ys H ⟨hy, rfl⟩
      have := hy.length
      rw [List.length_map, List.length_take] at this
      lia
    · rintro i v ys C s₈ m₈ H₈ own l₈ hv ⟨hy, rfl⟩ F₈ N₈ ap₈
      obtain ⟨x, tx, hx, rfl⟩ := ints_at hv0 hv
      simp only [List.forIn_nil]
      refine wpAny_pure ?_
      simp only [if_true]
      walk1
      refine comp_ld (by assumption) (by exact rfl) ?_
      walk_at "m go"
      exact CompEnd.intro (by walk_at "LK") (by assumption) N₈ ⟨⟨_, Sub.rfl', ap₈, ints_snoc hy hx _, rfl⟩⟩
    rintro E0 n0 ys0 H₈ s₈ l₈ ⟨hy0, rfl⟩ F₈ N₈ ap₈
    rw [hv1l, b3, ← b3, List.take_length] at hy1
    rw [hv0l, b2, ← b2, List.take_length] at hy0
    k_sweep
    walk_at "m go"
    rename_i W4 _ _ _ nW4 _
    have hz : ∀ p ∈ dueL R q0 q1 q2 e c1 c2 c3 c4 c5 c6 c7 c8 c9 mix w0 w1 sl0 sl1 ++ [(L + 1, ci), (72, tabObj #[])], p.1 ≠ W3 ∧ p.1 ≠ W4 ∧ p.1 ≠ E1 ∧ p.1 ≠ E0 := by
      intro p hp
      simp only [dueL, List.cons_append, List.nil_append, List.mem_cons, List.not_mem_nil, or_false] at hp
      rcases hp with rfl | rfl | rfl | rfl | rfl | rfl
      · exact ⟨Nat.ne_of_lt nW3.1, Nat.ne_of_lt nW4.2.2.2.1, ap₇ _ (.tail _ (.head _)), ap₈ _ (.tail _ (.tail _ (.head _)))⟩
      · exact ⟨Nat.ne_of_lt nW3.2.1, Nat.ne_of_lt nW4.2.2.2.2.1, ap₇ _ (.tail _ (.tail _ (.head _))), ap₈ _ (.tail _ (.tail _ (.tail _ (.head _))))⟩
      · exact ⟨Nat.ne_of_lt nW3.2.2.1, Nat.ne_of_lt nW4.2.2.2.2.2.1, ap₇ _ (.tail _ (.tail _ (.tail _ (.head _)))), ap₈ _ (.tail _ (.tail _ (.tail _ (.tail _ (.head _)))))⟩
      · exact ⟨Nat.ne_of_lt nW3.2.2.2.1, Nat.ne_of_lt nW4.2.2.2.2.2.2.1, ap₇ _ (.tail _ (.tail _ (.tail _ (.tail _ (.head _))))), ap₈ _ (.tail _ (.tail _ (.tail _ (.tail _ (.tail _ (.head _))))))⟩
      · exact ⟨Nat.ne_of_lt nW3.2.2.2.2.2.2.2.2.1, Nat.ne_of_lt nW4.2.2.2.2.2.2.2.2.2.2.2.1, ap₇ _ (.tail _ (.tail _ (.tail _ (.tail _ (.tail _ (.tail _ (.tail _ (.tail _ (.tail _ (.head _)))))))))), ap₈ _ (.tail _ (.tail _ (.tail _ (.tail _ (.tail _ (.tail _ (.tail _ (.tail _ (.tail _ (.tail _ (.head _)))))))))))⟩
      · exact ⟨Nat.ne_of_lt nW3.2.2.2.2.2.2.2.2.2, Nat.ne_of_lt nW4.2.2.2.2.2.2.2.2.2.2.2.2, ap₇ _ (.tail _ (.tail _ (.tail _ (.tail _ (.tail _ (.tail _ (.tail _ (.tail _ (.tail _ (.tail _ (.head _))))))))))), ap₈ _ (.tail _ (.tail _ (.tail _ (.tail _ (.tail _ (.tail _ (.tail _ (.tail _ (.tail _ (.tail _ (.tail _ (.head _))))))))))))⟩
    refine ⟨call_spec (rest := dueL R q0 q1 q2 e c1 c2 c3 c4 c5 c6 c7 c8 c9 mix w0 w1 sl0 sl1 ++ [(L + 1, ci), (72, tabObj #[])]) (file_s (W1 := W3) (W2 := W4) (D0 := E1) (D1 := E0) (a0 := a1) (a1 := a0) (f1 := 0) (f2 := 0) (g0 := n1) (g1 := n0) hy1 hy0 (by rw [List.length_map]; exact b3) (by rw [List.length_map]; exact b2) (by lia) (by lia)
      (ap₇ _ (.head _)) (ap₈ _ (.tail _ (.head _))) (Nat.ne_of_gt nW4.2.1) (Nat.ne_of_gt nW4.1) (ap₈ _ (.head _))) (Rm.le r (Nat.le_of_ble_eq_true rfl)) G (by assumption) (by assumption) (Sub.consm (.tail _ (.tail _ (.tail _ (.head _)))) (Sub.consm (.head _) (Sub.consm (.tail _ (.tail _ (.head _))) (Sub.consm (.tail _ (.head _)) (Sub.consm (.tail _ (.tail _ (.tail _ (.tail _ (.head _))))) (Sub.consm (.tail _ (.tail _ (.tail _ (.tail _ (.tail _ (.head _)))))) (Sub.consm (.tail _ (.tail _ (.tail _ (.tail _ (.tail _ (.tail _ (.head _))))))) (Sub.consm (.tail _ (.tail _ (.tail _ (.tail _ (.tail _ (.tail _ (.tail _ (.head _)))))))) (Sub.consm (.tail _ (.tail _ (.tail _ (.tail _ (.tail _ (.tail _ (.tail _ (.tail _ (.tail _ (.tail _ (.tail _ (.tail _ (.head _))))))))))))) (Sub.consm (.tail _ (.tail _ (.tail _ (.tail _ (.tail _ (.tail _ (.tail _ (.tail _ (.tail _ (.tail _ (.tail _ (.tail _ (.tail _ (.head _)))))))))))))) Sub.nil)))))))))) ?_ (by walk_at "LK") ?_⟩
    · intro p hp q hq
      obtain ⟨y1, y2, y3, y4⟩ := hz p hp
      simp only [FIn, List.mem_cons, List.not_mem_nil, or_false] at hq
      rcases hq with rfl | rfl | rfl | rfl
      · exact y1
      · exact y2
      · exact y3
      · exact y4
    rintro v H' s₉ ⟨Tp, R', q3, q4, q5, tk', e', k1, k2, k3, k4, k5, k6, k7, k8, k9, rfl, rfl⟩ l₉ F₉ N₉ ap₉
    k_sweep
    simp only [FIn, dueL, List.cons_append, List.nil_append] at N₉
    walk_at "m go"
    exact ⟨⟨_, (Sub.consm (.tail _ (.tail _ (.tail _ (.tail _ (.tail _ (.tail _ (.tail _ (.tail _ (.tail _ (.head _)))))))))) (Sub.consm (.tail _ (.tail _ (.tail _ (.tail _ (.tail _ (.tail _ (.tail _ (.tail _ (.tail _ (.tail _ (.head _))))))))))) (Sub.consm (.tail _ (.tail _ (.tail _ (.tail _ (.tail _ (.tail _ (.tail _ (.tail _ (.tail _ (.tail _ (.tail _ (.head _)))))))))))) (Sub.consm (.tail _ (.tail _ (.tail _ (.tail _ (.tail _ (.tail _ (.tail _ (.tail _ (.tail _ (.tail _ (.tail _ (.tail _ (.head _))))))))))))) (Sub.consm (.tail _ (.head _)) (Sub.consm (.tail _ (.tail _ (.head _))) (Sub.consm (.tail _ (.tail _ (.tail _ (.head _)))) (Sub.consm (.tail _ (.tail _ (.tail _ (.tail _ (.head _))))) (Sub.consm (.tail _ (.tail _ (.tail _ (.tail _ (.tail _ (.tail _ (.tail _ (.tail _ (.tail _ (.tail _ (.tail _ (.tail _ (.tail _ (.head _)))))))))))))) (Sub.consm (.tail _ (.tail _ (.tail _ (.tail _ (.tail _ (.tail _ (.tail _ (.tail _ (.tail _ (.tail _ (.tail _ (.tail _ (.tail _ (.tail _ (.head _))))))))))))))) Sub.nil)))))))))), j1, j5, j6, j7, j8, _, sl0.map _, sl1.map _, _, _, _, _, _, _, _, _, _, _, _, _, _, _, _, (by rw [List.length_map]; exact b2), (by rw [List.length_map]; exact b3), rfl, rfl, rfl⟩⟩
  rintro s₆ m₆ H₆ l₆ ⟨j1, j5, j6, j7, j8, mix', sl0', sl1', tk', R', q3, q4, q5, e', k1, k2, k3, k4, k5, k6, k7, k8, k9, b6, b7, j9, j10, rfl⟩ F₆ N₆
  obtain ⟨R1, rd1⟩ := rd_ftext mix w0 w1 sl0 sl1 b0 b1
  obtain ⟨R2, rd2⟩ := rd_ftext mix' w1 w0 sl1' sl0' b1 b0
  have key : ∃ T1 U1 T2 U2 Z, Rd T1 U1 R1 w0 w1 ∧ Rd T2 U2 R2 w1 w0 ∧ Sub (dueG R q0 q1 q2 e c1 c2 c3 c4 c5 c6 c7 c8 c9 T1 U1 w0 w1) Z ∧ Sub (dueG R' q3 q4 q5 e' k1 k2 k3 k4 k5 k6 k7 k8 k9 T2 U2 w1 w0) Z ∧ (L + 1, ci) ∈ Z ∧
      (∀ p ∈ Z, p.1 ≠ 72) ∧ m₆ "one" = some (.str (S T1) tk) ∧ m₆ "two" = some (.str (S T2) tk') ∧ News P L s₆.heap ((72, tabObj #[]) :: Z) := by
    refine ⟨_, _, _, _, dueL R q0 q1 q2 e c1 c2 c3 c4 c5 c6 c7 c8 c9 mix w0 w1 sl0 sl1 ++ (dueL R' q3 q4 q5 e' k1 k2 k3 k4 k5 k6 k7 k8 k9 mix' w1 w0 sl1' sl0' ++ [(L + 1, ci)]), rd1, rd2, Sub.left, fun p hp => List.mem_append_right _ (List.mem_append_left _ hp), List.mem_append_right _ (List.mem_append_right _ (.head _)), ?_, j7, j9, ?_⟩
    · have hm : ((72 : Addr), tabObj #[]) ∈ dueL R q0 q1 q2 e c1 c2 c3 c4 c5 c6 c7 c8 c9 mix w0 w1 sl0 sl1 ++ (dueL R' q3 q4 q5 e' k1 k2 k3 k4 k5 k6 k7 k8 k9 mix' w1 w0 sl1' sl0' ++ [(L + 1, ci), (72, tabObj #[])]) := List.mem_append_right _ (List.mem_append_right _ (.tail _ (.head _)))
      have hd : ∀ p ∈ dueL R q0 q1 q2 e c1 c2 c3 c4 c5 c6 c7 c8 c9 mix w0 w1 sl0 sl1 ++ (dueL R' q3 q4 q5 e' k1 k2 k3 k4 k5 k6 k7 k8 k9 mix' w1 w0 sl1' sl0' ++ [(L + 1, ci)]), p.2.data ≠ (tabObj #[]).data := by
        intro p hp
        simp only [dueL, List.cons_append, List.nil_append, List.mem_cons, List.not_mem_nil, or_false] at hp
        rcases hp with rfl | rfl | rfl | rfl | rfl | rfl | rfl | rfl | rfl
        all_goals first | (intro h; cases h; done) | (show ci.data ≠ _; rw [hci]; intro h; cases h)
      intro p hp
      refine News.ne_data N₆ (a := p.1) (o := p.2) ?_ hm (hd p hp)
      rcases List.mem_append.mp hp with h | h
      · exact List.mem_append_left _ h
      rcases List.mem_append.mp h with h | h
      · exact List.mem_append_right _ (List.mem_append_left _ h)
      · rw [List.mem_singleton.mp h]
        exact List.mem_append_right _ (List.mem_append_right _ (.head _))
    · refine subN N₆ fun p hp => ?_
      rcases List.mem_cons.mp hp with rfl | hp
      · exact List.mem_append_right _ (List.mem_append_right _ (.tail _ (.head _)))
      rcases List.mem_append.mp hp with h | h
      · exact List.mem_append_left _ h
      rcases List.mem_append.mp h with h | h
      · exact List.mem_append_right _ (List.mem_append_left _ h)
      · rw [List.mem_singleton.mp h]
        exact List.mem_append_right _ (List.mem_append_right _ (.head _))
  clear N₆ rd1 rd2 j7 j9
  obtain ⟨T1, U1, T2, U2, Z, rd1, rd2, z1, z2, z3, z72, j7, j9, N₆⟩ := key
  clear hv0 hv1 b2 b3 b6 b7 hd0 hdz hd2 hv0l hv1l hdv
  have hT1 := rd1.len
  have hT2 := rd2.len
  k_sweep
  refine cut P L (s₀ := z) (by walk_at "LK") (fun m H => Com7 l R R' w0 w1 T1 T2 a0 a1 tk tk' m ∧
     ∃ On Tw so st n1 n2, m "ones" = some (.ref On) ∧ m "twos" = some (.ref Tw) ∧ Sg so T1 ∧ Sg st T2 ∧ (Tw ≠ On ∧ On ≠ 72 ∧ Tw ≠ 72) ∧ (∀ p ∈ Z, p.1 ≠ On ∧ p.1 ≠ Tw) ∧ H = (Tw, listOf st.toArray n2) :: (On, listOf so.toArray n1) :: (72, tabObj #[]) :: Z) ?_ ?_
  · intro K1 hK1
    walk_at "m go"
    rename_i On so n1 _ _ hso nO Tw st n2 _ _ hst nT D9 _ nD9 _ _ _ _ _
    exact ⟨⟨_, Sub.rfl'.tail, ⟨j1, j5, j6, j7, j8, j9, j10⟩, On, Tw, so, st, n1, n2, rfl, rfl, hso, hst, ⟨Nat.ne_of_gt (nT _ (.head _)), Nat.ne_of_gt (nO _ (.head _)), Nat.ne_of_gt (nT _ (.tail _ (.head _)))⟩, fun p hp => ⟨Nat.ne_of_lt (nO p (.tail _ hp)), Nat.ne_of_lt (nT p (.tail _ (.tail _ hp)))⟩, rfl⟩⟩
  rintro s₇ m₇ H₇ l₇ ⟨⟨j1, j5, j6, j7, j8, j9, j10⟩, On, Tw, so, st, n1, n2, j11, j12, hso, hst, ⟨y1, y2, y3⟩, hzz, rfl⟩ F₇ N₇
  have hzO : ∀ p ∈ Z, p.1 ≠ On := fun p hp => (hzz p hp).1
  have hzT : ∀ p ∈ Z, p.1 ≠ Tw := fun p hp => (hzz p hp).2
  have hsl := hso.length
  have htl := hst.length
  k_sweep
  refine cut P L (s₀ := z) (by walk_at "LK") (fun m H => m = m₇ ∧ H = (Tw, listOf st.toArray n2) :: (On, listOf so.reverse.toArray n1) :: (72, tabObj #[]) :: Z) ?_ ?_
  · intro K1 hK1
    walk_at "m go"
    exact ⟨⟨_, Sub.rfl', rfl, rfl⟩⟩
  rintro s₈ m₈ H₈ l₈ ⟨rfl, rfl⟩ F₈ N₈
  k_sweep
  refine cut P L (s₀ := z) (by walk_at "LK") (fun m H => m = m₈ ∧ H = (Tw, listOf st.reverse.toArray n2) :: (On, listOf so.reverse.toArray n1) :: (72, tabObj #[]) :: Z) ?_ ?_
  · intro K1 hK1
    walk_at "m go"
    exact ⟨⟨_, Sub.rfl', rfl, rfl⟩⟩
  rintro s₉ m₉ H₉ l₉ ⟨rfl, rfl⟩ F₉ N₉
  replace hso := hso.reverse
  replace hst := hst.reverse
  generalize so.reverse = so' at hso N₉
  generalize st.reverse = st' at hst N₉
  clear hzz hsl htl
  k_sweep
  refine cut P L (s₀ := z) (by walk_at "LK") (fun m H => Com7 l R R' w0 w1 T1 T2 a0 a1 tk tk' m ∧
     ∃ x1 x2 c' oc vs1 tq t1 e1 f1 t2 e2 f2 so st, Two w x1 x2 c' oc ∧ oc.data = .fields vs1 ∧ vs1[1]? = some (.str lqual tq) ∧ c' ≠ 72 ∧ Yap x1 x2 c' ((72, tabObj (ltab c')) :: Z) ∧ (m "ones" = some (.ref x1.sg) ∧ m "twos" = some (.ref x2.sg) ∧ m "first" = some (.ref x1.x) ∧ m "second" = some (.ref x2.x)) ∧
       Sg so T1.reverse ∧ Sg st T2.reverse ∧ H = TwoH w x1 x2 c' oc 1 t1 so e1 [] f1 1 t2 st e2 [] f2 ((72, tabObj (ltab c')) :: Z)) ?_ ?_
  · intro K1 hK1
    walk_at "m go"
    refine ⟨call_spec (H := [(72, tabObj #[]), (On, listOf so'.toArray n1)]) (rest := (Tw, listOf st'.toArray n2) :: Z) (lexer_s1 (sg := On) y2) (Rm.le r (Nat.le_of_ble_eq_true rfl)) G (by assumption) (by assumption) (Sub.consm (.tail _ (.tail _ (.head _))) (Sub.consm (.tail _ (.head _)) (Sub.consm (.head _) (Sub.rfl'.tail.tail.tail)))) ?_ (by walk_at "LK") ?_⟩
    · intro p hp q hq
      simp only [List.mem_cons, List.not_mem_nil, or_false] at hp hq
      rcases hp with rfl | hp <;> rcases hq with rfl | rfl
      · exact y3
      · exact y1
      · exact z72 p hp
      · exact hzO p hp
    rintro v H' sA ⟨c', oc, vs1, tq, d1, d2, hc72, x1, t1, e1, f1, cell1, co1, rfl, hsg1, rfl, ok1, hr1, v01, hco1⟩ lA FA NA apA
    k_sweep
    have hcT : c' ≠ Tw := apA (c', oc) (List.mem_cons_of_mem _ (by rw [lexH_eq hr1]; exact List.mem_append_right _ (.head _))) _ (.head _)
    have h1O : Sub (lexO w x1 1 t1 so' e1 [] f1) (((72, tabObj (ltab c')) :: lexH w x1 1 t1 so' e1 [] f1) ++ ((Tw, listOf st'.toArray n2) :: Z)) := fun p hp => List.mem_append_left _ (List.mem_cons_of_mem _ (by rw [lexH_eq hr1]; exact List.mem_append_left _ hp))
    have hcm : (c', oc) ∈ (((72, tabObj (ltab c')) :: lexH w x1 1 t1 so' e1 [] f1) ++ ((Tw, listOf st'.toArray n2) :: Z)) := List.mem_append_left _ (List.mem_cons_of_mem _ (by rw [lexH_eq hr1]; exact List.mem_append_right _ (.head _)))
    have g1 : (72 : Addr) ∉ lexAo x1 := lex_data NA ok1 hr1 hco1 h1O (.head _) rfl
    have g2 : c' ∉ lexAo x1 := lex_data NA ok1 hr1 hco1 h1O hcm d1
    walk_at "m go"
    refine ⟨call_spec (H := [(72, tabObj (ltab c')), (c', oc), (Tw, listOf st'.toArray n2)]) (rest := lexO w x1 1 t1 so' e1 [] f1 ++ Z) (lexer_s2 (sg := Tw) y3 d1 d2 hc72 hcT) (Rm.le r (Nat.le_of_ble_eq_true rfl)) G FA NA ?_ ?_ lA ?_⟩
    · intro p hp
      simp only [List.cons_append, List.nil_append, List.mem_cons, List.mem_append] at hp
      rcases hp with rfl | rfl | rfl | hp | hp
      · exact .head _
      · exact hcm
      · exact List.mem_append_right _ (.head _)
      · exact h1O p hp
      · exact List.mem_append_right _ (.tail _ hp)
    · intro p hp q hq
      simp only [List.mem_cons, List.not_mem_nil, or_false] at hq
      rcases List.mem_append.mp hp with hp | hp
      · rcases hq with rfl | rfl | rfl
        · exact fun (e : p.1 = 72) => g1 (e ▸ lexO_in hp)
        · exact fun (e : p.1 = c') => g2 (e ▸ lexO_in hp)
        · exact apA p (List.mem_cons_of_mem _ (by rw [lexH_eq hr1]; exact List.mem_append_left _ hp)) _ (.head _)
      · rcases hq with rfl | rfl | rfl
        · exact z72 p hp
        · exact fun e => apA (c', oc) (List.mem_cons_of_mem _ (by rw [lexH_eq hr1]; exact List.mem_append_right _ (.head _))) p (.tail _ hp) e.symm
        · exact hzT p hp
    rintro v H' sB ⟨x2, t2, e2, f2, cell2, co2, rfl, hsg2, rfl, ok2, hr2, v02, hco2⟩ lB FB NB apB
    have h2O : Sub (lexO w x2 1 t2 st' e2 [] f2) (((72, tabObj (ltab c')) :: lexH w x2 1 t2 st' e2 [] f2) ++ (lexO w x1 1 t1 so' e1 [] f1 ++ Z)) := fun p hp => List.mem_append_left _ (List.mem_cons_of_mem _ (by rw [lexH_eq hr2]; exact List.mem_append_left _ hp))
    have hcm2 : (c', oc) ∈ (((72, tabObj (ltab c')) :: lexH w x2 1 t2 st' e2 [] f2) ++ (lexO w x1 1 t1 so' e1 [] f1 ++ Z)) := List.mem_append_left _ (List.mem_cons_of_mem _ (by rw [lexH_eq hr2]; exact List.mem_append_right _ (.head _)))
    have g3 : (72 : Addr) ∉ lexAo x2 := lex_data NB ok2 hr2 hco2 h2O (.head _) rfl
    have g4 : c' ∉ lexAo x2 := lex_data NB ok2 hr2 hco2 h2O hcm2 d1
    have TW : Two w x1 x2 c' oc := by
      refine ⟨ok1, ok2, ⟨_, hr1⟩, ⟨_, hr2⟩, ?_, g2, g4⟩
      intro x hx y hy e
      obtain ⟨p, hp, rfl⟩ := List.mem_map.mp (show x ∈ (lexO w x1 1 t1 so' e1 [] f1).map (·.1) from hx)
      obtain ⟨q, hq, rfl⟩ := List.mem_map.mp (show y ∈ (lexO w x2 1 t2 st' e2 [] f2).map (·.1) from hy)
      exact apB q (List.mem_cons_of_mem _ (by rw [lexH_eq hr2]; exact List.mem_append_left _ hq)) p (List.mem_append_left _ hp) e.symm
    have YZ : Yap x1 x2 c' ((72, tabObj (ltab c')) :: Z) := by
      intro p hp
      rcases List.mem_cons.mp hp with rfl | hp
      · exact ⟨g1, g3, hc72.symm⟩
      · refine ⟨fun hm => ?_, fun hm => ?_, fun e => ?_⟩
        · obtain ⟨q, hq, e⟩ := List.mem_map.mp (show p.1 ∈ (lexO w x1 1 t1 so' e1 [] f1).map (·.1) from hm)
          exact apA q (List.mem_cons_of_mem _ (by rw [lexH_eq hr1]; exact List.mem_append_left _ hq)) p (.tail _ hp) e
        · obtain ⟨q, hq, e⟩ := List.mem_map.mp (show p.1 ∈ (lexO w x2 1 t2 st' e2 [] f2).map (·.1) from hm)
          exact apB q (List.mem_cons_of_mem _ (by rw [lexH_eq hr2]; exact List.mem_append_left _ hq)) p (List.mem_append_right _ hp) e
        · exact apB (c', oc) (List.mem_cons_of_mem _ (by rw [lexH_eq hr2]; exact List.mem_append_right _ (.head _))) p (List.mem_append_right _ hp) e.symm
    have NC : News P L sB.heap (TwoH w x1 x2 c' oc 1 t1 so' e1 [] f1 1 t2 st' e2 [] f2 ((72, tabObj (ltab c')) :: Z)) := by
      refine subN NB fun p hp => ?_
      simp only [List.mem_append, List.mem_cons] at hp
      rcases hp with hp | hp | rfl | rfl | hp
      · exact List.mem_append_right _ (List.mem_append_left _ hp)
      · exact h2O p hp
      · exact hcm2
      · exact .head _
      · exact List.mem_append_right _ (List.mem_append_right _ hp)
    clear NB apB apA h1O h2O hcm hcm2
    k_sweep
    walk_at "m go"
    exact ⟨⟨_, Sub.rfl'.tail, ⟨j1, j5, j6, j7, j8, j9, j10⟩, x1, x2, c', oc, vs1, tq, t1, e1, f1, t2, e2, f2, so', st', TW, d1, d2, hc72, YZ, ⟨by rw [hsg1]; exact j11, by rw [hsg2]; exact j12, rfl, rfl⟩, hso, hst, rfl⟩⟩
  rintro sA mA HA lA ⟨⟨i1, i2, i3, i4, i5, i6, i7⟩, x1, x2, c', oc, vs1, tq, t1, e1, f1, t2, e2, f2, so, st, TW, d1, d2, hc72, YZ, ⟨i8, i9, i10, i11⟩, hso, hst, rfl⟩ FA NA
  have key : ∃ Y, Sub Z Y ∧ (72, tabObj (ltab c')) ∈ Y ∧ Yap x1 x2 c' Y ∧ News P L sA.heap (TwoH w x1 x2 c' oc 1 t1 so e1 [] f1 1 t2 st e2 [] f2 Y) := ⟨_, Sub.rfl'.tail, .head _, YZ, NA⟩
  clear NA YZ
  obtain ⟨Y, zY, m72, yY, NA⟩ := key
  k_sweep
  refine cut P L (s₀ := z) (by walk_at "LK") (fun m H => Com x1 x2 l R R' w0 w1 T1 T2 a0 a1 tk tk' m ∧
     ∃ Tl n qa b1 b2 b3 t2 st e2 f2, m "told" = some (.ref Tl) ∧ Sg st R2.reverse ∧ Yap x1 x2 c' [(Tl, Obj0)] ∧ Yap x1 x2 c' [(qa, Obj0)] ∧ Tl ≠ qa ∧ (∀ p ∈ Y, p.1 ≠ Tl) ∧
       H = (Tl, listOf [.ref qa].toArray n) :: (qa, tupOf [.str (S w1) b1, .int (1 + cnt U2) b2, .int U2.length b3]) :: TwoH w x1 x2 c' oc 1 t1 so e1 [] f1 (1 + cnt U2) t2 st e2 [] f2 Y) ?_ ?_
  · intro K1 hK1
    walk_at "m go"
    refine ⟨step_2 (F := []) (rem := T2) (n := U2.length) (ln := 1 + cnt U2) TW (Rm.le r (Nat.le_of_ble_eq_true rfl)) G FA NA yY hst (by lia) (by decide) rd2.one (by have := rd2.cnts; lia) rd2.sz (by walk_at "LK") ?_⟩
    intro q t2' st' e2' b1 b2 b3 sB hst' lB FB NB yq _ _
    k_sweep
    walk_at "m go"
    rename_i Tl _ nT _ _ NT
    exact ⟨⟨_, Sub.rfl', ⟨i1, i2, i3, i4, i5, i6, i7, i8, i9, i10, i11⟩, Tl, 0, q, b1, b2, b3, t2', st', e2', f2, rfl, hst', yap_new (fun p hp => tb_ltOf nT.2 p hp), yq, Nat.ne_of_gt nT.1, fun p hp => Nat.ne_of_lt (tb_ltOf nT.2 p (List.mem_append_right [] (List.mem_append_right _ (List.mem_append_right _ (.tail _ hp))))), rfl⟩⟩
  rintro sB mB HB lB ⟨⟨i1, i2, i3, i4, i5, i6, i7, i8, i9, i10, i11⟩, Tl, n, qa, b1, b2, b3, t2, st, e2, f2, i12, hst, yTl, yqa, hTq, hTY, rfl⟩ FB NB
  k_sweep
  refine cut P L (s₀ := z) (by walk_at "LK") (fun m H => Com x1 x2 l R R' w0 w1 T1 T2 a0 a1 tk tk' m ∧ m "told" = some (.ref Tl) ∧ ∃ Ln lv n3, m "line" = some (.ref Ln) ∧ Tx lv (marks w1) ∧ Yap x1 x2 c' [(Ln, Obj0)] ∧ Ln ≠ Tl ∧ Ln ≠ qa ∧ (∀ p ∈ Y, p.1 ≠ Ln) ∧
     H = (Ln, listOf lv.toArray n3) :: (Tl, listOf [.ref qa].toArray n) :: (qa, tupOf [.str (S w1) b1, .int (1 + cnt U2) b2, .int U2.length b3]) :: TwoH w x1 x2 c' oc 1 t1 so e1 [] f1 (1 + cnt U2) t2 st e2 [] f2 Y) ?_ ?_
  · intro K1 hK1
    walk_at "m go"
    refine ⟨call_spec (H := []) (marks_s (by lia)) (Rm.le r (Nat.le_of_ble_eq_true rfl)) G (by assumption) NB (fun p hp => hp) (fun _ _ _ hq => (nomatch hq)) (by walk_at "LK") ?_⟩
    rintro v H' sC ⟨Ln, lv, n3, rfl, hlv, rfl⟩ lC FC NC apC
    have apL := fun q hq => (apC _ (.head _) q hq).symm
    k_sweep
    walk_at "m go"
    exact ⟨⟨_, Sub.rfl', ⟨i1, i2, i3, i4, i5, i6, i7, i8, i9, i10, i11⟩, i12, Ln, lv, n3, rfl, hlv, yap_ne fun p hp => apL p (.tail _ (.tail _ hp)), (apL _ (.head _)).symm, (apL _ (.tail _ (.head _))).symm, fun p hp => apL p (.tail _ (.tail _ (List.mem_append_right _ (List.mem_append_right _ (.tail _ hp))))), rfl⟩⟩
  rintro sC mC HC lC ⟨⟨i1, i2, i3, i4, i5, i6, i7, i8, i9, i10, i11⟩, i12, Ln, lv, n3, i13, hlv, yLn, hLT, hLq, hLY, rfl⟩ FC NC
  have hlvl := hlv.length
  rw [marks_len] at hlvl
  k_sweep
  refine cut P L (s₀ := z) (by walk_at "LK") (fun m H => Com x1 x2 l R R' w0 w1 T1 T2 a0 a1 tk tk' m ∧ m "told" = some (.ref Tl) ∧ m "line" = some (.ref Ln) ∧ ∃ pv f2, IntsAre pv (line0 (4 * w1.length)) ∧
     H = (Ln, listOf lv.toArray n3) :: (Tl, listOf [.ref qa].toArray n) :: (qa, tupOf [.str (S w1) b1, .int (1 + cnt U2) b2, .int U2.length b3]) :: TwoH w x1 x2 c' oc 1 t1 so e1 [] f1 (1 + cnt U2) t2 st e2 pv f2 Y) ?_ ?_
  · intro K1 hK1
    refine for_in ?_
    walk_at "m go"
    refine' ⟨loop_range (by assumption) r.hh rfl rfl (s₀ := z) (by walk_at "LK") (by lia) (by lia) (by lia) (by lia) (n := lv.length) (by lia) ?LF13 ?LN13
      (fun k m H => Com x1 x2 l R R' w0 w1 T1 T2 a0 a1 tk tk' m ∧ m "told" = some (.ref Tl) ∧ m "line" = some (.ref Ln) ∧ ∃ pv f2, IntsAre pv (line0 k) ∧
     H = (Ln, listOf lv.toArray n3) :: (Tl, listOf [.ref qa].toArray n) :: (qa, tupOf [.str (S w1) b1, .int (1 + cnt U2) b2, .int U2.length b3]) :: TwoH w x1 x2 c' oc 1 t1 so e1 [] f1 (1 + cnt U2) t2 st e2 pv f2 Y) ?LJ13 ?_ ?_⟩
    case LF13 => assumption
    case LN13 => assumption
    case LJ13 => exact ⟨⟨i1, i2, i3, i4, i5, i6, i7, i8, i9, i10, i11⟩, i12, i13, [], f2, .nil, rfl⟩
    · rintro k tv m₁ H₁ s₁ I io lI hk ⟨⟨i1, i2, i3, i4, i5, i6, i7, i8, i9, i10, i11⟩, i12, i13, pv, f2, hpv, rfl⟩ ne F₁ N₁ K2 hK2
      have e0 : (0 : Int) + k = k := by lia
      rw [e0] at F₁
      have hpl := hpv.length
      have hll : (line0 k).length = k := by unfold line0; rw [List.length_map, List.length_range]
      have yI : Yap x1 x2 c' [(I, io)] := yap_ne fun p hp => ne p (.tail _ (.tail _ (.tail _ hp)))
      have yX : Yap x1 x2 c' ([(I, io), (Ln, listOf lv.toArray n3), (Tl, listOf [.ref qa].toArray n), (qa, tupOf [.str (S w1) b1, .int (1 + cnt U2) b2, .int U2.length b3])] ++ Y) := ((((yI.app yLn.one).app yTl.one).app yqa.one).app yY).sub (by intro p hp; simpa using hp)
      k_sweep
      have N₉ := subN N₁ (two_o2 (X := [(I, io), (Ln, listOf lv.toArray n3), (Tl, listOf [.ref qa].toArray n), (qa, tupOf [.str (S w1) b1, .int (1 + cnt U2) b2, .int U2.length b3])]) TW)
      clear N₁
      simp only [lexH, lexD, List.cons_append, List.nil_append] at N₉
      walk_at "m go"
      rename_i FI NI
      refine ⟨call_2 (X := []) (Y := [(I, io), (Ln, listOf lv.toArray n3), (Tl, listOf [.ref qa].toArray n), (qa, tupOf [.str (S w1) b1, .int (1 + cnt U2) b2, .int U2.length b3])] ++ Y) TW (push_s (line := 1 + cnt U2) (t1 := t2) (vs := st) (e2 := e2) (v0 := .int k tv) (pv := pv) (e3 := f2) TW.ok2 (by lia)) (Rm.le r (Nat.le_of_ble_eq_true rfl)) G FI (subN NI (two_r2 (X := [(I, io), (Ln, listOf lv.toArray n3), (Tl, listOf [.ref qa].toArray n), (qa, tupOf [.str (S w1) b1, .int (1 + cnt U2) b2, .int U2.length b3])]) (Y := Y) TW)) yX (fun _ _ _ hq => (nomatch hq)) (by walk_at "LK") ?_⟩
      rintro v H' s₃ ⟨e5, rfl⟩ l₃ F₃ N₃ ap₃
      k_sweep
      walk_at "m go"
      refine ⟨⟨_, two_2' (X := [(I, io), (Ln, listOf lv.toArray n3), (Tl, listOf [.ref qa].toArray n), (qa, tupOf [.str (S w1) b1, .int (1 + cnt U2) b2, .int U2.length b3])]) TW, ?_, ⟨i1, i2, i3, i4, i5, i6, i7, i8, i9, i10, i11⟩, i12, i13, _, e5, by rw [line0_succ]; exact hpv.append (.cons _ tv .nil), rfl⟩⟩
      intro p hp
      rcases List.mem_cons.mp hp with rfl | hp
      · exact ne _ (.head _)
      rcases List.mem_cons.mp hp with rfl | hp
      · exact ne _ (.tail _ (.head _))
      rcases List.mem_cons.mp hp with rfl | hp
      · exact ne _ (.tail _ (.tail _ (.head _)))
      exact two_ne yI (fun p hp => ne p (.tail _ (.tail _ (.tail _ (List.mem_append_right _ (List.mem_append_right _ (.tail _ hp))))))) p hp
    · rintro m₁ H₁ s₁ l₁ ⟨⟨i1, i2, i3, i4, i5, i6, i7, i8, i9, i10, i11⟩, i12, i13, pv, f2, hpv, rfl⟩ F₁ N₁
      rw [hlvl] at hpv
      refine Imp2.go (by assumption) ?_; exact CutQ.next l₁ F₁ N₁ ⟨_, Sub.rfl', ⟨i1, i2, i3, i4, i5, i6, i7, i8, i9, i10, i11⟩, i12, i13, pv, f2, hpv, rfl⟩
  rintro sD mD HD lD ⟨⟨i1, i2, i3, i4, i5, i6, i7, i8, i9, i10, i11⟩, i12, i13, pv, f2, hpv, rfl⟩ FD ND
  k_sweep
  refine cut P L (s₀ := z) (by walk_at "LK") (fun m H => Com x1 x2 l R R' w0 w1 T1 T2 a0 a1 tk tk' m ∧ m "told" = some (.ref Tl) ∧ m "line" = some (.ref Ln) ∧ ∃ n qb b4 b5 b6 t1 so e1, Sg so R1.reverse ∧ Yap x1 x2 c' [(qb, Obj0)] ∧ Tl ≠ qb ∧ Ln ≠ qb ∧
     H = (Tl, listOf [.ref qa, .ref qb].toArray n) :: (Ln, listOf lv.toArray n3) :: (qa, tupOf [.str (S w1) b1, .int (1 + cnt U2) b2, .int U2.length b3]) :: (qb, tupOf [.str (S w0) b4, .int (1 + cnt U1) b5, .int U1.length b6]) :: TwoH w x1 x2 c' oc (1 + cnt U1) t1 so e1 [] f1 (1 + cnt U2) t2 st e2 pv f2 Y) ?_ ?_
  · intro K1 hK1
    walk_at "m go"
    have yX : Yap x1 x2 c' ([(Ln, listOf lv.toArray n3), (Tl, listOf [.ref qa].toArray n), (qa, tupOf [.str (S w1) b1, .int (1 + cnt U2) b2, .int U2.length b3])] ++ Y) := (((yLn.one).app yTl.one).app yqa.one).app yY |>.sub (by intro p hp; simpa using hp)
    refine ⟨step_1 (F := [(Ln, listOf lv.toArray n3), (Tl, listOf [.ref qa].toArray n), (qa, tupOf [.str (S w1) b1, .int (1 + cnt U2) b2, .int U2.length b3])]) (rem := T1) (n := U1.length) (ln := 1 + cnt U1) TW (Rm.le r (Nat.le_of_ble_eq_true rfl)) G (by assumption) ND yX hso (by lia) (by decide) rd1.one (by have := rd1.cnts; lia) rd1.sz (by walk_at "LK") ?_⟩
    intro qb t1' so' e1' b4 b5 b6 sE hso' lE FE NE yqb hF _
    have hqT : qb ≠ Tl := (hF _ (.tail _ (.head _))).symm
    have hall : ∀ p ∈ TwoH w x1 x2 c' oc (1 + cnt U1) t1' so' e1' [] f1 (1 + cnt U2) t2 st e2 pv f2 Y, p.1 ≠ Tl := two_ne yTl hTY
    simp only [List.cons_append, List.nil_append] at NE
    k_sweep
    walk_at "m go"
    exact ⟨⟨_, (Sub.consm (.tail _ (.tail _ (.head _))) (Sub.consm (.tail _ (.head _)) (Sub.consm (.tail _ (.tail _ (.tail _ (.head _)))) (Sub.consm (.head _) (Sub.rfl'.tail.tail.tail.tail))))), ⟨i1, i2, i3, i4, i5, i6, i7, i8, i9, i10, i11⟩, i12, i13, _, qb, b4, b5, b6, t1', so', e1', hso', yqb, hqT.symm, hF _ (.head _), rfl⟩⟩
  rintro sE mE HE lE ⟨⟨i1, i2, i3, i4, i5, i6, i7, i8, i9, i10, i11⟩, i12, i13, n, qb, b4, b5, b6, t1, so, e1, hso, yqb, hTqb, hLqb, rfl⟩ FE NE
  k_sweep
  refine cut P L (s₀ := z) (by walk_at "LK") (fun m H => Com x1 x2 l R R' w0 w1 T1 T2 a0 a1 tk tk' m ∧ m "told" = some (.ref Tl) ∧ ∃ Rn rs n5 f2, m "ends" = some (.ref Rn) ∧ IntsAre rs (endsF (marks w0) (marks w1) (line0 (4 * w1.length))) ∧ Yap x1 x2 c' [(Rn, Obj0)] ∧ Rn ≠ Tl ∧
     H = (Tl, listOf [.ref qa, .ref qb].toArray n) :: (Rn, listOf rs.toArray n5) :: (qa, tupOf [.str (S w1) b1, .int (1 + cnt U2) b2, .int U2.length b3]) :: (qb, tupOf [.str (S w0) b4, .int (1 + cnt U1) b5, .int U1.length b6]) :: TwoH w x1 x2 c' oc (1 + cnt U1) t1 so e1 [] f1 (1 + cnt U2) t2 st e2 [] f2 Y) ?_ ?_
  · intro K1 hK1
    walk_at "m go"
    refine ⟨call_spec (H := []) (marks_s (by lia)) (Rm.le r (Nat.le_of_ble_eq_true rfl)) G (by assumption) NE (fun p hp => hp) (fun _ _ _ hq => (nomatch hq)) (by walk_at "LK") ?_⟩
    rintro v H' sF ⟨Mn, mv, n4, rfl, hmv, rfl⟩ lF FF NF apF
    have apM := fun q hq => (apF _ (.head _) q hq).symm
    have NG : News P L sF.heap (TwoH w x1 x2 c' oc (1 + cnt U1) t1 so e1 [] f1 (1 + cnt U2) t2 st e2 pv f2 ([(Mn, listOf mv.toArray n4), (Ln, listOf lv.toArray n3), (Tl, listOf [.ref qa, .ref qb].toArray n), (qa, tupOf [.str (S w1) b1, .int (1 + cnt U2) b2, .int U2.length b3]), (qb, tupOf [.str (S w0) b4, .int (1 + cnt U1) b5, .int U1.length b6])] ++ Y)) := by
      refine subN NF fun p hp => ?_
      have hp := two_in (X := [(Mn, listOf mv.toArray n4), (Ln, listOf lv.toArray n3), (Tl, listOf [.ref qa, .ref qb].toArray n), (qa, tupOf [.str (S w1) b1, .int (1 + cnt U2) b2, .int U2.length b3]), (qb, tupOf [.str (S w0) b4, .int (1 + cnt U1) b5, .int U1.length b6])]) (Y := Y) p hp
      simp only [List.cons_append, List.nil_append, List.mem_cons] at hp ⊢
      rcases hp with h | h | h | h | h | h
      · exact .inl h
      · exact .inr (.inr (.inl h))
      · exact .inr (.inl h)
      · exact .inr (.inr (.inr (.inl h)))
      · exact .inr (.inr (.inr (.inr (.inl h))))
      · exact .inr (.inr (.inr (.inr (.inr h))))
    k_sweep
    walk_at "m go"
    have yMn : Yap x1 x2 c' [(Mn, Obj0)] := yap_ne fun p hp => apM p (.tail _ (.tail _ (.tail _ (.tail _ hp))))
    have yML : Yap x1 x2 c' [(Mn, listOf mv.toArray n4), (Ln, listOf lv.toArray n3)] := (yMn.one.app yLn.one).sub (by intro p hp; simpa using hp)
    have yX : Yap x1 x2 c' ([(Mn, listOf mv.toArray n4), (Ln, listOf lv.toArray n3)] ++ ([(Tl, listOf [.ref qa, .ref qb].toArray n), (qa, tupOf [.str (S w1) b1, .int (1 + cnt U2) b2, .int U2.length b3]), (qb, tupOf [.str (S w0) b4, .int (1 + cnt U1) b5, .int U1.length b6])] ++ Y)) := (yML.app (((yTl.one.app yqa.one).app yqb.one).app yY)).sub (by intro p hp; simpa using hp)
    have hmvl := hmv.length
    rw [marks_len] at hmvl
    have hl0 : (line0 (4 * w1.length)).length = (marks w1).length := by unfold line0; rw [List.length_map, List.length_range, marks_len]
    refine ⟨call_2 (X := [(Mn, listOf mv.toArray n4), (Ln, listOf lv.toArray n3)]) (Y := [(Tl, listOf [.ref qa, .ref qb].toArray n), (qa, tupOf [.str (S w1) b1, .int (1 + cnt U2) b2, .int U2.length b3]), (qb, tupOf [.str (S w0) b4, .int (1 + cnt U1) b5, .int U1.length b6])] ++ Y) TW (ends_s (a := x2) (line := 1 + cnt U2) (t1 := t2) (vs := st) (e2 := e2) (pv := pv) (e3 := f2) (vs1 := mv) (vs2 := lv) (n1 := n4) (n2 := n3) TW.ok2 hmv hlv hpv hl0 (by rw [marks_len]; lia) (by rw [marks_len]; lia) (yap_lex2 yML TW)) (Rm.le r (Nat.le_of_ble_eq_true rfl)) G (by assumption) NG yX ?_ (by walk_at "LK") ?_⟩
    · intro p hp q hq
      simp only [List.cons_append, List.nil_append, List.mem_cons, List.not_mem_nil, or_false] at hp hq
      rcases hq with rfl | rfl
      · rcases hp with rfl | rfl | rfl | hp
        · exact apM _ (.head _)
        · exact apM _ (.tail _ (.tail _ (.head _)))
        · exact apM _ (.tail _ (.tail _ (.tail _ (.head _))))
        · exact apM p (.tail _ (.tail _ (.tail _ (.tail _ (List.mem_append_right _ (List.mem_append_right _ (.tail _ hp)))))))
      · rcases hp with rfl | rfl | rfl | hp
        · exact hLT.symm
        · exact hLq.symm
        · exact hLqb.symm
        · exact hLY p hp
    rintro v H' sG ⟨Rn, rs, n5, f2', rfl, hrs, rfl, hRl⟩ lG FG NG apG
    have hq1 := fun p hp => apG _ (.head _) p hp
    k_sweep
    walk_at "m go"
    refine ⟨⟨(Tl, listOf [.ref qa, .ref qb].toArray n) :: (Rn, listOf rs.toArray n5) :: (qa, tupOf [.str (S w1) b1, .int (1 + cnt U2) b2, .int U2.length b3]) :: (qb, tupOf [.str (S w0) b4, .int (1 + cnt U1) b5, .int U1.length b6]) :: TwoH w x1 x2 c' oc (1 + cnt U1) t1 so e1 [] f1 (1 + cnt U2) t2 st e2 [] f2' Y, fun p hp => two_2 TW (X := [(Rn, listOf rs.toArray n5), (Mn, listOf mv.toArray n4), (Ln, listOf lv.toArray n3)]) p ?_, ⟨i1, i2, i3, i4, i5, i6, i7, i8, i9, i10, i11⟩, i12, Rn, rs, n5, f2', rfl, hrs, yap_2 TW hRl (fun p hp => hq1 p (List.mem_append_left _ hp)), hq1 _ (List.mem_append_right _ (.head _)), rfl⟩⟩
    rcases List.mem_cons.mp hp with rfl | hp
    · exact .tail _ (.tail _ (.tail _ (two_out (X := [(Tl, listOf [.ref qa, .ref qb].toArray n), (qa, tupOf [.str (S w1) b1, .int (1 + cnt U2) b2, .int U2.length b3]), (qb, tupOf [.str (S w0) b4, .int (1 + cnt U1) b5, .int U1.length b6])]) _ (.head _))))
    rcases List.mem_cons.mp hp with rfl | hp
    · exact .head _
    rcases List.mem_cons.mp hp with rfl | hp
    · exact .tail _ (.tail _ (.tail _ (two_out (X := [(Tl, listOf [.ref qa, .ref qb].toArray n), (qa, tupOf [.str (S w1) b1, .int (1 + cnt U2) b2, .int U2.length b3]), (qb, tupOf [.str (S w0) b4, .int (1 + cnt U1) b5, .int U1.length b6])]) _ (.tail _ (.head _)))))
    rcases List.mem_cons.mp hp with rfl | hp
    · exact .tail _ (.tail _ (.tail _ (two_out (X := [(Tl, listOf [.ref qa, .ref qb].toArray n), (qa, tupOf [.str (S w1) b1, .int (1 + cnt U2) b2, .int U2.length b3]), (qb, tupOf [.str (S w0) b4, .int (1 + cnt U1) b5, .int U1.length b6])]) _ (.tail _ (.tail _ (.head _))))))
    · exact .tail _ (.tail _ (.tail _ (two_out (X := [(Tl, listOf [.ref qa, .ref qb].toArray n), (qa, tupOf [.str (S w1) b1, .int (1 + cnt U2) b2, .int U2.length b3]), (qb, tupOf [.str (S w0) b4, .int (1 + cnt U1) b5, .int U1.length b6])]) _ (.tail _ (.tail _ (.tail _ hp))))))
  rintro sF mF HF lF ⟨⟨i1, i2, i3, i4, i5, i6, i7, i8, i9, i10, i11⟩, i12, Rn, rs, n5, f2, i14, hrs, yRn, hRT, rfl⟩ FF NF
  k_sweep
  refine cut P L (s₀ := z) (by walk_at "LK") (fun m H => Com x1 x2 l R R' w0 w1 T1 T2 a0 a1 tk tk' m ∧ m "told" = some (.ref Tl) ∧ m "ends" = some (.ref Rn) ∧ ∃ n tvs Q t1 so e1 t2 st e2, tvs = Q.map (fun p => Value.ref p.1) ∧ TupAre Q (dsK w0 w1 U1 T1 U2 T2 2) ∧
     H = (Tl, listOf tvs.toArray n) :: (Rn, listOf rs.toArray n5) :: (Q ++ TwoH w x1 x2 c' oc (lk U1 T1 2) t1 so e1 [] f1 (lk U2 T2 2) t2 st e2 [] f2 Y)) ?_ ?_
  · intro K1 hK1
    refine for_in ?_
    walk_at "m go"
    refine' ⟨loop_range (by assumption) r.hh rfl rfl (s₀ := z) (by walk_at "LK") (by lia) (by lia) (by lia) (by lia) (n := 2) (by decide) ?LF16 ?NG16
      (fun k m H => Com x1 x2 l R R' w0 w1 T1 T2 a0 a1 tk tk' m ∧ m "told" = some (.ref Tl) ∧ m "ends" = some (.ref Rn) ∧ ∃ n tvs Q t1 so e1 t2 st e2, tvs = Q.map (fun p => Value.ref p.1) ∧ TupAre Q (dsK w0 w1 U1 T1 U2 T2 k) ∧ Sg so (rk R1 k).reverse ∧ Sg st (rk R2 k).reverse ∧ Yap x1 x2 c' Q ∧ (∀ p ∈ Q, p.1 ≠ Tl) ∧
         H = (Tl, listOf tvs.toArray n) :: (Rn, listOf rs.toArray n5) :: (Q ++ TwoH w x1 x2 c' oc (lk U1 T1 k) t1 so e1 [] f1 (lk U2 T2 k) t2 st e2 [] f2 Y)) ?LJ16 ?_ ?_⟩
    case LF16 => assumption
    case NG16 => assumption
    case LJ16 =>
      refine ⟨⟨i1, i2, i3, i4, i5, i6, i7, i8, i9, i10, i11⟩, i12, i14, n, [.ref qa, .ref qb], [(qa, tupOf [.str (S w1) b1, .int (1 + cnt U2) b2, .int U2.length b3]), (qb, tupOf [.str (S w0) b4, .int (1 + cnt U1) b5, .int U1.length b6])], t1, so, e1, t2, st, e2, rfl, .cons _ _ _ _ _ _ _ (.cons _ _ _ _ _ _ _ .nil), hso, hst, ?_, ?_, rfl⟩
      · exact (yqa.one.app yqb.one).sub (by intro p hp; simpa using hp)
      · intro p hp
        simp only [List.mem_cons, List.not_mem_nil, or_false] at hp
        rcases hp with rfl | rfl
        · exact hTq.symm
        · exact hTqb.symm
    · rintro k tv m₁ H₁ s₁ I io lI hk ⟨⟨i1, i2, i3, i4, i5, i6, i7, i8, i9, i10, i11⟩, i12, i14, n, tvs, Q, t1, so, e1, t2, st, e2, htv, hQ, hso, hst, yQ, hQT, rfl⟩ ne F₁ N₁ K2 hK2
      have hQl := hQ.length
      have hdl := dsK_len w0 w1 U1 T1 U2 T2 k
      have htl : tvs.length = Q.length := by rw [htv, List.length_map]
      obtain ⟨g1, g2, g3, g4, g5⟩ := rd_k rd1 k
      obtain ⟨g6, g7, g8, g9, g10⟩ := rd_k rd2 k
      have yI : Yap x1 x2 c' [(I, io)] := yap_ne fun p hp => ne p (.tail _ (.tail _ (List.mem_append_right _ hp)))
      have hIT : Tl ≠ I := ne _ (.head _)
      have hIR : Rn ≠ I := ne _ (.tail _ (.head _))
      have hIQ : ∀ p ∈ Q, p.1 ≠ I := fun p hp => ne p (.tail _ (.tail _ (List.mem_append_left _ hp)))
      have hIY : ∀ p ∈ Y, p.1 ≠ I := fun p hp => ne p (.tail _ (.tail _ (List.mem_append_right _ (List.mem_append_right _ (List.mem_append_right _ (.tail _ hp))))))
      have yX : Yap x1 x2 c' (([(I, io), (Tl, listOf tvs.toArray n), (Rn, listOf rs.toArray n5)] ++ Q) ++ Y) := (((yI.app yTl.one).app yRn.one).app (yQ.app yY)).sub (by intro p hp; simpa using hp)
      clear ne
      k_sweep
      refine cut P L (s₀ := z) (by walk_at "LK") (fun m H => Com x1 x2 l R R' w0 w1 T1 T2 a0 a1 tk tk' m ∧ m "told" = some (.ref Tl) ∧ m "ends" = some (.ref Rn) ∧ ∃ n tvs Q t2 st e2, tvs = Q.map (fun p => Value.ref p.1) ∧ TupAre Q (dsK w0 w1 U1 T1 U2 T2 k ++ [(wk w0 k, 1 + cnt T2, (T2.length : Int))]) ∧ Sg st [] ∧ Yap x1 x2 c' Q ∧ (∀ p ∈ Q, p.1 ≠ Tl) ∧ (∀ p ∈ Q, p.1 ≠ I) ∧
         H = (I, io) :: (Tl, listOf tvs.toArray n) :: (Rn, listOf rs.toArray n5) :: (Q ++ TwoH w x1 x2 c' oc (lk U1 T1 k) t1 so e1 [] f1 (1 + cnt T2) t2 st e2 [] f2 Y)) ?_ ?_
      · intro K1 hK1
        walk_at "m go"
        refine ⟨step_2 (F := [(I, io), (Tl, listOf tvs.toArray n), (Rn, listOf rs.toArray n5)] ++ Q) (rem := rk R2 k) (n := T2.length) (ln := 1 + cnt T2) TW (Rm.le r (Nat.le_of_ble_eq_true rfl)) G (by assumption) N₁ yX hst (by lia) ⟨g9, g10⟩ g6 (by have : cnt [] = 0 := rfl; lia) (by simp) (by walk_at "LK") ?_⟩
        intro qn t2' st' e2' k1 k2 k3 s₃ hst' l₃ F₃ N₃ yqn hF _
        have hqT : qn ≠ Tl := (hF _ (.tail _ (.head _))).symm
        have hqI : qn ≠ I := (hF _ (.head _)).symm
        have hQT' : ∀ p ∈ Q ++ [(qn, tupOf [.str (S (wk w0 k)) k1, .int (1 + cnt T2) k2, .int T2.length k3])], p.1 ≠ Tl := fun p hp => by
          rcases List.mem_append.mp hp with hp | hp
          · exact hQT p hp
          · rw [List.mem_singleton.mp hp]; exact hqT
        have hIQ' : ∀ p ∈ Q ++ [(qn, tupOf [.str (S (wk w0 k)) k1, .int (1 + cnt T2) k2, .int T2.length k3])], p.1 ≠ I := fun p hp => by
          rcases List.mem_append.mp hp with hp | hp
          · exact hIQ p hp
          · rw [List.mem_singleton.mp hp]; exact hqI
        have hall : ∀ p ∈ Q ++ TwoH w x1 x2 c' oc (lk U1 T1 k) t1 so e1 [] f1 (1 + cnt T2) t2' st' e2' [] f2 Y, p.1 ≠ Tl := fun p hp => by
          rcases List.mem_append.mp hp with hp | hp
          · exact hQT p hp
          · exact two_ne yTl hTY p hp
        simp only [List.cons_append, List.nil_append] at N₃
        k_sweep
        walk_at "m go"
        have htv' : tvs ++ [Value.ref qn] = (Q ++ [(qn, tupOf [.str (S (wk w0 k)) k1, .int (1 + cnt T2) k2, .int T2.length k3])]).map (fun p => Value.ref p.1) := by rw [List.map_append, ← htv]; rfl
        exact ⟨⟨_, sub_q, ⟨i1, i2, i3, i4, i5, i6, i7, i8, i9, i10, i11⟩, i12, i14, _, _, Q ++ [(qn, tupOf [.str (S (wk w0 k)) k1, .int (1 + cnt T2) k2, .int T2.length k3])], t2', st', e2', htv', hQ.append (.cons _ _ _ _ _ _ _ .nil), hst', (yQ.app yqn.one), hQT', hIQ', rfl⟩⟩
      rintro s₂ m₂ H₂ l₂ ⟨⟨i1, i2, i3, i4, i5, i6, i7, i8, i9, i10, i11⟩, i12, i14, n, tvs, Q, t2, st, e2, htv, hQ, hst, yQ, hQT, hIQ, rfl⟩ F₂ N₂
      have hQl := hQ.length
      rw [List.length_append, List.length_cons, List.length_nil] at hQl
      have htl : tvs.length = Q.length := by rw [htv, List.length_map]
      have yX : Yap x1 x2 c' (([(I, io), (Tl, listOf tvs.toArray n), (Rn, listOf rs.toArray n5)] ++ Q) ++ Y) := (((yI.app yTl.one).app yRn.one).app (yQ.app yY)).sub (by intro p hp; simpa using hp)
      k_sweep
      walk_at "m go"
      rename_i FI NI
      refine ⟨step_1 (F := [(I, io), (Tl, listOf tvs.toArray n), (Rn, listOf rs.toArray n5)] ++ Q) (rem := rk R1 k) (n := T1.length) (ln := 1 + cnt T1) TW (Rm.le r (Nat.le_of_ble_eq_true rfl)) G (by assumption) NI yX hso (by lia) ⟨g4, g5⟩ g1 (by have : cnt [] = 0 := rfl; lia) (by simp) (by walk_at "LK") ?_⟩
      intro qn t1' so' e1' k1 k2 k3 s₃ hso' l₃ F₃ N₃ yqn hF _
      have hqT : qn ≠ Tl := (hF _ (.tail _ (.head _))).symm
      have hqI : qn ≠ I := (hF _ (.head _)).symm
      have hQT' : ∀ p ∈ Q ++ [(qn, tupOf [.str (S (wk w1 k)) k1, .int (1 + cnt T1) k2, .int T1.length k3])], p.1 ≠ Tl := fun p hp => by
        rcases List.mem_append.mp hp with hp | hp
        · exact hQT p hp
        · rw [List.mem_singleton.mp hp]; exact hqT
      have hIQ' : ∀ p ∈ Q ++ [(qn, tupOf [.str (S (wk w1 k)) k1, .int (1 + cnt T1) k2, .int T1.length k3])], p.1 ≠ I := fun p hp => by
        rcases List.mem_append.mp hp with hp | hp
        · exact hIQ p hp
        · rw [List.mem_singleton.mp hp]; exact hqI
      have hall : ∀ p ∈ Q ++ TwoH w x1 x2 c' oc (1 + cnt T1) t1' so' e1' [] f1 (1 + cnt T2) t2 st e2 [] f2 Y, p.1 ≠ Tl := fun p hp => by
        rcases List.mem_append.mp hp with hp | hp
        · exact hQT p hp
        · exact two_ne yTl hTY p hp
      simp only [List.cons_append, List.nil_append] at N₃
      k_sweep
      walk_at "m go"
      have htv' : tvs ++ [Value.ref qn] = (Q ++ [(qn, tupOf [.str (S (wk w1 k)) k1, .int (1 + cnt T1) k2, .int T1.length k3])]).map (fun p => Value.ref p.1) := by rw [List.map_append, ← htv]; rfl
      refine ⟨⟨_, sub_q, ?_, ⟨i1, i2, i3, i4, i5, i6, i7, i8, i9, i10, i11⟩, i12, i14, _, _, Q ++ [(qn, tupOf [.str (S (wk w1 k)) k1, .int (1 + cnt T1) k2, .int T1.length k3])], t1', so', e1', t2, st, e2, htv', ?_, hso', hst, (yQ.app yqn.one), hQT', rfl⟩⟩
      · intro p hp
        rcases List.mem_cons.mp hp with rfl | hp
        · exact hIT
        rcases List.mem_cons.mp hp with rfl | hp
        · exact hIR
        rcases List.mem_append.mp hp with hp | hp
        · exact hIQ' p hp
        · exact two_ne yI hIY p hp
      · have e := hQ.append (TupAre.cons qn (wk w1 k) (1 + cnt T1) T1.length k1 k2 k3 .nil)
        rw [List.append_assoc] at e
        exact e
    · rintro m₁ H₁ s₁ l₁ ⟨⟨i1, i2, i3, i4, i5, i6, i7, i8, i9, i10, i11⟩, i12, i14, n, tvs, Q, t1, so, e1, t2, st, e2, htv, hQ, hso, hst, yQ, hQT, rfl⟩ F₁ N₁
      refine Imp2.go (by assumption) ?_; exact CutQ.next l₁ F₁ N₁ ⟨_, Sub.rfl', ⟨i1, i2, i3, i4, i5, i6, i7, i8, i9, i10, i11⟩, i12, i14, n, tvs, Q, t1, so, e1, t2, st, e2, htv, hQ, rfl⟩
  rintro sG mG HG lG ⟨⟨i1, i2, i3, i4, i5, i6, i7, i8, i9, i10, i11⟩, i12, i14, n, tvs, Q, t1, so, e1, t2, st, e2, htv, hQ, rfl⟩ FG NG
  subst htv
  have inY : ∀ p ∈ Y, p ∈ (Tl, listOf (Q.map fun p => Value.ref p.1).toArray n) :: (Rn, listOf rs.toArray n5) :: (Q ++ TwoH w x1 x2 c' oc (lk U1 T1 2) t1 so e1 [] f1 (lk U2 T2 2) t2 st e2 [] f2 Y) := fun p hp => .tail _ (.tail _ (List.mem_append_right _ (List.mem_append_right _ (List.mem_append_right _ (.tail _ hp)))))
  have hRL : Rn ≠ L + 1 := News.ne_data NG (o := listOf rs.toArray n5) (o' := ci) (.tail _ (.head _)) (inY _ (zY _ z3)) (by rw [hci]; intro h; cases h)
  have NH := subN NG (A := (R', listOf [.ref q3, .ref q4, .ref q5].toArray e') :: (R, listOf [.ref q0, .ref q1, .ref q2].toArray e) :: (Tl, listOf (Q.map fun p => Value.ref p.1).toArray n) :: (Rn, listOf rs.toArray n5) :: (Q ++ TwoH w x1 x2 c' oc (lk U1 T1 2) t1 so e1 [] f1 (lk U2 T2 2) t2 st e2 [] f2 Y)) (fun p hp => by
    rcases List.mem_cons.mp hp with rfl | hp
    · exact inY _ (zY _ (z2 _ (.head _)))
    rcases List.mem_cons.mp hp with rfl | hp
    · exact inY _ (zY _ (z1 _ (.head _)))
    exact hp)
  clear NG
  k_sweep
  refine cut P L (s₀ := z) (by walk_at "LK") (fun m H => (m "script" = some (.ref l) ∧ m "u" = some (.str (S w0) a0) ∧ m "v" = some (.str (S w1) a1) ∧ m "ends" = some (.ref Rn)) ∧ H = (L + 1, ci) :: [(72, tabObj (ltab c')), (c', oc), (Rn, listOf rs.toArray n5)]) ?_ ?_
  · intro K1 hK1
    walk_at "m go"
    rename_i K _ _ NK nK
    have hun : A.units + 64 < cLine := by have := r.un; unfold cLine; lia
    have inK : ∀ p ∈ Y, p ∈ (K, listOf [.ref q3, .ref q0, .ref q4, .ref q1, .ref q5, .ref q2].toArray 0) :: (R', listOf [.ref q3, .ref q4, .ref q5].toArray e') :: (R, listOf [.ref q0, .ref q1, .ref q2].toArray e) :: (Tl, listOf (Q.map fun p => Value.ref p.1).toArray n) :: (Rn, listOf rs.toArray n5) :: (Q ++ TwoH w x1 x2 c' oc (lk U1 T1 2) t1 so e1 [] f1 (lk U2 T2 2) t2 st e2 [] f2 Y) := fun p hp => .tail _ (.tail _ (.tail _ (inY p hp)))
    have hR : TupAre [(q3, tupOf [.str (S w1) k1, .int (1 + cnt U2) k2, .int U2.length k3]), (q0, tupOf [.str (S w0) c1, .int (1 + cnt U1) c2, .int U1.length c3]), (q4, tupOf [.str (S w0) k4, .int (1 + cnt T2) k5, .int T2.length k6]), (q1, tupOf [.str (S w1) c4, .int (1 + cnt T1) c5, .int T1.length c6]), (q5, tupOf [.str (S []) k7, .int (1 + cnt T2) k8, .int T2.length k9]), (q2, tupOf [.str (S []) c7, .int (1 + cnt T1) c8, .int T1.length c9])] (dsK w0 w1 U1 T1 U2 T2 2) := .cons _ _ _ _ _ _ _ (.cons _ _ _ _ _ _ _ (.cons _ _ _ _ _ _ _ (.cons _ _ _ _ _ _ _ (.cons _ _ _ _ _ _ _ (.cons _ _ _ _ _ _ _ .nil)))))
    have sR : Sub [(q3, tupOf [.str (S w1) k1, .int (1 + cnt U2) k2, .int U2.length k3]), (q0, tupOf [.str (S w0) c1, .int (1 + cnt U1) c2, .int U1.length c3]), (q4, tupOf [.str (S w0) k4, .int (1 + cnt T2) k5, .int T2.length k6]), (q1, tupOf [.str (S w1) c4, .int (1 + cnt T1) c5, .int T1.length c6]), (q5, tupOf [.str (S []) k7, .int (1 + cnt T2) k8, .int T2.length k9]), (q2, tupOf [.str (S []) c7, .int (1 + cnt T1) c8, .int T1.length c9])] Y := by
      intro p hp
      simp only [List.mem_cons, List.not_mem_nil, or_false] at hp
      rcases hp with rfl | rfl | rfl | rfl | rfl | rfl
      · exact zY _ (z2 _ (.tail _ (.head _)))
      · exact zY _ (z1 _ (.tail _ (.head _)))
      · exact zY _ (z2 _ (.tail _ (.tail _ (.head _))))
      · exact zY _ (z1 _ (.tail _ (.tail _ (.head _))))
      · exact zY _ (z2 _ (.tail _ (.tail _ (.tail _ (.head _)))))
      · exact zY _ (z1 _ (.tail _ (.tail _ (.tail _ (.head _)))))
    refine ⟨ne_told (D := Tl) (K := K) (Q := Q) (R := [(q3, tupOf [.str (S w1) k1, .int (1 + cnt U2) k2, .int U2.length k3]), (q0, tupOf [.str (S w0) c1, .int (1 + cnt U1) c2, .int U1.length c3]), (q4, tupOf [.str (S w0) k4, .int (1 + cnt T2) k5, .int T2.length k6]), (q1, tupOf [.str (S w1) c4, .int (1 + cnt T1) c5, .int T1.length c6]), (q5, tupOf [.str (S []) k7, .int (1 + cnt T2) k8, .int T2.length k9]), (q2, tupOf [.str (S []) c7, .int (1 + cnt T1) c8, .int T1.length c9])]) NK (.tail _ (.tail _ (.tail _ (.head _)))) (.head _) hQ hR (fun p hp => .tail _ (.tail _ (.tail _ (.tail _ (.tail _ (List.mem_append_left _ hp)))))) (fun p hp => inK p (sR p hp)) (ds_ok al0 al1 _) hun ?_⟩
    walk_at "m go"
    exact ⟨⟨_, Sub.consm (inK _ (zY _ z3)) (Sub.consm (inK _ m72) (Sub.consm (.tail _ (.tail _ (.tail _ (.tail _ (.tail _ (List.mem_append_right _ (List.mem_append_right _ (List.mem_append_right _ (.head _))))))))) (Sub.consm (.tail _ (.tail _ (.tail _ (.tail _ (.head _))))) Sub.nil))), ⟨i1, i2, i3, i14⟩, rfl⟩⟩
  rintro sH mH HH lH ⟨⟨i1, i2, i3, i14⟩, rfl⟩ FH NH
  have hi63 := hI.length
  have hrl : rs.length = 4 * w1.length := by rw [hrs.length, endsF_len _ _ _ (by unfold line0; rw [List.length_map, List.length_range, marks_len]), marks_len]
  have hcL : c' ≠ L + 1 := fun e => (yY _ (zY _ z3)).2.2 e.symm
  have cell0 : ci.data = .cell none := hci'
  k_sweep
  refine cut P L (s₀ := z) (by walk_at "LK") (fun m H => (m "script" = some (.ref l) ∧ m "u" = some (.str (S w0) a0) ∧ m "v" = some (.str (S w1) a1) ∧ m "ends" = some (.ref Rn)) ∧ H = [(72, tabObj (ltab c')), (c', oc), (Rn, listOf rs.toArray n5)]) ?_ ?_
  · intro K1 hK1
    refine for_in ?_
    walk_at "m go"
    refine' ⟨loop_rangeC (c := L + 1) (co := ci) (v₀ := none) (by assumption) r.hh rfl rfl rfl (s₀ := z) (by walk_at "LK") (by lia) (by lia) (by lia) (by lia) (n := w1.length + 1) (by lia) ?LF18 ?NG18 cell0 ?NE18
      (fun k m H => (m "script" = some (.ref l) ∧ m "u" = some (.str (S w0) a0) ∧ m "v" = some (.str (S w1) a1) ∧ m "ends" = some (.ref Rn)) ∧ H = [(72, tabObj (ltab c')), (c', oc), (Rn, listOf rs.toArray n5)]) ?LJ18 ?_ ?_⟩
    case LF18 => assumption
    case NG18 => assumption
    case NE18 =>
      intro p hp
      simp only [List.mem_cons, List.not_mem_nil, or_false] at hp
      rcases hp with rfl | rfl | rfl
      · exact c72.symm
      · exact hcL
      · exact hRL
    case LJ18 => exact ⟨⟨i1, i2, i3, i14⟩, rfl⟩
    · rintro i tv m₁ H₁ s₁ I io co lI hi ⟨⟨i1, i2, i3, i14⟩, rfl⟩ ne hIc hco F₁ N₁ K2 hK2
      have e0 : (0 : Int) + i = i := by lia
      rw [e0] at hco
      k_sweep
      walk_at "m go"
      refine ⟨wpAny_execs_cons (for_in ?_)⟩
      walk_at "m go"
      refine' ⟨loop_range (by assumption) r.hh rfl rfl (s₀ := z) (by walk_at "LK") (by lia) (by lia) (by lia) (by lia) (n := w1.length + 1 - i) (by lia) ?LF19 ?NG19
        (fun k m H => (m "script" = some (.ref l) ∧ m "u" = some (.str (S w0) a0) ∧ m "v" = some (.str (S w1) a1) ∧ m "ends" = some (.ref Rn)) ∧ H = (I, io) :: (L + 1, co) :: [(72, tabObj (ltab c')), (c', oc), (Rn, listOf rs.toArray n5)]) ?LJ19 ?_ ?_⟩
      case LF19 => assumption
      case NG19 => assumption
      case LJ19 => exact ⟨⟨i1, i2, i3, i14⟩, rfl⟩
      · rintro k tj m₂ H₂ s₂ I2 io2 lJ hk ⟨⟨i1, i2, i3, i14⟩, rfl⟩ ne2 F₂ N₂ K2 hK2
        obtain ⟨j, hj⟩ : ∃ j : Nat, j = i + k := ⟨_, rfl⟩
        have e1 : (i : Int) + (k : Int) = (j : Int) := by lia
        rw [e1] at F₂
        simp only [List.forall_mem_cons, List.not_mem_nil, false_implies, implies_true, and_true] at ne2
        obtain ⟨n1', n2', n3', n4', n5'⟩ := ne2
        k_sweep
        refine cut P L (s₀ := z) (by walk_at "LK") (fun m H => (m "script" = some (.ref l) ∧ m "u" = some (.str (S w0) a0) ∧ m "v" = some (.str (S w1) a1) ∧ m "ends" = some (.ref Rn)) ∧ m "j" = some (.int j tj) ∧ (∃ tc, m "cost" = some (.int (dist w0 ((w1.take j).drop i)) tc)) ∧ H = (I2, io2) :: (I, io) :: (L + 1, co) :: [(72, tabObj (ltab c')), (c', oc), (Rn, listOf rs.toArray n5)]) ?_ ?_
        · intro K1 hK1
          walk_at "m go"
          refine ⟨comp_in rfl rfl (by decide) ?_⟩
          walk_at "m go"
          rename_i R2 ws h2 F5 N5 hws _ _ nR2
          have e4 : (4 * (j : Int)).toNat = 4 * j := by lia
          rw [e4] at hws
          have hlaw := ends_law al0 al1 (i := i) (j := j) (by lia) (by lia)
          have hwl := hws.length
          rw [List.length_take] at hwl
          have hel := List.length_take_le (4 * j) (endsF (marks w0) (marks w1) (line0 (4 * w1.length)))
          generalize (endsF (marks w0) (marks w1) (line0 (4 * w1.length))).take (4 * j) = es at hws hlaw hwl hel
          refine ⟨comp_ll (n := 0) (D := R2) (vs := ws) (z := z) (by decide) rfl rfl r.hh (by walk_at "LK") (by lia) F5 N5 (.head _)
            (fun q ys H => IntsAre ys ((es.take q).filter fun x => decide (4 * (i : Int) ≤ x)) ∧ H = _) ?_ ?_ ⟨.nil, rfl⟩ ?_ ?_⟩
          · rintro q ys H ⟨_, rfl⟩
            exact .head _
          · rintro q ys H ⟨hy, rfl⟩
            have := hy.length
            have h2 := List.length_filter_le (fun x => decide (4 * (i : Int) ≤ x)) (es.take q)
            rw [List.length_take] at h2
            lia
          · rintro q v ys C s₇ m₇ H₇ own l₇ hv ⟨hy, rfl⟩ F₇ N₇ ap₇
            obtain ⟨x, tx, hx, rfl⟩ := ints_at hws hv
            have hcm : (L + 1, co) ∈ own ++ [(R2, listOf ws.toArray 0), (I2, io2), (I, io), (L + 1, co), (72, tabObj (ltab c')), (c', oc), (Rn, listOf rs.toArray n5)] := List.mem_append_right _ (.tail _ (.tail _ (.tail _ (.head _))))
            refine wpAny_tests_one ?_
            repeat' (first | refine comp_ld (by assumption) (by exact rfl) ?_ | refine comp_cl (by assumption) (by exact rfl) (by assumption) (by assumption) ?_ | walk1)
            · exact CompEnd.intro (by walk_at "LK") (by assumption) N₇ ⟨⟨_, Sub.rfl', ap₇, filt_yes hy hx (by assumption) _, rfl⟩⟩
            · exact CompEnd.intro (by walk_at "LK") (by assumption) N₇ ⟨⟨_, Sub.rfl', ap₇, filt_no hy hx (by assumption), rfl⟩⟩
          · rintro ER n6 ys H₇ s₇ l₇ ⟨hy, rfl⟩ F₇ N₇ ap₇
            rw [hws.length, List.take_length] at hy
            have hyl := hy.length
            have h2 := List.length_filter_le (fun x => decide (4 * (i : Int) ≤ x)) es
            k_sweep
            walk_at "m go"
            exact ⟨⟨_, Sub.rfl'.tail.tail, ⟨i1, i2, i3, i14⟩, rfl, ⟨_, congrArg (fun x => some (Value.int x _)) hlaw⟩, rfl⟩⟩
        rintro s₃ m₃ H₃ l₃ ⟨⟨i1, i2, i3, i14⟩, i15, ⟨tc, i16⟩, rfl⟩ F₃ N₃
        have hd0 : 0 ≤ dist w0 ((w1.take j).drop i) := dist_nonneg _ _
        have hd1 : dist w0 ((w1.take j).drop i) ≤ 1000 := by
          have hlaw := ends_law al0 al1 (i := i) (j := j) (by lia) (by lia)
          have h2 := List.length_filter_le (fun x => decide (4 * (i : Int) ≤ x)) ((endsF (marks w0) (marks w1) (line0 (4 * w1.length))).take (4 * j))
          rw [List.length_take] at h2
          lia
        have hsl : ((w1.take j).drop i).length ≤ 8 := by rw [List.length_drop, List.length_take]; lia
        generalize hdd : dist w0 ((w1.take j).drop i) = dd at *
        k_sweep
        refine cut P L (s₀ := z) (by walk_at "LK") (fun m H => (m "script" = some (.ref l) ∧ m "u" = some (.str (S w0) a0) ∧ m "v" = some (.str (S w1) a1) ∧ m "ends" = some (.ref Rn)) ∧ m "j" = some (.int j tj) ∧ m "cost" = some (.int dd tc) ∧ ∃ Pr wa wb ta tb n7, m "pair" = some (.ref Pr) ∧ wa.length ≤ 8 ∧ wb.length ≤ 8 ∧ dist wa wb = dd ∧ H = (Pr, listOf [.str (S wa) ta, .str (S wb) tb].toArray n7) :: (I2, io2) :: (I, io) :: (L + 1, co) :: [(72, tabObj (ltab c')), (c', oc), (Rn, listOf rs.toArray n5)]) ?_ ?_
        · intro K1 hK1
          walk_at "m go"
          · exact ⟨⟨_, Sub.rfl', ⟨i1, i2, i3, i14⟩, i15, i16, _, w0, _, a0, _, 0, rfl, b0, hsl, hdd, rfl⟩⟩
          · exact ⟨⟨_, Sub.rfl', ⟨i1, i2, i3, i14⟩, i15, i16, _, _, w0, _, a0, 0, rfl, hsl, b0, by rw [dist_comm]; exact hdd, rfl⟩⟩
        rintro s₄ m₄ H₄ l₄ ⟨⟨i1, i2, i3, i14⟩, i15, i16, Pr, wa, wb, ta, tb, n7, i17, hwa, hwb, hdw, rfl⟩ F₄ N₄
        have hf3 := fmod3 ((i : Int) + j + nums.length)
        have hT : ∀ M, M < big → Tells dd M (levF wa wb M) := fun M hM => hdw ▸ levF_ok wa wb M hM
        k_sweep
        walk_at "m go"
        refine ⟨call_spec (H := []) (told_s (by lia) (by lia) ⟨hd0, hd1⟩ (hT _ (by unfold big; lia))) (Rm.le r (Nat.le_of_ble_eq_true rfl)) G (by assumption) (by assumption) (fun p hp => hp) (fun _ _ _ hq => (nomatch hq)) (by walk_at "LK") ?_⟩
        rintro v H' s₅ rfl l₅ F₅ N₅ ap₅
        replace N₅ := subN N₅ (fun p hp => List.mem_append_right _ hp)
        k_sweep
        walk_at "m go"
        refine ⟨⟨_, Sub.rfl'.tail, ?_, ⟨i1, i2, i3, i14⟩, rfl⟩⟩
        simp only [List.forall_mem_cons, List.not_mem_nil, false_implies, implies_true, and_true]
        exact ⟨n1', n2', n3', n4', n5'⟩
      · rintro m₂ H₂ s₂ l₂ ⟨⟨i1, i2, i3, i14⟩, rfl⟩ F₂ N₂
        k_sweep
        walk_at "m go"
        refine LoopEnd.next2 (H := [(72, tabObj (ltab c')), (c', oc), (Rn, listOf rs.toArray n5)]) (by walk_at "LK") F₂ N₂ ?_ ⟨⟨i1, i2, i3, i14⟩, rfl⟩
        intro p hp
        refine ⟨ne p hp |>.1, ?_⟩
        exact (ne p hp).2
    · rintro m₁ H₁ s₁ l₁ ⟨⟨i1, i2, i3, i14⟩, rfl⟩ F₁ N₁
      refine Imp2.go (by assumption) ?_; exact CutQ.next l₁ F₁ N₁ ⟨_, Sub.rfl', ⟨i1, i2, i3, i14⟩, rfl⟩
  rintro sI mI HI lI ⟨⟨i1, i2, i3, i14⟩, rfl⟩ FI NI
  k_sweep
  walk_at "m go"
  exact ⟨⟨rfl, c', oc, vs1, tq, _, d1, d2, hc72, rfl⟩⟩
end
section
def as : List Addr := [2, 3, 6, 15, 17, 18, 20, 21, 22, 24, 25, 27, 28, 36, 38, 39, 41, 42, 43, 45, 46, 48, 49, 50, 52, 53, 55, 56, 57, 59, 60, 62, 63, 64, 65, 66, 67, 68, 71, 73, 74, 76, 77, 78, 80, 81, 83, 84, 85, 87, 88, 90, 91, 92, 94, 95, 97, 98, 99, 101, 102, 104, 105, 106, 109, 110, 111, 113, 114, 116, 117, 118, 121, 122, 123, 125, 126, 128, 129]
theorem wkAll : ∀ d, defOf vw PySem.Challenge.rw_pm0020_01.row.name = some (d, []) → WalkO vw [] (XL vw []) (kmHook hk.heap_1
        as (fun _ => by kernel_rfl) [72]).says PySem.Challenge.rw_pm0020_01.row.toRowW d [] fun f vs => PySem.call f vs := by
  intro d hd
  have e := (rfl : defOf vw PySem.Challenge.rw_pm0020_01.row.name = some (_, _))
  obtain rfl : _ = d := (Prod.mk.inj (Option.some.inj (e.symm.trans hd))).1
  clear hd e
  k_go0
  walk_at "m go"
  rename_i w0 s0 s1 mg mb G0 Y0 fa o pm cd doc kV ho hcd hg X V T B TE TW nums hs hlay hL1 hr1 hl2 as1 as2 l vs as3 hL ra w1 r0 hI hr hc1 hc2 hD h1 X1 T1 K1 F1 N1 l0
  refine ⟨wpAny_call (codeAny_mono (run_s hI (by lia) _ _ _ ⟨rfl, Nat.le_of_ble_eq_true rfl, Nat.le_of_ble_eq_true rfl⟩ ⟨X1, ⟨_, _, _, _, _, T1⟩, codeHd⟩ lifted F1.keep (Nat.le_trans F1.above (Nat.le_of_lt F1.ns.lt)) (fun p hp => ⟨(N1 p hp).1, (N1 p hp).2.2⟩)) ?_)⟩
  rintro r s' ⟨v, H', rfl, lk, keep, led, rfl, c', oc, vs1, tq, H₂, d1, d2, hc, rfl⟩
  refine ⟨⟨.inl ⟨_, .bool true, [], rfl, fun _ => rfl, .bool true, postW_of (X := true) rfl (by first | rfl | with_unfolding_all rfl | decide) rfl, fun _ => ⟨List.nodup_nil, fun _ h => (nomatch h)⟩⟩, keep, lk.2.2, lk.1.trans hg⟩, ⟨_, (led _ (.head _)).1⟩, True.intro⟩
end
section
open PySem PySem.W PyProof.Rows
def hd.tw6019021122589006684 : Unit := ()
def hd.tw10458740792067480800 : Unit := ()
def hd.tw11117797201346649052 : Unit := ()
def hd.tw15790720579355451973 : Unit := ()
def hd.tw3039998526598829958 : Unit := ()
def hd.tw6407587892757256292 : Unit := ()
def hd.tw4494801613693538912 : Unit := ()
def hd.tw3451239065008710300 : Unit := ()
def hd.tw17650839729002327288 : Unit := ()
def hd.tw6060742912462422084 : Unit := ()
def hd.tw2930668341846507884 : Unit := ()
def hd.tw15616948245753086127 : Unit := ()
def hd.tw7914949630228597729 : Unit := ()
def hd.tw6785817131721698500 : Unit := ()
def hd.tw6082411064634330575 : Unit := ()
def hd.tw3789350110615891812 : Unit := ()
def hd.tw15967140613478806237 : Unit := ()
def hd.tw6291416237084387574 : Unit := ()
def hd.tw11232374478483605306 : Unit := ()
def hd.tw5373601922739893978 : Unit := ()
def hd.tw11465210709893060100 : Unit := ()
def hd.tw5978321128707920903 : Unit := ()
def hd.tw22551697357593593 : Unit := ()
def hd.tw2867327485932766208 : Unit := ()
def hd.tw1011335219593555734 : Unit := ()
def hd.tw10601615944963115059 : Unit := ()
def hd.tw14103535550066685397 : Unit := ()
def hd.tw4478166936697009375 : Unit := ()
def hd.tw11136197038861592535 : Unit := ()
def hd.tw5961118342813265553 : Unit := ()
def hd.tw8343274005884668182 : Unit := ()
def hd.tw18300207936620678264 : Unit := ()
def hd.tw5148922909946612681 : Unit := ()
def hd.tw10792051664901133789 : Unit := ()
def hd.tw7754304195085646258 : Unit := ()
def hd.tw4272726840584523970 : Unit := ()
def hd.tw2114630138375439770 : Unit := ()
def hd.tw11893437276241958245 : Unit := ()
def hd.tw13855881374063213867 : Unit := ()
def hd.tw18322514126500204803 : Unit := ()
def hd.tw16194383521188589630 : Unit := ()
def hd.tw3259873300814134281 : Unit := ()
def hd.tw17096064922765204443 : Unit := ()
def hd.tw13267510147771200024 : Unit := ()
def hd.tw2708950531961675432 : Unit := ()
def hd.tw2068664650715991707 : Unit := ()
def hd.tw9719896912496429819 : Unit := ()
def hd.tw11660266114150955751 : Unit := ()
def hd.tw4086058157674990017 : Unit := ()
def hd.tw12271959270614036898 : Unit := ()
def hd.tw10111801491309104144 : Unit := ()
def hd.tw6411954120941647267 : Unit := ()
def hd.tw15089522573102190283 : Unit := ()
def hd.tw16091413853298234908 : Unit := ()
def hd.tw12070051907170230399 : Unit := ()
def hd.tw17950676927832955104 : Unit := ()
def hd.tw4402725079659364252 : Unit := ()
def hd.tw9170477692918782315 : Unit := ()
def hd.tw4115565904173853331 : Unit := ()
def hd.tw5190246844813560578 : Unit := ()
def hd.tw3219085151875037572 : Unit := ()
def hd.tw2312034457802059207 : Unit := ()
def hd.tw16634568088961857937 : Unit := ()
def hd.tw11953376511379268794 : Unit := ()
def hd.tw16259696140248634718 : Unit := ()
def hd.tw9047697795986300495 : Unit := ()
def hd.tw4225703048834024713 : Unit := ()
def hd.tw10170382586518783626 : Unit := ()
def hd.tw9277588360372424766 : Unit := ()
def hd.tw15759970867653108152 : Unit := ()
def hd.tw17699125900338286826 : Unit := ()
def hd.tw6767318904944593275 : Unit := ()
def hd.tw1600037746751723098 : Unit := ()
def hd.tw17673860158736603733 : Unit := ()
def hd.tw3646829019195819677 : Unit := ()
def hd.tw12487502673411948298 : Unit := ()
def hd.tw6293948785866598258 : Unit := ()
def hd.tw10258999931320997221 : Unit := ()
def hd.tw14246236162039180721 : Unit := ()
def hd.tw12023040214023829324 : Unit := ()
def hd.tw6196171512934965099 : Unit := ()
def hd.tw16945582573551092051 : Unit := ()
def hd.tw8735263284916673568 : Unit := ()
def hd.tw12901994302517312135 : Unit := ()
def hd.tw17087091549796120035 : Unit := ()
def hd.tw978945382295711627 : Unit := ()
def hd.tw361874862225718299 : Unit := ()
def hd.tw8959176491354863721 : Unit := ()
def hd.tw13828106393651249627 : Unit := ()
def hd.tw6820862383352777685 : Unit := ()
def hd.tw13828240740295788161 : Unit := ()
def hd.tw9673543361469618366 : Unit := ()
def hd.tw11210553801493137410 : Unit := ()
def hd.tw7028611270464810887 : Unit := ()
def hd.tw16432713993328977331 : Unit := ()
def hd.tw16879956485299554121 : Unit := ()
def hd.tw6305734824756694309 : Unit := ()
def hd.tw8458067239894703972 : Unit := ()
def hd.tw6276725880618359904 : Unit := ()
def hd.tw14168552714766633299 : Unit := ()
def hd.tw17672654358674132775 : Unit := ()
def hd.tw14727110085682223627 : Unit := ()
def hd.tw15595854959937240912 : Unit := ()
def hd.tw16056359734778111409 : Unit := ()
def hd.tw14310624532144728618 : Unit := ()
def hd.tw3673089383077640791 : Unit := ()
def hd.tw512641396559190090 : Unit := ()
def hd.tw4360684699965382250 : Unit := ()
def hd.tw17542962492245011380 : Unit := ()
def hd.tw16037735763661986305 : Unit := ()
def hd.tw3493717111155160527 : Unit := ()
def hd.tw3530705653197291679 : Unit := ()
def hd.tw5511420028821071320 : Unit := ()
def hd.tw6555240042291301478 : Unit := ()
def hd.tw8226494294326810461 : Unit := ()
def hd.tw15833661619300960221 : Unit := ()
def hd.tw5567388512258382067 : Unit := ()
def hd.tw3571134770919094901 : Unit := ()
def hd.tw13330244855972007585 : Unit := ()
set_option Elab.async true
theorem hd : PySem.Challenge.rw_pm0020_01.Holds := by
  w_on
  o_law
  o_head (kmHook hk.heap_1
        as (fun _ => by kernel_rfl) [72])
  case hw => w_witness2
  exact wkAll _ (by rfl)
set_option Elab.async false
end
end Mine
set_option maxHeartbeats 40000000 in
theorem PySem.Challenge.cw_pm0020_01_holds : PySem.Challenge.rw_pm0020_01.Holds := by
  exact Mine.hd
