/- A part of a calculus over heaps: what the steps of the Go model compute, told by terms that the kernel reduces. Nothing of the law is stated here. -/
import Derived.Test.YtibleenkgmkpmaaDoorVc11
namespace Go.Vc
variable {P : Program} {σ : Type}

/-! ### Statements as predicate transformers over a state of the function's own -/
inductive Ex where
  | norm
  | exit (id : Nat)
  | ret

abbrev Stm (σ : Type) := σ → Heap → (Ex → σ → Heap → Prop) → Prop

def Stm.reg (r : σ → Heap → (σ → Heap → Prop) → Prop) : Stm σ := fun s h Q => r s h fun s h => Q .norm s h
/-- Behind the first of two statements. -/
def SK (b : Stm σ) (Q : Ex → σ → Heap → Prop) : Ex → σ → Heap → Prop
  | .norm, s, h => b s h Q
  | .exit i, s, h => Q (.exit i) s h
  | .ret, s, h => Q .ret s h
def Stm.seq (a b : Stm σ) : Stm σ := fun s h Q => a s h (SK b Q)
def Stm.cond (c : σ → Bool) (a b : Stm σ) : Stm σ := fun s h Q => if c s = true then a s h Q else b s h Q
/-- A region that ends in a test. -/
def Stm.test (r : σ → Heap → (Bool → σ → Heap → Prop) → Prop) (a b : Stm σ) : Stm σ := fun s h Q => r s h fun c s h => if c = true then a s h Q else b s h Q
/-- Behind a block. -/
def BK (id : Nat) (Q : Ex → σ → Heap → Prop) : Ex → σ → Heap → Prop
  | .norm, s, h => Q .norm s h
  | .exit i, s, h => if i = id then Q .norm s h else Q (.exit i) s h
  | .ret, s, h => Q .ret s h
def Stm.block (id : Nat) (a : Stm σ) : Stm σ := fun s h Q => a s h (BK id Q)
/-- Behind a round. -/
def LK (I : σ → Heap → Prop) (μ : σ → Heap → Nat) (m : Nat) (Q : Ex → σ → Heap → Prop) : Ex → σ → Heap → Prop
  | .norm, s, h => I s h ∧ μ s h < m
  | .exit i, s, h => Q (.exit i) s h
  | .ret, s, h => Q .ret s h
def Stm.loop (a : Stm σ) : Stm σ := fun s h Q => ∃ (I : σ → Heap → Prop) (μ : σ → Heap → Nat), I s h ∧ ∀ s h, I s h → a s h (LK I μ (μ s h) Q)
def Stm.exit (id : Nat) : Stm σ := fun s h Q => Q (.exit id) s h
def Stm.ret : Stm σ := fun s h Q => Q .ret s h
def Stm.skip : Stm σ := fun s h Q => Q .norm s h

/-- A point of a function's text: what its frame holds there, and how a frame is read back into a state. -/
structure Pt (σ : Type) where
  env : σ → Env
  fin : Env → σ → (σ → Prop) → Prop
  ok : ∀ {e : Env} {s : σ} {K : σ → Prop}, fin e s K → ∃ s', SubP (env s') e ∧ K s'

def SimPost (n : Nat) (B : Pt σ) (E : Ex → Pt σ) (w : World) (Q : Ex → σ → Heap → Prop) : Exit → Act → World → Prop
  | .normal, a, w' => ∃ s, Alike w w' ∧ Rel n (B.env s) a ∧ Q .norm s w'.heap
  | .exit i, a, w' => ∃ s, Alike w w' ∧ Rel n ((E (.exit i)).env s) a ∧ Q (.exit i) s w'.heap
  | .ret, a, w' => ∃ s, Alike w w' ∧ Rel n ((E .ret).env s) a ∧ Q .ret s w'.heap
  | _, _, _ => False

/-- The code does what the statement says. -/
def Sim (P : Program) (n : Nat) (A : Pt σ) (c : Code) (m : Stm σ) (B : Pt σ) (E : Ex → Pt σ) : Prop :=
  ∀ (s : σ) (a : Act) (w : World) (Q : Ex → σ → Heap → Prop), Rel n (A.env s) a → m s w.heap Q → c.wp P (SimPost n B E w Q) a w

section
variable {n : Nat} {A B C : Pt σ} {E : Ex → Pt σ}

theorem SimPost.noPanic {w : World} {Q : Ex → σ → Heap → Prop} : ∀ (c : List PanicEntry) (a : Act) (w' : World), ¬ SimPost n B E w Q (.panic c) a w' := fun _ _ _ h => h

theorem Sim.reg {id : Nat} {ops : Array Oper} {draw : Bool} {r : σ → Heap → (σ → Heap → Prop) → Prop}
    (hr : ∀ s h Q, regVC P n draw ops.toList (A.env s) h (fun e h' => B.fin e s fun s' => Q s' h') = r s h Q) : Sim P n A (.region id ops draw) (.reg r) B E := by
  intro s a w Q hrel hm
  have hm' : r s w.heap fun s h => Q .norm s h := hm
  rw [← hr] at hm'
  refine regVC_sound hrel rfl SimPost.noPanic hm' ?_
  intro e' a' w' hr' hal hK
  obtain ⟨s', hs, hQ⟩ := B.ok hK
  exact ⟨s', hal, hr'.sub hs, hQ⟩

theorem SimPost.trans {w₁ w : World} {Q : Ex → σ → Heap → Prop} (hal : Alike w w₁) {e : Exit} {a : Act} {w' : World} (h : SimPost n C E w₁ Q e a w') : SimPost n C E w Q e a w' := by
  cases e <;> simp only [SimPost] at h ⊢
  all_goals
    obtain ⟨s, h1, h2⟩ := h
    exact ⟨s, hal.trans h1, h2⟩

theorem Sim.seq {c d : Code} {a b : Stm σ} (ha : Sim P n A c a B E) (hb : Sim P n B d b C E) : Sim P n A (.seq c d) (.seq a b) C E := by
  intro s act w Q hrel hm
  refine wp_seq (wp_mono (ha s act w _ hrel hm) ?_)
  intro e a' w' hp
  cases e <;> simp only [SimPost, Exit.then, SK] at hp ⊢
  · obtain ⟨s', hal, hr', hq⟩ := hp
    exact wp_mono (hb s' a' w' Q hr' hq) fun e a w h => SimPost.trans hal h
  · exact hp
  · exact hp

theorem Sim.cond {x : Operand} {c d : Code} {a b : Stm σ} (sel : σ → Bool) (hx : ∀ s, (A.env s).ev x = some (.bool (sel s))) (ha : Sim P n A c a B E) (hb : Sim P n A d b B E) :
    Sim P n A (.cond x c d) (.cond sel a b) B E := by
  intro s act w Q hrel hm
  have hev := hrel.ev (hx s)
  unfold Stm.cond at hm
  refine wp_cond_split hev (fun ht => ?_) (fun hf => ?_)
  · rw [if_pos ht] at hm; exact ha s act w Q hrel hm
  · rw [if_neg (by rw [hf]; simp)] at hm; exact hb s act w Q hrel hm

theorem Sim.test {id : Nat} {ops : Array Oper} {draw : Bool} {t : Nat} {c d : Code} {a b : Stm σ} {r : σ → Heap → (Bool → σ → Heap → Prop) → Prop}
    (hr : ∀ s h Q, regVC P n draw ops.toList (A.env s) h (fun e h' => getV e t fun v => asB v fun x => B.fin e s fun s' => Q x s' h') = r s h Q)
    (ha : Sim P n B c a C E) (hb : Sim P n B d b C E) : Sim P n A (.seq (.region id ops draw) (.cond (.tmp t) c d)) (.test r a b) C E := by
  intro s act w Q hrel hm
  have hm' : r s w.heap fun c s h => if c = true then a s h Q else b s h Q := hm
  rw [← hr] at hm'
  refine wp_seq (regVC_sound hrel rfl (fun _ _ _ h => h) hm' ?_)
  intro e' a' w' hr' hal hK
  obtain ⟨v, hv, hK⟩ := getV_elim hK
  obtain ⟨x, rfl, hK⟩ := asB_elim hK
  obtain ⟨s', hs, hQ⟩ := B.ok hK
  have hev : a'.eval (.tmp t) = .bool x := hr'.ok t _ hv
  have hr2 := hr'.sub hs
  simp only [Exit.then]
  refine wp_cond_split hev (fun ht => ?_) (fun hf => ?_)
  · rw [if_pos ht] at hQ
    exact wp_mono (ha s' a' w' Q hr2 hQ) fun e a w h => SimPost.trans hal h
  · rw [if_neg (by rw [hf]; simp)] at hQ
    exact wp_mono (hb s' a' w' Q hr2 hQ) fun e a w h => SimPost.trans hal h

/-- Where a block is left, by its end or by its exit, the frame reads as at B. -/
def exAt (E : Ex → Pt σ) (id : Nat) (B : Pt σ) : Ex → Pt σ
  | .exit i => if i = id then B else E (.exit i)
  | e => E e

theorem Sim.block {id : Nat} {c : Code} {a : Stm σ} (ha : Sim P n A c a B (exAt E id B)) : Sim P n A (.block id c) (.block id a) B E := by
  intro s act w Q hrel hm
  refine wp_block (wp_mono (ha s act w _ hrel hm) ?_)
  intro e a' w' hp
  cases e <;> simp only [SimPost, Exit.inBlock, BK] at hp ⊢
  case normal => exact hp
  case exit i =>
    by_cases hi : i = id
    · simp only [hi, exAt, if_true] at hp ⊢
      exact hp
    · simp only [hi, exAt, if_false] at hp ⊢
      exact hp
  case ret => exact hp

theorem Sim.loop {c : Code} {a : Stm σ} (ha : Sim P n A c a A E) : Sim P n A (.loop c) (.loop a) B E := by
  intro s act w Q hrel ⟨I, μ, h0, hround⟩
  refine wp_loop_ghost (fun k a w' => ∃ s, Alike w w' ∧ Rel n (A.env s) a ∧ I s w'.heap ∧ μ s w'.heap = k) (μ s w.heap) ⟨s, Alike.refl w, hrel, h0, rfl⟩ ?_
  rintro k a' w' ⟨s', hal, hr', hI, hk⟩
  refine wp_mono (ha s' a' w' _ hr' (hround s' w'.heap hI)) ?_
  intro e a'' w'' hp
  cases e <;> simp only [SimPost, Exit.then, LK] at hp ⊢
  · obtain ⟨s'', hal'', hr'', hI'', hlt⟩ := hp
    exact ⟨_, by rw [← hk]; exact hlt, s'', hal.trans hal'', hr'', hI'', rfl⟩
  · obtain ⟨s'', hal'', hr'', hq⟩ := hp
    exact ⟨s'', hal.trans hal'', hr'', hq⟩
  · obtain ⟨s'', hal'', hr'', hq⟩ := hp
    exact ⟨s'', hal.trans hal'', hr'', hq⟩

theorem Sim.weak {c : Code} {a : Stm σ} (ha : Sim P n A c a B E) (h : ∀ s, SubP (C.env s) (B.env s)) : Sim P n A c a C E := by
  intro s act w Q hrel hm
  refine wp_mono (ha s act w Q hrel hm) ?_
  intro e a' w' hp
  cases e <;> simp only [SimPost] at hp ⊢
  · obtain ⟨s', h1, h2, h3⟩ := hp
    exact ⟨s', h1, h2.sub (h s'), h3⟩
  · exact hp
  · exact hp

theorem Sim.pre {c : Code} {a : Stm σ} (ha : Sim P n A c a B E) (h : ∀ s, SubP (A.env s) (C.env s)) : Sim P n C c a B E :=
  fun s act w Q hrel hm => ha s act w Q (hrel.sub (h s)) hm

theorem Sim.exit {id : Nat} (h : ∀ s, SubP ((E (.exit id)).env s) (A.env s)) : Sim P n A (.exit id) (.exit id) B E :=
  fun s _ w _ hrel hm => wp_exit ⟨s, Alike.refl w, hrel.sub (h s), hm⟩

theorem Sim.ret (h : ∀ s, SubP ((E .ret).env s) (A.env s)) : Sim P n A .ret .ret B E :=
  fun s _ w _ hrel hm => wp_ret ⟨s, Alike.refl w, hrel.sub (h s), hm⟩

theorem Sim.skip : Sim P n A .skip .skip A E :=
  fun s _ w _ hrel hm => wp_skip ⟨s, Alike.refl w, hrel, hm⟩

theorem Sim.label {l : Nat} : Sim P n A (.label l) .skip A E :=
  fun s _ w _ hrel hm => wp_label ⟨s, Alike.refl w, hrel, hm⟩

end

/-! ### A whole function -/
/-- A function's results, read off its frame and the heap. -/
def resVC (P : Program) (e : Env) (h : Heap) : List ResultVar → List Value → (List Value → Prop) → Prop
  | [], acc, K => K acc.reverse
  | .tmp t :: r, acc, K => match e.get t with
    | some v => resVC P e h r (v :: acc) K
    | none => False
  | .cell t ty :: r, acc, K => match e.get t with
    | some (.pointer p) => ptrE p fun a => ldP P ty a h fun v => resVC P e h r (v :: acc) K
    | _ => False

def oneOrTuple : List Value → Value
  | [v] => v
  | vs => .tuple vs.toArray

def argsEnv : Nat → List Value → Env
  | _, [] => []
  | i, v :: r => (i, v) :: argsEnv (i + 1) r

theorem argsEnv_get : ∀ (vs : List Value) (i j : Nat) (v : Value), (argsEnv i vs).get j = some v → i ≤ j ∧ vs[j - i]? = some v
  | [], i, j, v, h => by simp [argsEnv, Env.get] at h
  | x :: r, i, j, v, h => by
    simp only [argsEnv, Env.get] at h
    cases hb : Nat.beq i j with
    | true =>
      rw [hb] at h; simp at h; subst h
      have : i = j := Nat.eq_of_beq_eq_true hb
      subst this
      simp
    | false =>
      rw [hb] at h; simp at h
      have hne : i ≠ j := fun h' => by subst h'; simp at hb
      obtain ⟨h1, h2⟩ := argsEnv_get r (i + 1) j v h
      refine ⟨by omega, ?_⟩
      rw [show j - i = (j - (i + 1)) + 1 by omega]
      simpa using h2

theorem rel_enter {n : Nat} {args : Array Value} (hn : args.size ≤ n) :
    Rel n (argsEnv 0 args.toList) { tmps := args ++ Array.replicate (n - args.size) undef, defers := [] } := by
  refine ⟨by simp; omega, rfl, ?_⟩
  intro i v hv
  obtain ⟨_, h2⟩ := argsEnv_get args.toList 0 i v hv
  simp only [Nat.sub_zero] at h2
  have h2' : args[i]? = some v := by simpa using h2
  have hlt : i < args.size := (Array.getElem?_eq_some_iff.1 h2').1
  rw [Array.getD_eq_getD_getElem?, Array.getElem?_append_left hlt, h2']
  rfl

theorem resVC_sound {n : Nat} {e : Env} {a : Act} (hr : Rel n e a) {h : Heap} : ∀ {rs : List ResultVar} {acc : List Value} {K : List Value → Prop}, resVC P e h rs acc K →
    ∃ vs, K (acc.reverse ++ vs) ∧ ∀ w : World, w.heap = h →
      (rs.mapM fun | .tmp t => pure (a.tmps.getD t undef) | .cell c t => do loadVar t (← asAddr (a.tmps.getD c undef)) : Sem (List Value)).run P w = .ok vs w
  | [], acc, K, H => ⟨[], by simpa [resVC] using H, fun w _ => rfl⟩
  | .tmp t :: r, acc, K, H => by
    simp only [resVC] at H
    split at H
    · rename_i v hv
      obtain ⟨vs, hK, hrun⟩ := resVC_sound hr H
      refine ⟨v :: vs, by simpa using hK, fun w hw => ?_⟩
      simp only [List.mapM_cons, Sem.run_bind, Sem.run_pure, Result.andThen_ok, hr.ok t v hv]
      rw [hrun w hw]
      rfl
    · exact H.elim
  | .cell t ty :: r, acc, K, H => by
    simp only [resVC] at H
    split at H
    · rename_i p hp
      obtain ⟨ad, hpa, H2⟩ := ptrE_elim H
      subst hpa
      obtain ⟨v, H3, hl0⟩ := ldP_sound H2
      have hl : ∀ w : World, w.heap = h → (loadVar ty ad).run P w = .ok v w := fun w hw => hl0 w (by rw [hw]; exact fun _ _ h => h)
      obtain ⟨vs, hK, hrun⟩ := resVC_sound hr H3
      refine ⟨v :: vs, by simpa using hK, fun w hw => ?_⟩
      have hadr : (asAddr (.pointer (some ad))).run P w = .ok ad w := rfl
      simp only [List.mapM_cons, Sem.run_bind, hr.ok t _ hp, hadr, Sem.run_pure, Result.andThen_ok, hl w hw]
      rw [hrun w hw]
      rfl
    · exact H.elim

theorem run_results {fn : Func} {n : Nat} {e : Env} {a : Act} {h : Heap} {K : List Value → Prop} (hr : Rel n e a) (H : resVC P e h fn.results.toList [] K) :
    ∃ vs, K vs ∧ ∀ w : World, w.heap = h → (results fn a.tmps).run P w = .ok (oneOrTuple vs) w := by
  obtain ⟨vs, hK, hrun⟩ := resVC_sound hr H
  refine ⟨vs, by simpa using hK, fun w hw => ?_⟩
  have := hrun w hw
  unfold results
  rw [Array.mapM_eq_mapM_toList]
  simp only [Sem.run_bind, Sem.run_map, Sem.run_pure]
  refine Eq.trans (congrArg (fun r : Result (List Value) => (r.andThen fun a w' => Result.ok a.toArray w').andThen fun a w' => Result.ok (if h : a.size = 1 then a[0] else Value.tuple a) w') this) ?_
  match vs with
  | [] => rfl
  | [v] => rfl
  | u :: v :: r => simp [oneOrTuple]

/-- What a function leaves, however it ends. -/
def endK (f : σ → Heap → Prop) : Ex → σ → Heap → Prop
  | .norm, s, h => f s h
  | .ret, s, h => f s h
  | .exit _, _, _ => False

/-- THE CALL: what a function's statement says, said of the call. -/
theorem callsH_of_sim {f : FuncId} {fn : Func} {c : Code} {n : Nat} {A B R : Pt σ} {E : Ex → Pt σ} {m : Stm σ} {args : Array Value} {h : Heap} {K : Value → Heap → Prop}
    (hf : P.funcs[f]? = some fn) (hb : fn.body = some c) (hn : fn.ntmps = n) (hcall : ∀ (args : Array Value) (w : World), (callFunc f args).run P w = .ok (.enter f args) w)
    (sim : Sim P n A c m B E) (s : σ) (hargs : SubP (A.env s) (argsEnv 0 args.toList)) (hsz : args.size ≤ n)
    (hB : ∀ s, SubP (R.env s) (B.env s)) (hE : E .ret = R) (val : σ → Heap → Prop) (hval : ∀ s h', resVC P (R.env s) h' fn.results.toList [] (fun vs => K (oneOrTuple vs) h') = val s h')
    (hm : m s h (endK val)) : CallsH P f args h K := by
  refine ⟨fun w => hcall args w, ?_⟩
  intro w hw
  subst hw
  subst hn
  refine calls_of_wp hf hb (wp_mono (sim s _ w _ ((rel_enter hsz).sub hargs) hm) ?_)
  intro e a' w' hp
  cases e <;> simp only [SimPost, bodyPost] at hp ⊢
  case normal =>
    obtain ⟨s', hal, hr, hK⟩ := hp
    have hK' : val s' w'.heap := hK
    rw [← hval] at hK'
    obtain ⟨vs, hK2, hres⟩ := run_results (hr.sub (hB s')) hK'
    exact ⟨hr.defers, _, hres w' rfl, _, rfl, hal, hK2⟩
  case ret =>
    obtain ⟨s', hal, hr, hK⟩ := hp
    have hK' : val s' w'.heap := hK
    rw [hE] at hr
    rw [← hval] at hK'
    obtain ⟨vs, hK2, hres⟩ := run_results hr hK'
    exact ⟨hr.defers, _, hres w' rfl, _, rfl, hal, hK2⟩
  case exit i => exact hp.elim fun s' h' => h'.2.2

end Go.Vc
