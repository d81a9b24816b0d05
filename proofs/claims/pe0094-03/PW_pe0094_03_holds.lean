import PyProof.Rows.All
import Wide.All
import OpenK.AllK
import Wide.FinOn
import PySem.Challenge.RW_pe0094_03
set_option Elab.async false
set_option linter.unusedVariables false
section
open PySem PySem.W PySem.Calls PyProof.Rows PySem.Spec
namespace Mine
/-- the end of a turn: the frame's one int name x holds k', the rest stands -/
def IntEnd (h₀ : Heap) (L : Addr) (m : Str → Option Value) (news : List (Addr × Obj)) (x : Str) (s : Shared) (P : Int → Prop) (s' : Shared) : Prop :=
  ∃ h' tk k u, s' = { s with heap := h', toks := tk } ∧ Fr h₀ L h' (fun y => if y = x then some (.int k u) else m y) ∧ News h₀ L h' news ∧ P k

theorem fr_twice {h₀ h : Heap} {L : Addr} {m : Str → Option Value} {x : Str} {v v' : Option Value} (F : Fr h₀ L h (fun y => if y = x then v else if y = x then v' else m y)) : Fr h₀ L h (fun y => if y = x then v else m y) := by
  have e : (fun y => if y = x then v else if y = x then v' else m y) = (fun y => if y = x then v else m y) := by
    funext y; by_cases h : y = x <;> simp [h]
  rw [← e]; exact F

section
variable {prog : Program} {w : World} {A : Around} {E : Value → Shared → Prop} {Q : Flow → Shared → Prop} {s : Shared} {env : Env} {h₀ : Heap} {L : Addr}
theorem while_int {test : Expr} {body : List Stmt} {pos : Pos} {m : Str → Option Value} {news : List (Addr × Obj)} (x : Str) (P : Int → Prop) (μ : Int → Nat) (Done : Int → Prop) {k₀ : Int} {u₀ : Tok}
    (F : Fr h₀ L s.heap m) (N : News h₀ L s.heap news) (hm : m x = some (.int k₀ u₀)) (hP : P k₀)
    (turn : ∀ k u h tk, P k → Fr h₀ L h (fun y => if y = x then some (.int k u) else m y) → News h₀ L h news →
      wpAny (model prog w) A (isTrue test env (eval test env)) (fun b s₂ =>
        if b = true then wpAny (model prog w) A (execs body env) (fun f s₃ => f = .next ∧ IntEnd h₀ L m news x s (fun k' => P k' ∧ μ k' < μ k) s₃) E s₂
        else IntEnd h₀ L m news x s Done s₂) E { s with heap := h, toks := tk })
    (rest : ∀ k u h tk, Done k → Fr h₀ L h (fun y => if y = x then some (.int k u) else m y) → News h₀ L h news → Q .next { s with heap := h, toks := tk })
    (hE : PassesOwn (model prog w) A env E := by passes_own) :
    wpAny (model prog w) A (exec (.While test body [] pos) env) Q E s := by
  have em : m = fun y => if y = x then some (.int k₀ u₀) else m y := by
    funext y; by_cases h : y = x
    · simp [h, hm]
    · simp [h]
  have F' := F
  rw [em] at F'
  refine While_inv2 (fun n m₁ nx => nx = news ∧ ∃ k u, m₁ = (fun y => if y = x then some (.int k u) else m y) ∧ P k ∧ μ k = n) (n₀ := μ k₀) F' N ⟨rfl, k₀, u₀, rfl, hP, rfl⟩ ?_ hE
  rintro n m₁ nx h tk F₁ N₁ ⟨rfl, k, u, rfl, hk, rfl⟩
  refine wpAny_mono (turn k u h tk hk F₁ N₁) (fun b s₂ p => ?_) fun _ _ x => x
  cases b with
  | false =>
    simp only [Bool.false_eq_true, if_false] at p ⊢
    obtain ⟨h', tk', k', u', rfl, F', N', hd⟩ := p
    exact rest k' u' h' tk' hd F' N'
  | true =>
    simp only [if_true] at p ⊢
    refine wpAny_mono p (fun f s₃ q => ?_) fun _ _ x => x
    obtain ⟨rfl, h', tk', k', u', rfl, F', N', hp, hlt⟩ := q
    exact ⟨h', tk', _, _, μ k', rfl, F', N', hlt, rfl, k', u', rfl, hp, rfl⟩
/-- two texts of the frame, the rest stands -/
def TwoEnd (h₀ : Heap) (L : Addr) (m : Str → Option Value) (news : List (Addr × Obj)) (x y : Str) (s : Shared) (P : Str → Str → Prop) (s' : Shared) : Prop :=
  ∃ h' tk A tA B tB, s' = { s with heap := h', toks := tk } ∧ Fr h₀ L h' (fun z => if z = y then some (.str B tB) else if z = x then some (.str A tA) else m z) ∧ News h₀ L h' news ∧ P A B
theorem execs_cut1 {st : Stmt} {rest : List Stmt} {m : Str → Option Value} {news : List (Addr × Obj)} (x y : Str) (P : Str → Str → Prop) (_F : Fr h₀ L s.heap m) (_N : News h₀ L s.heap news)
    (h1 : wpAny (model prog w) A (exec st env) (fun f s' => f = .next ∧ TwoEnd h₀ L m news x y s P s') E s)
    (h2 : ∀ X tX Y tY h' tk, P X Y → Fr h₀ L h' (fun z => if z = y then some (.str Y tY) else if z = x then some (.str X tX) else m z) → News h₀ L h' news → wpAny (model prog w) A (execs rest env) Q E { s with heap := h', toks := tk }) :
    wpAny (model prog w) A (execs (st :: rest) env) Q E s := by
  refine wpAny_execs_cons (wpAny_mono h1 (fun f s' h => ?_) fun _ _ e => e)
  obtain ⟨rfl, h', tk, X, tX, Y, tY, rfl, F, N, hP⟩ := h
  exact h2 X tX Y tY h' tk hP F N
theorem execs_cut2 {st st' : Stmt} {rest : List Stmt} {m : Str → Option Value} {news : List (Addr × Obj)} (x y : Str) (P : Str → Str → Prop) (_F : Fr h₀ L s.heap m) (_N : News h₀ L s.heap news)
    (h1 : wpAny (model prog w) A (execs [st, st'] env) (fun f s' => f = .next ∧ TwoEnd h₀ L m news x y s P s') E s)
    (h2 : ∀ X tX Y tY h' tk, P X Y → Fr h₀ L h' (fun z => if z = y then some (.str Y tY) else if z = x then some (.str X tX) else m z) → News h₀ L h' news → wpAny (model prog w) A (execs rest env) Q E { s with heap := h', toks := tk }) :
    wpAny (model prog w) A (execs (st :: st' :: rest) env) Q E s := by
  have key : ∀ Γ p, Γ.In A → Sem.wp (model prog w) Γ (execs [st, st'] env) (fun f _ s' => f = .next ∧ TwoEnd h₀ L m news x y s P s') (fun e _ s' => E e s') p s := h1
  intro Γ p hΓ
  have h := key Γ p hΓ
  rw [execs_cons, Sem.wp_bind'] at h
  rw [execs_cons, Sem.wp_bind']
  refine Sem.wp_mono _ Γ _ (fun f p' s' h' => ?_) (fun _ _ _ e => e) _ _ h
  cases f with
  | next =>
    dsimp only at h' ⊢
    rw [execs_cons, Sem.wp_bind'] at h'
    rw [execs_cons, Sem.wp_bind']
    refine Sem.wp_mono _ Γ _ (fun f p' s' h' => ?_) (fun _ _ _ e => e) _ _ h'
    cases f with
    | next =>
      dsimp only at h' ⊢
      have h'' : (Flow.next = Flow.next) ∧ TwoEnd h₀ L m news x y s P s' := h'
      clear h'
      obtain ⟨_, hp, tk, X, tX, Y, tY, rfl, F, N, hP⟩ := h''
      exact h2 X tX Y tY hp tk hP F N Γ p' hΓ
    | _ => exact absurd (show _ ∧ _ from h').1 (by intro e; cases e)
  | _ => exact absurd (show _ ∧ _ from h').1 (by intro e; cases e)
end
end Mine
end
section
open PySem PyProof
namespace Mine
/-- what the code asks for two signs -/
def subC (x y : Nat) : Nat := if x = y then 0 else if Txt.lower ⟨#[x]⟩ = Txt.lower ⟨#[y]⟩ then 1 else 2
theorem subC_self (x : Nat) : subC x x = 0 := by simp [subC]
theorem subC_le (x y : Nat) : subC x y ≤ 2 := by
  by_cases h : x = y
  · simp [subC, h]
  · by_cases k : Txt.lower ⟨#[x]⟩ = Txt.lower ⟨#[y]⟩ <;> simp [subC, h, k]
theorem subC_comm (x y : Nat) : subC x y = subC y x := by
  unfold subC
  by_cases h : x = y
  · simp [h]
  · have h' : ¬ y = x := fun e => h e.symm
    simp only [h, h', if_false]
    by_cases k : Txt.lower ⟨#[x]⟩ = Txt.lower ⟨#[y]⟩
    · simp [k]
    · have k' : ¬ Txt.lower ⟨#[y]⟩ = Txt.lower ⟨#[x]⟩ := fun e => k e.symm
      simp [k, k']

/-- a way to turn a into b, and what it costs -/
inductive Al : List Nat → List Nat → Nat → Prop
  | nil : Al [] [] 0
  | del {a b c} (x) : Al a b c → Al (x :: a) b (c + 2)
  | ins {a b c} (y) : Al a b c → Al a (y :: b) (c + 2)
  | sub {a b c} (x y) : Al a b c → Al (x :: a) (y :: b) (c + subC x y)

theorem Al.cast {a b : List Nat} {c d : Nat} (h : Al a b c) (e : c = d) : Al a b d := e ▸ h
theorem Al.symm {a b : List Nat} {c : Nat} (h : Al a b c) : Al b a c := by
  induction h with
  | nil => exact .nil
  | del x _ ih => exact .ins x ih
  | ins y _ ih => exact .del y ih
  | sub x y _ ih => rw [subC_comm]; exact .sub y x ih
theorem Al.append {a b a' b' : List Nat} {c c' : Nat} (h : Al a b c) (h' : Al a' b' c') : Al (a ++ a') (b ++ b') (c + c') := by
  induction h with
  | nil => exact h'.cast (by omega)
  | del x _ ih => exact (Al.del x ih).cast (by omega)
  | ins y _ ih => exact (Al.ins y ih).cast (by omega)
  | sub x y _ ih => exact (Al.sub x y ih).cast (by omega)
theorem Al.del1 (x : Nat) : Al [x] [] 2 := Al.del x .nil
theorem Al.ins1 (x : Nat) : Al [] [x] 2 := Al.ins x .nil
theorem Al.sub1 (x y : Nat) : Al [x] [y] (subC x y) := (Al.sub x y .nil).cast (by omega)
theorem Al.rev {a b : List Nat} {c : Nat} (h : Al a b c) : Al a.reverse b.reverse c := by
  induction h with
  | nil => exact .nil
  | del x _ ih => simpa using ih.append (Al.del1 x)
  | ins y _ ih => simpa using ih.append (Al.ins1 y)
  | sub x y _ ih => simpa using ih.append (Al.sub1 x y)
theorem Al.refl (a : List Nat) : Al a a 0 := by
  induction a with
  | nil => exact .nil
  | cons x a ih => exact (Al.sub x x ih).cast (by rw [subC_self])
theorem Al.toNil (a : List Nat) : Al a [] (2 * a.length) := by
  induction a with
  | nil => exact .nil
  | cons x a ih => exact (Al.del x ih).cast (by simp; omega)
theorem Al.ofNil (b : List Nat) : Al [] b (2 * b.length) := (Al.toNil b).symm
theorem Al.len {a b : List Nat} {c : Nat} (h : Al a b c) : 2 * b.length ≤ c + 2 * a.length ∧ 2 * a.length ≤ c + 2 * b.length := by
  induction h with
  | nil => simp
  | del x _ ih => simp only [List.length_cons]; omega
  | ins y _ ih => simp only [List.length_cons]; omega
  | sub x y _ ih => simp only [List.length_cons]; omega

structure IsMin (a b : List Nat) (v : Nat) : Prop where
  al : Al a b v
  le : ∀ c, Al a b c → v ≤ c
theorem IsMin.symm {a b : List Nat} {v : Nat} (h : IsMin a b v) : IsMin b a v := ⟨h.al.symm, fun c k => h.le c k.symm⟩
theorem IsMin.uniq {a b : List Nat} {v v' : Nat} (h : IsMin a b v) (h' : IsMin a b v') : v = v' := Nat.le_antisymm (h.le _ h'.al) (h'.le _ h.al)
theorem IsMin.ofNil (b : List Nat) : IsMin [] b (2 * b.length) := ⟨Al.ofNil b, fun c k => by have := k.len; simp at this; omega⟩
theorem IsMin.toNil (b : List Nat) : IsMin b [] (2 * b.length) := (IsMin.ofNil b).symm
theorem IsMin.same (a : List Nat) : IsMin a a 0 := ⟨Al.refl a, fun _ _ => Nat.zero_le _⟩

theorem Al.dropR {a b : List Nat} {x c : Nat} (h : Al a (x :: b) c) : ∃ c', c' ≤ c + 2 ∧ Al a b c' := by
  generalize e : x :: b = b' at h
  induction h with
  | nil => cases e
  | del z _ ih =>
    obtain ⟨c', h1, h2⟩ := ih e
    exact ⟨c' + 2, by omega, .del z h2⟩
  | ins y h _ => cases e; exact ⟨_, by omega, h⟩
  | sub z y h _ => cases e; exact ⟨_, by omega, .del z h⟩
theorem Al.dropL {a b : List Nat} {x c : Nat} (h : Al (x :: a) b c) : ∃ c', c' ≤ c + 2 ∧ Al a b c' := by
  obtain ⟨c', h1, h2⟩ := h.symm.dropR
  exact ⟨c', h1, h2.symm⟩
theorem Al.strip1 {a b : List Nat} {x c : Nat} (h : Al (x :: a) (x :: b) c) : ∃ c', c' ≤ c ∧ Al a b c' := by
  cases h with
  | del _ h =>
    obtain ⟨c', h1, h2⟩ := h.dropR
    exact ⟨c', by omega, h2⟩
  | ins _ h =>
    obtain ⟨c', h1, h2⟩ := h.dropL
    exact ⟨c', by omega, h2⟩
  | sub _ _ h => exact ⟨_, by omega, h⟩
theorem Al.stripP {a b : List Nat} : ∀ (p : List Nat) {c : Nat}, Al (p ++ a) (p ++ b) c → ∃ c', c' ≤ c ∧ Al a b c'
  | [], c, h => ⟨c, Nat.le_refl _, h⟩
  | x :: p, c, h => by
    obtain ⟨c1, h1, h2⟩ := Al.strip1 h
    obtain ⟨c2, h3, h4⟩ := Al.stripP p h2
    exact ⟨c2, by omega, h4⟩
theorem Al.stripS {a b s : List Nat} {c : Nat} (h : Al (a ++ s) (b ++ s) c) : ∃ c', c' ≤ c ∧ Al a b c' := by
  have h' := h.rev
  rw [List.reverse_append, List.reverse_append] at h'
  obtain ⟨c', h1, h2⟩ := Al.stripP _ h'
  exact ⟨c', h1, by simpa using h2.rev⟩
theorem IsMin.strip {a b p q : List Nat} {v : Nat} (h : IsMin (p ++ a ++ q) (p ++ b ++ q) v) : IsMin a b v := by
  obtain ⟨c1, h1, h2⟩ := Al.stripS h.al
  obtain ⟨c2, h3, h4⟩ := Al.stripP _ h2
  have back : ∀ c, Al a b c → Al (p ++ a ++ q) (p ++ b ++ q) c := fun c k => (((Al.refl p).append k).append (Al.refl q)).cast (by omega)
  have := h.le _ (back _ h4)
  have e : c2 = v := by omega
  exact ⟨e ▸ h4, fun c k => h.le _ (back c k)⟩

theorem Al.snoc_inv {a b : List Nat} {x y c : Nat} (h : Al (a ++ [x]) (b ++ [y]) c) :
    (∃ c', Al a (b ++ [y]) c' ∧ c = c' + 2) ∨ (∃ c', Al (a ++ [x]) b c' ∧ c = c' + 2) ∨ ∃ c', Al a b c' ∧ c = c' + subC x y := by
  have h' := h.rev
  rw [List.reverse_append, List.reverse_append] at h'
  simp only [List.reverse_cons, List.reverse_nil, List.nil_append, List.cons_append] at h'
  cases h' with
  | del _ k => exact .inl ⟨_, by simpa using k.rev, rfl⟩
  | ins _ k => exact .inr (.inl ⟨_, by simpa using k.rev, rfl⟩)
  | sub _ _ k => exact .inr (.inr ⟨_, by simpa using k.rev, rfl⟩)
theorem IsMin.step {a b : List Nat} {x y v11 v01 v10 : Nat} (h11 : IsMin a b v11) (h01 : IsMin a (b ++ [y]) v01) (h10 : IsMin (a ++ [x]) b v10) :
    IsMin (a ++ [x]) (b ++ [y]) (min (min v01 v10 + 2) (v11 + subC y x)) := by
  have k1 : Al (a ++ [x]) (b ++ [y]) (v01 + 2) := by simpa using h01.al.append (Al.del1 x)
  have k2 : Al (a ++ [x]) (b ++ [y]) (v10 + 2) := by simpa using h10.al.append (Al.ins1 y)
  have k3 : Al (a ++ [x]) (b ++ [y]) (v11 + subC y x) := by rw [subC_comm]; exact h11.al.append (Al.sub1 x y)
  refine ⟨?_, fun c k => ?_⟩
  · rcases Nat.le_total (min v01 v10 + 2) (v11 + subC y x) with h | h
    · rw [Nat.min_eq_left h]
      rcases Nat.le_total v01 v10 with h' | h'
      · rw [Nat.min_eq_left h']; exact k1
      · rw [Nat.min_eq_right h']; exact k2
    · rw [Nat.min_eq_right h]; exact k3
  · rcases k.snoc_inv with ⟨c', h, rfl⟩ | ⟨c', h, rfl⟩ | ⟨c', h, rfl⟩
    · have := h01.le _ h; omega
    · have := h10.le _ h; omega
    · have := h11.le _ h; rw [subC_comm]; omega

/-- the first column: the code's left neighbour is 2 * i there, which never tells -/
theorem IsMin.step0 {b : List Nat} {x y v10 : Nat} (h10 : IsMin [x] b v10) :
    IsMin [x] (b ++ [y]) (min (min (2 * b.length) v10 + 2) (2 * b.length + subC y x)) := by
  have h := IsMin.step (x := x) (y := y) (IsMin.ofNil b) (IsMin.ofNil (b ++ [y])) h10
  have := subC_le y x
  have e : min (min (2 * (b ++ [y]).length) v10 + 2) (2 * b.length + subC y x) = min (min (2 * b.length) v10 + 2) (2 * b.length + subC y x) := by
    simp only [List.length_append, List.length_cons, List.length_nil]; omega
  rw [← e]
  exact h

/-- a way over b's two parts parts a too -/
theorem Al.split {a b : List Nat} {c : Nat} (h : Al a b c) : ∀ b1 b2, b = b1 ++ b2 → ∃ n c1 c2, n ≤ a.length ∧ Al (a.take n) b1 c1 ∧ Al (a.drop n) b2 c2 ∧ c = c1 + c2 := by
  induction h with
  | nil =>
    intro b1 b2 e
    obtain ⟨rfl, rfl⟩ := List.append_eq_nil_iff.mp e.symm
    exact ⟨0, 0, 0, by simp, .nil, .nil, rfl⟩
  | @del a b c x _ ih =>
    intro b1 b2 e
    obtain ⟨n, c1, c2, hn, h1, h2, rfl⟩ := ih b1 b2 e
    exact ⟨n + 1, c1 + 2, c2, by simp; omega, .del x h1, by simpa using h2, by omega⟩
  | @ins a b c y h ih =>
    intro b1 b2 e
    cases b1 with
    | nil => exact ⟨0, 0, c + 2, by simp, .nil, by simp only [List.nil_append] at e; subst e; simpa using Al.ins y h, by omega⟩
    | cons z b1 =>
      simp only [List.cons_append, List.cons.injEq] at e
      obtain ⟨rfl, e⟩ := e
      obtain ⟨n, c1, c2, hn, h1, h2, rfl⟩ := ih b1 b2 e
      exact ⟨n, c1 + 2, c2, hn, .ins y h1, h2, by omega⟩
  | @sub a b c x y h ih =>
    intro b1 b2 e
    cases b1 with
    | nil => exact ⟨0, 0, c + subC x y, by simp, .nil, by simp only [List.nil_append] at e; subst e; simpa using Al.sub x y h, by omega⟩
    | cons z b1 =>
      simp only [List.cons_append, List.cons.injEq] at e
      obtain ⟨rfl, e⟩ := e
      obtain ⟨n, c1, c2, hn, h1, h2, rfl⟩ := ih b1 b2 e
      exact ⟨n + 1, c1 + subC x y, c2, by simp; omega, .sub x y h1, by simpa using h2, by omega⟩

/-- a row whose entries (but for the first column) are all above M: the whole is above M -/
theorem row_above {a b1 b2 : List Nat} {v : Nat} {M : Int} (ha : a ≠ []) (hb : b1 ≠ []) (h : IsMin a (b1 ++ b2) v)
    (hrow : ∀ j z, j < a.length → IsMin (a.take (j + 1)) b1 z → M < (z : Int)) (hex : ∀ j, j < a.length → ∃ z, IsMin (a.take (j + 1)) b1 z) : M < (v : Int) := by
  obtain ⟨n, c1, c2, hn, h1, h2, e⟩ := h.al.split b1 b2 rfl
  cases n with
  | succ n =>
    obtain ⟨z, hz⟩ := hex n (by omega)
    have := hrow n z (by omega) hz
    have := hz.le _ h1
    omega
  | zero =>
    have hl : 0 < a.length := List.length_pos_iff.mpr ha
    obtain ⟨z, hz⟩ := hex 0 hl
    have h3 := hrow 0 z hl hz
    have h4 := h1.len
    obtain ⟨x, a', rfl⟩ := List.exists_cons_of_ne_nil ha
    obtain ⟨y, b', rfl⟩ := List.exists_cons_of_ne_nil hb
    simp only [List.take_zero, List.length_nil, List.length_cons] at h4
    have h5 : Al [x] (y :: b') (2 * b'.length + subC x y) := Al.sub x y (Al.ofNil b')
    have h6 := hz.le _ (by simpa using h5)
    have := subC_le x y
    omega
end Mine
end
section
open PySem PySem.W PySem.Calls PyProof PyProof.Rows PySem.Spec PySem.Builtin PySem.Builtin.Str
namespace Mine
/-- a text's codes as a list -/
abbrev tl (x : Str) : List Nat := x.cps.toList
theorem tl_len (x : Str) : (tl x).length = x.length := by simp [tl, Str.length]
theorem slice_from (x : Str) {k : Int} (h0 : 0 ≤ k) (h1 : k ≤ x.length) : tl (Txt.slice x (some k) none) = (tl x).drop k.toNat := by
  rw [slice_from_eq h0 h1 rfl]
  dsimp only [tl]
  rw [List.toList_toArray, List.take_of_length_le]
  rw [List.length_drop, tl_len]; omega
theorem slice_all (x : Str) : Txt.slice x none none = x := by
  unfold Txt.slice
  have e : (strSliceIndices none none 1 x.length).length = x.length := by
    unfold strSliceIndices sliceRange
    simp only [show (1 : Int) > 0 by decide, if_true, List.length_map, List.length_range]
    split <;> (try simp only [Int.ediv_one]) <;> omega
  rw [if_pos]
  simp [e]
theorem slice_neg (x : Str) {k : Int} (h0 : k < 0) (h1 : -(x.length : Int) ≤ k) : tl (Txt.slice x none (some k)) = (tl x).take (k + x.length).toNat := by
  have e : Txt.slice x none (some k) = Txt.slice x none (some (k + x.length)) := by
    unfold Txt.slice
    rw [show strSliceIndices none (some k) 1 x.length = strSliceIndices none (some (k + x.length)) 1 x.length from StrLaws.sliceIdx_neg_hi none x.length h0 h1]
  rw [e, beq_iff_eq.mp (slice_closes_toL (x := x) (j := k + x.length) (by omega) (by omega))]
  dsimp only [tl]
  rw [List.toList_toArray]
  simp
theorem slice_neg_len (x : Str) {p : Int} (_h0 : p ≤ 0) (h1 : 0 ≤ p + (x.length : Int)) : p ≠ 0 → ((Txt.slice x none (some p)).length : Int) = p + x.length := fun h => by
  have := congrArg List.length (slice_neg x (k := p) (by omega) (by omega))
  rw [tl_len, List.length_take, tl_len] at this
  omega
theorem slice_all_len (x : Str) : (Txt.slice x none none).length = x.length := by rw [slice_all]
theorem slice_zero (x : Str) {p : Int} (h : p = 0) : tl (Txt.slice x none none) = (tl x).take (p + x.length).toNat := by
  subst h
  rw [slice_all, List.take_of_length_le (by rw [tl_len]; omega)]
theorem item_pos (x : Str) {k : Int} (h0 : 0 ≤ k) (h1 : k < x.length) : Txt.item x k = ⟨#[(tl x).getD k.toNat 0]⟩ := by
  unfold Txt.item Txt.charAt
  rw [seqIndex_of h0 h1]
  simp [tl, List.getD_eq_getElem?_getD]
theorem item_neg (x : Str) {k : Int} (h0 : k < 0) (h1 : -(x.length : Int) ≤ k) : Txt.item x k = ⟨#[(tl x).getD (k + x.length).toNat 0]⟩ := by
  unfold Txt.item Txt.charAt
  rw [seqIndex_neg h0 h1]
  simp [tl, List.getD_eq_getElem?_getD]
theorem one_inj {x y : Nat} (h : ((⟨#[x]⟩ : Str) == ⟨#[y]⟩) = true) : x = y := by
  have := beq_iff_eq.mp h
  cases this; rfl
/-- one more sign at the front -/
theorem pre_step {a b : Str} {k : Int} (h0 : 0 ≤ k) (h1 : k < a.length) (h2 : k < b.length) (h3 : (tl a).take k.toNat = (tl b).take k.toNat) (h4 : (Txt.item a k == Txt.item b k) = true) :
    (tl a).take (k + 1).toNat = (tl b).take (k + 1).toNat := by
  rw [item_pos a h0 h1, item_pos b h0 h2] at h4
  have e := one_inj h4
  have l1 : k.toNat < (tl a).length := by rw [tl_len]; omega
  have l2 : k.toNat < (tl b).length := by rw [tl_len]; omega
  have t : (k + 1).toNat = k.toNat + 1 := by omega
  rw [t, List.take_add_one, List.take_add_one, h3]
  congr 1
  simp only [List.getD_eq_getElem?_getD, List.getElem?_eq_getElem l1, List.getElem?_eq_getElem l2, Option.getD_some] at e
  rw [List.getElem?_eq_getElem l1, List.getElem?_eq_getElem l2, e]
/-- one more sign at the back -/
theorem post_step {a b : Str} {k : Int} (h0 : k ≤ 0) (h1 : 0 < k + a.length) (h2 : 0 < k + b.length) (h3 : (tl a).drop (k + a.length).toNat = (tl b).drop (k + b.length).toNat) (h4 : (Txt.item a (k - 1) == Txt.item b (k - 1)) = true) :
    (tl a).drop (k - 1 + a.length).toNat = (tl b).drop (k - 1 + b.length).toNat := by
  rw [item_neg a (by omega) (by omega), item_neg b (by omega) (by omega)] at h4
  have e := one_inj h4
  have l1 : (k - 1 + a.length).toNat < (tl a).length := by rw [tl_len]; omega
  have l2 : (k - 1 + b.length).toNat < (tl b).length := by rw [tl_len]; omega
  have t1 : (k + a.length).toNat = (k - 1 + a.length).toNat + 1 := by omega
  have t2 : (k + b.length).toNat = (k - 1 + b.length).toNat + 1 := by omega
  rw [t1, t2] at h3
  rw [List.drop_eq_getElem_cons l1, List.drop_eq_getElem_cons l2, h3]
  simp only [List.getD_eq_getElem?_getD, List.getElem?_eq_getElem l1, List.getElem?_eq_getElem l2, Option.getD_some] at e
  rw [e]

def ItemsAre (a b : Str) (p : Int) (x y : Str) : Prop := Txt.item a (p - 1) = x ∧ Txt.item b (p - 1) = y
theorem post_step' {a b x y : Str} {k : Int} (hI : ItemsAre a b k x y) (h0 : k ≤ 0) (h1 : 0 < k + a.length) (h2 : 0 < k + b.length) (h3 : (tl a).drop (k + a.length).toNat = (tl b).drop (k + b.length).toNat) (h4 : (x == y) = true) :
    (tl a).drop (k - 1 + a.length).toNat = (tl b).drop (k - 1 + b.length).toNat := by
  obtain ⟨rfl, rfl⟩ := hI
  exact post_step h0 h1 h2 h3 h4

/-- the code's two cuts leave the distance -/
theorem cuts_leave {a b A B A' B' : Str} {k p : Int} {v : Nat} (h : IsMin (tl a) (tl b) v)
    (k3 : (tl a).take k.toNat = (tl b).take k.toNat) (eA : tl A = (tl a).drop k.toNat) (eB : tl B = (tl b).drop k.toNat)
    (p3 : (tl A).drop (p + A.length).toNat = (tl B).drop (p + B.length).toNat)
    (eA' : tl A' = (tl A).take (p + A.length).toNat) (eB' : tl B' = (tl B).take (p + B.length).toNat) : IsMin (tl A') (tl B') v := by
  refine IsMin.strip (p := (tl a).take k.toNat) (q := (tl A).drop (p + A.length).toNat) ?_
  have ea : (tl a).take k.toNat ++ tl A' ++ (tl A).drop (p + A.length).toNat = tl a := by
    rw [List.append_assoc, eA', List.take_append_drop, eA, List.take_append_drop]
  have eb : (tl a).take k.toNat ++ tl B' ++ (tl A).drop (p + A.length).toNat = tl b := by
    rw [List.append_assoc, p3, eB', List.take_append_drop, eB, k3, List.take_append_drop]
  rw [ea, eb]
  exact h
theorem empty_case {X Y : Str} {v : Nat} (h : IsMin (tl X) (tl Y) v) (e : X.length = 0 ∨ Y.length = 0) : 2 * ((X.length : Int) + (Y.length : Int)) = (v : Int) := by
  rcases e with e | e
  · have hx : tl X = [] := List.eq_nil_of_length_eq_zero (by rw [tl_len]; exact e)
    rw [hx] at h
    have := h.uniq (IsMin.ofNil _)
    rw [tl_len] at this
    omega
  · have hy : tl Y = [] := List.eq_nil_of_length_eq_zero (by rw [tl_len]; exact e)
    rw [hy] at h
    have := h.uniq (IsMin.toNil _)
    rw [tl_len] at this
    omega
theorem fr_comm {h₀ h : Heap} {L : Addr} {m : Str → Option Value} {x y : Str} {u v : Option Value} (hne : x ≠ y) (F : Fr h₀ L h (fun z => if z = x then u else if z = y then v else m z)) : Fr h₀ L h (fun z => if z = y then v else if z = x then u else m z) := by
  have e : (fun z => if z = x then u else if z = y then v else m z) = (fun z => if z = y then v else if z = x then u else m z) := by
    funext z
    by_cases h1 : z = x
    · have h2 : ¬ z = y := fun e => hne (h1.symm.trans e)
      rw [if_pos h1, if_neg h2, if_pos h1]
    · rw [if_neg h1, if_neg h1]
  rw [← e]; exact F
theorem fr_same2 {h₀ h : Heap} {L : Addr} {m : Str → Option Value} {x y : Str} {u v : Value} (F : Fr h₀ L h m) (hx : m x = some u) (hy : m y = some v) : Fr h₀ L h (fun z => if z = y then some v else if z = x then some u else m z) := by
  have e : (fun z => if z = y then some v else if z = x then some u else m z) = m := by
    funext z
    by_cases h1 : z = y
    · simp [h1, hy]
    · by_cases h2 : z = x
      · rw [if_neg h1, if_pos h2, h2, hx]
      · simp [h1, h2]
  rw [e]; exact F
end Mine
end
section
open PySem PySem.W PySem.Calls PyProof PyProof.Rows PyProof.V PySem.Spec
set_option maxRecDepth 100000
namespace Mine
def evens (n : Nat) : List Int := (List.range n).map fun i : Nat => 2 + 2 * (i : Int)
theorem evens_length (n : Nat) : (evens n).length = n := by simp [evens]
theorem ints_of (f : Nat → Int) : ∀ (vs : List Value) (k n : Nat), vs.length = n → (∀ (j : Nat) (v : Value), vs[j]? = some v → ∃ t, v = .int (f (k + j)) t) → IntsAre vs ((List.range n).map fun i => f (k + i))
  | [], k, n, e, _ => by subst e; exact IntsAre.nil
  | v :: r, k, n, e, h => by
    subst e
    obtain ⟨t, rfl⟩ := h 0 v rfl
    rw [List.length_cons, List.range_succ_eq_map, List.map_cons, List.map_map]
    refine IntsAre.cons _ _ ?_
    have := ints_of f r (k + 1) r.length rfl fun j v hj => by
      obtain ⟨t', ht'⟩ := h (j + 1) v hj
      exact ⟨t', by rw [ht']; congr 2; omega⟩
    have e : (List.range r.length).map (fun i => f (k + 1 + i)) = (List.range r.length).map ((fun i => f (k + i)) ∘ Nat.succ) := by
      apply List.map_congr_left
      intro i _
      show f (k + 1 + i) = f (k + (i + 1))
      congr 1; omega
    rw [← e]
    exact this
theorem small_of {a b c : Int} (ha : -1000 ≤ a) (ha' : a < 1000) (hb : -1000 ≤ b) (hb' : b < 1000) (hc : 0 < c) (hc' : c < 1000) (hs : 0 ≤ Builtin.Range.rangeSize a b c) (hs' : Builtin.Range.rangeSize a b c < 1000) : Builtin.Range.small a b c = true := by
  unfold Builtin.Range.small
  generalize Builtin.Range.rangeSize a b c = z at hs hs' ⊢
  simp only [Builtin.Range.rangeFitsLong, Bool.and_eq_true, Bool.or_eq_true, decide_eq_true_eq, beq_iff_eq, gt_iff_lt, hc, if_true]
  omega
section
variable {prog : Program} {w : World} {A : Around} {E : Value → Shared → Prop} {s : Shared} {h₀ : Heap} {L r : Addr} {m : Str → Option Value} {news : List (Addr × Obj)} {b : Int} {t₀ u₀ v₀ : Tok} {Q : Value → Shared → Prop}
theorem list_range2 (n : Nat) (hh : A.handled = none) (F : Fr h₀ L s.heap m) (N : News h₀ L s.heap news) (hr : IsRange s.heap r 2 b 2 t₀ u₀ v₀) (hb : b = 2 * ((n : Int) + 1)) (hz : n ≤ 100)
    (h : ∀ D us c h' tk, Fr h₀ L h' m → News h₀ L h' ((D, listOf (List.toArray us) c) :: news) → (∀ p ∈ news, p.1 < D) → IntsAre us (evens n) → Q (.ref D) { s with heap := h', toks := tk }) :
    wpAny (model prog w) A (call (.type "list") [.ref r]) Q E s := by
  subst hb
  have hn : Builtin.Range.rangeSize 2 (2 * ((n : Int) + 1)) 2 = (n : Int) := by
    unfold Builtin.Range.rangeSize
    simp only [show (2 : Int) > 0 by decide, if_true]
    split <;> omega
  have hsmall : Builtin.Range.small 2 (2 * ((n : Int) + 1)) 2 = true := small_of (by omega) (by omega) (by omega) (by omega) (by omega) (by omega) (by rw [hn]; omega) (by rw [hn]; omega)
  refine call_list_range hh hr hsmall hn (by omega) fun h' tk acc c hk hD hI => ?_
  have hD' : h'.get? s.heap.objs.size = some (listOf (List.toArray acc.toList) c) := by
    rw [Array.toArray_toList]
    exact hD
  refine h _ acc.toList c h' tk (F.keeps hk) (news_pushed F N hk hD' rfl) (fun p hp => Heap.lt_size (N p hp).1) ?_
  have := ints_of (fun i : Nat => 2 + (i : Int) * 2) acc.toList 0 n (by rw [Array.length_toList]; exact hI.1) fun j v hj => by
    obtain ⟨t, ht⟩ := hI.2 j v (by rw [← hj, Array.getElem?_toList])
    exact ⟨t, by rw [ht, Nat.zero_add]⟩
  have e : evens n = (List.range n).map fun i : Nat => 2 + ((0 + i : Nat) : Int) * 2 := by
    apply List.map_congr_left
    intro i _
    simp only [Nat.zero_add]; omega
  rw [e]
  exact this
end
end Mine
end
section
open PySem PySem.W PySem.Calls PyProof PyProof.Rows PyProof.V PySem.Spec
namespace Mine
def IsMinZ (a b : List Nat) (z : Int) : Prop := ∃ v : Nat, z = (v : Int) ∧ IsMin a b v
/-- between two rows: i signs of b are done -/
def OutInv (a b : List Nat) (i : Nat) (res : Int) (row : List Int) : Prop :=
  (0 < i → IsMinZ a (b.take i) res) ∧ ∀ t z, row[t]? = some z → IsMinZ (a.take (t + 1)) (b.take i) z
/-- within row i + 1: j signs of a are done -/
def InInv (a b : List Nat) (i j : Nat) (dist res mini : Int) (row : List Int) : Prop :=
  IsMinZ (a.take j) (b.take i) dist ∧ (j = 0 → res = 2 * (i : Int)) ∧ (0 < j → IsMinZ (a.take j) (b.take (i + 1)) res) ∧
  ∀ t z, row[t]? = some z → (t < j → IsMinZ (a.take (t + 1)) (b.take (i + 1)) z ∧ mini ≤ z) ∧ (j ≤ t → IsMinZ (a.take (t + 1)) (b.take i) z)
theorem outInv0 {a b : List Nat} {n : Nat} (hn : n = a.length) : OutInv a b 0 0 (evens n) := by
  refine ⟨fun h => absurd h (Nat.lt_irrefl 0), fun t z h => ?_⟩
  have ht : t < n := by
    have := (List.getElem?_eq_some_iff.mp h).1
    rwa [evens_length] at this
  have hz : z = 2 + 2 * (t : Int) := by
    rw [evens, List.getElem?_map, List.getElem?_range ht] at h
    exact (Option.some.inj h).symm
  refine ⟨2 * (a.take (t + 1)).length, ?_, IsMin.toNil _⟩
  rw [List.length_take]
  omega
theorem inInv0 {a b : List Nat} {i : Nat} {res d mini : Int} {row : List Int} (h : OutInv a b i res row) (hi : i ≤ b.length) (hd : d = 2 * (i : Int)) : InInv a b i 0 d d mini row := by
  subst hd
  refine ⟨⟨2 * (b.take i).length, by rw [List.length_take]; omega, IsMin.ofNil _⟩, fun _ => rfl, fun h => absurd h (Nat.lt_irrefl 0), fun t z hz => ⟨fun h => absurd h (Nat.not_lt_zero _), fun _ => h.2 t z hz⟩⟩
theorem take_snoc {l : List Nat} {i : Nat} (h : i < l.length) : l.take (i + 1) = l.take i ++ [l.getD i 0] := by
  rw [List.take_add_one, List.getD_eq_getElem?_getD, List.getElem?_eq_getElem h]; rfl
/-- one turn within a row -/
theorem inInv_step {a b : List Nat} {i j : Nat} {d r mini old new mini' : Int} {row row' : List Int} (h : InInv a b i j d r mini row) (hj : j < a.length) (hi : i < b.length) (hrow : row[j]? = some old)
    (hnew : new = min (min r old + 2) (d + (subC (b.getD i 0) (a.getD j 0) : Nat))) (hm : mini' ≤ mini ∧ mini' ≤ new) (hset : row' = row.set j new) :
    InInv a b i (j + 1) old new mini' row' := by
  obtain ⟨⟨vd, hd, Hd⟩, h0, h1, h2⟩ := h
  obtain ⟨vo, ho, Ho⟩ := (h2 j old hrow).2 (Nat.le_refl _)
  have ea := take_snoc hj
  have eb := take_snoc hi
  have Hnew : IsMinZ (a.take (j + 1)) (b.take (i + 1)) new := by
    rw [ea] at Ho
    rw [ea, eb]
    by_cases hj0 : j = 0
    · subst hj0
      have hr := h0 rfl
      have H := IsMin.step0 (x := a.getD 0 0) (y := b.getD i 0) Ho
      refine ⟨_, ?_, H⟩
      rw [hnew, hr, ho, hd]
      have hl : (b.take i).length = i := by rw [List.length_take]; omega
      have hvd : vd = 2 * i := by
        have := Hd.uniq (by simpa using IsMin.ofNil (b.take i))
        omega
      rw [hl, hvd]
      omega
    · obtain ⟨vr, hr, Hr⟩ := h1 (by omega)
      rw [eb] at Hr
      have H := IsMin.step Hd Hr Ho
      refine ⟨_, ?_, H⟩
      rw [hnew, hr, ho, hd]
      omega
  refine ⟨⟨vo, ho, Ho⟩, fun e => absurd e (Nat.succ_ne_zero _), fun _ => Hnew, fun t z hz => ?_⟩
  subst hset
  by_cases ht : t = j
  · subst ht
    have hl := (List.getElem?_eq_some_iff.mp hrow).1
    rw [List.getElem?_set_self hl] at hz
    have := Option.some.inj hz
    subst this
    exact ⟨fun _ => ⟨Hnew, hm.2⟩, fun h => absurd h (by omega)⟩
  · rw [List.getElem?_set_ne (fun e => ht e.symm)] at hz
    have := h2 t z hz
    exact ⟨fun h => ⟨(this.1 (by omega)).1, Int.le_trans hm.1 (this.1 (by omega)).2⟩, fun h => this.2 (by omega)⟩
/-- a row is done -/
theorem inInv_end {a b : List Nat} {i n : Nat} {d r mini : Int} {row : List Int} (h : InInv a b i n d r mini row) (hn : n = a.length) (hr : row.length = a.length) (ha : 0 < a.length) : OutInv a b (i + 1) r row := by
  subst hn
  obtain ⟨_, _, h1, h2⟩ := h
  have h1 := h1 ha
  rw [List.take_length] at h1
  refine ⟨fun _ => h1, fun t z hz => ?_⟩
  have := (List.getElem?_eq_some_iff.mp hz).1
  exact ((h2 t z hz).1 (by omega)).1
/-- the row lies above the bound: so does the distance -/
theorem inInv_above {a b : List Nat} {i n : Nat} {d r mini M : Int} {row : List Int} {v : Nat} (h : InInv a b i n d r mini row) (hn : n = a.length) (hr : row.length = a.length) (ha : 0 < a.length) (hi : i < b.length) (hm : M < mini) (hv : IsMin a b v) : M < (v : Int) := by
  subst hn
  obtain ⟨_, _, _, h2⟩ := h
  have key : ∀ j, j < a.length → ∃ z : Nat, IsMin (a.take (j + 1)) (b.take (i + 1)) z ∧ M < (z : Int) := by
    intro j hj
    have hz : row[j]? = some (row[j]'(by omega)) := List.getElem?_eq_getElem (by omega)
    obtain ⟨⟨z, ez, Hz⟩, hle⟩ := (h2 j _ hz).1 hj
    exact ⟨z, Hz, by omega⟩
  have hv' := hv
  rw [← List.take_append_drop (i + 1) b] at hv'
  refine row_above (List.length_pos_iff.mp ha) ?_ hv' (fun j z hj Hz => ?_) fun j hj => ?_
  · intro e
    have : (b.take (i + 1)).length = 0 := by rw [e]; rfl
    rw [List.length_take] at this
    omega
  · obtain ⟨z', Hz', hM⟩ := key j hj
    rw [Hz.uniq Hz']
    exact hM
  · obtain ⟨z', Hz', _⟩ := key j hj
    exact ⟨z', Hz'⟩
theorem outInv_end {a b : List Nat} {i : Nat} {r : Int} {row : List Int} {v : Nat} (h : OutInv a b i r row) (hi : i = b.length) (hb : 0 < b.length) (hv : IsMin a b v) : r = (v : Int) := by
  subst hi
  obtain ⟨v', e, H⟩ := h.1 hb
  rw [List.take_length] at H
  rw [e, hv.uniq H]
def subS (x y : Str) : Int := if (x == y) = true then 0 else if (Txt.lower x == Txt.lower y) = true then 1 else 2
theorem subS_eq {a b : Str} {i j : Int} (hi : 0 ≤ i) (hi' : i < b.length) (hj : 0 ≤ j) (hj' : j < a.length) : subS (Txt.item b i) (Txt.item a j) = (subC ((tl b).getD i.toNat 0) ((tl a).getD j.toNat 0) : Nat) := by
  rw [item_pos b hi hi', item_pos a hj hj']
  unfold subS subC
  generalize (tl b).getD i.toNat 0 = x
  generalize (tl a).getD j.toNat 0 = y
  by_cases h : x = y
  · subst h; simp
  · have h' : ¬ (({ cps := #[x] } : Str) == { cps := #[y] }) = true := fun e => h (one_inj e)
    rw [if_neg h', if_neg h]
    by_cases k : Txt.lower ⟨#[x]⟩ = Txt.lower ⟨#[y]⟩
    · rw [if_pos (by simp [k]), if_pos k]; rfl
    · rw [if_neg (by simpa using k), if_neg k]; rfl
theorem in_turn {a b : Str} {pre : List Int} {i : Nat} {ki kj d r mini mini' new : Int} {row : List Int} (h : InInv (tl a) (tl b) i pre.length d r mini row) (hl : (row.length : Int) = (a.length : Int))
    (ei : ki = 0 + (i : Int)) (li : i < ((b.length : Int) - 0).toNat) (ej : kj = 0 + (pre.length : Int)) (lj : pre.length < ((a.length : Int) - 0).toNat)
    (hnew : new = if d + subS (Txt.item b ki) (Txt.item a kj) < (if row.getD kj.toNat 0 < r then row.getD kj.toNat 0 else r) + 2 then d + subS (Txt.item b ki) (Txt.item a kj) else (if row.getD kj.toNat 0 < r then row.getD kj.toNat 0 else r) + 2)
    (hm : mini' ≤ mini ∧ mini' ≤ new) :
    ((row.set kj.toNat new).length : Int) = (a.length : Int) ∧ InInv (tl a) (tl b) i (pre ++ [kj]).length (row.getD kj.toNat 0) new mini' (row.set kj.toNat new) := by
  have e1 : kj.toNat = pre.length := by omega
  have e2 : ki.toNat = i := by omega
  refine ⟨by rw [List.length_set]; exact hl, ?_⟩
  rw [List.length_append]
  refine inInv_step h (by rw [tl_len]; omega) (by rw [tl_len]; omega) (old := row.getD kj.toNat 0) ?_ ?_ hm (by rw [e1])
  · rw [e1, List.getD_eq_getElem?_getD, List.getElem?_eq_getElem (by omega)]; rfl
  · rw [hnew, subS_eq (by omega) (by omega) (by omega) (by omega), e1, e2]
    generalize row.getD pre.length 0 = o
    generalize (subC ((tl b).getD i 0) ((tl a).getD pre.length 0) : Int) = c
    split <;> split <;> omega
end Mine
end
section
set_option maxRecDepth 100000
open PySem PySem.W PySem.Calls PyProof PyProof.Rows PyProof.V PySem.Spec
namespace Mine
section
variable {prog : Program} {w : World} {A : Around} {E : Value → Shared → Prop} {s : Shared} {h₀ : Heap} {L : Addr} {m : Str → Option Value} {env : Env}
/-- a comprehension's source that is a text -/
def SrcT (prog : Program) (w : World) (A : Around) (h₀ : Heap) (L : Addr) (m : Str → Option Value) (env : Env) (elt : Expr) (x : Str) (scope : Scope) (cl : List (Str × Addr)) (Fin : Shared → List Value → List (Addr × Obj) → Prop) (xv : Value) (s₁ : Shared) : Prop :=
  ∃ X t news, xv = .str X t ∧ A.handled = none ∧ Fr h₀ L s₁.heap m ∧ News h₀ L s₁.heap news ∧ X.cps.size ≤ sizeLine ∧
    ∀ s₂ : Shared, (∃ h, s₂ = { s₁ with heap := h }) → LCg.CompRest prog w A h₀ L m env elt x scope cl s₂ (fun _ => True) (SignAt X) (Fin s₂) X.cps.size 0 [] news
theorem str_st {I : Addr} {ty : String} {X : Str} {t : Tok} : ∀ i (h h' : Heap) (o : Obj) (nw : List (Addr × Obj)), h.IsStrIter I ty X t i → h.get? I = some o → h'.get? I = some o → (∀ b o, h₀.get? b = some o → h'.get? b = some o) → News h₀ L h' nw → True → h'.IsStrIter I ty X t i :=
  fun i h h' o nw st e e' _ _ _ => by
    obtain ⟨o', q, r⟩ := st
    rw [e] at q
    cases q
    exact ⟨o, e', r⟩
theorem ListComp_T {elt iter : Expr} {x : Str} {px : Pos} {scope : Scope} {cl : List (Str × Addr)} {pos : Pos} {Q : Value → Shared → Prop} (_F₀ : Fr h₀ L s.heap m)
    (hclos : closureFor scope env = pure cl) (hcell : ∀ y ∈ scope.names, y.2 ≠ .cell) (hkind : scope.kind = .function)
    (hnames : ∀ y ∈ scope.names, y.2 = .local → scope.names.lookup y.1 = some .local) (hx : scope.names.lookup x = some .local)
    (h : wpAny (model prog w) A (eval iter env) (SrcT prog w A h₀ L m env elt x scope cl (fun s₂ => LCg.FinE h₀ L m s₂ Q)) E s)
    (hs : ∀ x, foldedSetIterable iter env x = pure x := by intro _; rfl) :
    wpAny (model prog w) A (eval (.ListComp elt [⟨.Name x px, iter, [], 0⟩] scope pos) env) Q E s := by
  rw [eval_ListComp]
  refine wpAny_comprehension_free (use := none) rfl hs hclos hkind hnames (wpAny_mono h (fun xv s₁ h₁ => ?_) fun _ _ e => e)
  obtain ⟨X, t, news, rfl, hh, F, N, hsz, R⟩ := h₁
  have go : ∀ (ty : String), Walks prog w A s₁.heap.objs.size [s₁.heap.objs.size] [s₁.heap.objs.size] X.cps.size (SignAt X) (fun i h => h.IsStrIter s₁.heap.objs.size ty X t i) →
      wpAny (model prog w) A (newList []) (fun acc s₃ => wpAny (model prog w) A (newFunctionEnv scope env.globals cl [] env.qual none .none (some env)) (fun cenv s₄ =>
        codeAny (model prog w) A (.compStart (.ListComp elt [⟨.Name x px, iter, [], 0⟩] scope pos) 0 (.ref s₁.heap.objs.size) acc { cenv with scope := relabel scope env })
          (compPost (model prog w) A E none Q acc cenv.locals) s₄) E s₃) E { s₁ with heap := s₁.heap.push { cls := .type ty, data := .fields #[.str X t, .int 0 0] } } := by
    intro ty W
    refine LCg.block_U W hsz (fun i h st => by obtain ⟨o, e, _⟩ := st; exact ⟨o, e⟩) str_st hcell hkind hx (show Heap.IsStrIter _ _ _ _ _ _ from ⟨_, Heap.get?_push_size _ rfl, rfl, rfl⟩) (fun b hb => ?_)
      (F.keeps fun _ _ e => Heap.get?_push_of_some _ e) (N.grown fun _ _ e => Heap.get?_push_of_some _ e) (Nat.ne_of_lt F.ns.lt) (next_is_new F) (fun p hp => Nat.ne_of_lt (Heap.lt_size (N p hp).1)) trivial (R _ ⟨_, rfl⟩) ?_
    · rw [List.mem_singleton.mp hb]
      show s₁.heap.objs.size < (s₁.heap.push _).objs.size
      rw [Heap.size_push]; exact Nat.lt_succ_self _
    · intro D C h tk m' ys news' F' N' o1 hn hC₀ hD₀ hCL hDL hCD offC fin
      refine ⟨m', hn, fun h'' hs'' => fin D h'' tk (F'.change hs'' hCL hC₀) (fun p hp => ?_) o1⟩
      refine ⟨hs''.extBut _ _ ?_ (N' p hp).1, (N' p hp).2⟩
      rcases List.mem_cons.mp hp with rfl | hp
      · exact Ne.symm hCD
      · exact offC p hp
  cases ha : X.cps.all (· < 128)
  · exact wpAny_pyIter_wide ha (go _ (Walks.strWide hh _ X t))
  · exact wpAny_pyIter_ascii ha (go _ (Walks.strAscii hh _ X t))
/-- the turns of a comprehension over a text: each sign c gives the text g c -/
theorem rest_text {elt : Expr} {x : Str} {scope : Scope} {cl : List (Str × Addr)} {S : List (Addr × Obj) → Prop} {Fin : List Value → List (Addr × Obj) → Prop} {news : List (Addr × Obj)} {X : Str} (g : Nat → Str)
    (turn : ∀ c t I oI C oC D m₂ ys h tk (E' : Value → Shared → Prop), c ∈ tl X → LCg.NsObj oC m₂ → m₂ x = some (.str ⟨#[c]⟩ t) → Fr h₀ L h m → News h₀ L h ((I, oI) :: (C, oC) :: (D, LCg.lst ys) :: news) → LCg.Off3 I C D news → ((@Ne Nat I C) ∧ (@Ne Nat I D) ∧ (@Ne Nat C D)) → KPfMark →
      wpAny (model prog w) A (eval elt (compEnvC scope cl C env)) (LCg.CompEnd h₀ L m { s with heap := h, toks := tk } I oI C oC D (LCg.lst ys) S (fun y news' => KCtEl news (g c) y news')) E' { s with heap := h, toks := tk })
    (fin : ∀ ys, CarriedAll ys ((tl X).map fun c => PyData.str (g c)) → Fin ys news) : LCg.CompRest prog w A h₀ L m env elt x scope cl s S (SignAt X) Fin X.cps.size 0 [] news := by
  have key : ∀ (j i : Nat) (ys : List Value), i + j = X.cps.size → StrsAre ys (((tl X).take i).map g) → LCg.CompRest prog w A h₀ L m env elt x scope cl s S (SignAt X) Fin j i ys news := by
    intro j
    induction j with
    | zero =>
      intro i ys hi hy
      have e : i = (tl X).length := by simp [tl]; omega
      subst e
      rw [List.take_length] at hy
      have hc := hy.carried
      rw [List.map_map] at hc
      exact LCg.CompRest.zero (fin ys hc)
    | succ j ih =>
      intro i ys hi hy
      refine LCg.CompRest.succ ?_
      intro v I oI C oC D m₂ h tk E' hv hC hx F N off ne
      obtain ⟨c, t, hk, hv'⟩ := hv
      rw [hv'] at hx
      have hk' : (tl X)[i]? = some c := by simpa [tl] using hk
      refine wpAny_mono (turn c t I oI C oC D m₂ ys h tk E' (List.mem_of_getElem? hk') hC hx F N off ne True.intro) (fun y s₂ hq => ?_) fun _ _ e => e
      obtain ⟨h', tk', nw, e, F', N', off', hS, hn, t', hy'⟩ := hq
      rw [hn] at N' off' hS
      refine ⟨h', tk', news, e, F', N', off', hS, ?_⟩
      rw [hy']
      refine ih (i + 1) _ (by omega) ?_
      rw [List.take_add_one, hk']
      simpa using kct_snoc hy
  exact key X.cps.size 0 [] (by omega) (by simp only [List.take_zero, List.map_nil]; exact .nil)
theorem SrcT.mk {elt : Expr} {x : Str} {scope : Scope} {cl : List (Str × Addr)} {Fin : Shared → List Value → List (Addr × Obj) → Prop} {X : Str} {t : Tok} {news : List (Addr × Obj)} {s₁ : Shared} (hh : A.handled = none) (F : Fr h₀ L s₁.heap m) (N : News h₀ L s₁.heap news) (hsz : X.length ≤ 1000)
    (h : ∀ g, LCg.CompRest prog w A h₀ L m env elt x scope cl { s₁ with heap := g } (fun _ => True) (SignAt X) (Fin { s₁ with heap := g }) X.cps.size 0 [] news) :
    SrcT prog w A h₀ L m env elt x scope cl Fin (.str X t) s₁ :=
  ⟨X, t, news, rfl, hh, F, N, by rw [sizeLine_eq]; have : X.cps.size = X.length := rfl; omega, fun _ ⟨g, e⟩ => e ▸ h g⟩
theorem join_tl {D : Addr} {ys : List Value} {α : Type} {l : List α} {g : α → Str} {t : Tok} {Q : Value → Shared → Prop} (hl : s.heap.IsList D ys.toArray) (hc : CarriedAll ys (l.map fun a => PyData.str (g a))) (hB : ∀ a ∈ l, (g a).length ≤ 3) (hn : l.length ≤ 100)
    (h : ∀ z t' k, tl z = l.flatMap (fun a => tl (g a)) → Q (.str z t') { s with toks := k }) : wpAny (model prog w) A (call (.builtin "str.join") [.str (Str.ofString "") t, .ref D]) Q E s := by
  refine KT.join_B 3 hl hc hB (by omega) (by decide) fun t' k => h _ t' k ?_
  have key : ∀ (r : List Str), tl (Str.join (Str.ofString "") r) = r.flatMap tl := by
    intro r
    induction r with
    | nil => rfl
    | cons x r ih =>
      cases r with
      | nil => simp [Str.join]
      | cons y r =>
        have e : Str.join (Str.ofString "") (x :: y :: r) = x ++ Str.ofString "" ++ Str.join (Str.ofString "") (y :: r) := rfl
        have z : tl (Str.ofString "") = [] := by decide
        have ap : ∀ a b : Str, tl (a ++ b) = tl a ++ tl b := fun a b => by show (a.cps ++ b.cps).toList = _; rw [Array.toList_append]
        rw [e, ap, ap, z, ih, List.append_nil]; rfl
  show tl (Builtin.Str.glued (Str.ofString "") (l.map g)) = _
  rw [StrLaws.glued_eq_join, key, List.flatMap_map]
end
end Mine
end
section
open PySem PySem.W PySem.Calls PyProof PyProof.Rows PyProof.V PySem.Spec
namespace Mine
theorem and31 (c : Nat) : Builtin.bitAnd (c : Int) 31 = ((c % 32 : Nat) : Int) := by rw [bitAnd_m5]; omega
theorem and127 (c : Nat) : Builtin.bitAnd (c : Int) 127 = ((c % 128 : Nat) : Int) := by rw [bitAnd_m7]; omega
theorem and128' : ∀ c : Nat, c < 256 → Builtin.bitAnd (c : Int) 128 = ((c / 128 * 128 : Nat) : Int) := by decide +kernel
theorem or128' : ∀ c : Nat, c < 256 → Builtin.bitOr (c : Int) 128 = ((c % 128 + 128 : Nat) : Int) := by decide +kernel
theorem or32' : ∀ c : Nat, c < 32 → Builtin.bitOr (c : Int) 32 = ((c + 32 : Nat) : Int) := by decide +kernel
section
variable {prog : Program} {w : World} {A : Around} {E : Value → Shared → Prop} {s : Shared} {t u : Tok} {Q : Value → Shared → Prop} {c : Nat}
theorem r_and31 (h : Q (.int ((c % 32 : Nat) : Int) s.toks) { s with toks := s.toks + 1 }) : wpAny (model prog w) A (binaryOp .BitAnd (.int (c : Int) t) (.int 31 u)) Q E s := and_int (by rw [and31]; exact h)
theorem r_and127 (h : Q (.int ((c % 128 : Nat) : Int) s.toks) { s with toks := s.toks + 1 }) : wpAny (model prog w) A (binaryOp .BitAnd (.int (c : Int) t) (.int 127 u)) Q E s := and_int (by rw [and127]; exact h)
theorem r_and128 (hc : c < 256) (h : Q (.int ((c / 128 * 128 : Nat) : Int) s.toks) { s with toks := s.toks + 1 }) : wpAny (model prog w) A (binaryOp .BitAnd (.int (c : Int) t) (.int 128 u)) Q E s := and_int (by rw [and128' c hc]; exact h)
theorem r_or128 (hc : c < 256) (h : Q (.int ((c % 128 + 128 : Nat) : Int) s.toks) { s with toks := s.toks + 1 }) : wpAny (model prog w) A (binaryOp .BitOr (.int (c : Int) t) (.int 128 u)) Q E s := or_int (by rw [or128' c hc]; exact h)
theorem r_or32 (hc : c < 32) (h : Q (.int ((c + 32 : Nat) : Int) s.toks) { s with toks := s.toks + 1 }) : wpAny (model prog w) A (binaryOp .BitOr (.int (c : Int) t) (.int 32 u)) Q E s := or_int (by rw [or32' c hc]; exact h)
theorem r_add32 (h : Q (.int ((c + 32 : Nat) : Int) s.toks) { s with toks := s.toks + 1 }) : wpAny (model prog w) A (binaryOp .Add (.int (c : Int) t) (.int 32 u)) Q E s := add_int (by rw [show (c : Int) + 32 = ((c + 32 : Nat) : Int) by omega]; exact h)
theorem r_lenF {D : Addr} {ys : List Value} {cs : List Int} {p : Int → Bool} (hl : s.heap.IsList D ys.toArray) (hc : CarriedAll ys (List.map PyData.int (List.filter p cs))) (hn : cs.length ≤ 5)
    (h : Q (.int (((List.filter p cs).length : Nat) : Int) (s.toks + 1)) { s with toks := s.toks + 1 + 1 }) : wpAny (model prog w) A (call (.builtin "len") [.ref D]) Q E s := by
  have e : ys.toArray.size = (List.filter p cs).length := by rw [List.size_toArray, carriedAll_lenA hc, List.length_map]
  have := List.length_filter_le p cs
  refine len_list hl (by rw [e]; omega) (by rw [e]; exact h)
/-- chr of a code that is known as a natural number -/
theorem r_chr {i : Int} (n : Nat) (e : i = (n : Int)) (hn : n ≤ 1114111) (h : Q (.str ⟨#[n]⟩ s.toks) { s with toks := s.toks + 1 }) : wpAny (model prog w) A (call (.builtin "chr") [.int i t]) Q E s := by
  subst e
  exact chr_of_range (by omega) (by omega) (by simpa using h)
end
theorem tl_app (a b : Str) : tl (a ++ b) = tl a ++ tl b := by show (a.cps ++ b.cps).toList = _; rw [Array.toList_append]
theorem tl_hat (n : Nat) : tl (Str.ofString "^" ++ ⟨#[n]⟩) = [94, n] := by rw [tl_app, show tl (Str.ofString "^") = [94] by decide]; rfl
theorem tl_bang (x : Str) : tl (Str.ofString "!" ++ x) = 33 :: tl x := by rw [tl_app, show tl (Str.ofString "!") = [33] by decide]; rfl
theorem len_hat (n : Nat) : (Str.ofString "^" ++ ⟨#[n]⟩ : Str).length ≤ 3 := by rw [← tl_len, tl_hat]; exact Nat.le_succ 2
theorem len_bang_hat (n : Nat) : (Str.ofString "!" ++ (Str.ofString "^" ++ ⟨#[n]⟩) : Str).length ≤ 3 := by rw [← tl_len, tl_bang, tl_hat]; exact Nat.le_refl 3
theorem flat_len {α β : Type} (n : Nat) (f : α → List β) (hf : ∀ a, (f a).length = n) (l : List α) : (l.flatMap f).length = n * l.length := by
  induction l with
  | nil => rfl
  | cons a l ih => rw [List.flatMap_cons, List.length_append, ih, hf, List.length_cons, Nat.mul_succ]; omega
theorem flat_map1 {α : Type} (f : α → Nat) (l : List α) : l.flatMap (fun a => tl ⟨#[f a]⟩) = l.map f := by
  induction l with
  | nil => rfl
  | cons a l ih => rw [List.flatMap_cons, ih]; rfl
end Mine
end
section
open PySem PyProof
namespace Mine
def lowN (x : Nat) : Nat := if (65 ≤ x ∧ x ≤ 90) ∨ (192 ≤ x ∧ x ≤ 222 ∧ x ≠ 215) then x + 32 else x
theorem lower_low : ∀ x : Nat, x < 256 → Txt.lower ⟨#[x]⟩ = ⟨#[lowN x]⟩ := by decide +kernel
theorem subC_low {x y : Nat} (hx : x < 256) (hy : y < 256) : subC x y = if x = y then 0 else if lowN x = lowN y then 1 else 2 := by
  unfold subC
  rw [lower_low x hx, lower_low y hy]
  have e : ((⟨#[lowN x]⟩ : Str) = ⟨#[lowN y]⟩) = (lowN x = lowN y) := by
    apply propext
    constructor
    · intro h
      generalize lowN x = u at h ⊢
      generalize lowN y = v at h ⊢
      cases h; rfl
    · intro h; rw [h]
  simp only [e]
/-- each sign of a costs at least f -/
theorem Al.lb {a b : List Nat} {c : Nat} (h : Al a b c) (f : Nat → Nat) (h4 : ∀ x, f x ≤ 4) (hs : ∀ x ∈ a, ∀ y ∈ b, f x ≤ subC x y) : (a.map f).sum + 2 * b.length ≤ c + 2 * a.length := by
  induction h with
  | nil => simp
  | @del a b c x _ ih =>
    have := ih (fun x hx y hy => hs x (.tail _ hx) y hy)
    have := h4 x
    simp only [List.map_cons, List.sum_cons, List.length_cons]; omega
  | @ins a b c y _ ih =>
    have := ih (fun x hx y hy => hs x hx y (.tail _ hy))
    simp only [List.length_cons]; omega
  | @sub a b c x y _ ih =>
    have := ih (fun x hx y hy => hs x (.tail _ hx) y (.tail _ hy))
    have := hs x (.head _) y (.head _)
    simp only [List.map_cons, List.sum_cons, List.length_cons]; omega
theorem Al.le {a b : List Nat} {c d : Nat} (h : IsMin a b c) (k : Al a b d) (hd : d ≤ c) : d = c := Nat.le_antisymm hd (h.le _ k)
/-- block by block -/
theorem Al.blocks (W : List Nat) (F : Nat → List Nat) (g : Nat → Nat) (h : ∀ c ∈ W, Al [c] (F c) (g c)) : Al W (W.flatMap F) ((W.map g).sum) := by
  induction W with
  | nil => exact .nil
  | cons c W ih =>
    rw [List.flatMap_cons, List.map_cons, List.sum_cons]
    exact (h c (.head _)).append (ih fun c hc => h c (.tail _ hc))
theorem sum_add (W : List Nat) (f : Nat → Nat) (k : Nat) : (W.map fun c => k + f c).sum = k * W.length + (W.map f).sum := by
  induction W with
  | nil => simp
  | cons c W ih => simp only [List.map_cons, List.sum_cons, List.length_cons, ih, Nat.mul_succ]; omega
theorem map_flat (W : List Nat) (g : Nat → Nat) : W.map g = W.flatMap fun c => [g c] := by
  induction W with
  | nil => rfl
  | cons c W ih => rw [List.map_cons, List.flatMap_cons, ih]; rfl
theorem flat_length (W : List Nat) (F : Nat → List Nat) (k : Nat) (h : ∀ c, (F c).length = k) : (W.flatMap F).length = k * W.length := by
  induction W with
  | nil => simp
  | cons c W ih => rw [List.flatMap_cons, List.length_append, ih, h, List.length_cons, Nat.mul_succ]; omega
/-- the frame of all four: k more signs for each, f the cost of a sign -/
theorem min_blocks (W : List Nat) (F : Nat → List Nat) (f : Nat → Nat) (k : Nat) (hk : ∀ c, (F c).length = k + 1) (h2 : ∀ x, f x ≤ 4)
    (ub : ∀ c ∈ W, Al [c] (F c) (2 * k + f c)) (lb : ∀ x ∈ W, ∀ y ∈ W.flatMap F, f x ≤ subC x y) : IsMin W (W.flatMap F) (2 * k * W.length + (W.map f).sum) := by
  refine ⟨?_, fun c h => ?_⟩
  · rw [← sum_add]; exact Al.blocks W F _ ub
  · have := h.lb f h2 lb
    rw [flat_length W F (k + 1) hk] at this
    have e : 2 * ((k + 1) * W.length) = 2 * k * W.length + 2 * W.length := by rw [Nat.add_mul, Nat.mul_add, Nat.one_mul, Nat.mul_assoc]
    omega
def f1 (x : Nat) : Nat := if x < 32 then 0 else 2
def f2 (x : Nat) : Nat := if 128 ≤ x ∧ x < 160 then 0 else 2
def f3 (x : Nat) : Nat := if 64 ≤ x ∧ x < 96 then 0 else if 97 ≤ x ∧ x < 123 then 1 else 2
def f4 (x : Nat) : Nat := if x = 33 then 0 else f3 x
theorem min_sunk (W : List Nat) (hW : ∀ x ∈ W, x < 256) : IsMin W (W.map fun c => c % 32) ((W.map f1).sum) := by
  rw [map_flat]
  have h := min_blocks W (fun c => [c % 32]) f1 0 (fun _ => rfl) (fun x => by unfold f1; split <;> omega) (fun c hc => (Al.sub1 c (c % 32)).cast ?_) (fun x hx y hy => ?_)
  · simpa using h
  · rw [subC_low (hW c hc) (by omega)]; unfold f1 lowN
    repeat' split
    all_goals omega
  · obtain ⟨d, _, hd⟩ := List.mem_flatMap.mp hy
    rw [List.mem_singleton.mp hd, subC_low (hW x hx) (by omega)]; unfold f1 lowN
    repeat' split
    all_goals omega
theorem min_lifted (W : List Nat) (hW : ∀ x ∈ W, x < 256) : IsMin W (W.map fun c => c % 32 % 128 + 128) ((W.map f2).sum) := by
  rw [map_flat]
  have h := min_blocks W (fun c => [c % 32 % 128 + 128]) f2 0 (fun _ => rfl) (fun x => by unfold f2; split <;> omega) (fun c hc => (Al.sub1 c _).cast ?_) (fun x hx y hy => ?_)
  · simpa using h
  · rw [subC_low (hW c hc) (by omega)]; unfold f2 lowN
    repeat' split
    all_goals omega
  · obtain ⟨d, _, hd⟩ := List.mem_flatMap.mp hy
    rw [List.mem_singleton.mp hd, subC_low (hW x hx) (by omega)]; unfold f2 lowN
    repeat' split
    all_goals omega
theorem f3_le (x : Nat) : f3 x ≤ 2 := by unfold f3; (repeat' split) <;> omega
theorem f3_sub {x y : Nat} (hx : x < 256) (h1 : 64 ≤ y) (h2 : y < 96) : f3 x ≤ subC x y := by
  rw [subC_low hx (by omega)]; unfold f3 lowN
  repeat' split
  all_goals omega
theorem f3_up {c : Nat} (hc : c < 256) : subC c (c % 32 % 128 + 32 + 32) = f3 c := by
  rw [subC_low hc (by omega)]; unfold f3 lowN
  repeat' split
  all_goals omega
theorem min_shown (W : List Nat) (hW : ∀ x ∈ W, x < 256) : IsMin W (W.flatMap fun c => [94, c % 32 % 128 + 32 + 32]) (2 * W.length + (W.map f3).sum) := by
  have h := min_blocks W (fun c => [94, c % 32 % 128 + 32 + 32]) f3 1 (fun _ => rfl) (fun x => by have := f3_le x; omega) (fun c hc => (Al.ins 94 (Al.sub1 c _)).cast ?_) (fun x hx y hy => ?_)
  · simpa using h
  · rw [f3_up (hW c hc)]; omega
  · obtain ⟨d, _, hd⟩ := List.mem_flatMap.mp hy
    rcases List.mem_cons.mp hd with rfl | hd
    · exact f3_sub (hW x hx) (by omega) (by omega)
    · rw [List.mem_singleton.mp hd]; exact f3_sub (hW x hx) (by omega) (by omega)
theorem min_marked (W : List Nat) (hW : ∀ x ∈ W, x < 256) : IsMin W (W.flatMap fun c => [33, 94, c % 32 % 128 + 32 + 32]) (4 * W.length + (W.map f4).sum) := by
  have h := min_blocks W (fun c => [33, 94, c % 32 % 128 + 32 + 32]) f4 2 (fun _ => rfl) (fun x => by have := f3_le x; unfold f4; split <;> omega) (fun c hc => ?_) (fun x hx y hy => ?_)
  · simpa using h
  · by_cases e : c = 33
    · subst e
      exact (Al.sub 33 33 (Al.ofNil [94, 33 % 32 % 128 + 32 + 32])).cast (by rw [subC_self]; rfl)
    · exact (Al.ins 33 (Al.ins 94 (Al.sub1 c _))).cast (by rw [f3_up (hW c hc)]; unfold f4; rw [if_neg e]; omega)
  · have hf : x ≠ 33 → f4 x = f3 x := fun e => by unfold f4; rw [if_neg e]
    by_cases e : x = 33
    · subst e; exact Nat.zero_le _
    rw [hf e]
    obtain ⟨d, _, hd⟩ := List.mem_flatMap.mp hy
    rcases List.mem_cons.mp hd with rfl | hd
    · rw [subC_low (hW x hx) (by omega)]
      have := f3_le x
      unfold lowN
      repeat' split
      all_goals omega
    · rcases List.mem_cons.mp hd with rfl | hd
      · exact f3_sub (hW x hx) (by omega) (by omega)
      · rw [List.mem_singleton.mp hd]; exact f3_sub (hW x hx) (by omega) (by omega)
/-- the marks, and the rest -/
def n33 (A : List Nat) : Nat := (A.filter fun x => x == 33).length
def nOt (A : List Nat) : Nat := (A.filter fun x => x != 33).length
theorem n33_cons (x : Nat) (A : List Nat) : n33 (x :: A) = n33 A + (if x = 33 then 1 else 0) := by
  unfold n33; by_cases h : x = 33 <;> simp [h]
theorem nOt_cons (x : Nat) (A : List Nat) : nOt (x :: A) = nOt A + (if x = 33 then 0 else 1) := by
  unfold nOt; by_cases h : x = 33 <;> simp [h]
theorem n_len (A : List Nat) : n33 A + nOt A = A.length := by
  induction A with
  | nil => rfl
  | cons x A ih => rw [n33_cons, nOt_cons, List.length_cons]; split <;> omega
def okA : List Nat → Prop
  | [] => True
  | x :: A => (A = [] → x ≠ 33) ∧ okA A
theorem okA_pos : ∀ {A : List Nat}, okA A → nOt A = 0 → A = []
  | [], _, _ => rfl
  | x :: A, h, e => by
    rw [nOt_cons] at e
    have hA := okA_pos h.2 (by omega)
    have := h.1 hA
    rw [if_neg this] at e
    omega
def Phi (p q s : Nat) : Nat := if s ≤ q then p + max (q - s) 1 else max p (s - q + 1)
theorem phi_lb {A B : List Nat} {c : Nat} (h : Al A B c) : ∀ S, B = S ++ [10] → (∀ x ∈ A, x ≠ 10) → (∀ y ∈ S, y ≠ 33) → (∀ x ∈ A, ∀ y ∈ B, x ≠ y → subC x y = 2) → okA A → 2 * Phi (n33 A) (nOt A) S.length ≤ c := by
  induction h with
  | nil => intro S e; exact absurd (congrArg List.length e) (by simp)
  | @del a b c x _ ih =>
    intro S e h10 h33 hs ok
    have := ih S e (fun x hx => h10 x (.tail _ hx)) h33 (fun x hx y hy => hs x (.tail _ hx) y hy) ok.2
    have hz : nOt a = 0 → n33 a = 0 ∧ x ≠ 33 := fun z => by
      have := okA_pos ok.2 z
      subst this
      exact ⟨rfl, ok.1 rfl⟩
    rw [n33_cons, nOt_cons]
    unfold Phi at this ⊢
    by_cases hx : x = 33
    · simp only [hx, if_true]
      have hq : nOt a ≠ 0 := fun z => (hz z).2 hx
      split at this <;> split <;> omega
    · simp only [hx, if_false]
      split at this <;> split <;> omega
  | @ins a b c y hb ih =>
    intro S e h10 h33 hs ok
    cases S with
    | nil =>
      simp only [List.nil_append, List.cons.injEq] at e
      obtain ⟨rfl, rfl⟩ := e
      have := hb.len
      have hl := n_len a
      simp only [List.length_nil] at this ⊢
      unfold Phi
      simp only [Nat.zero_le, if_true]
      omega
    | cons z S =>
      simp only [List.cons_append, List.cons.injEq] at e
      obtain ⟨rfl, rfl⟩ := e
      have := ih S rfl h10 (fun y hy => h33 y (.tail _ hy)) (fun x hx y hy => hs x hx y (.tail _ hy)) ok
      simp only [List.length_cons]
      have hz : nOt a = 0 → n33 a = 0 := fun z => by
        have := okA_pos ok z
        subst this
        rfl
      unfold Phi at this ⊢
      split at this <;> split <;> omega
  | @sub a b c x y hb ih =>
    intro S e h10 h33 hs ok
    have hz : nOt a = 0 → n33 a = 0 ∧ x ≠ 33 := fun z => by
      have := okA_pos ok.2 z
      subst this
      exact ⟨rfl, ok.1 rfl⟩
    cases S with
    | nil =>
      simp only [List.nil_append, List.cons.injEq] at e
      obtain ⟨rfl, rfl⟩ := e
      have := hb.len
      have hl := n_len a
      rw [hs x (.head _) 10 (.head _) (h10 x (.head _)), n33_cons, nOt_cons]
      simp only [List.length_nil] at this ⊢
      unfold Phi
      simp only [Nat.zero_le, if_true]
      by_cases hx : x = 33
      · simp only [hx, if_true]
        have hq : nOt a ≠ 0 := fun z => (hz z).2 hx
        omega
      · simp only [hx, if_false]
        omega
    | cons z S =>
      simp only [List.cons_append, List.cons.injEq] at e
      obtain ⟨rfl, rfl⟩ := e
      have := ih S rfl (fun x hx => h10 x (.tail _ hx)) (fun y hy => h33 y (.tail _ hy)) (fun x hx y hy => hs x (.tail _ hx) y (.tail _ hy)) ok.2
      have hy := h33 y (.head _)
      rw [n33_cons, nOt_cons]
      simp only [List.length_cons]
      unfold Phi at this ⊢
      by_cases hx : x = 33
      · have hq : nOt a ≠ 0 := fun z => (hz z).2 hx
        rw [hs x (.head _) y (.head _) (by omega)]
        simp only [hx, if_true]
        split at this <;> split <;> omega
      · simp only [hx, if_false]
        split at this <;> split <;> omega
/-- the line end ahead of it -/
theorem psi_lb {A0 B : List Nat} {c : Nat} (h : Al A0 B c) : ∀ A S, A0 = 10 :: A → B = S ++ [10] → (∀ x ∈ A, x ≠ 10) → (∀ y ∈ S, y ≠ 33 ∧ y ≠ 10) → (∀ x ∈ A0, ∀ y ∈ B, x ≠ y → subC x y = 2) → okA A → 1 ≤ n33 A → nOt A = 2 * n33 A → S.length ≤ nOt A →
    (S ≠ [] → 2 * (n33 A + 2) ≤ c) ∧ (S = [] → 2 * min (n33 A + 2) (3 * n33 A) ≤ c) := by
  induction h with
  | nil => intro A S e; cases e
  | @del a b c x hb _ =>
    intro A S e eB h10 h33 hs ok h1 h2 hS
    cases e
    have := phi_lb hb S eB h10 (fun y hy => (h33 y hy).1) (fun x hx y hy => hs x (.tail _ hx) y hy) ok
    unfold Phi at this
    rw [if_pos hS] at this
    constructor <;> intro _ <;> omega
  | @ins a b c y hb ih =>
    intro A S e eB h10 h33 hs ok h1 h2 hS
    cases S with
    | nil =>
      simp only [List.nil_append, List.cons.injEq] at eB
      obtain ⟨rfl, rfl⟩ := eB
      subst e
      have := hb.len
      have hl := n_len A
      simp only [List.length_nil, List.length_cons] at this
      exact ⟨fun h => absurd rfl h, fun _ => by omega⟩
    | cons z S =>
      simp only [List.cons_append, List.cons.injEq] at eB
      obtain ⟨rfl, rfl⟩ := eB
      simp only [List.length_cons] at hS
      have := ih A S e rfl h10 (fun y hy => h33 y (.tail _ hy)) (fun x hx y hy => hs x hx y (.tail _ hy)) ok h1 h2 (by omega)
      refine ⟨fun _ => ?_, fun h => absurd h (by simp)⟩
      by_cases hn : S = []
      · have := this.2 hn; omega
      · have := this.1 hn; omega
  | @sub a b c x y hb _ =>
    intro A S e eB h10 h33 hs ok h1 h2 hS
    cases e
    cases S with
    | nil =>
      simp only [List.nil_append, List.cons.injEq] at eB
      obtain ⟨rfl, rfl⟩ := eB
      have := hb.len
      have hl := n_len a
      simp only [List.length_nil] at this
      exact ⟨fun h => absurd rfl h, fun _ => by omega⟩
    | cons z S =>
      simp only [List.cons_append, List.cons.injEq] at eB
      obtain ⟨rfl, rfl⟩ := eB
      simp only [List.length_cons] at hS
      have := phi_lb hb S rfl h10 (fun y hy => (h33 y (.tail _ hy)).1) (fun x hx y hy => hs x (.tail _ hx) y (.tail _ hy)) ok
      unfold Phi at this
      rw [if_pos (by omega)] at this
      have e2 : subC 10 y = 2 := hs 10 (.head _) y (.head _) (fun e => (h33 y (.head _)).2 e.symm)
      rw [e2]
      exact ⟨fun _ => by omega, fun h => absurd h (by simp)⟩
theorem n33_marks (W : List Nat) (h : Nat → Nat) (hh : ∀ c, h c ≠ 33) : n33 (W.flatMap fun c => [33, 94, h c]) = W.length ∧ nOt (W.flatMap fun c => [33, 94, h c]) = 2 * W.length ∧ okA (W.flatMap fun c => [33, 94, h c]) := by
  induction W with
  | nil => exact ⟨rfl, rfl, trivial⟩
  | cons c W ih =>
    have e : ((c :: W).flatMap fun c => [33, 94, h c]) = 33 :: 94 :: h c :: (W.flatMap fun c => [33, 94, h c]) := rfl
    rw [e]
    have hc := hh c
    refine ⟨by rw [n33_cons, n33_cons, n33_cons, ih.1, if_neg hc, if_neg (by decide), if_pos rfl, List.length_cons], by rw [nOt_cons, nOt_cons, nOt_cons, ih.2.1, if_neg hc, if_neg (by decide), if_pos rfl, List.length_cons]; omega, fun h => absurd h (by simp), fun h => absurd h (by simp), fun _ => hh c, ih.2.2⟩
theorem marks_mem {W : List Nat} {h : Nat → Nat} {x : Nat} (hx : x ∈ W.flatMap fun c => [33, 94, h c]) : x = 33 ∨ x = 94 ∨ ∃ c, x = h c := by
  obtain ⟨c, _, hc⟩ := List.mem_flatMap.mp hx
  rcases List.mem_cons.mp hc with rfl | hc
  · exact .inl rfl
  · rcases List.mem_cons.mp hc with rfl | hc
    · exact .inr (.inl rfl)
    · exact .inr (.inr ⟨c, List.mem_singleton.mp hc⟩)
theorem shown_mem {W : List Nat} {h : Nat → Nat} {x : Nat} (hx : x ∈ W.flatMap fun c => [94, h c]) : x = 94 ∨ ∃ c, x = h c := by
  obtain ⟨c, _, hc⟩ := List.mem_flatMap.mp hx
  rcases List.mem_cons.mp hc with rfl | hc
  · exact .inl rfl
  · exact .inr ⟨c, List.mem_singleton.mp hc⟩
theorem al_marks (W : List Nat) (h : Nat → Nat) : Al (W.flatMap fun c => [33, 94, h c]) (W.flatMap fun c => [94, h c]) (2 * W.length) := by
  induction W with
  | nil => exact .nil
  | cons c W ih =>
    rw [List.flatMap_cons, List.flatMap_cons]
    exact ((Al.del 33 (Al.refl [94, h c])).append ih).cast (by rw [List.length_cons]; omega)
theorem min_ends (W : List Nat) (h : Nat → Nat) (hh : ∀ c, 64 ≤ h c ∧ h c < 96) (hn : 1 ≤ W.length) : IsMin (10 :: (W.flatMap fun c => [33, 94, h c])) ((W.flatMap fun c => [94, h c]) ++ [10]) (2 * W.length + 4) := by
  obtain ⟨e1, e2, ok⟩ := n33_marks W h (fun c => by have := hh c; omega)
  refine ⟨?_, fun c k => ?_⟩
  · have := (Al.del 10 (al_marks W h)).append (Al.ins1 10)
    simpa using this
  · have := psi_lb k _ _ rfl rfl (fun x hx => ?_) (fun y hy => ?_) (fun x hx y hy hxy => ?_) ok (by omega) (by omega) (by rw [flat_length W _ 2 (fun _ => rfl)]; omega)
    · have hne : (W.flatMap fun c => [94, h c]) ≠ [] := fun e => by
        have := flat_length W (fun c => [94, h c]) 2 (fun _ => rfl)
        rw [e] at this
        simp only [List.length_nil] at this
        omega
      have := this.1 hne
      omega
    · rcases marks_mem hx with rfl | rfl | ⟨c, rfl⟩
      · decide
      · decide
      · have := hh c; omega
    · rcases shown_mem hy with rfl | ⟨c, rfl⟩
      · decide
      · have := hh c; omega
    · have hx' : x = 10 ∨ x = 33 ∨ (64 ≤ x ∧ x < 96) := by
        rcases List.mem_cons.mp hx with rfl | hx
        · exact .inl rfl
        · rcases marks_mem hx with rfl | rfl | ⟨c, rfl⟩
          · exact .inr (.inl rfl)
          · exact .inr (.inr (by omega))
          · exact .inr (.inr (hh c))
      have hy' : y = 10 ∨ (64 ≤ y ∧ y < 96) := by
        rcases List.mem_append.mp hy with hy | hy
        · rcases shown_mem hy with rfl | ⟨c, rfl⟩
          · exact .inr (by omega)
          · exact .inr (hh c)
        · exact .inl (List.mem_singleton.mp hy)
      rw [subC_low (by omega) (by omega), if_neg hxy]
      unfold lowN
      (repeat' split) <;> omega
end Mine
end
section
open PySem PyProof
namespace Mine
theorem sum_f1 (cs : List Int) (hb : ∀ c ∈ cs, 0 ≤ c ∧ c < 256) : ((((cs.map Int.toNat).map f1).sum : Nat) : Int) = 2 * ((cs.filter (fun a => decide (32 ≤ a))).length : Int) := by
  induction cs with
  | nil => rfl
  | cons c cs ih =>
    have := ih (fun c hc => hb c (.tail _ hc))
    have hc := hb c (.head _)
    simp only [List.map_cons, List.sum_cons, List.filter_cons]
    by_cases h : 32 ≤ c
    · rw [show f1 c.toNat = 2 by unfold f1; rw [if_neg (by omega)]]
      simp only [h, decide_true, if_true, List.length_cons]; omega
    · rw [show f1 c.toNat = 0 by unfold f1; rw [if_pos (by omega)]]
      simp only [h, decide_false, Bool.false_eq_true, if_false]; omega
theorem sum_f2 (cs : List Int) (hb : ∀ c ∈ cs, 0 ≤ c ∧ c < 256) : ((((cs.map Int.toNat).map f2).sum : Nat) : Int) = 2 * ((cs.filter (fun a => if a < 128 then true else if 160 ≤ a then true else false)).length : Int) := by
  induction cs with
  | nil => rfl
  | cons c cs ih =>
    have := ih (fun c hc => hb c (.tail _ hc))
    have hc := hb c (.head _)
    simp only [List.map_cons, List.sum_cons, List.filter_cons]
    by_cases h : c < 128
    · rw [show f2 c.toNat = 2 by unfold f2; rw [if_neg (by omega)]]
      simp only [h, if_true, List.length_cons]; omega
    · by_cases h' : 160 ≤ c
      · rw [show f2 c.toNat = 2 by unfold f2; rw [if_neg (by omega)]]
        simp only [h, h', if_false, if_true, List.length_cons]; omega
      · rw [show f2 c.toNat = 0 by unfold f2; rw [if_pos (by omega)]]
        simp only [h, h', Bool.false_eq_true, if_false]; omega
theorem sum_f3 (cs : List Int) (hb : ∀ c ∈ cs, 0 ≤ c ∧ c < 256) : ((((cs.map Int.toNat).map f3).sum : Nat) : Int) = 2 * (cs.length : Int) - 2 * ((cs.filter (fun a => if 64 ≤ a then decide (a < 96) else false)).length : Int) - ((cs.filter (fun a => if 97 ≤ a then decide (a < 123) else false)).length : Int) := by
  induction cs with
  | nil => rfl
  | cons c cs ih =>
    have := ih (fun c hc => hb c (.tail _ hc))
    have hc := hb c (.head _)
    simp only [List.map_cons, List.sum_cons, List.filter_cons, List.length_cons]
    by_cases h1 : 64 ≤ c ∧ c < 96
    · rw [show f3 c.toNat = 0 by unfold f3; rw [if_pos (by omega)]]
      simp only [h1.1, h1.2, decide_true, if_true, show ¬ 97 ≤ c by omega, Bool.false_eq_true, if_false, List.length_cons]; omega
    · have e1 : (if 64 ≤ c then decide (c < 96) else false) = false := by
        by_cases h : 64 ≤ c
        · rw [if_pos h]; exact decide_eq_false (by omega)
        · rw [if_neg h]
      by_cases h2 : 97 ≤ c ∧ c < 123
      · rw [show f3 c.toNat = 1 by unfold f3; rw [if_neg (by omega), if_pos (by omega)]]
        simp only [e1, h2.1, h2.2, decide_true, if_true, Bool.false_eq_true, if_false, List.length_cons]; omega
      · have e2 : (if 97 ≤ c then decide (c < 123) else false) = false := by
          by_cases h : 97 ≤ c
          · rw [if_pos h]; exact decide_eq_false (by omega)
          · rw [if_neg h]
        rw [show f3 c.toNat = 2 by unfold f3; rw [if_neg (by omega), if_neg (by omega)]]
        simp only [e1, e2, Bool.false_eq_true, if_false]; omega
theorem sum_f4 (cs : List Int) (hb : ∀ c ∈ cs, 0 ≤ c ∧ c < 256) : ((((cs.map Int.toNat).map f4).sum : Nat) : Int) = (((cs.map Int.toNat).map f3).sum : Nat) - 2 * ((cs.count 33 : Nat) : Int) := by
  induction cs with
  | nil => rfl
  | cons c cs ih =>
    have := ih (fun c hc => hb c (.tail _ hc))
    have hc := hb c (.head _)
    simp only [List.map_cons, List.sum_cons, List.count_cons]
    by_cases h : c = 33
    · subst h
      simp only [show f4 (33 : Int).toNat = 0 by decide, show f3 (33 : Int).toNat = 2 by decide, beq_self_eq_true, if_true]; omega
    · rw [show f4 c.toNat = f3 c.toNat by unfold f4; rw [if_neg (by omega)]]
      have : (c == 33) = false := by simpa using h
      simp only [this, Bool.false_eq_true, if_false]; omega
/-- all that the law asks -/
theorem asks3 {cs : List Int} {z0 z1 z2 z3 z4 : Str} (hb : ∀ c ∈ cs, 0 ≤ c ∧ c < 256) (hl : 1 ≤ cs.length) (h0 : z0.cps.toList = cs.map Int.toNat) (h1 : z1.cps.toList = z0.cps.toList.map (fun c => c % 32)) (h2 : z2.cps.toList = z1.cps.toList.map (fun c => c % 128 + 128))
    (h3 : z3.cps.toList = z1.cps.toList.flatMap (fun c => [94, c % 128 + 32 + 32])) (h4 : z4.cps.toList = z2.cps.toList.flatMap (fun c => [33, 94, c % 128 + 32 + 32])) :
    (∃ v : Nat, IsMin z0.cps.toList z1.cps.toList v ∧ (v : Int) = 2 * ((cs.filter (fun a => decide (32 ≤ a))).length : Int)) ∧
    (∃ v : Nat, IsMin z0.cps.toList z2.cps.toList v ∧ (v : Int) = 2 * ((cs.filter (fun a => if a < 128 then true else if 160 ≤ a then true else false)).length : Int)) ∧
    (∃ v : Nat, IsMin z0.cps.toList z3.cps.toList v ∧ (v : Int) = 2 * (cs.length : Int) + (2 * (cs.length : Int) - 2 * ((cs.filter (fun a => if 64 ≤ a then decide (a < 96) else false)).length : Int) - ((cs.filter (fun a => if 97 ≤ a then decide (a < 123) else false)).length : Int))) ∧
    (∃ v : Nat, IsMin z0.cps.toList z4.cps.toList v ∧ (v : Int) = 4 * (cs.length : Int) + (2 * (cs.length : Int) - 2 * ((cs.filter (fun a => if 64 ≤ a then decide (a < 96) else false)).length : Int) - ((cs.filter (fun a => if 97 ≤ a then decide (a < 123) else false)).length : Int)) - 2 * ((cs.count 33 : Nat) : Int)) ∧
    (∃ v : Nat, IsMin (Str.ofString "\n" ++ z4).cps.toList (z3 ++ Str.ofString "\n").cps.toList v ∧ (v : Int) = 2 * (cs.length : Int) + 4) := by
  have hW : ∀ x ∈ cs.map Int.toNat, x < 256 := by
    intro x hx
    obtain ⟨c, hc, rfl⟩ := List.mem_map.mp hx
    have := hb c hc
    omega
  have e1 : z1.cps.toList = (cs.map Int.toNat).map (fun c => c % 32) := by rw [h1, h0]
  have e2 : z2.cps.toList = (cs.map Int.toNat).map (fun c => c % 32 % 128 + 128) := by rw [h2, e1, List.map_map]; rfl
  have e3 : z3.cps.toList = (cs.map Int.toNat).flatMap (fun c => [94, c % 32 % 128 + 32 + 32]) := by rw [h3, e1, List.flatMap_map]
  have e4 : z4.cps.toList = (cs.map Int.toNat).flatMap (fun c => [33, 94, c % 32 % 128 + 32 + 32]) := by
    rw [h4, e2, List.flatMap_map]
    congr 1
    funext c
    have : (c % 32 % 128 + 128) % 128 = c % 32 % 128 := by omega
    rw [this]
  refine ⟨⟨_, by rw [h0, e1]; exact min_sunk _ hW, sum_f1 cs hb⟩, ⟨_, by rw [h0, e2]; exact min_lifted _ hW, sum_f2 cs hb⟩, ⟨_, by rw [h0, e3]; exact min_shown _ hW, ?_⟩, ⟨_, by rw [h0, e4]; exact min_marked _ hW, ?_⟩, ⟨2 * (cs.map Int.toNat).length + 4, ?_, ?_⟩⟩
  · have := sum_f3 cs hb
    rw [List.length_map]; omega
  · have h3' := sum_f3 cs hb
    have h4' := sum_f4 cs hb
    rw [List.length_map]; omega
  · have a1 : (Str.ofString "\n" ++ z4).cps.toList = 10 :: z4.cps.toList := by
      show ((Str.ofString "\n").cps ++ z4.cps).toList = _
      rw [Array.toList_append, show (Str.ofString "\n").cps.toList = [10] by decide]; rfl
    have a2 : (z3 ++ Str.ofString "\n").cps.toList = z3.cps.toList ++ [10] := by
      show (z3.cps ++ (Str.ofString "\n").cps).toList = _
      rw [Array.toList_append, show (Str.ofString "\n").cps.toList = [10] by decide]
    rw [a1, a2, e3, e4]
    exact min_ends _ (fun c => c % 32 % 128 + 32 + 32) (fun c => by omega) (by rw [List.length_map]; exact hl)
  · rw [List.length_map]; omega
end Mine
end
namespace Mine
section
open PySem PySem.W PyProof.Rows
set_option maxRecDepth 100000
set_option maxHeartbeats 8000000
open_top hd3 for PySem.Challenge.rw_pe0094_03
end
end Mine
section
open PySem PySem.W PyProof PyProof.Rows Mine
set_option linter.unusedVariables false
set_option maxRecDepth 100000
set_option maxHeartbeats 8000000

namespace Mine
local macro_rules | `(tactic| walk_at "my end") => `(tactic| first | ((rename News _ _ _ _ => nE'); refine kst_end ⟨_, _, _, _, _, _, _, _, _⟩ (by assumption) nE' (by exact List.forall_mem_cons.mpr ⟨List.Mem.head _, fun _ hp => List.Mem.tail _ (List.mem_append_left _ hp)⟩) (by exact fun _ hp => List.Mem.tail _ (List.mem_append_right _ hp)) (by rfl) (by kst_facts) (by kst_all) (by kst_same) (by kst_p)) | ((rename News _ _ _ _ => nE'); refine kst_end ⟨_, _, _, _, _⟩ (by assumption) nE' (by exact List.forall_mem_cons.mpr ⟨List.Mem.head _, fun _ hp => List.Mem.tail _ (List.mem_append_left _ hp)⟩) (by exact fun _ hp => List.Mem.tail _ (List.mem_append_right _ hp)) (by rfl) (by kst_facts) (by kst_all) (by kst_same) (by kst_p)))
local macro_rules | `(tactic| walk_at "my run") => `(tactic| repeat' (first | ((with_reducible show InvEndN _ _ (KstS _ _ _ _ _ _ _ _) _ _ _ _); walk_at "my end") | ((with_reducible show wpAny _ _ (execs _ _) _ _ _); dsimp only) | (k_unfold; (try dsimp only)) | ((fail_if_success (with_reducible show wpAny _ _ (pyIter _) _ _ _)); (fail_if_success (with_reducible show wpAny _ _ (exec (Stmt.While _ _ _ _) _) _ _ _)); walk1) | (dsimp only; (fail_if_success (with_reducible show wpAny _ _ (exec (Stmt.While _ _ _ _) _) _ _ _)); (fail_if_success (with_reducible show wpAny _ _ (pyIter _) _ _ _)); walk1)))
local macro_rules | `(tactic| walk_at "my run item") => `(tactic| repeat' ((fail_if_success (with_reducible show wpAny _ _ (truthy (Value.bool (Txt.item _ _ == Txt.item _ _))) _ _ _)); first | (k_unfold; (try dsimp only)) | ((fail_if_success (with_reducible show wpAny _ _ (exec (Stmt.While _ _ _ _) _) _ _ _)); walk1) | (dsimp only; (fail_if_success (with_reducible show wpAny _ _ (exec (Stmt.While _ _ _ _) _) _ _ _)); walk1)))
local macro_rules | `(tactic| walk_at "my run if") => `(tactic| repeat' (first | ((with_reducible show wpAny _ _ (execs _ _) _ _ _); dsimp only) | (k_unfold; (try dsimp only)) | ((fail_if_success (with_reducible show wpAny _ _ (execs (Stmt.If (Expr.Compare _ [CmpOp.Lt] _ _) _ _ _ :: _) _) _ _ _)); walk1) | (dsimp only; (fail_if_success (with_reducible show wpAny _ _ (execs (Stmt.If (Expr.Compare _ [CmpOp.Lt] _ _) _ _ _ :: _) _) _ _ _)); walk1)))
local macro_rules | `(tactic| walk_at "call type:list cons nil") => `(tactic| (k_here; (rename IsRange _ _ _ _ _ _ _ _ => rgX); (with_unfolding_all refine' list_range2 _ ?k0 ?k1 ?k2 rgX ?k4 ?k5 ?_); (case k0 => rfl); (case k1 => k_asm); (case k2 => k_asm); (case k4 => rfl); (case k5 => omega); intro D' us' c' h' tk' F' N' l1 hI'; (try k_lt l1); (try k_sweep)))
local macro_rules | `(tactic| walk_at "subscriptTail Name Slice str ref") => `(tactic| ((with_reducible rename Fr _ _ _ _ => F'); (with_reducible rename News _ _ _ _ => N'); refine slice_strN_nn_len (s := ⟨_, _, _, _, _⟩) F' N' ?_; intro _ _ _ _ _ _))
theorem lev3 (w : World) (mean : ExcName → Option Value) (mg mb : Str → Option Value) (news : List (Addr × Obj)) (a b : Str) (m : Int) (v : Nat) (ta tb tm : Tok) (ha : a.length ≤ 40) (hb : b.length ≤ 40)
    (hv : IsMin (tl a) (tl b) v) (hvm : (v : Int) ≤ m + 1) :
  ∀ (dp un : Nat) (gd : Option (List Code)) (cn : Str) (cs : Scope) (fa : Addr) (ccd : Value) (cl : List (Str × Addr)) (outer : List Env) (A₀ : Around) (base h₀ : Heap) (L : Addr) (mm : Str → Option Value) (s : Shared) (Q E : Value → Shared → Prop),
    Below A₀ base outer h₀ → Fr h₀ L s.heap mm → (hd3.heap_39 w.params).In h₀ → News h₀ L s.heap news → PyProof.Rows.Top hd3.view_39 (looseW hd3.view_39 []) mean mg mb h₀ → cs.kind = .function →
    dp + 2 < recursionLimit → un + 16 < cLine → (∀ (t : Tok) (h' : Heap) (tk' : Nat), Fr h₀ L h' mm → News h₀ L h' news → Q (.int (v : Int) t) { s with heap := h', toks := tk' }) →
      wpAny (model PySem.Challenge.rw_pe0094_03.row.prog w) (ktrTop dp un gd cn cs L fa ccd cl outer) (call (.ref 28) [.str a ta, .str b tb, .int m tm]) Q E s := by
  (k_with "state" => first | exact ⟨by rw [evens_length], outInv0 (by rw [tl_len])⟩ | exact ⟨by first | with_reducible assumption | assumption, inInv0 (by first | with_reducible assumption | assumption) (by rw [tl_len]; omega) (by omega)⟩ | exact ⟨by first | with_reducible assumption | assumption, by rw [List.length_append]; exact inInv_end (by first | with_reducible assumption | assumption) (by rw [rangeKs_length, tl_len]; omega) (by rw [tl_len]; omega) (by rw [tl_len]; omega)⟩ | exact in_turn (by first | with_reducible assumption | assumption) (by first | with_reducible assumption | assumption) (by first | with_reducible assumption | assumption) (by first | with_reducible assumption | assumption) (by first | with_reducible assumption | assumption) (by first | with_reducible assumption | assumption) rfl ⟨Int.le_of_lt (by first | with_reducible assumption | assumption), Int.le_refl _⟩ | exact in_turn (by first | with_reducible assumption | assumption) (by first | with_reducible assumption | assumption) (by first | with_reducible assumption | assumption) (by first | with_reducible assumption | assumption) (by first | with_reducible assumption | assumption) (by first | with_reducible assumption | assumption) rfl ⟨Int.le_refl _, Int.not_lt.mp (by first | with_reducible assumption | assumption)⟩)
  (k_with "call ref" => k_call_by "_substitution_cost" subS (fun x y => x.length ≤ 1 ∧ y.length ≤ 1))
  (k_with "tree" => simp only [subS])
  k_fill
  intros; rename_i hret
  have cbI : CbIn 28 := CbIn.mk
  w_on
  w_strict (refine wpAny_call ?_; k_dflt cell_enter)
  walk_at "my run"
  · rename (a == b) = true => hab
    have e := beq_iff_eq.mp hab
    subst e
    have e0 := hv.uniq (IsMin.same _)
    subst e0
    exact hret _ _ _ (by assumption) (by assumption)
  · refine Mine.while_int (Str.ofString "pre") (fun k => 0 ≤ k ∧ k ≤ (a.length : Int) ∧ k ≤ (b.length : Int) ∧ (tl a).take k.toNat = (tl b).take k.toNat) (fun k => a.length - k.toNat) (fun k => 0 ≤ k ∧ k ≤ (a.length : Int) ∧ k ≤ (b.length : Int) ∧ (tl a).take k.toNat = (tl b).take k.toNat) (by assumption) (by assumption) (by with_unfolding_all rfl) ⟨by omega, by omega, by omega, by simp⟩ ?_ ?_
    · intro k u h tk ⟨hk0, hk1, hk2, hk3⟩ F N
      walk_at "my run"
      · rename (Txt.item a k == Txt.item b k) = true => hi
        exact ⟨_, _, _, _, rfl, fr_twice (by assumption), (by assumption), ⟨by omega, by omega, by omega, pre_step hk0 (by omega) (by omega) hk3 hi⟩, by omega⟩
      all_goals exact ⟨_, _, _, _, rfl, (by assumption), (by assumption), hk0, hk1, hk2, hk3⟩
    · intro k u h tk ⟨hk0, hk1, hk2, hk3⟩ F N
      walk_at "my run"
      have eA := slice_from a hk0 hk1
      have eB := slice_from b hk0 hk2
      have lA := Txt.slice_le a (some k) none
      have lB := Txt.slice_le b (some k) none
      generalize Txt.slice a (some k) none = A at *
      generalize Txt.slice b (some k) none = B at *
      refine Mine.while_int (Str.ofString "post") (fun p => p ≤ 0 ∧ 0 ≤ p + (A.length : Int) ∧ 0 ≤ p + (B.length : Int) ∧ (tl A).drop (p + A.length).toNat = (tl B).drop (p + B.length).toNat) (fun p => (p + A.length).toNat) (fun p => p ≤ 0 ∧ 0 ≤ p + (A.length : Int) ∧ 0 ≤ p + (B.length : Int) ∧ (tl A).drop (p + A.length).toNat = (tl B).drop (p + B.length).toNat) (by assumption) (by assumption) (by with_unfolding_all rfl) ⟨by omega, by omega, by omega, by rw [List.drop_of_length_le (by rw [tl_len]; omega), List.drop_of_length_le (by rw [tl_len]; omega)]⟩ ?_ ?_
      · intro p u h tk ⟨hp0, hp1, hp2, hp3⟩ F N
        by_cases hp : p = 0
        · subst hp
          have gA := slice_all_len A
          have gB := slice_all_len B
          walk_at "my run item"
          · dsimp only
            have hI : ItemsAre A B 0 (Txt.item A (0 - 1)) (Txt.item B (0 - 1)) := ⟨rfl, rfl⟩
            generalize Txt.item A (0 - 1) = ia at *
            generalize Txt.item B (0 - 1) = ib at *
            walk1
            generalize hi : (ia == ib) = c
            cases c
            · rw [if_neg (by decide)]
              walk_at "my run"
              exact ⟨_, _, _, _, rfl, (by assumption), (by assumption), hp0, hp1, hp2, hp3⟩
            · rw [if_pos rfl]
              walk_at "my run"
              exact ⟨_, _, _, _, rfl, fr_twice (by assumption), (by assumption), ⟨by omega, by omega, by omega, post_step' hI hp0 (by omega) (by omega) hp3 hi⟩, by omega⟩
          all_goals exact ⟨_, _, _, _, rfl, (by assumption), (by assumption), hp0, hp1, hp2, hp3⟩
        · have fA := slice_neg_len A (p := p) hp0 hp1 hp
          have fB := slice_neg_len B (p := p) hp0 hp2 hp
          walk_at "my run"
          all_goals first
            | (exfalso; omega)
            | exact ⟨_, _, _, _, rfl, (by assumption), (by assumption), hp0, hp1, hp2, hp3⟩
            | exact ⟨_, _, _, _, rfl, fr_twice (by assumption), (by assumption), ⟨by omega, by omega, by omega, post_step hp0 (by omega) (by omega) hp3 (by assumption)⟩, by omega⟩
      · intro p u h tk ⟨hp0, hp1, hp2, hp3⟩ F N
        (try dsimp only)
        refine execs_cut2 (Str.ofString "a") (Str.ofString "b") (fun X Y => X.length ≤ 40 ∧ Y.length ≤ 40 ∧ IsMin (tl X) (tl Y) v) (by assumption) (by assumption) ?_ ?_
        · by_cases hp : p = 0
          · subst hp
            walk_at "my run"
            exact ⟨_, _, _, _, _, _, rfl, (by assumption), (by assumption), by omega, by omega, cuts_leave hv hk3 eA eB hp3 (slice_zero _ rfl) (slice_zero _ rfl)⟩
          · walk_at "my run"
            all_goals first
            | (exfalso; omega)
            | exact ⟨_, _, _, _, _, _, rfl, (by assumption), (by assumption), by omega, by omega, cuts_leave hv hk3 eA eB hp3 (slice_neg _ (by omega) (by omega)) (slice_neg _ (by omega) (by omega))⟩
        · clear hk3 eA eB hp3 hp0 hp1 hp2 hv
          intro X tX Y tY h tk ⟨hX, hY, hv⟩ F N
          walk_at "my run if"
          all_goals first
            | (have e := empty_case hv (by omega)
               rw [e]
               exact hret _ _ _ (by assumption) (by assumption))
            | skip
          refine execs_cut1 (Str.ofString "a") (Str.ofString "b") (fun X Y => 0 < X.length ∧ X.length ≤ Y.length ∧ X.length ≤ 40 ∧ Y.length ≤ 40 ∧ IsMin (tl X) (tl Y) v) (by assumption) (by assumption) ?_ ?_
          · walk_at "my run"
            · exact ⟨_, _, _, _, _, _, rfl, fr_comm (by decide) (by assumption), cb_drop (by assumption) (fun p hp => List.mem_cons_of_mem _ hp), by omega, by omega, by omega, by omega, hv.symm⟩
            · exact ⟨_, _, _, _, _, _, rfl, fr_same2 (by assumption) (by with_unfolding_all rfl) (by with_unfolding_all rfl), (by assumption), by omega, by omega, by omega, by omega, hv⟩
          · clear hX hY hv
            intro X tX Y tY h tk ⟨hpos, hab, hX, hY, hv⟩ F N
            walk_at "my run"
            · have hlen := hv.al.len
              rw [tl_len, tl_len] at hlen
              have e : m + 1 = (v : Int) := by omega
              rw [e]
              exact hret _ _ _ (by assumption) (by assumption)
            · k_state_given ["a", "b"] (fun a b pre result row => (row.length : Int) = (a.length : Int) ∧ OutInv (tl a) (tl b) pre.length result row) "result" "row"
              · walk_at "my run"
                k_state_given ["a", "b"] (fun a b pre distance result minimum row => (row.length : Int) = (a.length : Int) ∧ InInv (tl a) (tl b) kPre.length pre.length distance result minimum row) "distance" "result" "minimum" "row"
                · walk_at "my run"
                · walk_at "my run"
                  rename InInv _ _ _ _ _ _ _ _ => hin
                  have hab := inInv_above (M := m) hin (by rw [rangeKs_length, tl_len]; omega) (by rw [tl_len]; omega) (by rw [tl_len]; omega) (by rw [tl_len]; omega) (by assumption) hv
                  have e : m + 1 = (v : Int) := by omega
                  rw [e]
                  exact hret _ _ _ (by assumption) (cb_drop (by assumption) (by intro p hp; exact List.mem_cons_of_mem _ (List.mem_append_left _ hp)))
              · walk_at "my run"
                rename OutInv _ _ _ _ _ => hout
                have e := outInv_end hout (by rw [rangeKs_length, tl_len]; omega) (by rw [tl_len]; omega) hv
                rw [e]
                exact hret _ _ _ (by assumption) (cb_drop (by assumption) (by intro p hp; exact List.mem_cons_of_mem _ hp))
end Mine
end
section
open PySem PySem.W PyProof PyProof.Rows Mine
set_option linter.unusedVariables false
set_option maxRecDepth 100000
set_option maxHeartbeats 8000000
namespace Mine
def codesOf (ns : List Int) : List Int := List.map (fun k' => Int.fmod k' 256) (List.take 4 ns) ++ [Int.fmod (ns.sum + 97) 256]
theorem codes_facts (ns : List Int) : (∀ c ∈ codesOf ns, 0 ≤ c ∧ c < 256) ∧ 1 ≤ (codesOf ns).length ∧ (codesOf ns).length ≤ 5 := by
  refine ⟨fun c hc => ?_, ?_, ?_⟩
  · rcases List.mem_append.mp hc with h | h
    · obtain ⟨k, _, rfl⟩ := List.mem_map.mp h
      exact ⟨Int.fmod_nonneg_of_pos _ (by decide), Int.fmod_lt_of_pos _ (by decide)⟩
    · rw [List.mem_singleton.mp h]
      exact ⟨Int.fmod_nonneg_of_pos _ (by decide), Int.fmod_lt_of_pos _ (by decide)⟩
  · simp [codesOf]
  · simp [codesOf]; omega
theorem codes_abs {ws : List Value} {ns : List Int} (h : IntsAre ws (List.map (fun k' => Int.fmod k' 256) (List.take 4 ns) ++ [Int.fmod (ns.sum + 97) 256])) : ∃ cs, IntsAre ws cs ∧ (∀ c ∈ cs, 0 ≤ c ∧ c < 256) ∧ 1 ≤ cs.length ∧ cs.length ≤ 5 ∧ cs.length = (List.map (fun k' => Int.fmod k' 256) (List.take 4 ns)).length + 1 := ⟨codesOf ns, h, (codes_facts ns).1, (codes_facts ns).2.1, (codes_facts ns).2.2, by simp [codesOf]⟩
end Mine
local macro_rules | `(tactic| walk_at "binaryOp BitAnd int int") => `(tactic| (first | refine r_and31 ?_ | refine r_and127 ?_ | refine r_and128 (by omega) ?_))
local macro_rules | `(tactic| walk_at "binaryOp Add int int") => `(tactic| refine r_add32 ?_)
local macro_rules | `(tactic| walk_at "call builtin:chr") => `(tactic| (refine r_chr _ rfl (by omega) ?_))
local macro_rules | `(tactic| walk_at "call builtin:len cons nil") => `(tactic| ((rename CarriedAll _ (List.map PyData.int (List.filter _ _)) => hcF); refine r_lenF (by assumption) hcF (by assumption) ?_; clear hcF))
local macro_rules | `(tactic| walk_at "binaryOp BitOr int int") => `(tactic| (first | refine r_or128 (by omega) ?_ | refine r_or32 (by omega) ?_))
local macro_rules | `(tactic| walk_at "my lev") => `(tactic| (k_here; (with_reducible show wpAny _ _ (call (Value.ref 28) _) _ _ _); (k_dflt (refine' lev3 _ _ _ _ _ _ _ _ _ _ _ _ ?ha ?hb ?hv ?hvm _ _ _ _ _ _ _ _ _ _ _ _ _ _ _ _ _ ?k1 ?k2 ?k3 ?k4 ?k5 ?kK ?kd ?ku ?kR)); (case hv => first | assumption | exact IsMin.symm (by assumption)); (case ha => first | omega | (rw [Str.length_append, show (Str.ofString "\n").length = 1 by decide]; omega)); (case hb => first | omega | (rw [Str.length_append, show (Str.ofString "\n").length = 1 by decide]; omega)); (case hvm => omega); (case k1 => k_asm); (case k2 => k_asm); (case k3 => k_asm); (case k4 => k_asm); (case k5 => k_asm); (case kK => exact rfl); (case kd => ktr_room); (case ku => ktr_units); intro t9 h9 tk9 F9 N9; (try dsimp only); (try k_fold)))
local macro_rules | `(tactic| walk_at "my run") => `(tactic| repeat' (first | ((with_reducible show wpAny _ _ (execs _ _) _ _ _); dsimp only) | (k_unfold; (try dsimp only)) | ((fail_if_success (with_reducible show wpAny _ _ (eval (PySem.Expr.ListComp (PySem.Expr.Call _ _ _ _) _ _ _) _) _ _ _)); (fail_if_success (with_reducible show wpAny _ _ (call (Value.builtin "str.join") _) _ _ _)); (fail_if_success (with_reducible show wpAny _ _ (call (Value.ref 28) _) _ _ _)); walk1) | (dsimp only; (fail_if_success (with_reducible show wpAny _ _ (eval (PySem.Expr.ListComp (PySem.Expr.Call _ _ _ _) _ _ _) _) _ _ _)); (fail_if_success (with_reducible show wpAny _ _ (call (Value.builtin "str.join") _) _ _ _)); (fail_if_success (with_reducible show wpAny _ _ (call (Value.ref 28) _) _ _ _)); walk1)))
theorem PySem.Challenge.cw_pe0094_03_holds : PySem.Challenge.rw_pe0094_03.Holds :=
  hd3 (by
  w_strict (k_go0; (all_goals try k_fold))
  have cbI : CbIn 28 := CbIn.mk
  walk_at "my run"
  rename IntsAre _ (List.map _ (List.take 4 _) ++ [_]) => hC0
  obtain ⟨cs, hC, hcb, hcl, hcu, hcn⟩ := codes_abs hC0
  clear hC0
  dsimp only
  k_dflt (refine LCg.ListComp_U (F₀ := by k_asm) (by with_unfolding_all rfl) (by decide) (by rfl) (by decide) (by rfl) ?_)
  walk1
  k_dflt (refine LCg.CompSrc.ledger (by rfl) (by k_asm) (by k_asm) (by k_mem) (by have := hC.length; simp; rw [sizeLine_eq]; omega) ?_)
  intro g'
  refine kct_list (fun k => ⟨#[k.toNat]⟩) hC (fun k' t' I' oI' C' oC' D' m' ys' h' tk' E' hk' hC' hx' F' N' off' ne' => ?_) ?_
  · (try (simp only [LCg.Off3, and_true] at off'))
    intro hMark'
    have hkb := hcb _ hk'
    (try k_fold)
    walk_at "my run"
  · intro ys hys hlen D h tk F N off1
    clear off1 hlen
    dsimp only
    walk_at "my run"
    refine join_tl (by exact News.isList N (.head _)) hys (fun a _ => Nat.le_of_ble_eq_true rfl) (by omega) ?_
    intro z0 t0 tk0 hz0
    replace N := cb_drop N (fun p hp => List.mem_cons_of_mem _ hp)
    have hz0' : tl z0 = cs.map Int.toNat := by rw [hz0]; exact flat_map1 _ _
    have hw : ∀ c ∈ tl z0, c < 256 := by
      intro c hc
      rw [hz0'] at hc
      obtain ⟨k, hk, rfl⟩ := List.mem_map.mp hc
      have := hcb k hk
      omega
    have hl0 : z0.length = cs.length := by rw [← tl_len, hz0', List.length_map]
    clear hz0
    walk_at "my run"
    k_dflt (refine ListComp_T (_F₀ := by k_asm) (by with_unfolding_all rfl) (by decide) (by rfl) (by decide) (by rfl) ?_)
    walk1
    k_dflt (refine SrcT.mk (by rfl) (by k_asm) (by k_asm) (by omega) ?_)
    intro g'
    refine rest_text (fun c => ⟨#[c % 32]⟩) (fun k' t' I' oI' C' oC' D' m' ys' h' tk' E' hk' hC' hx' F' N' off' ne' => ?_) ?_
    · (try (simp only [LCg.Off3, and_true] at off'))
      intro hMark'
      have hkb := hw _ hk'
      (try k_fold)
      walk_at "my run"
    intro ys hys D h tk F N off1
    clear off1
    dsimp only
    walk_at "my run"
    refine join_tl (by exact News.isList N (.head _)) hys (fun a _ => Nat.le_of_ble_eq_true rfl) (by rw [tl_len]; omega) ?_
    intro z1 t0 tk0 hz1
    replace N := cb_drop N (fun p hp => List.mem_cons_of_mem _ hp)
    have hz1' : tl z1 = (tl z0).map (fun c => c % 32) := by rw [hz1]; exact flat_map1 _ _
    have hw1 : ∀ c ∈ tl z1, c < 32 := by
      intro c hc
      rw [hz1'] at hc
      obtain ⟨k, _, rfl⟩ := List.mem_map.mp hc
      omega
    have hl1 : z1.length = cs.length := by rw [← tl_len, hz1', List.length_map, tl_len, hl0]
    clear hz1
    walk_at "my run"
    k_dflt (refine ListComp_T (_F₀ := by k_asm) (by with_unfolding_all rfl) (by decide) (by rfl) (by decide) (by rfl) ?_)
    walk1
    k_dflt (refine SrcT.mk (by rfl) (by k_asm) (by k_asm) (by omega) ?_)
    intro g'
    refine rest_text (fun c => ⟨#[c % 128 + 128]⟩) (fun k' t' I' oI' C' oC' D' m' ys' h' tk' E' hk' hC' hx' F' N' off' ne' => ?_) ?_
    · (try (simp only [LCg.Off3, and_true] at off'))
      intro hMark'
      have hkb := hw1 _ hk'
      (try k_fold)
      walk_at "my run"
    intro ys hys D h tk F N off1
    clear off1
    dsimp only
    walk_at "my run"
    refine join_tl (by exact News.isList N (.head _)) hys (fun a _ => Nat.le_of_ble_eq_true rfl) (by rw [tl_len]; omega) ?_
    intro z2 t0 tk0 hz2
    replace N := cb_drop N (fun p hp => List.mem_cons_of_mem _ hp)
    have hz2' : tl z2 = (tl z1).map (fun c => c % 128 + 128) := by rw [hz2]; exact flat_map1 _ _
    have hw2 : ∀ c ∈ tl z2, 128 ≤ c ∧ c < 160 := by
      intro c hc
      rw [hz2'] at hc
      obtain ⟨k, hk, rfl⟩ := List.mem_map.mp hc
      have := hw1 k hk
      omega
    have hl2 : z2.length = cs.length := by rw [← tl_len, hz2', List.length_map, tl_len, hl1]
    clear hz2
    walk_at "my run"
    k_dflt (refine ListComp_T (_F₀ := by k_asm) (by with_unfolding_all rfl) (by decide) (by rfl) (by decide) (by rfl) ?_)
    walk1
    k_dflt (refine SrcT.mk (by rfl) (by k_asm) (by k_asm) (by omega) ?_)
    intro g'
    refine rest_text (fun c => Str.ofString "^" ++ ⟨#[c % 128 + 32 + 32]⟩) (fun k' t' I' oI' C' oC' D' m' ys' h' tk' E' hk' hC' hx' F' N' off' ne' => ?_) ?_
    · (try (simp only [LCg.Off3, and_true] at off'))
      intro hMark'
      have hkb := hw1 _ hk'
      (try k_fold)
      walk_at "my run"
    intro ys hys D h tk F N off1
    clear off1
    dsimp only
    walk_at "my run"
    refine join_tl (by exact News.isList N (.head _)) hys (fun a _ => len_hat _) (by rw [tl_len]; omega) ?_
    intro z3 t0 tk0 hz3
    replace N := cb_drop N (fun p hp => List.mem_cons_of_mem _ hp)
    have hz3' : tl z3 = (tl z1).flatMap (fun c => [94, c % 128 + 32 + 32]) := by rw [hz3]; simp only [tl_hat]
    have hl3 : z3.length = 2 * cs.length := by rw [← tl_len, hz3', flat_len 2 _ (fun _ => rfl), tl_len, hl1]
    clear hz3
    walk_at "my run"
    k_dflt (refine ListComp_T (_F₀ := by k_asm) (by with_unfolding_all rfl) (by decide) (by rfl) (by decide) (by rfl) ?_)
    walk1
    k_dflt (refine SrcT.mk (by rfl) (by k_asm) (by k_asm) (by omega) ?_)
    intro g'
    refine rest_text (fun c => Str.ofString "!" ++ (Str.ofString "^" ++ ⟨#[c % 128 + 32 + 32]⟩)) (fun k' t' I' oI' C' oC' D' m' ys' h' tk' E' hk' hC' hx' F' N' off' ne' => ?_) ?_
    · (try (simp only [LCg.Off3, and_true] at off'))
      intro hMark'
      have hkb := hw2 _ hk'
      (try k_fold)
      walk_at "my run"
    intro ys hys D h tk F N off1
    clear off1
    dsimp only
    walk_at "my run"
    refine join_tl (by exact News.isList N (.head _)) hys (fun a _ => len_bang_hat _) (by rw [tl_len]; omega) ?_
    intro z4 t0 tk0 hz4
    replace N := cb_drop N (fun p hp => List.mem_cons_of_mem _ hp)
    have hz4' : tl z4 = (tl z2).flatMap (fun c => [33, 94, c % 128 + 32 + 32]) := by rw [hz4]; simp only [tl_bang, tl_hat]
    have hl4 : z4.length = 3 * cs.length := by rw [← tl_len, hz4', flat_len 3 _ (fun _ => rfl), tl_len, hl2]
    clear hz4
    obtain ⟨⟨v1, m1, e1⟩, ⟨v2, m2, e2⟩, ⟨v3, m3, e3⟩, ⟨v4, m4, e4⟩, ⟨v5, m5, e5⟩⟩ := asks3 hcb hcl hz0' hz1' hz2' hz3' hz4'
    clear hz0' hz1' hz2' hz3' hz4' hw hw1 hw2 hcb
    walk_at "my run"
    iterate 8 (walk_at "my lev"; walk_at "my run"; (exfalso; omega))
    walk_at "my lev"
    k_steps
)
end
