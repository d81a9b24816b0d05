import PyProof.Rows.All
import Wide.All
import OpenK.AllK
import Wide.FinOn
import PySem.Challenge.RW_pe0094_02
set_option Elab.async false
set_option linter.unusedVariables false
section
open PySem PySem.W PySem.Calls PyProof.Rows PySem.Spec
namespace Mine
/-- the end of a turn: the frame's one int name x holds k', the rest stands -/
def IntEnd (h₀ : Heap) (L : Addr) (m : Str → Option Value) (news : List (Addr × Obj)) (x : Str) (s : Shared) (P : Int → Prop) (s' : Shared) : Prop :=
  ∃ h' tk k u, s' = { s with heap := h', toks := tk } ∧ Fr h₀ L h' (fun y => if y = x then some (.int k u) else m y) ∧ News h₀ L h' news ∧ P k

theorem fr_twice {h₀ h : Heap} {L : Addr} {m : Str → Option Value} {x : Str} {v v' : Option Value} (F : Fr h₀ L h (fun y => if y = x then v else if y = x then v' else m y)) : Fr h₀ L h (fun y => if y = x then v else m y) := by
  have e : (fun y => if y = x then v else if y = x then v' else m y) = (fun y => if y = x then v else m y) := by
    funext y; by_cases h : y = x <;> simp [h]
  rw [← e]; exact F

section
variable {prog : Program} {w : World} {A : Around} {E : Value → Shared → Prop} {Q : Flow → Shared → Prop} {s : Shared} {env : Env} {h₀ : Heap} {L : Addr}
theorem while_int {test : Expr} {body : List Stmt} {pos : Pos} {m : Str → Option Value} {news : List (Addr × Obj)} (x : Str) (P : Int → Prop) (μ : Int → Nat) (Done : Int → Prop) {k₀ : Int} {u₀ : Tok}
    (F : Fr h₀ L s.heap m) (N : News h₀ L s.heap news) (hm : m x = some (.int k₀ u₀)) (hP : P k₀)
    (turn : ∀ k u h tk, P k → Fr h₀ L h (fun y => if y = x then some (.int k u) else m y) → News h₀ L h news →
      wpAny (model prog w) A (isTrue test env (eval test env)) (fun b s₂ =>
        if b = true then wpAny (model prog w) A (execs body env) (fun f s₃ => f = .next ∧ IntEnd h₀ L m news x s (fun k' => P k' ∧ μ k' < μ k) s₃) E s₂
        else IntEnd h₀ L m news x s Done s₂) E { s with heap := h, toks := tk })
    (rest : ∀ k u h tk, Done k → Fr h₀ L h (fun y => if y = x then some (.int k u) else m y) → News h₀ L h news → Q .next { s with heap := h, toks := tk })
    (hE : PassesOwn (model prog w) A env E := by passes_own) :
    wpAny (model prog w) A (exec (.While test body [] pos) env) Q E s := by
  have em : m = fun y => if y = x then some (.int k₀ u₀) else m y := by
    funext y; by_cases h : y = x
    · simp [h, hm]
    · simp [h]
  have F' := F
  rw [em] at F'
  refine While_inv2 (fun n m₁ nx => nx = news ∧ ∃ k u, m₁ = (fun y => if y = x then some (.int k u) else m y) ∧ P k ∧ μ k = n) (n₀ := μ k₀) F' N ⟨rfl, k₀, u₀, rfl, hP, rfl⟩ ?_ hE
  rintro n m₁ nx h tk F₁ N₁ ⟨rfl, k, u, rfl, hk, rfl⟩
  refine wpAny_mono (turn k u h tk hk F₁ N₁) (fun b s₂ p => ?_) fun _ _ x => x
  cases b with
  | false =>
    simp only [Bool.false_eq_true, if_false] at p ⊢
    obtain ⟨h', tk', k', u', rfl, F', N', hd⟩ := p
    exact rest k' u' h' tk' hd F' N'
  | true =>
    simp only [if_true] at p ⊢
    refine wpAny_mono p (fun f s₃ q => ?_) fun _ _ x => x
    obtain ⟨rfl, h', tk', k', u', rfl, F', N', hp, hlt⟩ := q
    exact ⟨h', tk', _, _, μ k', rfl, F', N', hlt, rfl, k', u', rfl, hp, rfl⟩
/-- two texts of the frame, the rest stands -/
def TwoEnd (h₀ : Heap) (L : Addr) (m : Str → Option Value) (news : List (Addr × Obj)) (x y : Str) (s : Shared) (P : Str → Str → Prop) (s' : Shared) : Prop :=
  ∃ h' tk A tA B tB, s' = { s with heap := h', toks := tk } ∧ Fr h₀ L h' (fun z => if z = y then some (.str B tB) else if z = x then some (.str A tA) else m z) ∧ News h₀ L h' news ∧ P A B
theorem execs_cut1 {st : Stmt} {rest : List Stmt} {m : Str → Option Value} {news : List (Addr × Obj)} (x y : Str) (P : Str → Str → Prop) (_F : Fr h₀ L s.heap m) (_N : News h₀ L s.heap news)
    (h1 : wpAny (model prog w) A (exec st env) (fun f s' => f = .next ∧ TwoEnd h₀ L m news x y s P s') E s)
    (h2 : ∀ X tX Y tY h' tk, P X Y → Fr h₀ L h' (fun z => if z = y then some (.str Y tY) else if z = x then some (.str X tX) else m z) → News h₀ L h' news → wpAny (model prog w) A (execs rest env) Q E { s with heap := h', toks := tk }) :
    wpAny (model prog w) A (execs (st :: rest) env) Q E s := by
  refine wpAny_execs_cons (wpAny_mono h1 (fun f s' h => ?_) fun _ _ e => e)
  obtain ⟨rfl, h', tk, X, tX, Y, tY, rfl, F, N, hP⟩ := h
  exact h2 X tX Y tY h' tk hP F N
theorem execs_cut2 {st st' : Stmt} {rest : List Stmt} {m : Str → Option Value} {news : List (Addr × Obj)} (x y : Str) (P : Str → Str → Prop) (_F : Fr h₀ L s.heap m) (_N : News h₀ L s.heap news)
    (h1 : wpAny (model prog w) A (execs [st, st'] env) (fun f s' => f = .next ∧ TwoEnd h₀ L m news x y s P s') E s)
    (h2 : ∀ X tX Y tY h' tk, P X Y → Fr h₀ L h' (fun z => if z = y then some (.str Y tY) else if z = x then some (.str X tX) else m z) → News h₀ L h' news → wpAny (model prog w) A (execs rest env) Q E { s with heap := h', toks := tk }) :
    wpAny (model prog w) A (execs (st :: st' :: rest) env) Q E s := by
  have key : ∀ Γ p, Γ.In A → Sem.wp (model prog w) Γ (execs [st, st'] env) (fun f _ s' => f = .next ∧ TwoEnd h₀ L m news x y s P s') (fun e _ s' => E e s') p s := h1
  intro Γ p hΓ
  have h := key Γ p hΓ
  rw [execs_cons, Sem.wp_bind'] at h
  rw [execs_cons, Sem.wp_bind']
  refine Sem.wp_mono _ Γ _ (fun f p' s' h' => ?_) (fun _ _ _ e => e) _ _ h
  cases f with
  | next =>
    dsimp only at h' ⊢
    rw [execs_cons, Sem.wp_bind'] at h'
    rw [execs_cons, Sem.wp_bind']
    refine Sem.wp_mono _ Γ _ (fun f p' s' h' => ?_) (fun _ _ _ e => e) _ _ h'
    cases f with
    | next =>
      dsimp only at h' ⊢
      have h'' : (Flow.next = Flow.next) ∧ TwoEnd h₀ L m news x y s P s' := h'
      clear h'
      obtain ⟨_, hp, tk, X, tX, Y, tY, rfl, F, N, hP⟩ := h''
      exact h2 X tX Y tY hp tk hP F N Γ p' hΓ
    | _ => exact absurd (show _ ∧ _ from h').1 (by intro e; cases e)
  | _ => exact absurd (show _ ∧ _ from h').1 (by intro e; cases e)
end
end Mine
end
section
open PySem PyProof
namespace Mine
/-- what the code asks for two signs -/
def subC (x y : Nat) : Nat := if x = y then 0 else if Txt.lower ⟨#[x]⟩ = Txt.lower ⟨#[y]⟩ then 1 else 2
theorem subC_self (x : Nat) : subC x x = 0 := by simp [subC]
theorem subC_le (x y : Nat) : subC x y ≤ 2 := by
  by_cases h : x = y
  · simp [subC, h]
  · by_cases k : Txt.lower ⟨#[x]⟩ = Txt.lower ⟨#[y]⟩ <;> simp [subC, h, k]
theorem subC_comm (x y : Nat) : subC x y = subC y x := by
  unfold subC
  by_cases h : x = y
  · simp [h]
  · have h' : ¬ y = x := fun e => h e.symm
    simp only [h, h', if_false]
    by_cases k : Txt.lower ⟨#[x]⟩ = Txt.lower ⟨#[y]⟩
    · simp [k]
    · have k' : ¬ Txt.lower ⟨#[y]⟩ = Txt.lower ⟨#[x]⟩ := fun e => k e.symm
      simp [k, k']

/-- a way to turn a into b, and what it costs -/
inductive Al : List Nat → List Nat → Nat → Prop
  | nil : Al [] [] 0
  | del {a b c} (x) : Al a b c → Al (x :: a) b (c + 2)
  | ins {a b c} (y) : Al a b c → Al a (y :: b) (c + 2)
  | sub {a b c} (x y) : Al a b c → Al (x :: a) (y :: b) (c + subC x y)

theorem Al.cast {a b : List Nat} {c d : Nat} (h : Al a b c) (e : c = d) : Al a b d := e ▸ h
theorem Al.symm {a b : List Nat} {c : Nat} (h : Al a b c) : Al b a c := by
  induction h with
  | nil => exact .nil
  | del x _ ih => exact .ins x ih
  | ins y _ ih => exact .del y ih
  | sub x y _ ih => rw [subC_comm]; exact .sub y x ih
theorem Al.append {a b a' b' : List Nat} {c c' : Nat} (h : Al a b c) (h' : Al a' b' c') : Al (a ++ a') (b ++ b') (c + c') := by
  induction h with
  | nil => exact h'.cast (by omega)
  | del x _ ih => exact (Al.del x ih).cast (by omega)
  | ins y _ ih => exact (Al.ins y ih).cast (by omega)
  | sub x y _ ih => exact (Al.sub x y ih).cast (by omega)
theorem Al.del1 (x : Nat) : Al [x] [] 2 := Al.del x .nil
theorem Al.ins1 (x : Nat) : Al [] [x] 2 := Al.ins x .nil
theorem Al.sub1 (x y : Nat) : Al [x] [y] (subC x y) := (Al.sub x y .nil).cast (by omega)
theorem Al.rev {a b : List Nat} {c : Nat} (h : Al a b c) : Al a.reverse b.reverse c := by
  induction h with
  | nil => exact .nil
  | del x _ ih => simpa using ih.append (Al.del1 x)
  | ins y _ ih => simpa using ih.append (Al.ins1 y)
  | sub x y _ ih => simpa using ih.append (Al.sub1 x y)
theorem Al.refl (a : List Nat) : Al a a 0 := by
  induction a with
  | nil => exact .nil
  | cons x a ih => exact (Al.sub x x ih).cast (by rw [subC_self])
theorem Al.toNil (a : List Nat) : Al a [] (2 * a.length) := by
  induction a with
  | nil => exact .nil
  | cons x a ih => exact (Al.del x ih).cast (by simp; omega)
theorem Al.ofNil (b : List Nat) : Al [] b (2 * b.length) := (Al.toNil b).symm
theorem Al.len {a b : List Nat} {c : Nat} (h : Al a b c) : 2 * b.length ≤ c + 2 * a.length ∧ 2 * a.length ≤ c + 2 * b.length := by
  induction h with
  | nil => simp
  | del x _ ih => simp only [List.length_cons]; omega
  | ins y _ ih => simp only [List.length_cons]; omega
  | sub x y _ ih => simp only [List.length_cons]; omega

structure IsMin (a b : List Nat) (v : Nat) : Prop where
  al : Al a b v
  le : ∀ c, Al a b c → v ≤ c
theorem IsMin.symm {a b : List Nat} {v : Nat} (h : IsMin a b v) : IsMin b a v := ⟨h.al.symm, fun c k => h.le c k.symm⟩
theorem IsMin.uniq {a b : List Nat} {v v' : Nat} (h : IsMin a b v) (h' : IsMin a b v') : v = v' := Nat.le_antisymm (h.le _ h'.al) (h'.le _ h.al)
theorem IsMin.ofNil (b : List Nat) : IsMin [] b (2 * b.length) := ⟨Al.ofNil b, fun c k => by have := k.len; simp at this; omega⟩
theorem IsMin.toNil (b : List Nat) : IsMin b [] (2 * b.length) := (IsMin.ofNil b).symm
theorem IsMin.same (a : List Nat) : IsMin a a 0 := ⟨Al.refl a, fun _ _ => Nat.zero_le _⟩

theorem Al.dropR {a b : List Nat} {x c : Nat} (h : Al a (x :: b) c) : ∃ c', c' ≤ c + 2 ∧ Al a b c' := by
  generalize e : x :: b = b' at h
  induction h with
  | nil => cases e
  | del z _ ih =>
    obtain ⟨c', h1, h2⟩ := ih e
    exact ⟨c' + 2, by omega, .del z h2⟩
  | ins y h _ => cases e; exact ⟨_, by omega, h⟩
  | sub z y h _ => cases e; exact ⟨_, by omega, .del z h⟩
theorem Al.dropL {a b : List Nat} {x c : Nat} (h : Al (x :: a) b c) : ∃ c', c' ≤ c + 2 ∧ Al a b c' := by
  obtain ⟨c', h1, h2⟩ := h.symm.dropR
  exact ⟨c', h1, h2.symm⟩
theorem Al.strip1 {a b : List Nat} {x c : Nat} (h : Al (x :: a) (x :: b) c) : ∃ c', c' ≤ c ∧ Al a b c' := by
  cases h with
  | del _ h =>
    obtain ⟨c', h1, h2⟩ := h.dropR
    exact ⟨c', by omega, h2⟩
  | ins _ h =>
    obtain ⟨c', h1, h2⟩ := h.dropL
    exact ⟨c', by omega, h2⟩
  | sub _ _ h => exact ⟨_, by omega, h⟩
theorem Al.stripP {a b : List Nat} : ∀ (p : List Nat) {c : Nat}, Al (p ++ a) (p ++ b) c → ∃ c', c' ≤ c ∧ Al a b c'
  | [], c, h => ⟨c, Nat.le_refl _, h⟩
  | x :: p, c, h => by
    obtain ⟨c1, h1, h2⟩ := Al.strip1 h
    obtain ⟨c2, h3, h4⟩ := Al.stripP p h2
    exact ⟨c2, by omega, h4⟩
theorem Al.stripS {a b s : List Nat} {c : Nat} (h : Al (a ++ s) (b ++ s) c) : ∃ c', c' ≤ c ∧ Al a b c' := by
  have h' := h.rev
  rw [List.reverse_append, List.reverse_append] at h'
  obtain ⟨c', h1, h2⟩ := Al.stripP _ h'
  exact ⟨c', h1, by simpa using h2.rev⟩
theorem IsMin.strip {a b p q : List Nat} {v : Nat} (h : IsMin (p ++ a ++ q) (p ++ b ++ q) v) : IsMin a b v := by
  obtain ⟨c1, h1, h2⟩ := Al.stripS h.al
  obtain ⟨c2, h3, h4⟩ := Al.stripP _ h2
  have back : ∀ c, Al a b c → Al (p ++ a ++ q) (p ++ b ++ q) c := fun c k => (((Al.refl p).append k).append (Al.refl q)).cast (by omega)
  have := h.le _ (back _ h4)
  have e : c2 = v := by omega
  exact ⟨e ▸ h4, fun c k => h.le _ (back c k)⟩

theorem Al.snoc_inv {a b : List Nat} {x y c : Nat} (h : Al (a ++ [x]) (b ++ [y]) c) :
    (∃ c', Al a (b ++ [y]) c' ∧ c = c' + 2) ∨ (∃ c', Al (a ++ [x]) b c' ∧ c = c' + 2) ∨ ∃ c', Al a b c' ∧ c = c' + subC x y := by
  have h' := h.rev
  rw [List.reverse_append, List.reverse_append] at h'
  simp only [List.reverse_cons, List.reverse_nil, List.nil_append, List.cons_append] at h'
  cases h' with
  | del _ k => exact .inl ⟨_, by simpa using k.rev, rfl⟩
  | ins _ k => exact .inr (.inl ⟨_, by simpa using k.rev, rfl⟩)
  | sub _ _ k => exact .inr (.inr ⟨_, by simpa using k.rev, rfl⟩)
theorem IsMin.step {a b : List Nat} {x y v11 v01 v10 : Nat} (h11 : IsMin a b v11) (h01 : IsMin a (b ++ [y]) v01) (h10 : IsMin (a ++ [x]) b v10) :
    IsMin (a ++ [x]) (b ++ [y]) (min (min v01 v10 + 2) (v11 + subC y x)) := by
  have k1 : Al (a ++ [x]) (b ++ [y]) (v01 + 2) := by simpa using h01.al.append (Al.del1 x)
  have k2 : Al (a ++ [x]) (b ++ [y]) (v10 + 2) := by simpa using h10.al.append (Al.ins1 y)
  have k3 : Al (a ++ [x]) (b ++ [y]) (v11 + subC y x) := by rw [subC_comm]; exact h11.al.append (Al.sub1 x y)
  refine ⟨?_, fun c k => ?_⟩
  · rcases Nat.le_total (min v01 v10 + 2) (v11 + subC y x) with h | h
    · rw [Nat.min_eq_left h]
      rcases Nat.le_total v01 v10 with h' | h'
      · rw [Nat.min_eq_left h']; exact k1
      · rw [Nat.min_eq_right h']; exact k2
    · rw [Nat.min_eq_right h]; exact k3
  · rcases k.snoc_inv with ⟨c', h, rfl⟩ | ⟨c', h, rfl⟩ | ⟨c', h, rfl⟩
    · have := h01.le _ h; omega
    · have := h10.le _ h; omega
    · have := h11.le _ h; rw [subC_comm]; omega

/-- the first column: the code's left neighbour is 2 * i there, which never tells -/
theorem IsMin.step0 {b : List Nat} {x y v10 : Nat} (h10 : IsMin [x] b v10) :
    IsMin [x] (b ++ [y]) (min (min (2 * b.length) v10 + 2) (2 * b.length + subC y x)) := by
  have h := IsMin.step (x := x) (y := y) (IsMin.ofNil b) (IsMin.ofNil (b ++ [y])) h10
  have := subC_le y x
  have e : min (min (2 * (b ++ [y]).length) v10 + 2) (2 * b.length + subC y x) = min (min (2 * b.length) v10 + 2) (2 * b.length + subC y x) := by
    simp only [List.length_append, List.length_cons, List.length_nil]; omega
  rw [← e]
  exact h

/-- a way over b's two parts parts a too -/
theorem Al.split {a b : List Nat} {c : Nat} (h : Al a b c) : ∀ b1 b2, b = b1 ++ b2 → ∃ n c1 c2, n ≤ a.length ∧ Al (a.take n) b1 c1 ∧ Al (a.drop n) b2 c2 ∧ c = c1 + c2 := by
  induction h with
  | nil =>
    intro b1 b2 e
    obtain ⟨rfl, rfl⟩ := List.append_eq_nil_iff.mp e.symm
    exact ⟨0, 0, 0, by simp, .nil, .nil, rfl⟩
  | @del a b c x _ ih =>
    intro b1 b2 e
    obtain ⟨n, c1, c2, hn, h1, h2, rfl⟩ := ih b1 b2 e
    exact ⟨n + 1, c1 + 2, c2, by simp; omega, .del x h1, by simpa using h2, by omega⟩
  | @ins a b c y h ih =>
    intro b1 b2 e
    cases b1 with
    | nil => exact ⟨0, 0, c + 2, by simp, .nil, by simp only [List.nil_append] at e; subst e; simpa using Al.ins y h, by omega⟩
    | cons z b1 =>
      simp only [List.cons_append, List.cons.injEq] at e
      obtain ⟨rfl, e⟩ := e
      obtain ⟨n, c1, c2, hn, h1, h2, rfl⟩ := ih b1 b2 e
      exact ⟨n, c1 + 2, c2, hn, .ins y h1, h2, by omega⟩
  | @sub a b c x y h ih =>
    intro b1 b2 e
    cases b1 with
    | nil => exact ⟨0, 0, c + subC x y, by simp, .nil, by simp only [List.nil_append] at e; subst e; simpa using Al.sub x y h, by omega⟩
    | cons z b1 =>
      simp only [List.cons_append, List.cons.injEq] at e
      obtain ⟨rfl, e⟩ := e
      obtain ⟨n, c1, c2, hn, h1, h2, rfl⟩ := ih b1 b2 e
      exact ⟨n + 1, c1 + subC x y, c2, by simp; omega, .sub x y h1, by simpa using h2, by omega⟩

/-- a row whose entries (but for the first column) are all above M: the whole is above M -/
theorem row_above {a b1 b2 : List Nat} {v : Nat} {M : Int} (ha : a ≠ []) (hb : b1 ≠ []) (h : IsMin a (b1 ++ b2) v)
    (hrow : ∀ j z, j < a.length → IsMin (a.take (j + 1)) b1 z → M < (z : Int)) (hex : ∀ j, j < a.length → ∃ z, IsMin (a.take (j + 1)) b1 z) : M < (v : Int) := by
  obtain ⟨n, c1, c2, hn, h1, h2, e⟩ := h.al.split b1 b2 rfl
  cases n with
  | succ n =>
    obtain ⟨z, hz⟩ := hex n (by omega)
    have := hrow n z (by omega) hz
    have := hz.le _ h1
    omega
  | zero =>
    have hl : 0 < a.length := List.length_pos_iff.mpr ha
    obtain ⟨z, hz⟩ := hex 0 hl
    have h3 := hrow 0 z hl hz
    have h4 := h1.len
    obtain ⟨x, a', rfl⟩ := List.exists_cons_of_ne_nil ha
    obtain ⟨y, b', rfl⟩ := List.exists_cons_of_ne_nil hb
    simp only [List.take_zero, List.length_nil, List.length_cons] at h4
    have h5 : Al [x] (y :: b') (2 * b'.length + subC x y) := Al.sub x y (Al.ofNil b')
    have h6 := hz.le _ (by simpa using h5)
    have := subC_le x y
    omega
end Mine
end
section
open PySem PySem.W PySem.Calls PyProof PyProof.Rows PySem.Spec PySem.Builtin PySem.Builtin.Str
namespace Mine
/-- a text's codes as a list -/
abbrev tl (x : Str) : List Nat := x.cps.toList
theorem tl_len (x : Str) : (tl x).length = x.length := by simp [tl, Str.length]
theorem slice_from (x : Str) {k : Int} (h0 : 0 ≤ k) (h1 : k ≤ x.length) : tl (Txt.slice x (some k) none) = (tl x).drop k.toNat := by
  rw [slice_from_eq h0 h1 rfl]
  dsimp only [tl]
  rw [List.toList_toArray, List.take_of_length_le]
  rw [List.length_drop, tl_len]; omega
theorem slice_all (x : Str) : Txt.slice x none none = x := by
  unfold Txt.slice
  have e : (strSliceIndices none none 1 x.length).length = x.length := by
    unfold strSliceIndices sliceRange
    simp only [show (1 : Int) > 0 by decide, if_true, List.length_map, List.length_range]
    split <;> (try simp only [Int.ediv_one]) <;> omega
  rw [if_pos]
  simp [e]
theorem slice_neg (x : Str) {k : Int} (h0 : k < 0) (h1 : -(x.length : Int) ≤ k) : tl (Txt.slice x none (some k)) = (tl x).take (k + x.length).toNat := by
  have e : Txt.slice x none (some k) = Txt.slice x none (some (k + x.length)) := by
    unfold Txt.slice
    rw [show strSliceIndices none (some k) 1 x.length = strSliceIndices none (some (k + x.length)) 1 x.length from StrLaws.sliceIdx_neg_hi none x.length h0 h1]
  rw [e, beq_iff_eq.mp (slice_closes_toL (x := x) (j := k + x.length) (by omega) (by omega))]
  dsimp only [tl]
  rw [List.toList_toArray]
  simp
theorem slice_neg_len (x : Str) {p : Int} (_h0 : p ≤ 0) (h1 : 0 ≤ p + (x.length : Int)) : p ≠ 0 → ((Txt.slice x none (some p)).length : Int) = p + x.length := fun h => by
  have := congrArg List.length (slice_neg x (k := p) (by omega) (by omega))
  rw [tl_len, List.length_take, tl_len] at this
  omega
theorem slice_all_len (x : Str) : (Txt.slice x none none).length = x.length := by rw [slice_all]
theorem slice_zero (x : Str) {p : Int} (h : p = 0) : tl (Txt.slice x none none) = (tl x).take (p + x.length).toNat := by
  subst h
  rw [slice_all, List.take_of_length_le (by rw [tl_len]; omega)]
theorem item_pos (x : Str) {k : Int} (h0 : 0 ≤ k) (h1 : k < x.length) : Txt.item x k = ⟨#[(tl x).getD k.toNat 0]⟩ := by
  unfold Txt.item Txt.charAt
  rw [seqIndex_of h0 h1]
  simp [tl, List.getD_eq_getElem?_getD]
theorem item_neg (x : Str) {k : Int} (h0 : k < 0) (h1 : -(x.length : Int) ≤ k) : Txt.item x k = ⟨#[(tl x).getD (k + x.length).toNat 0]⟩ := by
  unfold Txt.item Txt.charAt
  rw [seqIndex_neg h0 h1]
  simp [tl, List.getD_eq_getElem?_getD]
theorem one_inj {x y : Nat} (h : ((⟨#[x]⟩ : Str) == ⟨#[y]⟩) = true) : x = y := by
  have := beq_iff_eq.mp h
  cases this; rfl
/-- one more sign at the front -/
theorem pre_step {a b : Str} {k : Int} (h0 : 0 ≤ k) (h1 : k < a.length) (h2 : k < b.length) (h3 : (tl a).take k.toNat = (tl b).take k.toNat) (h4 : (Txt.item a k == Txt.item b k) = true) :
    (tl a).take (k + 1).toNat = (tl b).take (k + 1).toNat := by
  rw [item_pos a h0 h1, item_pos b h0 h2] at h4
  have e := one_inj h4
  have l1 : k.toNat < (tl a).length := by rw [tl_len]; omega
  have l2 : k.toNat < (tl b).length := by rw [tl_len]; omega
  have t : (k + 1).toNat = k.toNat + 1 := by omega
  rw [t, List.take_add_one, List.take_add_one, h3]
  congr 1
  simp only [List.getD_eq_getElem?_getD, List.getElem?_eq_getElem l1, List.getElem?_eq_getElem l2, Option.getD_some] at e
  rw [List.getElem?_eq_getElem l1, List.getElem?_eq_getElem l2, e]
/-- one more sign at the back -/
theorem post_step {a b : Str} {k : Int} (h0 : k ≤ 0) (h1 : 0 < k + a.length) (h2 : 0 < k + b.length) (h3 : (tl a).drop (k + a.length).toNat = (tl b).drop (k + b.length).toNat) (h4 : (Txt.item a (k - 1) == Txt.item b (k - 1)) = true) :
    (tl a).drop (k - 1 + a.length).toNat = (tl b).drop (k - 1 + b.length).toNat := by
  rw [item_neg a (by omega) (by omega), item_neg b (by omega) (by omega)] at h4
  have e := one_inj h4
  have l1 : (k - 1 + a.length).toNat < (tl a).length := by rw [tl_len]; omega
  have l2 : (k - 1 + b.length).toNat < (tl b).length := by rw [tl_len]; omega
  have t1 : (k + a.length).toNat = (k - 1 + a.length).toNat + 1 := by omega
  have t2 : (k + b.length).toNat = (k - 1 + b.length).toNat + 1 := by omega
  rw [t1, t2] at h3
  rw [List.drop_eq_getElem_cons l1, List.drop_eq_getElem_cons l2, h3]
  simp only [List.getD_eq_getElem?_getD, List.getElem?_eq_getElem l1, List.getElem?_eq_getElem l2, Option.getD_some] at e
  rw [e]

def ItemsAre (a b : Str) (p : Int) (x y : Str) : Prop := Txt.item a (p - 1) = x ∧ Txt.item b (p - 1) = y
theorem post_step' {a b x y : Str} {k : Int} (hI : ItemsAre a b k x y) (h0 : k ≤ 0) (h1 : 0 < k + a.length) (h2 : 0 < k + b.length) (h3 : (tl a).drop (k + a.length).toNat = (tl b).drop (k + b.length).toNat) (h4 : (x == y) = true) :
    (tl a).drop (k - 1 + a.length).toNat = (tl b).drop (k - 1 + b.length).toNat := by
  obtain ⟨rfl, rfl⟩ := hI
  exact post_step h0 h1 h2 h3 h4

/-- the code's two cuts leave the distance -/
theorem cuts_leave {a b A B A' B' : Str} {k p : Int} {v : Nat} (h : IsMin (tl a) (tl b) v)
    (k3 : (tl a).take k.toNat = (tl b).take k.toNat) (eA : tl A = (tl a).drop k.toNat) (eB : tl B = (tl b).drop k.toNat)
    (p3 : (tl A).drop (p + A.length).toNat = (tl B).drop (p + B.length).toNat)
    (eA' : tl A' = (tl A).take (p + A.length).toNat) (eB' : tl B' = (tl B).take (p + B.length).toNat) : IsMin (tl A') (tl B') v := by
  refine IsMin.strip (p := (tl a).take k.toNat) (q := (tl A).drop (p + A.length).toNat) ?_
  have ea : (tl a).take k.toNat ++ tl A' ++ (tl A).drop (p + A.length).toNat = tl a := by
    rw [List.append_assoc, eA', List.take_append_drop, eA, List.take_append_drop]
  have eb : (tl a).take k.toNat ++ tl B' ++ (tl A).drop (p + A.length).toNat = tl b := by
    rw [List.append_assoc, p3, eB', List.take_append_drop, eB, k3, List.take_append_drop]
  rw [ea, eb]
  exact h
theorem empty_case {X Y : Str} {v : Nat} (h : IsMin (tl X) (tl Y) v) (e : X.length = 0 ∨ Y.length = 0) : 2 * ((X.length : Int) + (Y.length : Int)) = (v : Int) := by
  rcases e with e | e
  · have hx : tl X = [] := List.eq_nil_of_length_eq_zero (by rw [tl_len]; exact e)
    rw [hx] at h
    have := h.uniq (IsMin.ofNil _)
    rw [tl_len] at this
    omega
  · have hy : tl Y = [] := List.eq_nil_of_length_eq_zero (by rw [tl_len]; exact e)
    rw [hy] at h
    have := h.uniq (IsMin.toNil _)
    rw [tl_len] at this
    omega
theorem fr_comm {h₀ h : Heap} {L : Addr} {m : Str → Option Value} {x y : Str} {u v : Option Value} (hne : x ≠ y) (F : Fr h₀ L h (fun z => if z = x then u else if z = y then v else m z)) : Fr h₀ L h (fun z => if z = y then v else if z = x then u else m z) := by
  have e : (fun z => if z = x then u else if z = y then v else m z) = (fun z => if z = y then v else if z = x then u else m z) := by
    funext z
    by_cases h1 : z = x
    · have h2 : ¬ z = y := fun e => hne (h1.symm.trans e)
      rw [if_pos h1, if_neg h2, if_pos h1]
    · rw [if_neg h1, if_neg h1]
  rw [← e]; exact F
theorem fr_same2 {h₀ h : Heap} {L : Addr} {m : Str → Option Value} {x y : Str} {u v : Value} (F : Fr h₀ L h m) (hx : m x = some u) (hy : m y = some v) : Fr h₀ L h (fun z => if z = y then some v else if z = x then some u else m z) := by
  have e : (fun z => if z = y then some v else if z = x then some u else m z) = m := by
    funext z
    by_cases h1 : z = y
    · simp [h1, hy]
    · by_cases h2 : z = x
      · rw [if_neg h1, if_pos h2, h2, hx]
      · simp [h1, h2]
  rw [e]; exact F
end Mine
end
section
open PySem PySem.W PySem.Calls PyProof PyProof.Rows PyProof.V PySem.Spec
set_option maxRecDepth 100000
namespace Mine
def evens (n : Nat) : List Int := (List.range n).map fun i : Nat => 2 + 2 * (i : Int)
theorem evens_length (n : Nat) : (evens n).length = n := by simp [evens]
theorem ints_of (f : Nat → Int) : ∀ (vs : List Value) (k n : Nat), vs.length = n → (∀ (j : Nat) (v : Value), vs[j]? = some v → ∃ t, v = .int (f (k + j)) t) → IntsAre vs ((List.range n).map fun i => f (k + i))
  | [], k, n, e, _ => by subst e; exact IntsAre.nil
  | v :: r, k, n, e, h => by
    subst e
    obtain ⟨t, rfl⟩ := h 0 v rfl
    rw [List.length_cons, List.range_succ_eq_map, List.map_cons, List.map_map]
    refine IntsAre.cons _ _ ?_
    have := ints_of f r (k + 1) r.length rfl fun j v hj => by
      obtain ⟨t', ht'⟩ := h (j + 1) v hj
      exact ⟨t', by rw [ht']; congr 2; omega⟩
    have e : (List.range r.length).map (fun i => f (k + 1 + i)) = (List.range r.length).map ((fun i => f (k + i)) ∘ Nat.succ) := by
      apply List.map_congr_left
      intro i _
      show f (k + 1 + i) = f (k + (i + 1))
      congr 1; omega
    rw [← e]
    exact this
theorem small_of {a b c : Int} (ha : -1000 ≤ a) (ha' : a < 1000) (hb : -1000 ≤ b) (hb' : b < 1000) (hc : 0 < c) (hc' : c < 1000) (hs : 0 ≤ Builtin.Range.rangeSize a b c) (hs' : Builtin.Range.rangeSize a b c < 1000) : Builtin.Range.small a b c = true := by
  unfold Builtin.Range.small
  generalize Builtin.Range.rangeSize a b c = z at hs hs' ⊢
  simp only [Builtin.Range.rangeFitsLong, Bool.and_eq_true, Bool.or_eq_true, decide_eq_true_eq, beq_iff_eq, gt_iff_lt, hc, if_true]
  omega
section
variable {prog : Program} {w : World} {A : Around} {E : Value → Shared → Prop} {s : Shared} {h₀ : Heap} {L r : Addr} {m : Str → Option Value} {news : List (Addr × Obj)} {b : Int} {t₀ u₀ v₀ : Tok} {Q : Value → Shared → Prop}
theorem list_range2 (n : Nat) (hh : A.handled = none) (F : Fr h₀ L s.heap m) (N : News h₀ L s.heap news) (hr : IsRange s.heap r 2 b 2 t₀ u₀ v₀) (hb : b = 2 * ((n : Int) + 1)) (hz : n ≤ 100)
    (h : ∀ D us c h' tk, Fr h₀ L h' m → News h₀ L h' ((D, listOf (List.toArray us) c) :: news) → (∀ p ∈ news, p.1 < D) → IntsAre us (evens n) → Q (.ref D) { s with heap := h', toks := tk }) :
    wpAny (model prog w) A (call (.type "list") [.ref r]) Q E s := by
  subst hb
  have hn : Builtin.Range.rangeSize 2 (2 * ((n : Int) + 1)) 2 = (n : Int) := by
    unfold Builtin.Range.rangeSize
    simp only [show (2 : Int) > 0 by decide, if_true]
    split <;> omega
  have hsmall : Builtin.Range.small 2 (2 * ((n : Int) + 1)) 2 = true := small_of (by omega) (by omega) (by omega) (by omega) (by omega) (by omega) (by rw [hn]; omega) (by rw [hn]; omega)
  refine call_list_range hh hr hsmall hn (by omega) fun h' tk acc c hk hD hI => ?_
  have hD' : h'.get? s.heap.objs.size = some (listOf (List.toArray acc.toList) c) := by
    rw [Array.toArray_toList]
    exact hD
  refine h _ acc.toList c h' tk (F.keeps hk) (news_pushed F N hk hD' rfl) (fun p hp => Heap.lt_size (N p hp).1) ?_
  have := ints_of (fun i : Nat => 2 + (i : Int) * 2) acc.toList 0 n (by rw [Array.length_toList]; exact hI.1) fun j v hj => by
    obtain ⟨t, ht⟩ := hI.2 j v (by rw [← hj, Array.getElem?_toList])
    exact ⟨t, by rw [ht, Nat.zero_add]⟩
  have e : evens n = (List.range n).map fun i : Nat => 2 + ((0 + i : Nat) : Int) * 2 := by
    apply List.map_congr_left
    intro i _
    simp only [Nat.zero_add]; omega
  rw [e]
  exact this
end
end Mine
end
section
open PySem PySem.W PySem.Calls PyProof PyProof.Rows PyProof.V PySem.Spec
namespace Mine
def IsMinZ (a b : List Nat) (z : Int) : Prop := ∃ v : Nat, z = (v : Int) ∧ IsMin a b v
/-- between two rows: i signs of b are done -/
def OutInv (a b : List Nat) (i : Nat) (res : Int) (row : List Int) : Prop :=
  (0 < i → IsMinZ a (b.take i) res) ∧ ∀ t z, row[t]? = some z → IsMinZ (a.take (t + 1)) (b.take i) z
/-- within row i + 1: j signs of a are done -/
def InInv (a b : List Nat) (i j : Nat) (dist res mini : Int) (row : List Int) : Prop :=
  IsMinZ (a.take j) (b.take i) dist ∧ (j = 0 → res = 2 * (i : Int)) ∧ (0 < j → IsMinZ (a.take j) (b.take (i + 1)) res) ∧
  ∀ t z, row[t]? = some z → (t < j → IsMinZ (a.take (t + 1)) (b.take (i + 1)) z ∧ mini ≤ z) ∧ (j ≤ t → IsMinZ (a.take (t + 1)) (b.take i) z)
theorem outInv0 {a b : List Nat} {n : Nat} (hn : n = a.length) : OutInv a b 0 0 (evens n) := by
  refine ⟨fun h => absurd h (Nat.lt_irrefl 0), fun t z h => ?_⟩
  have ht : t < n := by
    have := (List.getElem?_eq_some_iff.mp h).1
    rwa [evens_length] at this
  have hz : z = 2 + 2 * (t : Int) := by
    rw [evens, List.getElem?_map, List.getElem?_range ht] at h
    exact (Option.some.inj h).symm
  refine ⟨2 * (a.take (t + 1)).length, ?_, IsMin.toNil _⟩
  rw [List.length_take]
  omega
theorem inInv0 {a b : List Nat} {i : Nat} {res d mini : Int} {row : List Int} (h : OutInv a b i res row) (hi : i ≤ b.length) (hd : d = 2 * (i : Int)) : InInv a b i 0 d d mini row := by
  subst hd
  refine ⟨⟨2 * (b.take i).length, by rw [List.length_take]; omega, IsMin.ofNil _⟩, fun _ => rfl, fun h => absurd h (Nat.lt_irrefl 0), fun t z hz => ⟨fun h => absurd h (Nat.not_lt_zero _), fun _ => h.2 t z hz⟩⟩
theorem take_snoc {l : List Nat} {i : Nat} (h : i < l.length) : l.take (i + 1) = l.take i ++ [l.getD i 0] := by
  rw [List.take_add_one, List.getD_eq_getElem?_getD, List.getElem?_eq_getElem h]; rfl
/-- one turn within a row -/
theorem inInv_step {a b : List Nat} {i j : Nat} {d r mini old new mini' : Int} {row row' : List Int} (h : InInv a b i j d r mini row) (hj : j < a.length) (hi : i < b.length) (hrow : row[j]? = some old)
    (hnew : new = min (min r old + 2) (d + (subC (b.getD i 0) (a.getD j 0) : Nat))) (hm : mini' ≤ mini ∧ mini' ≤ new) (hset : row' = row.set j new) :
    InInv a b i (j + 1) old new mini' row' := by
  obtain ⟨⟨vd, hd, Hd⟩, h0, h1, h2⟩ := h
  obtain ⟨vo, ho, Ho⟩ := (h2 j old hrow).2 (Nat.le_refl _)
  have ea := take_snoc hj
  have eb := take_snoc hi
  have Hnew : IsMinZ (a.take (j + 1)) (b.take (i + 1)) new := by
    rw [ea] at Ho
    rw [ea, eb]
    by_cases hj0 : j = 0
    · subst hj0
      have hr := h0 rfl
      have H := IsMin.step0 (x := a.getD 0 0) (y := b.getD i 0) Ho
      refine ⟨_, ?_, H⟩
      rw [hnew, hr, ho, hd]
      have hl : (b.take i).length = i := by rw [List.length_take]; omega
      have hvd : vd = 2 * i := by
        have := Hd.uniq (by simpa using IsMin.ofNil (b.take i))
        omega
      rw [hl, hvd]
      omega
    · obtain ⟨vr, hr, Hr⟩ := h1 (by omega)
      rw [eb] at Hr
      have H := IsMin.step Hd Hr Ho
      refine ⟨_, ?_, H⟩
      rw [hnew, hr, ho, hd]
      omega
  refine ⟨⟨vo, ho, Ho⟩, fun e => absurd e (Nat.succ_ne_zero _), fun _ => Hnew, fun t z hz => ?_⟩
  subst hset
  by_cases ht : t = j
  · subst ht
    have hl := (List.getElem?_eq_some_iff.mp hrow).1
    rw [List.getElem?_set_self hl] at hz
    have := Option.some.inj hz
    subst this
    exact ⟨fun _ => ⟨Hnew, hm.2⟩, fun h => absurd h (by omega)⟩
  · rw [List.getElem?_set_ne (fun e => ht e.symm)] at hz
    have := h2 t z hz
    exact ⟨fun h => ⟨(this.1 (by omega)).1, Int.le_trans hm.1 (this.1 (by omega)).2⟩, fun h => this.2 (by omega)⟩
/-- a row is done -/
theorem inInv_end {a b : List Nat} {i n : Nat} {d r mini : Int} {row : List Int} (h : InInv a b i n d r mini row) (hn : n = a.length) (hr : row.length = a.length) (ha : 0 < a.length) : OutInv a b (i + 1) r row := by
  subst hn
  obtain ⟨_, _, h1, h2⟩ := h
  have h1 := h1 ha
  rw [List.take_length] at h1
  refine ⟨fun _ => h1, fun t z hz => ?_⟩
  have := (List.getElem?_eq_some_iff.mp hz).1
  exact ((h2 t z hz).1 (by omega)).1
/-- the row lies above the bound: so does the distance -/
theorem inInv_above {a b : List Nat} {i n : Nat} {d r mini M : Int} {row : List Int} {v : Nat} (h : InInv a b i n d r mini row) (hn : n = a.length) (hr : row.length = a.length) (ha : 0 < a.length) (hi : i < b.length) (hm : M < mini) (hv : IsMin a b v) : M < (v : Int) := by
  subst hn
  obtain ⟨_, _, _, h2⟩ := h
  have key : ∀ j, j < a.length → ∃ z : Nat, IsMin (a.take (j + 1)) (b.take (i + 1)) z ∧ M < (z : Int) := by
    intro j hj
    have hz : row[j]? = some (row[j]'(by omega)) := List.getElem?_eq_getElem (by omega)
    obtain ⟨⟨z, ez, Hz⟩, hle⟩ := (h2 j _ hz).1 hj
    exact ⟨z, Hz, by omega⟩
  have hv' := hv
  rw [← List.take_append_drop (i + 1) b] at hv'
  refine row_above (List.length_pos_iff.mp ha) ?_ hv' (fun j z hj Hz => ?_) fun j hj => ?_
  · intro e
    have : (b.take (i + 1)).length = 0 := by rw [e]; rfl
    rw [List.length_take] at this
    omega
  · obtain ⟨z', Hz', hM⟩ := key j hj
    rw [Hz.uniq Hz']
    exact hM
  · obtain ⟨z', Hz', _⟩ := key j hj
    exact ⟨z', Hz'⟩
theorem outInv_end {a b : List Nat} {i : Nat} {r : Int} {row : List Int} {v : Nat} (h : OutInv a b i r row) (hi : i = b.length) (hb : 0 < b.length) (hv : IsMin a b v) : r = (v : Int) := by
  subst hi
  obtain ⟨v', e, H⟩ := h.1 hb
  rw [List.take_length] at H
  rw [e, hv.uniq H]
def subS (x y : Str) : Int := if (x == y) = true then 0 else if (Txt.lower x == Txt.lower y) = true then 1 else 2
theorem subS_eq {a b : Str} {i j : Int} (hi : 0 ≤ i) (hi' : i < b.length) (hj : 0 ≤ j) (hj' : j < a.length) : subS (Txt.item b i) (Txt.item a j) = (subC ((tl b).getD i.toNat 0) ((tl a).getD j.toNat 0) : Nat) := by
  rw [item_pos b hi hi', item_pos a hj hj']
  unfold subS subC
  generalize (tl b).getD i.toNat 0 = x
  generalize (tl a).getD j.toNat 0 = y
  by_cases h : x = y
  · subst h; simp
  · have h' : ¬ (({ cps := #[x] } : Str) == { cps := #[y] }) = true := fun e => h (one_inj e)
    rw [if_neg h', if_neg h]
    by_cases k : Txt.lower ⟨#[x]⟩ = Txt.lower ⟨#[y]⟩
    · rw [if_pos (by simp [k]), if_pos k]; rfl
    · rw [if_neg (by simpa using k), if_neg k]; rfl
theorem in_turn {a b : Str} {pre : List Int} {i : Nat} {ki kj d r mini mini' new : Int} {row : List Int} (h : InInv (tl a) (tl b) i pre.length d r mini row) (hl : (row.length : Int) = (a.length : Int))
    (ei : ki = 0 + (i : Int)) (li : i < ((b.length : Int) - 0).toNat) (ej : kj = 0 + (pre.length : Int)) (lj : pre.length < ((a.length : Int) - 0).toNat)
    (hnew : new = if d + subS (Txt.item b ki) (Txt.item a kj) < (if row.getD kj.toNat 0 < r then row.getD kj.toNat 0 else r) + 2 then d + subS (Txt.item b ki) (Txt.item a kj) else (if row.getD kj.toNat 0 < r then row.getD kj.toNat 0 else r) + 2)
    (hm : mini' ≤ mini ∧ mini' ≤ new) :
    ((row.set kj.toNat new).length : Int) = (a.length : Int) ∧ InInv (tl a) (tl b) i (pre ++ [kj]).length (row.getD kj.toNat 0) new mini' (row.set kj.toNat new) := by
  have e1 : kj.toNat = pre.length := by omega
  have e2 : ki.toNat = i := by omega
  refine ⟨by rw [List.length_set]; exact hl, ?_⟩
  rw [List.length_append]
  refine inInv_step h (by rw [tl_len]; omega) (by rw [tl_len]; omega) (old := row.getD kj.toNat 0) ?_ ?_ hm (by rw [e1])
  · rw [e1, List.getD_eq_getElem?_getD, List.getElem?_eq_getElem (by omega)]; rfl
  · rw [hnew, subS_eq (by omega) (by omega) (by omega) (by omega), e1, e2]
    generalize row.getD pre.length 0 = o
    generalize (subC ((tl b).getD i 0) ((tl a).getD pre.length 0) : Int) = c
    split <;> split <;> omega
end Mine
end
section
set_option maxRecDepth 100000
open PySem PySem.W PySem.Calls PyProof PyProof.Rows PyProof.V PySem.Spec
namespace Mine
section
variable {prog : Program} {w : World} {A : Around} {E : Value → Shared → Prop} {s : Shared} {h₀ : Heap} {L : Addr} {m : Str → Option Value} {env : Env}
/-- a comprehension's source that is a text -/
def SrcT (prog : Program) (w : World) (A : Around) (h₀ : Heap) (L : Addr) (m : Str → Option Value) (env : Env) (elt : Expr) (x : Str) (scope : Scope) (cl : List (Str × Addr)) (Fin : Shared → List Value → List (Addr × Obj) → Prop) (xv : Value) (s₁ : Shared) : Prop :=
  ∃ X t news, xv = .str X t ∧ A.handled = none ∧ Fr h₀ L s₁.heap m ∧ News h₀ L s₁.heap news ∧ X.cps.size ≤ sizeLine ∧
    ∀ s₂ : Shared, (∃ h, s₂ = { s₁ with heap := h }) → LCg.CompRest prog w A h₀ L m env elt x scope cl s₂ (fun _ => True) (SignAt X) (Fin s₂) X.cps.size 0 [] news
theorem str_st {I : Addr} {ty : String} {X : Str} {t : Tok} : ∀ i (h h' : Heap) (o : Obj) (nw : List (Addr × Obj)), h.IsStrIter I ty X t i → h.get? I = some o → h'.get? I = some o → (∀ b o, h₀.get? b = some o → h'.get? b = some o) → News h₀ L h' nw → True → h'.IsStrIter I ty X t i :=
  fun i h h' o nw st e e' _ _ _ => by
    obtain ⟨o', q, r⟩ := st
    rw [e] at q
    cases q
    exact ⟨o, e', r⟩
theorem ListComp_T {elt iter : Expr} {x : Str} {px : Pos} {scope : Scope} {cl : List (Str × Addr)} {pos : Pos} {Q : Value → Shared → Prop} (_F₀ : Fr h₀ L s.heap m)
    (hclos : closureFor scope env = pure cl) (hcell : ∀ y ∈ scope.names, y.2 ≠ .cell) (hkind : scope.kind = .function)
    (hnames : ∀ y ∈ scope.names, y.2 = .local → scope.names.lookup y.1 = some .local) (hx : scope.names.lookup x = some .local)
    (h : wpAny (model prog w) A (eval iter env) (SrcT prog w A h₀ L m env elt x scope cl (fun s₂ => LCg.FinE h₀ L m s₂ Q)) E s)
    (hs : ∀ x, foldedSetIterable iter env x = pure x := by intro _; rfl) :
    wpAny (model prog w) A (eval (.ListComp elt [⟨.Name x px, iter, [], 0⟩] scope pos) env) Q E s := by
  rw [eval_ListComp]
  refine wpAny_comprehension_free (use := none) rfl hs hclos hkind hnames (wpAny_mono h (fun xv s₁ h₁ => ?_) fun _ _ e => e)
  obtain ⟨X, t, news, rfl, hh, F, N, hsz, R⟩ := h₁
  have go : ∀ (ty : String), Walks prog w A s₁.heap.objs.size [s₁.heap.objs.size] [s₁.heap.objs.size] X.cps.size (SignAt X) (fun i h => h.IsStrIter s₁.heap.objs.size ty X t i) →
      wpAny (model prog w) A (newList []) (fun acc s₃ => wpAny (model prog w) A (newFunctionEnv scope env.globals cl [] env.qual none .none (some env)) (fun cenv s₄ =>
        codeAny (model prog w) A (.compStart (.ListComp elt [⟨.Name x px, iter, [], 0⟩] scope pos) 0 (.ref s₁.heap.objs.size) acc { cenv with scope := relabel scope env })
          (compPost (model prog w) A E none Q acc cenv.locals) s₄) E s₃) E { s₁ with heap := s₁.heap.push { cls := .type ty, data := .fields #[.str X t, .int 0 0] } } := by
    intro ty W
    refine LCg.block_U W hsz (fun i h st => by obtain ⟨o, e, _⟩ := st; exact ⟨o, e⟩) str_st hcell hkind hx (show Heap.IsStrIter _ _ _ _ _ _ from ⟨_, Heap.get?_push_size _ rfl, rfl, rfl⟩) (fun b hb => ?_)
      (F.keeps fun _ _ e => Heap.get?_push_of_some _ e) (N.grown fun _ _ e => Heap.get?_push_of_some _ e) (Nat.ne_of_lt F.ns.lt) (next_is_new F) (fun p hp => Nat.ne_of_lt (Heap.lt_size (N p hp).1)) trivial (R _ ⟨_, rfl⟩) ?_
    · rw [List.mem_singleton.mp hb]
      show s₁.heap.objs.size < (s₁.heap.push _).objs.size
      rw [Heap.size_push]; exact Nat.lt_succ_self _
    · intro D C h tk m' ys news' F' N' o1 hn hC₀ hD₀ hCL hDL hCD offC fin
      refine ⟨m', hn, fun h'' hs'' => fin D h'' tk (F'.change hs'' hCL hC₀) (fun p hp => ?_) o1⟩
      refine ⟨hs''.extBut _ _ ?_ (N' p hp).1, (N' p hp).2⟩
      rcases List.mem_cons.mp hp with rfl | hp
      · exact Ne.symm hCD
      · exact offC p hp
  cases ha : X.cps.all (· < 128)
  · exact wpAny_pyIter_wide ha (go _ (Walks.strWide hh _ X t))
  · exact wpAny_pyIter_ascii ha (go _ (Walks.strAscii hh _ X t))
/-- the turns of a comprehension over a text: each sign c gives the text g c -/
theorem rest_text {elt : Expr} {x : Str} {scope : Scope} {cl : List (Str × Addr)} {S : List (Addr × Obj) → Prop} {Fin : List Value → List (Addr × Obj) → Prop} {news : List (Addr × Obj)} {X : Str} (g : Nat → Str)
    (turn : ∀ c t I oI C oC D m₂ ys h tk (E' : Value → Shared → Prop), c ∈ tl X → LCg.NsObj oC m₂ → m₂ x = some (.str ⟨#[c]⟩ t) → Fr h₀ L h m → News h₀ L h ((I, oI) :: (C, oC) :: (D, LCg.lst ys) :: news) → LCg.Off3 I C D news → ((@Ne Nat I C) ∧ (@Ne Nat I D) ∧ (@Ne Nat C D)) → KPfMark →
      wpAny (model prog w) A (eval elt (compEnvC scope cl C env)) (LCg.CompEnd h₀ L m { s with heap := h, toks := tk } I oI C oC D (LCg.lst ys) S (fun y news' => KCtEl news (g c) y news')) E' { s with heap := h, toks := tk })
    (fin : ∀ ys, CarriedAll ys ((tl X).map fun c => PyData.str (g c)) → Fin ys news) : LCg.CompRest prog w A h₀ L m env elt x scope cl s S (SignAt X) Fin X.cps.size 0 [] news := by
  have key : ∀ (j i : Nat) (ys : List Value), i + j = X.cps.size → StrsAre ys (((tl X).take i).map g) → LCg.CompRest prog w A h₀ L m env elt x scope cl s S (SignAt X) Fin j i ys news := by
    intro j
    induction j with
    | zero =>
      intro i ys hi hy
      have e : i = (tl X).length := by simp [tl]; omega
      subst e
      rw [List.take_length] at hy
      have hc := hy.carried
      rw [List.map_map] at hc
      exact LCg.CompRest.zero (fin ys hc)
    | succ j ih =>
      intro i ys hi hy
      refine LCg.CompRest.succ ?_
      intro v I oI C oC D m₂ h tk E' hv hC hx F N off ne
      obtain ⟨c, t, hk, hv'⟩ := hv
      rw [hv'] at hx
      have hk' : (tl X)[i]? = some c := by simpa [tl] using hk
      refine wpAny_mono (turn c t I oI C oC D m₂ ys h tk E' (List.mem_of_getElem? hk') hC hx F N off ne True.intro) (fun y s₂ hq => ?_) fun _ _ e => e
      obtain ⟨h', tk', nw, e, F', N', off', hS, hn, t', hy'⟩ := hq
      rw [hn] at N' off' hS
      refine ⟨h', tk', news, e, F', N', off', hS, ?_⟩
      rw [hy']
      refine ih (i + 1) _ (by omega) ?_
      rw [List.take_add_one, hk']
      simpa using kct_snoc hy
  exact key X.cps.size 0 [] (by omega) (by simp only [List.take_zero, List.map_nil]; exact .nil)
theorem SrcT.mk {elt : Expr} {x : Str} {scope : Scope} {cl : List (Str × Addr)} {Fin : Shared → List Value → List (Addr × Obj) → Prop} {X : Str} {t : Tok} {news : List (Addr × Obj)} {s₁ : Shared} (hh : A.handled = none) (F : Fr h₀ L s₁.heap m) (N : News h₀ L s₁.heap news) (hsz : X.length ≤ 1000)
    (h : ∀ g, LCg.CompRest prog w A h₀ L m env elt x scope cl { s₁ with heap := g } (fun _ => True) (SignAt X) (Fin { s₁ with heap := g }) X.cps.size 0 [] news) :
    SrcT prog w A h₀ L m env elt x scope cl Fin (.str X t) s₁ :=
  ⟨X, t, news, rfl, hh, F, N, by rw [sizeLine_eq]; have : X.cps.size = X.length := rfl; omega, fun _ ⟨g, e⟩ => e ▸ h g⟩
theorem join_tl {D : Addr} {ys : List Value} {α : Type} {l : List α} {g : α → Str} {t : Tok} {Q : Value → Shared → Prop} (hl : s.heap.IsList D ys.toArray) (hc : CarriedAll ys (l.map fun a => PyData.str (g a))) (hB : ∀ a ∈ l, (g a).length ≤ 3) (hn : l.length ≤ 100)
    (h : ∀ z t' k, tl z = l.flatMap (fun a => tl (g a)) → Q (.str z t') { s with toks := k }) : wpAny (model prog w) A (call (.builtin "str.join") [.str (Str.ofString "") t, .ref D]) Q E s := by
  refine KT.join_B 3 hl hc hB (by omega) (by decide) fun t' k => h _ t' k ?_
  have key : ∀ (r : List Str), tl (Str.join (Str.ofString "") r) = r.flatMap tl := by
    intro r
    induction r with
    | nil => rfl
    | cons x r ih =>
      cases r with
      | nil => simp [Str.join]
      | cons y r =>
        have e : Str.join (Str.ofString "") (x :: y :: r) = x ++ Str.ofString "" ++ Str.join (Str.ofString "") (y :: r) := rfl
        have z : tl (Str.ofString "") = [] := by decide
        have ap : ∀ a b : Str, tl (a ++ b) = tl a ++ tl b := fun a b => by show (a.cps ++ b.cps).toList = _; rw [Array.toList_append]
        rw [e, ap, ap, z, ih, List.append_nil]; rfl
  show tl (Builtin.Str.glued (Str.ofString "") (l.map g)) = _
  rw [StrLaws.glued_eq_join, key, List.flatMap_map]
end
end Mine
end
section
open PySem PySem.W PySem.Calls PyProof PyProof.Rows PyProof.V PySem.Spec
namespace Mine
theorem and31 (c : Nat) : Builtin.bitAnd (c : Int) 31 = ((c % 32 : Nat) : Int) := by rw [bitAnd_m5]; omega
theorem and127 (c : Nat) : Builtin.bitAnd (c : Int) 127 = ((c % 128 : Nat) : Int) := by rw [bitAnd_m7]; omega
theorem and128' : ∀ c : Nat, c < 256 → Builtin.bitAnd (c : Int) 128 = ((c / 128 * 128 : Nat) : Int) := by decide +kernel
theorem or128' : ∀ c : Nat, c < 256 → Builtin.bitOr (c : Int) 128 = ((c % 128 + 128 : Nat) : Int) := by decide +kernel
theorem or32' : ∀ c : Nat, c < 32 → Builtin.bitOr (c : Int) 32 = ((c + 32 : Nat) : Int) := by decide +kernel
section
variable {prog : Program} {w : World} {A : Around} {E : Value → Shared → Prop} {s : Shared} {t u : Tok} {Q : Value → Shared → Prop} {c : Nat}
theorem r_and31 (h : Q (.int ((c % 32 : Nat) : Int) s.toks) { s with toks := s.toks + 1 }) : wpAny (model prog w) A (binaryOp .BitAnd (.int (c : Int) t) (.int 31 u)) Q E s := and_int (by rw [and31]; exact h)
theorem r_and127 (h : Q (.int ((c % 128 : Nat) : Int) s.toks) { s with toks := s.toks + 1 }) : wpAny (model prog w) A (binaryOp .BitAnd (.int (c : Int) t) (.int 127 u)) Q E s := and_int (by rw [and127]; exact h)
theorem r_and128 (hc : c < 256) (h : Q (.int ((c / 128 * 128 : Nat) : Int) s.toks) { s with toks := s.toks + 1 }) : wpAny (model prog w) A (binaryOp .BitAnd (.int (c : Int) t) (.int 128 u)) Q E s := and_int (by rw [and128' c hc]; exact h)
theorem r_or128 (hc : c < 256) (h : Q (.int ((c % 128 + 128 : Nat) : Int) s.toks) { s with toks := s.toks + 1 }) : wpAny (model prog w) A (binaryOp .BitOr (.int (c : Int) t) (.int 128 u)) Q E s := or_int (by rw [or128' c hc]; exact h)
theorem r_or32 (hc : c < 32) (h : Q (.int ((c + 32 : Nat) : Int) s.toks) { s with toks := s.toks + 1 }) : wpAny (model prog w) A (binaryOp .BitOr (.int (c : Int) t) (.int 32 u)) Q E s := or_int (by rw [or32' c hc]; exact h)
theorem r_add32 (h : Q (.int ((c + 32 : Nat) : Int) s.toks) { s with toks := s.toks + 1 }) : wpAny (model prog w) A (binaryOp .Add (.int (c : Int) t) (.int 32 u)) Q E s := add_int (by rw [show (c : Int) + 32 = ((c + 32 : Nat) : Int) by omega]; exact h)
theorem r_lenF {D : Addr} {ys : List Value} {cs : List Int} {p : Int → Bool} (hl : s.heap.IsList D ys.toArray) (hc : CarriedAll ys (List.map PyData.int (List.filter p cs))) (hn : cs.length ≤ 5)
    (h : Q (.int (((List.filter p cs).length : Nat) : Int) (s.toks + 1)) { s with toks := s.toks + 1 + 1 }) : wpAny (model prog w) A (call (.builtin "len") [.ref D]) Q E s := by
  have e : ys.toArray.size = (List.filter p cs).length := by rw [List.size_toArray, carriedAll_lenA hc, List.length_map]
  have := List.length_filter_le p cs
  refine len_list hl (by rw [e]; omega) (by rw [e]; exact h)
/-- chr of a code that is known as a natural number -/
theorem r_chr {i : Int} (n : Nat) (e : i = (n : Int)) (hn : n ≤ 1114111) (h : Q (.str ⟨#[n]⟩ s.toks) { s with toks := s.toks + 1 }) : wpAny (model prog w) A (call (.builtin "chr") [.int i t]) Q E s := by
  subst e
  exact chr_of_range (by omega) (by omega) (by simpa using h)
end
theorem tl_app (a b : Str) : tl (a ++ b) = tl a ++ tl b := by show (a.cps ++ b.cps).toList = _; rw [Array.toList_append]
theorem tl_hat (n : Nat) : tl (Str.ofString "^" ++ ⟨#[n]⟩) = [94, n] := by rw [tl_app, show tl (Str.ofString "^") = [94] by decide]; rfl
theorem tl_bang (x : Str) : tl (Str.ofString "!" ++ x) = 33 :: tl x := by rw [tl_app, show tl (Str.ofString "!") = [33] by decide]; rfl
theorem len_hat (n : Nat) : (Str.ofString "^" ++ ⟨#[n]⟩ : Str).length ≤ 3 := by rw [← tl_len, tl_hat]; exact Nat.le_succ 2
theorem len_bang_hat (n : Nat) : (Str.ofString "!" ++ (Str.ofString "^" ++ ⟨#[n]⟩) : Str).length ≤ 3 := by rw [← tl_len, tl_bang, tl_hat]; exact Nat.le_refl 3
theorem flat_len {α β : Type} (n : Nat) (f : α → List β) (hf : ∀ a, (f a).length = n) (l : List α) : (l.flatMap f).length = n * l.length := by
  induction l with
  | nil => rfl
  | cons a l ih => rw [List.flatMap_cons, List.length_append, ih, hf, List.length_cons, Nat.mul_succ]; omega
theorem flat_map1 {α : Type} (f : α → Nat) (l : List α) : l.flatMap (fun a => tl ⟨#[f a]⟩) = l.map f := by
  induction l with
  | nil => rfl
  | cons a l ih => rw [List.flatMap_cons, ih]; rfl
end Mine
end
section
set_option maxRecDepth 100000
open PySem PySem.W PySem.Calls PyProof PyProof.Rows PyProof.V PySem.Spec
namespace Mine
theorem lookup_relabel_cell {env : Env} : ∀ {names : List (Str × NameKind)} {x : Str}, names.lookup x = some .cell →
    (names.map fun (n, k) => if (k == NameKind.free && env.scope.kind == .function && env.kindOf n == some .cell) then (n, NameKind.cell) else (n, k)).lookup x = some .cell
  | [], _, h => by simp at h
  | (n, k) :: r, x, h => by
    have ih := @lookup_relabel_cell env r x
    rw [List.map_cons]
    rw [List.lookup_cons] at h
    by_cases e : x == n
    · rw [e] at h
      cases h
      dsimp only
      split <;> simp [List.lookup_cons, e]
    · have e' : (x == n) = false := by simpa using e
      rw [e'] at h
      dsimp only at h ⊢
      split <;> (rw [List.lookup_cons, e']; exact ih h)
/-- the block's own names, empty -/
abbrev dO : Obj := { cls := .type "dict", data := .dict #[] }
abbrev cO : Obj := { cls := .type "cell", data := .cell none }
section
variable {prog : Program} {w : World} {A : Around} {E : Value → Shared → Prop} {s : Shared} {h₀ : Heap} {L : Addr} {m : Str → Option Value} {env : Env}
theorem newEnv_cell {M : Model} {scope : Scope} {x : Str} {globals : Addr} {cl : List (Str × Addr)} {qual : Str} {outer : Env} {Q : Env → Shared → Prop} (hcs : ∀ n, cellsFrom n scope.names cl = (x, n) :: cl) (hps : ∀ h : Heap, pushCells h scope.names = h.push cO)
    (h : Q (newEnv scope s.heap.objs.size globals ((x, s.heap.objs.size + 1) :: cl) qual none .none (some outer) builtinsNs) { s with heap := (s.heap.push dO).push cO }) :
    wpAny M A (newFunctionEnv scope globals cl [] qual none .none (some outer)) Q E s := by
  simp only [newFunctionEnv, Option.isSome_some, if_true]
  refine wpAny_bind (wpAny_alloc ?_)
  refine wpAny_bind (wpAny_layCells _ (fun name kind cells => by cases hkc : kind == NameKind.cell <;> simp [hkc]) _ _ _ _ ?_)
  rw [hcs, hps]
  refine wpAny_bind (wpAny_pure (wpAny_pure ?_))
  have e : ({ s with heap := s.heap.push { cls := .type "dict", data := .dict #[] } } : Shared).heap.objs.size = s.heap.objs.size + 1 := Heap.size_push ..
  rw [e]
  exact h
/-- a turn of a block whose one name is a cell -/
def CompEndC (h₀ : Heap) (L : Addr) (m : Str → Option Value) (s₁ : Shared) (I : Addr) (oI : Obj) (C D c : Addr) (oc : Obj) (ys : List Value) (S : List (Addr × Obj) → Prop) (rest : Value → List (Addr × Obj) → Prop) (y : Value) (s₂ : Shared) : Prop :=
  ∃ h' tk news', s₂ = { s₁ with heap := h', toks := tk } ∧ Fr h₀ L h' m ∧ News h₀ L h' ((I, oI) :: (C, dO) :: (D, LCg.lst ys) :: (c, oc) :: news') ∧ (∀ p ∈ news', p.1 ≠ I ∧ p.1 ≠ C ∧ p.1 ≠ D ∧ p.1 ≠ c) ∧ S news' ∧ rest y news'
def CompRestC (prog : Program) (w : World) (A : Around) (h₀ : Heap) (L : Addr) (m : Str → Option Value) (env : Env) (elt : Expr) (x : Str) (scope : Scope) (cl : List (Str × Addr)) (s : Shared) (S : List (Addr × Obj) → Prop) (P : Nat → Value → Prop)
    (Fin : List Value → List (Addr × Obj) → Prop) : Nat → Nat → List Value → List (Addr × Obj) → Prop
  | 0, _, ys, news => Fin ys news
  | k + 1, i, ys, news => ∀ v I oI C D c oc h tk (E' : Value → Shared → Prop), P i v → oc.data = .cell (some v) → Fr h₀ L h m → News h₀ L h ((I, oI) :: (C, dO) :: (D, LCg.lst ys) :: (c, oc) :: news) → S news → (∀ p ∈ news, p.1 ≠ I ∧ p.1 ≠ C ∧ p.1 ≠ D ∧ p.1 ≠ c) →
      ((@Ne Nat I C) ∧ (@Ne Nat I D) ∧ (@Ne Nat I c) ∧ (@Ne Nat C D) ∧ (@Ne Nat C c) ∧ (@Ne Nat D c)) →
      wpAny (model prog w) A (eval elt (compEnvC scope ((x, c) :: cl) C env)) (CompEndC h₀ L m { s with heap := h, toks := tk } I oI C D c oc ys S (fun y news' => CompRestC prog w A h₀ L m env elt x scope cl s S P Fin k (i + 1) (ys ++ [y]) news')) E' { s with heap := h, toks := tk }

theorem block_C {elt iter : Expr} {x : Str} {px : Pos} {scope : Scope} {cl : List (Str × Addr)} {pos : Pos} {s₂ : Shared} {I : Addr} {fp : List Addr} {n : Nat} {P : Nat → Value → Prop} {St : Nat → Heap → Prop} {S : List (Addr × Obj) → Prop} {news : List (Addr × Obj)}
    {Fin : List Value → List (Addr × Obj) → Prop} {RR : Value → Addr → Result → Shared → Prop}
    (W : Walks prog w A I fp [I] n P St) (hsz : n ≤ sizeLine) (hIo : ∀ i h, St i h → ∃ o, h.get? I = some o)
    (hSt : ∀ i h h' o nw, St i h → h.get? I = some o → h'.get? I = some o → (∀ b o, h₀.get? b = some o → h'.get? b = some o) → News h₀ L h' nw → S nw → St i h')
    (hcs : ∀ n, cellsFrom n scope.names cl = (x, n) :: cl) (hps : ∀ h : Heap, pushCells h scope.names = h.push cO) (hkind : scope.kind = .function) (hx : scope.names.lookup x = some .cell) (hst : St 0 s₂.heap) (hfp : ∀ b ∈ fp, b < s₂.heap.objs.size)
    (F : Fr h₀ L s₂.heap m) (N : News h₀ L s₂.heap news) (hIL : L ≠ I) (hI₀ : h₀.get? I = none) (off : ∀ p ∈ news, p.1 ≠ I) (hS : S news)
    (R : CompRestC prog w A h₀ L m env elt x scope cl s₂ S P Fin n 0 [] news)
    (hRR : ∀ D C h tk m' ys news', Fr h₀ L h m → News h₀ L h ((D, LCg.lst ys) :: news') → (∀ p ∈ news', p.1 ≠ D) → h.Ns C m' → h₀.get? C = none → C ≠ L → C ≠ D → (∀ p ∈ news', p.1 ≠ C) → Fin ys news' → RR (.ref D) C (.ok .next) { s₂ with heap := h, toks := tk }) :
    wpAny (model prog w) A (newList []) (fun acc s₃ => wpAny (model prog w) A (newFunctionEnv scope env.globals cl [] env.qual none .none (some env)) (fun cenv s₄ =>
      codeAny (model prog w) A (.compStart (.ListComp elt [⟨.Name x px, iter, [], 0⟩] scope pos) 0 (.ref I) acc { cenv with scope := relabel scope env }) (RR acc cenv.locals) s₄) E s₃) E s₂ := by
  refine wpAny_newObj_type (newEnv_cell hcs hps ?_)
  dsimp only
  generalize hz : s₂.heap.objs.size = z
  have hHs : (s₂.heap.push { cls := .type "list", dict := none, data := .seq ([] : List Value).toArray }).objs.size = z + 1 := by rw [Heap.size_push, hz]
  rw [hHs]
  have old : ∀ b o, s₂.heap.get? b = some o → (((s₂.heap.push { cls := .type "list", dict := none, data := .seq ([] : List Value).toArray }).push dO).push cO).get? b = some o :=
    fun b o e => Heap.get?_push_of_some _ (Heap.get?_push_of_some _ (Heap.get?_push_of_some _ e))
  have hD : (((s₂.heap.push { cls := .type "list", dict := none, data := .seq ([] : List Value).toArray }).push dO).push cO).get? z = some (LCg.lst []) :=
    Heap.get?_push_of_some _ (Heap.get?_push_of_some _ (hz ▸ Heap.get?_push_size _ rfl))
  have hC : (((s₂.heap.push { cls := .type "list", dict := none, data := .seq ([] : List Value).toArray }).push dO).push cO).get? (z + 1) = some dO :=
    Heap.get?_push_of_some _ (hHs ▸ Heap.get?_push_size _ rfl)
  have hc : (((s₂.heap.push { cls := .type "list", dict := none, data := .seq ([] : List Value).toArray }).push dO).push cO).get? (z + 1 + 1) = some cO := by
    have e : ((s₂.heap.push { cls := .type "list", dict := none, data := .seq ([] : List Value).toArray }).push dO).objs.size = z + 1 + 1 := by rw [Heap.size_push, hHs]
    exact e ▸ Heap.get?_push_size _ rfl
  generalize (((s₂.heap.push { cls := .type "list", dict := none, data := .seq ([] : List Value).toArray }).push dO).push cO) = H at old hD hC hc ⊢
  clear hHs
  have lz : ∀ {b : Nat} {o}, s₂.heap.get? b = some o → b < z := fun e => hz ▸ Heap.lt_size e
  have fresh₀ : ∀ a : Nat, z ≤ a → h₀.get? a = none := fun a ha => by
    cases e : h₀.get? a with
    | none => rfl
    | some o' => exact absurd (lz (F.keep a o' e)) (Nat.not_lt.mpr ha)
  have hIlt : @LT.lt Nat _ I z := hz ▸ hfp I (W.sub I (List.mem_singleton.mpr rfl))
  have hLlt : @LT.lt Nat _ L z := hz ▸ F.ns.lt
  have hnz : ∀ p ∈ news, @LT.lt Nat _ p.1 z := fun p hp => lz (N p hp).1
  have hfz : ∀ b ∈ fp, @LT.lt Nat _ b z := fun b hb => hz ▸ hfp b hb
  have dict : ∀ h : Heap, h.get? (z + 1) = some dO → h.Ns (z + 1) (fun _ => none) := fun h e => ⟨dO, _, _, e, rfl, by intro y hy; simp at hy, fun _ => rfl⟩
  have loop : ∀ s₃ : Shared, s₃ = { s₂ with heap := H } →
      codeAny (model prog w) A (.compLoop (.ListComp elt [⟨.Name x px, iter, [], 0⟩] scope pos) 0 (.ref I) (.ref z) (compEnvC scope ((x, z + 1 + 1) :: cl) (z + 1) env)) (RR (.ref z) (z + 1)) s₃ := by
    rintro s₃ rfl
    refine codeAny_compLoop_tests
      (fun k s' => ∃ h' tk i ys oc vo news', s' = { s₂ with heap := h', toks := tk } ∧ i ≤ n ∧ k = n + 1 - i ∧ ys.length = i ∧ St i h' ∧ Fr h₀ L h' m ∧ oc.data = .cell vo ∧ News h₀ L h' ((z + 1, dO) :: (z, LCg.lst ys) :: (z + 1 + 1, oc) :: news') ∧
        (∀ p ∈ news', p.1 ≠ I ∧ p.1 ≠ z + 1 ∧ p.1 ≠ z ∧ p.1 ≠ z + 1 + 1) ∧ S news' ∧ CompRestC prog w A h₀ L m env elt x scope cl s₂ S P Fin (n - i) i ys news') ?_ (n + 1)
      ⟨H, _, 0, [], cO, none, news, rfl, Nat.zero_le _, rfl, rfl, W.frame _ _ _ hst fun b _ o e => old b o e, F.keeps old, rfl, ?_, fun p hp => ?_, hS, R⟩
    · rintro k s' ⟨h', tk, i, ys, oc, vo, news', rfl, hi, rfl, hyl, hst', F', hoc, N', off', hS', R'⟩
      have nC := N' (z + 1, dO) (.head _)
      have nD := N' (z, LCg.lst ys) (.tail _ (.head _))
      have nc := N' (z + 1 + 1, oc) (.tail _ (.tail _ (.head _)))
      have nr : News h₀ L h' news' := fun p hp => N' p (.tail _ (.tail _ (.tail _ hp)))
      by_cases hlt : i < n
      · obtain ⟨j, hj⟩ : ∃ j, n - i = j + 1 := ⟨n - i - 1, by omega⟩
        rw [hj] at R'
        refine W.item i _ _ _ hlt hst' fun v h₂ tk₂ hPv hst₂ hk₂ => ?_
        dsimp only at hk₂
        have kI : ∀ b o, b ≠ I → h'.get? b = some o → h₂.get? b = some o := fun b o hb e => hk₂ b o (by simpa using hb) e
        refine wpAny_assign_Name (wpAny_storeName_cell (c := z + 1 + 1) hkind (lookup_relabel_cell hx) (by simp [compEnvC]) ⟨oc, kI _ _ (by show @Ne Nat (z + 1 + 1) I; omega) nc.1, hoc⟩ fun h₃ hc₃ hs₃ => ?_)
        obtain ⟨oc', hoc', hd'⟩ := hc₃
        refine wpAny_tests_nil ?_
        simp only [if_true]
        have up : ∀ b o, b ≠ I → b ≠ z + 1 + 1 → h'.get? b = some o → h₃.get? b = some o := fun b o h1 h2 e => (hs₃.2 b h2).trans (kI b o h1 e)
        have hst₃ : St (i + 1) h₃ := W.frame _ _ _ hst₂ fun b hb o e => (hs₃.2 b (by have := hfz b hb; show @Ne Nat _ _; omega)).trans e
        obtain ⟨oI, heI⟩ := hIo _ _ hst₃
        have nz : ∀ b o, h₀.get? b = some o → b ≠ I ∧ b ≠ z + 1 + 1 := fun b o e => by
          refine ⟨fun q => ?_, fun q => ?_⟩
          · rw [q, hI₀] at e; cases e
          · rw [q, fresh₀ (z + 1 + 1) (by omega)] at e; cases e
        have F₃ : Fr h₀ L h₃ m := ⟨F'.ns.at' fun o e => up L o hIL (by show @Ne Nat L (z + 1 + 1); omega) e, fun b o e => up b o (nz b o e).1 (nz b o e).2 (F'.keep b o e), F'.above⟩
        have N₃ : News h₀ L h₃ ((I, oI) :: (z + 1, dO) :: (z, LCg.lst ys) :: (z + 1 + 1, oc') :: news') := by
          intro p hp
          rcases List.mem_cons.mp hp with rfl | hp
          · exact ⟨heI, Ne.symm hIL, hI₀⟩
          rcases List.mem_cons.mp hp with rfl | hp
          · exact ⟨up _ _ (by show @Ne Nat (z + 1) (I); omega) (by show @Ne Nat (z + 1) (z + 1 + 1); omega) nC.1, nC.2⟩
          rcases List.mem_cons.mp hp with rfl | hp
          · exact ⟨up _ _ (by show @Ne Nat (z) (I); omega) (by show @Ne Nat (z) (z + 1 + 1); omega) nD.1, nD.2⟩
          rcases List.mem_cons.mp hp with rfl | hp
          · exact ⟨hoc', nc.2⟩
          · exact ⟨up _ _ (off' p hp).1 (off' p hp).2.2.2 (nr p hp).1, (nr p hp).2⟩
        refine wpAny_mono (R' v I oI (z + 1) z (z + 1 + 1) oc' h₃ _ _ hPv hd' F₃ N₃ hS' off' ⟨by show @Ne Nat (I) (z + 1); omega, by show @Ne Nat (I) (z); omega, by show @Ne Nat (I) (z + 1 + 1); omega, by show @Ne Nat (z + 1) (z); omega, by show @Ne Nat (z + 1) (z + 1 + 1); omega, by show @Ne Nat (z) (z + 1 + 1); omega⟩) (fun y s₄ h₄ => ?_) fun _ _ e => e
        obtain ⟨h₄, tk₄, news₄, rfl, F₄, N₄, off₄, hS₄, R₄⟩ := h₄
        have qI := (N₄ (I, oI) (.head _)).1
        have qC := N₄ (z + 1, dO) (.tail _ (.head _))
        have qD := N₄ (z, LCg.lst ys) (.tail _ (.tail _ (.head _)))
        have qc := N₄ (z + 1 + 1, oc') (.tail _ (.tail _ (.tail _ (.head _))))
        have qr : News h₀ L h₄ news₄ := fun p hp => N₄ p (.tail _ (.tail _ (.tail _ (.tail _ hp))))
        have hst₄ : St (i + 1) h₄ := hSt _ _ _ _ _ hst₃ heI qI F₄.keep qr hS₄
        refine append_at (hsz := by show ys.toArray.size ≤ sizeLine; rw [List.size_toArray, hyl]; exact Nat.le_trans hi hsz) qD.1 fun h₅ hs₅ hD₅ => ?_
        refine ⟨n + 1 - (i + 1), by omega, h₅, tk₄, i + 1, ys ++ [y], oc', some v, news₄, rfl, hlt, rfl, by rw [List.length_append, List.length_singleton, hyl], W.frame _ _ _ hst₄ fun b hb o e => (hs₅.2 b (by have := hfz b hb; show @Ne Nat _ _; omega)).trans e,
          F₄.change hs₅ qD.2.1 qD.2.2, hd', fun p hp => ?_, off₄, hS₄, ?_⟩
        · rcases List.mem_cons.mp hp with rfl | hp
          · exact ⟨(hs₅.2 _ (by show @Ne Nat (z + 1) (z); omega)).trans qC.1, qC.2⟩
          rcases List.mem_cons.mp hp with rfl | hp
          · exact ⟨hD₅.trans (congrArg some (LCg.lst_snoc ys y)), qD.2⟩
          rcases List.mem_cons.mp hp with rfl | hp
          · exact ⟨(hs₅.2 _ (by show @Ne Nat (z + 1 + 1) (z); omega)).trans qc.1, qc.2⟩
          · exact ⟨(hs₅.2 _ (off₄ p hp).2.2.1).trans (qr p hp).1, (qr p hp).2⟩
        · rw [show n - (i + 1) = j by omega]
          exact R₄
      · obtain rfl : i = n := Nat.le_antisymm hi (Nat.not_lt.mp hlt)
        rw [Nat.sub_self] at R'
        refine W.done _ _ _ hst' fun h₂ tk₂ hk₂ => ?_
        dsimp only at hk₂
        have kI : ∀ b o, b ≠ I → h'.get? b = some o → h₂.get? b = some o := fun b o hb e => hk₂ b o (by simpa using hb) e
        have nz : ∀ b o, h₀.get? b = some o → b ≠ I := fun b o e q => by rw [q, hI₀] at e; cases e
        refine hRR z (z + 1) h₂ tk₂ _ ys news' ⟨F'.ns.at' fun o e => kI L o hIL e, fun b o e => kI b o (nz b o e) (F'.keep b o e), F'.above⟩ (fun p hp => ?_) (fun p hp => (off' p hp).2.2.1) (dict _ (kI _ _ (by show @Ne Nat (z + 1) I; omega) nC.1)) nC.2.2 nC.2.1 (by show @Ne Nat (z + 1) (z); omega) (fun p hp => (off' p hp).2.1) R'
        rcases List.mem_cons.mp hp with rfl | hp
        · exact ⟨kI _ _ (by show @Ne Nat (z) (I); omega) nD.1, nD.2⟩
        · exact ⟨kI _ _ (off' p hp).1 (nr p hp).1, (nr p hp).2⟩
    · intro p hp
      rcases List.mem_cons.mp hp with rfl | hp
      · exact ⟨hC, by show @Ne Nat (z + 1) (L); omega, fresh₀ _ (by omega)⟩
      rcases List.mem_cons.mp hp with rfl | hp
      · exact ⟨hD, by show @Ne Nat (z) (L); omega, fresh₀ _ (Nat.le_refl _)⟩
      rcases List.mem_cons.mp hp with rfl | hp
      · exact ⟨hc, by show @Ne Nat (z + 1 + 1) (L); omega, fresh₀ _ (by omega)⟩
      · exact ⟨old _ _ (N p hp).1, (N p hp).2⟩
    · have := hnz p hp
      exact ⟨off p hp, by show @Ne Nat p.1 (z + 1); omega, by show @Ne Nat p.1 z; omega, by show @Ne Nat p.1 (z + 1 + 1); omega⟩
  exact codeAny_compStart_list (loop _ rfl) (W.self 0 _ _ _ (W.frame _ _ _ hst fun b _ o e => old b o e) (loop _ rfl))

/-- the source: a list -/
def SrcC (prog : Program) (w : World) (A : Around) (h₀ : Heap) (L : Addr) (m : Str → Option Value) (env : Env) (elt : Expr) (x : Str) (scope : Scope) (cl : List (Str × Addr)) (Fin : Shared → List Value → List (Addr × Obj) → Prop) (xv : Value) (s₁ : Shared) : Prop :=
  ∃ ax its news, xv = .ref ax ∧ A.handled = none ∧ Fr h₀ L s₁.heap m ∧ News h₀ L s₁.heap news ∧ LCg.SrcAt h₀ ax its news ∧ its.size ≤ sizeLine ∧
    ∀ s₂ : Shared, (∃ h, s₂ = { s₁ with heap := h }) → CompRestC prog w A h₀ L m env elt x scope cl s₂ (LCg.SrcAt h₀ ax its) (fun i v => its[i]? = some v) (Fin s₂) its.size 0 [] news
def FinA' (h₀ : Heap) (L : Addr) (m : Str → Option Value) (s : Shared) (y : Str) (Q : Flow → Shared → Prop) (ys : List Value) (news : List (Addr × Obj)) : Prop :=
  ∀ D h tk, Fr h₀ L h (fun z => if z = y then some (.ref D) else m z) → News h₀ L h ((D, LCg.lst ys) :: news) → (∀ p ∈ news, p.1 ≠ D) → Q .next { s with heap := h, toks := tk }
theorem Assign_ListComp_C {elt iter : Expr} {x y : Str} {px py : Pos} {scope : Scope} {cl : List (Str × Addr)} {pos spos : Pos} {Q : Flow → Shared → Prop} (_F₀ : Fr h₀ L s.heap m) (hLe : env.locals = L)
    (hsw : swapsWith (.ListComp elt [⟨.Name x px, iter, [], 0⟩] scope pos) (some (.Name y py)) spos.line env = pure true)
    (hclos : closureFor scope env = pure cl) (hcs : ∀ n, cellsFrom n scope.names cl = (x, n) :: cl) (hps : ∀ h : Heap, pushCells h scope.names = h.push cO) (hkind : scope.kind = .function)
    (hnames : ∀ z ∈ scope.names, z.2 = .local → scope.names.lookup z.1 = some .local) (hx : scope.names.lookup x = some .cell)
    (hy : env.kindOf y = some .local) (hp : (env.scope.kind == .class || (env.scope.kind == .module && env.locals != env.globals)) = false)
    (h : wpAny (model prog w) A (eval iter env) (SrcC prog w A h₀ L m env elt x scope cl (fun s₂ => FinA' h₀ L m s₂ y Q)) E s)
    (hs : ∀ x, foldedSetIterable iter env x = pure x := by intro _; rfl) :
    wpAny (model prog w) A (exec (.Assign [.Name y py] (.ListComp elt [⟨.Name x px, iter, [], 0⟩] scope pos) spos) env) Q E s := by
  subst hLe
  rw [exec_Assign_Name_used _ _ _ _ hsw]
  refine wpAny_bind (wpAny_standAt (wpAny_bind ?_))
  show wpAny _ A (do let _ ← comprehension (.ListComp elt [⟨.Name x px, iter, [], 0⟩] scope pos) scope env _ (newList []) false (eval iter env) (some (assign (.Name y py) env))) _ _ s
  refine wpAny_bind (wpAny_mono (wpAny_comprehension_free (use := some (assign (.Name y py) env)) (Q := fun _ s' => Q .next s') rfl hs hclos hkind hnames
    (wpAny_mono h (fun xv s₁ h₁ => ?_) fun _ _ e => e)) (fun _ s' hq => wpAny_pure (wpAny_pure hq)) fun _ _ e => e)
  obtain ⟨ax, its, news, rfl, hh, F, N, S, hsz, R⟩ := h₁
  have hl := S.list F.keep N
  have hlt : ax < s₁.heap.objs.size := by obtain ⟨_, e, _⟩ := hl; exact Heap.lt_size e
  refine wpAny_pyIter_list hl ?_
  have up : ∀ b o, s₁.heap.get? b = some o → (s₁.heap.push { cls := .type "list_iterator", data := .fields #[.ref ax, .int 0 0] }).get? b = some o := fun b o e => Heap.get?_push_of_some _ e
  refine block_C (Walks.list hh s₁.heap.objs.size ax (Nat.ne_of_lt hlt) its) hsz (fun i h st => by obtain ⟨o, e, _⟩ := st.1; exact ⟨o, e⟩) LCg.list_st hcs hps hkind hx ⟨⟨_, Heap.get?_push_size _ rfl, rfl, rfl⟩, hl.push _⟩ (fun b hb => ?_)
    (F.keeps up) (N.grown up) (Nat.ne_of_lt F.ns.lt) (next_is_new F) (fun p hp => Nat.ne_of_lt (Heap.lt_size (N p hp).1)) S (R _ ⟨_, rfl⟩) ?_
  · show b < (s₁.heap.push _).objs.size
    rw [Heap.size_push]
    rcases List.mem_cons.mp hb with rfl | hb
    · exact Nat.lt_succ_self _
    · rw [List.mem_singleton.mp hb]; exact Nat.lt_succ_of_lt hlt
  · intro D C h' tk m' ys news' F' N' o1 hn hC₀ hCL hCD offC fin
    show wpAny _ A (assign (.Name y py) env (.ref D)) _ _ _
    refine wpAny_assign_Name (wpAny_storeName_local hy F'.ns (fun h₂ hn₂ hs₂ => ?_) hp)
    have hL₀ : h₀.get? env.locals = none := Heap.get?_none_of_le F'.above
    have F₂ : Fr h₀ env.locals h₂ (fun z => if z = y then some (.ref D) else m z) := F'.set hn₂ hs₂
    refine ⟨m', hn.sameBut hs₂ hCL, fun h'' hs'' => fin D h'' _ (F₂.change hs'' hCL hC₀) (fun p hp => ?_) o1⟩
    have q := N'.set hs₂ p hp
    refine ⟨(hs''.2 p.1 ?_).trans q.1, q.2⟩
    rcases List.mem_cons.mp hp with rfl | hp
    · exact Ne.symm hCD
    · exact offC p hp
end
end Mine
end
section
set_option maxRecDepth 100000
open PySem PySem.W PySem.Calls PyProof PyProof.Rows PyProof.V PySem.Spec
namespace Mine
/-- a list of made lists of ints, and the ledger that bears them -/
def LinesAre (bs : List (List Int)) (ys : List Value) (bl : List (Addr × Obj)) : Prop :=
  ys.length = bs.length ∧ (∀ (i : Nat) (y : Value), ys[i]? = some y → ∃ a vs b, y = .ref a ∧ bs[i]? = some b ∧ IntsAre vs b ∧ (a, LCg.lst vs) ∈ bl) ∧ ∀ p ∈ bl, ∃ us, p.2 = LCg.lst us
theorem LinesAre.snoc {bs : List (List Int)} {ys : List Value} {bl : List (Addr × Obj)} {a : Addr} {vs : List Value} {b : List Int} (h : LinesAre bs ys bl) (hv : IntsAre vs b) : LinesAre (bs ++ [b]) (ys ++ [.ref a]) ((a, LCg.lst vs) :: bl) := by
  refine ⟨by simp [h.1], fun i y hy => ?_, fun p hp => ?_⟩
  rotate_left
  · rcases List.mem_cons.mp hp with rfl | hp
    · exact ⟨vs, rfl⟩
    · exact h.2.2 p hp
  by_cases hi : i < ys.length
  · rw [List.getElem?_append_left hi] at hy
    obtain ⟨a', vs', b', e, hb, hv', hm⟩ := h.2.1 i y hy
    exact ⟨a', vs', b', e, by rw [List.getElem?_append_left (by rw [← h.1]; exact hi)]; exact hb, hv', .tail _ hm⟩
  · rw [List.getElem?_append_right (by omega)] at hy
    have e : i - ys.length = 0 := by
      cases q : i - ys.length with
      | zero => rfl
      | succ n => rw [q] at hy; simp at hy
    rw [e] at hy
    simp only [List.getElem?_cons_zero, Option.some.injEq] at hy
    exact ⟨a, vs, b, hy.symm, by rw [List.getElem?_append_right (by rw [← h.1]; omega), ← h.1, e]; rfl, hv, .head _⟩
theorem carried_at {ys : List Value} {α : Type} {l : List α} {g : α → Str} (h : CarriedAll ys (l.map fun k => PyData.str (g k))) : ∀ (i : Nat) (k : α), l[i]? = some k → ∃ t, ys[i]? = some (.str (g k) t) := by
  induction l generalizing ys with
  | nil => intro i k e; simp at e
  | cons a l ih =>
    intro i k e
    rw [List.map_cons] at h
    obtain ⟨t, vs, rfl, h'⟩ := carriedAll_str_inv h
    cases i with
    | zero => simp only [List.getElem?_cons_zero, Option.some.injEq] at e; subst e; exact ⟨t, rfl⟩
    | succ i => simpa using ih h' i k (by simpa using e)
section
variable {prog : Program} {w : World} {A : Around} {E : Value → Shared → Prop} {s : Shared} {h₀ : Heap} {L : Addr} {m : Str → Option Value} {env : Env}
theorem SrcC.ledger {elt : Expr} {x : Str} {scope : Scope} {cl : List (Str × Addr)} {Fin : Shared → List Value → List (Addr × Obj) → Prop} {ax : Addr} {its : Array Value} {k : Nat} {news : List (Addr × Obj)} {s₁ : Shared}
    (hh : A.handled = none) (F : Fr h₀ L s₁.heap m) (N : News h₀ L s₁.heap news) (hm : (ax, ({ cls := .type "list", data := .seq its k } : Obj)) ∈ news) (hsz : its.size ≤ 1000)
    (h : ∀ g, CompRestC prog w A h₀ L m env elt x scope cl { s₁ with heap := g } (LCg.SrcAt h₀ ax its) (fun i v => its[i]? = some v) (Fin { s₁ with heap := g }) its.size 0 [] news) :
    SrcC prog w A h₀ L m env elt x scope cl Fin (.ref ax) s₁ :=
  ⟨ax, its, news, rfl, hh, F, N, .inr ⟨_, hm, rfl, _, rfl⟩, by rw [sizeLine_eq]; omega, fun _ ⟨g, e⟩ => e ▸ h g⟩
/-- each int gives a made list of ints -/
theorem rest_lists {elt : Expr} {x : Str} {scope : Scope} {cl : List (Str × Addr)} {Fin : List Value → List (Addr × Obj) → Prop} {news : List (Addr × Obj)} {ax : Addr} {vs : List Value} {ns : List Int} {k₀ : Nat} (g : Int → List Int) (hi : IntsAre vs ns) (hsrc : (ax, ({ cls := .type "list", data := .seq vs.toArray k₀ } : Obj)) ∈ news)
    (turn : ∀ k t I oI C D c oc ys bl h tk (E' : Value → Shared → Prop), k ∈ ns → oc.data = .cell (some (.int k t)) → Fr h₀ L h m → News h₀ L h ((I, oI) :: (C, dO) :: (D, LCg.lst ys) :: (c, oc) :: (bl ++ news)) →
      wpAny (model prog w) A (eval elt (compEnvC scope ((x, c) :: cl) C env)) (fun y s₂ => ∃ h' tk' a vs', s₂ = { s with heap := h', toks := tk' } ∧ y = .ref a ∧ IntsAre vs' (g k) ∧ Fr h₀ L h' m ∧
        News h₀ L h' ((a, LCg.lst vs') :: (I, oI) :: (C, dO) :: (D, LCg.lst ys) :: (c, oc) :: (bl ++ news)) ∧ LCg.Off1 a ((I, oI) :: (C, dO) :: (D, LCg.lst ys) :: (c, oc) :: (bl ++ news))) E' { s with heap := h, toks := tk })
    (fin : ∀ ys bl, LinesAre (ns.map g) ys bl → Fin ys (bl ++ news)) : CompRestC prog w A h₀ L m env elt x scope cl s (LCg.SrcAt h₀ ax vs.toArray) (fun i v => vs.toArray[i]? = some v) Fin vs.toArray.size 0 [] news := by
  have key : ∀ (j i : Nat) (ys : List Value) (bl : List (Addr × Obj)), i + j = vs.length → LinesAre ((ns.take i).map g) ys bl → CompRestC prog w A h₀ L m env elt x scope cl s (LCg.SrcAt h₀ ax vs.toArray) (fun i v => vs.toArray[i]? = some v) Fin j i ys (bl ++ news) := by
    intro j
    induction j with
    | zero =>
      intro i ys bl hi' hy
      have e : i = ns.length := by rw [← hi.length]; omega
      subst e
      rw [List.take_length] at hy
      exact fin ys bl hy
    | succ j ih =>
      intro i ys bl hi' hy v I oI C D c oc h tk E' hv hoc F N _ off ne
      obtain ⟨k, t, rfl, hk⟩ := IntsAre.at hi i v (by simpa using hv)
      refine wpAny_mono (turn k t I oI C D c oc ys bl h tk E' (List.mem_of_getElem? hk) hoc F N) (fun y s₂ hq => ?_) fun _ _ e => e
      obtain ⟨h', tk', a, vs', rfl, rfl, hvs, F', N', o1⟩ := hq
      refine ⟨h', tk', (a, LCg.lst vs') :: (bl ++ news), rfl, F', fun p hp => N' p ?_, fun p hp => ?_, .inr ⟨_, .tail _ (List.mem_append_right _ hsrc), rfl, _, rfl⟩, ?_⟩
      · rcases List.mem_cons.mp hp with rfl | hp
        · exact .tail _ (.head _)
        rcases List.mem_cons.mp hp with rfl | hp
        · exact .tail _ (.tail _ (.head _))
        rcases List.mem_cons.mp hp with rfl | hp
        · exact .tail _ (.tail _ (.tail _ (.head _)))
        rcases List.mem_cons.mp hp with rfl | hp
        · exact .tail _ (.tail _ (.tail _ (.tail _ (.head _))))
        rcases List.mem_cons.mp hp with rfl | hp
        · exact .head _
        · exact .tail _ (.tail _ (.tail _ (.tail _ (.tail _ hp))))
      · rcases List.mem_cons.mp hp with rfl | hp
        · exact ⟨Ne.symm o1.1, Ne.symm o1.2.1, Ne.symm o1.2.2.1, Ne.symm o1.2.2.2.1⟩
        · exact off p hp
      · have := ih (i + 1) (ys ++ [.ref a]) ((a, LCg.lst vs') :: bl) (by omega) (by
          have e : (ns.take (i + 1)).map g = (ns.take i).map g ++ [g k] := by rw [List.take_add_one, hk]; simp
          rw [e]; exact hy.snoc hvs)
        simpa using this
  have := key vs.length 0 [] [] (by omega) ⟨rfl, fun i y hy => by simp at hy, fun p hp => by simp at hp⟩
  simpa using this
/-- each made list gives a text -/
theorem rest_lines {elt : Expr} {x : Str} {scope : Scope} {cl : List (Str × Addr)} {Fin : List Value → List (Addr × Obj) → Prop} {news : List (Addr × Obj)} {ax : Addr} {vs : List Value} {bs : List (List Int)} {bl : List (Addr × Obj)} {k₀ : Nat} (g : List Int → Str) (hi : LinesAre bs vs bl) (hbl : ∀ p ∈ bl, p ∈ news) (hsrc : (ax, ({ cls := .type "list", data := .seq vs.toArray k₀ } : Obj)) ∈ news)
    (turn : ∀ a us b I oI C D c oc ys h tk (E' : Value → Shared → Prop), b ∈ bs → IntsAre us b → oc.data = .cell (some (.ref a)) → Fr h₀ L h m → News h₀ L h ((a, LCg.lst us) :: (I, oI) :: (C, dO) :: (D, LCg.lst ys) :: (c, oc) :: news) →
      wpAny (model prog w) A (eval elt (compEnvC scope ((x, c) :: cl) C env)) (fun y s₂ => ∃ h' tk' t, s₂ = { s with heap := h', toks := tk' } ∧ y = .str (g b) t ∧ Fr h₀ L h' m ∧
        News h₀ L h' ((a, LCg.lst us) :: (I, oI) :: (C, dO) :: (D, LCg.lst ys) :: (c, oc) :: news)) E' { s with heap := h, toks := tk })
    (fin : ∀ ys, CarriedAll ys (bs.map fun b => PyData.str (g b)) → Fin ys news) : CompRestC prog w A h₀ L m env elt x scope cl s (LCg.SrcAt h₀ ax vs.toArray) (fun i v => vs.toArray[i]? = some v) Fin vs.toArray.size 0 [] news := by
  have key : ∀ (j i : Nat) (ys : List Value), i + j = vs.length → StrsAre ys ((bs.take i).map g) → CompRestC prog w A h₀ L m env elt x scope cl s (LCg.SrcAt h₀ ax vs.toArray) (fun i v => vs.toArray[i]? = some v) Fin j i ys news := by
    intro j
    induction j with
    | zero =>
      intro i ys hi' hy
      have e : i = bs.length := by rw [← hi.1]; omega
      subst e
      rw [List.take_length] at hy
      have hc := hy.carried
      rw [List.map_map] at hc
      exact fin ys hc
    | succ j ih =>
      intro i ys hi' hy v I oI C D c oc h tk E' hv hoc F N hS off ne
      obtain ⟨a, us, b, rfl, hb, hu, hm⟩ := hi.2.1 i v (by simpa using hv)
      refine wpAny_mono (turn a us b I oI C D c oc ys h tk E' (List.mem_of_getElem? hb) hu hoc F (fun p hp => ?_)) (fun y s₂ hq => ?_) fun _ _ e => e
      · rcases List.mem_cons.mp hp with rfl | hp
        · exact N _ (.tail _ (.tail _ (.tail _ (.tail _ (hbl _ hm)))))
        · exact N p hp
      obtain ⟨h', tk', t, rfl, rfl, F', N'⟩ := hq
      refine ⟨h', tk', news, rfl, F', fun p hp => N' p (.tail _ hp), off, hS, ?_⟩
      refine ih (i + 1) _ (by omega) ?_
      rw [List.take_add_one, hb]
      simpa using kct_snoc hy
  exact key vs.length 0 [] (by omega) (by simp only [List.take_zero, List.map_nil]; exact .nil)
/-- a list of texts, each gives a text -/
theorem rest_strs {elt : Expr} {x : Str} {scope : Scope} {cl : List (Str × Addr)} {Fin : List Value → List (Addr × Obj) → Prop} {news : List (Addr × Obj)} {S : List (Addr × Obj) → Prop} {vs : List Value} {α : Type} {l : List α} {f : α → Str} (g : α → Str) (hi : CarriedAll vs (l.map fun a => PyData.str (f a)))
    (turn : ∀ a t I oI C oC D m₂ ys h tk (E' : Value → Shared → Prop), a ∈ l → LCg.NsObj oC m₂ → m₂ x = some (.str (f a) t) → Fr h₀ L h m → News h₀ L h ((I, oI) :: (C, oC) :: (D, LCg.lst ys) :: news) → LCg.Off3 I C D news → ((@Ne Nat I C) ∧ (@Ne Nat I D) ∧ (@Ne Nat C D)) → KPfMark →
      wpAny (model prog w) A (eval elt (compEnvC scope cl C env)) (LCg.CompEnd h₀ L m { s with heap := h, toks := tk } I oI C oC D (LCg.lst ys) S (fun y news' => KCtEl news (g a) y news')) E' { s with heap := h, toks := tk })
    (fin : ∀ ys, CarriedAll ys (l.map fun a => PyData.str (g a)) → Fin ys news) : LCg.CompRest prog w A h₀ L m env elt x scope cl s S (fun i v => vs.toArray[i]? = some v) Fin vs.toArray.size 0 [] news := by
  have hlen : vs.length = l.length := by have := carriedAll_lenA hi; simpa using this
  have key : ∀ (j i : Nat) (ys : List Value), i + j = vs.length → StrsAre ys ((l.take i).map g) → LCg.CompRest prog w A h₀ L m env elt x scope cl s S (fun i v => vs.toArray[i]? = some v) Fin j i ys news := by
    intro j
    induction j with
    | zero =>
      intro i ys hi' hy
      have e : i = l.length := by omega
      subst e
      rw [List.take_length] at hy
      have hc := hy.carried
      rw [List.map_map] at hc
      exact LCg.CompRest.zero (fin ys hc)
    | succ j ih =>
      intro i ys hi' hy
      refine LCg.CompRest.succ ?_
      intro v I oI C oC D m₂ h tk E' hv hC hx F N off ne
      obtain ⟨a, ha⟩ : ∃ a, l[i]? = some a := ⟨l[i]'(by omega), by simp⟩
      obtain ⟨t, ht⟩ := carried_at hi i a ha
      have hv' : vs[i]? = some v := by simpa using hv
      rw [ht] at hv'
      cases hv'
      refine wpAny_mono (turn a t I oI C oC D m₂ ys h tk E' (List.mem_of_getElem? ha) hC hx F N off ne True.intro) (fun y s₂ hq => ?_) fun _ _ e => e
      obtain ⟨h', tk', nw, e, F', N', off', hS, hn, t', hy'⟩ := hq
      rw [hn] at N' off' hS
      refine ⟨h', tk', news, e, F', N', off', hS, ?_⟩
      rw [hy']
      refine ih (i + 1) _ (by omega) ?_
      rw [List.take_add_one, ha]
      simpa using kct_snoc hy
  have := key vs.length 0 [] (by omega) (by simp only [List.take_zero, List.map_nil]; exact .nil)
  simpa using this
/-- an item of a made list at a place that is not written -/
theorem item_at {value slice : PySem.Expr} {l : Addr} {vs : List Value} {k : Int} {u : Tok} {v : Value} {Q : Value → Shared → Prop}
    (hl : s.heap.IsList l vs.toArray) (h0 : 0 ≤ k) (hhi : k < 1000) (hx : vs[k.toNat]? = some v) (h : Q v s)
    (hs : subscripted slice false (.ref l) (.int k u) = operate [.ref l, .int k u] (getItem (.ref l) (.int k u)) := by with_unfolding_all rfl) :
    wpAny (model prog w) A (subscriptTail value slice (.ref l) (.int k u)) Q E s :=
  tail_any hl.typeIs slot_list_getitem.lookup (wpAny_getItem_list hl h0 (by omega) (by simpa using hx) h) hs
end
end Mine
end
section
open PySem PySem.W PyProof PyProof.Rows
namespace Mine
def keyN (T k : Int) : Nat := (64 + Int.fmod (T + k * (1 + Int.fmod (Int.fdiv T 29) 28)) 29).toNat
def KeyOk (K : Int → Nat) : Prop := (∀ k, 64 ≤ K k ∧ K k ≤ 92) ∧ ∀ i j, 0 ≤ i → i < 5 → 0 ≤ j → j < 5 → K i = K j → i = j
theorem keyN_ok (T : Int) : KeyOk (keyN T) := by
  have hf : ∀ a n : Int, 0 < n → Int.fmod a n = a % n := fun a n h => Int.fmod_eq_emod_of_nonneg _ (by omega)
  refine ⟨fun k => ?_, fun i j hi0 hi hj0 hj h => ?_⟩
  · unfold keyN
    rw [hf _ 29 (by decide)]
    generalize T + k * _ = X
    omega
  · unfold keyN at h
    rw [hf _ 29 (by decide), hf _ 29 (by decide), hf _ 28 (by decide)] at h
    generalize hd : 1 + Int.fdiv T 29 % 28 = d at h
    have d1 : 1 ≤ d ∧ d ≤ 28 := by omega
    clear hd
    have ci : i = 0 ∨ i = 1 ∨ i = 2 ∨ i = 3 ∨ i = 4 := by omega
    have cj : j = 0 ∨ j = 1 ∨ j = 2 ∨ j = 3 ∨ j = 4 := by omega
    rcases ci with rfl | rfl | rfl | rfl | rfl <;> rcases cj with rfl | rfl | rfl | rfl | rfl <;> first | rfl | (exfalso; omega)
theorem keys_abs {ys : List Value} {T : Int} (h : CarriedAll ys ((rangeKs 0 5).map fun k => PyData.str ⟨#[(64 + Int.fmod (T + k * (1 + Int.fmod (Int.fdiv T 29) 28)) 29).toNat]⟩)) :
    ∃ K : Int → Nat, CarriedAll ys ((rangeKs 0 5).map fun k => PyData.str ⟨#[K k]⟩) ∧ KeyOk K := ⟨keyN T, h, keyN_ok T⟩
/-- the digits to the base of 3 -/
def digits (x : Int) : List Int := (rangeKs 0 5).map fun k => Int.fmod (Int.fdiv x (3 ^ k.toNat)) 3
end Mine
namespace Mine
theorem pow3_ne (n : Nat) : ¬ (3 : Int) ^ n = 0 := by
  induction n with
  | zero => decide
  | succ n ih => rw [Int.pow_succ]; omega
def sent (c : Nat) (p : Int) : Nat := if p = 1 then c % 32 else if p = 2 then c % 128 + 128 else c
def textL (K : Int → Nat) (b : List Int) : List Nat := (rangeKs 0 5).map fun k => sent (K k) (b.getD k.toNat 0)
def textS (K : Int → Nat) (b : List Int) : Str := ⟨(textL K b).toArray⟩
def BoardOk (b : List Int) : Prop := b.length = 5 ∧ ∀ v ∈ b, 0 ≤ v ∧ v < 3
theorem digits_ok (x : Int) : BoardOk (digits x) := by
  refine ⟨by simp [digits, rangeKs_length], fun v hv => ?_⟩
  obtain ⟨k, _, rfl⟩ := List.mem_map.mp hv
  exact ⟨fmod_lo _ (by decide), fmod_hi _ (by decide)⟩
theorem board_at {us : List Value} {b : List Int} (hu : IntsAre us b) (hb : BoardOk b) {k : Int} (h0 : 0 ≤ k) (h1 : k < 5) : ∃ p t, b.getD k.toNat 0 = p ∧ us[k.toNat]? = some (.int p t) ∧ (p = 0 ∨ p = 1 ∨ p = 2) := by
  have hl : k.toNat < b.length := by rw [hb.1]; omega
  have e : b[k.toNat]? = some b[k.toNat] := by simp [hl]
  obtain ⟨t, ht⟩ := hu.get _ _ e
  have hm := hb.2 _ (List.getElem_mem hl)
  exact ⟨b[k.toNat], t, by simp [List.getD_eq_getElem?_getD, e], ht, by omega⟩
theorem key_at {ys : List Value} {K : Int → Nat} (h : CarriedAll ys ((rangeKs 0 5).map fun k => PyData.str ⟨#[K k]⟩)) {k : Int} (h0 : 0 ≤ k) (h1 : k < 0 + 5) : ∃ t, ys[k.toNat]? = some (.str ⟨#[K k]⟩ t) :=
  carried_at (g := fun k => ⟨#[K k]⟩) h k.toNat k (by
    unfold rangeKs
    rw [List.getElem?_map, List.getElem?_range (by omega)]
    simp; omega)
theorem sent0 (c : Nat) : sent c 0 = c := rfl
theorem sent1 (c : Nat) : sent c 1 = c % 32 := rfl
theorem sent2 (c : Nat) : sent c 2 = c % 128 + 128 := rfl
end Mine
namespace Mine
theorem news_swap {h₀ h : Heap} {L : Addr} {p : Addr × Obj} {bl news : List (Addr × Obj)} (N : News h₀ L h (p :: (bl ++ news))) : News h₀ L h (p :: (news ++ bl)) := fun q hq => N q (by
  rcases List.mem_cons.mp hq with rfl | hq
  · exact .head _
  · refine .tail _ (List.mem_append.mpr ?_)
    rcases List.mem_append.mp hq with hq | hq
    · exact .inr hq
    · exact .inl hq)
end Mine
namespace Mine
theorem tl_inj {a b : Str} (h : tl a = tl b) : a = b := Str.ext' (Array.ext' h)
theorem textS_eq {z : Str} {K : Int → Nat} {b : List Int} (h : tl z = (rangeKs 0 5).flatMap fun k => tl ⟨#[sent (K k) (b.getD k.toNat 0)]⟩) : z = textS K b := tl_inj (by rw [h, flat_map1]; rfl)
theorem tl_textS (K : Int → Nat) (b : List Int) : tl (textS K b) = textL K b := rfl
theorem textL_len (K : Int → Nat) (b : List Int) : (textL K b).length = 5 := by simp [textL, rangeKs_length]
theorem textS_len (K : Int → Nat) (b : List Int) : (textS K b).length = 5 := by rw [← tl_len, tl_textS, textL_len]
theorem textL_mem {K : Int → Nat} {b : List Int} (hK : KeyOk K) (hb : BoardOk b) {c : Nat} (hc : c ∈ textL K b) : c ≤ 28 ∨ (64 ≤ c ∧ c ≤ 92) ∨ (192 ≤ c ∧ c ≤ 220) := by
  obtain ⟨k, hk, rfl⟩ := List.mem_map.mp hc
  have h1 := hK.1 k
  unfold sent
  split
  · omega
  · split <;> omega
def uncS (c : Nat) : Str := if c < 32 then Str.ofString "^" ++ ⟨#[c % 128 + 32 + 32]⟩ else if c < 128 then ⟨#[c % 128]⟩ else Str.ofString "!" ++ ⟨#[c % 128]⟩
theorem uncS_lo {c : Nat} (h : c ≤ 28) : uncS c = Str.ofString "^" ++ ⟨#[c % 128 + 32 + 32]⟩ := if_pos (by omega)
theorem uncS_mid {c : Nat} (h : 64 ≤ c ∧ c ≤ 92) : uncS c = ⟨#[c % 128]⟩ := by unfold uncS; rw [if_neg (by omega), if_pos (by omega)]
theorem uncS_hi {c : Nat} (h : 192 ≤ c ∧ c ≤ 220) : uncS c = Str.ofString "!" ++ ⟨#[c % 128]⟩ := by unfold uncS; rw [if_neg (by omega), if_neg (by omega)]
theorem tl_bang1 (n : Nat) : tl (Str.ofString "!" ++ ⟨#[n]⟩) = [33, n] := by rw [tl_bang]
theorem tl_uncS (c : Nat) : tl (uncS c) = if c < 32 then [94, c % 128 + 32 + 32] else if c < 128 then [c % 128] else [33, c % 128] := by
  unfold uncS
  split
  · rw [tl_hat]
  · split
    · rfl
    · rw [tl_bang1]
theorem uncS_len (c : Nat) : (uncS c).length ≤ 3 := by
  rw [← tl_len, tl_uncS]
  split
  · exact Nat.le_succ 2
  · split <;> simp
def pictL (K : Int → Nat) (b : List Int) : List Nat := (textL K b).flatMap fun c => tl (uncS c)
def pictS (K : Int → Nat) (b : List Int) : Str := ⟨(pictL K b).toArray⟩
theorem pictS_eq {z : Str} {K : Int → Nat} {b : List Int} (h : tl z = (tl (textS K b)).flatMap fun c => tl (uncS c)) : z = pictS K b := tl_inj (by rw [h]; rfl)
theorem tl_pictS (K : Int → Nat) (b : List Int) : tl (pictS K b) = pictL K b := rfl
theorem pictS_len (K : Int → Nat) (b : List Int) : (pictS K b).length ≤ 15 := by
  rw [← tl_len, tl_pictS]
  have key : ∀ l : List Nat, (l.flatMap fun c => tl (uncS c)).length ≤ 3 * l.length := by
    intro l
    induction l with
    | nil => simp
    | cons c l ih => rw [List.flatMap_cons, List.length_append, tl_len, List.length_cons]; have := uncS_len c; omega
  have := key (textL K b)
  rw [textL_len] at this
  exact this
end Mine
end
section
set_option maxRecDepth 100000
open PySem PySem.W PySem.Calls PyProof PyProof.Rows PyProof.V PySem.Spec
namespace Mine
section
variable {prog : Program} {w : World} {A : Around} {E : Value → Shared → Prop} {s : Shared} {env : Env} {h₀ : Heap} {x : Str} {body : List Stmt} {Q : Flow → Shared → Prop}
/-- the end of a turn that stores two cells and some names -/
def TwoCells (h₀ : Heap) (L : Addr) (x : Str) (stored : List Str) (m₀ : Str → Option Value) (cH cT : Addr) (R : List (Addr × Obj)) (s₁ s₂ : Shared) : Prop :=
  ∃ h' tk m' oH oT vH vT, s₂ = { s₁ with heap := h', toks := tk } ∧ Fr h₀ L h' m' ∧ News h₀ L h' ((cH, oH) :: (cT, oT) :: R) ∧ oH.data = .cell vH ∧ oT.data = .cell vT ∧ ∀ z, z ≠ x → stored.contains z = false → m' z = m₀ z
def TwoPost (h₀ : Heap) (L : Addr) (x : Str) (stored : List Str) (m₀ : Str → Option Value) (cH cT : Addr) (R : List (Addr × Obj)) (s₁ : Shared) (Q : Flow → Shared → Prop) (f : Flow) (s₂ : Shared) : Prop :=
  match f with
  | .ret v => Q (.ret v) s₂
  | .brk => Q .next s₂
  | _ => TwoCells h₀ L x stored m₀ cH cT R s₁ s₂
theorem loop_cells {r : Addr} {a₀ b₀ : Int} {t₀ u₀ v₀ : Tok} {n : Nat} {m₀ : Str → Option Value} {cH cT : Addr} {oH oT : Obj} {wH wT : Option Value} {R : List (Addr × Obj)} (stored : List Str)
    (hh : A.handled = none) (hr : IsRange s.heap r a₀ b₀ 1 t₀ u₀ v₀) (hsmall : Builtin.Range.small a₀ b₀ 1 = true) (hn : Builtin.Range.rangeSize a₀ b₀ 1 = (n : Int)) (F : Fr h₀ env.locals s.heap m₀)
    (N : News h₀ env.locals s.heap ((cH, oH) :: (cT, oT) :: R)) (hoH : oH.data = .cell wH) (hoT : oT.data = .cell wT) (hR : ∀ p ∈ R, p.1 ≠ cH ∧ p.1 ≠ cT)
    (turn : ∀ k t (u : Str → Option Value) h tk R' oH oT vH vT, a₀ ≤ k → k < a₀ + (n : Int) → (∀ p ∈ R, p ∈ R') → (∀ p ∈ R', p.1 ≠ cH ∧ p.1 ≠ cT) → oH.data = .cell vH → oT.data = .cell vT →
      Fr h₀ env.locals h (fun y => if y = x then some (.int k t) else if stored.contains y then u y else m₀ y) → News h₀ env.locals h ((cH, oH) :: (cT, oT) :: R') →
      wpAny (model prog w) A (execs body env) (TwoPost h₀ env.locals x stored m₀ cH cT R' { s with heap := h, toks := tk } Q) E { s with heap := h, toks := tk })
    (done : ∀ (u : Str → Option Value) h tk oH oT, Fr h₀ env.locals h (fun y => if y = x then u y else if stored.contains y then u y else m₀ y) → News h₀ env.locals h ((cH, oH) :: (cT, oT) :: R) → Q .next { s with heap := h, toks := tk }) :
    wpAny (model prog w) A (pyIter (.ref r)) (fun it s₂ => LoopAtV prog w A h₀ env x body Q E it s₂) E s := by
  refine iter_rangeS (σ := Unit) (news := (cH, oH) :: (cT, oT) :: R) (fun _ m nx => (∃ oH oT vH vT, nx = (cH, oH) :: (cT, oT) :: R ∧ oH.data = .cell vH ∧ oT.data = .cell vT) ∧ ∀ z, z ≠ x → stored.contains z = false → m z = m₀ z) (fun _ _ => ()) () hh hr hsmall hn F N ⟨⟨oH, oT, wH, wT, rfl, hoH, hoT⟩, fun _ _ _ => rfl⟩ ?_ ?_
  · rintro k t _ m₁ nx h tk own hk hoff ⟨⟨oH', oT', vH, vT, rfl, hH, hT⟩, hm⟩ F₁ N₁
    have hk' := mem_rangeKs hk
    have e : (fun y => if y = x then some (Value.int k t) else m₁ y) = fun y => if y = x then some (Value.int k t) else if stored.contains y then m₁ y else m₀ y := by
      funext y
      by_cases h1 : y = x
      · simp [h1]
      · simp only [if_neg h1]
        cases h2 : stored.contains y with
        | true => simp
        | false => simp only [Bool.false_eq_true, if_false]; exact hm y h1 h2
    rw [e] at F₁
    have hoffR : ∀ p ∈ R ++ own, p.1 ≠ cH ∧ p.1 ≠ cT := by
      intro p hp
      rcases List.mem_append.mp hp with hp | hp
      · exact hR p hp
      · exact ⟨hoff p hp cH (by simp), hoff p hp cT (by simp)⟩
    refine wpAny_mono (turn k t m₁ h tk (R ++ own) oH' oT' vH vT hk'.1 hk'.2 (fun p hp => List.mem_append_left _ hp) hoffR hH hT F₁ N₁) (fun f s₂ p => ?_) fun _ _ e => e
    have fin : TwoCells h₀ env.locals x stored m₀ cH cT (R ++ own) { s with heap := h, toks := tk } s₂ → InvEndN h₀ env.locals (fun m' nx => (∃ oH oT vH vT, nx = (cH, oH) :: (cT, oT) :: R ∧ oH.data = .cell vH ∧ oT.data = .cell vT) ∧ ∀ z, z ≠ x → stored.contains z = false → m' z = m₀ z) own (((cH, oH) :: (cT, oT) :: R).map (·.1)) { s with heap := h, toks := tk } s₂ := by
      rintro ⟨h', tk', m', oH₂, oT₂, vH₂, vT₂, rfl, F₂, N₂, e1, e2, hm'⟩
      refine ⟨h', tk', m', _, (cH, oH₂) :: (cT, oT₂) :: R, rfl, F₂, N₂, fun p hp => ?_, fun p hp => ?_, rfl, ⟨oH₂, oT₂, vH₂, vT₂, rfl, e1, e2⟩, hm'⟩
      · rcases List.mem_cons.mp hp with rfl | hp
        · exact .head _
        rcases List.mem_cons.mp hp with rfl | hp
        · exact .tail _ (.head _)
        · exact .tail _ (.tail _ (List.mem_append_left _ hp))
      · exact .tail _ (.tail _ (List.mem_append_right _ hp))
    cases f with
    | ret v => exact p
    | brk => exact p
    | next => exact fin p
    | cont => exact fin p
  · rintro m₁ nx h tk ⟨⟨oH', oT', vH, vT, rfl, hH, hT⟩, hm⟩ F₁ N₁
    refine done m₁ h tk oH' oT' ?_ N₁
    have e : (fun y => if y = x then m₁ y else if stored.contains y then m₁ y else m₀ y) = m₁ := by
      funext y
      by_cases h1 : y = x
      · simp [h1]
      · simp only [if_neg h1]
        cases h2 : stored.contains y with
        | true => simp
        | false => simp only [Bool.false_eq_true, if_false]; exact (hm y h1 h2).symm
    rw [e]; exact F₁
end
theorem no_cell {h₀ h : Heap} {L c : Addr} {news : List (Addr × Obj)} {o : Obj} {v : Option Value} (N : News h₀ L h news) (hm : (c, o) ∈ news) (hd : o.data = .cell v) {p : Addr × Obj} (hp : p ∈ news) {us : List Value} (hl : p.2 = LCg.lst us) : p.1 ≠ c := by
  intro e
  have h1 := (N p hp).1
  rw [e, (N _ hm).1, hl] at h1
  have h2 : o = LCg.lst us := Option.some.inj h1
  rw [h2] at hd
  cases hd
theorem loop_cells' {prog : Program} {w : World} {A : Around} {E : Value → Shared → Prop} {s : Shared} {env : Env} {h₀ : Heap} {x : Str} {body : List Stmt} {Q : Flow → Shared → Prop} {r : Addr} {a₀ b₀ : Int} {t₀ u₀ v₀ : Tok} {n : Nat} {m₀ : Str → Option Value} {cH cT : Addr} {oH oT : Obj} {wH wT : Option Value} {R big : List (Addr × Obj)} (nH nT : Str) (stored : List Str)
    (hh : A.handled = none) (hr : IsRange s.heap r a₀ b₀ 1 t₀ u₀ v₀) (hsmall : Builtin.Range.small a₀ b₀ 1 = true) (hn : Builtin.Range.rangeSize a₀ b₀ 1 = (n : Int)) (F : Fr h₀ env.locals s.heap m₀)
    (N : News h₀ env.locals s.heap big) (hcH : env.cells.lookup nH = some cH) (hcT : env.cells.lookup nT = some cT) (hmH : (cH, oH) ∈ big) (hmT : (cT, oT) ∈ big) (hoH : oH.data = .cell wH) (hoT : oT.data = .cell wT) (hRb : ∀ p ∈ R, p ∈ big) (hRl : ∀ p ∈ R, ∃ us, p.2 = LCg.lst us)
    (turn : ∀ k t (u : Str → Option Value) h tk R' oH oT vH vT, a₀ ≤ k → k < a₀ + (n : Int) → (∀ p ∈ R, p ∈ R') → (∀ p ∈ R', p.1 ≠ cH ∧ p.1 ≠ cT) → oH.data = .cell vH → oT.data = .cell vT →
      Fr h₀ env.locals h (fun y => if y = x then some (.int k t) else if stored.contains y then u y else m₀ y) → News h₀ env.locals h ((cH, oH) :: (cT, oT) :: R') →
      wpAny (model prog w) A (execs body env) (TwoPost h₀ env.locals x stored m₀ cH cT R' { s with heap := h, toks := tk } Q) E { s with heap := h, toks := tk })
    (done : ∀ (u : Str → Option Value) h tk oH oT, Fr h₀ env.locals h (fun y => if y = x then u y else if stored.contains y then u y else m₀ y) → News h₀ env.locals h ((cH, oH) :: (cT, oT) :: R) → Q .next { s with heap := h, toks := tk }) :
    wpAny (model prog w) A (pyIter (.ref r)) (fun it s₂ => LoopAtV prog w A h₀ env x body Q E it s₂) E s :=
  loop_cells stored hh hr hsmall hn F (fun p hp => N p (by
    rcases List.mem_cons.mp hp with rfl | hp
    · exact hmH
    rcases List.mem_cons.mp hp with rfl | hp
    · exact hmT
    · exact hRb p hp)) hoH hoT (fun p hp => by
    obtain ⟨us, hl⟩ := hRl p hp
    exact ⟨no_cell N hmH hoH (hRb p hp) hl, no_cell N hmT hoT (hRb p hp) hl⟩) turn done
theorem r_lenB {prog : Program} {w : World} {A : Around} {E : Value → Shared → Prop} {s : Shared} {Q : Value → Shared → Prop} {D : Addr} {ys : List Value} {n : Nat} (hl : s.heap.IsList D ys.toArray) (hn : ys.length = n) (hb : n ≤ 1000)
    (h : Q (.int (n : Int) (s.toks + 1)) { s with toks := s.toks + 1 + 1 }) : wpAny (model prog w) A (call (.builtin "len") [.ref D]) Q E s :=
  len_list hl (by simp; omega) (by simpa [hn] using h)
theorem lines_at {bs : List (List Int)} {ys : List Value} {bl : List (Addr × Obj)} (h : LinesAre bs ys bl) {k : Int} (h0 : 0 ≤ k) (h1 : k < bs.length) : ∃ a us b, ys[k.toNat]? = some (.ref a) ∧ bs[k.toNat]? = some b ∧ IntsAre us b ∧ (a, LCg.lst us) ∈ bl := by
  have hl : k.toNat < ys.length := by rw [h.1]; omega
  have e : ys[k.toNat]? = some ys[k.toNat] := by simp [hl]
  obtain ⟨a, us, b, hy, hb, hu, hm⟩ := h.2.1 _ _ e
  exact ⟨a, us, b, by rw [e, hy], hb, hu, hm⟩
/-- how many places are unlike -/
def unl (b b' : List Int) : Nat := ((rangeKs 0 5).filter fun k => decide (b.getD k.toNat 0 ≠ b'.getD k.toNat 0)).length
def unlG (b b' : List Int) (l : List Int) (k : Int) : List Int := if b.getD k.toNat 0 = b'.getD k.toNat 0 then l else l ++ [k]
theorem unlG_fold (b b' : List Int) : ∀ (ks l : List Int), (ks.foldl (unlG b b') l) = l ++ ks.filter fun k => decide (b.getD k.toNat 0 ≠ b'.getD k.toNat 0)
  | [], l => by simp
  | k :: ks, l => by
    rw [List.foldl_cons, unlG_fold b b' ks]
    unfold unlG
    by_cases h : b.getD k.toNat 0 = b'.getD k.toNat 0
    · rw [if_pos h, List.filter_cons_of_neg (by simpa using h)]
    · rw [if_neg h, List.filter_cons_of_pos (by simpa using h)]
      simp
theorem unl_len {b b' : List Int} {ys : List Value} (h : IntsAre ys ((rangeKs 0 5).foldl (unlG b b') [])) : ys.length = unl b b' ∧ unl b b' ≤ 5 := by
  rw [unlG_fold] at h
  refine ⟨h.length, ?_⟩
  have := List.length_filter_le (fun k => decide (b.getD k.toNat 0 ≠ b'.getD k.toNat 0)) (rangeKs 0 5)
  rw [rangeKs_length] at this
  exact this
end Mine
namespace Mine
theorem turn_ledger {h₀ h : Heap} {L cH cT : Addr} {oH oT : Obj} {R' bl : List (Addr × Obj)} {P S B p1 p2 : Addr × Obj} (N : News h₀ L h ((cH, oH) :: (cT, oT) :: R')) (hne : @Ne Nat cT cH) (hRR : ∀ p ∈ P :: S :: B :: bl, p ∈ R') (hoff : ∀ p ∈ R', p.1 ≠ cH ∧ p.1 ≠ cT) (hm1 : p1 ∈ bl) (hm2 : p2 ∈ bl) :
    News h₀ L h ((cH, oH) :: (cT, oT) :: P :: S :: B :: p1 :: p2 :: R') ∧ (∀ p ∈ P :: S :: B :: p1 :: p2 :: R', p.1 ≠ cT) ∧ (∀ p ∈ (cT, oT) :: P :: S :: B :: p1 :: p2 :: R', p.1 ≠ cH) := by
  have hsub : ∀ p ∈ P :: S :: B :: p1 :: p2 :: R', p ∈ R' := by
    intro p hp
    simp only [List.mem_cons] at hp
    rcases hp with rfl | rfl | rfl | rfl | rfl | hp
    · exact hRR _ (.head _)
    · exact hRR _ (.tail _ (.head _))
    · exact hRR _ (.tail _ (.tail _ (.head _)))
    · exact hRR _ (.tail _ (.tail _ (.tail _ hm1)))
    · exact hRR _ (.tail _ (.tail _ (.tail _ hm2)))
    · exact hp
  refine ⟨fun p hp => N p ?_, fun p hp => (hoff p (hsub p hp)).2, fun p hp => ?_⟩
  · rcases List.mem_cons.mp hp with rfl | hp
    · exact .head _
    rcases List.mem_cons.mp hp with rfl | hp
    · exact .tail _ (.head _)
    · exact .tail _ (.tail _ (hsub p hp))
  · rcases List.mem_cons.mp hp with rfl | hp
    · exact hne
    · exact (hoff p (hsub p hp)).1
theorem unlG_grows (b b' : List Int) : KPfGrows (unlG b b') := by
  intro l k
  unfold unlG
  split <;> simp
end Mine
namespace Mine
def hel (b : List Int) : Nat := (b.filter fun v => decide (v ≠ 0)).length
def helG (l : List Int) (v : Int) : List Int := if v = 0 then l else l ++ [v]
theorem helG_fold : ∀ (ks l : List Int), ks.foldl helG l = l ++ ks.filter fun v => decide (v ≠ 0)
  | [], l => by simp
  | k :: ks, l => by
    rw [List.foldl_cons, helG_fold ks]
    unfold helG
    by_cases h : k = 0
    · rw [if_pos h, List.filter_cons_of_neg (by simpa using h)]
    · rw [if_neg h, List.filter_cons_of_pos (by simpa using h)]
      simp
theorem helG_grows : KPfGrows helG := by
  intro l k
  unfold helG
  split <;> simp
theorem hel_len {b b' : List Int} {ys : List Value} (hb : BoardOk b) (hb' : BoardOk b') (h : IntsAre ys ((b ++ b').foldl helG [])) : ys.length = hel b + hel b' ∧ hel b + hel b' ≤ 10 := by
  rw [helG_fold] at h
  have e := h.length
  rw [List.nil_append, List.filter_append, List.length_append] at e
  have h1 := List.length_filter_le (fun v => decide (v ≠ 0)) b
  have h2 := List.length_filter_le (fun v => decide (v ≠ 0)) b'
  have := hb.1
  have := hb'.1
  exact ⟨e, by show (List.filter _ b).length + (List.filter _ b').length ≤ 10; omega⟩
end Mine
namespace Mine
theorem parity_pick {k : Int} {ysS ysP : List Value} {K : Int → Nat} {b1 b2 : List Int} {s1 s2 p1 p2 : Tok} (hs1 : ysS[(k - 1).toNat]? = some (.str (textS K b1) s1)) (hs2 : ysS[k.toNat]? = some (.str (textS K b2) s2)) (hp1 : ysP[(k - 1).toNat]? = some (.str (pictS K b1) p1)) (hp2 : ysP[k.toNat]? = some (.str (pictS K b2) p2)) :
    ∃ bt bp tt tp, ysS[(k - Int.fmod k 2).toNat]? = some (.str (textS K bt) tt) ∧ ysP[(k - 1 + Int.fmod k 2).toNat]? = some (.str (pictS K bp) tp) ∧ ((bt = b2 ∧ bp = b1) ∨ (bt = b1 ∧ bp = b2)) := by
  have h0 := fmod_lo k (n := 2) (by decide)
  have h1 := fmod_hi k (n := 2) (by decide)
  have hc : Int.fmod k 2 = 0 ∨ Int.fmod k 2 = 1 := by omega
  rcases hc with h | h
  · rw [h]
    exact ⟨b2, b1, s2, p1, by rw [Int.sub_zero]; exact hs2, by rw [Int.add_zero]; exact hp1, .inl ⟨rfl, rfl⟩⟩
  · rw [h]
    exact ⟨b1, b2, s1, p2, hs1, by rw [Int.sub_add_cancel]; exact hp2, .inr ⟨rfl, rfl⟩⟩
/-- all that the law asks of two boards (proved in P2) -/
structure Asks2 (K : Int → Nat) (b b' : List Int) : Prop where
  texts : IsMin (tl (textS K b)) (tl (textS K b')) (2 * unl b b')
  picts : IsMin (tl (pictS K b)) (tl (pictS K b')) (2 * unl b b')
  cross : IsMin (tl (textS K b)) (tl (pictS K b')) (2 * (hel b + hel b'))
  back : IsMin (tl (textS K b')) (tl (pictS K b)) (2 * (hel b + hel b'))
theorem Asks2.pick {K : Int → Nat} {b b' bt bp : List Int} (h : Asks2 K b b') (e : (bt = b' ∧ bp = b) ∨ (bt = b ∧ bp = b')) : IsMin (tl (textS K bt)) (tl (pictS K bp)) (2 * (hel b + hel b')) := by
  rcases e with ⟨rfl, rfl⟩ | ⟨rfl, rfl⟩
  · exact h.back
  · exact h.cross
end Mine
namespace Mine
theorem stored_off {z a b : Str} (hs : [a, b].contains z = false) : z ≠ a ∧ z ≠ b := by
  constructor
  · rintro rfl; simp at hs
  · rintro rfl; simp at hs
end Mine
namespace Mine
theorem two_next {h₀ h' : Heap} {L : Addr} {x : Str} {stored : List Str} {m₀ m' : Str → Option Value} {cH cT : Addr} {oH oT : Obj} {vH vT : Option Value} {R big : List (Addr × Obj)} {s₁ : Shared} {Q : Flow → Shared → Prop} {tk : Nat} (F : Fr h₀ L h' m') (N : News h₀ L h' big) (hcH : (cH, oH) ∈ big) (hcT : (cT, oT) ∈ big)
    (h1 : oH.data = .cell vH) (h2 : oT.data = .cell vT) (hR : ∀ p ∈ R, p ∈ big) (hm : ∀ z, z ≠ x → stored.contains z = false → m' z = m₀ z) : TwoPost h₀ L x stored m₀ cH cT R s₁ Q .next { s₁ with heap := h', toks := tk } := by
  refine ⟨h', tk, m', oH, oT, vH, vT, rfl, F, fun p hp => N p ?_, h1, h2, hm⟩
  rcases List.mem_cons.mp hp with rfl | hp
  · exact hcH
  rcases List.mem_cons.mp hp with rfl | hp
  · exact hcT
  · exact hR p hp
end Mine
end
section
open PySem PyProof
namespace Mine
def lowN (x : Nat) : Nat := if (65 ≤ x ∧ x ≤ 90) ∨ (192 ≤ x ∧ x ≤ 222 ∧ x ≠ 215) then x + 32 else x
theorem lower_low : ∀ x : Nat, x < 256 → Txt.lower ⟨#[x]⟩ = ⟨#[lowN x]⟩ := by decide +kernel
theorem subC_low {x y : Nat} (hx : x < 256) (hy : y < 256) : subC x y = if x = y then 0 else if lowN x = lowN y then 1 else 2 := by
  unfold subC
  rw [lower_low x hx, lower_low y hy]
  have e : ((⟨#[lowN x]⟩ : Str) = ⟨#[lowN y]⟩) = (lowN x = lowN y) := by
    apply propext
    constructor
    · intro h
      generalize lowN x = u at h ⊢
      generalize lowN y = v at h ⊢
      cases h; rfl
    · intro h; rw [h]
  simp only [e]
/-- each sign of a costs at least f -/
theorem Al.lb {a b : List Nat} {c : Nat} (h : Al a b c) (f : Nat → Nat) (h4 : ∀ x, f x ≤ 4) (hs : ∀ x ∈ a, ∀ y ∈ b, f x ≤ subC x y) : (a.map f).sum + 2 * b.length ≤ c + 2 * a.length := by
  induction h with
  | nil => simp
  | @del a b c x _ ih =>
    have := ih (fun x hx y hy => hs x (.tail _ hx) y hy)
    have := h4 x
    simp only [List.map_cons, List.sum_cons, List.length_cons]; omega
  | @ins a b c y _ ih =>
    have := ih (fun x hx y hy => hs x hx y (.tail _ hy))
    simp only [List.length_cons]; omega
  | @sub a b c x y _ ih =>
    have := ih (fun x hx y hy => hs x (.tail _ hx) y (.tail _ hy))
    have := hs x (.head _) y (.head _)
    simp only [List.map_cons, List.sum_cons, List.length_cons]; omega
end Mine
end
section
open PySem PyProof PySem.W PyProof.Rows
namespace Mine
/-- the signs of this law: no two of them differ by case alone -/
def Sg (x : Nat) : Prop := x ≤ 28 ∨ (64 ≤ x ∧ x ≤ 92) ∨ (192 ≤ x ∧ x ≤ 220) ∨ x = 94 ∨ x = 33
theorem subC_sg {x y : Nat} (hx : Sg x) (hy : Sg y) : subC x y = if x = y then 0 else 2 := by
  unfold Sg at hx hy
  rw [subC_low (by omega) (by omega)]
  by_cases h : x = y
  · rw [if_pos h, if_pos h]
  · rw [if_neg h, if_neg h, if_neg]
    unfold lowN
    repeat' split
    all_goals omega
theorem Al.flat {α : Type} (L : List α) (F G : α → List Nat) (g : α → Nat) (h : ∀ t ∈ L, Al (F t) (G t) (g t)) : Al (L.flatMap F) (L.flatMap G) ((L.map g).sum) := by
  induction L with
  | nil => exact .nil
  | cons t L ih =>
    rw [List.flatMap_cons, List.flatMap_cons, List.map_cons, List.sum_cons]
    exact (h t (.head _)).append (ih fun t ht => h t (.tail _ ht))
theorem sum_if {α : Type} (L : List α) (p : α → Prop) [DecidablePred p] : (L.map fun t => if p t then 2 else 0).sum = 2 * (L.filter fun t => decide (p t)).length := by
  induction L with
  | nil => rfl
  | cons t L ih =>
    rw [List.map_cons, List.sum_cons, ih]
    by_cases h : p t
    · rw [if_pos h, List.filter_cons_of_pos (by simpa using h), List.length_cons]; omega
    · rw [if_neg h, List.filter_cons_of_neg (by simpa using h)]; omega
theorem sum_le {α : Type} (L : List α) (f g : α → Nat) (h : ∀ t ∈ L, f t ≤ g t) : (L.map f).sum ≤ (L.map g).sum := by
  induction L with
  | nil => exact Nat.le_refl _
  | cons t L ih =>
    rw [List.map_cons, List.map_cons, List.sum_cons, List.sum_cons]
    have := h t (.head _)
    have := ih fun t ht => h t (.tail _ ht)
    omega
theorem sum_plus {α : Type} (L : List α) (f g : α → Nat) : (L.map fun t => f t + g t).sum = (L.map f).sum + (L.map g).sum := by
  induction L with
  | nil => rfl
  | cons t L ih => simp only [List.map_cons, List.sum_cons, ih]; omega
theorem map_flat' {α : Type} (L : List α) (f : α → Nat) : L.map f = L.flatMap fun t => [f t] := by
  induction L with
  | nil => rfl
  | cons t L ih => rw [List.map_cons, List.flatMap_cons, ih]; rfl

section
variable (n : Nat) (K m m' : Nat → Nat)
def blkm (c k : Nat) : List Nat := if k = 0 then [c] else [k, c]
def sufL (i : Nat) : List Nat := (List.range' i (n - i)).flatMap fun i => blkm (K i) (m i)
def unlF (i : Nat) : Nat := ((List.range' i (n - i)).filter fun i => decide (m i ≠ m' i)).length
theorem sufL_lt {i : Nat} (h : i < n) : sufL n K m i = blkm (K i) (m i) ++ sufL n K m (i + 1) := by
  unfold sufL
  have e : n - i = (n - (i + 1)) + 1 := by omega
  rw [e, List.range'_succ, List.flatMap_cons]
theorem sufL_ge {i : Nat} (h : n ≤ i) : sufL n K m i = [] := by
  unfold sufL
  rw [show n - i = 0 by omega]; rfl
theorem unlF_lt {i : Nat} (h : i < n) : unlF n m m' i = (if m i = m' i then 0 else 1) + unlF n m m' (i + 1) := by
  unfold unlF
  have e : n - i = (n - (i + 1)) + 1 := by omega
  rw [e, List.range'_succ]
  by_cases q : m i = m' i
  · rw [if_pos q, List.filter_cons_of_neg (by simpa using q)]; omega
  · rw [if_neg q, List.filter_cons_of_pos (by simpa using q), List.length_cons]; omega
theorem unlF_ge {i : Nat} (h : n ≤ i) : unlF n m m' i = 0 := by
  unfold unlF
  rw [show n - i = 0 by omega]; rfl
/-- what is left of a picture: from key i on, its mark taken or not -/
def lefts (i : Nat) (f : Bool) : List Nat := if f = true then K i :: sufL n K m (i + 1) else sufL n K m i
def hdM (i : Nat) (f : Bool) : Nat := if f = true then 0 else if i < n then m i else 0
def pot (i j : Nat) (f g : Bool) : Nat := if i = j then unlF n m m' (i + 1) + (if hdM n m i f = hdM n m' j g then 0 else 1) else unlF n m m' (max i j) + (max i j - min i j) - 1
variable {n K m m'}
theorem lefts_cons {i x : Nat} {f : Bool} {a : List Nat} (hi : i ≤ n) (hf : f = true → i < n) (h : lefts n K m i f = x :: a) :
    i < n ∧ ((x = K i ∧ a = lefts n K m (i + 1) false ∧ hdM n m i f = 0) ∨ (f = false ∧ m i ≠ 0 ∧ x = m i ∧ a = lefts n K m i true ∧ hdM n m i f = m i)) := by
  cases f with
  | true =>
    unfold lefts at h
    rw [if_pos rfl, List.cons.injEq] at h
    exact ⟨hf rfl, .inl ⟨h.1.symm, h.2.symm, rfl⟩⟩
  | false =>
    unfold lefts at h
    rw [if_neg (by decide)] at h
    by_cases q : i < n
    · rw [sufL_lt n K m q] at h
      unfold blkm at h
      by_cases z : m i = 0
      · rw [if_pos z, List.singleton_append, List.cons.injEq] at h
        exact ⟨q, .inl ⟨h.1.symm, h.2.symm, by unfold hdM; rw [if_neg (by decide), if_pos q, z]⟩⟩
      · rw [if_neg z] at h
        simp only [List.cons_append, List.nil_append, List.cons.injEq] at h
        exact ⟨q, .inr ⟨rfl, z, h.1.symm, h.2.symm, by unfold hdM; rw [if_neg (by decide), if_pos q]⟩⟩
    · rw [sufL_ge n K m (by omega)] at h
      cases h
theorem lefts_nil {i : Nat} {f : Bool} (hi : i ≤ n) (h : lefts n K m i f = []) : i = n ∧ f = false := by
  cases f with
  | true => unfold lefts at h; rw [if_pos rfl] at h; cases h
  | false =>
    refine ⟨?_, rfl⟩
    unfold lefts at h
    rw [if_neg (by decide)] at h
    rcases Nat.lt_or_ge i n with q | q
    · rw [sufL_lt n K m q] at h
      unfold blkm at h
      split at h <;> cases h
    · omega
theorem unlF_step (i : Nat) : unlF n m m' (i + 1) ≤ unlF n m m' i ∧ unlF n m m' i ≤ unlF n m m' (i + 1) + 1 := by
  rcases Nat.lt_or_ge i n with q | q
  · rw [unlF_lt n m m' q]; split <;> omega
  · rw [unlF_ge n m m' q, unlF_ge n m m' (by omega)]; omega
theorem pot_diag (i : Nat) : pot n m m' i i false false = unlF n m m' i := by
  unfold pot hdM
  simp only [if_true, Bool.false_eq_true, if_false]
  rcases Nat.lt_or_ge i n with q | q
  · rw [unlF_lt n m m' q]
    simp only [q, if_true]
    omega
  · rw [unlF_ge n m m' q, unlF_ge n m m' (by omega)]
    simp only [show ¬ i < n by omega, if_false, if_true]
theorem pot_same {i : Nat} {f g : Bool} (h : hdM n m i f = hdM n m' i g) : pot n m m' i i f g = unlF n m m' (i + 1) := by
  unfold pot; rw [if_pos rfl, if_pos h]; omega
theorem pot_le {i : Nat} {f g : Bool} : pot n m m' i i f g ≤ unlF n m m' (i + 1) + 1 := by
  unfold pot; rw [if_pos rfl]; split <;> omega
theorem pot_ge {i : Nat} {f g : Bool} : unlF n m m' (i + 1) ≤ pot n m m' i i f g := by
  unfold pot; rw [if_pos rfl]; split <;> omega
theorem pot_off {i j : Nat} {f g : Bool} (h : i ≠ j) : pot n m m' i j f g = unlF n m m' (max i j) + (max i j - min i j) - 1 := by
  unfold pot; rw [if_neg h]
/-- a key is taken on the one side -/
theorem pot_keyL {i j : Nat} {f g : Bool} (_hi : i < n) (h0 : hdM n m i f = 0) : pot n m m' i j f g ≤ 1 + pot n m m' (i + 1) j false g := by
  by_cases e : i = j
  · subst e
    rw [pot_off (i := i + 1) (by omega)]
    have := pot_le (n := n) (m := m) (m' := m') (i := i) (f := f) (g := g)
    rw [show max (i + 1) i = i + 1 by omega, show min (i + 1) i = i by omega]
    omega
  · rw [pot_off e]
    by_cases e' : i + 1 = j
    · subst e'
      have := pot_ge (n := n) (m := m) (m' := m') (i := i + 1) (f := false) (g := g)
      have := unlF_step (n := n) (m := m) (m' := m') (i + 1)
      rw [show max i (i + 1) = i + 1 by omega, show min i (i + 1) = i by omega]
      omega
    · rw [pot_off e']
      rcases Nat.lt_or_ge i j with q | q
      · rw [show max i j = j by omega, show min i j = i by omega, show max (i + 1) j = j by omega, show min (i + 1) j = i + 1 by omega]
        omega
      · have := unlF_step (n := n) (m := m) (m' := m') i
        rw [show max i j = i by omega, show min i j = j by omega, show max (i + 1) j = i + 1 by omega, show min (i + 1) j = j by omega]
        omega
theorem pot_markL {i j : Nat} {f f' g : Bool} : pot n m m' i j f g ≤ 1 + pot n m m' i j f' g := by
  by_cases e : i = j
  · subst e
    have := pot_le (n := n) (m := m) (m' := m') (i := i) (f := f) (g := g)
    have := pot_ge (n := n) (m := m) (m' := m') (i := i) (f := f') (g := g)
    omega
  · rw [pot_off e, pot_off e]; omega
theorem unlF_comm (i : Nat) : unlF n m m' i = unlF n m' m i := by
  unfold unlF
  congr 2
  funext i
  exact decide_eq_decide.mpr ⟨Ne.symm, Ne.symm⟩
theorem pot_comm (i j : Nat) (f g : Bool) : pot n m m' i j f g = pot n m' m j i g f := by
  unfold pot
  by_cases e : i = j
  · subst e
    rw [if_pos rfl, if_pos rfl, unlF_comm]
    by_cases q : hdM n m i f = hdM n m' i g
    · rw [if_pos q, if_pos q.symm]
    · rw [if_neg q, if_neg (fun x => q x.symm)]
  · rw [if_neg e, if_neg (fun x => e x.symm), unlF_comm, Nat.max_comm, Nat.min_comm]
theorem pict_lb (hK : ∀ i j, i < n → j < n → K i = K j → i = j) (hKr : ∀ i, 64 ≤ K i ∧ K i ≤ 92) (hm : ∀ i, m i = 0 ∨ m i = 33 ∨ m i = 94) (hm' : ∀ i, m' i = 0 ∨ m' i = 33 ∨ m' i = 94) {X Y : List Nat} {c : Nat} (h : Al X Y c) :
    ∀ i j f g, i ≤ n → j ≤ n → (f = true → i < n) → (g = true → j < n) → X = lefts n K m i f → Y = lefts n K m' j g → 2 * pot n m m' i j f g ≤ c := by
  induction h with
  | nil =>
    intro i j f g hi hj _ _ eX eY
    obtain ⟨rfl, rfl⟩ := lefts_nil hi eX.symm
    obtain ⟨rfl, rfl⟩ := lefts_nil hj eY.symm
    rw [pot_diag, unlF_ge _ _ _ (Nat.le_refl _)]
    omega
  | del x _ ih =>
    intro i j f g hi hj hf hg eX eY
    obtain ⟨q, ⟨_, ea, h0⟩ | ⟨rfl, hz, _, ea, h0⟩⟩ := lefts_cons hi hf eX.symm
    · have := ih (i + 1) j false g (by omega) hj (by simp) hg ea eY
      have := pot_keyL (m' := m') (j := j) (g := g) q h0
      omega
    · have := ih i j true g (by omega) hj (fun _ => q) hg ea eY
      have := pot_markL (n := n) (m := m) (m' := m') (i := i) (j := j) (f := false) (f' := true) (g := g)
      omega
  | ins y _ ih =>
    intro i j f g hi hj hf hg eX eY
    obtain ⟨q, ⟨_, ea, h0⟩ | ⟨rfl, hz, _, ea, h0⟩⟩ := lefts_cons hj hg eY.symm
    · have := ih i (j + 1) f false hi (by omega) hf (by simp) eX ea
      have := pot_keyL (m' := m) (j := i) (g := f) q h0
      rw [pot_comm i j, pot_comm i (j + 1)] at *
      omega
    · have := ih i j f true hi hj hf (fun _ => q) eX ea
      have := pot_markL (n := n) (m := m') (m' := m) (i := j) (j := i) (f := false) (f' := true) (g := f)
      rw [pot_comm i j] at *
      omega
  | sub x y _ ih =>
    intro i j f g hi hj hf hg eX eY
    obtain ⟨q, h1⟩ := lefts_cons hi hf eX.symm
    obtain ⟨q', h2⟩ := lefts_cons hj hg eY.symm
    have r1 := hKr i
    have r2 := hKr j
    have r3 := hm i
    have r4 := hm' j
    rcases h1 with ⟨ex, ea, h0⟩ | ⟨rfl, hz, ex, ea, h0⟩ <;> rcases h2 with ⟨ey, eb, h0'⟩ | ⟨rfl, hz', ey, eb, h0'⟩
    · have := ih (i + 1) (j + 1) false false (by omega) (by omega) (by simp) (by simp) ea eb
      by_cases e : i = j
      · subst e
        rw [pot_diag] at this
        rw [pot_same (h0.trans h0'.symm)]
        omega
      · have hne : x ≠ y := by rw [ex, ey]; exact fun z => e (hK _ _ q q' z)
        rw [subC_sg (by unfold Sg; omega) (by unfold Sg; omega), if_neg hne]
        rw [pot_off (i := i + 1) (by omega)] at this
        rw [pot_off e]
        rw [show max (i + 1) (j + 1) = max i j + 1 by omega, show min (i + 1) (j + 1) = min i j + 1 by omega] at this
        have := unlF_step (n := n) (m := m) (m' := m') (max i j)
        omega
    · have := ih (i + 1) j false true (by omega) hj (by simp) (fun _ => q') ea eb
      have hne : x ≠ y := by omega
      rw [subC_sg (by unfold Sg; omega) (by unfold Sg; omega), if_neg hne]
      by_cases e : i = j
      · subst e
        rw [pot_off (i := i + 1) (by omega), show max (i + 1) i = i + 1 by omega, show min (i + 1) i = i by omega] at this
        have := pot_le (n := n) (m := m) (m' := m') (i := i) (f := f) (g := false)
        omega
      · have a1 := pot_keyL (m' := m') (j := j) (g := true) q h0
        have a2 : pot n m m' i j f false = pot n m m' i j f true := by rw [pot_off e, pot_off e]
        omega
    · have := ih i (j + 1) true false hi (by omega) (fun _ => q) (by simp) ea eb
      have hne : x ≠ y := by omega
      rw [subC_sg (by unfold Sg; omega) (by unfold Sg; omega), if_neg hne]
      by_cases e : i = j
      · subst e
        rw [pot_off (j := i + 1) (by omega), show max i (i + 1) = i + 1 by omega, show min i (i + 1) = i by omega] at this
        have := pot_le (n := n) (m := m) (m' := m') (i := i) (f := false) (g := g)
        omega
      · have a1 := pot_keyL (m' := m) (j := i) (g := true) q' h0'
        rw [pot_comm i (j + 1)] at this
        have a2 : pot n m m' i j false g = pot n m' m j i g true := by rw [pot_comm i j, pot_off (fun z => e z.symm), pot_off (fun z => e z.symm)]
        omega
    · have := ih i j true true hi hj (fun _ => q) (fun _ => q') ea eb
      by_cases hxy : x = y
      · by_cases e : i = j
        · subst e
          have a1 := pot_ge (n := n) (m := m) (m' := m') (i := i) (f := true) (g := true)
          rw [pot_same (by rw [h0, h0', ← ex, ← ey, hxy])]
          omega
        · have a2 : pot n m m' i j false false = pot n m m' i j true true := by rw [pot_off e, pot_off e]
          omega
      · rw [subC_sg (by unfold Sg; omega) (by unfold Sg; omega), if_neg hxy]
        by_cases e : i = j
        · subst e
          have a1 := pot_ge (n := n) (m := m) (m' := m') (i := i) (f := true) (g := true)
          have a3 := pot_le (n := n) (m := m) (m' := m') (i := i) (f := false) (g := false)
          omega
        · have a2 : pot n m m' i j false false = pot n m m' i j true true := by rw [pot_off e, pot_off e]
          omega
end
end Mine
end
section
open PySem PyProof PySem.W PyProof.Rows
namespace Mine
def mark (p : Int) : Nat := if p = 1 then 94 else if p = 2 then 33 else 0
def K' (K : Int → Nat) (i : Nat) : Nat := K (i : Int)
theorem dig {b : List Int} (hb : BoardOk b) (i : Nat) : b.getD i 0 = 0 ∨ b.getD i 0 = 1 ∨ b.getD i 0 = 2 := by
  rw [List.getD_eq_getElem?_getD]
  cases e : b[i]? with
  | none => exact .inl rfl
  | some v =>
    have := hb.2 v (List.mem_of_getElem? e)
    simp only [Option.getD_some]
    omega
theorem rangeKs5 : rangeKs 0 5 = (List.range 5).map fun (i : Nat) => (i : Int) := by
  unfold rangeKs
  congr 1
  funext i
  omega
theorem textL_eq (K : Int → Nat) (b : List Int) : textL K b = (List.range 5).map fun i => sent (K' K i) (b.getD i 0) := by
  unfold textL
  rw [rangeKs5, List.map_map]
  rfl
theorem unl_eq (b b' : List Int) : unl b b' = ((List.range 5).filter fun i => decide (b.getD i 0 ≠ b'.getD i 0)).length := by
  unfold unl
  rw [rangeKs5, List.filter_map, List.length_map]
  rfl
theorem board_eq {b : List Int} (hb : BoardOk b) : b = (List.range 5).map fun i => b.getD i 0 := by
  refine List.ext_getElem (by simp [hb.1]) fun i h1 h2 => ?_
  simp [List.getD_eq_getElem?_getD, List.getElem?_eq_getElem h1]
theorem hel_eq {b : List Int} (hb : BoardOk b) : hel b = ((List.range 5).filter fun i => decide (b.getD i 0 ≠ 0)).length := by
  have h := board_eq hb
  unfold hel
  conv => lhs; rw [h]
  rw [List.filter_map, List.length_map]
  rfl
theorem sent_sg {c : Nat} {p : Int} (hc : 64 ≤ c ∧ c ≤ 92) : Sg (sent c p) := by
  unfold sent Sg
  split
  · omega
  · split <;> omega
theorem sent_inj {c c' : Nat} {p p' : Int} (hc : 64 ≤ c ∧ c ≤ 92) (hc' : 64 ≤ c' ∧ c' ≤ 92) (hp : p = 0 ∨ p = 1 ∨ p = 2) (hp' : p' = 0 ∨ p' = 1 ∨ p' = 2) (h : sent c p = sent c' p') : c = c' ∧ p = p' := by
  rcases hp with rfl | rfl | rfl <;> rcases hp' with rfl | rfl | rfl <;> simp only [sent0, sent1, sent2] at h <;> omega
theorem K'_ok {K : Int → Nat} (hK : KeyOk K) : (∀ i, 64 ≤ K' K i ∧ K' K i ≤ 92) ∧ ∀ i j, i < 5 → j < 5 → K' K i = K' K j → i = j :=
  ⟨fun i => hK.1 _, fun i j hi hj h => by have := hK.2 (i : Int) (j : Int) (by omega) (by omega) (by omega) (by omega) h; omega⟩
theorem min_texts {K : Int → Nat} {b b' : List Int} (hK : KeyOk K) (hb : BoardOk b) (hb' : BoardOk b') : IsMin (textL K b) (textL K b') (2 * unl b b') := by
  obtain ⟨k1, k2⟩ := K'_ok hK
  rw [textL_eq, textL_eq, unl_eq]
  refine ⟨?_, fun c h => ?_⟩
  · rw [map_flat', map_flat', ← sum_if]
    refine Al.flat _ _ _ _ fun i _ => (Al.sub1 _ _).cast ?_
    rw [subC_sg (sent_sg (k1 i)) (sent_sg (k1 i))]
    by_cases e : b.getD i 0 = b'.getD i 0
    · rw [e, if_pos rfl, if_neg (by simp)]
    · rw [if_pos e, if_neg fun q => e (sent_inj (k1 i) (k1 i) (dig hb i) (dig hb' i) q).2]
  · classical
    have hl := h.lb (fun x => if x ∈ (List.range 5).map (fun i => sent (K' K i) (b'.getD i 0)) then 0 else 2) (fun x => by split <;> omega) (fun x hx y hy => by
      (try dsimp only)
      by_cases q : x ∈ (List.range 5).map (fun i => sent (K' K i) (b'.getD i 0))
      · rw [if_pos q]; omega
      · rw [if_neg q]
        obtain ⟨i, _, rfl⟩ := List.mem_map.mp hx
        have hy' := hy
        obtain ⟨j, _, rfl⟩ := List.mem_map.mp hy
        rw [subC_sg (sent_sg (k1 i)) (sent_sg (k1 j)), if_neg fun e => q (by rw [e]; exact hy')]
        omega)
    rw [List.map_map, List.length_map, List.length_map] at hl
    rw [← sum_if]
    have := sum_le (List.range 5) (fun i => if b.getD i 0 ≠ b'.getD i 0 then 2 else 0) ((fun x => if x ∈ (List.range 5).map (fun i => sent (K' K i) (b'.getD i 0)) then 0 else 2) ∘ fun i => sent (K' K i) (b.getD i 0)) (fun i hi => by
      dsimp only [Function.comp]
      by_cases e : b.getD i 0 = b'.getD i 0
      · rw [if_neg (by simpa using e)]; omega
      · rw [if_pos e, if_neg]
        · omega
        · intro q
          obtain ⟨j, hj, q⟩ := List.mem_map.mp q
          obtain ⟨q1, q2⟩ := sent_inj (k1 j) (k1 i) (dig hb' j) (dig hb i) q
          have := k2 j i (List.mem_range.mp hj) (List.mem_range.mp hi) q1
          subst this
          exact e q2.symm)
    omega
theorem unc_blk {c : Nat} {p : Int} (hc : 64 ≤ c ∧ c ≤ 92) (hp : p = 0 ∨ p = 1 ∨ p = 2) : tl (uncS (sent c p)) = blkm c (mark p) := by
  rw [tl_uncS]
  rcases hp with rfl | rfl | rfl
  · rw [sent0, if_neg (by omega), if_pos (by omega), show c % 128 = c by omega]; rfl
  · rw [sent1, if_pos (by omega), show c % 32 % 128 + 32 + 32 = c by omega]; rfl
  · rw [sent2, if_neg (by omega), if_neg (by omega), show (c % 128 + 128) % 128 = c by omega]; rfl
theorem flatMap_congr' {α : Type} (L : List α) (f g : α → List Nat) (h : ∀ t ∈ L, f t = g t) : L.flatMap f = L.flatMap g := by
  induction L with
  | nil => rfl
  | cons t L ih => rw [List.flatMap_cons, List.flatMap_cons, h t (.head _), ih fun t ht => h t (.tail _ ht)]
theorem pictL_eq {K : Int → Nat} {b : List Int} (hK : KeyOk K) (hb : BoardOk b) : pictL K b = (List.range 5).flatMap fun i => blkm (K' K i) (mark (b.getD i 0)) := by
  unfold pictL
  rw [textL_eq, List.flatMap_map]
  exact flatMap_congr' _ _ _ fun i _ => unc_blk ((K'_ok hK).1 i) (dig hb i)
theorem mark_cases {p : Int} (hp : p = 0 ∨ p = 1 ∨ p = 2) : mark p = 0 ∨ mark p = 33 ∨ mark p = 94 := by
  rcases hp with rfl | rfl | rfl
  · exact .inl rfl
  · exact .inr (.inr rfl)
  · exact .inr (.inl rfl)
theorem mark_inj {p p' : Int} (hp : p = 0 ∨ p = 1 ∨ p = 2) (hp' : p' = 0 ∨ p' = 1 ∨ p' = 2) (h : mark p = mark p') : p = p' := by
  rcases hp with rfl | rfl | rfl <;> rcases hp' with rfl | rfl | rfl <;> first | rfl | (exact absurd h (by decide))
theorem al_blk {c : Nat} {m m' : Nat} (hc : 64 ≤ c ∧ c ≤ 92) (hm : m = 0 ∨ m = 33 ∨ m = 94) (hm' : m' = 0 ∨ m' = 33 ∨ m' = 94) : Al (blkm c m) (blkm c m') (if m ≠ m' then 2 else 0) := by
  by_cases e : m = m'
  · subst e; exact (Al.refl _).cast (by simp)
  · rw [if_pos e]
    unfold blkm
    by_cases z : m = 0
    · rw [if_pos z, if_neg (by omega)]
      exact (Al.ins m' (Al.refl [c])).cast (by omega)
    · rw [if_neg z]
      by_cases z' : m' = 0
      · rw [if_pos z']
        exact (Al.del m (Al.refl [c])).cast (by omega)
      · rw [if_neg z']
        exact (Al.sub m m' (Al.refl [c])).cast (by rw [subC_sg (by unfold Sg; omega) (by unfold Sg; omega), if_neg e])
theorem min_picts {K : Int → Nat} {b b' : List Int} (hK : KeyOk K) (hb : BoardOk b) (hb' : BoardOk b') : IsMin (pictL K b) (pictL K b') (2 * unl b b') := by
  obtain ⟨k1, k2⟩ := K'_ok hK
  rw [pictL_eq hK hb, pictL_eq hK hb', unl_eq]
  have e : (List.range 5).filter (fun i => decide (b.getD i 0 ≠ b'.getD i 0)) = (List.range 5).filter (fun i => decide (mark (b.getD i 0) ≠ mark (b'.getD i 0))) := by
    congr 1
    funext i
    refine decide_eq_decide.mpr ⟨fun h q => h (mark_inj (dig hb i) (dig hb' i) q), fun h q => h (by rw [q])⟩
  rw [e]
  refine ⟨?_, fun c h => ?_⟩
  · rw [← sum_if]
    exact Al.flat _ _ _ _ fun i _ => al_blk (k1 i) (mark_cases (dig hb i)) (mark_cases (dig hb' i))
  · have := pict_lb (n := 5) (K := K' K) (m := fun i => mark (b.getD i 0)) (m' := fun i => mark (b'.getD i 0)) k2 k1 (fun i => mark_cases (dig hb i)) (fun i => mark_cases (dig hb' i)) h 0 0 false false (by omega) (by omega) (by simp) (by simp) (by unfold lefts sufL; rw [if_neg (by decide), List.range_eq_range']) (by unfold lefts sufL; rw [if_neg (by decide), List.range_eq_range'])
    rw [pot_diag] at this
    unfold unlF at this
    rw [List.range_eq_range']
    exact this
theorem len_blk (c m : Nat) : (blkm c m).length = 1 + if m ≠ 0 then 1 else 0 := by
  unfold blkm
  by_cases h : m = 0
  · rw [if_pos h, if_neg (by simpa using h)]; rfl
  · rw [if_neg h, if_pos h]; rfl
theorem len_flat (L : List Nat) (F : Nat → List Nat) (g : Nat → Nat) (h : ∀ i, (F i).length = 1 + g i) : (L.flatMap F).length = L.length + (L.map g).sum := by
  induction L with
  | nil => rfl
  | cons i L ih => rw [List.flatMap_cons, List.length_append, ih, h, List.length_cons, List.map_cons, List.sum_cons]; omega
theorem sum_one (L : List Nat) (p : Nat → Prop) [DecidablePred p] : (L.map fun t => if p t then 1 else 0).sum = (L.filter fun t => decide (p t)).length := by
  induction L with
  | nil => rfl
  | cons t L ih =>
    rw [List.map_cons, List.sum_cons, ih]
    by_cases h : p t
    · rw [if_pos h, List.filter_cons_of_pos (by simpa using h), List.length_cons]; omega
    · rw [if_neg h, List.filter_cons_of_neg (by simpa using h)]; omega
theorem mark_ne {p : Int} (hp : p = 0 ∨ p = 1 ∨ p = 2) : mark p ≠ 0 ↔ p ≠ 0 := by
  rcases hp with rfl | rfl | rfl <;> simp [mark]
theorem cross_le {c : Nat} {p : Int} (hc : 64 ≤ c ∧ c ≤ 92) (hp : p = 0 ∨ p = 1 ∨ p = 2) : (if p ≠ 0 then 2 else 0) ≤ if 64 ≤ sent c p ∧ sent c p ≤ 92 then 0 else 2 := by
  rcases hp with rfl | rfl | rfl
  · simp
  · rw [sent1, if_neg (c := 64 ≤ c % 32 ∧ c % 32 ≤ 92) (by omega)]; simp
  · rw [sent2, if_neg (c := 64 ≤ c % 128 + 128 ∧ c % 128 + 128 ≤ 92) (by omega)]; simp
theorem min_cross {K : Int → Nat} {b b' : List Int} (hK : KeyOk K) (hb : BoardOk b) (hb' : BoardOk b') : IsMin (textL K b) (pictL K b') (2 * (hel b + hel b')) := by
  obtain ⟨k1, k2⟩ := K'_ok hK
  rw [textL_eq, pictL_eq hK hb', hel_eq hb, hel_eq hb', Nat.mul_add]
  refine ⟨?_, fun c h => ?_⟩
  · rw [map_flat', ← sum_if, ← sum_if, ← sum_plus]
    refine Al.flat _ _ _ _ fun i _ => ?_
    have hc := k1 i
    generalize K' K i = c at hc
    have hp := dig hb i
    have hp' := dig hb' i
    generalize b.getD i 0 = p at hp
    generalize b'.getD i 0 = p' at hp'
    have hs : Sg (sent c p) := sent_sg hc
    have hk : subC (sent c p) c = if p ≠ 0 then 2 else 0 := by
      rw [subC_sg hs (by unfold Sg; omega)]
      rcases hp with rfl | rfl | rfl
      · simp [sent0]
      · rw [sent1, if_neg (by omega)]; rfl
      · rw [sent2, if_neg (by omega)]; rfl
    by_cases z : p' = 0
    · subst z
      exact (Al.sub1 (sent c p) c).cast (by rw [hk]; simp)
    · have zm : ¬ mark p' = 0 := (mark_ne hp').mpr z
      unfold blkm
      rw [if_neg zm, if_pos z]
      exact (Al.ins (mark p') (Al.sub1 (sent c p) c)).cast (by rw [hk])
  · have hl := h.lb (fun x => if 64 ≤ x ∧ x ≤ 92 then 0 else 2) (fun x => by split <;> omega) (fun x hx y hy => by
      (try dsimp only)
      obtain ⟨i, _, rfl⟩ := List.mem_map.mp hx
      obtain ⟨j, _, hj⟩ := List.mem_flatMap.mp hy
      have h1 := k1 i
      have h2 := k1 j
      have h3 := mark_cases (dig hb' j)
      have hy' : y = K' K j ∨ y = 33 ∨ y = 94 := by
        unfold blkm at hj
        split at hj
        · exact .inl (List.mem_singleton.mp hj)
        · rcases List.mem_cons.mp hj with rfl | hj
          · omega
          · exact .inl (List.mem_singleton.mp hj)
      by_cases q : 64 ≤ sent (K' K i) (b.getD i 0) ∧ sent (K' K i) (b.getD i 0) ≤ 92
      · rw [if_pos q]; omega
      · rw [if_neg q, subC_sg (sent_sg h1) (by unfold Sg; omega), if_neg]
        · omega
        · intro e
          have : sent (K' K i) (b.getD i 0) ≤ 28 ∨ 192 ≤ sent (K' K i) (b.getD i 0) ∨ (64 ≤ sent (K' K i) (b.getD i 0) ∧ sent (K' K i) (b.getD i 0) ≤ 92) := by
            unfold sent
            split
            · omega
            · split <;> omega
          omega)
    rw [List.map_map, List.length_map] at hl
    rw [len_flat (List.range 5) _ (fun i => if mark (b'.getD i 0) ≠ 0 then 1 else 0) (fun i => len_blk _ _), sum_one] at hl
    have e : (List.range 5).filter (fun i => decide (mark (b'.getD i 0) ≠ 0)) = (List.range 5).filter (fun i => decide (b'.getD i 0 ≠ 0)) := by
      congr 1
      funext i
      exact decide_eq_decide.mpr (mark_ne (dig hb' i))
    rw [e] at hl
    rw [← sum_if (List.range 5) fun i => b.getD i 0 ≠ 0]
    have := sum_le (List.range 5) (fun i => if b.getD i 0 ≠ 0 then 2 else 0) ((fun x => if 64 ≤ x ∧ x ≤ 92 then 0 else 2) ∘ fun i => sent (K' K i) (b.getD i 0)) (fun i _ => by
      exact cross_le (k1 i) (dig hb i))
    omega
theorem asks2 {K : Int → Nat} {b b' : List Int} (hK : KeyOk K) (hb : BoardOk b) (hb' : BoardOk b') : Asks2 K b b' := by
  refine ⟨?_, ?_, ?_, ?_⟩
  · rw [tl_textS, tl_textS]; exact min_texts hK hb hb'
  · rw [tl_pictS, tl_pictS]; exact min_picts hK hb hb'
  · rw [tl_textS, tl_pictS]; exact min_cross hK hb hb'
  · rw [tl_textS, tl_pictS, Nat.add_comm]; exact min_cross hK hb' hb
end Mine
end
namespace Mine
section
open PySem PySem.W PyProof.Rows
set_option maxRecDepth 100000
set_option maxHeartbeats 8000000
open_top hd2 for PySem.Challenge.rw_pe0094_02
end
end Mine
section
open PySem PySem.W PyProof PyProof.Rows Mine
set_option linter.unusedVariables false
set_option maxRecDepth 100000
set_option maxHeartbeats 8000000

namespace Mine
local macro_rules | `(tactic| walk_at "my end") => `(tactic| first | ((rename News _ _ _ _ => nE'); refine kst_end ⟨_, _, _, _, _, _, _, _, _⟩ (by assumption) nE' (by exact List.forall_mem_cons.mpr ⟨List.Mem.head _, fun _ hp => List.Mem.tail _ (List.mem_append_left _ hp)⟩) (by exact fun _ hp => List.Mem.tail _ (List.mem_append_right _ hp)) (by rfl) (by kst_facts) (by kst_all) (by kst_same) (by kst_p)) | ((rename News _ _ _ _ => nE'); refine kst_end ⟨_, _, _, _, _⟩ (by assumption) nE' (by exact List.forall_mem_cons.mpr ⟨List.Mem.head _, fun _ hp => List.Mem.tail _ (List.mem_append_left _ hp)⟩) (by exact fun _ hp => List.Mem.tail _ (List.mem_append_right _ hp)) (by rfl) (by kst_facts) (by kst_all) (by kst_same) (by kst_p)))
local macro_rules | `(tactic| walk_at "my run") => `(tactic| repeat' (first | ((with_reducible show InvEndN _ _ (KstS _ _ _ _ _ _ _ _) _ _ _ _); walk_at "my end") | ((with_reducible show wpAny _ _ (execs _ _) _ _ _); dsimp only) | (k_unfold; (try dsimp only)) | ((fail_if_success (with_reducible show wpAny _ _ (pyIter _) _ _ _)); (fail_if_success (with_reducible show wpAny _ _ (exec (Stmt.While _ _ _ _) _) _ _ _)); walk1) | (dsimp only; (fail_if_success (with_reducible show wpAny _ _ (exec (Stmt.While _ _ _ _) _) _ _ _)); (fail_if_success (with_reducible show wpAny _ _ (pyIter _) _ _ _)); walk1)))
local macro_rules | `(tactic| walk_at "my run item") => `(tactic| repeat' ((fail_if_success (with_reducible show wpAny _ _ (truthy (Value.bool (Txt.item _ _ == Txt.item _ _))) _ _ _)); first | (k_unfold; (try dsimp only)) | ((fail_if_success (with_reducible show wpAny _ _ (exec (Stmt.While _ _ _ _) _) _ _ _)); walk1) | (dsimp only; (fail_if_success (with_reducible show wpAny _ _ (exec (Stmt.While _ _ _ _) _) _ _ _)); walk1)))
local macro_rules | `(tactic| walk_at "my run if") => `(tactic| repeat' (first | ((with_reducible show wpAny _ _ (execs _ _) _ _ _); dsimp only) | (k_unfold; (try dsimp only)) | ((fail_if_success (with_reducible show wpAny _ _ (execs (Stmt.If (Expr.Compare _ [CmpOp.Lt] _ _) _ _ _ :: _) _) _ _ _)); walk1) | (dsimp only; (fail_if_success (with_reducible show wpAny _ _ (execs (Stmt.If (Expr.Compare _ [CmpOp.Lt] _ _) _ _ _ :: _) _) _ _ _)); walk1)))
local macro_rules | `(tactic| walk_at "call type:list cons nil") => `(tactic| (k_here; (rename IsRange _ _ _ _ _ _ _ _ => rgX); (with_unfolding_all refine' list_range2 _ ?k0 ?k1 ?k2 rgX ?k4 ?k5 ?_); (case k0 => rfl); (case k1 => k_asm); (case k2 => k_asm); (case k4 => rfl); (case k5 => omega); intro D' us' c' h' tk' F' N' l1 hI'; (try k_lt l1); (try k_sweep)))
local macro_rules | `(tactic| walk_at "subscriptTail Name Slice str ref") => `(tactic| ((with_reducible rename Fr _ _ _ _ => F'); (with_reducible rename News _ _ _ _ => N'); refine slice_strN_nn_len (s := ⟨_, _, _, _, _⟩) F' N' ?_; intro _ _ _ _ _ _))
theorem lev2 (w : World) (mean : ExcName → Option Value) (mg mb : Str → Option Value) (news : List (Addr × Obj)) (a b : Str) (m : Int) (v : Nat) (ta tb tm : Tok) (ha : a.length ≤ 40) (hb : b.length ≤ 40)
    (hv : IsMin (tl a) (tl b) v) (hvm : (v : Int) ≤ m + 1) :
  ∀ (dp un : Nat) (gd : Option (List Code)) (cn : Str) (cs : Scope) (fa : Addr) (ccd : Value) (cl : List (Str × Addr)) (outer : List Env) (A₀ : Around) (base h₀ : Heap) (L : Addr) (mm : Str → Option Value) (s : Shared) (Q E : Value → Shared → Prop),
    Below A₀ base outer h₀ → Fr h₀ L s.heap mm → (hd2.heap_39 w.params).In h₀ → News h₀ L s.heap news → PyProof.Rows.Top hd2.view_39 (looseW hd2.view_39 []) mean mg mb h₀ → cs.kind = .function →
    dp + 2 < recursionLimit → un + 16 < cLine → (∀ (t : Tok) (h' : Heap) (tk' : Nat), Fr h₀ L h' mm → News h₀ L h' news → Q (.int (v : Int) t) { s with heap := h', toks := tk' }) →
      wpAny (model PySem.Challenge.rw_pe0094_02.row.prog w) (ktrTop dp un gd cn cs L fa ccd cl outer) (call (.ref 28) [.str a ta, .str b tb, .int m tm]) Q E s := by
  (k_with "state" => first | exact ⟨by rw [evens_length], outInv0 (by rw [tl_len])⟩ | exact ⟨by first | with_reducible assumption | assumption, inInv0 (by first | with_reducible assumption | assumption) (by rw [tl_len]; omega) (by omega)⟩ | exact ⟨by first | with_reducible assumption | assumption, by rw [List.length_append]; exact inInv_end (by first | with_reducible assumption | assumption) (by rw [rangeKs_length, tl_len]; omega) (by rw [tl_len]; omega) (by rw [tl_len]; omega)⟩ | exact in_turn (by first | with_reducible assumption | assumption) (by first | with_reducible assumption | assumption) (by first | with_reducible assumption | assumption) (by first | with_reducible assumption | assumption) (by first | with_reducible assumption | assumption) (by first | with_reducible assumption | assumption) rfl ⟨Int.le_of_lt (by first | with_reducible assumption | assumption), Int.le_refl _⟩ | exact in_turn (by first | with_reducible assumption | assumption) (by first | with_reducible assumption | assumption) (by first | with_reducible assumption | assumption) (by first | with_reducible assumption | assumption) (by first | with_reducible assumption | assumption) (by first | with_reducible assumption | assumption) rfl ⟨Int.le_refl _, Int.not_lt.mp (by first | with_reducible assumption | assumption)⟩)
  (k_with "call ref" => k_call_by "_substitution_cost" subS (fun x y => x.length ≤ 1 ∧ y.length ≤ 1))
  (k_with "tree" => simp only [subS])
  k_fill
  intros; rename_i hret
  have cbI : CbIn 28 := CbIn.mk
  w_on
  w_strict (refine wpAny_call ?_; k_dflt cell_enter)
  walk_at "my run"
  · rename (a == b) = true => hab
    have e := beq_iff_eq.mp hab
    subst e
    have e0 := hv.uniq (IsMin.same _)
    subst e0
    exact hret _ _ _ (by assumption) (by assumption)
  · refine Mine.while_int (Str.ofString "pre") (fun k => 0 ≤ k ∧ k ≤ (a.length : Int) ∧ k ≤ (b.length : Int) ∧ (tl a).take k.toNat = (tl b).take k.toNat) (fun k => a.length - k.toNat) (fun k => 0 ≤ k ∧ k ≤ (a.length : Int) ∧ k ≤ (b.length : Int) ∧ (tl a).take k.toNat = (tl b).take k.toNat) (by assumption) (by assumption) (by with_unfolding_all rfl) ⟨by omega, by omega, by omega, by simp⟩ ?_ ?_
    · intro k u h tk ⟨hk0, hk1, hk2, hk3⟩ F N
      walk_at "my run"
      · rename (Txt.item a k == Txt.item b k) = true => hi
        exact ⟨_, _, _, _, rfl, fr_twice (by assumption), (by assumption), ⟨by omega, by omega, by omega, pre_step hk0 (by omega) (by omega) hk3 hi⟩, by omega⟩
      all_goals exact ⟨_, _, _, _, rfl, (by assumption), (by assumption), hk0, hk1, hk2, hk3⟩
    · intro k u h tk ⟨hk0, hk1, hk2, hk3⟩ F N
      walk_at "my run"
      have eA := slice_from a hk0 hk1
      have eB := slice_from b hk0 hk2
      have lA := Txt.slice_le a (some k) none
      have lB := Txt.slice_le b (some k) none
      generalize Txt.slice a (some k) none = A at *
      generalize Txt.slice b (some k) none = B at *
      refine Mine.while_int (Str.ofString "post") (fun p => p ≤ 0 ∧ 0 ≤ p + (A.length : Int) ∧ 0 ≤ p + (B.length : Int) ∧ (tl A).drop (p + A.length).toNat = (tl B).drop (p + B.length).toNat) (fun p => (p + A.length).toNat) (fun p => p ≤ 0 ∧ 0 ≤ p + (A.length : Int) ∧ 0 ≤ p + (B.length : Int) ∧ (tl A).drop (p + A.length).toNat = (tl B).drop (p + B.length).toNat) (by assumption) (by assumption) (by with_unfolding_all rfl) ⟨by omega, by omega, by omega, by rw [List.drop_of_length_le (by rw [tl_len]; omega), List.drop_of_length_le (by rw [tl_len]; omega)]⟩ ?_ ?_
      · intro p u h tk ⟨hp0, hp1, hp2, hp3⟩ F N
        by_cases hp : p = 0
        · subst hp
          have gA := slice_all_len A
          have gB := slice_all_len B
          walk_at "my run item"
          · dsimp only
            have hI : ItemsAre A B 0 (Txt.item A (0 - 1)) (Txt.item B (0 - 1)) := ⟨rfl, rfl⟩
            generalize Txt.item A (0 - 1) = ia at *
            generalize Txt.item B (0 - 1) = ib at *
            walk1
            generalize hi : (ia == ib) = c
            cases c
            · rw [if_neg (by decide)]
              walk_at "my run"
              exact ⟨_, _, _, _, rfl, (by assumption), (by assumption), hp0, hp1, hp2, hp3⟩
            · rw [if_pos rfl]
              walk_at "my run"
              exact ⟨_, _, _, _, rfl, fr_twice (by assumption), (by assumption), ⟨by omega, by omega, by omega, post_step' hI hp0 (by omega) (by omega) hp3 hi⟩, by omega⟩
          all_goals exact ⟨_, _, _, _, rfl, (by assumption), (by assumption), hp0, hp1, hp2, hp3⟩
        · have fA := slice_neg_len A (p := p) hp0 hp1 hp
          have fB := slice_neg_len B (p := p) hp0 hp2 hp
          walk_at "my run"
          all_goals first
            | (exfalso; omega)
            | exact ⟨_, _, _, _, rfl, (by assumption), (by assumption), hp0, hp1, hp2, hp3⟩
            | exact ⟨_, _, _, _, rfl, fr_twice (by assumption), (by assumption), ⟨by omega, by omega, by omega, post_step hp0 (by omega) (by omega) hp3 (by assumption)⟩, by omega⟩
      · intro p u h tk ⟨hp0, hp1, hp2, hp3⟩ F N
        (try dsimp only)
        refine execs_cut2 (Str.ofString "a") (Str.ofString "b") (fun X Y => X.length ≤ 40 ∧ Y.length ≤ 40 ∧ IsMin (tl X) (tl Y) v) (by assumption) (by assumption) ?_ ?_
        · by_cases hp : p = 0
          · subst hp
            walk_at "my run"
            exact ⟨_, _, _, _, _, _, rfl, (by assumption), (by assumption), by omega, by omega, cuts_leave hv hk3 eA eB hp3 (slice_zero _ rfl) (slice_zero _ rfl)⟩
          · walk_at "my run"
            all_goals first
            | (exfalso; omega)
            | exact ⟨_, _, _, _, _, _, rfl, (by assumption), (by assumption), by omega, by omega, cuts_leave hv hk3 eA eB hp3 (slice_neg _ (by omega) (by omega)) (slice_neg _ (by omega) (by omega))⟩
        · clear hk3 eA eB hp3 hp0 hp1 hp2 hv
          intro X tX Y tY h tk ⟨hX, hY, hv⟩ F N
          walk_at "my run if"
          all_goals first
            | (have e := empty_case hv (by omega)
               rw [e]
               exact hret _ _ _ (by assumption) (by assumption))
            | skip
          refine execs_cut1 (Str.ofString "a") (Str.ofString "b") (fun X Y => 0 < X.length ∧ X.length ≤ Y.length ∧ X.length ≤ 40 ∧ Y.length ≤ 40 ∧ IsMin (tl X) (tl Y) v) (by assumption) (by assumption) ?_ ?_
          · walk_at "my run"
            · exact ⟨_, _, _, _, _, _, rfl, fr_comm (by decide) (by assumption), cb_drop (by assumption) (fun p hp => List.mem_cons_of_mem _ hp), by omega, by omega, by omega, by omega, hv.symm⟩
            · exact ⟨_, _, _, _, _, _, rfl, fr_same2 (by assumption) (by with_unfolding_all rfl) (by with_unfolding_all rfl), (by assumption), by omega, by omega, by omega, by omega, hv⟩
          · clear hX hY hv
            intro X tX Y tY h tk ⟨hpos, hab, hX, hY, hv⟩ F N
            walk_at "my run"
            · have hlen := hv.al.len
              rw [tl_len, tl_len] at hlen
              have e : m + 1 = (v : Int) := by omega
              rw [e]
              exact hret _ _ _ (by assumption) (by assumption)
            · k_state_given ["a", "b"] (fun a b pre result row => (row.length : Int) = (a.length : Int) ∧ OutInv (tl a) (tl b) pre.length result row) "result" "row"
              · walk_at "my run"
                k_state_given ["a", "b"] (fun a b pre distance result minimum row => (row.length : Int) = (a.length : Int) ∧ InInv (tl a) (tl b) kPre.length pre.length distance result minimum row) "distance" "result" "minimum" "row"
                · walk_at "my run"
                · walk_at "my run"
                  rename InInv _ _ _ _ _ _ _ _ => hin
                  have hab := inInv_above (M := m) hin (by rw [rangeKs_length, tl_len]; omega) (by rw [tl_len]; omega) (by rw [tl_len]; omega) (by rw [tl_len]; omega) (by assumption) hv
                  have e : m + 1 = (v : Int) := by omega
                  rw [e]
                  exact hret _ _ _ (by assumption) (cb_drop (by assumption) (by intro p hp; exact List.mem_cons_of_mem _ (List.mem_append_left _ hp)))
              · walk_at "my run"
                rename OutInv _ _ _ _ _ => hout
                have e := outInv_end hout (by rw [rangeKs_length, tl_len]; omega) (by rw [tl_len]; omega) hv
                rw [e]
                exact hret _ _ _ (by assumption) (cb_drop (by assumption) (by intro p hp; exact List.mem_cons_of_mem _ hp))
end Mine
end
section
open PySem PySem.W PyProof PyProof.Rows Mine
set_option linter.unusedVariables false
set_option maxRecDepth 100000
set_option maxHeartbeats 8000000
local macro_rules | `(tactic| walk_at "my run") => `(tactic| repeat' (first | ((with_reducible show wpAny _ _ (execs _ _) _ _ _); dsimp only) | (k_unfold; (try dsimp only)) | ((fail_if_success (with_reducible show wpAny _ _ (eval (PySem.Expr.ListComp _ _ _ _) _) _ _ _)); (fail_if_success (with_reducible show wpAny _ _ (exec (PySem.Stmt.Assign _ (PySem.Expr.ListComp _ _ _ _) _) _) _ _ _)); (fail_if_success (with_reducible show wpAny _ _ (call (Value.builtin "str.join") _) _ _ _)); (fail_if_success (with_reducible show wpAny _ _ (call (Value.ref 28) _) _ _ _)); (fail_if_success (with_reducible show wpAny _ _ (pyIter _) _ _ _)); (fail_if_success (with_reducible show LCt.CompSrcT _ _ _ _ _ _ _ _ _ _ _ _ _ _ _)); (fail_if_success (with_reducible show LCg.CompSrc _ _ _ _ _ _ _ _ _ _ _ _ _ _)); (fail_if_success (with_reducible show Mine.SrcC _ _ _ _ _ _ _ _ _ _ _ _ _ _)); walk1) | (dsimp only; (fail_if_success (with_reducible show wpAny _ _ (eval (PySem.Expr.ListComp _ _ _ _) _) _ _ _)); (fail_if_success (with_reducible show wpAny _ _ (exec (PySem.Stmt.Assign _ (PySem.Expr.ListComp _ _ _ _) _) _) _ _ _)); (fail_if_success (with_reducible show wpAny _ _ (call (Value.builtin "str.join") _) _ _ _)); (fail_if_success (with_reducible show wpAny _ _ (call (Value.ref 28) _) _ _ _)); (fail_if_success (with_reducible show wpAny _ _ (pyIter _) _ _ _)); (fail_if_success (with_reducible show LCt.CompSrcT _ _ _ _ _ _ _ _ _ _ _ _ _ _ _)); (fail_if_success (with_reducible show LCg.CompSrc _ _ _ _ _ _ _ _ _ _ _ _ _ _)); (fail_if_success (with_reducible show Mine.SrcC _ _ _ _ _ _ _ _ _ _ _ _ _ _)); walk1)))
local macro_rules | `(tactic| walk_at "subscriptTail Name Name ref int") => `(tactic| (k_here; (with_reducible show wpAny _ _ (subscriptTail _ _ (Value.ref _) (Value.int _ _)) _ _ _); (refine item_at (News.isList (by k_asm) (by k_mem)) (by omega) (by omega) (by with_reducible assumption) ?_)))
local macro_rules | `(tactic| walk_at "subscriptTail Name BinOp ref int") => `(tactic| (k_here; (with_reducible show wpAny _ _ (subscriptTail _ _ (Value.ref _) (Value.int _ _)) _ _ _); (refine item_at (News.isList (by k_asm) (by k_mem)) (by omega) (by omega) (by with_reducible assumption) ?_)))
local macro_rules | `(tactic| walk_at "binaryOp BitAnd int int") => `(tactic| (first | refine r_and31 ?_ | refine r_and127 ?_ | refine r_and128 (by omega) ?_))
local macro_rules | `(tactic| walk_at "binaryOp Add int int") => `(tactic| refine r_add32 ?_)
local macro_rules | `(tactic| walk_at "call builtin:chr") => `(tactic| (refine r_chr _ rfl (by omega) ?_))
local macro_rules | `(tactic| walk_at "binaryOp BitOr int int") => `(tactic| (first | refine r_or128 (by omega) ?_ | refine r_or32 (by omega) ?_))
local macro_rules | `(tactic| walk_at "call builtin:len cons nil") => `(tactic| (refine r_lenB (News.isList (by k_asm) (by k_mem)) (by assumption) (by omega) ?_))
local macro_rules | `(tactic| k_updF) => `(tactic| first | exact UpdF.head (by with_reducible assumption) | exact UpdF.tail (by k_ne) (UpdF.head (by with_reducible assumption)))
local macro_rules | `(tactic| walk_at "my lev") => `(tactic| (k_here; (with_reducible show wpAny _ _ (call (Value.ref 28) _) _ _ _); (k_dflt (refine' lev2 _ _ _ _ _ _ _ _ _ _ _ _ ?ha ?hb ?hv ?hvm _ _ _ _ _ _ _ _ _ _ _ _ _ _ _ _ _ ?k1 ?k2 ?k3 ?k4 ?k5 ?kK ?kd ?ku ?kR)); (case hv => with_reducible assumption); (case ha => omega); (case hb => omega); (case hvm => omega); (case k1 => k_asm); (case k2 => k_asm); (case k3 => k_asm); (case k4 => k_asm); (case k5 => k_asm); (case kK => exact rfl); (case kd => ktr_room); (case ku => ktr_units); intro t9 h9 tk9 F9 N9; (try dsimp only); (try k_fold)))
theorem PySem.Challenge.cw_pe0094_02_holds : PySem.Challenge.rw_pe0094_02.Holds :=
  hd2 (by
  w_strict (k_go0; (all_goals try k_fold))
  have cbI : CbIn 28 := CbIn.mk
  walk_at "my run"
  rename List Int => ns
  walk1
  walk_at "my run"
  k_dflt (refine LCg.ListComp_U (F₀ := by k_asm) (by with_unfolding_all rfl) (by decide) (by rfl) (by decide) (by rfl) ?_)
  walk_at "my run"
  k_dflt (refine LCg.CompSrc.range (n := 5) (by rfl) (by k_asm) (by k_asm) (by assumption) (by decide) (by rfl) (Nat.le_of_ble_eq_true rfl) ?_)
  intro g'
  refine kct_range (fun k => ⟨#[(64 + Int.fmod (ns.sum + k * (1 + Int.fmod (Int.fdiv ns.sum 29) 28)) 29).toNat]⟩) (fun k' t' I' oI' C' oC' D' m' ys' h' tk' E' hlo' hhi' hC' hx' F' N' off' ne' => ?_) ?_
  · (try (simp only [LCg.Off3, and_true] at off'))
    intro hMark'
    (try k_fold)
    walk_at "my run"
  intro ys hys0 hlen D h tk F N off1
  clear off1 hlen
  obtain ⟨K, hys, hK⟩ := keys_abs hys0
  clear hys0
  dsimp only
  walk_at "my run"
  k_dflt (refine Assign_ListComp_C (by k_asm) (by rfl) (by with_unfolding_all rfl) (by with_unfolding_all rfl) (fun _ => rfl) (fun _ => rfl) (by rfl) (by decide) (by rfl) (by rfl) (by rfl) ?_)
  walk_at "my run"
  rename IntsAre _ (List.take 3 _ ++ _) => hC0
  k_dflt (refine SrcC.ledger (by rfl) (by k_asm) (by k_asm) (by k_mem) (by have := hC0.length; simp at this ⊢; omega) ?_)
  intro g'
  refine rest_lists digits hC0 (by k_mem) (fun k t I oI C D' c oc ys' bl h' tk' E' hk hoc F' N' => ?_) ?_
  · (try k_fold)
    k_dflt (refine LCg.ListComp_U (F₀ := by k_asm) (by with_unfolding_all rfl) (by decide) (by rfl) (by decide) (by rfl) ?_)
    walk_at "my run"
    k_dflt (refine LCg.CompSrc.range (n := 5) (by rfl) (by k_asm) (by k_asm) (by assumption) (by decide) (by rfl) (Nat.le_of_ble_eq_true rfl) ?_)
    intro g''
    refine kcf_range (fun j => Int.fmod (Int.fdiv k (3 ^ j.toNat)) 3) (fun k' t' I' oI' C' oC' D' m' ys' h' tk' E' hlo' hhi' hC' hx' F' N' off' ne' => ?_) ?_
    · (try (simp only [LCg.Off3, and_true] at off'))
      intro hMark'
      (try k_fold)
      walk_at "my run"
      exact absurd (by assumption) (pow3_ne _)
    · intro vs' hvs' D h tk F N off1
      exact ⟨_, _, _, _, rfl, rfl, hvs', F, N, off1⟩
  intro ysB bl hB DB h' tk' F' N' off1'
  clear off1' hC0
  replace N' := news_swap N'
  simp only [List.cons_append, List.nil_append] at N'
  have hbs : ∀ b ∈ List.map digits (List.take 3 ns ++ [19, 17]), BoardOk b := by
    intro b hb
    obtain ⟨x, _, rfl⟩ := List.mem_map.mp hb
    exact digits_ok x
  have hbl : 2 ≤ (List.map digits (List.take 3 ns ++ [19, 17])).length ∧ (List.map digits (List.take 3 ns ++ [19, 17])).length ≤ 5 := by simp; omega
  generalize List.map digits (List.take 3 ns ++ [19, 17]) = bs at hB hbs hbl
  dsimp only
  walk_at "my run"
  k_dflt (refine Assign_ListComp_C (by k_asm) (by rfl) (by with_unfolding_all rfl) (by with_unfolding_all rfl) (fun _ => rfl) (fun _ => rfl) (by rfl) (by decide) (by rfl) (by rfl) (by rfl) ?_)
  walk_at "my run"
  k_dflt (refine SrcC.ledger (by rfl) (by k_asm) (by k_asm) (.head _) (by have := hB.1; simp at this ⊢; omega) ?_)
  intro g'
  refine rest_lines (textS K) hB (fun p hp => by repeat (first | exact hp | apply List.mem_cons_of_mem)) (.head _) (fun a us b I oI C D' c oc ys' h' tk' E' hb hu hoc F' N' => ?_) ?_
  · (try k_fold)
    have hbo := hbs b hb
    walk_at "my run"
    k_dflt (refine LCg.ListComp_U (F₀ := by k_asm) (by with_unfolding_all rfl) (by decide) (by rfl) (by decide) (by rfl) ?_)
    walk_at "my run"
    k_dflt (refine LCg.CompSrc.range (n := 5) (by rfl) (by k_asm) (by k_asm) (by assumption) (by decide) (by rfl) (Nat.le_of_ble_eq_true rfl) ?_)
    intro g''
    refine kct_range (fun k => ⟨#[sent (K k) (b.getD k.toNat 0)]⟩) (fun k' t' I' oI' C' oC' D' m' ys' h' tk' E' hlo' hhi' hC' hx' F' N' off' ne' => ?_) ?_
    · have off0 := off'
      (try (simp only [LCg.Off3, and_true] at off'))
      intro hMark'
      obtain ⟨tq, hkq⟩ := key_at hys hlo' hhi'
      obtain ⟨p, tp, hp, hbq, hp3⟩ := board_at hu hbo hlo' (by omega)
      have hKb := hK.1 k'
      dsimp only
      rw [hp]
      clear hp
      rcases hp3 with rfl | rfl | rfl
      · rw [sent0]
        (try k_fold)
        walk_at "my run"
        exact LCg.CompEnd.intro (by assumption) (by assumption) _ (fun _ hp => hp) off0 trivial ⟨rfl, _, rfl⟩
      · rw [sent1]
        (try k_fold)
        walk_at "my run"
        exact LCg.CompEnd.intro (by assumption) (by assumption) _ (fun _ hp => hp) off0 trivial ⟨rfl, _, rfl⟩
      · rw [sent2]
        (try k_fold)
        walk_at "my run"
        exact LCg.CompEnd.intro (by assumption) (by assumption) _ (fun _ hp => hp) off0 trivial ⟨rfl, _, rfl⟩
    · intro ysT hysT _ D h tk F N off1
      clear off1
      (try dsimp only)
      walk_at "my run"
      refine join_tl (by exact News.isList N (.head _)) hysT (fun a _ => Nat.le_of_ble_eq_true rfl) (by rw [rangeKs_length]; omega) ?_
      intro z0 t0 tk0 hz0
      have hz0' := textS_eq hz0
      subst hz0'
      exact ⟨_, _, _, rfl, rfl, F, cb_drop N (fun p hp => List.mem_cons_of_mem _ hp)⟩
  intro ysS hysS DS h' tk' F' N' off1'
  clear off1'
  dsimp only
  walk_at "my run"
  k_dflt (refine LCg.Assign_ListComp_U (F₀ := by k_asm) (by rfl) (by with_unfolding_all rfl) (by with_unfolding_all rfl) (by decide) (by rfl) (by decide) (by rfl) (by rfl) (by rfl) ?_)
  walk_at "my run"
  k_dflt (refine LCg.CompSrc.ledger (by rfl) (by k_asm) (by k_asm) (.head _) (by have := carriedAll_lenA hysS; simp at this; rw [sizeLine_eq]; simp; omega) ?_)
  intro g'
  refine rest_strs (pictS K) hysS (fun b t I oI C oC D m' ys' h' tk' E' hb hC hx F' N' off' ne' => ?_) ?_
  · have off0 := off'
    (try (simp only [LCg.Off3, and_true] at off'))
    intro hMark'
    have hcs : ∀ c ∈ tl (textS K b), c ≤ 28 ∨ (64 ≤ c ∧ c ≤ 92) ∨ (192 ≤ c ∧ c ≤ 220) := fun c hc => textL_mem hK (hbs b hb) hc
    have hlt := textS_len K b
    (try k_fold)
    walk_at "my run"
    k_dflt (refine ListComp_T (_F₀ := by k_asm) (by with_unfolding_all rfl) (by decide) (by rfl) (by decide) (by rfl) ?_)
    walk1
    k_dflt (refine SrcT.mk (by rfl) (by k_asm) (by k_asm) (by omega) ?_)
    intro g'
    refine rest_text uncS (fun k' t' I' oI' C' oC' D' m' ys' h' tk' E' hk' hC' hx' F' N' off' ne' => ?_) ?_
    · have off1 := off'
      (try (simp only [LCg.Off3, and_true] at off'))
      intro hMark'
      rcases hcs _ hk' with hkb | hkb | hkb
      · rw [uncS_lo hkb]
        (try k_fold)
        walk_at "my run"
        all_goals first
          | exact LCg.CompEnd.intro (by assumption) (by assumption) _ (fun _ hp => hp) off1 trivial ⟨rfl, _, rfl⟩
          | (exfalso; omega)
      · rw [uncS_mid hkb]
        (try k_fold)
        walk_at "my run"
        all_goals first
          | exact LCg.CompEnd.intro (by assumption) (by assumption) _ (fun _ hp => hp) off1 trivial ⟨rfl, _, rfl⟩
          | (exfalso; omega)
      · rw [uncS_hi hkb]
        (try k_fold)
        walk_at "my run"
        all_goals first
          | exact LCg.CompEnd.intro (by assumption) (by assumption) _ (fun _ hp => hp) off1 trivial ⟨rfl, _, rfl⟩
          | (exfalso; omega)
    intro ysT hysT D h tk F N off1
    clear off1
    (try dsimp only)
    walk_at "my run"
    refine join_tl (by exact News.isList N (.head _)) hysT (fun a _ => uncS_len a) (by rw [tl_len]; omega) ?_
    intro z0 t0 tk0 hz0
    have hz0' := pictS_eq hz0
    subst hz0'
    exact LCg.CompEnd.intro (by assumption) (cb_drop N (fun p hp => List.mem_cons_of_mem _ hp)) _ (fun _ hp => hp) off0 (.inr ⟨_, .head _, rfl, _, rfl⟩) ⟨rfl, _, rfl⟩
  intro ysP hysP DP h' tk' F' N' off1'
  clear off1'
  dsimp only
  have hB1 := hB.1
  walk_at "my run"
  have hRl : ∀ p ∈ ((DP, LCg.lst ysP) :: (DS, LCg.lst ysS) :: (DB, LCg.lst ysB) :: bl : List (Addr × Obj)), ∃ us, p.2 = LCg.lst us := by
    intro p hp
    rcases List.mem_cons.mp hp with rfl | hp
    · exact ⟨_, rfl⟩
    rcases List.mem_cons.mp hp with rfl | hp
    · exact ⟨_, rfl⟩
    rcases List.mem_cons.mp hp with rfl | hp
    · exact ⟨_, rfl⟩
    · exact hB.2.2 p hp
  have hsm : Builtin.Range.small 1 (bs.length : Int) 1 = true := small_one (by omega) (by omega) (by omega) (by omega)
  have hrn : Builtin.Range.rangeSize 1 (bs.length : Int) 1 = ((bs.length - 1 : Nat) : Int) := by rw [rangeSize_nat]; omega
  refine' loop_cells' (n := bs.length - 1) (R := (DP, LCg.lst ysP) :: (DS, LCg.lst ysS) :: (DB, LCg.lst ysB) :: bl) (Str.ofString "here") (Str.ofString "there") [Str.ofString "unlike", Str.ofString "held"] ?e1 ?e2 hsm hrn ?e3 ?e4 ?e5 ?e6 ?e7 ?e8 ?e9 ?e10 ?e11 hRl ?turn ?done
  case e1 => rfl
  case e2 => k_asm
  case e3 => k_asm
  case e4 => k_asm
  case e5 => rfl
  case e6 => rfl
  case e7 => k_mem
  case e8 => k_mem
  case e9 => with_reducible assumption
  case e10 => with_reducible assumption
  case e11 =>
    intro p hp
    rcases List.mem_cons.mp hp with rfl | hp
    · k_mem
    rcases List.mem_cons.mp hp with rfl | hp
    · k_mem
    rcases List.mem_cons.mp hp with rfl | hp
    · k_mem
    · repeat (first | exact hp | apply List.mem_cons_of_mem)
  case turn =>
    clear hRl hsm hrn
    intro k t u h tk R' oH oT vH vT hk0 hk1 hRR hoff hoH hoT F N
    obtain ⟨a1, us1, b1, hy1, hb1, hu1, hm1⟩ := lines_at hB (k := k - 1) (by omega) (by omega)
    obtain ⟨a2, us2, b2, hy2, hb2, hu2, hm2⟩ := lines_at hB (k := k) (by omega) (by omega)
    obtain ⟨s1, hs1⟩ := carried_at (g := textS K) hysS _ _ hb1
    obtain ⟨s2, hs2⟩ := carried_at (g := textS K) hysS _ _ hb2
    obtain ⟨p1, hp1⟩ := carried_at (g := pictS K) hysP _ _ hb1
    obtain ⟨p2, hp2⟩ := carried_at (g := pictS K) hysP _ _ hb2
    have ho1 := hbs b1 (List.mem_of_getElem? hb1)
    have ho2 := hbs b2 (List.mem_of_getElem? hb2)
    obtain ⟨N9, hoT9, hoH9⟩ := turn_ledger N (by omega) hRR hoff hm1 hm2
    clear N
    dsimp only
    (try k_fold)
    walk_at "my run"
    k_dflt (refine LCt.ListComp_T (F₀ := by k_asm) (by with_unfolding_all rfl) (by decide) (by rfl) (by decide) (by rfl) ?_)
    walk_at "my run"
    k_dflt (refine LCt.CompSrcT.range (n := 5) (by rfl) (by k_asm) (by k_asm) (by assumption) (by decide) (by rfl) (Nat.le_of_ble_eq_true rfl) ?_)
    intro g''
    refine kci_range (unlG b1 b2) (fun k' t' I' oI' C' oC' D' m' ys' l' h' tk' E' hlo' hhi' hI' hC' hx' F' N' off' ne' => ?_) ?_ (unlG_grows b1 b2)
    · have off0 := off'
      (try (simp only [LCg.Off3, and_true] at off'))
      intro hMark'
      obtain ⟨q1, r1, e1, g1, c1⟩ := board_at hu1 ho1 hlo' (by omega)
      obtain ⟨q2, r2, e2, g2, c2⟩ := board_at hu2 ho2 hlo' (by omega)
      have eG : unlG b1 b2 l' k' = if q1 = q2 then l' else l' ++ [k'] := by unfold unlG; rw [e1, e2]
      rw [eG]
      clear e1 e2 eG
      (try k_fold)
      walk_at "my run"
      · exact LCg.CompEnd.intro (by assumption) (by assumption) _ (fun _ hp => hp) off0 trivial ⟨rfl, _, _, rfl, if_neg (by first | assumption | omega)⟩
      · exact LCg.CompEnd.intro (by assumption) (by assumption) _ (fun _ hp => hp) off0 trivial ⟨rfl, if_pos (by first | assumption | omega)⟩
    intro ysU hysU _ DU h tk F N off1
    clear off1
    obtain ⟨hU1, hU2⟩ := unl_len hysU
    clear hysU
    have hul1 : us1.length = 5 := hu1.length.trans ho1.1
    have hul2 : us2.length = 5 := hu2.length.trans ho2.1
    (try dsimp only)
    walk_at "my run"
    k_dflt (refine LCt.ListComp_T (F₀ := by k_asm) (by with_unfolding_all rfl) (by decide) (by rfl) (by decide) (by rfl) ?_)
    walk_at "my run"
    have hpl := IntsAre.append hu1 hu2
    k_dflt (refine LCt.CompSrcT.ledger (by rfl) (by k_asm) (by k_asm) (by k_mem) (by simp; rw [sizeLine_eq]; omega) ?_)
    intro g'
    refine kci_list helG hpl (fun k' t' I' oI' C' oC' D' m' ys' l' h' tk' E' hk' hI' hC' hx' F' N' off' ne' => ?_) ?_ helG_grows
    · have off0 := off'
      (try (simp only [LCg.Off3, and_true] at off'))
      intro hMark'
      unfold helG
      (try k_fold)
      walk_at "my run"
      · exact LCg.CompEnd.intro (by assumption) (by assumption) _ (fun _ hp => hp) off0 (.inr ⟨_, by k_mem, rfl, _, rfl⟩) ⟨rfl, _, _, rfl, if_neg (by first | assumption | omega)⟩
      · exact LCg.CompEnd.intro (by assumption) (by assumption) _ (fun _ hp => hp) off0 (.inr ⟨_, by k_mem, rfl, _, rfl⟩) ⟨rfl, if_pos (by first | assumption | omega)⟩
    intro ysH hysH _ DH h tk F N off1
    clear off1
    obtain ⟨hH1, hH2⟩ := hel_len ho1 ho2 hysH
    clear hysH hpl
    obtain ⟨bt, bp, ttt, ttp, hbt, hbp, hbb⟩ := parity_pick hs1 hs2 hp1 hp2
    have hask : Asks2 K b1 b2 := asks2 hK ho1 ho2
    have hv1 := hask.texts
    have hv2 := hask.picts
    have hv3 := hask.pick hbb
    have hl1 := textS_len K b1
    have hl2 := textS_len K b2
    have hl3 := pictS_len K b1
    have hl4 := pictS_len K b2
    have hl5 := textS_len K bt
    have hl6 := pictS_len K bp
    have hf0 := fmod_lo k (n := 2) (by decide)
    have hf1 := fmod_hi k (n := 2) (by decide)
    (try dsimp only)
    walk_at "my run"
    walk_at "my lev"
    walk_at "my run"
    · exfalso; omega
    walk_at "my lev"
    walk_at "my run"
    · exfalso; omega

    walk_at "my lev"
    walk_at "my run"
    · exfalso; omega
    refine' two_next ?zF ?zN ?za ?zb ?zh1 ?zh2 ?zc ?zm
    case zF => k_asm
    case zN => k_asm
    case za => k_mem
    case zb => k_mem
    case zc => intro p hp; repeat (first | exact hp | apply List.mem_cons_of_mem)
    case zh1 => with_reducible assumption
    case zh2 => with_reducible assumption
    case zm =>
      intro z hz hs
      obtain ⟨h1, h2⟩ := stored_off hs
      simp only [h1, h2, hz, hs, if_false, Bool.false_eq_true]
  intro u h tk oH oT F N
  (try k_fold)
  k_steps
  done)
end
