import PyProof.Rows.All
import Wide.All
import OpenK.AllK
import Wide.FinOn
import PySem.Challenge.RW_pe0094_01
set_option Elab.async false
set_option linter.unusedVariables false
section
open PySem PySem.W PySem.Calls PyProof.Rows PySem.Spec
namespace Mine
/-- the end of a turn: the frame's one int name x holds k', the rest stands -/
def IntEnd (h₀ : Heap) (L : Addr) (m : Str → Option Value) (news : List (Addr × Obj)) (x : Str) (s : Shared) (P : Int → Prop) (s' : Shared) : Prop :=
  ∃ h' tk k u, s' = { s with heap := h', toks := tk } ∧ Fr h₀ L h' (fun y => if y = x then some (.int k u) else m y) ∧ News h₀ L h' news ∧ P k

theorem fr_twice {h₀ h : Heap} {L : Addr} {m : Str → Option Value} {x : Str} {v v' : Option Value} (F : Fr h₀ L h (fun y => if y = x then v else if y = x then v' else m y)) : Fr h₀ L h (fun y => if y = x then v else m y) := by
  have e : (fun y => if y = x then v else if y = x then v' else m y) = (fun y => if y = x then v else m y) := by
    funext y; by_cases h : y = x <;> simp [h]
  rw [← e]; exact F

section
variable {prog : Program} {w : World} {A : Around} {E : Value → Shared → Prop} {Q : Flow → Shared → Prop} {s : Shared} {env : Env} {h₀ : Heap} {L : Addr}
theorem while_int {test : Expr} {body : List Stmt} {pos : Pos} {m : Str → Option Value} {news : List (Addr × Obj)} (x : Str) (P : Int → Prop) (μ : Int → Nat) (Done : Int → Prop) {k₀ : Int} {u₀ : Tok}
    (F : Fr h₀ L s.heap m) (N : News h₀ L s.heap news) (hm : m x = some (.int k₀ u₀)) (hP : P k₀)
    (turn : ∀ k u h tk, P k → Fr h₀ L h (fun y => if y = x then some (.int k u) else m y) → News h₀ L h news →
      wpAny (model prog w) A (isTrue test env (eval test env)) (fun b s₂ =>
        if b = true then wpAny (model prog w) A (execs body env) (fun f s₃ => f = .next ∧ IntEnd h₀ L m news x s (fun k' => P k' ∧ μ k' < μ k) s₃) E s₂
        else IntEnd h₀ L m news x s Done s₂) E { s with heap := h, toks := tk })
    (rest : ∀ k u h tk, Done k → Fr h₀ L h (fun y => if y = x then some (.int k u) else m y) → News h₀ L h news → Q .next { s with heap := h, toks := tk })
    (hE : PassesOwn (model prog w) A env E := by passes_own) :
    wpAny (model prog w) A (exec (.While test body [] pos) env) Q E s := by
  have em : m = fun y => if y = x then some (.int k₀ u₀) else m y := by
    funext y; by_cases h : y = x
    · simp [h, hm]
    · simp [h]
  have F' := F
  rw [em] at F'
  refine While_inv2 (fun n m₁ nx => nx = news ∧ ∃ k u, m₁ = (fun y => if y = x then some (.int k u) else m y) ∧ P k ∧ μ k = n) (n₀ := μ k₀) F' N ⟨rfl, k₀, u₀, rfl, hP, rfl⟩ ?_ hE
  rintro n m₁ nx h tk F₁ N₁ ⟨rfl, k, u, rfl, hk, rfl⟩
  refine wpAny_mono (turn k u h tk hk F₁ N₁) (fun b s₂ p => ?_) fun _ _ x => x
  cases b with
  | false =>
    simp only [Bool.false_eq_true, if_false] at p ⊢
    obtain ⟨h', tk', k', u', rfl, F', N', hd⟩ := p
    exact rest k' u' h' tk' hd F' N'
  | true =>
    simp only [if_true] at p ⊢
    refine wpAny_mono p (fun f s₃ q => ?_) fun _ _ x => x
    obtain ⟨rfl, h', tk', k', u', rfl, F', N', hp, hlt⟩ := q
    exact ⟨h', tk', _, _, μ k', rfl, F', N', hlt, rfl, k', u', rfl, hp, rfl⟩
/-- two texts of the frame, the rest stands -/
def TwoEnd (h₀ : Heap) (L : Addr) (m : Str → Option Value) (news : List (Addr × Obj)) (x y : Str) (s : Shared) (P : Str → Str → Prop) (s' : Shared) : Prop :=
  ∃ h' tk A tA B tB, s' = { s with heap := h', toks := tk } ∧ Fr h₀ L h' (fun z => if z = y then some (.str B tB) else if z = x then some (.str A tA) else m z) ∧ News h₀ L h' news ∧ P A B
theorem execs_cut1 {st : Stmt} {rest : List Stmt} {m : Str → Option Value} {news : List (Addr × Obj)} (x y : Str) (P : Str → Str → Prop) (_F : Fr h₀ L s.heap m) (_N : News h₀ L s.heap news)
    (h1 : wpAny (model prog w) A (exec st env) (fun f s' => f = .next ∧ TwoEnd h₀ L m news x y s P s') E s)
    (h2 : ∀ X tX Y tY h' tk, P X Y → Fr h₀ L h' (fun z => if z = y then some (.str Y tY) else if z = x then some (.str X tX) else m z) → News h₀ L h' news → wpAny (model prog w) A (execs rest env) Q E { s with heap := h', toks := tk }) :
    wpAny (model prog w) A (execs (st :: rest) env) Q E s := by
  refine wpAny_execs_cons (wpAny_mono h1 (fun f s' h => ?_) fun _ _ e => e)
  obtain ⟨rfl, h', tk, X, tX, Y, tY, rfl, F, N, hP⟩ := h
  exact h2 X tX Y tY h' tk hP F N
theorem execs_cut2 {st st' : Stmt} {rest : List Stmt} {m : Str → Option Value} {news : List (Addr × Obj)} (x y : Str) (P : Str → Str → Prop) (_F : Fr h₀ L s.heap m) (_N : News h₀ L s.heap news)
    (h1 : wpAny (model prog w) A (execs [st, st'] env) (fun f s' => f = .next ∧ TwoEnd h₀ L m news x y s P s') E s)
    (h2 : ∀ X tX Y tY h' tk, P X Y → Fr h₀ L h' (fun z => if z = y then some (.str Y tY) else if z = x then some (.str X tX) else m z) → News h₀ L h' news → wpAny (model prog w) A (execs rest env) Q E { s with heap := h', toks := tk }) :
    wpAny (model prog w) A (execs (st :: st' :: rest) env) Q E s := by
  have key : ∀ Γ p, Γ.In A → Sem.wp (model prog w) Γ (execs [st, st'] env) (fun f _ s' => f = .next ∧ TwoEnd h₀ L m news x y s P s') (fun e _ s' => E e s') p s := h1
  intro Γ p hΓ
  have h := key Γ p hΓ
  rw [execs_cons, Sem.wp_bind'] at h
  rw [execs_cons, Sem.wp_bind']
  refine Sem.wp_mono _ Γ _ (fun f p' s' h' => ?_) (fun _ _ _ e => e) _ _ h
  cases f with
  | next =>
    dsimp only at h' ⊢
    rw [execs_cons, Sem.wp_bind'] at h'
    rw [execs_cons, Sem.wp_bind']
    refine Sem.wp_mono _ Γ _ (fun f p' s' h' => ?_) (fun _ _ _ e => e) _ _ h'
    cases f with
    | next =>
      dsimp only at h' ⊢
      have h'' : (Flow.next = Flow.next) ∧ TwoEnd h₀ L m news x y s P s' := h'
      clear h'
      obtain ⟨_, hp, tk, X, tX, Y, tY, rfl, F, N, hP⟩ := h''
      exact h2 X tX Y tY hp tk hP F N Γ p' hΓ
    | _ => exact absurd (show _ ∧ _ from h').1 (by intro e; cases e)
  | _ => exact absurd (show _ ∧ _ from h').1 (by intro e; cases e)
end
end Mine
end
section
open PySem PyProof
namespace Mine
/-- what the code asks for two signs -/
def subC (x y : Nat) : Nat := if x = y then 0 else if Txt.lower ⟨#[x]⟩ = Txt.lower ⟨#[y]⟩ then 1 else 2
theorem subC_self (x : Nat) : subC x x = 0 := by simp [subC]
theorem subC_le (x y : Nat) : subC x y ≤ 2 := by
  by_cases h : x = y
  · simp [subC, h]
  · by_cases k : Txt.lower ⟨#[x]⟩ = Txt.lower ⟨#[y]⟩ <;> simp [subC, h, k]
theorem subC_comm (x y : Nat) : subC x y = subC y x := by
  unfold subC
  by_cases h : x = y
  · simp [h]
  · have h' : ¬ y = x := fun e => h e.symm
    simp only [h, h', if_false]
    by_cases k : Txt.lower ⟨#[x]⟩ = Txt.lower ⟨#[y]⟩
    · simp [k]
    · have k' : ¬ Txt.lower ⟨#[y]⟩ = Txt.lower ⟨#[x]⟩ := fun e => k e.symm
      simp [k, k']

/-- a way to turn a into b, and what it costs -/
inductive Al : List Nat → List Nat → Nat → Prop
  | nil : Al [] [] 0
  | del {a b c} (x) : Al a b c → Al (x :: a) b (c + 2)
  | ins {a b c} (y) : Al a b c → Al a (y :: b) (c + 2)
  | sub {a b c} (x y) : Al a b c → Al (x :: a) (y :: b) (c + subC x y)

theorem Al.cast {a b : List Nat} {c d : Nat} (h : Al a b c) (e : c = d) : Al a b d := e ▸ h
theorem Al.symm {a b : List Nat} {c : Nat} (h : Al a b c) : Al b a c := by
  induction h with
  | nil => exact .nil
  | del x _ ih => exact .ins x ih
  | ins y _ ih => exact .del y ih
  | sub x y _ ih => rw [subC_comm]; exact .sub y x ih
theorem Al.append {a b a' b' : List Nat} {c c' : Nat} (h : Al a b c) (h' : Al a' b' c') : Al (a ++ a') (b ++ b') (c + c') := by
  induction h with
  | nil => exact h'.cast (by omega)
  | del x _ ih => exact (Al.del x ih).cast (by omega)
  | ins y _ ih => exact (Al.ins y ih).cast (by omega)
  | sub x y _ ih => exact (Al.sub x y ih).cast (by omega)
theorem Al.del1 (x : Nat) : Al [x] [] 2 := Al.del x .nil
theorem Al.ins1 (x : Nat) : Al [] [x] 2 := Al.ins x .nil
theorem Al.sub1 (x y : Nat) : Al [x] [y] (subC x y) := (Al.sub x y .nil).cast (by omega)
theorem Al.rev {a b : List Nat} {c : Nat} (h : Al a b c) : Al a.reverse b.reverse c := by
  induction h with
  | nil => exact .nil
  | del x _ ih => simpa using ih.append (Al.del1 x)
  | ins y _ ih => simpa using ih.append (Al.ins1 y)
  | sub x y _ ih => simpa using ih.append (Al.sub1 x y)
theorem Al.refl (a : List Nat) : Al a a 0 := by
  induction a with
  | nil => exact .nil
  | cons x a ih => exact (Al.sub x x ih).cast (by rw [subC_self])
theorem Al.toNil (a : List Nat) : Al a [] (2 * a.length) := by
  induction a with
  | nil => exact .nil
  | cons x a ih => exact (Al.del x ih).cast (by simp; omega)
theorem Al.ofNil (b : List Nat) : Al [] b (2 * b.length) := (Al.toNil b).symm
theorem Al.len {a b : List Nat} {c : Nat} (h : Al a b c) : 2 * b.length ≤ c + 2 * a.length ∧ 2 * a.length ≤ c + 2 * b.length := by
  induction h with
  | nil => simp
  | del x _ ih => simp only [List.length_cons]; omega
  | ins y _ ih => simp only [List.length_cons]; omega
  | sub x y _ ih => simp only [List.length_cons]; omega

structure IsMin (a b : List Nat) (v : Nat) : Prop where
  al : Al a b v
  le : ∀ c, Al a b c → v ≤ c
theorem IsMin.symm {a b : List Nat} {v : Nat} (h : IsMin a b v) : IsMin b a v := ⟨h.al.symm, fun c k => h.le c k.symm⟩
theorem IsMin.uniq {a b : List Nat} {v v' : Nat} (h : IsMin a b v) (h' : IsMin a b v') : v = v' := Nat.le_antisymm (h.le _ h'.al) (h'.le _ h.al)
theorem IsMin.ofNil (b : List Nat) : IsMin [] b (2 * b.length) := ⟨Al.ofNil b, fun c k => by have := k.len; simp at this; omega⟩
theorem IsMin.toNil (b : List Nat) : IsMin b [] (2 * b.length) := (IsMin.ofNil b).symm
theorem IsMin.same (a : List Nat) : IsMin a a 0 := ⟨Al.refl a, fun _ _ => Nat.zero_le _⟩

theorem Al.dropR {a b : List Nat} {x c : Nat} (h : Al a (x :: b) c) : ∃ c', c' ≤ c + 2 ∧ Al a b c' := by
  generalize e : x :: b = b' at h
  induction h with
  | nil => cases e
  | del z _ ih =>
    obtain ⟨c', h1, h2⟩ := ih e
    exact ⟨c' + 2, by omega, .del z h2⟩
  | ins y h _ => cases e; exact ⟨_, by omega, h⟩
  | sub z y h _ => cases e; exact ⟨_, by omega, .del z h⟩
theorem Al.dropL {a b : List Nat} {x c : Nat} (h : Al (x :: a) b c) : ∃ c', c' ≤ c + 2 ∧ Al a b c' := by
  obtain ⟨c', h1, h2⟩ := h.symm.dropR
  exact ⟨c', h1, h2.symm⟩
theorem Al.strip1 {a b : List Nat} {x c : Nat} (h : Al (x :: a) (x :: b) c) : ∃ c', c' ≤ c ∧ Al a b c' := by
  cases h with
  | del _ h =>
    obtain ⟨c', h1, h2⟩ := h.dropR
    exact ⟨c', by omega, h2⟩
  | ins _ h =>
    obtain ⟨c', h1, h2⟩ := h.dropL
    exact ⟨c', by omega, h2⟩
  | sub _ _ h => exact ⟨_, by omega, h⟩
theorem Al.stripP {a b : List Nat} : ∀ (p : List Nat) {c : Nat}, Al (p ++ a) (p ++ b) c → ∃ c', c' ≤ c ∧ Al a b c'
  | [], c, h => ⟨c, Nat.le_refl _, h⟩
  | x :: p, c, h => by
    obtain ⟨c1, h1, h2⟩ := Al.strip1 h
    obtain ⟨c2, h3, h4⟩ := Al.stripP p h2
    exact ⟨c2, by omega, h4⟩
theorem Al.stripS {a b s : List Nat} {c : Nat} (h : Al (a ++ s) (b ++ s) c) : ∃ c', c' ≤ c ∧ Al a b c' := by
  have h' := h.rev
  rw [List.reverse_append, List.reverse_append] at h'
  obtain ⟨c', h1, h2⟩ := Al.stripP _ h'
  exact ⟨c', h1, by simpa using h2.rev⟩
theorem IsMin.strip {a b p q : List Nat} {v : Nat} (h : IsMin (p ++ a ++ q) (p ++ b ++ q) v) : IsMin a b v := by
  obtain ⟨c1, h1, h2⟩ := Al.stripS h.al
  obtain ⟨c2, h3, h4⟩ := Al.stripP _ h2
  have back : ∀ c, Al a b c → Al (p ++ a ++ q) (p ++ b ++ q) c := fun c k => (((Al.refl p).append k).append (Al.refl q)).cast (by omega)
  have := h.le _ (back _ h4)
  have e : c2 = v := by omega
  exact ⟨e ▸ h4, fun c k => h.le _ (back c k)⟩

theorem Al.snoc_inv {a b : List Nat} {x y c : Nat} (h : Al (a ++ [x]) (b ++ [y]) c) :
    (∃ c', Al a (b ++ [y]) c' ∧ c = c' + 2) ∨ (∃ c', Al (a ++ [x]) b c' ∧ c = c' + 2) ∨ ∃ c', Al a b c' ∧ c = c' + subC x y := by
  have h' := h.rev
  rw [List.reverse_append, List.reverse_append] at h'
  simp only [List.reverse_cons, List.reverse_nil, List.nil_append, List.cons_append] at h'
  cases h' with
  | del _ k => exact .inl ⟨_, by simpa using k.rev, rfl⟩
  | ins _ k => exact .inr (.inl ⟨_, by simpa using k.rev, rfl⟩)
  | sub _ _ k => exact .inr (.inr ⟨_, by simpa using k.rev, rfl⟩)
theorem IsMin.step {a b : List Nat} {x y v11 v01 v10 : Nat} (h11 : IsMin a b v11) (h01 : IsMin a (b ++ [y]) v01) (h10 : IsMin (a ++ [x]) b v10) :
    IsMin (a ++ [x]) (b ++ [y]) (min (min v01 v10 + 2) (v11 + subC y x)) := by
  have k1 : Al (a ++ [x]) (b ++ [y]) (v01 + 2) := by simpa using h01.al.append (Al.del1 x)
  have k2 : Al (a ++ [x]) (b ++ [y]) (v10 + 2) := by simpa using h10.al.append (Al.ins1 y)
  have k3 : Al (a ++ [x]) (b ++ [y]) (v11 + subC y x) := by rw [subC_comm]; exact h11.al.append (Al.sub1 x y)
  refine ⟨?_, fun c k => ?_⟩
  · rcases Nat.le_total (min v01 v10 + 2) (v11 + subC y x) with h | h
    · rw [Nat.min_eq_left h]
      rcases Nat.le_total v01 v10 with h' | h'
      · rw [Nat.min_eq_left h']; exact k1
      · rw [Nat.min_eq_right h']; exact k2
    · rw [Nat.min_eq_right h]; exact k3
  · rcases k.snoc_inv with ⟨c', h, rfl⟩ | ⟨c', h, rfl⟩ | ⟨c', h, rfl⟩
    · have := h01.le _ h; omega
    · have := h10.le _ h; omega
    · have := h11.le _ h; rw [subC_comm]; omega

/-- the first column: the code's left neighbour is 2 * i there, which never tells -/
theorem IsMin.step0 {b : List Nat} {x y v10 : Nat} (h10 : IsMin [x] b v10) :
    IsMin [x] (b ++ [y]) (min (min (2 * b.length) v10 + 2) (2 * b.length + subC y x)) := by
  have h := IsMin.step (x := x) (y := y) (IsMin.ofNil b) (IsMin.ofNil (b ++ [y])) h10
  have := subC_le y x
  have e : min (min (2 * (b ++ [y]).length) v10 + 2) (2 * b.length + subC y x) = min (min (2 * b.length) v10 + 2) (2 * b.length + subC y x) := by
    simp only [List.length_append, List.length_cons, List.length_nil]; omega
  rw [← e]
  exact h

/-- a way over b's two parts parts a too -/
theorem Al.split {a b : List Nat} {c : Nat} (h : Al a b c) : ∀ b1 b2, b = b1 ++ b2 → ∃ n c1 c2, n ≤ a.length ∧ Al (a.take n) b1 c1 ∧ Al (a.drop n) b2 c2 ∧ c = c1 + c2 := by
  induction h with
  | nil =>
    intro b1 b2 e
    obtain ⟨rfl, rfl⟩ := List.append_eq_nil_iff.mp e.symm
    exact ⟨0, 0, 0, by simp, .nil, .nil, rfl⟩
  | @del a b c x _ ih =>
    intro b1 b2 e
    obtain ⟨n, c1, c2, hn, h1, h2, rfl⟩ := ih b1 b2 e
    exact ⟨n + 1, c1 + 2, c2, by simp; omega, .del x h1, by simpa using h2, by omega⟩
  | @ins a b c y h ih =>
    intro b1 b2 e
    cases b1 with
    | nil => exact ⟨0, 0, c + 2, by simp, .nil, by simp only [List.nil_append] at e; subst e; simpa using Al.ins y h, by omega⟩
    | cons z b1 =>
      simp only [List.cons_append, List.cons.injEq] at e
      obtain ⟨rfl, e⟩ := e
      obtain ⟨n, c1, c2, hn, h1, h2, rfl⟩ := ih b1 b2 e
      exact ⟨n, c1 + 2, c2, hn, .ins y h1, h2, by omega⟩
  | @sub a b c x y h ih =>
    intro b1 b2 e
    cases b1 with
    | nil => exact ⟨0, 0, c + subC x y, by simp, .nil, by simp only [List.nil_append] at e; subst e; simpa using Al.sub x y h, by omega⟩
    | cons z b1 =>
      simp only [List.cons_append, List.cons.injEq] at e
      obtain ⟨rfl, e⟩ := e
      obtain ⟨n, c1, c2, hn, h1, h2, rfl⟩ := ih b1 b2 e
      exact ⟨n + 1, c1 + subC x y, c2, by simp; omega, .sub x y h1, by simpa using h2, by omega⟩

/-- a row whose entries (but for the first column) are all above M: the whole is above M -/
theorem row_above {a b1 b2 : List Nat} {v : Nat} {M : Int} (ha : a ≠ []) (hb : b1 ≠ []) (h : IsMin a (b1 ++ b2) v)
    (hrow : ∀ j z, j < a.length → IsMin (a.take (j + 1)) b1 z → M < (z : Int)) (hex : ∀ j, j < a.length → ∃ z, IsMin (a.take (j + 1)) b1 z) : M < (v : Int) := by
  obtain ⟨n, c1, c2, hn, h1, h2, e⟩ := h.al.split b1 b2 rfl
  cases n with
  | succ n =>
    obtain ⟨z, hz⟩ := hex n (by omega)
    have := hrow n z (by omega) hz
    have := hz.le _ h1
    omega
  | zero =>
    have hl : 0 < a.length := List.length_pos_iff.mpr ha
    obtain ⟨z, hz⟩ := hex 0 hl
    have h3 := hrow 0 z hl hz
    have h4 := h1.len
    obtain ⟨x, a', rfl⟩ := List.exists_cons_of_ne_nil ha
    obtain ⟨y, b', rfl⟩ := List.exists_cons_of_ne_nil hb
    simp only [List.take_zero, List.length_nil, List.length_cons] at h4
    have h5 : Al [x] (y :: b') (2 * b'.length + subC x y) := Al.sub x y (Al.ofNil b')
    have h6 := hz.le _ (by simpa using h5)
    have := subC_le x y
    omega
end Mine
end
section
open PySem PySem.W PySem.Calls PyProof PyProof.Rows PySem.Spec PySem.Builtin PySem.Builtin.Str
namespace Mine
/-- a text's codes as a list -/
abbrev tl (x : Str) : List Nat := x.cps.toList
theorem tl_len (x : Str) : (tl x).length = x.length := by simp [tl, Str.length]
theorem slice_from (x : Str) {k : Int} (h0 : 0 ≤ k) (h1 : k ≤ x.length) : tl (Txt.slice x (some k) none) = (tl x).drop k.toNat := by
  rw [slice_from_eq h0 h1 rfl]
  dsimp only [tl]
  rw [List.toList_toArray, List.take_of_length_le]
  rw [List.length_drop, tl_len]; omega
theorem slice_all (x : Str) : Txt.slice x none none = x := by
  unfold Txt.slice
  have e : (strSliceIndices none none 1 x.length).length = x.length := by
    unfold strSliceIndices sliceRange
    simp only [show (1 : Int) > 0 by decide, if_true, List.length_map, List.length_range]
    split <;> (try simp only [Int.ediv_one]) <;> omega
  rw [if_pos]
  simp [e]
theorem slice_neg (x : Str) {k : Int} (h0 : k < 0) (h1 : -(x.length : Int) ≤ k) : tl (Txt.slice x none (some k)) = (tl x).take (k + x.length).toNat := by
  have e : Txt.slice x none (some k) = Txt.slice x none (some (k + x.length)) := by
    unfold Txt.slice
    rw [show strSliceIndices none (some k) 1 x.length = strSliceIndices none (some (k + x.length)) 1 x.length from StrLaws.sliceIdx_neg_hi none x.length h0 h1]
  rw [e, beq_iff_eq.mp (slice_closes_toL (x := x) (j := k + x.length) (by omega) (by omega))]
  dsimp only [tl]
  rw [List.toList_toArray]
  simp
theorem slice_neg_len (x : Str) {p : Int} (_h0 : p ≤ 0) (h1 : 0 ≤ p + (x.length : Int)) : p ≠ 0 → ((Txt.slice x none (some p)).length : Int) = p + x.length := fun h => by
  have := congrArg List.length (slice_neg x (k := p) (by omega) (by omega))
  rw [tl_len, List.length_take, tl_len] at this
  omega
theorem slice_all_len (x : Str) : (Txt.slice x none none).length = x.length := by rw [slice_all]
theorem slice_zero (x : Str) {p : Int} (h : p = 0) : tl (Txt.slice x none none) = (tl x).take (p + x.length).toNat := by
  subst h
  rw [slice_all, List.take_of_length_le (by rw [tl_len]; omega)]
theorem item_pos (x : Str) {k : Int} (h0 : 0 ≤ k) (h1 : k < x.length) : Txt.item x k = ⟨#[(tl x).getD k.toNat 0]⟩ := by
  unfold Txt.item Txt.charAt
  rw [seqIndex_of h0 h1]
  simp [tl, List.getD_eq_getElem?_getD]
theorem item_neg (x : Str) {k : Int} (h0 : k < 0) (h1 : -(x.length : Int) ≤ k) : Txt.item x k = ⟨#[(tl x).getD (k + x.length).toNat 0]⟩ := by
  unfold Txt.item Txt.charAt
  rw [seqIndex_neg h0 h1]
  simp [tl, List.getD_eq_getElem?_getD]
theorem one_inj {x y : Nat} (h : ((⟨#[x]⟩ : Str) == ⟨#[y]⟩) = true) : x = y := by
  have := beq_iff_eq.mp h
  cases this; rfl
/-- one more sign at the front -/
theorem pre_step {a b : Str} {k : Int} (h0 : 0 ≤ k) (h1 : k < a.length) (h2 : k < b.length) (h3 : (tl a).take k.toNat = (tl b).take k.toNat) (h4 : (Txt.item a k == Txt.item b k) = true) :
    (tl a).take (k + 1).toNat = (tl b).take (k + 1).toNat := by
  rw [item_pos a h0 h1, item_pos b h0 h2] at h4
  have e := one_inj h4
  have l1 : k.toNat < (tl a).length := by rw [tl_len]; omega
  have l2 : k.toNat < (tl b).length := by rw [tl_len]; omega
  have t : (k + 1).toNat = k.toNat + 1 := by omega
  rw [t, List.take_add_one, List.take_add_one, h3]
  congr 1
  simp only [List.getD_eq_getElem?_getD, List.getElem?_eq_getElem l1, List.getElem?_eq_getElem l2, Option.getD_some] at e
  rw [List.getElem?_eq_getElem l1, List.getElem?_eq_getElem l2, e]
/-- one more sign at the back -/
theorem post_step {a b : Str} {k : Int} (h0 : k ≤ 0) (h1 : 0 < k + a.length) (h2 : 0 < k + b.length) (h3 : (tl a).drop (k + a.length).toNat = (tl b).drop (k + b.length).toNat) (h4 : (Txt.item a (k - 1) == Txt.item b (k - 1)) = true) :
    (tl a).drop (k - 1 + a.length).toNat = (tl b).drop (k - 1 + b.length).toNat := by
  rw [item_neg a (by omega) (by omega), item_neg b (by omega) (by omega)] at h4
  have e := one_inj h4
  have l1 : (k - 1 + a.length).toNat < (tl a).length := by rw [tl_len]; omega
  have l2 : (k - 1 + b.length).toNat < (tl b).length := by rw [tl_len]; omega
  have t1 : (k + a.length).toNat = (k - 1 + a.length).toNat + 1 := by omega
  have t2 : (k + b.length).toNat = (k - 1 + b.length).toNat + 1 := by omega
  rw [t1, t2] at h3
  rw [List.drop_eq_getElem_cons l1, List.drop_eq_getElem_cons l2, h3]
  simp only [List.getD_eq_getElem?_getD, List.getElem?_eq_getElem l1, List.getElem?_eq_getElem l2, Option.getD_some] at e
  rw [e]

def ItemsAre (a b : Str) (p : Int) (x y : Str) : Prop := Txt.item a (p - 1) = x ∧ Txt.item b (p - 1) = y
theorem post_step' {a b x y : Str} {k : Int} (hI : ItemsAre a b k x y) (h0 : k ≤ 0) (h1 : 0 < k + a.length) (h2 : 0 < k + b.length) (h3 : (tl a).drop (k + a.length).toNat = (tl b).drop (k + b.length).toNat) (h4 : (x == y) = true) :
    (tl a).drop (k - 1 + a.length).toNat = (tl b).drop (k - 1 + b.length).toNat := by
  obtain ⟨rfl, rfl⟩ := hI
  exact post_step h0 h1 h2 h3 h4

/-- the code's two cuts leave the distance -/
theorem cuts_leave {a b A B A' B' : Str} {k p : Int} {v : Nat} (h : IsMin (tl a) (tl b) v)
    (k3 : (tl a).take k.toNat = (tl b).take k.toNat) (eA : tl A = (tl a).drop k.toNat) (eB : tl B = (tl b).drop k.toNat)
    (p3 : (tl A).drop (p + A.length).toNat = (tl B).drop (p + B.length).toNat)
    (eA' : tl A' = (tl A).take (p + A.length).toNat) (eB' : tl B' = (tl B).take (p + B.length).toNat) : IsMin (tl A') (tl B') v := by
  refine IsMin.strip (p := (tl a).take k.toNat) (q := (tl A).drop (p + A.length).toNat) ?_
  have ea : (tl a).take k.toNat ++ tl A' ++ (tl A).drop (p + A.length).toNat = tl a := by
    rw [List.append_assoc, eA', List.take_append_drop, eA, List.take_append_drop]
  have eb : (tl a).take k.toNat ++ tl B' ++ (tl A).drop (p + A.length).toNat = tl b := by
    rw [List.append_assoc, p3, eB', List.take_append_drop, eB, k3, List.take_append_drop]
  rw [ea, eb]
  exact h
theorem empty_case {X Y : Str} {v : Nat} (h : IsMin (tl X) (tl Y) v) (e : X.length = 0 ∨ Y.length = 0) : 2 * ((X.length : Int) + (Y.length : Int)) = (v : Int) := by
  rcases e with e | e
  · have hx : tl X = [] := List.eq_nil_of_length_eq_zero (by rw [tl_len]; exact e)
    rw [hx] at h
    have := h.uniq (IsMin.ofNil _)
    rw [tl_len] at this
    omega
  · have hy : tl Y = [] := List.eq_nil_of_length_eq_zero (by rw [tl_len]; exact e)
    rw [hy] at h
    have := h.uniq (IsMin.toNil _)
    rw [tl_len] at this
    omega
theorem fr_comm {h₀ h : Heap} {L : Addr} {m : Str → Option Value} {x y : Str} {u v : Option Value} (hne : x ≠ y) (F : Fr h₀ L h (fun z => if z = x then u else if z = y then v else m z)) : Fr h₀ L h (fun z => if z = y then v else if z = x then u else m z) := by
  have e : (fun z => if z = x then u else if z = y then v else m z) = (fun z => if z = y then v else if z = x then u else m z) := by
    funext z
    by_cases h1 : z = x
    · have h2 : ¬ z = y := fun e => hne (h1.symm.trans e)
      rw [if_pos h1, if_neg h2, if_pos h1]
    · rw [if_neg h1, if_neg h1]
  rw [← e]; exact F
theorem fr_same2 {h₀ h : Heap} {L : Addr} {m : Str → Option Value} {x y : Str} {u v : Value} (F : Fr h₀ L h m) (hx : m x = some u) (hy : m y = some v) : Fr h₀ L h (fun z => if z = y then some v else if z = x then some u else m z) := by
  have e : (fun z => if z = y then some v else if z = x then some u else m z) = m := by
    funext z
    by_cases h1 : z = y
    · simp [h1, hy]
    · by_cases h2 : z = x
      · rw [if_neg h1, if_pos h2, h2, hx]
      · simp [h1, h2]
  rw [e]; exact F
end Mine
end
section
open PySem PySem.W PySem.Calls PyProof PyProof.Rows PyProof.V PySem.Spec
set_option maxRecDepth 100000
namespace Mine
def evens (n : Nat) : List Int := (List.range n).map fun i : Nat => 2 + 2 * (i : Int)
theorem evens_length (n : Nat) : (evens n).length = n := by simp [evens]
theorem ints_of (f : Nat → Int) : ∀ (vs : List Value) (k n : Nat), vs.length = n → (∀ (j : Nat) (v : Value), vs[j]? = some v → ∃ t, v = .int (f (k + j)) t) → IntsAre vs ((List.range n).map fun i => f (k + i))
  | [], k, n, e, _ => by subst e; exact IntsAre.nil
  | v :: r, k, n, e, h => by
    subst e
    obtain ⟨t, rfl⟩ := h 0 v rfl
    rw [List.length_cons, List.range_succ_eq_map, List.map_cons, List.map_map]
    refine IntsAre.cons _ _ ?_
    have := ints_of f r (k + 1) r.length rfl fun j v hj => by
      obtain ⟨t', ht'⟩ := h (j + 1) v hj
      exact ⟨t', by rw [ht']; congr 2; omega⟩
    have e : (List.range r.length).map (fun i => f (k + 1 + i)) = (List.range r.length).map ((fun i => f (k + i)) ∘ Nat.succ) := by
      apply List.map_congr_left
      intro i _
      show f (k + 1 + i) = f (k + (i + 1))
      congr 1; omega
    rw [← e]
    exact this
theorem small_of {a b c : Int} (ha : -1000 ≤ a) (ha' : a < 1000) (hb : -1000 ≤ b) (hb' : b < 1000) (hc : 0 < c) (hc' : c < 1000) (hs : 0 ≤ Builtin.Range.rangeSize a b c) (hs' : Builtin.Range.rangeSize a b c < 1000) : Builtin.Range.small a b c = true := by
  unfold Builtin.Range.small
  generalize Builtin.Range.rangeSize a b c = z at hs hs' ⊢
  simp only [Builtin.Range.rangeFitsLong, Bool.and_eq_true, Bool.or_eq_true, decide_eq_true_eq, beq_iff_eq, gt_iff_lt, hc, if_true]
  omega
section
variable {prog : Program} {w : World} {A : Around} {E : Value → Shared → Prop} {s : Shared} {h₀ : Heap} {L r : Addr} {m : Str → Option Value} {news : List (Addr × Obj)} {b : Int} {t₀ u₀ v₀ : Tok} {Q : Value → Shared → Prop}
theorem list_range2 (n : Nat) (hh : A.handled = none) (F : Fr h₀ L s.heap m) (N : News h₀ L s.heap news) (hr : IsRange s.heap r 2 b 2 t₀ u₀ v₀) (hb : b = 2 * ((n : Int) + 1)) (hz : n ≤ 100)
    (h : ∀ D us c h' tk, Fr h₀ L h' m → News h₀ L h' ((D, listOf (List.toArray us) c) :: news) → (∀ p ∈ news, p.1 < D) → IntsAre us (evens n) → Q (.ref D) { s with heap := h', toks := tk }) :
    wpAny (model prog w) A (call (.type "list") [.ref r]) Q E s := by
  subst hb
  have hn : Builtin.Range.rangeSize 2 (2 * ((n : Int) + 1)) 2 = (n : Int) := by
    unfold Builtin.Range.rangeSize
    simp only [show (2 : Int) > 0 by decide, if_true]
    split <;> omega
  have hsmall : Builtin.Range.small 2 (2 * ((n : Int) + 1)) 2 = true := small_of (by omega) (by omega) (by omega) (by omega) (by omega) (by omega) (by rw [hn]; omega) (by rw [hn]; omega)
  refine call_list_range hh hr hsmall hn (by omega) fun h' tk acc c hk hD hI => ?_
  have hD' : h'.get? s.heap.objs.size = some (listOf (List.toArray acc.toList) c) := by
    rw [Array.toArray_toList]
    exact hD
  refine h _ acc.toList c h' tk (F.keeps hk) (news_pushed F N hk hD' rfl) (fun p hp => Heap.lt_size (N p hp).1) ?_
  have := ints_of (fun i : Nat => 2 + (i : Int) * 2) acc.toList 0 n (by rw [Array.length_toList]; exact hI.1) fun j v hj => by
    obtain ⟨t, ht⟩ := hI.2 j v (by rw [← hj, Array.getElem?_toList])
    exact ⟨t, by rw [ht, Nat.zero_add]⟩
  have e : evens n = (List.range n).map fun i : Nat => 2 + ((0 + i : Nat) : Int) * 2 := by
    apply List.map_congr_left
    intro i _
    simp only [Nat.zero_add]; omega
  rw [e]
  exact this
end
end Mine
end
section
open PySem PySem.W PySem.Calls PyProof PyProof.Rows PyProof.V PySem.Spec
namespace Mine
def IsMinZ (a b : List Nat) (z : Int) : Prop := ∃ v : Nat, z = (v : Int) ∧ IsMin a b v
/-- between two rows: i signs of b are done -/
def OutInv (a b : List Nat) (i : Nat) (res : Int) (row : List Int) : Prop :=
  (0 < i → IsMinZ a (b.take i) res) ∧ ∀ t z, row[t]? = some z → IsMinZ (a.take (t + 1)) (b.take i) z
/-- within row i + 1: j signs of a are done -/
def InInv (a b : List Nat) (i j : Nat) (dist res mini : Int) (row : List Int) : Prop :=
  IsMinZ (a.take j) (b.take i) dist ∧ (j = 0 → res = 2 * (i : Int)) ∧ (0 < j → IsMinZ (a.take j) (b.take (i + 1)) res) ∧
  ∀ t z, row[t]? = some z → (t < j → IsMinZ (a.take (t + 1)) (b.take (i + 1)) z ∧ mini ≤ z) ∧ (j ≤ t → IsMinZ (a.take (t + 1)) (b.take i) z)
theorem outInv0 {a b : List Nat} {n : Nat} (hn : n = a.length) : OutInv a b 0 0 (evens n) := by
  refine ⟨fun h => absurd h (Nat.lt_irrefl 0), fun t z h => ?_⟩
  have ht : t < n := by
    have := (List.getElem?_eq_some_iff.mp h).1
    rwa [evens_length] at this
  have hz : z = 2 + 2 * (t : Int) := by
    rw [evens, List.getElem?_map, List.getElem?_range ht] at h
    exact (Option.some.inj h).symm
  refine ⟨2 * (a.take (t + 1)).length, ?_, IsMin.toNil _⟩
  rw [List.length_take]
  omega
theorem inInv0 {a b : List Nat} {i : Nat} {res d mini : Int} {row : List Int} (h : OutInv a b i res row) (hi : i ≤ b.length) (hd : d = 2 * (i : Int)) : InInv a b i 0 d d mini row := by
  subst hd
  refine ⟨⟨2 * (b.take i).length, by rw [List.length_take]; omega, IsMin.ofNil _⟩, fun _ => rfl, fun h => absurd h (Nat.lt_irrefl 0), fun t z hz => ⟨fun h => absurd h (Nat.not_lt_zero _), fun _ => h.2 t z hz⟩⟩
theorem take_snoc {l : List Nat} {i : Nat} (h : i < l.length) : l.take (i + 1) = l.take i ++ [l.getD i 0] := by
  rw [List.take_add_one, List.getD_eq_getElem?_getD, List.getElem?_eq_getElem h]; rfl
/-- one turn within a row -/
theorem inInv_step {a b : List Nat} {i j : Nat} {d r mini old new mini' : Int} {row row' : List Int} (h : InInv a b i j d r mini row) (hj : j < a.length) (hi : i < b.length) (hrow : row[j]? = some old)
    (hnew : new = min (min r old + 2) (d + (subC (b.getD i 0) (a.getD j 0) : Nat))) (hm : mini' ≤ mini ∧ mini' ≤ new) (hset : row' = row.set j new) :
    InInv a b i (j + 1) old new mini' row' := by
  obtain ⟨⟨vd, hd, Hd⟩, h0, h1, h2⟩ := h
  obtain ⟨vo, ho, Ho⟩ := (h2 j old hrow).2 (Nat.le_refl _)
  have ea := take_snoc hj
  have eb := take_snoc hi
  have Hnew : IsMinZ (a.take (j + 1)) (b.take (i + 1)) new := by
    rw [ea] at Ho
    rw [ea, eb]
    by_cases hj0 : j = 0
    · subst hj0
      have hr := h0 rfl
      have H := IsMin.step0 (x := a.getD 0 0) (y := b.getD i 0) Ho
      refine ⟨_, ?_, H⟩
      rw [hnew, hr, ho, hd]
      have hl : (b.take i).length = i := by rw [List.length_take]; omega
      have hvd : vd = 2 * i := by
        have := Hd.uniq (by simpa using IsMin.ofNil (b.take i))
        omega
      rw [hl, hvd]
      omega
    · obtain ⟨vr, hr, Hr⟩ := h1 (by omega)
      rw [eb] at Hr
      have H := IsMin.step Hd Hr Ho
      refine ⟨_, ?_, H⟩
      rw [hnew, hr, ho, hd]
      omega
  refine ⟨⟨vo, ho, Ho⟩, fun e => absurd e (Nat.succ_ne_zero _), fun _ => Hnew, fun t z hz => ?_⟩
  subst hset
  by_cases ht : t = j
  · subst ht
    have hl := (List.getElem?_eq_some_iff.mp hrow).1
    rw [List.getElem?_set_self hl] at hz
    have := Option.some.inj hz
    subst this
    exact ⟨fun _ => ⟨Hnew, hm.2⟩, fun h => absurd h (by omega)⟩
  · rw [List.getElem?_set_ne (fun e => ht e.symm)] at hz
    have := h2 t z hz
    exact ⟨fun h => ⟨(this.1 (by omega)).1, Int.le_trans hm.1 (this.1 (by omega)).2⟩, fun h => this.2 (by omega)⟩
/-- a row is done -/
theorem inInv_end {a b : List Nat} {i n : Nat} {d r mini : Int} {row : List Int} (h : InInv a b i n d r mini row) (hn : n = a.length) (hr : row.length = a.length) (ha : 0 < a.length) : OutInv a b (i + 1) r row := by
  subst hn
  obtain ⟨_, _, h1, h2⟩ := h
  have h1 := h1 ha
  rw [List.take_length] at h1
  refine ⟨fun _ => h1, fun t z hz => ?_⟩
  have := (List.getElem?_eq_some_iff.mp hz).1
  exact ((h2 t z hz).1 (by omega)).1
/-- the row lies above the bound: so does the distance -/
theorem inInv_above {a b : List Nat} {i n : Nat} {d r mini M : Int} {row : List Int} {v : Nat} (h : InInv a b i n d r mini row) (hn : n = a.length) (hr : row.length = a.length) (ha : 0 < a.length) (hi : i < b.length) (hm : M < mini) (hv : IsMin a b v) : M < (v : Int) := by
  subst hn
  obtain ⟨_, _, _, h2⟩ := h
  have key : ∀ j, j < a.length → ∃ z : Nat, IsMin (a.take (j + 1)) (b.take (i + 1)) z ∧ M < (z : Int) := by
    intro j hj
    have hz : row[j]? = some (row[j]'(by omega)) := List.getElem?_eq_getElem (by omega)
    obtain ⟨⟨z, ez, Hz⟩, hle⟩ := (h2 j _ hz).1 hj
    exact ⟨z, Hz, by omega⟩
  have hv' := hv
  rw [← List.take_append_drop (i + 1) b] at hv'
  refine row_above (List.length_pos_iff.mp ha) ?_ hv' (fun j z hj Hz => ?_) fun j hj => ?_
  · intro e
    have : (b.take (i + 1)).length = 0 := by rw [e]; rfl
    rw [List.length_take] at this
    omega
  · obtain ⟨z', Hz', hM⟩ := key j hj
    rw [Hz.uniq Hz']
    exact hM
  · obtain ⟨z', Hz', _⟩ := key j hj
    exact ⟨z', Hz'⟩
theorem outInv_end {a b : List Nat} {i : Nat} {r : Int} {row : List Int} {v : Nat} (h : OutInv a b i r row) (hi : i = b.length) (hb : 0 < b.length) (hv : IsMin a b v) : r = (v : Int) := by
  subst hi
  obtain ⟨v', e, H⟩ := h.1 hb
  rw [List.take_length] at H
  rw [e, hv.uniq H]
def subS (x y : Str) : Int := if (x == y) = true then 0 else if (Txt.lower x == Txt.lower y) = true then 1 else 2
theorem subS_eq {a b : Str} {i j : Int} (hi : 0 ≤ i) (hi' : i < b.length) (hj : 0 ≤ j) (hj' : j < a.length) : subS (Txt.item b i) (Txt.item a j) = (subC ((tl b).getD i.toNat 0) ((tl a).getD j.toNat 0) : Nat) := by
  rw [item_pos b hi hi', item_pos a hj hj']
  unfold subS subC
  generalize (tl b).getD i.toNat 0 = x
  generalize (tl a).getD j.toNat 0 = y
  by_cases h : x = y
  · subst h; simp
  · have h' : ¬ (({ cps := #[x] } : Str) == { cps := #[y] }) = true := fun e => h (one_inj e)
    rw [if_neg h', if_neg h]
    by_cases k : Txt.lower ⟨#[x]⟩ = Txt.lower ⟨#[y]⟩
    · rw [if_pos (by simp [k]), if_pos k]; rfl
    · rw [if_neg (by simpa using k), if_neg k]; rfl
theorem in_turn {a b : Str} {pre : List Int} {i : Nat} {ki kj d r mini mini' new : Int} {row : List Int} (h : InInv (tl a) (tl b) i pre.length d r mini row) (hl : (row.length : Int) = (a.length : Int))
    (ei : ki = 0 + (i : Int)) (li : i < ((b.length : Int) - 0).toNat) (ej : kj = 0 + (pre.length : Int)) (lj : pre.length < ((a.length : Int) - 0).toNat)
    (hnew : new = if d + subS (Txt.item b ki) (Txt.item a kj) < (if row.getD kj.toNat 0 < r then row.getD kj.toNat 0 else r) + 2 then d + subS (Txt.item b ki) (Txt.item a kj) else (if row.getD kj.toNat 0 < r then row.getD kj.toNat 0 else r) + 2)
    (hm : mini' ≤ mini ∧ mini' ≤ new) :
    ((row.set kj.toNat new).length : Int) = (a.length : Int) ∧ InInv (tl a) (tl b) i (pre ++ [kj]).length (row.getD kj.toNat 0) new mini' (row.set kj.toNat new) := by
  have e1 : kj.toNat = pre.length := by omega
  have e2 : ki.toNat = i := by omega
  refine ⟨by rw [List.length_set]; exact hl, ?_⟩
  rw [List.length_append]
  refine inInv_step h (by rw [tl_len]; omega) (by rw [tl_len]; omega) (old := row.getD kj.toNat 0) ?_ ?_ hm (by rw [e1])
  · rw [e1, List.getD_eq_getElem?_getD, List.getElem?_eq_getElem (by omega)]; rfl
  · rw [hnew, subS_eq (by omega) (by omega) (by omega) (by omega), e1, e2]
    generalize row.getD pre.length 0 = o
    generalize (subC ((tl b).getD i 0) ((tl a).getD pre.length 0) : Int) = c
    split <;> split <;> omega
end Mine
end
section
open PySem PySem.W PySem.Calls PyProof PyProof.Rows PyProof.V PySem.Spec
namespace Mine
theorem and31 (c : Nat) : Builtin.bitAnd (c : Int) 31 = ((c % 32 : Nat) : Int) := by rw [bitAnd_m5]; omega
theorem and127 (c : Nat) : Builtin.bitAnd (c : Int) 127 = ((c % 128 : Nat) : Int) := by rw [bitAnd_m7]; omega
theorem and128' : ∀ c : Nat, c < 256 → Builtin.bitAnd (c : Int) 128 = ((c / 128 * 128 : Nat) : Int) := by decide +kernel
theorem or128' : ∀ c : Nat, c < 256 → Builtin.bitOr (c : Int) 128 = ((c % 128 + 128 : Nat) : Int) := by decide +kernel
theorem or32' : ∀ c : Nat, c < 32 → Builtin.bitOr (c : Int) 32 = ((c + 32 : Nat) : Int) := by decide +kernel
section
variable {prog : Program} {w : World} {A : Around} {E : Value → Shared → Prop} {s : Shared} {t u : Tok} {Q : Value → Shared → Prop} {c : Nat}
theorem r_and31 (h : Q (.int ((c % 32 : Nat) : Int) s.toks) { s with toks := s.toks + 1 }) : wpAny (model prog w) A (binaryOp .BitAnd (.int (c : Int) t) (.int 31 u)) Q E s := and_int (by rw [and31]; exact h)
theorem r_and127 (h : Q (.int ((c % 128 : Nat) : Int) s.toks) { s with toks := s.toks + 1 }) : wpAny (model prog w) A (binaryOp .BitAnd (.int (c : Int) t) (.int 127 u)) Q E s := and_int (by rw [and127]; exact h)
theorem r_and128 (hc : c < 256) (h : Q (.int ((c / 128 * 128 : Nat) : Int) s.toks) { s with toks := s.toks + 1 }) : wpAny (model prog w) A (binaryOp .BitAnd (.int (c : Int) t) (.int 128 u)) Q E s := and_int (by rw [and128' c hc]; exact h)
theorem r_or128 (hc : c < 256) (h : Q (.int ((c % 128 + 128 : Nat) : Int) s.toks) { s with toks := s.toks + 1 }) : wpAny (model prog w) A (binaryOp .BitOr (.int (c : Int) t) (.int 128 u)) Q E s := or_int (by rw [or128' c hc]; exact h)
theorem r_or32 (hc : c < 32) (h : Q (.int ((c + 32 : Nat) : Int) s.toks) { s with toks := s.toks + 1 }) : wpAny (model prog w) A (binaryOp .BitOr (.int (c : Int) t) (.int 32 u)) Q E s := or_int (by rw [or32' c hc]; exact h)
theorem r_add32 (h : Q (.int ((c + 32 : Nat) : Int) s.toks) { s with toks := s.toks + 1 }) : wpAny (model prog w) A (binaryOp .Add (.int (c : Int) t) (.int 32 u)) Q E s := add_int (by rw [show (c : Int) + 32 = ((c + 32 : Nat) : Int) by omega]; exact h)
theorem r_lenF {D : Addr} {ys : List Value} {cs : List Int} {p : Int → Bool} (hl : s.heap.IsList D ys.toArray) (hc : CarriedAll ys (List.map PyData.int (List.filter p cs))) (hn : cs.length ≤ 5)
    (h : Q (.int (((List.filter p cs).length : Nat) : Int) (s.toks + 1)) { s with toks := s.toks + 1 + 1 }) : wpAny (model prog w) A (call (.builtin "len") [.ref D]) Q E s := by
  have e : ys.toArray.size = (List.filter p cs).length := by rw [List.size_toArray, carriedAll_lenA hc, List.length_map]
  have := List.length_filter_le p cs
  refine len_list hl (by rw [e]; omega) (by rw [e]; exact h)
/-- chr of a code that is known as a natural number -/
theorem r_chr {i : Int} (n : Nat) (e : i = (n : Int)) (hn : n ≤ 1114111) (h : Q (.str ⟨#[n]⟩ s.toks) { s with toks := s.toks + 1 }) : wpAny (model prog w) A (call (.builtin "chr") [.int i t]) Q E s := by
  subst e
  exact chr_of_range (by omega) (by omega) (by simpa using h)
end
theorem tl_app (a b : Str) : tl (a ++ b) = tl a ++ tl b := by show (a.cps ++ b.cps).toList = _; rw [Array.toList_append]
theorem tl_hat (n : Nat) : tl (Str.ofString "^" ++ ⟨#[n]⟩) = [94, n] := by rw [tl_app, show tl (Str.ofString "^") = [94] by decide]; rfl
theorem tl_bang (x : Str) : tl (Str.ofString "!" ++ x) = 33 :: tl x := by rw [tl_app, show tl (Str.ofString "!") = [33] by decide]; rfl
theorem len_hat (n : Nat) : (Str.ofString "^" ++ ⟨#[n]⟩ : Str).length ≤ 3 := by rw [← tl_len, tl_hat]; exact Nat.le_succ 2
theorem len_bang_hat (n : Nat) : (Str.ofString "!" ++ (Str.ofString "^" ++ ⟨#[n]⟩) : Str).length ≤ 3 := by rw [← tl_len, tl_bang, tl_hat]; exact Nat.le_refl 3
theorem flat_len {α β : Type} (n : Nat) (f : α → List β) (hf : ∀ a, (f a).length = n) (l : List α) : (l.flatMap f).length = n * l.length := by
  induction l with
  | nil => rfl
  | cons a l ih => rw [List.flatMap_cons, List.length_append, ih, hf, List.length_cons, Nat.mul_succ]; omega
theorem flat_map1 {α : Type} (f : α → Nat) (l : List α) : l.flatMap (fun a => tl ⟨#[f a]⟩) = l.map f := by
  induction l with
  | nil => rfl
  | cons a l ih => rw [List.flatMap_cons, ih]; rfl
end Mine
end
section
set_option maxRecDepth 100000
open PySem PySem.W PySem.Calls PyProof PyProof.Rows PyProof.V PySem.Spec
namespace Mine
def lowN (x : Nat) : Nat := if (65 ≤ x ∧ x ≤ 90) ∨ (192 ≤ x ∧ x ≤ 222 ∧ x ≠ 215) then x + 32 else x
theorem lower_low : ∀ x : Nat, x < 128 → Txt.lower ⟨#[x]⟩ = ⟨#[lowN x]⟩ := by decide +kernel
theorem subC_low {x y : Nat} (hx : x < 128) (hy : y < 128) : subC x y = if x = y then 0 else if lowN x = lowN y then 1 else 2 := by
  unfold subC
  rw [lower_low x hx, lower_low y hy]
  have e : ((⟨#[lowN x]⟩ : Str) = ⟨#[lowN y]⟩) = (lowN x = lowN y) := by
    apply propext
    constructor
    · intro h
      generalize lowN x = u at h ⊢
      generalize lowN y = v at h ⊢
      cases h; rfl
    · intro h; rw [h]
  simp only [e]
/-- each sign of a costs at least f -/
theorem Al.lb {a b : List Nat} {c : Nat} (h : Al a b c) (f : Nat → Nat) (h4 : ∀ x, f x ≤ 4) (hs : ∀ x ∈ a, ∀ y ∈ b, f x ≤ subC x y) : (a.map f).sum + 2 * b.length ≤ c + 2 * a.length := by
  induction h with
  | nil => simp
  | @del a b c x _ ih =>
    have := ih (fun x hx y hy => hs x (.tail _ hx) y hy)
    have := h4 x
    simp only [List.map_cons, List.sum_cons, List.length_cons]; omega
  | @ins a b c y _ ih =>
    have := ih (fun x hx y hy => hs x hx y (.tail _ hy))
    simp only [List.length_cons]; omega
  | @sub a b c x y _ ih =>
    have := ih (fun x hx y hy => hs x (.tail _ hx) y (.tail _ hy))
    have := hs x (.head _) y (.head _)
    simp only [List.map_cons, List.sum_cons, List.length_cons]; omega
theorem tl_inj {a b : Str} (h : tl a = tl b) : a = b := Str.ext' (Array.ext' h)
theorem tl_bang1 (n : Nat) : tl (Str.ofString "!" ++ ⟨#[n]⟩) = [33, n] := by rw [tl_bang]
theorem flatMap_congr' {α : Type} (L : List α) (f g : α → List Nat) (h : ∀ t ∈ L, f t = g t) : L.flatMap f = L.flatMap g := by
  induction L with
  | nil => rfl
  | cons t L ih => rw [List.flatMap_cons, List.flatMap_cons, h t (.head _), ih fun t ht => h t (.tail _ ht)]
theorem carried_at {ys : List Value} {α : Type} {l : List α} {g : α → Str} (h : CarriedAll ys (l.map fun k => PyData.str (g k))) : ∀ (i : Nat) (k : α), l[i]? = some k → ∃ t, ys[i]? = some (.str (g k) t) := by
  induction l generalizing ys with
  | nil => intro i k e; simp at e
  | cons a l ih =>
    intro i k e
    rw [List.map_cons] at h
    obtain ⟨t, vs, rfl, h'⟩ := carriedAll_str_inv h
    cases i with
    | zero => simp only [List.getElem?_cons_zero, Option.some.injEq] at e; subst e; exact ⟨t, rfl⟩
    | succ i => simpa using ih h' i k (by simpa using e)
section
variable {prog : Program} {w : World} {A : Around} {E : Value → Shared → Prop} {s : Shared}
/-- an item of a made list at a place that is not written -/
theorem item_at {value slice : PySem.Expr} {l : Addr} {vs : List Value} {k : Int} {u : Tok} {v : Value} {Q : Value → Shared → Prop}
    (hl : s.heap.IsList l vs.toArray) (h0 : 0 ≤ k) (hhi : k < 1000) (hx : vs[k.toNat]? = some v) (h : Q v s)
    (hs : subscripted slice false (.ref l) (.int k u) = operate [.ref l, .int k u] (getItem (.ref l) (.int k u)) := by with_unfolding_all rfl) :
    wpAny (model prog w) A (subscriptTail value slice (.ref l) (.int k u)) Q E s :=
  tail_any hl.typeIs slot_list_getitem.lookup (wpAny_getItem_list hl h0 (by omega) (by simpa using hx) h) hs
theorem r_lenB {Q : Value → Shared → Prop} {D : Addr} {ys : List Value} {n : Nat} (hl : s.heap.IsList D ys.toArray) (hn : ys.length = n) (hb : n ≤ 1000)
    (h : Q (.int (n : Int) (s.toks + 1)) { s with toks := s.toks + 1 + 1 }) : wpAny (model prog w) A (call (.builtin "len") [.ref D]) Q E s :=
  len_list hl (by simp; omega) (by simpa [hn] using h)
end
end Mine
end
section
set_option maxRecDepth 100000
open PySem PySem.W PySem.Calls PyProof PyProof.Rows PyProof.V PySem.Spec
namespace Mine
structure Rw where
  s : Int
  e : Int
  r : Int
def Rw.dat (x : Rw) : Dat := .tuple [.int x.s, .int x.e, .int x.r]
def rowT (W x : Int) : Rw := ⟨Int.fmod x 30, if Int.fmod x 30 + Int.fmod (Int.fdiv x 7 + 4) (1 + Int.fdiv 12 W) < 30 then Int.fmod x 30 + Int.fmod (Int.fdiv x 7 + 4) (1 + Int.fdiv 12 W) else 30, Int.fmod (Int.fdiv x 11) 2⟩
def rowD (W x : Int) : Dat := .tuple [.int (Int.fmod x 30), .int (if Int.fmod x 30 + Int.fmod (Int.fdiv x 7 + 4) (1 + Int.fdiv 12 W) < 30 then Int.fmod x 30 + Int.fmod (Int.fdiv x 7 + 4) (1 + Int.fdiv 12 W) else 30), .int (Int.fmod (Int.fdiv x 11) 2)]
theorem rowD_eq (W x : Int) : rowD W x = (rowT W x).dat := rfl
theorem width_facts {K : Int} (h0 : 0 ≤ K) (h1 : K < 4) : 1 ≤ 1 + Int.fmod K 2 + Int.fdiv K 2 ∧ 1 + Int.fmod K 2 + Int.fdiv K 2 ≤ 3 ∧ 1 ≤ 1 + Int.fdiv 12 (1 + Int.fmod K 2 + Int.fdiv K 2) ∧ Int.fdiv 12 (1 + Int.fmod K 2 + Int.fdiv K 2) * (1 + Int.fmod K 2 + Int.fdiv K 2) = 12 := by
  have hc : K = 0 ∨ K = 1 ∨ K = 2 ∨ K = 3 := by omega
  rcases hc with rfl | rfl | rfl | rfl <;> decide
/-- what is known of a row -/
structure RowOk (W : Int) (x : Rw) : Prop where
  s0 : 0 ≤ x.s
  s1 : x.s < 30
  le : x.s ≤ x.e
  e1 : x.e ≤ 30
  w : W * (x.e - x.s) ≤ 12
  r : x.r = 0 ∨ x.r = 1
theorem rowT_ok {K : Int} (h0 : 0 ≤ K) (h1 : K < 4) (x : Int) : RowOk (1 + Int.fmod K 2 + Int.fdiv K 2) (rowT (1 + Int.fmod K 2 + Int.fdiv K 2) x) := by
  obtain ⟨w1, w2, w3, w4⟩ := width_facts h0 h1
  generalize 1 + Int.fmod K 2 + Int.fdiv K 2 = W at *
  have a0 := fmod_lo x (n := 30) (by decide)
  have a1 := fmod_hi x (n := 30) (by decide)
  have b0 := fmod_lo (Int.fdiv x 7 + 4) (n := 1 + Int.fdiv 12 W) (by omega)
  have b1 := fmod_hi (Int.fdiv x 7 + 4) (n := 1 + Int.fdiv 12 W) (by omega)
  have c0 := fmod_lo (Int.fdiv x 11) (n := 2) (by decide)
  have c1 := fmod_hi (Int.fdiv x 11) (n := 2) (by decide)
  have hW : W = 1 ∨ W = 2 ∨ W = 3 := by omega
  unfold rowT
  refine ⟨a0, a1, ?_, ?_, ?_, by dsimp only; omega⟩
  · dsimp only; split <;> omega
  · dsimp only; split <;> omega
  · dsimp only
    generalize Int.fmod (Int.fdiv x 7 + 4) (1 + Int.fdiv 12 W) = m at *
    rcases hW with rfl | rfl | rfl <;> split <;> omega
/-- a list of made rows, and the ledger that bears them -/
def RowsAre (led : List (Addr × Obj)) (vs : List Value) (rs : List Rw) : Prop :=
  vs.length = rs.length ∧ ∀ (i : Nat) (x : Rw), rs[i]? = some x → ∃ a t1 t2 t3 n, vs[i]? = some (.ref a) ∧ (a, ({ cls := .type "tuple", data := .seq #[.int x.s t1, .int x.e t2, .int x.r t3] n } : Obj)) ∈ led
theorem dat_row {led : List (Addr × Obj)} {v : Value} {x : Rw} (h : DatIn led v x.dat) : ∃ a t1 t2 t3 n, v = .ref a ∧ (a, ({ cls := .type "tuple", data := .seq #[.int x.s t1, .int x.e t2, .int x.r t3] n } : Obj)) ∈ led := by
  unfold Rw.dat at h
  cases h with
  | @tuple a vs n _ hm hd =>
    cases hd with
    | cons h1 hd =>
      cases hd with
      | cons h2 hd =>
        cases hd with
        | cons h3 hd =>
          cases hd
          cases h1 with
          | int _ t1 =>
            cases h2 with
            | int _ t2 =>
              cases h3 with
              | int _ t3 => exact ⟨a, t1, t2, t3, n, rfl, hm⟩
theorem rows_are {led : List (Addr × Obj)} {vs : List Value} {W : Int} {xs : List Int} (h : DatAll led vs (xs.map (rowD W))) : RowsAre led vs (xs.map (rowT W)) := by
  refine ⟨by rw [h.length, List.length_map, List.length_map], fun i x hx => ?_⟩
  have hi : i < (xs.map (rowD W)).length := by
    have := (List.getElem?_eq_some_iff.mp hx).1
    simpa using this
  obtain ⟨v, hv, hd⟩ := h.get hi
  have e : (xs.map (rowD W))[i] = x.dat := by
    rw [List.getElem?_map] at hx
    cases q : xs[i]? with
    | none => rw [q] at hx; cases hx
    | some k =>
      rw [q] at hx
      simp only [Option.map_some, Option.some.injEq] at hx
      have h2 := (List.getElem?_eq_some_iff.mp q).2
      rw [List.getElem_map, ← hx, ← h2]
      rfl
  rw [e] at hd
  obtain ⟨a, t1, t2, t3, n, rfl, hm⟩ := dat_row hd
  exact ⟨a, t1, t2, t3, n, hv, hm⟩
theorem RowsAre.mono {led led' : List (Addr × Obj)} {vs : List Value} {rs : List Rw} (h : RowsAre led vs rs) (hs : ∀ p ∈ led, p ∈ led') : RowsAre led' vs rs :=
  ⟨h.1, fun i x hx => by obtain ⟨a, t1, t2, t3, n, e, hm⟩ := h.2 i x hx; exact ⟨a, t1, t2, t3, n, e, hs _ hm⟩⟩
section
variable {prog : Program} {w : World} {A : Around} {E : Value → Shared → Prop} {s : Shared} {h₀ : Heap} {L : Addr} {m : Str → Option Value} {env : Env}
/-- each made row gives a text -/
theorem rest_rows {elt : Expr} {x : Str} {scope : Scope} {cl : List (Str × Addr)} {Fin : List Value → List (Addr × Obj) → Prop} {news : List (Addr × Obj)} {S : List (Addr × Obj) → Prop} {vs : List Value} {rs : List Rw} (g : Rw → Str) (hi : RowsAre news vs rs)
    (turn : ∀ row a t1 t2 t3 n I oI C oC D m₂ ys h tk (E' : Value → Shared → Prop), row ∈ rs → LCg.NsObj oC m₂ → m₂ x = some (.ref a) → Fr h₀ L h m → News h₀ L h ((a, ({ cls := .type "tuple", data := .seq #[.int row.s t1, .int row.e t2, .int row.r t3] n } : Obj)) :: (I, oI) :: (C, oC) :: (D, LCg.lst ys) :: news) → LCg.Off3 I C D news → ((@Ne Nat I C) ∧ (@Ne Nat I D) ∧ (@Ne Nat C D)) → S news →
      wpAny (model prog w) A (eval elt (compEnvC scope cl C env)) (LCg.CompEnd h₀ L m { s with heap := h, toks := tk } I oI C oC D (LCg.lst ys) S (fun y news' => KCtEl news (g row) y news')) E' { s with heap := h, toks := tk })
    (hS : S news) (fin : ∀ ys, CarriedAll ys (rs.map fun a => PyData.str (g a)) → Fin ys news) : LCg.CompRest prog w A h₀ L m env elt x scope cl s S (fun i v => vs.toArray[i]? = some v) Fin vs.toArray.size 0 [] news := by
  have hlen : vs.length = rs.length := hi.1
  have key : ∀ (j i : Nat) (ys : List Value), i + j = vs.length → StrsAre ys ((rs.take i).map g) → LCg.CompRest prog w A h₀ L m env elt x scope cl s S (fun i v => vs.toArray[i]? = some v) Fin j i ys news := by
    intro j
    induction j with
    | zero =>
      intro i ys hi' hy
      have e : i = rs.length := by omega
      subst e
      rw [List.take_length] at hy
      have hc := hy.carried
      rw [List.map_map] at hc
      exact LCg.CompRest.zero (fin ys hc)
    | succ j ih =>
      intro i ys hi' hy
      refine LCg.CompRest.succ ?_
      intro v I oI C oC D m₂ h tk E' hv hC hx F N off ne
      obtain ⟨row, hr⟩ : ∃ a, rs[i]? = some a := ⟨rs[i]'(by omega), by simp⟩
      obtain ⟨a, t1, t2, t3, n, ht, hm⟩ := hi.2 i row hr
      have hv' : vs[i]? = some v := by simpa using hv
      rw [ht] at hv'
      cases hv'
      refine wpAny_mono (turn row a t1 t2 t3 n I oI C oC D m₂ ys h tk E' (List.mem_of_getElem? hr) hC hx F (fun p hp => ?_) off ne hS) (fun y s₂ hq => ?_) fun _ _ e => e
      · rcases List.mem_cons.mp hp with rfl | hp
        · exact N _ (.tail _ (.tail _ (.tail _ hm)))
        · exact N p hp
      obtain ⟨h', tk', nw, e, F', N', off', hS', hn, t', hy'⟩ := hq
      rw [hn] at N' off' hS'
      refine ⟨h', tk', news, e, F', N', off', hS', ?_⟩
      rw [hy']
      refine ih (i + 1) _ (by omega) ?_
      rw [List.take_add_one, hr]
      simpa using kct_snoc hy
  have := key vs.length 0 [] (by omega) (by simp only [List.take_zero, List.map_nil]; exact .nil)
  simpa using this
end
end Mine
namespace Mine
def uncF (n : Nat) : Str := if n % 128 < 32 then (if n < 128 then Str.ofString "^" ++ ⟨#[n % 128 + 32 + 32]⟩ else Str.ofString "!" ++ (Str.ofString "^" ++ ⟨#[n % 128 + 32 + 32]⟩)) else (if n < 128 then ⟨#[n % 128]⟩ else Str.ofString "!" ++ ⟨#[n % 128]⟩)
theorem unc_a {n : Nat} (h : n % 128 < 32) (h' : n < 128) : uncF n = Str.ofString "^" ++ ⟨#[n % 128 + 32 + 32]⟩ := by unfold uncF; rw [if_pos h, if_pos h']
theorem unc_b {n : Nat} (h : n % 128 < 32) (h' : ¬ n < 128) : uncF n = Str.ofString "!" ++ (Str.ofString "^" ++ ⟨#[n % 128 + 32 + 32]⟩) := by unfold uncF; rw [if_pos h, if_neg h']
theorem unc_c {n : Nat} (h : ¬ n % 128 < 32) (h' : n < 128) : uncF n = ⟨#[n % 128]⟩ := by unfold uncF; rw [if_neg h, if_pos h']
theorem unc_d {n : Nat} (h : ¬ n % 128 < 32) (h' : ¬ n < 128) : uncF n = Str.ofString "!" ++ ⟨#[n % 128]⟩ := by unfold uncF; rw [if_neg h, if_neg h']
def sgn (k : Int) (c : Nat) : Nat := if k = 0 then c else if k = 1 then c % 128 + 128 else if k = 2 then c % 32 else c % 32 % 128 + 128
def picP (k : Int) (c : Nat) : Str := uncF (sgn k c)
def pageLx (k r : Int) (ps : List Int) : List Nat := ps.flatMap fun p => tl (picP k (64 + 32 * r + p).toNat)
def pageS (k : Int) (x : Rw) : Str := ⟨(pageLx k x.r (rangeKs x.s (x.e - x.s).toNat)).toArray⟩
theorem uncF_len (n : Nat) : (uncF n).length ≤ 3 := by
  rw [← tl_len]
  by_cases h : n % 128 < 32 <;> by_cases h' : n < 128
  · rw [unc_a h h', tl_hat]; exact Nat.le_succ 2
  · rw [unc_b h h', tl_bang, tl_hat]; exact Nat.le_refl 3
  · rw [unc_c h h']; exact Nat.le_of_ble_eq_true rfl
  · rw [unc_d h h', tl_bang1]; exact Nat.le_succ 2
theorem picP_len (k : Int) (c : Nat) : (picP k c).length ≤ 3 := uncF_len _
theorem pageLx_len (k r : Int) (ps : List Int) : (pageLx k r ps).length ≤ 3 * ps.length := by
  induction ps with
  | nil => simp [pageLx]
  | cons p ps ih =>
    have := picP_len k (64 + 32 * r + p).toNat
    unfold pageLx at ih ⊢
    rw [List.flatMap_cons, List.length_append, tl_len, List.length_cons]; omega
theorem pageLx_snoc (k r : Int) (ps : List Int) (p : Int) : pageLx k r (ps ++ [p]) = pageLx k r ps ++ tl (picP k (64 + 32 * r + p).toNat) := by
  unfold pageLx; rw [List.flatMap_append]; simp
end Mine
namespace Mine
theorem page_turn {k r p : Int} {pre : List Int} {page X : Str} (h : tl page = pageLx k r pre ∧ page.length ≤ 3 * pre.length) (hX : X = picP k (64 + 32 * r + p).toNat) : tl (page ++ X) = pageLx k r (pre ++ [p]) ∧ (page ++ X).length ≤ 3 * (pre ++ [p]).length := by
  subst hX
  refine ⟨by rw [tl_app, h.1, pageLx_snoc], ?_⟩
  have := picP_len k (64 + 32 * r + p).toNat
  rw [Str.length_append, List.length_append, List.length_singleton]
  omega
theorem page_start {k r : Int} : tl (Str.ofString "") = pageLx k r [] ∧ (Str.ofString "").length ≤ 3 * ([] : List Int).length := by
  refine ⟨by unfold pageLx; rw [List.flatMap_nil]; decide, by decide⟩
theorem page_end {k r s e : Int} {page : Str} (h : tl page = pageLx k r (rangeKs s (e - s).toNat) ∧ page.length ≤ 3 * (rangeKs s (e - s).toNat).length) : page = pageS k ⟨s, e, r⟩ := tl_inj (by rw [h.1]; rfl)
end Mine
namespace Mine
theorem page_end' {k r s e : Int} {page : Str} (h : tl page = pageLx k r (rangeKs s (e - s).toNat)) : page = pageS k ⟨s, e, r⟩ := tl_inj (by rw [h]; rfl)
end Mine
namespace Mine
def shrG (y : Rw) (l : List Int) (p : Int) : List Int := if y.s ≤ p ∧ p < y.e then l ++ [p] else l
def shr (x y : Rw) : List Int := (rangeKs x.s (x.e - x.s).toNat).filter fun p => decide (y.s ≤ p ∧ p < y.e)
theorem shrG_fold (y : Rw) : ∀ (ks l : List Int), ks.foldl (shrG y) l = l ++ ks.filter fun p => decide (y.s ≤ p ∧ p < y.e)
  | [], l => by simp
  | k :: ks, l => by
    rw [List.foldl_cons, shrG_fold y ks]
    unfold shrG
    by_cases h : y.s ≤ k ∧ k < y.e
    · rw [if_pos h, List.filter_cons_of_pos (by simpa using h)]
      simp
    · rw [if_neg h, List.filter_cons_of_neg (by simpa using h)]
theorem shrG_grows (y : Rw) : KPfGrows (shrG y) := by
  intro l k
  unfold shrG
  split <;> simp
theorem shr_are {x y : Rw} {ys : List Value} (h : IntsAre ys ((rangeKs x.s (x.e - x.s).toNat).foldl (shrG y) [])) : IntsAre ys (shr x y) := by
  rw [shrG_fold] at h
  simpa [shr] using h
theorem shr_len (x y : Rw) : (shr x y).length ≤ (x.e - x.s).toNat := by
  have := List.length_filter_le (fun p => decide (y.s ≤ p ∧ p < y.e)) (rangeKs x.s (x.e - x.s).toNat)
  rw [rangeKs_length] at this
  exact this
end Mine
namespace Mine
def costI (p : Int) : Int := if 1 ≤ p ∧ p ≤ 26 then 1 else 2
def absI (z : Int) : Int := if z < 0 then -z else z
def alongI (k W : Int) (x y : Rw) : Int := 2 * W * (absI (x.s - y.s) + absI (x.e - y.e)) + if k < 2 ∧ x.r ≠ y.r then ((shr x y).map costI).sum else 0
def uponI (W : Int) (x y : Rw) : Int := 2 * min (x.e - x.s) (y.e - y.s) + 2 * W * (max (x.e - x.s) (y.e - y.s) - min (x.e - x.s) (y.e - y.s))
def dueI (k W : Int) (x y : Rw) : Int := if shr x y = [] then uponI W x y else if alongI k W x y < uponI W x y then alongI k W x y else uponI W x y
theorem due_upon {c0 c1 : Int} (W : Int) (x y : Rw) (b : (c0 = x.e - x.s ∨ c0 = y.e - y.s) ∧ c0 ≤ x.e - x.s ∧ c0 ≤ y.e - y.s) (t : (c1 = x.e - x.s ∨ c1 = y.e - y.s) ∧ x.e - x.s ≤ c1 ∧ y.e - y.s ≤ c1) : 2 * c0 + 2 * W * (c1 - c0) = uponI W x y := by
  unfold uponI
  have e0 : c0 = min (x.e - x.s) (y.e - y.s) := by omega
  have e1 : c1 = max (x.e - x.s) (y.e - y.s) := by omega
  rw [e0, e1]
theorem due_none {k W : Int} {x y : Rw} (h : shr x y = []) : uponI W x y = dueI k W x y := by unfold dueI; rw [if_pos h]
theorem due_plain {k W : Int} {x y : Rw} (h : ¬ shr x y = []) (hc : ¬ (k < 2 ∧ x.r ≠ y.r)) : (if 2 * W * ((if x.s - y.s < 0 then -(x.s - y.s) else x.s - y.s) + if x.e - y.e < 0 then -(x.e - y.e) else x.e - y.e) < uponI W x y then 2 * W * ((if x.s - y.s < 0 then -(x.s - y.s) else x.s - y.s) + if x.e - y.e < 0 then -(x.e - y.e) else x.e - y.e) else uponI W x y) = dueI k W x y := by
  unfold dueI alongI absI
  rw [if_neg h, if_neg hc, Int.add_zero]
theorem due_cased {k W a : Int} {x y : Rw} (h : ¬ shr x y = []) (hc : k < 2 ∧ x.r ≠ y.r) (ha : a = 2 * W * ((if x.s - y.s < 0 then -(x.s - y.s) else x.s - y.s) + if x.e - y.e < 0 then -(x.e - y.e) else x.e - y.e) + ((shr x y).map costI).sum) : (if a < uponI W x y then a else uponI W x y) = dueI k W x y := by
  subst ha
  unfold dueI alongI absI
  rw [if_neg h, if_pos hc]
theorem cost_turn {a0 a p : Int} {pre : List Int} (h : a = a0 + (pre.map costI).sum) (v : Int) (hv : v = costI p) : a + v = a0 + ((pre ++ [p]).map costI).sum := by
  subst hv h
  rw [List.map_append, List.sum_append]; simp; omega
end Mine
namespace Mine
theorem cost_turn1 {a0 a p : Int} {pre : List Int} (h : a = a0 + (pre.map costI).sum) (h1 : 1 ≤ p) (h2 : p ≤ 26) : a + 1 = a0 + ((pre ++ [p]).map costI).sum := cost_turn h 1 (by unfold costI; rw [if_pos ⟨h1, h2⟩])
theorem cost_turn2 {a0 a p : Int} {pre : List Int} (h : a = a0 + (pre.map costI).sum) (h1 : ¬ (1 ≤ p ∧ p ≤ 26)) : a + 2 = a0 + ((pre ++ [p]).map costI).sum := cost_turn h 2 (by unfold costI; rw [if_neg h1])
theorem cost_start {a0 : Int} : a0 = a0 + (([] : List Int).map costI).sum := by simp
end Mine
end
section
set_option maxRecDepth 100000
open PySem PySem.W PySem.Calls PyProof PyProof.Rows PyProof.V PySem.Spec
namespace Mine
def PlainPost (h₀ : Heap) (L : Addr) (x : Str) (stored : List Str) (m₀ : Str → Option Value) (R : List (Addr × Obj)) (s₁ : Shared) (Q : Flow → Shared → Prop) (f : Flow) (s₂ : Shared) : Prop :=
  match f with
  | .ret v => Q (.ret v) s₂
  | .brk => Q .next s₂
  | _ => ∃ h' tk m', s₂ = { s₁ with heap := h', toks := tk } ∧ Fr h₀ L h' m' ∧ News h₀ L h' R ∧ ∀ z, z ≠ x → stored.contains z = false → m' z = m₀ z
theorem plain_next {h₀ h' : Heap} {L : Addr} {x : Str} {stored : List Str} {m₀ m' : Str → Option Value} {R big : List (Addr × Obj)} {s₁ : Shared} {Q : Flow → Shared → Prop} {tk : Nat} (F : Fr h₀ L h' m') (N : News h₀ L h' big) (hR : ∀ p ∈ R, p ∈ big) (hm : ∀ z, z ≠ x → stored.contains z = false → m' z = m₀ z) :
    PlainPost h₀ L x stored m₀ R s₁ Q .next { s₁ with heap := h', toks := tk } := ⟨h', tk, m', rfl, F, fun p hp => N p (hR p hp), hm⟩
/-- a for over a range that stores some names -/
theorem loop_plain {prog : Program} {w : World} {A : Around} {E : Value → Shared → Prop} {s : Shared} {env : Env} {h₀ : Heap} {x : Str} {body : List Stmt} {Q : Flow → Shared → Prop} {r : Addr} {a₀ b₀ : Int} {t₀ u₀ v₀ : Tok} {n : Nat} {m₀ : Str → Option Value} {news : List (Addr × Obj)} (stored : List Str)
    (hh : A.handled = none) (hr : IsRange s.heap r a₀ b₀ 1 t₀ u₀ v₀) (hsmall : Builtin.Range.small a₀ b₀ 1 = true) (hn : Builtin.Range.rangeSize a₀ b₀ 1 = (n : Int)) (F : Fr h₀ env.locals s.heap m₀) (N : News h₀ env.locals s.heap news)
    (turn : ∀ k t (u : Str → Option Value) h tk own, a₀ ≤ k → k < a₀ + (n : Int) → Fr h₀ env.locals h (fun y => if y = x then some (.int k t) else if stored.contains y then u y else m₀ y) → News h₀ env.locals h (news ++ own) →
      wpAny (model prog w) A (execs body env) (PlainPost h₀ env.locals x stored m₀ (news ++ own) { s with heap := h, toks := tk } Q) E { s with heap := h, toks := tk })
    (done : ∀ (u : Str → Option Value) h tk, Fr h₀ env.locals h (fun y => if y = x then u y else if stored.contains y then u y else m₀ y) → News h₀ env.locals h news → Q .next { s with heap := h, toks := tk }) :
    wpAny (model prog w) A (pyIter (.ref r)) (fun it s₂ => LoopAtV prog w A h₀ env x body Q E it s₂) E s := by
  refine iter_rangeS (σ := Unit) (news := news) (fun _ m nx => nx = news ∧ ∀ z, z ≠ x → stored.contains z = false → m z = m₀ z) (fun _ _ => ()) () hh hr hsmall hn F N ⟨rfl, fun _ _ _ => rfl⟩ ?_ ?_
  · rintro k t _ m₁ nx h tk own hk hoff ⟨rfl, hm⟩ F₁ N₁
    have hk' := mem_rangeKs hk
    have e : (fun y => if y = x then some (Value.int k t) else m₁ y) = fun y => if y = x then some (Value.int k t) else if stored.contains y then m₁ y else m₀ y := by
      funext y
      by_cases h1 : y = x
      · simp [h1]
      · simp only [if_neg h1]
        cases h2 : stored.contains y with
        | true => simp
        | false => simp only [Bool.false_eq_true, if_false]; exact hm y h1 h2
    rw [e] at F₁
    refine wpAny_mono (turn k t m₁ h tk own hk'.1 hk'.2 F₁ N₁) (fun f s₂ p => ?_) fun _ _ e => e
    have fin : (∃ h' tk' m', s₂ = { ({ s with heap := h, toks := tk } : Shared) with heap := h', toks := tk' } ∧ Fr h₀ env.locals h' m' ∧ News h₀ env.locals h' (nx ++ own) ∧ ∀ z, z ≠ x → stored.contains z = false → m' z = m₀ z) →
        InvEndN h₀ env.locals (fun m' nx' => nx' = nx ∧ ∀ z, z ≠ x → stored.contains z = false → m' z = m₀ z) own (nx.map (·.1)) { s with heap := h, toks := tk } s₂ := by
      rintro ⟨h', tk', m', rfl, F₂, N₂, hm'⟩
      exact ⟨h', tk', m', _, nx, rfl, F₂, N₂, fun p hp => List.mem_append_left _ hp, fun p hp => List.mem_append_right _ hp, rfl, rfl, hm'⟩
    cases f with
    | ret v => exact p
    | brk => exact p
    | next => exact fin p
    | cont => exact fin p
  · rintro m₁ nx h tk ⟨rfl, hm⟩ F₁ N₁
    refine done m₁ h tk ?_ N₁
    have e : (fun y => if y = x then m₁ y else if stored.contains y then m₁ y else m₀ y) = m₁ := by
      funext y
      by_cases h1 : y = x
      · simp [h1]
      · simp only [if_neg h1]
        cases h2 : stored.contains y with
        | true => simp
        | false => simp only [Bool.false_eq_true, if_false]; exact (hm y h1 h2).symm
    rw [e]; exact F₁
theorem rows_at {led : List (Addr × Obj)} {vs : List Value} {rs : List Rw} (h : RowsAre led vs rs) {k : Int} (h0 : 0 ≤ k) (h1 : k < rs.length) : ∃ x a t1 t2 t3 n, rs[k.toNat]? = some x ∧ vs[k.toNat]? = some (.ref a) ∧ (a, ({ cls := .type "tuple", data := .seq #[.int x.s t1, .int x.e t2, .int x.r t3] n } : Obj)) ∈ led := by
  have hl : k.toNat < rs.length := by omega
  have e : rs[k.toNat]? = some rs[k.toNat] := by simp [hl]
  obtain ⟨a, t1, t2, t3, n, hv, hm⟩ := h.2 _ _ e
  exact ⟨_, a, t1, t2, t3, n, e, hv, hm⟩
theorem stored_off1 {z a : Str} (hs : [a].contains z = false) : z ≠ a := by
  rintro rfl; simp at hs
/-- all that the law asks of two rows (proved in Q1) -/
def Asks1 (k W : Int) (x y : Rw) : Prop := ∃ v : Nat, IsMin (tl (pageS k x)) (tl (pageS k y)) v ∧ (v : Int) = dueI k W x y
end Mine
namespace Mine
theorem News.front2 {h₀ h : Heap} {L : Addr} {news : List (Addr × Obj)} {p q : Addr × Obj} (N : News h₀ L h news) (hp : p ∈ news) (hq : q ∈ news) : News h₀ L h (p :: q :: news) := fun z hz => by
  rcases List.mem_cons.mp hz with rfl | hz
  · exact N _ hp
  rcases List.mem_cons.mp hz with rfl | hz
  · exact N _ hq
  · exact N _ hz
end Mine
end
section
open PySem PyProof PySem.W PyProof.Rows
namespace Mine
/-- each sign of a costs at least f, unless a pair of `own` stands somewhere -/
theorem Al.lb_or {a b : List Nat} {c : Nat} (h : Al a b c) (f : Nat → Nat) (h4 : ∀ x, f x ≤ 4) (own : Nat → Nat → Prop) (hs : ∀ x ∈ a, ∀ y ∈ b, ¬ own x y → f x ≤ subC x y) :
    ((a.map f).sum + 2 * b.length ≤ c + 2 * a.length) ∨ ∃ a1 x a2 b1 y b2 c1 c2, a = a1 ++ x :: a2 ∧ b = b1 ++ y :: b2 ∧ own x y ∧ Al a1 b1 c1 ∧ Al a2 b2 c2 ∧ c = c1 + subC x y + c2 := by
  induction h with
  | nil => exact .inl (by simp)
  | @del a b c x h0 ih =>
    rcases ih (fun x hx y hy => hs x (.tail _ hx) y hy) with i | ⟨a1, u, a2, b1, v, b2, c1, c2, rfl, rfl, ho, h1, h2, rfl⟩
    · have := h4 x
      exact .inl (by simp only [List.map_cons, List.sum_cons, List.length_cons]; omega)
    · exact .inr ⟨x :: a1, u, a2, b1, v, b2, c1 + 2, c2, rfl, rfl, ho, .del x h1, h2, by omega⟩
  | @ins a b c y h0 ih =>
    rcases ih (fun x hx y hy => hs x hx y (.tail _ hy)) with i | ⟨a1, u, a2, b1, v, b2, c1, c2, rfl, rfl, ho, h1, h2, rfl⟩
    · exact .inl (by simp only [List.length_cons]; omega)
    · exact .inr ⟨a1, u, a2, y :: b1, v, b2, c1 + 2, c2, rfl, rfl, ho, .ins y h1, h2, by omega⟩
  | @sub a b c x y h0 ih =>
    by_cases ho : own x y
    · exact .inr ⟨[], x, a, [], y, b, 0, c, rfl, rfl, ho, .nil, h0, by omega⟩
    · rcases ih (fun x hx y hy => hs x (.tail _ hx) y (.tail _ hy)) with i | ⟨a1, u, a2, b1, v, b2, c1, c2, rfl, rfl, ho', h1, h2, rfl⟩
      · have := hs x (.head _) y (.head _) ho
        exact .inl (by simp only [List.map_cons, List.sum_cons, List.length_cons]; omega)
      · exact .inr ⟨x :: a1, u, a2, y :: b1, v, b2, c1 + subC x y, c2, rfl, rfl, ho', .sub x y h1, h2, by omega⟩
def pageN (pre : List Nat) (ba s n : Nat) : List Nat := (List.range' s n).flatMap fun p => pre ++ [ba + p]
theorem pageN_succ (pre : List Nat) (ba s n : Nat) : pageN pre ba s (n + 1) = pre ++ (ba + s) :: pageN pre ba (s + 1) n := by
  unfold pageN
  rw [List.range'_succ, List.flatMap_cons]
  simp
theorem pageN_len (pre : List Nat) (ba s n : Nat) : (pageN pre ba s n).length = (pre.length + 1) * n := by
  induction n generalizing s with
  | zero => rfl
  | succ n ih => rw [pageN_succ, List.length_append, List.length_cons, ih, Nat.mul_succ]; omega
theorem pageN_app (pre : List Nat) (ba s n k : Nat) : pageN pre ba s (n + k) = pageN pre ba s n ++ pageN pre ba (s + n) k := by
  unfold pageN
  rw [← List.flatMap_append, List.range'_append_1]
theorem pageN_mem {pre : List Nat} {ba s n x : Nat} (h : x ∈ pageN pre ba s n) : x ∈ pre ∨ ∃ p, s ≤ p ∧ p < s + n ∧ x = ba + p := by
  obtain ⟨p, hp, hx⟩ := List.mem_flatMap.mp h
  have := List.mem_range'_1.mp hp
  rcases List.mem_append.mp hx with hx | hx
  · exact .inl hx
  · exact .inr ⟨p, this.1, this.2, List.mem_singleton.mp hx⟩
theorem pre_split : ∀ {pre T a1 a2 : List Nat} {x : Nat}, x ∉ pre → pre ++ T = a1 ++ x :: a2 → ∃ t, a1 = pre ++ t ∧ T = t ++ x :: a2
  | [], T, a1, a2, x, _, h => ⟨a1, rfl, h⟩
  | m :: pre, T, [], a2, x, hx, h => by
    simp only [List.cons_append, List.nil_append, List.cons.injEq] at h
    exact absurd (by rw [h.1]; exact .head _) hx
  | m :: pre, T, z :: a1, a2, x, hx, h => by
    simp only [List.cons_append, List.cons.injEq] at h
    obtain ⟨t, h1, h2⟩ := pre_split (fun q => hx (.tail _ q)) h.2
    exact ⟨t, by rw [h1, h.1]; rfl, h2⟩
theorem page_split {pre : List Nat} {ba x : Nat} {a2 : List Nat} (hx : x ∉ pre) : ∀ {n s : Nat} {a1 : List Nat}, pageN pre ba s n = a1 ++ x :: a2 → ∃ p, s ≤ p ∧ p < s + n ∧ x = ba + p ∧ a1 = pageN pre ba s (p - s) ++ pre ∧ a2 = pageN pre ba (p + 1) (s + n - (p + 1))
  | 0, s, a1, h => by
    have : (pageN pre ba s 0).length = (a1 ++ x :: a2).length := by rw [h]
    rw [pageN_len] at this
    simp at this
  | n + 1, s, a1, h => by
    rw [pageN_succ] at h
    obtain ⟨t, rfl, ht⟩ := pre_split hx h
    cases t with
    | nil =>
      simp only [List.nil_append, List.cons.injEq] at ht
      refine ⟨s, Nat.le_refl _, by omega, ht.1.symm, ?_, ?_⟩
      · rw [Nat.sub_self]; simp [pageN]
      · rw [← ht.2, show s + (n + 1) - (s + 1) = n by omega]
    | cons z t =>
      simp only [List.cons_append, List.cons.injEq] at ht
      obtain ⟨p, h1, h2, h3, h4, h5⟩ := page_split hx ht.2
      refine ⟨p, by omega, by omega, h3, ?_, by rw [h5, show s + 1 + n - (p + 1) = s + (n + 1) - (p + 1) by omega]⟩
      rw [show p - s = (p - (s + 1)) + 1 by omega, pageN_succ, h4, ← ht.1]
      simp
/-- what two letters of one place cost -/
def kap (ba bb p : Nat) : Nat := if ba = bb then 0 else if 1 ≤ p ∧ p ≤ 26 then 1 else 2
theorem kap_comm (ba bb p : Nat) : kap ba bb p = kap bb ba p := by
  unfold kap
  by_cases h : ba = bb
  · rw [if_pos h, if_pos h.symm]
  · have h' : ¬ bb = ba := fun e => h e.symm
    simp only [h, h', if_false]
theorem kap_le (ba bb p : Nat) : kap ba bb p ≤ 2 := by
  unfold kap
  split
  · omega
  · split <;> omega
theorem subC_let {ba bb p q : Nat} (ha : ba = 64 ∨ ba = 96) (hb : bb = 64 ∨ bb = 96) (hp : p < 30) (hq : q < 30) : subC (ba + p) (bb + q) = if p = q then kap ba bb p else 2 := by
  rw [subC_low (by omega) (by omega)]
  unfold kap lowN
  rcases ha with rfl | rfl <;> rcases hb with rfl | rfl <;> (repeat' split) <;> omega
theorem subC_mark {ba p m : Nat} (ha : ba = 64 ∨ ba = 96) (hp : p < 30) (hm : m = 33 ∨ m = 94) : subC (ba + p) m = 2 := by
  rw [subC_low (by omega) (by omega)]
  unfold lowN
  rcases ha with rfl | rfl <;> rcases hm with rfl | rfl <;> (repeat' split) <;> omega
def sumK (ba bb s n : Nat) : Nat := ((List.range' s n).map (kap ba bb)).sum
theorem sumK_comm (ba bb s n : Nat) : sumK ba bb s n = sumK bb ba s n := by
  unfold sumK
  congr 2
  funext p
  exact kap_comm _ _ _
theorem sumK_app (ba bb s n k : Nat) : sumK ba bb s (n + k) = sumK ba bb s n + sumK ba bb (s + n) k := by
  unfold sumK
  rw [← List.sum_append, ← List.map_append, List.range'_append_1]
theorem sumK_one (ba bb s : Nat) : sumK ba bb s 1 = kap ba bb s := by unfold sumK; simp
theorem sumK_le (ba bb s n : Nat) : sumK ba bb s n ≤ 2 * n := by
  induction n generalizing s with
  | zero => exact Nat.le_refl _
  | succ n ih => rw [Nat.add_comm, sumK_app, sumK_one]; have := ih (s + 1); have := kap_le ba bb s; omega
theorem sum_page {pre : List Nat} {ba : Nat} (f : Nat → Nat) (g : Nat → Nat) (hpre : ∀ m ∈ pre, f m = 0) (hf : ∀ p, p < 30 → f (ba + p) = g p) : ∀ n s, s + n ≤ 30 → ((pageN pre ba s n).map f).sum = ((List.range' s n).map g).sum
  | 0, s, _ => rfl
  | n + 1, s, h => by
    rw [pageN_succ, List.map_append, List.sum_append, List.map_cons, List.sum_cons, sum_page f g hpre hf n (s + 1) (by omega), hf s (by omega), List.range'_succ, List.map_cons, List.sum_cons]
    have : (pre.map f).sum = 0 := by
      clear hf h
      induction pre with
      | nil => rfl
      | cons m pre ih => rw [List.map_cons, List.sum_cons, hpre m (.head _), ih fun m hm => hpre m (.tail _ hm)]
    omega
section
variable {pre : List Nat} {ba bb : Nat} (hpre : ∀ m ∈ pre, m = 33 ∨ m = 94) (ha : ba = 64 ∨ ba = 96) (hb : bb = 64 ∨ bb = 96)
include hpre ha hb
theorem lb_kap {s n s' n' c : Nat} {t t' : List Nat} (ht : ∀ m ∈ t, m = 33 ∨ m = 94) (ht' : ∀ m ∈ t', m = 33 ∨ m = 94) (hl : t.length = t'.length) (h1 : s + n ≤ 30) (h2 : s' + n' ≤ 30) (h : Al (pageN pre ba s n ++ t) (pageN pre bb s' n' ++ t') c) :
    sumK ba bb s n + 2 * ((pre.length + 1) * n') ≤ c + 2 * ((pre.length + 1) * n) := by
  have h3 := h.lb (fun x => if ba ≤ x ∧ x < ba + 30 then kap ba bb (x - ba) else 0) (fun x => by have := kap_le ba bb (x - ba); split <;> omega) (fun x hx y hy => by
    by_cases q : ba ≤ x ∧ x < ba + 30
    · rw [if_pos q]
      have ex : x = ba + (x - ba) := by omega
      have hy' : (y = 33 ∨ y = 94) ∨ ∃ p, p < 30 ∧ y = bb + p := by
        rcases List.mem_append.mp hy with hy | hy
        · rcases pageN_mem hy with hy | ⟨p, _, hp, e⟩
          · exact .inl (hpre y hy)
          · exact .inr ⟨p, by omega, e⟩
        · exact .inl (ht' y hy)
      rcases hy' with hm | ⟨p, hp, rfl⟩
      · have := kap_le ba bb (x - ba)
        rw [ex, subC_mark ha (by omega) hm]
        rw [show ba + (x - ba) - ba = x - ba by omega]
        exact this
      · rw [ex, subC_let ha hb (by omega) hp]
        rw [show ba + (x - ba) - ba = x - ba by omega]
        split
        · exact Nat.le_refl _
        · exact kap_le _ _ _
    · rw [if_neg q]; exact Nat.zero_le _)
  rw [List.map_append, List.sum_append, List.length_append, List.length_append, pageN_len, pageN_len,
    sum_page _ (kap ba bb) (fun m hm => if_neg (by have := hpre m hm; omega)) (fun p hp => by rw [if_pos (by omega), show ba + p - ba = p by omega]) n s h1] at h3
  unfold sumK
  omega
theorem lb_upon {s n s' n' c : Nat} (h1 : s + n ≤ 30) (h2 : s' + n' ≤ 30) (h : Al (pageN pre ba s n) (pageN pre bb s' n') c) :
    (2 * n + 2 * ((pre.length + 1) * n') ≤ c + 2 * ((pre.length + 1) * n)) ∨ ∃ p, s ≤ p ∧ p < s + n ∧ s' ≤ p ∧ p < s' + n' ∧ ∃ c1 c2, Al (pageN pre ba s (p - s) ++ pre) (pageN pre bb s' (p - s') ++ pre) c1 ∧ Al (pageN pre ba (p + 1) (s + n - (p + 1))) (pageN pre bb (p + 1) (s' + n' - (p + 1))) c2 ∧ c = c1 + kap ba bb p + c2 := by
  have h3 := h.lb_or (fun x => if ba ≤ x ∧ x < ba + 30 then 2 else 0) (fun x => by split <;> omega) (fun x y => ∃ p, p < 30 ∧ x = ba + p ∧ y = bb + p) (fun x hx y hy hno => by
    by_cases q : ba ≤ x ∧ x < ba + 30
    · rw [if_pos q]
      have ex : x = ba + (x - ba) := by omega
      rcases pageN_mem hy with hy | ⟨p, _, hp, rfl⟩
      · rw [ex, subC_mark ha (by omega) (hpre y hy)]; exact Nat.le_refl _
      · rw [ex, subC_let ha hb (by omega) (by omega), if_neg fun e => hno ⟨p, by omega, by omega, rfl⟩]
        exact Nat.le_refl _
    · rw [if_neg q]; exact Nat.zero_le _)
  rcases h3 with h3 | ⟨a1, x, a2, b1, y, b2, c1, c2, ea, eb, ⟨p, hp, rfl, rfl⟩, A1, A2, rfl⟩
  · left
    rw [pageN_len, pageN_len, sum_page _ (fun _ => 2) (fun m hm => if_neg (by have := hpre m hm; omega)) (fun p hp => if_pos (by omega)) n s h1] at h3
    have : ((List.range' s n).map fun _ => 2).sum = 2 * n := by
      clear h h1 h2 h3
      induction n generalizing s with
      | zero => rfl
      | succ n ih => rw [List.range'_succ, List.map_cons, List.sum_cons, ih]; omega
    omega
  · right
    obtain ⟨p1, u1, u2, u3, rfl, rfl⟩ := page_split (fun q => by have := hpre _ q; omega) ea
    obtain ⟨p2, v1, v2, v3, rfl, rfl⟩ := page_split (fun q => by have := hpre _ q; omega) eb
    have e1 : p1 = p := by omega
    have e2 : p2 = p := by omega
    subst e1 e2
    refine ⟨p2, u1, u2, v1, v2, c1, c2, A1, A2, ?_⟩
    rw [subC_let ha hb hp hp, if_pos rfl]
/-- along: from a pair of one place on -/
theorem lb_along {s n s' n' p c1 c2 : Nat} (h1 : s + n ≤ 30) (h2 : s' + n' ≤ 30) (p1 : s ≤ p) (p2 : p < s + n) (p3 : s' ≤ p) (p4 : p < s' + n') (A1 : Al (pageN pre ba s (p - s) ++ pre) (pageN pre bb s' (p - s') ++ pre) c1) (A2 : Al (pageN pre ba (p + 1) (s + n - (p + 1))) (pageN pre bb (p + 1) (s' + n' - (p + 1))) c2) :
    2 * ((pre.length + 1) * (max s s' - min s s')) + 2 * ((pre.length + 1) * (max (s + n) (s' + n') - min (s + n) (s' + n'))) + sumK ba bb (max s s') (min (s + n) (s' + n') - max s s') ≤ c1 + kap ba bb p + c2 := by
  have B1 := lb_kap hpre ha hb hpre hpre rfl (by omega) (by omega) A1
  have B1' := lb_kap hpre hb ha hpre hpre rfl (by omega) (by omega) A1.symm
  have A2' : Al (pageN pre ba (p + 1) (s + n - (p + 1)) ++ []) (pageN pre bb (p + 1) (s' + n' - (p + 1)) ++ []) c2 := by simpa using A2
  have B2 := lb_kap hpre ha hb (by simp) (by simp) rfl (by omega) (by omega) A2'
  have B2' := lb_kap hpre hb ha (by simp) (by simp) rfl (by omega) (by omega) A2'.symm
  rw [sumK_comm bb ba] at B1' B2'
  have key : sumK ba bb (max s s') (min (s + n) (s' + n') - max s s') = sumK ba bb (max s s') (p - max s s') + kap ba bb p + sumK ba bb (p + 1) (min (s + n) (s' + n') - (p + 1)) := by
    rw [show min (s + n) (s' + n') - max s s' = (p - max s s') + (1 + (min (s + n) (s' + n') - (p + 1))) by omega, sumK_app, sumK_app, sumK_one, show max s s' + (p - max s s') = p by omega]
    omega
  rw [key]
  have m1 : (pre.length + 1) * (max s s' - min s s') + (pre.length + 1) * (p - max s s') = (pre.length + 1) * (p - min s s') := by rw [← Nat.mul_add]; congr 1; omega
  have m2 : (pre.length + 1) * (max (s + n) (s' + n') - min (s + n) (s' + n')) + (pre.length + 1) * (min (s + n) (s' + n') - (p + 1)) = (pre.length + 1) * (max (s + n) (s' + n') - (p + 1)) := by rw [← Nat.mul_add]; congr 1; omega
  have C1 : 2 * ((pre.length + 1) * (max s s' - min s s')) + sumK ba bb (max s s') (p - max s s') ≤ c1 := by
    rcases Nat.le_total s s' with q | q
    · rw [show max s s' = s' by omega, show min s s' = s by omega] at m1 ⊢; omega
    · rw [show max s s' = s by omega, show min s s' = s' by omega] at m1 ⊢; omega
  have C2 : 2 * ((pre.length + 1) * (max (s + n) (s' + n') - min (s + n) (s' + n'))) + sumK ba bb (p + 1) (min (s + n) (s' + n') - (p + 1)) ≤ c2 := by
    rcases Nat.le_total (s + n) (s' + n') with q | q
    · rw [show max (s + n) (s' + n') = s' + n' by omega, show min (s + n) (s' + n') = s + n by omega] at m2 ⊢; omega
    · rw [show max (s + n) (s' + n') = s + n by omega, show min (s + n) (s' + n') = s' + n' by omega] at m2 ⊢; omega
  omega
/-- block by block -/
theorem al_blocks {s s' n : Nat} (h1 : s + n ≤ 30) (h2 : s' + n ≤ 30) : Al (pageN pre ba s n) (pageN pre bb s' n) (if s = s' then sumK ba bb s n else 2 * n) := by
  induction n generalizing s s' with
  | zero => exact Al.nil.cast (by unfold sumK; simp)
  | succ n ih =>
    rw [pageN_succ, pageN_succ]
    have h := (Al.refl pre).append (Al.sub (ba + s) (bb + s') (ih (s := s + 1) (s' := s' + 1) (by omega) (by omega)))
    refine h.cast ?_
    rw [subC_let ha hb (by omega) (by omega)]
    by_cases e : s = s'
    · subst e
      rw [if_pos rfl, if_pos rfl, if_pos rfl, show n + 1 = 1 + n by omega, sumK_app, sumK_one]; omega
    · rw [if_neg (by omega), if_neg e, if_neg e]; omega
theorem al_upon {s n s' n' : Nat} (h1 : s + n ≤ 30) (h2 : s' + n' ≤ 30) (hne : s ≠ s' ∨ min n n' = 0) : Al (pageN pre ba s n) (pageN pre bb s' n') (2 * min n n' + 2 * ((pre.length + 1) * (max n n' - min n n'))) := by
  have hz : ∀ k, k = min n n' → (if s = s' then sumK ba bb s k else 2 * k) = 2 * min n n' := by
    intro k hk
    subst hk
    rcases hne with e | e
    · rw [if_neg e]
    · rw [e]; unfold sumK; simp
  rcases Nat.le_total n n' with q | q
  · have h := (al_blocks hpre ha hb (s := s) (s' := s') (n := n) h1 (by omega)).append (Al.ofNil (pageN pre bb (s' + n) (n' - n)))
    rw [List.append_nil, ← pageN_app, show n + (n' - n) = n' by omega] at h
    refine h.cast ?_
    rw [pageN_len, hz n (by omega), show max n n' = n' by omega, show min n n' = n by omega]
  · have h := (al_blocks hpre ha hb (s := s) (s' := s') (n := n') (by omega) h2).append (Al.toNil (pageN pre ba (s + n') (n - n')))
    rw [List.append_nil, ← pageN_app, show n' + (n - n') = n by omega] at h
    refine h.cast ?_
    rw [pageN_len, hz n' (by omega), show max n n' = n by omega, show min n n' = n' by omega]
theorem al_edge {s k s' k' d : Nat} (h : (k = 0 ∧ d = k') ∨ (k' = 0 ∧ d = k)) : Al (pageN pre ba s k) (pageN pre bb s' k') (2 * ((pre.length + 1) * d)) := by
  rcases h with ⟨rfl, rfl⟩ | ⟨rfl, rfl⟩
  · exact (Al.ofNil (pageN pre bb s' d)).cast (by rw [pageN_len])
  · exact (Al.toNil (pageN pre ba s d)).cast (by rw [pageN_len])
theorem al_along {s n s' n' : Nat} (h1 : s + n ≤ 30) (h2 : s' + n' ≤ 30) (hov : max s s' ≤ min (s + n) (s' + n')) : Al (pageN pre ba s n) (pageN pre bb s' n')
    (2 * ((pre.length + 1) * (max s s' - min s s')) + 2 * ((pre.length + 1) * (max (s + n) (s' + n') - min (s + n) (s' + n'))) + sumK ba bb (max s s') (min (s + n) (s' + n') - max s s')) := by
  have e1 : pageN pre ba s n = pageN pre ba s (max s s' - s) ++ (pageN pre ba (max s s') (min (s + n) (s' + n') - max s s') ++ pageN pre ba (min (s + n) (s' + n')) (s + n - min (s + n) (s' + n'))) := by
    have a1 := pageN_app pre ba (max s s') (min (s + n) (s' + n') - max s s') (s + n - min (s + n) (s' + n'))
    rw [show max s s' + (min (s + n) (s' + n') - max s s') = min (s + n) (s' + n') by omega] at a1
    rw [← a1]
    have a2 := pageN_app pre ba s (max s s' - s) (min (s + n) (s' + n') - max s s' + (s + n - min (s + n) (s' + n')))
    rw [show s + (max s s' - s) = max s s' by omega] at a2
    rw [← a2]
    congr 1
    omega
  have e2 : pageN pre bb s' n' = pageN pre bb s' (max s s' - s') ++ (pageN pre bb (max s s') (min (s + n) (s' + n') - max s s') ++ pageN pre bb (min (s + n) (s' + n')) (s' + n' - min (s + n) (s' + n'))) := by
    have a1 := pageN_app pre bb (max s s') (min (s + n) (s' + n') - max s s') (s' + n' - min (s + n) (s' + n'))
    rw [show max s s' + (min (s + n) (s' + n') - max s s') = min (s + n) (s' + n') by omega] at a1
    rw [← a1]
    have a2 := pageN_app pre bb s' (max s s' - s') (min (s + n) (s' + n') - max s s' + (s' + n' - min (s + n) (s' + n')))
    rw [show s' + (max s s' - s') = max s s' by omega] at a2
    rw [← a2]
    congr 1
    omega
  rw [e1, e2]
  have m := al_blocks hpre ha hb (s := max s s') (s' := max s s') (n := min (s + n) (s' + n') - max s s') (by omega) (by omega)
  rw [if_pos rfl] at m
  have g1 : (max s s' - s = 0 ∧ max s s' - min s s' = max s s' - s') ∨ (max s s' - s' = 0 ∧ max s s' - min s s' = max s s' - s) := by
    rcases Nat.le_total s s' with q | q
    · rw [Nat.max_eq_right q, Nat.min_eq_left q]; exact .inr ⟨Nat.sub_self _, rfl⟩
    · rw [Nat.max_eq_left q, Nat.min_eq_right q]; exact .inl ⟨Nat.sub_self _, rfl⟩
  have g2 : ∀ e e' : Nat, (e - min e e' = 0 ∧ max e e' - min e e' = e' - min e e') ∨ (e' - min e e' = 0 ∧ max e e' - min e e' = e - min e e') := by
    intro e e'
    rcases Nat.le_total e e' with q | q
    · rw [Nat.max_eq_right q, Nat.min_eq_left q]; exact .inl ⟨Nat.sub_self _, rfl⟩
    · rw [Nat.max_eq_left q, Nat.min_eq_right q]; exact .inr ⟨Nat.sub_self _, rfl⟩
  have f1 := al_edge (pre := pre) (ba := ba) (bb := bb) hpre ha hb (s := s) (s' := s') g1
  have f2 := al_edge (pre := pre) (ba := ba) (bb := bb) hpre ha hb (s := min (s + n) (s' + n')) (s' := min (s + n) (s' + n')) (g2 (s + n) (s' + n'))
  refine (f1.append (m.append f2)).cast ?_
  omega
/-- what the law asks, in natural numbers -/
theorem min_pages {s n s' n' : Nat} (h1 : s + n ≤ 30) (h2 : s' + n' ≤ 30) : IsMin (pageN pre ba s n) (pageN pre bb s' n')
    (if max s s' < min (s + n) (s' + n') then min (2 * ((pre.length + 1) * (max s s' - min s s')) + 2 * ((pre.length + 1) * (max (s + n) (s' + n') - min (s + n) (s' + n'))) + sumK ba bb (max s s') (min (s + n) (s' + n') - max s s')) (2 * min n n' + 2 * ((pre.length + 1) * (max n n' - min n n')))
      else 2 * min n n' + 2 * ((pre.length + 1) * (max n n' - min n n'))) := by
  have low : ∀ c, Al (pageN pre ba s n) (pageN pre bb s' n') c → 2 * min n n' + 2 * ((pre.length + 1) * (max n n' - min n n')) ≤ c ∨ (max s s' < min (s + n) (s' + n') ∧ 2 * ((pre.length + 1) * (max s s' - min s s')) + 2 * ((pre.length + 1) * (max (s + n) (s' + n') - min (s + n) (s' + n'))) + sumK ba bb (max s s') (min (s + n) (s' + n') - max s s') ≤ c) := by
    intro c h
    rcases Nat.le_total n n' with q | q
    · rcases lb_upon hpre ha hb h1 h2 h with k | ⟨p, p1, p2, p3, p4, c1, c2, A1, A2, rfl⟩
      · left
        have m : (pre.length + 1) * (n' - n) + (pre.length + 1) * n = (pre.length + 1) * n' := by rw [← Nat.mul_add]; congr 1; omega
        rw [show max n n' = n' by omega, show min n n' = n by omega]
        omega
      · exact .inr ⟨by omega, lb_along hpre ha hb h1 h2 p1 p2 p3 p4 A1 A2⟩
    · rcases lb_upon hpre hb ha h2 h1 h.symm with k | ⟨p, p1, p2, p3, p4, c1, c2, A1, A2, rfl⟩
      · left
        have m : (pre.length + 1) * (n - n') + (pre.length + 1) * n' = (pre.length + 1) * n := by rw [← Nat.mul_add]; congr 1; omega
        rw [show max n n' = n by omega, show min n n' = n' by omega]
        omega
      · rw [kap_comm bb ba]
        exact .inr ⟨by omega, lb_along hpre ha hb h1 h2 p3 p4 p1 p2 A1.symm A2.symm⟩
  by_cases hov : max s s' < min (s + n) (s' + n')
  · rw [if_pos hov]
    have AL := al_along hpre ha hb h1 h2 (Nat.le_of_lt hov)
    refine ⟨?_, fun c h => ?_⟩
    · by_cases e : s = s'
      · have hle := sumK_le ba bb (max s s') (min (s + n) (s' + n') - max s s')
        rw [Nat.min_eq_left]
        · exact AL
        · subst e
          rw [show max s s = s by omega, show min s s = s by omega, Nat.sub_self, Nat.mul_zero, show max (s + n) (s + n') - min (s + n) (s + n') = max n n' - min n n' by omega]
          rw [show max s s = s by omega] at hle
          omega
      · have AU := al_upon hpre ha hb h1 h2 (.inl e)
        rcases Nat.le_total (2 * ((pre.length + 1) * (max s s' - min s s')) + 2 * ((pre.length + 1) * (max (s + n) (s' + n') - min (s + n) (s' + n'))) + sumK ba bb (max s s') (min (s + n) (s' + n') - max s s')) (2 * min n n' + 2 * ((pre.length + 1) * (max n n' - min n n'))) with q | q
        · rw [Nat.min_eq_left q]; exact AL
        · rw [Nat.min_eq_right q]; exact AU
    · rcases low c h with k | ⟨_, k⟩
      · exact Nat.le_trans (Nat.min_le_right _ _) k
      · exact Nat.le_trans (Nat.min_le_left _ _) k
  · rw [if_neg hov]
    refine ⟨al_upon hpre ha hb h1 h2 (by omega), fun c h => ?_⟩
    rcases low c h with k | ⟨k, _⟩
    · exact k
    · exact absurd k hov
end
end Mine
end
section
open PySem PyProof PySem.W PyProof.Rows
namespace Mine
def preN (k : Int) : List Nat := if k = 0 then [] else if k = 1 then [33] else if k = 2 then [94] else [33, 94]
def baseN (k r : Int) : Nat := if k < 2 then (64 + 32 * r).toNat else 64
theorem preN_marks (k : Int) : ∀ m ∈ preN k, m = 33 ∨ m = 94 := by
  intro m hm
  unfold preN at hm
  split at hm
  · simp at hm
  · split at hm
    · simp at hm; exact .inl hm
    · split at hm
      · simp at hm; exact .inr hm
      · simp at hm; exact hm
theorem baseN_cases {k r : Int} (hr : r = 0 ∨ r = 1) : baseN k r = 64 ∨ baseN k r = 96 := by
  unfold baseN
  split
  · rcases hr with rfl | rfl
    · exact .inl rfl
    · exact .inr rfl
  · exact .inl rfl
theorem kcases {k : Int} (h0 : 0 ≤ k) (h1 : k < 4) : k = 0 ∨ k = 1 ∨ k = 2 ∨ k = 3 := by omega
theorem preN_len {k : Int} (h0 : 0 ≤ k) (h1 : k < 4) : (((preN k).length + 1 : Nat) : Int) = 1 + Int.fmod k 2 + Int.fdiv k 2 := by
  rcases kcases h0 h1 with rfl | rfl | rfl | rfl <;> decide
theorem pic_eq {k r p : Int} (h0 : 0 ≤ k) (h1 : k < 4) (hr : r = 0 ∨ r = 1) (hp0 : 0 ≤ p) (hp1 : p < 30) : tl (picP k (64 + 32 * r + p).toNat) = preN k ++ [baseN k r + p.toNat] := by
  have hc : ∃ b : Nat, (64 + 32 * r + p).toNat = b + p.toNat ∧ ((b = 64 ∧ r = 0) ∨ (b = 96 ∧ r = 1)) := by
    rcases hr with rfl | rfl
    · exact ⟨64, by omega, .inl ⟨rfl, rfl⟩⟩
    · exact ⟨96, by omega, .inr ⟨rfl, rfl⟩⟩
  have hq : p.toNat < 30 := by omega
  obtain ⟨b, e, hb⟩ := hc
  rw [e]
  clear e
  generalize p.toNat = q at hq ⊢
  have hb' : b = 64 ∨ b = 96 := by omega
  have e0 : baseN 0 r = b ∧ baseN 1 r = b := by rcases hb with ⟨rfl, rfl⟩ | ⟨rfl, rfl⟩ <;> exact ⟨rfl, rfl⟩
  have m1 : (b + q) % 128 = b + q := Nat.mod_eq_of_lt (by omega)
  have m2 : (b + q) % 32 = q := by omega
  have m3 : q % 128 = q := Nat.mod_eq_of_lt (by omega)
  have m4 : ∀ z, z < 128 → (z % 128 + 128) % 128 = z := fun z hz => by omega
  rcases kcases h0 h1 with rfl | rfl | rfl | rfl
  · show tl (uncF (b + q)) = [baseN 0 r + q]
    rw [unc_c (by omega) (by omega), m1, e0.1]
  · show tl (uncF ((b + q) % 128 + 128)) = [33, baseN 1 r + q]
    rw [unc_d (by omega) (by omega), tl_bang1, m4 _ (by omega), e0.2]
  · show tl (uncF ((b + q) % 32)) = [94, 64 + q]
    rw [m2, unc_a (by omega) (by omega), tl_hat, m3, show q + 32 + 32 = 64 + q by omega]
  · show tl (uncF ((b + q) % 32 % 128 + 128)) = [33, 94, 64 + q]
    rw [m2, unc_b (by omega) (by omega), tl_bang, tl_hat, m4 _ (by omega), show q + 32 + 32 = 64 + q by omega]
theorem rangeKs_nat (s n : Nat) : rangeKs (s : Int) n = (List.range' s n).map fun (p : Nat) => (p : Int) := by
  unfold rangeKs
  rw [List.range'_eq_map_range, List.map_map]
  apply List.map_congr_left
  intro i _
  simp
theorem pageS_nat {k r : Int} (h0 : 0 ≤ k) (h1 : k < 4) (hr : r = 0 ∨ r = 1) {s n : Nat} (hs : s + n ≤ 30) : tl (pageS k ⟨(s : Int), ((s + n : Nat) : Int), r⟩) = pageN (preN k) (baseN k r) s n := by
  show pageLx k r (rangeKs (s : Int) (((s + n : Nat) : Int) - (s : Int)).toNat) = _
  rw [show (((s + n : Nat) : Int) - (s : Int)).toNat = n by omega, rangeKs_nat]
  unfold pageLx pageN
  rw [List.flatMap_map]
  exact flatMap_congr' _ _ _ fun p hp => by
    have := List.mem_range'_1.mp hp
    rw [pic_eq h0 h1 hr (by omega) (by omega)]
    simp
theorem filter_range (a b : Nat) : ∀ n s : Nat, (List.range' s n).filter (fun p => decide (a ≤ p ∧ p < b)) = List.range' (max s a) (min (s + n) b - max s a)
  | 0, s => by rw [show min (s + 0) b - max s a = 0 by omega]; rfl
  | n + 1, s => by
    rw [List.range'_succ]
    have ih := filter_range a b n (s + 1)
    by_cases h : a ≤ s ∧ s < b
    · rw [List.filter_cons_of_pos (by simpa using h), ih, show max (s + 1) a = s + 1 by omega, show max s a = s by omega, show min (s + (n + 1)) b - s = (min (s + 1 + n) b - (s + 1)) + 1 by omega, List.range'_succ]
    · rw [List.filter_cons_of_neg (by simpa using h), ih]
      by_cases q : s < a
      · rw [show max (s + 1) a = a by omega, show max s a = a by omega, show s + 1 + n = s + (n + 1) by omega]
      · rw [show min (s + 1 + n) b - max (s + 1) a = 0 by omega, show min (s + (n + 1)) b - max s a = 0 by omega]
        rfl
theorem shr_nat (s n s' n' : Nat) (r r' : Int) : shr ⟨(s : Int), ((s + n : Nat) : Int), r⟩ ⟨(s' : Int), ((s' + n' : Nat) : Int), r'⟩ = (List.range' (max s s') (min (s + n) (s' + n') - max s s')).map fun (p : Nat) => (p : Int) := by
  unfold shr
  dsimp only
  rw [show (((s + n : Nat) : Int) - (s : Int)).toNat = n by omega, rangeKs_nat, List.filter_map, ← filter_range]
  congr 2
  funext p
  dsimp only [Function.comp]
  refine decide_eq_decide.mpr ⟨fun h => by omega, fun h => by omega⟩
theorem sum_cost (ba bb : Nat) (hne : ba ≠ bb) : ∀ (L : List Nat), ((L.map fun (p : Nat) => (p : Int)).map costI).sum = (((L.map (kap ba bb)).sum : Nat) : Int)
  | [] => rfl
  | p :: L => by
    rw [List.map_cons, List.map_cons, List.sum_cons, sum_cost ba bb hne L, List.map_cons, List.sum_cons]
    have : costI (p : Int) = ((kap ba bb p : Nat) : Int) := by
      unfold costI kap
      rw [if_neg hne]
      by_cases h : 1 ≤ p ∧ p ≤ 26
      · rw [if_pos h, if_pos (by omega)]; rfl
      · rw [if_neg h, if_neg (by omega)]; rfl
    rw [this]
    omega
theorem sum_same (ba s n : Nat) : sumK ba ba s n = 0 := by
  induction n generalizing s with
  | zero => rfl
  | succ n ih => rw [Nat.add_comm, sumK_app, sumK_one, ih]; unfold kap; simp
theorem abs_nat (a b : Nat) : absI ((a : Int) - (b : Int)) = ((max a b - min a b : Nat) : Int) := by
  unfold absI
  split <;> omega
theorem cast_w (w d : Nat) : ((2 * (w * d) : Nat) : Int) = 2 * (w : Int) * (d : Int) := by
  rw [Int.natCast_mul, Int.natCast_mul, Int.mul_assoc]; rfl
theorem upon_nat (w s n s' n' : Nat) (r r' : Int) : uponI (w : Int) ⟨(s : Int), ((s + n : Nat) : Int), r⟩ ⟨(s' : Int), ((s' + n' : Nat) : Int), r'⟩ = ((2 * min n n' + 2 * (w * (max n n' - min n n')) : Nat) : Int) := by
  unfold uponI
  dsimp only
  rw [show ((s + n : Nat) : Int) - (s : Int) = (n : Int) by omega, show ((s' + n' : Nat) : Int) - (s' : Int) = (n' : Int) by omega, Int.natCast_add, cast_w]
  rw [show max (n : Int) (n' : Int) - min (n : Int) (n' : Int) = ((max n n' - min n n' : Nat) : Int) by omega]
  omega
theorem along_nat {k : Int} (h0 : 0 ≤ k) (h1 : k < 4) (w s n s' n' : Nat) {r r' : Int} (hr : r = 0 ∨ r = 1) (hr' : r' = 0 ∨ r' = 1) : alongI k (w : Int) ⟨(s : Int), ((s + n : Nat) : Int), r⟩ ⟨(s' : Int), ((s' + n' : Nat) : Int), r'⟩ =
    ((2 * (w * (max s s' - min s s')) + 2 * (w * (max (s + n) (s' + n') - min (s + n) (s' + n'))) + sumK (baseN k r) (baseN k r') (max s s') (min (s + n) (s' + n') - max s s') : Nat) : Int) := by
  unfold alongI
  rw [shr_nat]
  dsimp only
  have key : ∀ (w d1 d2 S : Nat), ((2 * (w * d1) + 2 * (w * d2) + S : Nat) : Int) = 2 * (w : Int) * ((d1 : Int) + (d2 : Int)) + (S : Int) := by
    intro w d1 d2 S
    rw [Int.mul_add, ← cast_w, ← cast_w]
    omega
  rw [abs_nat, abs_nat, key]
  congr 1
  by_cases hc : k < 2 ∧ r ≠ r'
  · rw [if_pos hc, sum_cost (baseN k r) (baseN k r') (by unfold baseN; rw [if_pos hc.1, if_pos hc.1]; omega)]
    rfl
  · have e : baseN k r = baseN k r' := by
      unfold baseN
      by_cases h : k < 2
      · have : r = r' := Decidable.byContradiction fun q => hc ⟨h, q⟩
        rw [this]
      · rw [if_neg h, if_neg h]
    rw [if_neg hc, e, sum_same]
    rfl
theorem asks1 {k : Int} (h0 : 0 ≤ k) (h1 : k < 4) {x y : Rw} (hx : RowOk (1 + Int.fmod k 2 + Int.fdiv k 2) x) (hy : RowOk (1 + Int.fmod k 2 + Int.fdiv k 2) y) : Asks1 k (1 + Int.fmod k 2 + Int.fdiv k 2) x y := by
  obtain ⟨xs, xe, xr⟩ := x
  obtain ⟨ys, ye, yr⟩ := y
  obtain ⟨a0, a1, a2, a3, _, a5⟩ := hx
  obtain ⟨b0, b1, b2, b3, _, b5⟩ := hy
  dsimp only at a0 a1 a2 a3 a5 b0 b1 b2 b3 b5
  obtain ⟨s, rfl⟩ := Int.eq_ofNat_of_zero_le a0
  obtain ⟨s', rfl⟩ := Int.eq_ofNat_of_zero_le b0
  obtain ⟨n, rfl⟩ : ∃ n : Nat, xe = ((s + n : Nat) : Int) := ⟨(xe - s).toNat, by omega⟩
  obtain ⟨n', rfl⟩ : ∃ n : Nat, ye = ((s' + n : Nat) : Int) := ⟨(ye - s').toNat, by omega⟩
  have hn : s + n ≤ 30 := by omega
  have hn' : s' + n' ≤ 30 := by omega
  rw [← preN_len h0 h1]
  have hm := min_pages (preN_marks k) (baseN_cases (k := k) a5) (baseN_cases (k := k) b5) hn hn'
  refine ⟨_, by rw [pageS_nat h0 h1 a5 hn, pageS_nat h0 h1 b5 hn']; exact hm, ?_⟩
  unfold dueI
  rw [upon_nat, along_nat h0 h1 _ _ _ _ _ a5 b5, shr_nat]
  generalize 2 * min n n' + 2 * (((preN k).length + 1) * (max n n' - min n n')) = U
  generalize 2 * (((preN k).length + 1) * (max s s' - min s s')) + 2 * (((preN k).length + 1) * (max (s + n) (s' + n') - min (s + n) (s' + n'))) + sumK (baseN k xr) (baseN k yr) (max s s') (min (s + n) (s' + n') - max s s') = V
  by_cases hov : max s s' < min (s + n) (s' + n')
  · rw [if_pos hov, if_neg]
    · split <;> omega
    · intro e
      have := congrArg List.length e
      rw [List.length_map, List.length_range'] at this
      simp only [List.length_nil] at this
      omega
  · rw [if_neg hov, if_pos]
    rw [show min (s + n) (s' + n') - max s s' = 0 by omega]
    rfl
theorem page_len {k : Int} (h0 : 0 ≤ k) (h1 : k < 4) {x : Rw} (hx : RowOk (1 + Int.fmod k 2 + Int.fdiv k 2) x) : (pageS k x).length ≤ 12 := by
  obtain ⟨xs, xe, xr⟩ := x
  obtain ⟨a0, a1, a2, a3, a4, a5⟩ := hx
  dsimp only at a0 a1 a2 a3 a4 a5
  obtain ⟨s, rfl⟩ := Int.eq_ofNat_of_zero_le a0
  obtain ⟨n, rfl⟩ : ∃ n : Nat, xe = ((s + n : Nat) : Int) := ⟨(xe - s).toNat, by omega⟩
  rw [← tl_len, pageS_nat h0 h1 a5 (by omega), pageN_len]
  rw [← preN_len h0 h1, show ((s + n : Nat) : Int) - (s : Int) = (n : Int) by omega, ← Int.natCast_mul] at a4
  omega
end Mine
end
namespace Mine
section
open PySem PySem.W PyProof.Rows
set_option maxRecDepth 100000
set_option maxHeartbeats 8000000
open_top hd1 for PySem.Challenge.rw_pe0094_01
end
end Mine
section
open PySem PySem.W PyProof PyProof.Rows Mine
set_option linter.unusedVariables false
set_option maxRecDepth 100000
set_option maxHeartbeats 8000000

namespace Mine
local macro_rules | `(tactic| walk_at "my end") => `(tactic| first | ((rename News _ _ _ _ => nE'); refine kst_end ⟨_, _, _, _, _, _, _, _, _⟩ (by assumption) nE' (by exact List.forall_mem_cons.mpr ⟨List.Mem.head _, fun _ hp => List.Mem.tail _ (List.mem_append_left _ hp)⟩) (by exact fun _ hp => List.Mem.tail _ (List.mem_append_right _ hp)) (by rfl) (by kst_facts) (by kst_all) (by kst_same) (by kst_p)) | ((rename News _ _ _ _ => nE'); refine kst_end ⟨_, _, _, _, _⟩ (by assumption) nE' (by exact List.forall_mem_cons.mpr ⟨List.Mem.head _, fun _ hp => List.Mem.tail _ (List.mem_append_left _ hp)⟩) (by exact fun _ hp => List.Mem.tail _ (List.mem_append_right _ hp)) (by rfl) (by kst_facts) (by kst_all) (by kst_same) (by kst_p)))
local macro_rules | `(tactic| walk_at "my run") => `(tactic| repeat' (first | ((with_reducible show InvEndN _ _ (KstS _ _ _ _ _ _ _ _) _ _ _ _); walk_at "my end") | ((with_reducible show wpAny _ _ (execs _ _) _ _ _); dsimp only) | (k_unfold; (try dsimp only)) | ((fail_if_success (with_reducible show wpAny _ _ (pyIter _) _ _ _)); (fail_if_success (with_reducible show wpAny _ _ (exec (Stmt.While _ _ _ _) _) _ _ _)); walk1) | (dsimp only; (fail_if_success (with_reducible show wpAny _ _ (exec (Stmt.While _ _ _ _) _) _ _ _)); (fail_if_success (with_reducible show wpAny _ _ (pyIter _) _ _ _)); walk1)))
local macro_rules | `(tactic| walk_at "my run item") => `(tactic| repeat' ((fail_if_success (with_reducible show wpAny _ _ (truthy (Value.bool (Txt.item _ _ == Txt.item _ _))) _ _ _)); first | (k_unfold; (try dsimp only)) | ((fail_if_success (with_reducible show wpAny _ _ (exec (Stmt.While _ _ _ _) _) _ _ _)); walk1) | (dsimp only; (fail_if_success (with_reducible show wpAny _ _ (exec (Stmt.While _ _ _ _) _) _ _ _)); walk1)))
local macro_rules | `(tactic| walk_at "my run if") => `(tactic| repeat' (first | ((with_reducible show wpAny _ _ (execs _ _) _ _ _); dsimp only) | (k_unfold; (try dsimp only)) | ((fail_if_success (with_reducible show wpAny _ _ (execs (Stmt.If (Expr.Compare _ [CmpOp.Lt] _ _) _ _ _ :: _) _) _ _ _)); walk1) | (dsimp only; (fail_if_success (with_reducible show wpAny _ _ (execs (Stmt.If (Expr.Compare _ [CmpOp.Lt] _ _) _ _ _ :: _) _) _ _ _)); walk1)))
local macro_rules | `(tactic| walk_at "call type:list cons nil") => `(tactic| (k_here; (rename IsRange _ _ _ _ _ _ _ _ => rgX); (with_unfolding_all refine' list_range2 _ ?k0 ?k1 ?k2 rgX ?k4 ?k5 ?_); (case k0 => rfl); (case k1 => k_asm); (case k2 => k_asm); (case k4 => rfl); (case k5 => omega); intro D' us' c' h' tk' F' N' l1 hI'; (try k_lt l1); (try k_sweep)))
local macro_rules | `(tactic| walk_at "subscriptTail Name Slice str ref") => `(tactic| ((with_reducible rename Fr _ _ _ _ => F'); (with_reducible rename News _ _ _ _ => N'); refine slice_strN_nn_len (s := ⟨_, _, _, _, _⟩) F' N' ?_; intro _ _ _ _ _ _))
theorem lev1 (w : World) (mean : ExcName → Option Value) (mg mb : Str → Option Value) (news : List (Addr × Obj)) (a b : Str) (m : Int) (v : Nat) (ta tb tm : Tok) (ha : a.length ≤ 40) (hb : b.length ≤ 40)
    (hv : IsMin (tl a) (tl b) v) (hvm : (v : Int) ≤ m + 1) :
  ∀ (dp un : Nat) (gd : Option (List Code)) (cn : Str) (cs : Scope) (fa : Addr) (ccd : Value) (cl : List (Str × Addr)) (outer : List Env) (A₀ : Around) (base h₀ : Heap) (L : Addr) (mm : Str → Option Value) (s : Shared) (Q E : Value → Shared → Prop),
    Below A₀ base outer h₀ → Fr h₀ L s.heap mm → (hd1.heap_39 w.params).In h₀ → News h₀ L s.heap news → PyProof.Rows.Top hd1.view_39 (looseW hd1.view_39 []) mean mg mb h₀ → cs.kind = .function →
    dp + 2 < recursionLimit → un + 16 < cLine → (∀ (t : Tok) (h' : Heap) (tk' : Nat), Fr h₀ L h' mm → News h₀ L h' news → Q (.int (v : Int) t) { s with heap := h', toks := tk' }) →
      wpAny (model PySem.Challenge.rw_pe0094_01.row.prog w) (ktrTop dp un gd cn cs L fa ccd cl outer) (call (.ref 28) [.str a ta, .str b tb, .int m tm]) Q E s := by
  (k_with "state" => first | exact ⟨by rw [evens_length], outInv0 (by rw [tl_len])⟩ | exact ⟨by first | with_reducible assumption | assumption, inInv0 (by first | with_reducible assumption | assumption) (by rw [tl_len]; omega) (by omega)⟩ | exact ⟨by first | with_reducible assumption | assumption, by rw [List.length_append]; exact inInv_end (by first | with_reducible assumption | assumption) (by rw [rangeKs_length, tl_len]; omega) (by rw [tl_len]; omega) (by rw [tl_len]; omega)⟩ | exact in_turn (by first | with_reducible assumption | assumption) (by first | with_reducible assumption | assumption) (by first | with_reducible assumption | assumption) (by first | with_reducible assumption | assumption) (by first | with_reducible assumption | assumption) (by first | with_reducible assumption | assumption) rfl ⟨Int.le_of_lt (by first | with_reducible assumption | assumption), Int.le_refl _⟩ | exact in_turn (by first | with_reducible assumption | assumption) (by first | with_reducible assumption | assumption) (by first | with_reducible assumption | assumption) (by first | with_reducible assumption | assumption) (by first | with_reducible assumption | assumption) (by first | with_reducible assumption | assumption) rfl ⟨Int.le_refl _, Int.not_lt.mp (by first | with_reducible assumption | assumption)⟩)
  (k_with "call ref" => k_call_by "_substitution_cost" subS (fun x y => x.length ≤ 1 ∧ y.length ≤ 1))
  (k_with "tree" => simp only [subS])
  k_fill
  intros; rename_i hret
  have cbI : CbIn 28 := CbIn.mk
  w_on
  w_strict (refine wpAny_call ?_; k_dflt cell_enter)
  walk_at "my run"
  · rename (a == b) = true => hab
    have e := beq_iff_eq.mp hab
    subst e
    have e0 := hv.uniq (IsMin.same _)
    subst e0
    exact hret _ _ _ (by assumption) (by assumption)
  · refine Mine.while_int (Str.ofString "pre") (fun k => 0 ≤ k ∧ k ≤ (a.length : Int) ∧ k ≤ (b.length : Int) ∧ (tl a).take k.toNat = (tl b).take k.toNat) (fun k => a.length - k.toNat) (fun k => 0 ≤ k ∧ k ≤ (a.length : Int) ∧ k ≤ (b.length : Int) ∧ (tl a).take k.toNat = (tl b).take k.toNat) (by assumption) (by assumption) (by with_unfolding_all rfl) ⟨by omega, by omega, by omega, by simp⟩ ?_ ?_
    · intro k u h tk ⟨hk0, hk1, hk2, hk3⟩ F N
      walk_at "my run"
      · rename (Txt.item a k == Txt.item b k) = true => hi
        exact ⟨_, _, _, _, rfl, fr_twice (by assumption), (by assumption), ⟨by omega, by omega, by omega, pre_step hk0 (by omega) (by omega) hk3 hi⟩, by omega⟩
      all_goals exact ⟨_, _, _, _, rfl, (by assumption), (by assumption), hk0, hk1, hk2, hk3⟩
    · intro k u h tk ⟨hk0, hk1, hk2, hk3⟩ F N
      walk_at "my run"
      have eA := slice_from a hk0 hk1
      have eB := slice_from b hk0 hk2
      have lA := Txt.slice_le a (some k) none
      have lB := Txt.slice_le b (some k) none
      generalize Txt.slice a (some k) none = A at *
      generalize Txt.slice b (some k) none = B at *
      refine Mine.while_int (Str.ofString "post") (fun p => p ≤ 0 ∧ 0 ≤ p + (A.length : Int) ∧ 0 ≤ p + (B.length : Int) ∧ (tl A).drop (p + A.length).toNat = (tl B).drop (p + B.length).toNat) (fun p => (p + A.length).toNat) (fun p => p ≤ 0 ∧ 0 ≤ p + (A.length : Int) ∧ 0 ≤ p + (B.length : Int) ∧ (tl A).drop (p + A.length).toNat = (tl B).drop (p + B.length).toNat) (by assumption) (by assumption) (by with_unfolding_all rfl) ⟨by omega, by omega, by omega, by rw [List.drop_of_length_le (by rw [tl_len]; omega), List.drop_of_length_le (by rw [tl_len]; omega)]⟩ ?_ ?_
      · intro p u h tk ⟨hp0, hp1, hp2, hp3⟩ F N
        by_cases hp : p = 0
        · subst hp
          have gA := slice_all_len A
          have gB := slice_all_len B
          walk_at "my run item"
          · dsimp only
            have hI : ItemsAre A B 0 (Txt.item A (0 - 1)) (Txt.item B (0 - 1)) := ⟨rfl, rfl⟩
            generalize Txt.item A (0 - 1) = ia at *
            generalize Txt.item B (0 - 1) = ib at *
            walk1
            generalize hi : (ia == ib) = c
            cases c
            · rw [if_neg (by decide)]
              walk_at "my run"
              exact ⟨_, _, _, _, rfl, (by assumption), (by assumption), hp0, hp1, hp2, hp3⟩
            · rw [if_pos rfl]
              walk_at "my run"
              exact ⟨_, _, _, _, rfl, fr_twice (by assumption), (by assumption), ⟨by omega, by omega, by omega, post_step' hI hp0 (by omega) (by omega) hp3 hi⟩, by omega⟩
          all_goals exact ⟨_, _, _, _, rfl, (by assumption), (by assumption), hp0, hp1, hp2, hp3⟩
        · have fA := slice_neg_len A (p := p) hp0 hp1 hp
          have fB := slice_neg_len B (p := p) hp0 hp2 hp
          walk_at "my run"
          all_goals first
            | (exfalso; omega)
            | exact ⟨_, _, _, _, rfl, (by assumption), (by assumption), hp0, hp1, hp2, hp3⟩
            | exact ⟨_, _, _, _, rfl, fr_twice (by assumption), (by assumption), ⟨by omega, by omega, by omega, post_step hp0 (by omega) (by omega) hp3 (by assumption)⟩, by omega⟩
      · intro p u h tk ⟨hp0, hp1, hp2, hp3⟩ F N
        (try dsimp only)
        refine execs_cut2 (Str.ofString "a") (Str.ofString "b") (fun X Y => X.length ≤ 40 ∧ Y.length ≤ 40 ∧ IsMin (tl X) (tl Y) v) (by assumption) (by assumption) ?_ ?_
        · by_cases hp : p = 0
          · subst hp
            walk_at "my run"
            exact ⟨_, _, _, _, _, _, rfl, (by assumption), (by assumption), by omega, by omega, cuts_leave hv hk3 eA eB hp3 (slice_zero _ rfl) (slice_zero _ rfl)⟩
          · walk_at "my run"
            all_goals first
            | (exfalso; omega)
            | exact ⟨_, _, _, _, _, _, rfl, (by assumption), (by assumption), by omega, by omega, cuts_leave hv hk3 eA eB hp3 (slice_neg _ (by omega) (by omega)) (slice_neg _ (by omega) (by omega))⟩
        · clear hk3 eA eB hp3 hp0 hp1 hp2 hv
          intro X tX Y tY h tk ⟨hX, hY, hv⟩ F N
          walk_at "my run if"
          all_goals first
            | (have e := empty_case hv (by omega)
               rw [e]
               exact hret _ _ _ (by assumption) (by assumption))
            | skip
          refine execs_cut1 (Str.ofString "a") (Str.ofString "b") (fun X Y => 0 < X.length ∧ X.length ≤ Y.length ∧ X.length ≤ 40 ∧ Y.length ≤ 40 ∧ IsMin (tl X) (tl Y) v) (by assumption) (by assumption) ?_ ?_
          · walk_at "my run"
            · exact ⟨_, _, _, _, _, _, rfl, fr_comm (by decide) (by assumption), cb_drop (by assumption) (fun p hp => List.mem_cons_of_mem _ hp), by omega, by omega, by omega, by omega, hv.symm⟩
            · exact ⟨_, _, _, _, _, _, rfl, fr_same2 (by assumption) (by with_unfolding_all rfl) (by with_unfolding_all rfl), (by assumption), by omega, by omega, by omega, by omega, hv⟩
          · clear hX hY hv
            intro X tX Y tY h tk ⟨hpos, hab, hX, hY, hv⟩ F N
            walk_at "my run"
            · have hlen := hv.al.len
              rw [tl_len, tl_len] at hlen
              have e : m + 1 = (v : Int) := by omega
              rw [e]
              exact hret _ _ _ (by assumption) (by assumption)
            · k_state_given ["a", "b"] (fun a b pre result row => (row.length : Int) = (a.length : Int) ∧ OutInv (tl a) (tl b) pre.length result row) "result" "row"
              · walk_at "my run"
                k_state_given ["a", "b"] (fun a b pre distance result minimum row => (row.length : Int) = (a.length : Int) ∧ InInv (tl a) (tl b) kPre.length pre.length distance result minimum row) "distance" "result" "minimum" "row"
                · walk_at "my run"
                · walk_at "my run"
                  rename InInv _ _ _ _ _ _ _ _ => hin
                  have hab := inInv_above (M := m) hin (by rw [rangeKs_length, tl_len]; omega) (by rw [tl_len]; omega) (by rw [tl_len]; omega) (by rw [tl_len]; omega) (by assumption) hv
                  have e : m + 1 = (v : Int) := by omega
                  rw [e]
                  exact hret _ _ _ (by assumption) (cb_drop (by assumption) (by intro p hp; exact List.mem_cons_of_mem _ (List.mem_append_left _ hp)))
              · walk_at "my run"
                rename OutInv _ _ _ _ _ => hout
                have e := outInv_end hout (by rw [rangeKs_length, tl_len]; omega) (by rw [tl_len]; omega) hv
                rw [e]
                exact hret _ _ _ (by assumption) (cb_drop (by assumption) (by intro p hp; exact List.mem_cons_of_mem _ hp))
end Mine
end
section
open PySem PySem.W PyProof PyProof.Rows Mine
set_option linter.unusedVariables false
set_option maxRecDepth 100000
set_option maxHeartbeats 8000000
namespace Mine
local macro_rules | `(tactic| walk_at "my run") => `(tactic| repeat' (first | ((with_reducible show wpAny _ _ (execs _ _) _ _ _); dsimp only) | (k_unfold; (try dsimp only)) | ((fail_if_success (with_reducible show wpAny _ _ (pyIter _) _ _ _)); walk1) | (dsimp only; (fail_if_success (with_reducible show wpAny _ _ (pyIter _) _ _ _)); walk1)))
local macro_rules | `(tactic| walk_at "binaryOp BitAnd int int") => `(tactic| (first | refine r_and31 ?_ | refine r_and127 ?_ | refine r_and128 (by omega) ?_))
local macro_rules | `(tactic| walk_at "binaryOp Add int int") => `(tactic| refine r_add32 ?_)
local macro_rules | `(tactic| walk_at "call builtin:chr") => `(tactic| (refine r_chr _ rfl (by omega) ?_))
local macro_rules | `(tactic| walk_at "binaryOp BitOr int int") => `(tactic| (first | refine r_or128 (by omega) ?_ | refine r_or32 (by omega) ?_))
local macro_rules | `(tactic| k_room) => `(tactic| ktr_room)
theorem unc1 (w : World) (mean : ExcName → Option Value) (mg mb : Str → Option Value) (news : List (Addr × Obj)) (n : Nat) (tn : Tok) (hn : n < 256) (h127 : n ≠ 127) (h255 : n ≠ 255) :
  ∀ (dp un : Nat) (gd : Option (List Code)) (cn : Str) (cs : Scope) (fa : Addr) (ccd : Value) (cl : List (Str × Addr)) (outer : List Env) (A₀ : Around) (base h₀ : Heap) (L : Addr) (mm : Str → Option Value) (s : Shared) (Q E : Value → Shared → Prop),
    Below A₀ base outer h₀ → Fr h₀ L s.heap mm → (hd1.heap_39 w.params).In h₀ → News h₀ L s.heap news → PyProof.Rows.Top hd1.view_39 (looseW hd1.view_39 []) mean mg mb h₀ → cs.kind = .function →
    dp + 2 < recursionLimit → un + 16 < cLine → (∀ (t : Tok) (h' : Heap) (tk' : Nat), (uncF n).length ≤ 3 → Fr h₀ L h' mm → News h₀ L h' news → Q (.str (uncF n) t) { s with heap := h', toks := tk' }) →
      wpAny (model PySem.Challenge.rw_pe0094_01.row.prog w) (ktrTop dp un gd cn cs L fa ccd cl outer) (call (.ref 63) [.str ⟨#[n]⟩ tn]) Q E s := by
  k_fill
  intros; rename_i hret
  have cbI : CbIn 28 := CbIn.mk
  w_on
  w_strict (refine wpAny_call ?_; k_dflt cell_enter)
  walk_at "my run"
  all_goals first
    | (exfalso; omega)
    | (have e := unc_a (n := n) (by omega) (by omega); have l := uncF_len n; rw [e] at l hret; exact hret _ _ _ l (by assumption) (by assumption))
    | (have e := unc_b (n := n) (by omega) (by omega); have l := uncF_len n; rw [e] at l hret; exact hret _ _ _ l (by assumption) (by assumption))
    | (have e := unc_c (n := n) (by omega) (by omega); have l := uncF_len n; rw [e] at l hret; exact hret _ _ _ l (by assumption) (by assumption))
    | (have e := unc_d (n := n) (by omega) (by omega); have l := uncF_len n; rw [e] at l hret; exact hret _ _ _ l (by assumption) (by assumption))
end Mine
end
section
open PySem PySem.W PyProof PyProof.Rows Mine
set_option linter.unusedVariables false
set_option maxRecDepth 100000
set_option maxHeartbeats 8000000
namespace Mine
local macro_rules | `(tactic| walk_at "my end") => `(tactic| ((rename News _ _ _ _ => nE'); refine kst_end ⟨_, _⟩ (by assumption) nE' (by first | exact fun _ hp => hp | exact fun _ hp => List.mem_append_left _ hp) (by exact fun _ hp => by repeat (first | with_reducible exact List.mem_append_right _ hp | apply List.mem_cons_of_mem)) (by rfl) (by kst_facts) (by kst_all) (by kst_same) (by kst_p)))
local macro_rules | `(tactic| walk_at "my run") => `(tactic| repeat' (first | ((with_reducible show InvEndN _ _ (KstS _ _ _ _ _ _ _ _) _ _ _ _); first | walk_at "my end" | walk1) | ((with_reducible show wpAny _ _ (execs _ _) _ _ _); dsimp only) | (k_unfold; (try dsimp only)) | ((fail_if_success (with_reducible show wpAny _ _ (pyIter _) _ _ _)); (fail_if_success (with_reducible show wpAny _ _ (call (Value.ref 63) _) _ _ _)); walk1) | (dsimp only; (fail_if_success (with_reducible show wpAny _ _ (pyIter _) _ _ _)); (fail_if_success (with_reducible show wpAny _ _ (call (Value.ref 63) _) _ _ _)); walk1)))
local macro_rules | `(tactic| walk_at "binaryOp BitAnd int int") => `(tactic| (first | refine r_and31 ?_ | refine r_and127 ?_ | refine r_and128 (by omega) ?_))
local macro_rules | `(tactic| walk_at "binaryOp Add int int") => `(tactic| refine r_add32 ?_)
local macro_rules | `(tactic| walk_at "call builtin:chr") => `(tactic| (refine r_chr _ rfl (by omega) ?_))
local macro_rules | `(tactic| walk_at "binaryOp BitOr int int") => `(tactic| (first | refine r_or128 (by omega) ?_ | refine r_or32 (by omega) ?_))
local macro_rules | `(tactic| k_room) => `(tactic| ktr_room)
local macro_rules | `(tactic| walk_at "my unc") => `(tactic| (k_here; (with_reducible show wpAny _ _ (call (Value.ref 63) _) _ _ _); (k_dflt (refine' unc1 _ _ _ _ _ _ _ ?zn ?z1 ?z2 _ _ _ _ _ _ _ _ _ _ _ _ _ _ _ _ _ ?k1 ?k2 ?k3 ?k4 ?k5 ?kK ?kd ?ku ?kR)); (case zn => omega); (case z1 => omega); (case z2 => omega); (case k1 => k_asm); (case k2 => k_asm); (case k3 => k_asm); (case k4 => k_asm); (case k5 => k_asm); (case kK => exact rfl); (case kd => ktr_room); (case ku => ktr_units); intro t9 h9 tk9 l9 F9 N9; (try dsimp only); (try k_fold)))
theorem page1_0 (w : World) (mean : ExcName → Option Value) (mg mb : Str → Option Value) (news : List (Addr × Obj)) (s0 e0 r0 k0 : Int) (ts te tr tk0 : Tok) (hs : 0 ≤ s0) (he : e0 ≤ 30) (hse : s0 ≤ e0) (hr : r0 = 0 ∨ r0 = 1) (hk : k0 = 0) :
  ∀ (dp un : Nat) (gd : Option (List Code)) (cn : Str) (cs : Scope) (fa : Addr) (ccd : Value) (cl : List (Str × Addr)) (outer : List Env) (A₀ : Around) (base h₀ : Heap) (L : Addr) (mm : Str → Option Value) (s : Shared) (Q E : Value → Shared → Prop),
    Below A₀ base outer h₀ → Fr h₀ L s.heap mm → (hd1.heap_39 w.params).In h₀ → News h₀ L s.heap news → PyProof.Rows.Top hd1.view_39 (looseW hd1.view_39 []) mean mg mb h₀ → cs.kind = .function →
    dp + 3 < recursionLimit → un + 24 < cLine → (∀ (t : Tok) (h' : Heap) (tk' : Nat), Fr h₀ L h' mm → News h₀ L h' news → Q (.str (pageS k0 ⟨s0, e0, r0⟩) t) { s with heap := h', toks := tk' }) →
      wpAny (model PySem.Challenge.rw_pe0094_01.row.prog w) (ktrTop dp un gd cn cs L fa ccd cl outer) (call (.ref 70) [.int s0 ts, .int e0 te, .int r0 tr, .int k0 tk0]) Q E s := by
  (k_with "state" => first | with_reducible exact page_start | exact page_turn ⟨by with_reducible assumption, by with_reducible assumption⟩ rfl | exact page_start)
  k_fill
  subst hk
  intros; rename_i hret
  have cbI : CbIn 28 := CbIn.mk
  w_on
  w_strict (refine wpAny_call ?_; k_dflt cell_enter)
  walk_at "my run"
  k_state (fun (pre : List Int) (page : PySem.Str) => tl page = pageLx 0 r0 pre ∧ page.length ≤ 3 * pre.length) "page"
  · skip
    walk_at "my run"
    walk_at "my unc"
    walk_at "my run"
    all_goals (exfalso; omega)
  · walk_at "my run"
    (rename tl _ = pageLx _ _ _ => hp)
    rw [page_end' hp]
    exact hret _ _ _ (by assumption) (by assumption)

theorem page1_1 (w : World) (mean : ExcName → Option Value) (mg mb : Str → Option Value) (news : List (Addr × Obj)) (s0 e0 r0 k0 : Int) (ts te tr tk0 : Tok) (hs : 0 ≤ s0) (he : e0 ≤ 30) (hse : s0 ≤ e0) (hr : r0 = 0 ∨ r0 = 1) (hk : k0 = 1) :
  ∀ (dp un : Nat) (gd : Option (List Code)) (cn : Str) (cs : Scope) (fa : Addr) (ccd : Value) (cl : List (Str × Addr)) (outer : List Env) (A₀ : Around) (base h₀ : Heap) (L : Addr) (mm : Str → Option Value) (s : Shared) (Q E : Value → Shared → Prop),
    Below A₀ base outer h₀ → Fr h₀ L s.heap mm → (hd1.heap_39 w.params).In h₀ → News h₀ L s.heap news → PyProof.Rows.Top hd1.view_39 (looseW hd1.view_39 []) mean mg mb h₀ → cs.kind = .function →
    dp + 3 < recursionLimit → un + 24 < cLine → (∀ (t : Tok) (h' : Heap) (tk' : Nat), Fr h₀ L h' mm → News h₀ L h' news → Q (.str (pageS k0 ⟨s0, e0, r0⟩) t) { s with heap := h', toks := tk' }) →
      wpAny (model PySem.Challenge.rw_pe0094_01.row.prog w) (ktrTop dp un gd cn cs L fa ccd cl outer) (call (.ref 70) [.int s0 ts, .int e0 te, .int r0 tr, .int k0 tk0]) Q E s := by
  (k_with "state" => first | with_reducible exact page_start | exact page_turn ⟨by with_reducible assumption, by with_reducible assumption⟩ rfl | exact page_start)
  k_fill
  subst hk
  intros; rename_i hret
  have cbI : CbIn 28 := CbIn.mk
  w_on
  w_strict (refine wpAny_call ?_; k_dflt cell_enter)
  walk_at "my run"
  k_state (fun (pre : List Int) (page : PySem.Str) => tl page = pageLx 1 r0 pre ∧ page.length ≤ 3 * pre.length) "page"
  · skip
    walk_at "my run"
    walk_at "my unc"
    walk_at "my run"
    all_goals (exfalso; omega)
  · walk_at "my run"
    (rename tl _ = pageLx _ _ _ => hp)
    rw [page_end' hp]
    exact hret _ _ _ (by assumption) (by assumption)

theorem page1_2 (w : World) (mean : ExcName → Option Value) (mg mb : Str → Option Value) (news : List (Addr × Obj)) (s0 e0 r0 k0 : Int) (ts te tr tk0 : Tok) (hs : 0 ≤ s0) (he : e0 ≤ 30) (hse : s0 ≤ e0) (hr : r0 = 0 ∨ r0 = 1) (hk : k0 = 2) :
  ∀ (dp un : Nat) (gd : Option (List Code)) (cn : Str) (cs : Scope) (fa : Addr) (ccd : Value) (cl : List (Str × Addr)) (outer : List Env) (A₀ : Around) (base h₀ : Heap) (L : Addr) (mm : Str → Option Value) (s : Shared) (Q E : Value → Shared → Prop),
    Below A₀ base outer h₀ → Fr h₀ L s.heap mm → (hd1.heap_39 w.params).In h₀ → News h₀ L s.heap news → PyProof.Rows.Top hd1.view_39 (looseW hd1.view_39 []) mean mg mb h₀ → cs.kind = .function →
    dp + 3 < recursionLimit → un + 24 < cLine → (∀ (t : Tok) (h' : Heap) (tk' : Nat), Fr h₀ L h' mm → News h₀ L h' news → Q (.str (pageS k0 ⟨s0, e0, r0⟩) t) { s with heap := h', toks := tk' }) →
      wpAny (model PySem.Challenge.rw_pe0094_01.row.prog w) (ktrTop dp un gd cn cs L fa ccd cl outer) (call (.ref 70) [.int s0 ts, .int e0 te, .int r0 tr, .int k0 tk0]) Q E s := by
  (k_with "state" => first | with_reducible exact page_start | exact page_turn ⟨by with_reducible assumption, by with_reducible assumption⟩ rfl | exact page_start)
  k_fill
  subst hk
  intros; rename_i hret
  have cbI : CbIn 28 := CbIn.mk
  w_on
  w_strict (refine wpAny_call ?_; k_dflt cell_enter)
  walk_at "my run"
  k_state (fun (pre : List Int) (page : PySem.Str) => tl page = pageLx 2 r0 pre ∧ page.length ≤ 3 * pre.length) "page"
  · skip
    walk_at "my run"
    walk_at "my unc"
    walk_at "my run"
    all_goals (exfalso; omega)
  · walk_at "my run"
    (rename tl _ = pageLx _ _ _ => hp)
    rw [page_end' hp]
    exact hret _ _ _ (by assumption) (by assumption)

theorem page1_3 (w : World) (mean : ExcName → Option Value) (mg mb : Str → Option Value) (news : List (Addr × Obj)) (s0 e0 r0 k0 : Int) (ts te tr tk0 : Tok) (hs : 0 ≤ s0) (he : e0 ≤ 30) (hse : s0 ≤ e0) (hr : r0 = 0 ∨ r0 = 1) (hk : k0 = 3) :
  ∀ (dp un : Nat) (gd : Option (List Code)) (cn : Str) (cs : Scope) (fa : Addr) (ccd : Value) (cl : List (Str × Addr)) (outer : List Env) (A₀ : Around) (base h₀ : Heap) (L : Addr) (mm : Str → Option Value) (s : Shared) (Q E : Value → Shared → Prop),
    Below A₀ base outer h₀ → Fr h₀ L s.heap mm → (hd1.heap_39 w.params).In h₀ → News h₀ L s.heap news → PyProof.Rows.Top hd1.view_39 (looseW hd1.view_39 []) mean mg mb h₀ → cs.kind = .function →
    dp + 3 < recursionLimit → un + 24 < cLine → (∀ (t : Tok) (h' : Heap) (tk' : Nat), Fr h₀ L h' mm → News h₀ L h' news → Q (.str (pageS k0 ⟨s0, e0, r0⟩) t) { s with heap := h', toks := tk' }) →
      wpAny (model PySem.Challenge.rw_pe0094_01.row.prog w) (ktrTop dp un gd cn cs L fa ccd cl outer) (call (.ref 70) [.int s0 ts, .int e0 te, .int r0 tr, .int k0 tk0]) Q E s := by
  (k_with "state" => first | with_reducible exact page_start | exact page_turn ⟨by with_reducible assumption, by with_reducible assumption⟩ rfl | exact page_start)
  k_fill
  subst hk
  intros; rename_i hret
  have cbI : CbIn 28 := CbIn.mk
  w_on
  w_strict (refine wpAny_call ?_; k_dflt cell_enter)
  walk_at "my run"
  k_state (fun (pre : List Int) (page : PySem.Str) => tl page = pageLx 3 r0 pre ∧ page.length ≤ 3 * pre.length) "page"
  · skip
    walk_at "my run"
    walk_at "my unc"
    walk_at "my run"
    all_goals (exfalso; omega)
  · walk_at "my run"
    (rename tl _ = pageLx _ _ _ => hp)
    rw [page_end' hp]
    exact hret _ _ _ (by assumption) (by assumption)

theorem page1 (w : World) (mean : ExcName → Option Value) (mg mb : Str → Option Value) (news : List (Addr × Obj)) (s0 e0 r0 k0 : Int) (ts te tr tk0 : Tok) (hs : 0 ≤ s0) (he : e0 ≤ 30) (hse : s0 ≤ e0) (hr : r0 = 0 ∨ r0 = 1) (hk : 0 ≤ k0) (hk' : k0 < 4) :
  ∀ (dp un : Nat) (gd : Option (List Code)) (cn : Str) (cs : Scope) (fa : Addr) (ccd : Value) (cl : List (Str × Addr)) (outer : List Env) (A₀ : Around) (base h₀ : Heap) (L : Addr) (mm : Str → Option Value) (s : Shared) (Q E : Value → Shared → Prop),
    Below A₀ base outer h₀ → Fr h₀ L s.heap mm → (hd1.heap_39 w.params).In h₀ → News h₀ L s.heap news → PyProof.Rows.Top hd1.view_39 (looseW hd1.view_39 []) mean mg mb h₀ → cs.kind = .function →
    dp + 3 < recursionLimit → un + 24 < cLine → (∀ (t : Tok) (h' : Heap) (tk' : Nat), Fr h₀ L h' mm → News h₀ L h' news → Q (.str (pageS k0 ⟨s0, e0, r0⟩) t) { s with heap := h', toks := tk' }) →
      wpAny (model PySem.Challenge.rw_pe0094_01.row.prog w) (ktrTop dp un gd cn cs L fa ccd cl outer) (call (.ref 70) [.int s0 ts, .int e0 te, .int r0 tr, .int k0 tk0]) Q E s := by
  have hc : k0 = 0 ∨ k0 = 1 ∨ k0 = 2 ∨ k0 = 3 := by omega
  rcases hc with h | h | h | h
  · exact page1_0 w mean mg mb news s0 e0 r0 k0 ts te tr tk0 hs he hse hr h
  · exact page1_1 w mean mg mb news s0 e0 r0 k0 ts te tr tk0 hs he hse hr h
  · exact page1_2 w mean mg mb news s0 e0 r0 k0 ts te tr tk0 hs he hse hr h
  · exact page1_3 w mean mg mb news s0 e0 r0 k0 ts te tr tk0 hs he hse hr h
end Mine
end
section
open PySem PySem.W PyProof PyProof.Rows Mine
set_option linter.unusedVariables false
set_option maxRecDepth 100000
set_option maxHeartbeats 8000000
namespace Mine
local macro_rules | `(tactic| walk_at "my end") => `(tactic| ((rename News _ _ _ _ => nE'); refine kst_end ⟨_, _⟩ (by assumption) nE' (by first | exact fun _ hp => hp | exact fun _ hp => List.mem_append_left _ hp) (by exact fun _ hp => by repeat (first | with_reducible exact List.mem_append_right _ hp | apply List.mem_cons_of_mem)) (by rfl) (by kst_facts) (by kst_all) (by kst_same) (by kst_p)))
local macro_rules | `(tactic| walk_at "my run") => `(tactic| repeat' (first | ((with_reducible show InvEndN _ _ (KstS _ _ _ _ _ _ _ _) _ _ _ _); first | walk_at "my end" | walk1) | ((with_reducible show wpAny _ _ (execs _ _) _ _ _); dsimp only) | (k_unfold; (try dsimp only)) | ((fail_if_success (with_reducible show wpAny _ _ (pyIter _) _ _ _)); (fail_if_success (with_reducible show wpAny _ _ (compareOp CmpOp.Eq (Value.ref _) (Value.ref _)) _ _ _)); (fail_if_success (with_reducible show LCt.CompSrcT _ _ _ _ _ _ _ _ _ _ _ _ _ _ _)); (fail_if_success (with_reducible show wpAny _ _ (eval (PySem.Expr.ListComp _ _ _ _) _) _ _ _)); (fail_if_success (with_reducible show wpAny _ _ (exec (PySem.Stmt.Assign _ (PySem.Expr.ListComp _ _ _ _) _) _) _ _ _)); walk1) | (dsimp only; (fail_if_success (with_reducible show wpAny _ _ (pyIter _) _ _ _)); (fail_if_success (with_reducible show wpAny _ _ (compareOp CmpOp.Eq (Value.ref _) (Value.ref _)) _ _ _)); (fail_if_success (with_reducible show LCt.CompSrcT _ _ _ _ _ _ _ _ _ _ _ _ _ _ _)); (fail_if_success (with_reducible show wpAny _ _ (eval (PySem.Expr.ListComp _ _ _ _) _) _ _ _)); (fail_if_success (with_reducible show wpAny _ _ (exec (PySem.Stmt.Assign _ (PySem.Expr.ListComp _ _ _ _) _) _) _ _ _)); walk1)))
local macro_rules | `(tactic| k_room) => `(tactic| ktr_room)
local macro_rules | `(tactic| walk_at "exec For Name Name cons nil") => `(tactic| (k_here; (rename Fr _ _ _ _ => lF'); (with_unfolding_all refine' For_invVF lF' ?k1 ?k2 ?_; (case k1 => exact rfl); (case k2 => exact rfl); k_whole)))
theorem due1 (w : World) (mean : ExcName → Option Value) (mg mb : Str → Option Value) (a1 a2 : Addr) (x y : Rw) (p1 p2 p3 q1 q2 q3 : Tok) (n1 n2 : Nat) (news : List (Addr × Obj)) (k0 W : Int) (tk0 tW : Tok) (hx : RowOk W x) (hy : RowOk W y) (hk : 0 ≤ k0) (hk' : k0 < 4) (hW : 1 ≤ W) (hW' : W ≤ 3) :
  ∀ (dp un : Nat) (gd : Option (List Code)) (cn : Str) (cs : Scope) (fa : Addr) (ccd : Value) (cl : List (Str × Addr)) (outer : List Env) (A₀ : Around) (base h₀ : Heap) (L : Addr) (mm : Str → Option Value) (s : Shared) (Q E : Value → Shared → Prop),
    Below A₀ base outer h₀ → Fr h₀ L s.heap mm → (hd1.heap_39 w.params).In h₀ → News h₀ L s.heap ((a1, ({ cls := .type "tuple", data := .seq #[.int x.s p1, .int x.e p2, .int x.r p3] n1 } : Obj)) :: (a2, ({ cls := .type "tuple", data := .seq #[.int y.s q1, .int y.e q2, .int y.r q3] n2 } : Obj)) :: news) → PyProof.Rows.Top hd1.view_39 (looseW hd1.view_39 []) mean mg mb h₀ → cs.kind = .function →
    dp + 3 < recursionLimit → un + 90 < cLine → (∀ (t : Tok) (h' : Heap) (tk' : Nat), Fr h₀ L h' mm → News h₀ L h' ((a1, ({ cls := .type "tuple", data := .seq #[.int x.s p1, .int x.e p2, .int x.r p3] n1 } : Obj)) :: (a2, ({ cls := .type "tuple", data := .seq #[.int y.s q1, .int y.e q2, .int y.r q3] n2 } : Obj)) :: news) → Q (.int (dueI k0 W x y) t) { s with heap := h', toks := tk' }) →
      wpAny (model PySem.Challenge.rw_pe0094_01.row.prog w) (ktrTop dp un gd cn cs L fa ccd cl outer) (call (.ref 75) [.ref a1, .ref a2, .int k0 tk0, .int W tW]) Q E s := by
  (k_with "state" => first | exact cost_start | exact cost_turn1 (by with_reducible assumption) (by omega) (by omega) | exact cost_turn2 (by with_reducible assumption) (by omega))
  k_fill
  intros; rename_i hret
  have cbI : CbIn 28 := CbIn.mk
  w_on
  w_strict (refine wpAny_call ?_; k_dflt (refine' code_defC ?k1 ?k2 ?k3 ?k4 ?k5 ?kA ?kF ?kK ?k6 ?k7 ?k8 ?k9 ?kB ?kD ?_ ?c2 ?c3 ?c4; (case kA => exact rfl); (case kF => exact rfl); (case kK => assumption); (case k1 => k_asm); (case k2 => k_asm); (case k3 => k_asm); (case k4 => k_asm); (case k5 => k_asm); (case k6 => k_is); (case k7 => k_is); (case k8 => ktr_room); (case k9 => exact BindsTo.of_eq rfl); (case kB => exact rfl); (case kD => decide +kernel); (case c2 => exact rfl); (case c3 => exact rfl); (case c4 => exact rfl); k_whole; intro g' L' h' tk' cells' FG' F' N' Y' B' X' T' l1; (try k_lt l1); k_cells Y'; (try simp only [List.cons_append, List.nil_append] at N'); (try dsimp only); (try k_lift B'); (try k_fold)))
  walk_at "my run"
  obtain ⟨xs0, xs1, xle, xe1, xw, xr⟩ := hx
  obtain ⟨ys0, ys1, yle, ye1, yw, yr⟩ := hy
  k_dflt (refine LCt.Assign_ListComp_T (F₀ := by k_asm) (by rfl) (by with_unfolding_all rfl) (by with_unfolding_all rfl) (by decide) (by rfl) (by decide) (by rfl) (by rfl) (by rfl) ?_)
  walk_at "my run"
  k_dflt (refine LCt.CompSrcT.range (n := (x.e - x.s).toNat) (by rfl) (by k_asm) (by k_asm) (by k_asm) (small_one (by omega) (by omega) (by omega) (by omega)) (rangeSize_nat _ _) (by rw [sizeLine_eq]; omega) ?_)
  intro g''
  refine kci_range (shrG y) (fun k' t' I' oI' C' oC' D' m' ys' l' h' tk' E' hlo' hhi' hI' hC' hx' F' N' off' ne' => ?_) ?_ (shrG_grows y)
  · have off0 := off'
    (try (simp only [LCg.Off3, and_true] at off'))
    intro hMark'
    unfold shrG
    (try k_fold)
    walk_at "my run"
    · exact LCg.CompEnd.intro (by assumption) (by assumption) _ (fun _ hp => hp) off0 trivial ⟨rfl, _, _, rfl, if_pos (by omega)⟩
    · exact LCg.CompEnd.intro (by assumption) (by assumption) _ (fun _ hp => hp) off0 trivial ⟨rfl, if_neg (by omega)⟩
    · exact LCg.CompEnd.intro (by assumption) (by assumption) _ (fun _ hp => hp) off0 trivial ⟨rfl, if_neg (by omega)⟩
  intro ysS hysS0 hlS DS h tk F N off1
  clear off1
  have hysS := shr_are hysS0
  clear hysS0
  have hlS' := hysS.length
  dsimp only
  (try k_fold)
  walk_at "my run"
  refine eq_intsK (News.isList (by k_asm) (by k_mem)) hysS (us := []) (News.isList (by k_asm) (.head _)) IntsAre.nil (by ktr_units) ?_
  dsimp only
  walk_at "my run"
  · have e := due_upon W x y (by with_reducible assumption) (by with_reducible assumption)
    rw [e, due_none (k := k0) (by first | with_reducible assumption | simp_all)]
    exact hret _ _ _ (by assumption) (cb_drop (by k_asm) (fun p hp => by repeat (first | exact hp | apply List.mem_cons_of_mem | apply List.mem_append_right)))
  · k_state_given ["along!"] (fun a0 pre along => along = a0 + (pre.map costI).sum) "along"
    · skip
      walk_at "my run"
    · skip
      walk_at "my run"
      have e := due_upon W x y (by with_reducible assumption) (by with_reducible assumption)
      rw [e]
      (rename decide (shr x y = []) = false => hd)
      have e2 := due_cased (k := k0) (W := W) (of_decide_eq_false hd) ⟨by with_reducible assumption, by with_reducible assumption⟩ kInv
      rw [e2]
      exact hret _ _ _ (by assumption) (cb_drop (by k_asm) (fun p hp => by repeat (first | exact hp | apply List.mem_cons_of_mem | apply List.mem_append_right)))
  all_goals (
    have e := due_upon W x y (by with_reducible assumption) (by with_reducible assumption)
    rw [e]
    (rename decide (shr x y = []) = false => hd)
    have e2 := due_plain (k := k0) (W := W) (of_decide_eq_false hd) (by first | omega | (intro hc; first | omega | exact absurd (by with_reducible assumption) hc.2 | exact hc.2 (by with_reducible assumption)))
    rw [e2]
    exact hret _ _ _ (by assumption) (cb_drop (by k_asm) (fun p hp => by repeat (first | exact hp | apply List.mem_cons_of_mem | apply List.mem_append_right))))
end Mine
end
section
open PySem PySem.W PyProof PyProof.Rows Mine
set_option linter.unusedVariables false
set_option maxRecDepth 100000
set_option maxHeartbeats 8000000
local macro_rules | `(tactic| walk_at "my run") => `(tactic| repeat' (first | ((with_reducible show wpAny _ _ (execs _ _) _ _ _); dsimp only) | (k_unfold; (try dsimp only)) | ((fail_if_success (with_reducible show wpAny _ _ (eval (PySem.Expr.ListComp _ _ _ _) _) _ _ _)); (fail_if_success (with_reducible show wpAny _ _ (exec (PySem.Stmt.Assign _ (PySem.Expr.ListComp _ _ _ _) _) _) _ _ _)); (fail_if_success (with_reducible show wpAny _ _ (pyIter _) _ _ _)); (fail_if_success (with_reducible show wpAny _ _ (call (Value.ref 28) _) _ _ _)); (fail_if_success (with_reducible show wpAny _ _ (call (Value.ref 70) _) _ _ _)); (fail_if_success (with_reducible show wpAny _ _ (call (Value.ref 75) _) _ _ _)); (fail_if_success (with_reducible show LCt.CompSrcT _ _ _ _ _ _ _ _ _ _ _ _ _ _ _)); (fail_if_success (with_reducible show LCg.CompSrc _ _ _ _ _ _ _ _ _ _ _ _ _ _)); walk1) | (dsimp only; (fail_if_success (with_reducible show wpAny _ _ (eval (PySem.Expr.ListComp _ _ _ _) _) _ _ _)); (fail_if_success (with_reducible show wpAny _ _ (exec (PySem.Stmt.Assign _ (PySem.Expr.ListComp _ _ _ _) _) _) _ _ _)); (fail_if_success (with_reducible show wpAny _ _ (pyIter _) _ _ _)); (fail_if_success (with_reducible show wpAny _ _ (call (Value.ref 28) _) _ _ _)); (fail_if_success (with_reducible show wpAny _ _ (call (Value.ref 70) _) _ _ _)); (fail_if_success (with_reducible show wpAny _ _ (call (Value.ref 75) _) _ _ _)); (fail_if_success (with_reducible show LCt.CompSrcT _ _ _ _ _ _ _ _ _ _ _ _ _ _ _)); (fail_if_success (with_reducible show LCg.CompSrc _ _ _ _ _ _ _ _ _ _ _ _ _ _)); walk1)))
local macro_rules | `(tactic| walk_at "exec For Name BinOp cons nil") => `(tactic| (k_here; (rename Fr _ _ _ _ => lF'); (with_unfolding_all refine' For_invVF lF' ?k1 ?k2 ?_; (case k1 => exact rfl); (case k2 => exact rfl); k_whole)))
local macro_rules | `(tactic| walk_at "call builtin:len cons nil") => `(tactic| (refine r_lenB (News.isList (by k_asm) (by k_mem)) (by with_reducible assumption) (by omega) ?_))
local macro_rules | `(tactic| walk_at "subscriptTail Name Name ref int") => `(tactic| (k_here; (with_reducible show wpAny _ _ (subscriptTail _ _ (Value.ref _) (Value.int _ _)) _ _ _); (refine item_at (News.isList (by k_asm) (by k_mem)) (by omega) (by omega) (by with_reducible assumption) ?_)))
local macro_rules | `(tactic| walk_at "subscriptTail Name BinOp ref int") => `(tactic| (k_here; (with_reducible show wpAny _ _ (subscriptTail _ _ (Value.ref _) (Value.int _ _)) _ _ _); (refine item_at (News.isList (by k_asm) (by k_mem)) (by omega) (by omega) (by with_reducible assumption) ?_)))
local macro_rules | `(tactic| walk_at "my lev") => `(tactic| (k_here; (with_reducible show wpAny _ _ (call (Value.ref 28) _) _ _ _); (k_dflt (refine' lev1 _ _ _ _ _ _ _ _ _ _ _ _ ?ha ?hb ?hv ?hvm _ _ _ _ _ _ _ _ _ _ _ _ _ _ _ _ _ ?k1 ?k2 ?k3 ?k4 ?k5 ?kK ?kd ?ku ?kR)); (case hv => with_reducible assumption); (case ha => omega); (case hb => omega); (case hvm => omega); (case k1 => k_asm); (case k2 => k_asm); (case k3 => k_asm); (case k4 => k_asm); (case k5 => k_asm); (case kK => exact rfl); (case kd => ktr_room); (case ku => ktr_units); intro t9 h9 tk9 F9 N9; (try dsimp only); (try k_fold)))
local macro_rules | `(tactic| walk_at "my page") => `(tactic| (k_here; (with_reducible show wpAny _ _ (call (Value.ref 70) _) _ _ _); (k_dflt (refine' page1 _ _ _ _ _ _ _ _ _ _ _ _ _ ?zs ?ze ?zse ?zr ?zk ?zk' _ _ _ _ _ _ _ _ _ _ _ _ _ _ _ _ _ ?k1 ?k2 ?k3 ?k4 ?k5 ?kK ?kd ?ku ?kR)); (case zs => omega); (case ze => omega); (case zse => omega); (case zr => omega); (case zk => omega); (case zk' => omega); (case k1 => k_asm); (case k2 => k_asm); (case k3 => k_asm); (case k4 => k_asm); (case k5 => k_asm); (case kK => exact rfl); (case kd => ktr_room); (case ku => ktr_units); intro t9 h9 tk9 F9 N9; (try dsimp only)))
local macro_rules | `(tactic| walk_at "my due") => `(tactic| (k_here; (with_reducible show wpAny _ _ (call (Value.ref 75) _) _ _ _); (k_dflt (refine' due1 _ _ _ _ _ _ _ _ _ _ _ _ _ _ _ _ _ _ _ _ _ ?zx ?zy ?zk ?zk' ?zW ?zW' _ _ _ _ _ _ _ _ _ _ _ _ _ _ _ _ _ ?k1 ?k2 ?k3 ?k4 ?k5 ?kK ?kd ?ku ?kR)); (case k4 => k_asm); (case zx => with_reducible assumption); (case zy => with_reducible assumption); (case zk => omega); (case zk' => omega); (case zW => omega); (case zW' => omega); (case k1 => k_asm); (case k2 => k_asm); (case k3 => k_asm); (case k5 => k_asm); (case kK => exact rfl); (case kd => ktr_room); (case ku => ktr_units); intro t9 h9 tk9 F9 N9; (try dsimp only); (try k_fold)))
theorem PySem.Challenge.cw_pe0094_01_holds : PySem.Challenge.rw_pe0094_01.Holds :=
  hd1 (by
  (k_with "state" => first | (simp only [List.map_nil]; done) | (simp only [List.map_append, List.map_cons, List.map_nil, rowD]))
  w_strict (k_go0; (all_goals try k_fold))
  have cbI : CbIn 28 := CbIn.mk
  walk_at "my run"
  rename List Int => ns
  have hk0 := fmod_lo ns.sum (n := 4) (by decide)
  have hk1 := fmod_hi ns.sum (n := 4) (by decide)
  k_dat (fun (pre : List Int) rows => rows = pre.map (rowD (1 + (ns.sum.fmod 4).fmod 2 + (ns.sum.fmod 4).fdiv 2))) "rows*"
  · obtain ⟨w1, w2, w3, w4⟩ := width_facts hk0 hk1
    dsimp only
    walk_at "my run"
  dsimp only
  walk_at "my run"
  rename DatAll _ _ _ => hDat
  have hrows := rows_are hDat
  have hok : ∀ row ∈ List.map (rowT (1 + (ns.sum.fmod 4).fmod 2 + (ns.sum.fmod 4).fdiv 2)) (List.take 4 ns ++ [33, 5]), RowOk (1 + (ns.sum.fmod 4).fmod 2 + (ns.sum.fmod 4).fdiv 2) row := by
    intro row hr
    obtain ⟨x, _, rfl⟩ := List.mem_map.mp hr
    exact rowT_ok hk0 hk1 x
  have hrl : 2 ≤ (List.map (rowT (1 + (ns.sum.fmod 4).fmod 2 + (ns.sum.fmod 4).fdiv 2)) (List.take 4 ns ++ [33, 5])).length ∧ (List.map (rowT (1 + (ns.sum.fmod 4).fmod 2 + (ns.sum.fmod 4).fdiv 2)) (List.take 4 ns ++ [33, 5])).length ≤ 6 := by simp; omega
  generalize List.map (rowT (1 + (ns.sum.fmod 4).fmod 2 + (ns.sum.fmod 4).fdiv 2)) (List.take 4 ns ++ [33, 5]) = rs at hrows hok hrl
  clear hDat
  k_dflt (refine LCg.Assign_ListComp_U (F₀ := by k_asm) (by rfl) (by with_unfolding_all rfl) (by with_unfolding_all rfl) (by decide) (by rfl) (by decide) (by rfl) (by rfl) (by rfl) ?_)
  walk_at "my run"
  k_dflt (refine LCg.CompSrc.ledger (by rfl) (by k_asm) (by k_asm) (.head _) (by have := hrows.1; rw [sizeLine_eq]; simp; omega) ?_)
  intro g'
  refine rest_rows (pageS (ns.sum.fmod 4)) (hrows.mono fun p hp => .tail _ hp) (fun row a t1 t2 t3 n I oI C oC D m' ys' h' tk' E' hr hC hx F' N' off' ne' hS => ?_) (.inr ⟨_, .head _, rfl, _, rfl⟩) ?_
  · have off0 := off'
    (try (simp only [LCg.Off3, and_true] at off'))
    have hro := hok row hr
    have hMark' : KPfMark := True.intro
    (try k_fold)
    obtain ⟨x0, x1, xle, xe1, xw, xr⟩ := hro
    walk_at "my run"
    walk_at "my page"
    exact LCg.CompEnd.intro (by assumption) (cb_drop (by assumption) (fun p hp => List.mem_cons_of_mem _ hp)) _ (fun _ hp => hp) off0 hS ⟨rfl, _, rfl⟩
  intro ysP hysP DP h' tk' F' N' off1'
  clear off1'
  have hR1 := hrows.1
  dsimp only
  walk_at "my run"
  have hsm : Builtin.Range.small 1 (rs.length : Int) 1 = true := small_one (by omega) (by omega) (by omega) (by omega)
  have hrn : Builtin.Range.rangeSize 1 (rs.length : Int) 1 = ((rs.length - 1 : Nat) : Int) := by rw [rangeSize_nat]; omega
  refine' loop_plain (n := rs.length - 1) [Str.ofString "due"] ?e1 ?e2 hsm hrn ?e3 ?e4 ?turn ?done
  case e1 => rfl
  case e2 => k_asm
  case e3 => k_asm
  case e4 => k_asm
  case turn =>
    clear hsm hrn
    intro k t u h tk own hk2 hk3 F N
    obtain ⟨x, a1, p1, p2, p3, n1, hx1, hv1, hm1⟩ := rows_at hrows (k := k - 1) (by omega) (by omega)
    obtain ⟨y, a2, q1, q2, q3, n2, hy1, hv2, hm2⟩ := rows_at hrows (k := k) (by omega) (by omega)
    obtain ⟨s1, hs1⟩ := carried_at (g := pageS (ns.sum.fmod 4)) hysP _ _ hx1
    obtain ⟨s2, hs2⟩ := carried_at (g := pageS (ns.sum.fmod 4)) hysP _ _ hy1
    have hxo := hok x (List.mem_of_getElem? hx1)
    have hyo := hok y (List.mem_of_getElem? hy1)
    have N9 := News.front2 N (List.mem_append_left _ (.tail _ (.tail _ hm1))) (List.mem_append_left _ (.tail _ (.tail _ hm2)))
    clear N
    simp only [List.cons_append, List.nil_append] at N9
    obtain ⟨w1, w2, w3, w4⟩ := width_facts hk0 hk1
    have hask : Asks1 (ns.sum.fmod 4) (1 + (ns.sum.fmod 4).fmod 2 + (ns.sum.fmod 4).fdiv 2) x y := asks1 hk0 hk1 hxo hyo
    obtain ⟨v, hv, hve⟩ := hask
    have hl1 : (pageS (ns.sum.fmod 4) x).length ≤ 12 := page_len hk0 hk1 hxo
    have hl2 : (pageS (ns.sum.fmod 4) y).length ≤ 12 := page_len hk0 hk1 hyo
    have hf0 := fmod_lo (k - 1) (n := 2) (by decide)
    have hf1 := fmod_hi (k - 1) (n := 2) (by decide)
    dsimp only
    (try k_fold)
    walk_at "my run"
    walk_at "my due"
    walk_at "my run"
    walk_at "my lev"
    walk_at "my run"
    · exfalso; omega
    refine' plain_next ?zF ?zN ?zR ?zm
    case zF => k_asm
    case zN => k_asm
    case zR => exact fun p hp => .tail _ (.tail _ hp)
    case zm =>
      intro z hz hs
      have h1 := stored_off1 hs
      simp only [h1, hz, hs, if_false, Bool.false_eq_true]
  intro u h tk F N
  (try k_fold)
  k_steps
  done)
end
