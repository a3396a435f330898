import PyProof.Rows.All
import Wide.All
import OpenK.AllK
import Wide.FinOn
import PySem.Challenge.RW_pd0078_01
set_option Elab.async false
set_option maxRecDepth 100000
set_option linter.unusedVariables false
set_option rowWalk.seconds 0

section
open PySem PySem.W PyProof.Rows
namespace Mine
set_option maxHeartbeats 8000000 in
open_top hd for PySem.Challenge.rw_pd0078_01
end Mine
end

section
open PySem PySem.W PyProof.Rows
namespace Mine
/-- what a def of the text does, told for every call: f at most k deep, given pre; the answer is R -/
abbrev Ct (w : World) (mean : ExcName → Option Value) (mg mb : Str → Option Value) (f : Addr) (k : Nat) (news : List (Addr × Obj)) (pre : Prop) (vs : List Value) (R : Tok → Value) : Prop :=
  ∀ {dp un : Nat} {gd : Option (List Code)} {cn : Str} {cs : Scope} {a : Addr} {ccd : Value} {clx : List (Str × Addr)} {outer : List Env} {A₀ : Around} {base h₀ : Heap} {L : Addr} {m : Str → Option Value} {s : Shared} {Q E : Value → Shared → Prop},
    Below A₀ base outer h₀ → Fr h₀ L s.heap m → (hd.heap_39 w.params).In h₀ → News h₀ L s.heap news → Top hd.view_39 (looseW hd.view_39 []) mean mg mb h₀ → cs.kind = .function →
    pre → dp + k < recursionLimit → un + 8 * k < cLine →
    (∀ (t : Tok) (h' : Heap) (tk' : Nat), Fr h₀ L h' m → News h₀ L h' news → Q (R t) { s with heap := h', toks := tk' }) →
      wpAny (model Challenge.rw_pd0078_01.row.prog w) (ktrTop dp un gd cn cs L a ccd clx outer) (call (.ref f) vs) Q E s
theorem fr_as {h₀ h : Heap} {L : Addr} {m : Str → Option Value} (m' : Str → Option Value) (F : Fr h₀ L h m) (e : m = m') : Fr h₀ L h m' := e ▸ F
theorem fr_put {h₀ h : Heap} {L : Addr} {m : Str → Option Value} {x : Str} {v : Value} (F : Fr h₀ L h m) (e : m x = some v) : Fr h₀ L h (fun y => if y = x then some v else m y) := by
  refine fr_as _ F ?_
  funext y
  by_cases h : y = x
  · rw [if_pos h, h, e]
  · rw [if_neg h]
theorem fr_puts {h₀ h : Heap} {L : Addr} {m : Str → Option Value} (ps : List (Str × Value)) (F : Fr h₀ L h m) (e : ∀ p ∈ ps, m p.1 = some p.2) : Fr h₀ L h (kstB m ps) :=
  fr_as _ F (funext fun _ => (kstB_eq e fun _ => rfl).symm)
/-- the state is the old one but for the heap and the counter; the frame and the ledger are told -/
def At (h₀ : Heap) (L : Addr) (s : Shared) (m : Str → Option Value) (news : List (Addr × Obj)) (s₂ : Shared) : Prop :=
  ∃ h' tk, s₂ = { s with heap := h', toks := tk } ∧ Fr h₀ L h' m ∧ News h₀ L h' news
/-- the same, of the frame only these names are told -/
def AtH (h₀ : Heap) (L : Addr) (s : Shared) (ps : List (Str × Value)) (news : List (Addr × Obj)) (s₂ : Shared) : Prop :=
  ∃ h' tk m', s₂ = { s with heap := h', toks := tk } ∧ Fr h₀ L h' m' ∧ News h₀ L h' news ∧ ∀ p ∈ ps, m' p.1 = some p.2
theorem AtH.out {h₀ : Heap} {L : Addr} {s : Shared} {ps : List (Str × Value)} {news : List (Addr × Obj)} {s₂ : Shared} (h : AtH h₀ L s ps news s₂) :
    ∃ h' tk m', s₂ = { s with heap := h', toks := tk } ∧ Fr h₀ L h' (kstB m' ps) ∧ News h₀ L h' news :=
  let ⟨h', tk, m', e, F, N, H⟩ := h
  ⟨h', tk, m', e, fr_puts ps F H, N⟩
theorem AtH.mk {h₀ h : Heap} {L : Addr} {s : Shared} {m : Str → Option Value} {ps : List (Str × Value)} {news news' : List (Addr × Obj)} {tk : Nat} (F : Fr h₀ L h m) (N : News h₀ L h news') (hn : ∀ p ∈ news, p ∈ news') (H : ∀ p ∈ ps, m p.1 = some p.2) : AtH h₀ L s ps news { s with heap := h, toks := tk } :=
  ⟨h, tk, m, rfl, F, fun p hp => N p (hn p hp), H⟩
theorem all_nil {α : Type} {P : α → Prop} : ∀ p ∈ ([] : List α), P p := fun _ h => nomatch h
theorem all_cons {α : Type} {P : α → Prop} {a : α} {l : List α} (h : P a) (r : ∀ p ∈ l, P p) : ∀ p ∈ a :: l, P p := List.forall_mem_cons.mpr ⟨h, r⟩
section
variable {prog : Program} {w : World} {A : Around} {E : Value → Shared → Prop} {Q : Flow → Shared → Prop} {s : Shared} {env : Env} {h₀ : Heap} {L : Addr}
theorem while_gen {i : Str} {test : Expr} {body : List Stmt} {pos : Pos} {m : Str → Option Value} {news : List (Addr × Obj)} {k₀ : Int} {t₀ : Tok} (c : Int → Bool) (nxt : Int → Int) (J : Int → Prop) (μ : Int → Nat)
    (F : Fr h₀ L s.heap m) (Nw : News h₀ L s.heap news) (hmi : m i = some (.int k₀ t₀)) (hJ0 : J k₀)
    (gtest : ∀ k t h₁ tk₁, J k → Fr h₀ L h₁ (bindM m i (some (.int k t))) → News h₀ L h₁ news →
      wpAny (model prog w) A (isTrue test env (eval test env)) (fun b s₂ => b = c k ∧ At h₀ L s (bindM m i (some (.int k t))) news s₂) E { s with heap := h₁, toks := tk₁ })
    (gturn : ∀ k t h₁ tk₁, J k → c k = true → Fr h₀ L h₁ (bindM m i (some (.int k t))) → News h₀ L h₁ news →
      wpAny (model prog w) A (execs body env) (CntStep h₀ L s m i news (nxt k)) E { s with heap := h₁, toks := tk₁ })
    (hJ : ∀ k, J k → c k = true → J (nxt k) ∧ μ (nxt k) < μ k)
    (done : ∀ k t h' tk, J k → c k = false → Fr h₀ L h' (bindM m i (some (.int k t))) → News h₀ L h' news → Q .next { s with heap := h', toks := tk })
    (hE : PassesOwn (model prog w) A env E := by passes_own) :
    wpAny (model prog w) A (exec (.While test body [] pos) env) Q E s := by
  have hm0 : m = bindM m i (some (.int k₀ t₀)) := by rw [← hmi]; exact bindM_start m i
  refine While_inv (fun n m₁ nw => ∃ k t, J k ∧ m₁ = bindM m i (some (.int k t)) ∧ nw = news ∧ n = μ k) F Nw ⟨k₀, t₀, hJ0, hm0, rfl, rfl⟩ ?_ hE
  rintro n m₁ nw h₁ tk₁ F₁ N₁ ⟨k, t, hk, rfl, rfl, rfl⟩
  refine wpAny_mono (gtest k t h₁ tk₁ hk F₁ N₁) (fun b s₂ h₂ => ?_) fun _ _ e => e
  obtain ⟨rfl, h', tk, rfl, F₂, N₂⟩ := h₂
  cases hc : c k with
  | true =>
    rw [if_pos rfl]
    refine wpAny_mono (gturn k t h' tk hk hc F₂ N₂) (fun f s₃ h₃ => ?_) fun _ _ e => e
    obtain ⟨rfl, h'', tk'', t', rfl, F₃, N₃⟩ := h₃
    exact WhileStep.intro F₃ N₃ (hJ k hk hc).2 ⟨nxt k, t', (hJ k hk hc).1, rfl, rfl, rfl⟩
  | false =>
    rw [if_neg (by simp)]
    exact done k t h' tk hk hc F₂ N₂
/-- one statement by what it leaves: the rest is walked once -/
theorem cut_st {st : Stmt} (Mid : Shared → Prop) (h1 : wpAny (model prog w) A (exec st env) (fun f s' => (f = .next ∧ Mid s') ∨ (∃ v, f = .ret v ∧ Q (.ret v) s')) E s) (h2 : ∀ s', Mid s' → Q .next s') :
    wpAny (model prog w) A (exec st env) Q E s := by
  refine wpAny_mono h1 (fun f s' h => ?_) fun _ _ e => e
  rcases h with ⟨rfl, h⟩ | ⟨v, rfl, h⟩
  · exact h2 s' h
  · exact h
end
end Mine
end

section
open PySem PySem.W PyProof.Rows
namespace Mine
theorem slice_nn (x : Str) : Txt.slice x none none = x := by
  unfold Txt.slice
  have : (Builtin.Str.strSliceIndices none none 1 x.length).length = x.length := by
    unfold Builtin.Str.strSliceIndices sliceRange
    simp only [show (1 : Int) > 0 by decide, if_true, List.length_map, List.length_range]
    (try simp only [Int.ediv_one]); omega
  simp [this]
theorem slice_neg_len (x : Str) (j : Int) (h : j < 0) : ((Txt.slice x none (some j)).length : Int) = max 0 ((x.length : Int) + j) := by
  rw [slice_to_neg h]
  exact (fact_slice_ns x _).1 (by omega) (by omega)
section
variable {prog : Program} {w : World} {A : Around} {E : Value → Shared → Prop} {s : Shared} {value slice : Expr} {x : Str} {t : Tok} {h₀ : Heap} {L : Addr} {m : Str → Option Value} {news : List (Addr × Obj)} {Q : Value → Shared → Prop}
theorem slice_none' (hF : Fr h₀ L s.heap m) (hN : News h₀ L s.heap news) (h : ∀ h' t' k, Fr h₀ L h' m → News h₀ L h' news → Q (.str x t') { s with heap := h', toks := k })
    (hs : subscripted slice false (.str x t) (.ref s.heap.objs.size) = operate [.ref s.heap.objs.size, .str x t] (getItem (.str x t) (.ref s.heap.objs.size)) := by with_unfolding_all rfl)
    (ht : ∀ r, letTemporaryGo value (.str x t) r = pure () := by intro _; with_unfolding_all rfl) (hsz : x.length ≤ sizeLine := by size_fits) :
    wpAny (model prog w) A (subscriptTail value slice (.str x t) (.ref s.heap.objs.size)) Q E { s with heap := s.heap.push { cls := .type "slice", data := .fields #[.none, .none, .none] } } :=
  slice_strN_nn hF hN (fun h' t' k a b => by rw [slice_nn]; exact h h' t' k a b) hs ht hsz
theorem slice_to' {j : Int} {uj : Tok} (hF : Fr h₀ L s.heap m) (hN : News h₀ L s.heap news) (h : ∀ h' t' k, Fr h₀ L h' m → News h₀ L h' news → (Txt.slice x none (some j)).length ≤ x.length → (j < 0 → ((Txt.slice x none (some j)).length : Int) = max 0 ((x.length : Int) + j)) → Q (.str (Txt.slice x none (some j)) t') { s with heap := h', toks := k })
    (hs : subscripted slice false (.str x t) (.ref s.heap.objs.size) = operate [.ref s.heap.objs.size, .str x t] (getItem (.str x t) (.ref s.heap.objs.size)) := by with_unfolding_all rfl)
    (ht : ∀ r, letTemporaryGo value (.str x t) r = pure () := by intro _; with_unfolding_all rfl) (hsz : x.length ≤ sizeLine := by size_fits) :
    wpAny (model prog w) A (subscriptTail value slice (.str x t) (.ref s.heap.objs.size)) Q E { s with heap := s.heap.push { cls := .type "slice", data := .fields #[.none, .int j uj, .none] } } :=
  slice_strN_ns hF hN (fun h' t' k a b => h h' t' k a b (Txt.slice_le x _ _) (slice_neg_len x j)) hs ht hsz
end
end Mine
end

section
namespace Mine
/-- an alignment of two lists of signs and what it costs -/
inductive Al (s : Nat → Nat → Int) : List Nat → List Nat → Int → Prop
  | nil : Al s [] [] 0
  | sub {a b : List Nat} {n : Int} (x y : Nat) : Al s a b n → Al s (a ++ [x]) (b ++ [y]) (n + s x y)
  | del {a b : List Nat} {n : Int} (x : Nat) : Al s a b n → Al s (a ++ [x]) b (n + 2)
  | ins {a b : List Nat} {n : Int} (y : Nat) : Al s a b n → Al s a (b ++ [y]) (n + 2)
structure Cost (s : Nat → Nat → Int) : Prop where
  nn : ∀ x y, 0 ≤ s x y
  same : ∀ x, s x x = 0
  symm : ∀ x y, s x y = s y x
theorem Al.as {s : Nat → Nat → Int} {a b : List Nat} {n n' : Int} (h : Al s a b n) (e : n = n') : Al s a b n' := e ▸ h
def IsD (s : Nat → Nat → Int) (a b : List Nat) (d : Int) : Prop := Al s a b d ∧ ∀ n, Al s a b n → d ≤ n
section
variable {s : Nat → Nat → Int} (C : Cost s)
include C
theorem Al.swap {a b : List Nat} {n : Int} (h : Al s a b n) : Al s b a n := by
  induction h with
  | nil => exact .nil
  | sub x y _ ih => rw [C.symm x y]; exact .sub y x ih
  | del x _ ih => exact .ins x ih
  | ins y _ ih => exact .del y ih
theorem Al.lens {a b : List Nat} {n : Int} (h : Al s a b n) : 2 * (b.length : Int) - 2 * (a.length : Int) ≤ n := by
  induction h with
  | nil => simp
  | sub x y _ ih => have := C.nn x y; simp only [List.length_append, List.length_cons, List.length_nil]; omega
  | del x _ ih => simp only [List.length_append, List.length_cons, List.length_nil]; omega
  | ins y _ ih => simp only [List.length_append, List.length_cons, List.length_nil]; omega
omit C in
theorem IsD.uniq {a b : List Nat} {d d' : Int} (h : IsD s a b d) (h' : IsD s a b d') : d = d' := Int.le_antisymm (h.2 _ h'.1) (h'.2 _ h.1)
theorem IsD.swap {a b : List Nat} {d : Int} (h : IsD s a b d) : IsD s b a d := ⟨h.1.swap C, fun n hn => h.2 n (hn.swap C)⟩
omit C in
theorem snoc_inj {a a' : List Nat} {x x' : Nat} (h : a ++ [x] = a' ++ [x']) : a = a' ∧ x = x' := by
  have := List.append_inj' h rfl
  exact ⟨this.1, by simpa using this.2⟩
omit C in
theorem Al.inv {a b : List Nat} {x y : Nat} {n : Int} (h : Al s (a ++ [x]) (b ++ [y]) n) :
    Al s a b (n - s x y) ∨ Al s a (b ++ [y]) (n - 2) ∨ Al s (a ++ [x]) b (n - 2) := by
  generalize ha : a ++ [x] = A at h
  generalize hb : b ++ [y] = B at h
  cases h with
  | nil => simp at ha
  | sub x' y' h' =>
    obtain ⟨rfl, rfl⟩ := snoc_inj ha
    obtain ⟨rfl, rfl⟩ := snoc_inj hb
    exact .inl (h'.as (by omega))
  | del x' h' =>
    obtain ⟨rfl, rfl⟩ := snoc_inj ha
    subst hb
    exact .inr (.inl (h'.as (by omega)))
  | ins y' h' =>
    obtain ⟨rfl, rfl⟩ := snoc_inj hb
    subst ha
    exact .inr (.inr (h'.as (by omega)))
omit C in
theorem IsD.step {a b : List Nat} {x y : Nat} {d1 d2 d3 : Int} (h1 : IsD s a b d1) (h2 : IsD s a (b ++ [y]) d2) (h3 : IsD s (a ++ [x]) b d3) :
    IsD s (a ++ [x]) (b ++ [y]) (min (min d2 d3 + 2) (d1 + s x y)) := by
  refine ⟨?_, fun n hn => ?_⟩
  · by_cases e : d1 + s x y ≤ min d2 d3 + 2
    · rw [Int.min_eq_right e]; exact .sub x y h1.1
    · rw [Int.min_eq_left (by omega)]
      by_cases e' : d2 ≤ d3
      · rw [Int.min_eq_left e']; exact .del x h2.1
      · rw [Int.min_eq_right (by omega)]; exact .ins y h3.1
  · rcases hn.inv with q | q | q
    · have := h1.2 _ q; omega
    · have := h2.2 _ q; omega
    · have := h3.2 _ q; omega
omit C in
theorem Al.left (a : List Nat) : Al s [] a (2 * (a.length : Int)) := by
  induction h : a.length generalizing a with
  | zero => have : a = [] := List.length_eq_zero_iff.mp h
            subst this; exact .nil
  | succ n ih =>
    rcases List.eq_nil_or_concat a with rfl | ⟨b, x, rfl⟩
    · simp at h
    simp at h ⊢
    exact (Al.ins x (ih b h)).as (by omega)
theorem IsD.left (a : List Nat) : IsD s [] a (2 * (a.length : Int)) := ⟨Al.left a, fun n hn => by have := hn.lens C; simpa using this⟩
theorem IsD.right (a : List Nat) : IsD s a [] (2 * (a.length : Int)) := (IsD.left C a).swap C
theorem IsD.exists (a b : List Nat) : ∃ d, IsD s a b d := by
  induction h : a.length + b.length using Nat.strongRecOn generalizing a b with
  | ind n ih =>
    rcases List.eq_nil_or_concat a with rfl | ⟨a', x, rfl⟩
    · exact ⟨_, IsD.left C b⟩
    rcases List.eq_nil_or_concat b with rfl | ⟨b', y, rfl⟩
    · exact ⟨_, IsD.right C _⟩
    simp only [List.concat_eq_append, List.length_append, List.length_cons, List.length_nil] at h ⊢
    obtain ⟨d1, h1⟩ := ih (a'.length + b'.length) (by omega) a' b' rfl
    obtain ⟨d2, h2⟩ := ih (a'.length + (b' ++ [y]).length) (by simp; omega) a' (b' ++ [y]) rfl
    obtain ⟨d3, h3⟩ := ih ((a' ++ [x]).length + b'.length) (by simp; omega) (a' ++ [x]) b' rfl
    exact ⟨_, h1.step h2 h3⟩
omit C in
theorem Al.drop {a b : List Nat} {y : Nat} {n : Int} (C : Cost s) (h : Al s a (b ++ [y]) n) : ∃ n', n' ≤ n + 2 ∧ Al s a b n' := by
  generalize hB : b ++ [y] = B at h
  induction h generalizing b with
  | nil => simp at hB
  | sub x' y' h' ih =>
    obtain ⟨rfl, rfl⟩ := snoc_inj hB
    exact ⟨_, by have := C.nn x' y; omega, .del x' h'⟩
  | del x' h' ih =>
    obtain ⟨n', h1, h2⟩ := ih hB
    exact ⟨n' + 2, by omega, .del x' h2⟩
  | ins y' h' ih =>
    obtain ⟨rfl, rfl⟩ := snoc_inj hB
    exact ⟨_, by omega, h'⟩
theorem IsD.snoc {a b : List Nat} {d : Int} (x : Nat) (h : IsD s a b d) : IsD s (a ++ [x]) (b ++ [x]) d := by
  refine ⟨(Al.sub x x h.1).as (by rw [C.same]; omega), fun n hn => ?_⟩
  rcases hn.inv with q | q | q
  · have := h.2 _ q; rw [C.same] at this; omega
  · obtain ⟨n', h1, h2⟩ := Al.drop C q
    have := h.2 _ h2; omega
  · obtain ⟨n', h1, h2⟩ := Al.drop C (q.swap C)
    have := h.2 _ (h2.swap C); omega
theorem IsD.app_right {a b : List Nat} {d : Int} (t : List Nat) (h : IsD s a b d) : IsD s (a ++ t) (b ++ t) d := by
  induction t generalizing a b with
  | nil => simpa using h
  | cons x t ih => have := ih (h.snoc C x); simpa using this
omit C in
theorem Al.cons2 {a b : List Nat} {n : Int} (x y : Nat) (h : Al s a b n) : Al s (x :: a) (y :: b) (n + s x y) := by
  induction h with
  | nil => exact (Al.sub (a := []) (b := []) x y .nil)
  | sub x' y' _ ih => exact (Al.sub x' y' ih).as (by omega)
  | del x' _ ih => exact (Al.del x' ih).as (by omega)
  | ins y' _ ih => exact (Al.ins y' ih).as (by omega)
omit C in
theorem Al.consL {a b : List Nat} {n : Int} (x : Nat) (h : Al s a b n) : Al s (x :: a) b (n + 2) := by
  induction h with
  | nil => exact (Al.del (a := []) (b := []) x .nil)
  | sub x' y' _ ih => exact (Al.sub x' y' ih).as (by omega)
  | del x' _ ih => exact (Al.del x' ih).as (by omega)
  | ins y' _ ih => exact (Al.ins y' ih).as (by omega)
omit C in
theorem Al.consR {a b : List Nat} {n : Int} (y : Nat) (h : Al s a b n) : Al s a (y :: b) (n + 2) := by
  induction h with
  | nil => exact (Al.ins (a := []) (b := []) y .nil)
  | sub x' y' _ ih => exact (Al.sub x' y' ih).as (by omega)
  | del x' _ ih => exact (Al.del x' ih).as (by omega)
  | ins y' _ ih => exact (Al.ins y' ih).as (by omega)
omit C in
theorem Al.rev {a b : List Nat} {n : Int} (h : Al s a b n) : Al s a.reverse b.reverse n := by
  induction h with
  | nil => exact .nil
  | sub x y _ ih => simpa using ih.cons2 x y
  | del x _ ih => simpa using ih.consL x
  | ins y _ ih => simpa using ih.consR y
omit C in
theorem IsD.rev {a b : List Nat} {d : Int} (h : IsD s a b d) : IsD s a.reverse b.reverse d := ⟨h.1.rev, fun n hn => h.2 n (by simpa using hn.rev)⟩
theorem IsD.app_left {a b : List Nat} {d : Int} (t : List Nat) (h : IsD s a b d) : IsD s (t ++ a) (t ++ b) d := by
  have := (h.rev.app_right C t.reverse).rev
  simpa using this
omit C in
theorem Al.append {a b a' b' : List Nat} {n n' : Int} (h : Al s a b n) (h' : Al s a' b' n') : Al s (a ++ a') (b ++ b') (n + n') := by
  induction h' with
  | nil => simpa using h
  | sub x y _ ih => rw [← List.append_assoc, ← List.append_assoc]; exact (Al.sub x y ih).as (by omega)
  | del x _ ih => rw [← List.append_assoc]; exact (Al.del x ih).as (by omega)
  | ins y _ ih => rw [← List.append_assoc]; exact (Al.ins y ih).as (by omega)
end
/-- the least cost -/
noncomputable def D (s : Nat → Nat → Int) (a b : List Nat) : Int := @dite _ (∃ d, IsD s a b d) (Classical.propDecidable _) (fun h => Classical.choose h) (fun _ => 0)
section
variable {s : Nat → Nat → Int} (C : Cost s)
include C
theorem D_is (a b : List Nat) : IsD s a b (D s a b) := by
  unfold D
  rw [dif_pos (IsD.exists C a b)]
  exact Classical.choose_spec (IsD.exists C a b)
theorem D_eq {a b : List Nat} {d : Int} (h : IsD s a b d) : D s a b = d := (D_is C a b).uniq h
theorem D_swap (a b : List Nat) : D s a b = D s b a := D_eq C ((D_is C b a).swap C)
theorem D_left (b : List Nat) : D s [] b = 2 * (b.length : Int) := D_eq C (IsD.left C b)
theorem D_right (b : List Nat) : D s b [] = 2 * (b.length : Int) := D_eq C (IsD.right C b)
theorem D_self (a : List Nat) : D s a a = 0 := by
  have := (IsD.left C (s := s) []).app_right C a
  exact D_eq C (by simpa using this)
theorem D_step (a b : List Nat) (x y : Nat) : D s (a ++ [x]) (b ++ [y]) = min (min (D s a (b ++ [y])) (D s (a ++ [x]) b) + 2) (D s a b + s x y) :=
  D_eq C ((D_is C a b).step (D_is C _ _) (D_is C _ _))
theorem D_trim (p a b q : List Nat) : D s (p ++ a ++ q) (p ++ b ++ q) = D s a b := D_eq C (((D_is C a b).app_left C p).app_right C q)
/-- one cell of the table -/
theorem D_cell (u v : List Nat) (i j : Nat) (hi : i < u.length) (hj : j < v.length) :
    D s (u.take (i + 1)) (v.take (j + 1)) = min (min (D s (u.take i) (v.take (j + 1))) (D s (u.take (i + 1)) (v.take j)) + 2) (D s (u.take i) (v.take j) + s u[i] v[j]) := by
  rw [List.take_add_one, List.take_add_one, List.getElem?_eq_getElem hi, List.getElem?_eq_getElem hj]
  exact D_step C _ _ _ _
theorem D_le (a b : List Nat) : D s a b ≤ 2 * (a.length : Int) + 2 * (b.length : Int) := by
  refine (D_is C a b).2 _ ?_
  have h1 := (Al.left (s := s) a).swap C
  have h2 := Al.left (s := s) b
  have := h1.append h2
  simpa using this
end
end Mine
end

section
open PySem PySem.W PyProof.Rows
namespace Mine
def subc (a b : Str) : Int := if a = b then 0 else if Txt.lower a = Txt.lower b then 1 else 2
def sc (x y : Nat) : Int := subc ⟨#[x]⟩ ⟨#[y]⟩
theorem sc_cost : Cost sc where
  nn := fun x y => by unfold sc subc; split; · exact Int.le_refl _
                      split <;> decide
  same := fun x => by unfold sc subc; rw [if_pos rfl]
  symm := fun x y => by
    unfold sc subc
    by_cases e : (⟨#[x]⟩ : Str) = ⟨#[y]⟩
    · rw [if_pos e, if_pos e.symm]
    · rw [if_neg e, if_neg (Ne.symm e)]
      by_cases e' : Txt.lower ⟨#[x]⟩ = Txt.lower ⟨#[y]⟩
      · rw [if_pos e', if_pos e'.symm]
      · rw [if_neg e', if_neg (Ne.symm e')]
abbrev cl (x : Str) : List Nat := x.cps.toList
theorem cl_len (x : Str) : (cl x).length = x.length := by simp [cl, Str.length]
theorem cl_get (x : Str) (i : Nat) (h : i < x.length) : x.cps.getD i 0 = (cl x)[i]'(by rw [cl_len]; exact h) := by
  have h' : i < x.cps.size := h
  simp [cl, Array.getD, h']
noncomputable def lev (a b : Str) : Int := D sc (cl a) (cl b)
def cUp (a b : Str) (k : Int) : Bool := decide (k < a.length) && decide (k < b.length) && (Txt.item a k == Txt.item b k)
def jUp (a b : Str) (k : Int) : Prop := 0 ≤ k ∧ ∀ j, 0 ≤ j → j < k → cUp a b j = true
theorem jUp_next {a b : Str} {k : Int} (h : jUp a b k) (hc : cUp a b k = true) : jUp a b (k + 1) ∧ (a.length + 1 - (k + 1).toNat) < (a.length + 1 - k.toNat) := by
  have h0 := h.1
  have : k < a.length := by simp [cUp] at hc; omega
  refine ⟨⟨by omega, fun j h0 h1 => ?_⟩, by omega⟩
  by_cases e : j = k
  · rw [e]; exact hc
  · exact h.2 j h0 (by omega)
def cDn (a b : Str) (k : Int) : Bool := decide (-k < a.length) && decide (-k < b.length) && (Txt.item a (k - 1) == Txt.item b (k - 1))
def jDn (a b : Str) (k : Int) : Prop := k ≤ 0 ∧ ∀ j, k < j → j ≤ 0 → cDn a b j = true
theorem jDn_next {a b : Str} {k : Int} (h : jDn a b k) (hc : cDn a b k = true) : jDn a b (k - 1) ∧ (a.length + 1 - (-(k - 1)).toNat) < (a.length + 1 - (-k).toNat) := by
  have h0 := h.1
  have : -k < a.length := by simp [cDn] at hc; omega
  refine ⟨⟨by omega, fun j h0 h1 => ?_⟩, by omega⟩
  by_cases e : j = k
  · rw [e]; exact hc
  · exact h.2 j (by omega) (by omega)
def cutTo (x : Str) (k : Int) : Str := if k = 0 then x else Txt.slice x none (some k)
theorem cutTo_le (x : Str) (k : Int) : (cutTo x k).length ≤ x.length := by
  unfold cutTo
  split
  · exact Nat.le_refl _
  · exact Txt.slice_le x _ _
theorem item_nat {x : Str} {i : Int} (h0 : 0 ≤ i) (h1 : i < x.length) : Txt.item x i = ⟨#[(cl x)[i.toNat]'(by rw [cl_len]; omega)]⟩ := by
  rw [← cl_get x i.toNat (by omega)]
  exact eq_of_beq (item_closes ⟨h0, h1⟩)
theorem item_neg {x : Str} {i : Int} (h0 : i < 0) (h1 : -(x.length : Int) ≤ i) : Txt.item x i = ⟨#[(cl x)[(i + x.length).toNat]'(by rw [cl_len]; omega)]⟩ := by
  rw [← cl_get x (i + x.length).toNat (by omega)]
  exact eq_of_beq (item_closes_neg h0 h1 rfl)
theorem str1_inj {x y : Nat} (h : (⟨#[x]⟩ : Str) = ⟨#[y]⟩) : x = y := by
  have := congrArg Str.cps h
  simpa using this
theorem slice_from {x : Str} {i : Int} (h0 : 0 ≤ i) (h : i ≤ x.length) : cl (Txt.slice x (some i) none) = (cl x).drop i.toNat := by
  rw [slice_from_eq h0 h rfl]
  show List.take _ _ = _
  refine List.take_of_length_le ?_
  rw [List.length_drop]
  have := cl_len x
  simp only [cl] at this ⊢
  omega
theorem slice_upto {x : Str} {j : Int} (h0 : 0 ≤ j) (h : j ≤ x.length) : cl (Txt.slice x none (some j)) = (cl x).take j.toNat := by
  rw [eq_of_beq (slice_closes_toL h0 h)]
  simp [cl]
theorem cut_cl {x : Str} {q : Int} (h0 : q ≤ 0) (h : -(x.length : Int) ≤ q) : cl (cutTo x q) = (cl x).take (x.length + q).toNat := by
  unfold cutTo
  split
  · rename_i e
    subst e
    refine (List.take_of_length_le ?_).symm
    rw [cl_len]; omega
  · rename_i e
    rw [slice_to_neg (by omega), slice_upto (by omega) (by omega)]
    congr 1
    omega
theorem jUp_le {a b : Str} {k : Int} (h : jUp a b k) : k ≤ a.length ∧ k ≤ b.length := by
  have h0 := h.1
  by_cases e : k = 0
  · omega
  · have := h.2 (k - 1) (by omega) (by omega)
    simp [cUp] at this
    omega
theorem jDn_le {a b : Str} {k : Int} (h : jDn a b k) : -k ≤ a.length ∧ -k ≤ b.length := by
  have h0 := h.1
  by_cases e : k = 0
  · omega
  · have := h.2 (k + 1) (by omega) (by omega)
    simp [cDn] at this
    omega
theorem pre_same {a b : Str} {k : Int} (h : jUp a b k) : (cl a).take k.toNat = (cl b).take k.toNat := by
  have hle := jUp_le h
  have h0 := h.1
  refine List.ext_getElem (by simp only [List.length_take, cl_len]; omega) fun i h1 h2 => ?_
  simp only [List.length_take, cl_len] at h1 h2
  rw [List.getElem_take, List.getElem_take]
  have := h.2 i (by omega) (by omega)
  simp only [cUp, Bool.and_eq_true, decide_eq_true_eq] at this
  have e := eq_of_beq this.2
  rw [item_nat (by omega) (by omega), item_nat (by omega) (by omega)] at e
  simpa using str1_inj e
theorem post_same {a b : Str} {k : Int} (h : jDn a b k) : (cl a).drop (a.length + k).toNat = (cl b).drop (b.length + k).toNat := by
  have hle := jDn_le h
  have h0 := h.1
  refine List.ext_getElem (by simp only [List.length_drop, cl_len]; omega) fun i h1 h2 => ?_
  simp only [List.length_drop, cl_len] at h1 h2
  rw [List.getElem_drop, List.getElem_drop]
  have := h.2 (k + i + 1) (by omega) (by omega)
  simp only [cDn, Bool.and_eq_true, decide_eq_true_eq] at this
  have e := eq_of_beq this.2
  rw [item_neg (by omega) (by omega), item_neg (by omega) (by omega)] at e
  have e' := str1_inj e
  have i1 : (k + (i : Int) + 1 - 1 + a.length).toNat = (a.length + k).toNat + i := by omega
  have i2 : (k + (i : Int) + 1 - 1 + b.length).toNat = (b.length + k).toNat + i := by omega
  simpa only [i1, i2] using e'
theorem lev_trim {a b a1 b1 a2 b2 : Str} {k q : Int} (hJ : jUp a b k) (ha1 : Txt.slice a (some k) none = a1) (hb1 : Txt.slice b (some k) none = b1) (hJ2 : jDn a1 b1 q) (ha2 : a2 = cutTo a1 q) (hb2 : b2 = cutTo b1 q) :
    lev a b = lev a2 b2 := by
  have hle := jUp_le hJ
  have hle2 := jDn_le hJ2
  have h0 := hJ.1
  have h02 := hJ2.1
  have ea : cl a = (cl a).take k.toNat ++ cl a1 := by rw [← ha1, slice_from h0 hle.1, List.take_append_drop]
  have eb : cl b = (cl a).take k.toNat ++ cl b1 := by rw [← hb1, slice_from h0 hle.2, pre_same hJ, List.take_append_drop]
  have ea1 : cl a1 = cl a2 ++ (cl a1).drop (a1.length + q).toNat := by rw [ha2, cut_cl h02 (by omega), List.take_append_drop]
  have eb1 : cl b1 = cl b2 ++ (cl a1).drop (a1.length + q).toNat := by rw [hb2, cut_cl h02 (by omega), post_same hJ2, List.take_append_drop]
  unfold lev
  rw [ea, eb, eb1]
  generalize (cl a).take k.toNat = p
  rw [ea1]
  have e2 : List.drop (a1.length + q).toNat (cl a2 ++ List.drop (a1.length + q).toNat (cl a1)) = List.drop (a1.length + q).toNat (cl a1) := by rw [← ea1]
  rw [e2]
  generalize (cl a1).drop (a1.length + q).toNat = t
  have := D_trim sc_cost p (cl a2) (cl b2) t
  simpa only [List.append_assoc] using this
theorem lev_empty {a b : Str} (h : a.length = 0 ∨ b.length = 0) : lev a b = 2 * ((a.length : Int) + b.length) := by
  unfold lev
  rcases h with h | h
  · have : cl a = [] := List.length_eq_zero_iff.mp (by rw [cl_len]; exact h)
    rw [this, D_left sc_cost, cl_len]; omega
  · have : cl b = [] := List.length_eq_zero_iff.mp (by rw [cl_len]; exact h)
    rw [this, D_right sc_cost, cl_len]; omega
theorem lev_self (a : Str) : lev a a = 0 := D_self sc_cost _
theorem lev_swap (a b : Str) : lev a b = lev b a := D_swap sc_cost _ _
end Mine
end

section
open PySem PySem.W PySem.Calls PyProof.Rows
namespace Mine
theorem rangeSize_two (n : Nat) : Builtin.Range.rangeSize 2 (2 * ((n : Int) + 1)) 2 = (n : Int) := by
  unfold Builtin.Range.rangeSize
  simp only [show (2 : Int) > 0 by decide, if_true]
  split <;> omega
theorem small_two' : ∀ n : Nat, n < 41 → Builtin.Range.small 2 (2 * ((n : Int) + 1)) 2 = true := by decide
theorem small_two {n : Nat} (h : n ≤ 40) : Builtin.Range.small 2 (2 * ((n : Int) + 1)) 2 = true := small_two' n (by omega)
/-- the first row of the table -/
def row0 (n : Nat) : List Int := (List.range n).map fun (j : Nat) => 2 * ((j : Int) + 1)
theorem ints_of : ∀ (vs : List Value) (ns : List Int), vs.length = ns.length → (∀ (j : Nat) (v : Value) (n : Int), vs[j]? = some v → ns[j]? = some n → ∃ t, v = .int n t) → IntsAre vs ns
  | [], [], _, _ => .nil
  | [], _ :: _, e, _ => by simp at e
  | _ :: _, [], e, _ => by simp at e
  | v :: vs, n :: ns, e, h => by
    obtain ⟨t, rfl⟩ := h 0 v n rfl rfl
    exact .cons n t (ints_of vs ns (by simpa using e) fun j v n a b => h (j + 1) v n a b)
section
variable {prog : Program} {w : World} {A : Around} {E : Value → Shared → Prop} {s : Shared} {h₀ : Heap} {L r : Addr} {m : Str → Option Value} {news : List (Addr × Obj)} {t₀ u₀ v₀ : Tok} {n : Nat} {Q : Value → Shared → Prop}
theorem list_two (hh : A.handled = none) (F : Fr h₀ L s.heap m) (N : News h₀ L s.heap news) (hr : IsRange s.heap r 2 (2 * ((n : Int) + 1)) 2 t₀ u₀ v₀) (hz : n ≤ 40)
    (h : ∀ D us c h' tk, Fr h₀ L h' m → News h₀ L h' ((D, listOf (List.toArray us) c) :: news) → (∀ p ∈ news, p.1 < D) → IntsAre us (row0 n) → Q (.ref D) { s with heap := h', toks := tk }) :
    wpAny (model prog w) A (call (.type "list") [.ref r]) Q E s := by
  refine call_list_range hh hr (small_two hz) (rangeSize_two n) (by omega) fun h' tk acc c hk hD hI => ?_
  have hD' : h'.get? s.heap.objs.size = some (listOf (List.toArray acc.toList) c) := by
    rw [Array.toArray_toList]; exact hD
  refine h _ acc.toList c h' tk (F.keeps hk) (news_pushed F N hk hD' rfl) (fun p hp => Heap.lt_size (N p hp).1) (ints_of _ _ ?_ fun j v i hj hi => ?_)
  · rw [Array.length_toList, hI.1]; simp [row0]
  · obtain ⟨t, ht⟩ := hI.2 j v (by rw [← hj, Array.getElem?_toList])
    refine ⟨t, ht.trans ?_⟩
    have hjn : j < n := by
      have := (List.getElem?_eq_some_iff.mp hi).1
      simpa [row0] using this
    have : i = 2 * ((j : Int) + 1) := by
      simp [row0, hjn] at hi
      exact hi.symm
    rw [this]
    congr 1
    omega
end
end Mine
end

section
open PySem PySem.W PySem.Calls PyProof.Rows
namespace Mine
noncomputable def dd (u v : List Nat) (i j : Nat) : Int := D sc (u.take i) (v.take j)
noncomputable def resAt (u v : List Nat) (i j : Nat) : Int := if j = 0 then 2 * (i : Int) else dd u v (i + 1) j
noncomputable def rowAt (u v : List Nat) (i : Nat) : List Int := (List.range v.length).map fun (q : Nat) => dd u v i (q + 1)
noncomputable def rowMid (u v : List Nat) (i j : Nat) : List Int := (List.range v.length).map fun (q : Nat) => if q < j then dd u v (i + 1) (q + 1) else dd u v i (q + 1)
theorem sc_le (x y : Nat) : sc x y ≤ 2 := by
  unfold sc subc
  split
  · decide
  · split <;> decide
theorem dd_left (u v : List Nat) (j : Nat) (h : j ≤ v.length) : dd u v 0 j = 2 * (j : Int) := by
  unfold dd
  rw [List.take_zero, D_left sc_cost, List.length_take]; omega
theorem dd_right (u v : List Nat) (i : Nat) (h : i ≤ u.length) : dd u v i 0 = 2 * (i : Int) := by
  unfold dd
  rw [List.take_zero, D_right sc_cost, List.length_take]; omega
theorem dd_le (u v : List Nat) (i j : Nat) : dd u v i j ≤ 2 * (i : Int) + 2 * (j : Int) := by
  have := D_le sc_cost (u.take i) (v.take j)
  have h1 := List.length_take_le i u
  have h2 := List.length_take_le j v
  unfold dd; omega
theorem row0_at (u v : List Nat) : row0 v.length = rowAt u v 0 := by
  unfold row0 rowAt
  refine List.map_congr_left fun q hq => ?_
  have := List.mem_range.mp hq
  rw [dd_left u v (q + 1) (by omega)]; omega
theorem rowMid_zero (u v : List Nat) (i : Nat) : rowMid u v i 0 = rowAt u v i := by
  unfold rowMid rowAt
  exact List.map_congr_left fun q _ => if_neg (Nat.not_lt_zero q)
theorem rowMid_full (u v : List Nat) (i : Nat) : rowMid u v i v.length = rowAt u v (i + 1) := by
  unfold rowMid rowAt
  exact List.map_congr_left fun q hq => if_pos (List.mem_range.mp hq)
theorem rowMid_len (u v : List Nat) (i j : Nat) : (rowMid u v i j).length = v.length := by simp [rowMid]
theorem rowAt_len (u v : List Nat) (i : Nat) : (rowAt u v i).length = v.length := by simp [rowAt]
theorem rowMid_get (u v : List Nat) (i j : Nat) (h : j < v.length) : (rowMid u v i j)[j]? = some (dd u v i (j + 1)) := by
  simp [rowMid, h]
theorem rowMid_getD (u v : List Nat) (i j : Nat) (d : Int) (h : j < v.length) : (rowMid u v i j).getD j d = dd u v i (j + 1) := by
  rw [List.getD_eq_getElem?_getD, rowMid_get u v i j h]; rfl
theorem rowMid_set (u v : List Nat) (i j : Nat) (h : j < v.length) : (rowMid u v i j).set j (dd u v (i + 1) (j + 1)) = rowMid u v i (j + 1) := by
  refine List.ext_getElem (by simp [rowMid]) fun q h1 h2 => ?_
  rw [List.getElem_set]
  simp only [rowMid, List.getElem_map, List.getElem_range]
  split
  · rename_i e; subst e; rw [if_pos (by omega)]
  · by_cases e : q < j
    · rw [if_pos e, if_pos (by omega)]
    · rw [if_neg e, if_neg (by omega)]
theorem dd_step (u v : List Nat) (i j : Nat) (hi : i < u.length) (hj : j < v.length) :
    min (min (resAt u v i j) (dd u v i (j + 1)) + 2) (dd u v i j + sc u[i] v[j]) = dd u v (i + 1) (j + 1) := by
  have h : dd u v (i + 1) (j + 1) = min (min (dd u v i (j + 1)) (dd u v (i + 1) j) + 2) (dd u v i j + sc u[i] v[j]) := D_cell sc_cost u v i j hi hj
  rw [h]
  unfold resAt
  split
  · rename_i e
    subst e
    have h1 := dd_right u v i (by omega)
    have h2 := dd_right u v (i + 1) (by omega)
    have h3 := sc_le u[i] v[0]
    omega
  · omega
theorem inner_start {u v : List Nat} {i : Nat} (h : i ≤ u.length) (mn : Int) :
    (i : Int) * 2 = dd u v i 0 ∧ (i : Int) * 2 = resAt u v i 0 ∧ rowAt u v i = rowMid u v i 0 ∧ ((0 : Nat) ≠ 0 → mn ≤ dd u v (i + 1) 1) :=
  ⟨by rw [dd_right u v i h]; omega, by unfold resAt; rw [if_pos rfl]; omega, (rowMid_zero u v i).symm, fun e => absurd rfl e⟩
theorem dd_full (u v : List Nat) : dd u v u.length v.length = D sc u v := by unfold dd; rw [List.take_length, List.take_length]
theorem min_ifs (p q r : Int) : (if p < (if q < r then q else r) + 2 then p else (if q < r then q else r) + 2) = min (min r q + 2) p := by
  split <;> split <;> omega
section
variable {x y : Str} {i j n' : Nat} {kN dist0 resn minn : Int} {rowM : List Int}
theorem cell_is (hi : i < y.length) (hj : j < x.length) (hk : kN = 0 + (j : Int)) (hd : dist0 = dd (cl y) (cl x) i j) (hr : resn = resAt (cl y) (cl x) i j) (hm : rowM = rowMid (cl y) (cl x) i j) :
    rowM.getD kN.toNat 0 = dd (cl y) (cl x) i (j + 1) ∧
    (if dist0 + subc (Txt.item y i) (Txt.item x kN) < (if rowM.getD kN.toNat 0 < resn then rowM.getD kN.toNat 0 else resn) + 2 then dist0 + subc (Txt.item y i) (Txt.item x kN) else (if rowM.getD kN.toNat 0 < resn then rowM.getD kN.toNat 0 else resn) + 2)
      = dd (cl y) (cl x) (i + 1) (j + 1) := by
  have hv : rowM.getD kN.toNat 0 = dd (cl y) (cl x) i (j + 1) := by
    have e : kN.toNat = j := by omega
    rw [e, hm, rowMid_getD _ _ _ _ _ (by rw [cl_len]; exact hj)]
  refine ⟨hv, ?_⟩
  have hs : subc (Txt.item y i) (Txt.item x kN) = sc ((cl y)[i]'(by rw [cl_len]; exact hi)) ((cl x)[j]'(by rw [cl_len]; exact hj)) := by
    rw [item_nat (by omega) (by omega), item_nat (by omega) (by omega)]
    have e1 : ((i : Int)).toNat = i := by omega
    have e2 : kN.toNat = j := by omega
    simp only [e1, e2]
    rfl
  rw [min_ifs, hv, hs, hd, hr]
  exact dd_step (cl y) (cl x) i j (by rw [cl_len]; exact hi) (by rw [cl_len]; exact hj)
theorem inner_turn {rv mn' : Int} (hn : n' = j + 1) (hi : i < y.length) (hj : j < x.length) (hk : kN = 0 + (j : Int)) (hm : rowM = rowMid (cl y) (cl x) i j) (hv : rowM.getD kN.toNat 0 = dd (cl y) (cl x) i (j + 1))
    (hr : rv = dd (cl y) (cl x) (i + 1) (j + 1)) (hmin : j ≠ 0 → minn ≤ dd (cl y) (cl x) (i + 1) 1) (hmn : mn' = rv ∧ rv < minn ∨ mn' = minn ∧ ¬ rv < minn) :
    rowM.getD kN.toNat 0 = dd (cl y) (cl x) i n' ∧ rv = resAt (cl y) (cl x) i n' ∧ rowM.set kN.toNat rv = rowMid (cl y) (cl x) i n' ∧ (n' ≠ 0 → mn' ≤ dd (cl y) (cl x) (i + 1) 1) := by
  subst hn
  refine ⟨hv, by unfold resAt; rw [if_neg (by omega)]; exact hr, ?_, fun _ => ?_⟩
  · have e : kN.toNat = j := by omega
    rw [e, hm, hr]
    exact rowMid_set _ _ _ _ (by rw [cl_len]; exact hj)
  · by_cases e : j = 0
    · subst e; rw [← hr]; omega
    · have := hmin e; omega
theorem outer_turn {res1 : Int} {row1 : List Int} (hn : n' = i + 1) (hx : x.length ≠ 0) (hr : res1 = resAt (cl y) (cl x) i x.length) (hm : row1 = rowMid (cl y) (cl x) i x.length) :
    row1 = rowAt (cl y) (cl x) n' ∧ (n' ≠ 0 → res1 = dd (cl y) (cl x) n' x.length) := by
  subst hn
  refine ⟨by rw [hm, ← cl_len x, rowMid_full], fun _ => by rw [hr]; unfold resAt; rw [if_neg hx]⟩
theorem lev_end {res1 : Int} (hn : n' = y.length) (hy : y.length ≠ 0) (hr : n' ≠ 0 → res1 = dd (cl y) (cl x) n' x.length) : res1 = lev y x := by
  subst hn
  rw [hr hy, ← cl_len y, ← cl_len x, dd_full]; rfl
end
end Mine
end

section
open PySem PySem.W PyProof.Rows
theorem Mine.offC1 : True := by
  w_top off
  trivial
open PySem PySem.W PyProof.Rows
namespace Mine
set_option maxHeartbeats 8000000 in
theorem c_sub {w : World} {mean : ExcName → Option Value} {mg mb : Str → Option Value} {news : List (Addr × Obj)} {a : Str} {ta : Tok} {b : Str} {tb : Tok} :
    Ct w mean mg mb 136 1 news (a.length ≤ 1 ∧ b.length ≤ 1) [.str a ta, .str b tb] (fun t => .int (subc a b) t) := by
  unfold Ct
  k_fill
  intro dp un gd cn cs a9 ccd clx outer A₀ base h₀ L m s Q E B0 F0 X0 N0 T0 hcs hlen hdp hun hret
  dsimp only at hret
  obtain ⟨hla, hlb⟩ := hlen
  refine wpAny_call ?_
  k_dflt cell_enter
  rename_i g1 L1 h1 FG1 F1 N1 B1 X1 T1
  replace F1 := fr_as (fun y => List.lookup y [(Str.ofString "ch_b", Value.str b tb), (Str.ofString "ch_a", Value.str a ta)]) F1 (by with_unfolding_all rfl)
  k_steps
  all_goals refine cb_retI hret ?_ (by assumption) (by assumption)
  all_goals simp_all [subc]
end Mine
end

section
open PySem PySem.W PyProof.Rows
theorem Mine.offC2 : True := by
  w_top off
  trivial
open PySem PySem.W PyProof.Rows
namespace Mine
local macro_rules | `(tactic| walk_at "subscriptTail Name Slice str ref") => `(tactic| ((with_reducible show wpAny _ _ (subscriptTail _ (Expr.Slice none (some _) none _) _ _) _ _ _); (with_reducible rename Fr _ _ _ _ => F'); (with_reducible rename News _ _ _ _ => N'); refine slice_none' (s := ⟨_, _, _, _, _⟩) F' N' ?_; intro _ _ _ _ _))
local macro_rules | `(tactic| walk_at "subscriptTail Name Slice str ref") => `(tactic| ((with_reducible show wpAny _ _ (subscriptTail _ (Expr.Slice none (some _) none _) _ _) _ _ _); (with_reducible rename Fr _ _ _ _ => F'); (with_reducible rename News _ _ _ _ => N'); refine slice_to' (s := ⟨_, _, _, _, _⟩) F' N' ?_; intro _ _ _ _ _ _ hsl))
local macro_rules | `(tactic| walk_at "call type:list") => `(tactic| ((with_reducible show wpAny _ _ (call (Value.type "list") [Value.ref _]) _ _ _); (with_reducible rename IsRange _ _ _ _ _ _ _ _ => rgX); (with_unfolding_all refine' list_two ?k0 ?k1 ?k2 rgX ?k6 ?_; (case k0 => rfl); (case k1 => k_asm); (case k2 => k_asm); (case k6 => omega); k_whole); intro D' vs' c' h' tk' F' N' l1 hI'; (try k_lt l1); (try k_sweep)))
local macro_rules | `(tactic| walk_at "call ref") => `(tactic| (k_here; (with_reducible show wpAny _ _ (call (Value.ref 136) [Value.str _ _, Value.str _ _]) _ _ _); k_dflt (refine' c_sub ?k1 ?k2 ?k3 ?k4 ?k5 ?kK ?kp ?kd ?ku ?_; (case k1 => k_asm); (case k2 => k_asm); (case k3 => k_asm); (case k4 => k_asm); (case k5 => k_asm); (case kK => first | exact rfl | assumption); (case kp => omega); (case kd => ktr_room); (case ku => ktr_units)); intro t9 h9 tk9 F9 N9; (try dsimp only); (try k_fold)))
set_option maxHeartbeats 8000000 in
theorem c_lev {w : World} {mean : ExcName → Option Value} {mg mb : Str → Option Value} {news : List (Addr × Obj)} {a : Str} {ta : Tok} {b : Str} {tb : Tok} {c : Int} {tc : Tok} :
    Ct w mean mg mb 143 2 news (a.length ≤ 40 ∧ b.length ≤ 40 ∧ 99 ≤ c) [.str a ta, .str b tb, .int c tc] (fun t => .int (lev a b) t) := by
  unfold Ct
  k_fill
  intro dp un gd cn cs a9 ccd clx outer A₀ base h₀ L m s Q E B0 F0 X0 N0 T0 hcs hlen hdp hun hret
  dsimp only at hret
  obtain ⟨hla, hlb, hc99⟩ := hlen
  refine wpAny_call ?_
  k_dflt cell_enter
  rename_i g1 L1 h1 FG1 F1 N1 B1 X1 T1
  replace F1 := fr_as (fun y => List.lookup y [(Str.ofString "max_cost", Value.int c tc), (Str.ofString "b", Value.str b tb), (Str.ofString "a", Value.str a ta)]) F1 (by with_unfolding_all rfl)
  repeat' (first | (k_unfold; (try dsimp only)) | ((fail_if_success (with_reducible show wpAny _ _ (exec (Stmt.While _ _ _ _) _) _ _ _)); walk1) | (leave1; walk_say "STEP leave1"; try dsimp only))
  · refine cb_retI hret ?_ (by assumption) (by assumption)
    have e : a = b := eq_of_beq (by assumption)
    rw [e, lev_self]
  rename Fr _ _ _ _ => F'
  rename News _ _ _ _ => N'
  refine while_gen (i := Str.ofString "pre") (cUp a b) (fun k => k + 1) (jUp a b) (fun k => a.length + 1 - k.toNat) F' N' (by with_unfolding_all rfl) ⟨Int.le_refl _, fun j h1 h2 => absurd h1 (by omega)⟩ ?gtest ?gturn (fun k h hc => jUp_next h hc) ?done
  case gtest =>
    clear F' N'
    intro k t h₁ tk₁ hJ F₁ N₁
    have hk0 := hJ.1
    k_steps
    all_goals first
      | exact ⟨_, _, rfl, by assumption, by assumption⟩
      | (refine (Bool.eq_false_iff.mpr ?_).symm; intro hh; simp only [cUp, Bool.and_eq_true, decide_eq_true_eq] at hh; first | omega | exact absurd hh.2 (by simp_all))
      | (refine Eq.symm ?_; simp only [cUp, Bool.and_eq_true, decide_eq_true_eq]; exact ⟨⟨by omega, by omega⟩, by assumption⟩)
  case gturn =>
    clear F' N'
    intro k t h₁ tk₁ hJ hc F₁ N₁
    dsimp only
    k_steps
  case done =>
    clear F' N'
    intro k t h₁ tk₁ hJ hc F₁ N₁
    repeat' (first | (k_unfold; (try dsimp only)) | ((fail_if_success (with_reducible show wpAny _ _ (exec (Stmt.While _ _ _ _) _) _ _ _)); walk1) | (leave1; walk_say "STEP leave1"; try dsimp only))
    have hk0 := hJ.1
    rename Fr _ _ _ _ => F'
    rename News _ _ _ _ => N'
    generalize ha1 : Txt.slice a (some k) none = a1 at F'
    generalize hb1 : Txt.slice b (some k) none = b1 at F'
    have hla1 : a1.length ≤ 40 := by have := Txt.slice_le a (some k) none; rw [ha1] at this; omega
    have hlb1 : b1.length ≤ 40 := by have := Txt.slice_le b (some k) none; rw [hb1] at this; omega
    refine while_gen (i := Str.ofString "post") (cDn a1 b1) (fun k => k - 1) (jDn a1 b1) (fun k => a1.length + 1 - (-k).toNat) F' N' (by with_unfolding_all rfl) ⟨Int.le_refl _, fun j h1 h2 => absurd h1 (by omega)⟩ ?gtest ?gturn (fun k h hc => jDn_next h hc) ?done
    case gtest =>
      clear F' N'
      intro q t h₁ tk₁ hJ F₁ N₁
      have hq0 := hJ.1
      k_steps
      all_goals first
        | exact ⟨_, _, rfl, by assumption, by assumption⟩
        | (refine (Bool.eq_false_iff.mpr ?_).symm; intro hh; simp only [cDn, Bool.and_eq_true, decide_eq_true_eq] at hh; first | omega | exact absurd hh.2 (by simp_all))
        | (refine Eq.symm ?_; simp only [cDn, Bool.and_eq_true, decide_eq_true_eq]; exact ⟨⟨by omega, by omega⟩, by assumption⟩)
    case gturn =>
      clear F' N'
      intro q t h₁ tk₁ hJ hc F₁ N₁
      dsimp only
      k_steps
    case done =>
      clear F' N'
      intro q t h₁ tk₁ hJ2 hc2 F₁ N₁
      have hq0 := hJ2.1
      obtain ⟨ua, ub, m2, ea, eb, ep, ec, F2⟩ : ∃ ua ub m', m' (Str.ofString "a") = some (Value.str a1 ua) ∧ m' (Str.ofString "b") = some (Value.str b1 ub) ∧ m' (Str.ofString "post") = some (Value.int q t) ∧ m' (Str.ofString "max_cost") = some (Value.int c tc) ∧ Fr g1 L1 h₁ m' :=
        ⟨_, _, _, by with_unfolding_all rfl, by with_unfolding_all rfl, by with_unfolding_all rfl, by with_unfolding_all rfl, F₁⟩
      clear F₁
      have F3 := fr_puts [(Str.ofString "a", Value.str a1 ua), (Str.ofString "b", Value.str b1 ub), (Str.ofString "post", Value.int q t), (Str.ofString "max_cost", Value.int c tc)] F2 (all_cons ea (all_cons eb (all_cons ep (all_cons ec all_nil))))
      dsimp only [kstB] at F3
      clear F2 ea eb ep ec
      walk1
      refine cut_st (fun s' => ∃ x t', x = cutTo a1 q ∧ AtH g1 L1 s [(Str.ofString "a", Value.str x t'), (Str.ofString "b", Value.str b1 ub), (Str.ofString "post", Value.int q t), (Str.ofString "max_cost", Value.int c tc)] news s') ?c1 ?c2
      case c1 =>
        k_steps
        all_goals refine Or.inl ⟨rfl, _, _, ?_, AtH.mk (by assumption) (by assumption) (fun _ h => h) (all_cons (by with_unfolding_all rfl) (all_cons (by with_unfolding_all rfl) (all_cons (by with_unfolding_all rfl) (all_cons (by with_unfolding_all rfl) all_nil))))⟩
        all_goals (simp only [cutTo]; simp_all)
      case c2 =>
      clear F3 N₁
      rintro s' ⟨a2, ta2, ha2, hs'⟩
      obtain ⟨h2, tk2, m2, rfl, F3, N3⟩ := hs'.out
      dsimp only [kstB] at F3
      clear hs'
      dsimp only
      walk1
      refine cut_st (fun s' => ∃ x t', x = cutTo b1 q ∧ AtH g1 L1 s [(Str.ofString "a", Value.str a2 ta2), (Str.ofString "b", Value.str x t'), (Str.ofString "post", Value.int q t), (Str.ofString "max_cost", Value.int c tc)] news s') ?c1 ?c2
      case c1 =>
        k_steps
        all_goals refine Or.inl ⟨rfl, _, _, ?_, AtH.mk (by assumption) (by assumption) (fun _ h => h) (all_cons (by with_unfolding_all rfl) (all_cons (by with_unfolding_all rfl) (all_cons (by with_unfolding_all rfl) (all_cons (by with_unfolding_all rfl) all_nil))))⟩
        all_goals (simp only [cutTo]; simp_all)
      case c2 =>
      clear F3 N3
      rintro s' ⟨b2, tb2, hb2, hs'⟩
      obtain ⟨h2, tk2, m2, rfl, F3, N3⟩ := hs'.out
      dsimp only [kstB] at F3
      clear hs'
      dsimp only
      have hla2 : a2.length ≤ 40 := by rw [ha2]; exact Nat.le_trans (cutTo_le _ _) hla1
      have hlb2 : b2.length ≤ 40 := by rw [hb2]; exact Nat.le_trans (cutTo_le _ _) hlb1
      walk1
      refine cut_st (fun s' => a2.length ≠ 0 ∧ b2.length ≠ 0 ∧ AtH g1 L1 s [(Str.ofString "a", Value.str a2 ta2), (Str.ofString "b", Value.str b2 tb2), (Str.ofString "max_cost", Value.int c tc)] news s') ?c1 ?c2
      case c1 =>
        k_steps
        · exact Or.inl ⟨rfl, by omega, by omega, AtH.mk (by assumption) (by assumption) (fun _ h => h) (all_cons (by with_unfolding_all rfl) (all_cons (by with_unfolding_all rfl) (all_cons (by with_unfolding_all rfl) all_nil)))⟩
        all_goals (refine Or.inr ⟨_, rfl, ?_⟩; k_steps; refine cb_retI hret ?_ (by assumption) (by assumption); rw [lev_trim hJ ha1 hb1 hJ2 ha2 hb2, lev_empty (by omega)])
      case c2 =>
      clear F3 N3
      rintro s' ⟨na2, nb2, hs'⟩
      obtain ⟨h2, tk2, m2, rfl, F3, N3⟩ := hs'.out
      dsimp only [kstB] at F3
      clear hs'
      dsimp only
      walk1
      refine cut_st (fun s' => AtH g1 L1 s [(Str.ofString "a", Value.str a2 ta2), (Str.ofString "b", Value.str b2 tb2), (Str.ofString "max_cost", Value.int c tc)] news s') ?c1 ?c2
      case c1 =>
        k_steps
        all_goals first
          | exact Or.inl ⟨rfl, AtH.mk (by assumption) (by assumption) (fun _ h => h) (all_cons (by with_unfolding_all rfl) (all_cons (by with_unfolding_all rfl) (all_cons (by with_unfolding_all rfl) all_nil)))⟩
          | (exfalso; omega)
      case c2 =>
      clear F3 N3
      rintro s' hs'
      obtain ⟨h2, tk2, m2, rfl, F3, N3⟩ := hs'.out
      dsimp only [kstB] at F3
      clear hs'
      dsimp only
      walk1
      refine cut_st (fun s' => ∃ x tx y ty, ((x = a2 ∧ y = b2) ∨ (x = b2 ∧ y = a2)) ∧ x.length ≤ y.length ∧ AtH g1 L1 s [(Str.ofString "a", Value.str x tx), (Str.ofString "b", Value.str y ty), (Str.ofString "max_cost", Value.int c tc)] news s') ?c1 ?c2
      case c1 =>
        k_steps
        · refine Or.inl ⟨rfl, _, _, _, _, Or.inr ⟨rfl, rfl⟩, by omega, AtH.mk (by assumption) (by assumption) (fun _ h => by simp [h]) (all_cons (by with_unfolding_all rfl) (all_cons (by with_unfolding_all rfl) (all_cons (by with_unfolding_all rfl) all_nil)))⟩
        · refine Or.inl ⟨rfl, _, _, _, _, Or.inl ⟨rfl, rfl⟩, by omega, AtH.mk (by assumption) (by assumption) (fun _ h => h) (all_cons (by with_unfolding_all rfl) (all_cons (by with_unfolding_all rfl) (all_cons (by with_unfolding_all rfl) all_nil)))⟩
      case c2 =>
      clear F3 N3
      rintro s' ⟨x, tx, y, ty, hxy, hle, hs'⟩
      obtain ⟨h2, tk2, m2, rfl, F3, N3⟩ := hs'.out
      dsimp only [kstB] at F3
      clear hs'
      dsimp only
      have hlx : x.length ≤ 40 ∧ x.length ≠ 0 := by rcases hxy with ⟨rfl, rfl⟩ | ⟨rfl, rfl⟩ <;> exact ⟨by assumption, by assumption⟩
      have hly : y.length ≤ 40 ∧ y.length ≠ 0 := by rcases hxy with ⟨rfl, rfl⟩ | ⟨rfl, rfl⟩ <;> exact ⟨by assumption, by assumption⟩
      have hlev : lev a b = lev y x := by
        rw [lev_trim hJ ha1 hb1 hJ2 ha2 hb2]
        rcases hxy with ⟨rfl, rfl⟩ | ⟨rfl, rfl⟩
        · exact lev_swap _ _
        · rfl
      rw [hlev] at hret
      obtain ⟨hlx, hx0⟩ := hlx
      obtain ⟨hly, hy0⟩ := hly
      clear hlev hxy ha2 hb2 ha1 hb1 hJ hJ2 hc hc2 hla1 hlb1 hla2 hlb2 na2 nb2 hla hlb
      walk1
      refine cut_st (fun s' => AtH g1 L1 s [(Str.ofString "a", Value.str x tx), (Str.ofString "b", Value.str y ty), (Str.ofString "max_cost", Value.int c tc)] news s') ?c1 ?c2
      case c1 =>
        k_steps
        all_goals first
          | exact Or.inl ⟨rfl, AtH.mk (by assumption) (by assumption) (fun _ h => h) (all_cons (by with_unfolding_all rfl) (all_cons (by with_unfolding_all rfl) (all_cons (by with_unfolding_all rfl) all_nil)))⟩
          | (exfalso; omega)
      case c2 =>
      clear F3 N3
      rintro s' hs'
      obtain ⟨h2, tk2, m2, rfl, F3, N3⟩ := hs'.out
      dsimp only [kstB] at F3
      clear hs'
      dsimp only
      repeat' (first | (k_unfold; (try dsimp only)) | ((fail_if_success (with_reducible show wpAny _ _ (exec (Stmt.For _ _ _ _ _) _) _ _ _)); walk1) | (leave1; walk_say "STEP leave1"; try dsimp only))
      rename Fr _ _ _ _ => F'
      with_unfolding_all refine' For_invVF F' ?k1 ?k2 ?_
      case k1 => exact rfl
      case k2 => exact rfl
      repeat' (first | (k_unfold; (try dsimp only)) | ((fail_if_success (with_reducible show wpAny _ _ (pyIter _) _ _ _)); walk1) | (leave1; walk_say "STEP leave1"; try dsimp only))
      k_with "state" => exact ⟨row0_at (cl y) (cl x), fun h => absurd rfl h⟩
      k_state (fun pre result row => row = rowAt (cl y) (cl x) pre.length ∧ (pre.length ≠ 0 → result = dd (cl y) (cl x) pre.length x.length)) "result" "row"
      · have hkL : kPre.length < y.length := by omega
        rename_i res0 tres0 vs0 rowL cap0 hrow hres kLen1
        subst hrow
        obtain ⟨i, hi⟩ : ∃ i, i = kPre.length := ⟨_, rfl⟩
        have hkN : kN = (i : Int) := by omega
        subst hkN
        rw [← hi] at kFacts hres hkL
        have hiy : i ≤ (cl y).length := by rw [cl_len]; omega
        clear kEq kLt hres
        repeat' (first | (k_unfold; (try dsimp only)) | ((fail_if_success (with_reducible show wpAny _ _ (exec (Stmt.For _ _ _ _ _) _) _ _ _)); walk1) | (leave1; walk_say "STEP leave1"; try dsimp only))
        rename Fr _ _ _ _ => F'
        with_unfolding_all refine' For_invVF F' ?k1 ?k2 ?_
        case k1 => exact rfl
        case k2 => exact rfl
        repeat' (first | (k_unfold; (try dsimp only)) | ((fail_if_success (with_reducible show wpAny _ _ (pyIter _) _ _ _)); walk1) | (leave1; walk_say "STEP leave1"; try dsimp only))
        k_with "state" => exact inner_start hiy _
        k_state (fun pre distance result minimum row => distance = dd (cl y) (cl x) i pre.length ∧ result = resAt (cl y) (cl x) i pre.length ∧ row = rowMid (cl y) (cl x) i pre.length ∧ (pre.length ≠ 0 → minimum ≤ dd (cl y) (cl x) (i + 1) 1)) "distance" "result" "minimum" "row"
        · rename_i dist0 tdist0 resn tresn minn tminn vsM rowM capM hdist hresn hrowM hminn kLen2 kLen3
          have hlenR : rowM.length = x.length := by rw [hrowM, rowMid_len, cl_len]
          have hkL2 : kPre.length < x.length := by omega
          have hcell := cell_is hkL hkL2 kEq hdist hresn hrowM
          k_with "state" => exact inner_turn (by simp) hkL hkL2 kEq hrowM hcell.1 hcell.2 hminn (Or.inl ⟨rfl, by assumption⟩)
          k_with "state" => exact inner_turn (by simp) hkL hkL2 kEq hrowM hcell.1 hcell.2 hminn (Or.inr ⟨rfl, by assumption⟩)
          k_steps
        · rename_i dist1 tdist1 res1 tres1 min1 tmin1 vs1 row1 cap1 hdist1 hres1 hrow1 hmin1 kLen2 kLen3
          have hL : (rangeKs 0 (((x.length : Nat) : Int) - 0).toNat).length = x.length := by rw [rangeKs_length]; omega
          rw [hL] at hdist1 hres1 hrow1 hmin1
          have hm99 : min1 ≤ 99 := by
            have h1 := hmin1 hx0
            have h2 := dd_le (cl y) (cl x) (i + 1) 1
            omega
          k_with "state" => exact outer_turn (by simp [hi]) hx0 hres1 hrow1
          k_steps
      · rename_i res1 tres1 vs1 row1 cap1 hrow1 hres1 kLen2
        have hL : (rangeKs 0 (((y.length : Nat) : Int) - 0).toNat).length = y.length := by rw [rangeKs_length]; omega
        k_steps
        refine cb_retI hret (lev_end hL hy0 hres1) (by assumption) ?_
        rename News _ _ _ _ => nN
        exact cb_drop nN (fun p hp => List.mem_cons_of_mem _ hp)
end Mine
end

section
open PySem PySem.W PyProof.Rows
theorem Mine.offP6 : True := by
  w_top off
  trivial
open PySem PySem.W PySem.Calls PyProof.Rows
namespace Mine
theorem kind_isn : builtinKind "issubclass.nested" = none := by decide +kernel
theorem plain_isn : plainId "issubclass.nested" = true := by decide +kernel
theorem args_isn (a b c : Value) : argsOk "issubclass.nested" ⟨[a, b, c], []⟩ := by unfold argsOk; kernel_rfl
theorem str_sub : isSubtype (.type "str") (.type "str") = pure true := by rw [isSubtype_type]; kernel_rfl
theorem tuple_sub : isSubtype (.type "tuple") (.type "tuple") = pure true := by rw [isSubtype_type]; kernel_rfl
section
variable {prog : Program} {w : World} {A : Around} {E : Value → Shared → Prop} {s : Shared}
theorem isn_str {dep : Int} {tk : Tok} {Q : Fin → Shared → Prop} (hq : Q (.done (.ret (.bool true))) s) :
    wpAny (model prog w) A (Builtin.«issubclass.nested» ⟨[.type "str", .type "str", .int dep tk], []⟩) Q E s := by
  have hm : ((Value.type "type") == Value.type "type") = true := rfl
  have hself := str_sub
  repeat (any_goals (first | assumption | (rw [if_pos hm]) | (rw [hself]) | wp_step))
theorem isn_meets (dep : Int) (tk : Tok) : Meets (Builtin.«issubclass.nested» ⟨[.type "str", .type "str", .int dep tk], []⟩) (fun _ R s => R (.ok (.ret (.bool true))) s) :=
  fun _ _ _ _ _ hs => isn_str hs
theorem isn_tuple {tp : Addr} {cs : List Value} {c : Value} {n : Nat} {tk : Tok} {Q : Fin → Shared → Prop} (hcs : cs = [.type "str", c]) (htp : s.heap.get? tp = some { cls := .type "tuple", data := .seq cs.toArray n })
    (hq : ∀ tk', Q (.done (.ret (.bool true))) { s with toks := tk' }) : wpAny (model prog w) A (Builtin.«issubclass.nested» ⟨[.type "str", .ref tp, .int 0 tk], []⟩) Q E s := by
  obtain ⟨h, g, d, t, os⟩ := s
  have hT2 : (⟨h, g, d, t, os⟩ : Shared).TypeIs (.ref tp) "tuple" := ⟨_, htp, rfl⟩
  have f1 := tuple_sub
  repeat (any_goals (first | assumption | wp_step))
  refine wpAny_arrayLoop ?_
  simp only [Option.getD_some, List.toList_toArray]
  rw [hcs, List.forIn_cons]
  refine wpAny_bind (wpAny_bind (call_function_meets kind_isn plain_isn F.entry_issubclass_nested (args_isn _ _ _) (isn_meets _ _) ?_))
  refine wpAny_bind (m := truthy (.bool true)) (wpAny_pure ?_)
  refine wpAny_bind (wpAny_pure (wpAny_pure (wpAny_pure ?_)))
  exact wpAny_pure (hq t)
theorem sub_str {tp : Addr} {c : Value} {n : Nat} {Q : Value → Shared → Prop} (htp : s.heap.get? tp = some { cls := .type "tuple", data := .seq #[.type "str", c] n }) (h : ∀ tk, Q (.bool true) { s with toks := tk }) :
    wpAny (model prog w) A (call (.builtin "issubclass") [.type "str", .ref tp]) Q E s :=
  call_issubclass (S := fun _ R s => s.heap.get? tp = some { cls := .type "tuple", data := .seq #[.type "str", c] n } ∧ ∀ tk, R (.ok (.ret (.bool true))) { s with toks := tk })
    (fun _ _ _ _ _ hs => issubclass_outer (isn_tuple rfl hs.1 hs.2)) ⟨htp, h⟩
end
end Mine
end

section
open PySem PySem.W PySem.Calls PyProof.Rows
namespace Mine
/-- the end of a turn of iter_strs -/
def StrEnd (h₀ : Heap) (Lc : Addr) (s : Shared) (m₀ : Str → Option Value) (x : Str) (ln l : Addr) (ol : Obj) (rest : List (Addr × Obj)) (goal : List Str) (f : Flow) (s₂ : Shared) : Prop :=
  (f = .next ∨ f = .cont) ∧ ∃ h' tk' m' us' cap', s₂ = { s with heap := h', toks := tk' } ∧ Fr h₀ Lc h' m' ∧ News h₀ Lc h' ((ln, listOf (List.toArray us') cap') :: (l, ol) :: rest) ∧ (∀ z, z ≠ x → m' z = m₀ z) ∧ StrsAre us' goal
theorem StrEnd.intro {h₀ h' : Heap} {Lc : Addr} {s : Shared} {m₀ m' : Str → Option Value} {x : Str} {ln l : Addr} {ol : Obj} {rest : List (Addr × Obj)} {goal : List Str} {f : Flow} {tk' cap' : Nat} {us' : List Value}
    (hf : f = .next ∨ f = .cont) (F : Fr h₀ Lc h' m') (N : News h₀ Lc h' ((ln, listOf (List.toArray us') cap') :: (l, ol) :: rest)) (hm : ∀ z, z ≠ x → m' z = m₀ z) (hs : StrsAre us' goal) :
    StrEnd h₀ Lc s m₀ x ln l ol rest goal f { s with heap := h', toks := tk' } := ⟨hf, h', tk', m', us', cap', rfl, F, N, hm, hs⟩
section
variable {prog : Program} {w : World} {A : Around} {E : Value → Shared → Prop} {s : Shared} {env : Env} {h₀ : Heap} {x : Str} {body : List Stmt} {Q : Flow → Shared → Prop}
theorem iter_tup1 {t : Addr} {v : Value} {n : Nat} {m₀ : Str → Option Value} {news news' : List (Addr × Obj)} (Mid : (Str → Option Value) → Prop)
    (hh : A.handled = none) (hm : (t, ({ cls := .type "tuple", data := .seq #[v] n } : Obj)) ∈ news') (F : Fr h₀ env.locals s.heap m₀) (N : News h₀ env.locals s.heap news') (hsub : ∀ p ∈ news, p ∈ news') (hne : ∀ p ∈ news, p.1 ≠ t)
    (turn : ∀ h tk own, Fr h₀ env.locals h (fun y => if y = x then some v else m₀ y) → News h₀ env.locals h (news ++ own) →
      wpAny (model prog w) A (execs body env) (InvPostN h₀ env.locals (fun m nx => nx = news ∧ Mid m) own (news.map (·.1)) { s with heap := h, toks := tk } Q) E { s with heap := h, toks := tk })
    (done : ∀ m₁ h tk, Mid m₁ → Fr h₀ env.locals h m₁ → News h₀ env.locals h news → Q .next { s with heap := h, toks := tk }) :
    wpAny (model prog w) A (pyIter (.ref t)) (fun it s₂ => LoopAtV prog w A h₀ env x body Q E it s₂) E s := by
  have hol := (N _ hm).1
  have hls : s.heap.IsTuple t #[v] := ⟨_, hol, rfl, n, rfl⟩
  have htI : t ≠ s.heap.objs.size := Nat.ne_of_lt (Heap.lt_size hol)
  refine wpAny_pyIter_tuple hls ?_
  have W := Walks.tuple (prog := prog) (w := w) hh s.heap.objs.size t htI #[v]
  refine loop_invN (fun i m nx => nx = news ∧ ((i = 0 ∧ m = m₀) ∨ (i = 1 ∧ Mid m))) W ?_ ?_ ?_ ?_ ⟨⟨_, Heap.get?_push_size _ rfl, rfl, rfl⟩, ⟨_, Heap.get?_push_of_some _ hol, rfl, n, rfl⟩⟩ (F.push _) (fun p hp => ⟨Heap.get?_push_of_some _ (N p (hsub p hp)).1, (N p (hsub p hp)).2⟩) ⟨rfl, .inl ⟨rfl, rfl⟩⟩ ?_ ?_
  · intro hL
    rcases List.mem_cons.mp hL with e | e
    · exact absurd F.ns.lt (e ▸ Nat.lt_irrefl _)
    · exact (N _ hm).2.1 ((List.mem_singleton.mp e).symm)
  · intro b hb
    rw [List.mem_singleton.mp hb]
    exact next_is_new F
  · intro p hp hI
    exact absurd (Heap.lt_size (N p (hsub p hp)).1) ((List.mem_singleton.mp hI) ▸ Nat.lt_irrefl _)
  · intro p hp hI
    rcases List.mem_cons.mp hI with e | e
    · exact absurd (Heap.lt_size (N p (hsub p hp)).1) (e ▸ Nat.lt_irrefl _)
    · exact hne p hp (List.mem_singleton.mp e)
  · rintro i u m₁ nx h tk own hi hP _ _ ⟨rfl, hJ⟩ F₁ N₁
    have hi0 : i = 0 := by simp at hi; exact hi
    subst hi0
    have hu : u = v := by simpa using hP.symm
    subst hu
    rcases hJ with ⟨_, rfl⟩ | ⟨e, _⟩
    · refine wpAny_mono (turn h tk own F₁ N₁) (fun f s₂ p => ?_) fun _ _ e => e
      have up : InvEndN h₀ env.locals (fun m nx' => nx' = nx ∧ Mid m) own (nx.map (·.1)) { s with heap := h, toks := tk } s₂ →
          InvEndN h₀ env.locals (fun m nx' => nx' = nx ∧ ((0 + 1 = 0 ∧ m = m₁) ∨ (0 + 1 = 1 ∧ Mid m))) own (nx.map (·.1)) { s with heap := h, toks := tk } s₂ := by
        rintro ⟨h', tk', m', n9, nx', e', F', N', hn', ho', ha, hS, hM⟩
        exact ⟨h', tk', m', n9, nx', e', F', N', hn', ho', ha, hS, .inr ⟨rfl, hM⟩⟩
      cases f with
      | ret v => exact p
      | brk => exact p
      | next => exact up p
      | cont => exact up p
    · cases e
  · rintro m₁ nx h tk ⟨rfl, hJ⟩ F₁ N₁
    rcases hJ with ⟨e, _⟩ | ⟨_, hM⟩
    · simp at e
    · exact done m₁ h tk hM F₁ N₁
/-- a loop over a list of texts that turns one list of texts, new at the start -/
theorem iter_strs {l ln : Addr} {vs : List Value} {ss : List Str} {nn : Nat} {m₀ : Str → Option Value} {rest : List (Addr × Obj)} (step : List Str → Str → List Str)
    (hstep : ∀ acc c, (step acc c).length ≤ acc.length + 1) (hmem : ∀ acc c d, d ∈ step acc c → d ∈ acc ∨ d = c)
    (hh : A.handled = none) (F : Fr h₀ env.locals s.heap m₀) (N : News h₀ env.locals s.heap ((ln, listOf #[] 0) :: (l, listOf vs.toArray nn) :: rest)) (hsv : StrsAre vs ss)
    (turn : ∀ (acc : List Str) (us : List Value) (cap : Nat) (c : Str) (t : Tok) h tk own, c ∈ ss → (∀ d ∈ acc, d ∈ ss) → acc.length < ss.length → us.length = acc.length → StrsAre us acc → OwnOff own (ln :: l :: rest.map (·.1)) →
      Fr h₀ env.locals h (fun y => if y = x then some (.str c t) else m₀ y) → News h₀ env.locals h ((ln, listOf us.toArray cap) :: (l, listOf vs.toArray nn) :: (rest ++ own)) →
      wpAny (model prog w) A (execs body env) (StrEnd h₀ env.locals s m₀ x ln l (listOf vs.toArray nn) (rest ++ own) (step acc c)) E { s with heap := h, toks := tk })
    (done : ∀ (us : List Value) (cap : Nat) m₁ h tk, StrsAre us (ss.foldl step []) → (∀ d ∈ ss.foldl step [], d ∈ ss) → (∀ z, z ≠ x → m₁ z = m₀ z) → Fr h₀ env.locals h m₁ → News h₀ env.locals h ((ln, listOf us.toArray cap) :: (l, listOf vs.toArray nn) :: rest) → Q .next { s with heap := h, toks := tk }) :
    wpAny (model prog w) A (pyIter (.ref l)) (fun it s₂ => LoopAtV prog w A h₀ env x body Q E it s₂) E s := by
  have hvl : vs.length = ss.length := hsv.length
  refine kdl_iter (fun i m nx => (∀ z, z ≠ x → m z = m₀ z) ∧ (((ss.take i).foldl step []).length ≤ i) ∧ (∀ d ∈ (ss.take i).foldl step [], d ∈ ss) ∧ ∃ us cap, nx = (ln, listOf (List.toArray us) cap) :: (l, listOf vs.toArray nn) :: rest ∧ StrsAre us ((ss.take i).foldl step []))
    hh (.tail _ (.head _)) F N ⟨fun _ _ => rfl, by simp, by simp, [], 0, rfl, by simpa using StrsAre.nil⟩ ?_ ?_
  · rintro i v m₁ nx h tk own hv hoff _ ⟨hm, hle, hall, us, cap, rfl, hus⟩ F₁ N₁
    have hi : i < ss.length := by rw [← hvl]; exact (List.getElem?_eq_some_iff.mp hv).1
    obtain ⟨t, hx⟩ := hsv.get i ss[i] (by simp [hi])
    have hv' : v = .str ss[i] t := by rw [hx] at hv; exact (Option.some.inj hv).symm
    subst hv'
    have em : (fun y => if y = x then some (Value.str ss[i] t) else m₁ y) = fun y => if y = x then some (Value.str ss[i] t) else m₀ y := by
      funext y
      by_cases hy : y = x
      · rw [if_pos hy, if_pos hy]
      · rw [if_neg hy, if_neg hy]; exact hm y hy
    rw [em] at F₁
    have htk : (ss.take (i + 1)).foldl step [] = step ((ss.take i).foldl step []) ss[i] := by
      rw [List.take_add_one, List.getElem?_eq_getElem hi, Option.toList_some, List.foldl_append, List.foldl_cons, List.foldl_nil]
    refine wpAny_mono (turn _ us cap ss[i] t h tk own (List.getElem_mem hi) hall (by omega) (hus.length) hus (by simpa using hoff) F₁ (by simpa using N₁)) (fun f s₂ p => ?_) fun _ _ e => e
    obtain ⟨hf, h', tk', m', us', cap', rfl, F', N', hm', hus'⟩ := p
    have fin : InvEndG h₀ env.locals (fun m' nx => (l, listOf vs.toArray nn) ∈ nx ∧ (∀ z, z ≠ x → m' z = m₀ z) ∧ (((ss.take (i + 1)).foldl step []).length ≤ i + 1) ∧ (∀ d ∈ (ss.take (i + 1)).foldl step [], d ∈ ss) ∧ ∃ us cap, nx = (ln, listOf (List.toArray us) cap) :: (l, listOf vs.toArray nn) :: rest ∧ StrsAre us ((ss.take (i + 1)).foldl step [])) own { s with heap := h, toks := tk } { s with heap := h', toks := tk' } := by
      refine ⟨h', tk', m', _, (ln, listOf (List.toArray us') cap') :: (l, listOf vs.toArray nn) :: rest, rfl, F', N', fun p hp => by simp at hp ⊢; rcases hp with h | h | h <;> simp [h], fun p hp => by simp [hp], by simpa using hoff, .tail _ (.head _), hm', ?_, ?_, us', cap', rfl, ?_⟩
      · rw [htk]; have := hstep ((ss.take i).foldl step []) ss[i]; omega
      · rw [htk]
        intro d hd
        rcases hmem _ _ _ hd with h | h
        · exact hall d h
        · rw [h]; exact List.getElem_mem hi
      · rw [htk]; exact hus'
    rcases hf with rfl | rfl <;> exact fin
  · rintro m₁ nx h tk ⟨hm, _, hall, us, cap, rfl, hus⟩ F₁ N₁
    rw [hvl, List.take_length] at hus hall
    exact done us cap m₁ h tk hus hall hm F₁ N₁
end
def nstep (acc : List Str) (c : Str) : List Str :=
  if c.length = 0 ∨ c = Str.ofString "." then acc
  else if c ≠ Str.ofString ".." ∨ acc.getLast? = some (Str.ofString "..") then acc ++ [c]
  else acc.dropLast
theorem nstep_len (acc : List Str) (c : Str) : (nstep acc c).length ≤ acc.length + 1 := by
  unfold nstep
  split
  · omega
  · split
    · simp
    · simp; omega
theorem nstep_mem (acc : List Str) (c d : Str) (h : d ∈ nstep acc c) : d ∈ acc ∨ d = c := by
  unfold nstep at h
  split at h
  · exact .inl h
  · split at h
    · rcases List.mem_append.mp h with h | h
      · exact .inl h
      · exact .inr (by simpa using h)
    · exact .inl ((List.dropLast_sublist acc).subset h)
end Mine
end

section
open PySem PySem.W PyProof.Rows
theorem Mine.offC4 : True := by
  w_top off
  trivial
open PySem PySem.W PyProof.Rows
namespace Mine
local macro_rules | `(tactic| walk_at "call builtin:issubclass") => `(tactic| ((with_reducible show wpAny _ _ (call (Value.builtin "issubclass") [Value.type "str", Value.ref _]) _ _ _); (rename News _ _ _ _ => N'); with_unfolding_all refine sub_str (News.get N' (by k_mem)) ?_; intro tk9))
set_option maxHeartbeats 8000000 in
theorem c_fspath {w : World} {mean : ExcName → Option Value} {mg mb : Str → Option Value} {news : List (Addr × Obj)} {a : Str} {ta : Tok} :
    Ct w mean mg mb 94 1 news True [.str a ta] (fun t => .str a t) := by
  unfold Ct
  k_fill
  intro dp un gd cn cs a9 ccd clx outer A₀ base h₀ L m s Q E B0 F0 X0 N0 T0 hcs hlen hdp hun hret
  dsimp only at hret
  refine wpAny_call ?_
  k_dflt cell_enter
  rename_i g1 L1 h1 FG1 F1 N1 B1 X1 T1
  replace F1 := fr_as (fun y => List.lookup y [(Str.ofString "path", Value.str a ta)]) F1 (by with_unfolding_all rfl)
  k_steps
  all_goals refine cb_retS hret rfl (by assumption) ?_
  all_goals (rename News _ _ _ _ => nN; first | exact nN | exact cb_drop nN (fun p hp => by simp [hp]))
set_option maxHeartbeats 8000000 in
theorem c_getsep {w : World} {mean : ExcName → Option Value} {mg mb : Str → Option Value} {news : List (Addr × Obj)} {a : Str} {ta : Tok} :
    Ct w mean mg mb 108 1 news True [.str a ta] (fun t => .str (Str.ofString "/") t) := by
  unfold Ct
  k_fill
  intro dp un gd cn cs a9 ccd clx outer A₀ base h₀ L m s Q E B0 F0 X0 N0 T0 hcs hlen hdp hun hret
  dsimp only at hret
  refine wpAny_call ?_
  k_dflt cell_enter
  rename_i g1 L1 h1 FG1 F1 N1 B1 X1 T1
  replace F1 := fr_as (fun y => List.lookup y [(Str.ofString "path", Value.str a ta)]) F1 (by with_unfolding_all rfl)
  k_steps
  all_goals refine cb_retS hret rfl (by assumption) ?_
  all_goals (rename News _ _ _ _ => nN; first | exact nN | exact cb_drop nN (fun p hp => by simp [hp]))
local macro_rules | `(tactic| walk_at "call ref") => `(tactic| first | (k_here; (with_reducible show wpAny _ _ (call (Value.ref 94) [Value.str _ _]) _ _ _); k_dflt (refine' c_fspath ?k1 ?k2 ?k3 ?k4 ?k5 ?kK ?kp ?kd ?ku ?_; (case k1 => k_asm); (case k2 => k_asm); (case k3 => k_asm); (case k4 => k_asm); (case k5 => k_asm); (case kK => first | exact rfl | assumption); (case kp => trivial); (case kd => ktr_room); (case ku => ktr_units)); intro t9 h9 tk9 F9 N9; (try dsimp only); (try k_fold)) | (k_here; (with_reducible show wpAny _ _ (call (Value.ref 108) [Value.str _ _]) _ _ _); k_dflt (refine' c_getsep ?k1 ?k2 ?k3 ?k4 ?k5 ?kK ?kp ?kd ?ku ?_; (case k1 => k_asm); (case k2 => k_asm); (case k3 => k_asm); (case k4 => k_asm); (case k5 => k_asm); (case kK => first | exact rfl | assumption); (case kp => trivial); (case kd => ktr_room); (case ku => ktr_units)); intro t9 h9 tk9 F9 N9; (try dsimp only); (try k_fold)))
set_option maxHeartbeats 8000000 in
theorem c_join {w : World} {mean : ExcName → Option Value} {mg mb : Str → Option Value} {news : List (Addr × Obj)} {a : Str} {ta : Tok} {b : Str} {tb : Tok} :
    Ct w mean mg mb 115 2 news (a.length ≤ 100 ∧ a.length ≠ 0 ∧ b.length ≤ 100 ∧ Txt.startswith b (Str.ofString "/") = false ∧ Txt.endswith a (Str.ofString "/") = false) [.str a ta, .str b tb] (fun t => .str (a ++ (Str.ofString "/" ++ b)) t) := by
  unfold Ct
  k_fill
  intro dp un gd cn cs a9 ccd clx outer A₀ base h₀ L m s Q E B0 F0 X0 N0 T0 hcs hlen hdp hun hret
  dsimp only at hret
  obtain ⟨hla, ha0, hlb, hsb, hea⟩ := hlen
  refine wpAny_call ?_
  k_dflt (refine' kp_rest ?k1 ?k2 ?k3 ?k4 ?k5 ?kA ?kF ?kK ?k6 ?k7 ?k8 ?kV ?kP ?kG ?kB ?_ ?c2 ?c3 ?c4 ?c5; (case kA => exact rfl); (case kF => exact rfl); (case kK => assumption); (case k1 => k_asm); (case k2 => k_asm); (case k3 => k_asm); (case k4 => k_asm); (case k5 => k_asm); (case k6 => k_is); (case k7 => k_is); (case k8 => ktr_room); (case kV => kl_lit); (case kP => exact rfl); (case kG => exact fun _ => rfl); (case kB => exact fun _ => locs rfl); (case c5 => decide); (case c2 => exact rfl); (case c3 => exact rfl); (case c4 => exact rfl); k_whole; intro D' g' L' h' l1 FG' F' N' B' X' T'; (try k_lt l1); (try dsimp only); (try k_lift B'); (try k_fold))
  replace F' := fr_as (fun y => List.lookup y [(Str.ofString "p", Value.ref D'), (Str.ofString "a", Value.str a ta)]) F' (by with_unfolding_all rfl)
  k_steps
  rename Fr _ _ _ _ => F'
  with_unfolding_all refine' For_invVF F' ?k1 ?k2 ?_
  case k1 => exact rfl
  case k2 => exact rfl
  repeat' (first | (k_unfold; (try dsimp only)) | ((fail_if_success (with_reducible show wpAny _ _ (pyIter _) _ _ _)); walk1) | (leave1; walk_say "STEP leave1"; try dsimp only))
  rename Fr _ _ _ _ => F'
  rename News _ _ _ _ => N'
  with_unfolding_all refine' iter_tup1 (news := news) (fun m => ∃ t', m (Str.ofString "path") = some (Value.str (a ++ (Str.ofString "/" ++ b)) t')) ?k0 (List.Mem.head _) F' N' ?ks ?kn ?turn ?done
  case k0 => exact rfl
  case ks => exact fun p hp => List.mem_cons_of_mem _ hp
  case kn => exact fun p hp => Nat.ne_of_lt (l1 p hp)
  case turn =>
    intro h9 tk9 own9 F9 N9
    clear F' N'
    dsimp only
    k_steps
    rename News _ _ _ _ => nN
    exact InvEndN.intro (by assumption) nN ⟨rfl, _, by with_unfolding_all rfl⟩ rfl (fun p hp => by simp [hp]) (fun p hp => by simp [hp])
  case done =>
    rintro m9 h9 tk9 ⟨t9, hp9⟩ F9 N9
    clear F' N'
    dsimp only
    replace F9 := fr_puts [(Str.ofString "path", Value.str (a ++ (Str.ofString "/" ++ b)) t9)] F9 (all_cons hp9 all_nil)
    dsimp only [kstB] at F9
    k_steps
    refine cb_retS hret rfl (by assumption) (by assumption)
end Mine
end

section
open PySem PySem.W PySem.Calls PyProof.Rows
namespace Mine
theorem nstep_skip {acc : List Str} {c : Str} (h : (c.length : Int) = 0 ∨ (c == Str.ofString ".") = true) : nstep acc c = acc := by
  unfold nstep
  rw [if_pos]
  rcases h with h | h
  · left; omega
  · right; exact eq_of_beq h
theorem nstep_app {acc : List Str} {c : Str} (h0 : (c.length : Int) ≠ 0) (h1 : (c == Str.ofString ".") = false) (h2 : (c != Str.ofString "..") = true ∨ acc.getLast? = some (Str.ofString "..")) : nstep acc c = acc ++ [c] := by
  unfold nstep
  rw [if_neg, if_pos]
  · rcases h2 with h | h
    · left; simpa using h
    · right; exact h
  · rintro (h | h)
    · omega
    · rw [h] at h1; simp at h1
theorem nstep_pop {acc : List Str} {c : Str} (h0 : (c.length : Int) ≠ 0) (h1 : (c == Str.ofString ".") = false) (h2 : (c != Str.ofString "..") = false) (h3 : acc.getLast? ≠ some (Str.ofString "..")) : nstep acc c = acc.dropLast := by
  unfold nstep
  rw [if_neg, if_neg]
  · rintro (h | h)
    · exact h (by simpa using h2)
    · exact h3 h
  · rintro (h | h)
    · omega
    · rw [h] at h1; simp at h1
theorem last_is {acc : List Str} {d e : Str} (h : (d == e) = true) : (acc ++ [d]).getLast? = some e := by
  rw [eq_of_beq h]; simp
theorem last_not {acc : List Str} {d e : Str} (h : (d == e) = false) : (acc ++ [d]).getLast? ≠ some e := by
  simp; intro hh; rw [hh] at h; simp at h
theorem strs_nil {us : List Value} (h : StrsAre us []) : us = [] := by cases h; rfl
theorem strs_snoc_inv : ∀ {us : List Value} {acc : List Str} {d : Str}, StrsAre us (acc ++ [d]) → ∃ us' t, us = us' ++ [.str d t] ∧ StrsAre us' acc
  | _, [], _, h => by
    cases h with
    | cons n t r => cases r; exact ⟨[], t, rfl, .nil⟩
  | _, a :: acc, d, h => by
    cases h with
    | cons n t r =>
      obtain ⟨us', t', e, r'⟩ := strs_snoc_inv r
      exact ⟨.str a t :: us', t', by rw [e]; rfl, .cons a t r'⟩
theorem kl_last_snoc : ∀ (us : List Value) (v : Value), kl_last (us ++ [v]) = some (us, v)
  | [], v => rfl
  | u :: us, v => by
    show (match kl_last (us ++ [v]) with | some (p, y) => some (u :: p, y) | none => some ([], u)) = _
    rw [kl_last_snoc us v]
section
variable {prog : Program} {w : World} {A : Around} {E : Value → Shared → Prop} {s : Shared} {h₀ : Heap} {L ln : Addr} {m : Str → Option Value} {R : List (Addr × Obj)} {us : List Value} {cap : Nat}
theorem app_st {v : Value} {Q : Value → Shared → Prop} (F : Fr h₀ L s.heap m) (N : News h₀ L s.heap ((ln, listOf us.toArray cap) :: R)) (hne : ∀ p ∈ R, p.1 ≠ ln) (hz : us.length ≤ 1000)
    (h : ∀ h', Fr h₀ L h' m → News h₀ L h' ((ln, listOf (us ++ [v]).toArray (cap + 1)) :: R) → Q .none { s with heap := h' }) : wpAny (model prog w) A (call (.builtin "list.append") [.ref ln, v]) Q E s := by
  refine append_K F N (Upd.head hne) (fun h' F' N' => h h' F' ?_) ?_
  · rw [List.push_toArray] at N'; exact N'
  · rw [List.size_toArray, sizeLine_eq]; omega
theorem tru_st' {Q : Bool → Shared → Prop} (N : News h₀ L s.heap ((ln, listOf us.toArray cap) :: R)) (hz : us.length ≤ 1001) (h : ∀ tk, Q (!us.isEmpty) { s with toks := tk }) : wpAny (model prog w) A (truthy (.ref ln)) Q E s := by
  refine wpAny_truthy_list ⟨_, (N _ (.head _)).1, rfl, cap, rfl⟩ (by rw [List.size_toArray]; omega) ?_
  have e : us.toArray.isEmpty = us.isEmpty := by cases us <;> simp
  rw [e]
  exact h _
theorem tru_st1 {v : Value} {Q : Bool → Shared → Prop} (N : News h₀ L s.heap ((ln, listOf (us ++ [v]).toArray cap) :: R)) (hz : us.length ≤ 1000) (h : ∀ tk, Q true { s with toks := tk }) : wpAny (model prog w) A (truthy (.ref ln)) Q E s := by
  refine tru_st' N (by simp; omega) fun tk => ?_
  have e : (!(us ++ [v]).isEmpty) = true := by cases us <;> simp
  rw [e]
  exact h tk
theorem last_st {value slice : Expr} {v : Value} {u : Tok} {Q : Value → Shared → Prop} (N : News h₀ L s.heap ((ln, listOf (us ++ [v]).toArray cap) :: R)) (hz : us.length ≤ 1000) (h : Q v s)
    (hs : subscripted slice false (.ref ln) (.int (-1) u) = operate [.ref ln, .int (-1) u] (getItem (.ref ln) (.int (-1) u)) := by with_unfolding_all rfl) (hg : ∀ r, letTemporaryGo value (.ref ln) r = pure () := by intro _; with_unfolding_all rfl) :
    wpAny (model prog w) A (subscriptTail value slice (.ref ln) (.int (-1) u)) Q E s := by
  have hl : s.heap.IsList ln (us ++ [v]).toArray := ⟨_, (N _ (.head _)).1, rfl, cap, rfl⟩
  refine tail_any hl.typeIs slot_list_getitem.lookup (wpAny_getItem_list_neg hl (by decide) (by rw [List.size_toArray, List.length_append, List.length_singleton]; omega) (by decide) ?_ h) hs
  rw [List.size_toArray, List.length_append, List.length_singleton]
  have e : (-1 + ((us.length + 1 : Nat) : Int)).toNat = us.length := by omega
  rw [e]
  simp
theorem pop_st {v : Value} {Q : Value → Shared → Prop} (F : Fr h₀ L s.heap m) (N : News h₀ L s.heap ((ln, listOf (us ++ [v]).toArray cap) :: R)) (hne : ∀ p ∈ R, p.1 ≠ ln) (hz : us.length ≤ 1000)
    (h : ∀ h', Fr h₀ L h' m → News h₀ L h' ((ln, listOf us.toArray (cap + 1)) :: R) → Q v { s with heap := h' }) : wpAny (model prog w) A (call (.builtin "list.pop") [.ref ln]) Q E s :=
  kl_pop F N (kl_last_snoc us v) (Upd.head hne) (by simp [sizeLine_eq]; omega) h
end
end Mine
namespace Mine
theorem foldl_nstep_len (ss : List Str) : ∀ acc : List Str, (ss.foldl nstep acc).length ≤ acc.length + ss.length := by
  induction ss with
  | nil => intro acc; simp
  | cons c r ih => intro acc; rw [List.foldl_cons, List.length_cons]; have := ih (nstep acc c); have := nstep_len acc c; omega
theorem sum_lens {acc : List Str} (h : ∀ d ∈ acc, d.length ≤ 100) : (acc.map (·.length)).sum ≤ 100 * acc.length := by
  induction acc with
  | nil => simp
  | cons a r ih =>
    have h1 := h a (.head _)
    have h2 := ih fun d hd => h d (.tail _ hd)
    simp only [List.map_cons, List.sum_cons, List.length_cons]
    omega
section
variable {prog : Program} {w : World} {A : Around} {E : Value → Shared → Prop} {s : Shared} {h₀ : Heap} {L ln : Addr} {R : List (Addr × Obj)} {us : List Value} {cap : Nat}
theorem join_st {acc : List Str} {t : Tok} {Q : Value → Shared → Prop} (N : News h₀ L s.heap ((ln, listOf us.toArray cap) :: R)) (hus : StrsAre us acc) (hl : ∀ d ∈ acc, d.length ≤ 100) (hn : acc.length ≤ 102)
    (h : ∀ t' k, (Str.join (Str.ofString "/") acc).length ≤ 50000 → Q (.str (Str.join (Str.ofString "/") acc) t') { s with toks := k }) : wpAny (model prog w) A (call (.builtin "str.join") [.str (Str.ofString "/") t, .ref ln]) Q E s := by
  have hs := sum_lens hl
  have e := eq_of_beq (join_plain_closes (Str.ofString "/") acc)
  refine join_list (items := us.toArray) (ys := acc) ⟨_, (N _ (.head _)).1, rfl, cap, rfl⟩ (by simpa using hus) ?_ fun t' k => ?_
  · have : (Str.ofString "/").length = 1 := by decide
    rw [this]; omega
  · rw [e]
    refine h t' k ?_
    have hw : Weighs acc 10400 := by unfold Weighs; omega
    have := len_join_le (sep := Str.ofString "/") hw (by decide)
    rw [e] at this
    omega
end
end Mine
end

section
open PySem PySem.W PyProof.Rows
theorem Mine.offC6 : True := by
  w_top off
  trivial
open PySem PySem.W PyProof.Rows
namespace Mine
local macro_rules | `(tactic| walk_at "call ref") => `(tactic| (k_here; (with_reducible show wpAny _ _ (call (Value.ref 94) [Value.str _ _]) _ _ _); k_dflt (refine' c_fspath ?k1 ?k2 ?k3 ?k4 ?k5 ?kK ?kp ?kd ?ku ?_; (case k1 => k_asm); (case k2 => k_asm); (case k3 => k_asm); (case k4 => k_asm); (case k5 => k_asm); (case kK => first | exact rfl | assumption); (case kp => trivial); (case kd => ktr_room); (case ku => ktr_units)); intro t9 h9 tk9 F9 N9; (try dsimp only); (try k_fold)))
set_option maxHeartbeats 8000000 in
theorem c_split {w : World} {mean : ExcName → Option Value} {mg mb : Str → Option Value} {news : List (Addr × Obj)} {x : Str} {tx : Tok}
    {dp un : Nat} {gd : Option (List Code)} {cn : Str} {cs : Scope} {a9 : Addr} {ccd : Value} {clx : List (Str × Addr)} {outer : List Env} {A₀ : Around} {base h₀ : Heap} {L : Addr} {m : Str → Option Value} {s : Shared} {Q E : Value → Shared → Prop}
    (B0 : Below A₀ base outer h₀) (F0 : Fr h₀ L s.heap m) (X0 : (hd.heap_39 w.params).In h₀) (N0 : News h₀ L s.heap news) (T0 : Top hd.view_39 (looseW hd.view_39 []) mean mg mb h₀) (hcs : cs.kind = .function)
    (hp : x.length ≤ 100 ∧ Txt.slice x none (some 1) = Str.ofString "/" ∧ Txt.slice x (some 1) (some 2) ≠ Str.ofString "/") (hdp : dp + 2 < recursionLimit) (hun : un + 8 * 2 < cLine)
    (hret : ∀ (D : Addr) (n : Nat) (t1 t2 t3 : Tok) (h' : Heap) (tk' : Nat), Fr h₀ L h' m → News h₀ L h' ((D, ({ cls := .type "tuple", data := .seq #[.str (Str.ofString "") t1, .str (Str.ofString "/") t2, .str (Txt.slice x (some 1) none) t3] n } : Obj)) :: news) → (∀ p ∈ news, p.1 < D) → Q (.ref D) { s with heap := h', toks := tk' }) :
      wpAny (model Challenge.rw_pd0078_01.row.prog w) (ktrTop dp un gd cn cs L a9 ccd clx outer) (call (.ref 122) [.str x tx]) Q E s := by
  revert X0 hret
  k_fill
  intro X0 hret
  obtain ⟨hlx, hp1, hp2⟩ := hp
  refine wpAny_call ?_
  k_dflt cell_enter
  rename_i g1 L1 h1 FG1 F1 N1 B1 X1 T1
  replace F1 := fr_as (fun y => List.lookup y [(Str.ofString "p", Value.str x tx)]) F1 (by with_unfolding_all rfl)
  k_steps
  · exfalso
    rename (Txt.slice x none (some 1) != Str.ofString "/") = true => hb
    rw [hp1] at hb
    exact absurd hb (by decide)
  · rename News _ _ _ _ => nN
    refine hret _ _ _ _ _ _ _ (by assumption) nN ?_
    first | assumption | exact kst_ltOf (by assumption)
  all_goals
    exfalso
    rename (Txt.slice x (some 1) (some 2) != Str.ofString "/") = false => hb
    exact hp2 (by simpa using hb)
end Mine
end

section
open PySem PySem.W PyProof.Rows
theorem Mine.offC5 : True := by
  w_top off
  trivial
open PySem PySem.W PyProof.Rows
namespace Mine
local macro_rules | `(tactic| walk_at "call ref") => `(tactic| (k_here; (with_reducible show wpAny _ _ (call (Value.ref 94) [Value.str _ _]) _ _ _); k_dflt (refine' c_fspath ?k1 ?k2 ?k3 ?k4 ?k5 ?kK ?kp ?kd ?ku ?_; (case k1 => k_asm); (case k2 => k_asm); (case k3 => k_asm); (case k4 => k_asm); (case k5 => k_asm); (case kK => first | exact rfl | assumption); (case kp => trivial); (case kd => ktr_room); (case ku => ktr_units)); intro t9 h9 tk9 F9 N9; (try dsimp only); (try k_fold)))
local macro_rules | `(tactic| walk_at "call ref") => `(tactic| (k_here; (with_reducible show wpAny _ _ (call (Value.ref 122) [Value.str _ _]) _ _ _); k_dflt (refine' c_split ?k1 ?k2 ?k3 ?k4 ?k5 ?kK ?kp ?kd ?ku ?_; (case k1 => k_asm); (case k2 => k_asm); (case k3 => k_asm); (case k4 => k_asm); (case k5 => k_asm); (case kK => first | exact rfl | assumption); (case kp => assumption); (case kd => ktr_room); (case ku => ktr_units)); intro D9 n9 t1 t2 t3 h9 tk9 F9 N9 l1; (try k_lt l1); (try dsimp only); (try k_fold)))
local macro_rules | `(tactic| walk_at "call builtin:list.append") => `(tactic| ((with_reducible show wpAny _ _ (call (Value.builtin "list.append") [Value.ref _, _]) _ _ _); (rename Fr _ _ _ _ => F'); (rename News _ _ _ _ => N'); with_unfolding_all refine app_st F' N' (by assumption) (by first | omega | decide | (simp; omega)) ?_; intro h' F' N'; (try k_sweep)))
local macro_rules | `(tactic| walk_at "call builtin:list.pop") => `(tactic| ((with_reducible show wpAny _ _ (call (Value.builtin "list.pop") [Value.ref _]) _ _ _); (rename Fr _ _ _ _ => F'); (rename News _ _ _ _ => N'); with_unfolding_all refine pop_st F' N' (by assumption) (by first | omega | decide | (simp; omega)) ?_; intro h' F' N'; (try k_sweep)))
local macro_rules | `(tactic| walk_at "truthy ref") => `(tactic| ((rename News _ _ _ _ => N'); with_unfolding_all refine tru_st' N' (by first | omega | decide | (simp; omega)) ?_; intro tk'))
local macro_rules | `(tactic| walk_at "truthy ref") => `(tactic| ((rename News _ _ _ _ => N'); with_unfolding_all refine tru_st1 N' (by first | omega | decide | (simp; omega)) ?_; intro tk'))
local macro_rules | `(tactic| walk_at "subscriptTail") => `(tactic| ((with_reducible show wpAny _ _ (subscriptTail _ _ (Value.ref _) (Value.int _ _)) _ _ _); (rename News _ _ _ _ => N'); with_unfolding_all refine last_st N' (by first | omega | decide | (simp; omega)) ?_))
theorem ne_of_parts {h₀ h : Heap} {L l ln D : Addr} {o o1 o2 : Obj} {news own : List (Addr × Obj)} (N : News h₀ L h ((ln, o) :: (l, o1) :: (((D, o2) :: news) ++ own))) (h1 : l < ln) (h2 : D < ln) (h3 : AllLt ln news) (h4 : OwnOff own (ln :: l :: ((D, o2) :: news).map (·.1))) :
    ∀ p ∈ (l, o1) :: (((D, o2) :: news) ++ own), p.1 ≠ ln := by
  intro p hp
  rcases List.mem_cons.mp hp with rfl | hp
  · exact Nat.ne_of_lt h1
  rcases List.mem_append.mp hp with hp | hp
  · rcases List.mem_cons.mp hp with rfl | hp
    · exact Nat.ne_of_lt h2
    · exact Nat.ne_of_lt (kst_ltOf h3 p hp)
  · exact h4 p hp ln (.head _)
local macro_rules | `(tactic| walk_at "call builtin:str.join") => `(tactic| ((with_reducible show wpAny _ _ (call (Value.builtin "str.join") [Value.str _ _, Value.ref _]) _ _ _); (rename News _ _ _ _ => N'); with_unfolding_all refine join_st N' (by assumption) (by assumption) (by assumption) ?_; intro _ _ _))
def normF (x : Str) : Str := Str.ofString "/" ++ Str.join (Str.ofString "/") ((Txt.split (Txt.slice x (some 1) none) (Str.ofString "/")).foldl nstep [])
set_option maxHeartbeats 8000000 in
theorem c_norm {w : World} {mean : ExcName → Option Value} {mg mb : Str → Option Value} {news : List (Addr × Obj)} {x : Str} {tx : Tok} :
    Ct w mean mg mb 129 3 news (x.length ≤ 100 ∧ Txt.slice x none (some 1) = Str.ofString "/" ∧ Txt.slice x (some 1) (some 2) ≠ Str.ofString "/") [.str x tx] (fun t => .str (normF x) t) := by
  unfold Ct
  k_fill
  intro dp un gd cn cs a9 ccd clx outer A₀ base h₀ L m s Q E B0 F0 X0 N0 T0 hcs hlen hdp hun hret
  dsimp only at hret
  have hlx := hlen.1
  have hx0 : x.length ≠ 0 := by
    intro e
    have h := hlen.2.1
    have h2 := Txt.slice_le x none (some 1)
    rw [h, e] at h2
    exact absurd h2 (by decide)
  refine wpAny_call ?_
  k_dflt cell_enter
  rename_i g1 L1 h1 FG1 F1 N1 B1 X1 T1
  replace F1 := fr_as (fun y => List.lookup y [(Str.ofString "path", Value.str x tx)]) F1 (by with_unfolding_all rfl)
  repeat' (first | (k_unfold; (try dsimp only)) | ((fail_if_success (with_reducible show wpAny _ _ (exec (Stmt.For _ _ _ _ _) _) _ _ _)); walk1) | (leave1; walk_say "STEP leave1"; try dsimp only))
  rotate_left
  · exfalso; omega
  rename Fr _ _ _ _ => F'
  with_unfolding_all refine' For_invVF F' ?k1 ?k2 ?_
  case k1 => exact rfl
  case k2 => exact rfl
  repeat' (first | (k_unfold; (try dsimp only)) | ((fail_if_success (with_reducible show wpAny _ _ (pyIter _) _ _ _)); walk1) | (leave1; walk_say "STEP leave1"; try dsimp only))
  rename Fr _ _ _ _ => F'
  rename News _ _ _ _ => N'
  rename _ < _ ∧ _ < _ ∧ AllLt _ _ => hltL
  obtain ⟨hltA, hltB, hltC⟩ := hltL
  rename StrsAre _ _ => hss
  rename List.map _ _ = Txt.split _ _ => hsp
  rename ∀ (a : Str), a ∈ _ → a.length ≤ _ => hbd
  have hsl := Txt.slice_le x (some 1) none
  rw [hsp] at hss hbd
  have hcl := split_le (Txt.slice x (some 1) none) (Str.ofString "/")
  generalize hcs9 : Txt.split (Txt.slice x (some 1) none) (Str.ofString "/") = comps at hss hbd hcl
  with_unfolding_all refine' iter_strs nstep nstep_len nstep_mem ?k0 F' N' hss ?turn ?done
  case k0 => exact rfl
  case turn =>
    intro acc us cap comp tcomp h9 tk9 own9 hin hall hlt hul hus hoff F9 N9
    clear F' N'
    have hcb := hbd comp hin
    have hneL := ne_of_parts N9 hltA hltB hltC hoff
    rcases List.eq_nil_or_concat acc with rfl | ⟨acc', d, rfl⟩
    · have e := strs_nil hus
      subst e
      k_steps
      all_goals (rename News _ _ _ _ => nN)
      all_goals refine StrEnd.intro (by first | exact Or.inl rfl | exact Or.inr rfl) (by assumption) nN (fun z hz => if_neg hz) ?_
      all_goals first
        | (rw [nstep_skip (c := comp) (by first | (left; omega) | (right; assumption))]; exact hus)
        | (rw [nstep_app (acc := []) (c := comp) (by omega) (by assumption) (Or.inl (by assumption))]; exact PyProof.Rows.StrsAre.append' hus (.cons _ _ .nil))
        | (rw [nstep_pop (acc := []) (c := comp) (by omega) (by assumption) (by assumption) (by simp)]; exact hus)
    · rw [List.concat_eq_append] at *
      obtain ⟨us', td, rfl, hus'⟩ := strs_snoc_inv hus
      have hul' : us'.length ≤ 1000 := by simp at hlt; rw [hus'.length]; omega
      k_steps
      all_goals (rename News _ _ _ _ => nN)
      all_goals refine StrEnd.intro (by first | exact Or.inl rfl | exact Or.inr rfl) (by assumption) nN (fun z hz => if_neg hz) ?_
      all_goals first
        | (rw [nstep_skip (c := comp) (by first | (left; omega) | (right; assumption))]; exact hus)
        | (rw [nstep_app (acc := acc' ++ [d]) (c := comp) (by omega) (by assumption) (by first | (left; assumption) | (right; exact last_is (by assumption)))]; exact PyProof.Rows.StrsAre.append' hus (.cons _ _ .nil))
        | (rw [nstep_pop (acc := acc' ++ [d]) (c := comp) (by omega) (by assumption) (by assumption) (last_not (by assumption)), List.dropLast_concat]; exact hus')
  case done =>
    intro us cap m9 h9 tk9 hus hall hm9 F9 N9
    clear F' N'
    obtain ⟨q9, t5, t6, t7, R, e1, e2, e3, e4, N8, hR⟩ : ∃ q9 t5 t6 t7 R, m9 (Str.ofString "new_comps") = some (Value.ref q9) ∧ m9 (Str.ofString "initial_slashes") = some (Value.str (Str.ofString "/") t5) ∧ m9 (Str.ofString "sep") = some (Value.str (Str.ofString "/") t6) ∧ m9 (Str.ofString "dot") = some (Value.str (Str.ofString ".") t7) ∧ News g1 L1 h9 ((q9, PySem.W.listOf us.toArray cap) :: R) ∧ ∀ p ∈ news, p ∈ R :=
      ⟨_, _, _, _, _, (hm9 _ (by decide)).trans (by with_unfolding_all rfl), (hm9 _ (by decide)).trans (by with_unfolding_all rfl), (hm9 _ (by decide)).trans (by with_unfolding_all rfl), (hm9 _ (by decide)).trans (by with_unfolding_all rfl), N9, fun p hp => by simp [hp]⟩
    clear N9
    replace F9 := fr_puts [(Str.ofString "new_comps", Value.ref q9), (Str.ofString "initial_slashes", Value.str (Str.ofString "/") t5), (Str.ofString "sep", Value.str (Str.ofString "/") t6), (Str.ofString "dot", Value.str (Str.ofString ".") t7)] F9 (all_cons e1 (all_cons e2 (all_cons e3 (all_cons e4 all_nil))))
    dsimp only [kstB] at F9
    have hj1 : ∀ d ∈ comps.foldl nstep [], d.length ≤ 100 := fun d hd => by have := hbd d (hall d hd); omega
    have hj2 : (comps.foldl nstep []).length ≤ 102 := by have := foldl_nstep_len comps []; simp at this; omega
    k_steps
    refine cb_retS hret ?_ (by assumption) ?_
    · unfold normF; rw [hcs9]
    · rename News _ _ _ _ => nN
      exact cb_drop nN (fun p hp => List.mem_cons_of_mem _ (hR p hp))
end Mine
end

section
open PySem PySem.W PySem.Calls PyProof.Rows
namespace Mine
def pick4 (a b c d : Str) (k : Int) : Str := if k = 0 then a else if k = 1 then b else if k = 2 then c else d
def pick5 (a b c d e : Str) (k : Int) : Str := if k = 0 then a else if k = 1 then b else if k = 2 then c else if k = 3 then d else e
def pick5i (a b c d e : Int) (k : Int) : Int := if k = 0 then a else if k = 1 then b else if k = 2 then c else if k = 3 then d else e
section
variable {prog : Program} {w : World} {A : Around} {E : Value → Shared → Prop} {s : Shared} {h₀ : Heap} {L l : Addr} {news : List (Addr × Obj)} {n : Nat} {k : Int} {u : Tok} {value slice : Expr} {Q : Value → Shared → Prop}
theorem item_st {vs : List Value} {v : Value} (N : News h₀ L s.heap news) (hm : (l, listOf vs.toArray n) ∈ news) (h0 : 0 ≤ k) (h1 : k < 8) (hv : vs[k.toNat]? = some v) (h : Q v s)
    (hs : subscripted slice false (.ref l) (.int k u) = operate [.ref l, .int k u] (getItem (.ref l) (.int k u)) := by with_unfolding_all rfl) :
    wpAny (model prog w) A (subscriptTail value slice (.ref l) (.int k u)) Q E s := by
  have hl : s.heap.IsList l vs.toArray := ⟨_, (N _ hm).1, rfl, n, rfl⟩
  exact tail_any hl.typeIs slot_list_getitem.lookup (wpAny_getItem_list hl h0 (by omega) (by simpa using hv) h) hs
theorem pick4_st {a b c d : Str} {t0 t1 t2 t3 : Tok} (N : News h₀ L s.heap news) (hm : (l, listOf #[.str a t0, .str b t1, .str c t2, .str d t3] n) ∈ news) (h0 : 0 ≤ k) (h1 : k < 4) (h : ∀ t, Q (.str (pick4 a b c d k) t) s)
    (hs : subscripted slice false (.ref l) (.int k u) = operate [.ref l, .int k u] (getItem (.ref l) (.int k u)) := by with_unfolding_all rfl) :
    wpAny (model prog w) A (subscriptTail value slice (.ref l) (.int k u)) Q E s := by
  have hk : k = 0 ∨ k = 1 ∨ k = 2 ∨ k = 3 := by omega
  rcases hk with rfl | rfl | rfl | rfl
  · exact item_st (vs := [.str a t0, .str b t1, .str c t2, .str d t3]) N hm h0 (by omega) rfl (h t0) hs
  · exact item_st (vs := [.str a t0, .str b t1, .str c t2, .str d t3]) N hm h0 (by omega) rfl (h t1) hs
  · exact item_st (vs := [.str a t0, .str b t1, .str c t2, .str d t3]) N hm h0 (by omega) rfl (h t2) hs
  · exact item_st (vs := [.str a t0, .str b t1, .str c t2, .str d t3]) N hm h0 (by omega) rfl (h t3) hs
theorem pick5_st {a b c d e : Str} {t0 t1 t2 t3 t4 : Tok} (N : News h₀ L s.heap news) (hm : (l, listOf #[.str a t0, .str b t1, .str c t2, .str d t3, .str e t4] n) ∈ news) (h0 : 0 ≤ k) (h1 : k < 5) (h : ∀ t, Q (.str (pick5 a b c d e k) t) s)
    (hs : subscripted slice false (.ref l) (.int k u) = operate [.ref l, .int k u] (getItem (.ref l) (.int k u)) := by with_unfolding_all rfl) :
    wpAny (model prog w) A (subscriptTail value slice (.ref l) (.int k u)) Q E s := by
  have hk : k = 0 ∨ k = 1 ∨ k = 2 ∨ k = 3 ∨ k = 4 := by omega
  rcases hk with rfl | rfl | rfl | rfl | rfl
  · exact item_st (vs := [.str a t0, .str b t1, .str c t2, .str d t3, .str e t4]) N hm h0 (by omega) rfl (h t0) hs
  · exact item_st (vs := [.str a t0, .str b t1, .str c t2, .str d t3, .str e t4]) N hm h0 (by omega) rfl (h t1) hs
  · exact item_st (vs := [.str a t0, .str b t1, .str c t2, .str d t3, .str e t4]) N hm h0 (by omega) rfl (h t2) hs
  · exact item_st (vs := [.str a t0, .str b t1, .str c t2, .str d t3, .str e t4]) N hm h0 (by omega) rfl (h t3) hs
  · exact item_st (vs := [.str a t0, .str b t1, .str c t2, .str d t3, .str e t4]) N hm h0 (by omega) rfl (h t4) hs
theorem pick5i_st {a b c d e : Int} {t0 t1 t2 t3 t4 : Tok} (N : News h₀ L s.heap news) (hm : (l, listOf #[.int a t0, .int b t1, .int c t2, .int d t3, .int e t4] n) ∈ news) (h0 : 0 ≤ k) (h1 : k < 5) (h : ∀ t, Q (.int (pick5i a b c d e k) t) s)
    (hs : subscripted slice false (.ref l) (.int k u) = operate [.ref l, .int k u] (getItem (.ref l) (.int k u)) := by with_unfolding_all rfl) :
    wpAny (model prog w) A (subscriptTail value slice (.ref l) (.int k u)) Q E s := by
  have hk : k = 0 ∨ k = 1 ∨ k = 2 ∨ k = 3 ∨ k = 4 := by omega
  rcases hk with rfl | rfl | rfl | rfl | rfl
  · exact item_st (vs := [.int a t0, .int b t1, .int c t2, .int d t3, .int e t4]) N hm h0 (by omega) rfl (h t0) hs
  · exact item_st (vs := [.int a t0, .int b t1, .int c t2, .int d t3, .int e t4]) N hm h0 (by omega) rfl (h t1) hs
  · exact item_st (vs := [.int a t0, .int b t1, .int c t2, .int d t3, .int e t4]) N hm h0 (by omega) rfl (h t2) hs
  · exact item_st (vs := [.int a t0, .int b t1, .int c t2, .int d t3, .int e t4]) N hm h0 (by omega) rfl (h t3) hs
  · exact item_st (vs := [.int a t0, .int b t1, .int c t2, .int d t3, .int e t4]) N hm h0 (by omega) rfl (h t4) hs
end
end Mine
end

section
open PySem PySem.W PySem.Calls PyProof.Rows
namespace Mine
theorem fm_b (x m : Int) (h : 0 < m) : 0 ≤ x.fmod m ∧ x.fmod m < m := by
  rw [Int.fmod_eq_emod_of_nonneg x (Int.le_of_lt h)]
  exact ⟨Int.emod_nonneg x (Int.ne_of_gt h), Int.emod_lt_of_pos x h⟩
abbrev letF (n : Int) : Str := Txt.item (Str.ofString "abc") ((n.fdiv 4).fmod 3)
abbrev kF (n : Int) : Int := ((n.fdiv 4).fdiv 3).fmod 5
abbrev detF (n : Int) : Str := pick4 (Str.ofString "") (Str.ofString "./") (Str.ofString ".//") (Str.ofString "7/../") (n.fmod 4)
abbrev typF (n : Int) : Str := pick5 (letF n) (Str.ofString "7" ++ letF n) (letF n ++ Str.ofString "7") (Txt.upper (letF n)) (Str.ofString "8") (kF n)
abbrev slipF (n : Int) : Int := pick5i 0 2 2 1 2 (kF n)
def stp (f : Int → Str) (s : Str) (n : Int) : Str := s ++ (Str.ofString "/" ++ f n)
def wF (pre : List Int) : Str := pre.foldl (stp letF) (Str.ofString "/z")
def pF (pre : List Int) : Str := pre.foldl (stp typF) (Str.ofString "/z")
def yF (pre : List Int) : Str := pre.foldl (stp fun n => detF n ++ typF n) (Str.ofString "/z")
def sF (pre : List Int) : Int := pre.foldl (fun a n => a + slipF n) 0
def kkF (pre : List Int) : Int := pre.foldl (fun a n => a + 2 * ((detF n).length : Int)) 0
def LW (pre : List Int) (wanted path way : Str) (slips struck : Int) : Prop := wanted = wF pre ∧ path = pF pre ∧ way = yF pre ∧ slips = sF pre ∧ struck = kkF pre
theorem LW.start : LW [] (Str.ofString "/z") (Str.ofString "/z") (Str.ofString "/z") 0 0 := ⟨rfl, rfl, rfl, rfl, rfl⟩
theorem LW.turn {pre : List Int} {wanted path way : Str} {slips struck n : Int} (h : LW pre wanted path way slips struck) :
    LW (pre ++ [n]) (wanted ++ (Str.ofString "/" ++ letF n)) (path ++ (Str.ofString "/" ++ typF n)) (way ++ (Str.ofString "/" ++ (detF n ++ typF n))) (slips + slipF n) (struck + 2 * ((detF n).length : Int)) := by
  obtain ⟨rfl, rfl, rfl, rfl, rfl⟩ := h
  refine ⟨?_, ?_, ?_, ?_, ?_⟩
  · simp only [wF, List.foldl_append, List.foldl_cons, List.foldl_nil, stp]
  · simp only [pF, List.foldl_append, List.foldl_cons, List.foldl_nil, stp]
  · simp only [yF, List.foldl_append, List.foldl_cons, List.foldl_nil, stp]
  · simp only [sF, List.foldl_append, List.foldl_cons, List.foldl_nil]
  · simp only [kkF, List.foldl_append, List.foldl_cons, List.foldl_nil]
/-- the sixty kinds of a number, each by a letter, a make and a detour -/
theorem kinds (n : Int) : ∃ a b c : Int, (0 ≤ a ∧ a < 3) ∧ (0 ≤ b ∧ b < 5) ∧ (0 ≤ c ∧ c < 4) ∧ (n.fdiv 4).fmod 3 = a ∧ kF n = b ∧ n.fmod 4 = c :=
  ⟨_, _, _, fm_b _ 3 (by decide), fm_b _ 5 (by decide), fm_b _ 4 (by decide), rfl, rfl, rfl⟩
def let3 (a : Int) : Str := Txt.item (Str.ofString "abc") a
def typ3 (a b : Int) : Str := pick5 (let3 a) (Str.ofString "7" ++ let3 a) (let3 a ++ Str.ofString "7") (Txt.upper (let3 a)) (Str.ofString "8") b
def det3 (c : Int) : Str := pick4 (Str.ofString "") (Str.ofString "./") (Str.ofString ".//") (Str.ofString "7/../") c
/-- a fact of the sixty kinds, by looking at each -/
theorem by_kinds (P : Int → Int → Int → Bool) (h : ((List.range 3).all fun a => (List.range 5).all fun b => (List.range 4).all fun c => P a b c) = true) {a b c : Int} (ha : 0 ≤ a ∧ a < 3) (hb : 0 ≤ b ∧ b < 5) (hc : 0 ≤ c ∧ c < 4) : P a b c = true := by
  have h1 := List.all_eq_true.mp h a.toNat (List.mem_range.mpr (by omega))
  have h2 := List.all_eq_true.mp h1 b.toNat (List.mem_range.mpr (by omega))
  have h3 := List.all_eq_true.mp h2 c.toNat (List.mem_range.mpr (by omega))
  rw [Int.toNat_of_nonneg ha.1, Int.toNat_of_nonneg hb.1, Int.toNat_of_nonneg hc.1] at h3
  exact h3
theorem lens_ok (n : Int) : (letF n).length = 1 ∧ (typF n).length ≤ 2 ∧ (typF n).length ≠ 0 ∧ (detF n).length ≤ 5 ∧ Txt.startswith (detF n ++ typF n) (Str.ofString "/") = false := by
  obtain ⟨a, b, c, ha, hb, hc, e1, e2, e3⟩ := kinds n
  have := by_kinds (fun a b c => decide ((let3 a).length = 1) && decide ((typ3 a b).length ≤ 2) && decide ((typ3 a b).length ≠ 0) && decide ((det3 c).length ≤ 5) && !(Txt.startswith (det3 c ++ typ3 a b) (Str.ofString "/"))) (by decide +kernel) ha hb hc
  simp only [Bool.and_eq_true, decide_eq_true_eq, Bool.not_eq_true'] at this
  simp only [letF, typF, detF, e1, e2, e3]
  exact ⟨this.1.1.1.1, this.1.1.1.2, this.1.1.2, this.1.2, this.2⟩
end Mine
end

section
open PySem PySem.W PySem.Calls PyProof.Rows
namespace Mine
theorem ends_ok (n : Int) : Txt.endswith (detF n ++ typF n) (Str.ofString "/") = false ∧ (detF n ++ typF n).length ≤ 7 ∧ 1 ≤ (detF n ++ typF n).length := by
  obtain ⟨a, b, c, ha, hb, hc, e1, e2, e3⟩ := kinds n
  have := by_kinds (fun a b c => !(Txt.endswith (det3 c ++ typ3 a b) (Str.ofString "/")) && decide ((det3 c ++ typ3 a b).length ≤ 7) && decide (1 ≤ (det3 c ++ typ3 a b).length)) (by decide +kernel) ha hb hc
  simp only [Bool.and_eq_true, decide_eq_true_eq, Bool.not_eq_true'] at this
  simp only [letF, typF, detF, e1, e2, e3]
  exact ⟨this.1.1, this.1.2, this.2⟩
theorem len_app (a b : Str) : (a ++ b).length = a.length + b.length := Str.length_append a b
theorem one_len : (Str.ofString "/").length = 1 := by decide
theorem fold_len (f : Int → Str) (B : Nat) (hB : ∀ n, (f n).length ≤ B) (pre : List Int) : ∀ s : Str, (pre.foldl (stp f) s).length ≤ s.length + (1 + B) * pre.length := by
  induction pre with
  | nil => intro s; simp
  | cons n r ih =>
    intro s
    rw [List.foldl_cons, List.length_cons]
    have h1 := ih (stp f s n)
    have h2 := hB n
    have h3 : (stp f s n).length = s.length + (1 + (f n).length) := by unfold stp; rw [len_app, len_app, one_len]
    rw [Nat.mul_add, Nat.mul_one]
    omega
theorem fold_ends (pre : List Int) : ∀ s : Str, s.length ≠ 0 → Txt.endswith s (Str.ofString "/") = false →
    (pre.foldl (stp fun n => detF n ++ typF n) s).length ≠ 0 ∧ Txt.endswith (pre.foldl (stp fun n => detF n ++ typF n) s) (Str.ofString "/") = false := by
  induction pre with
  | nil => intro s h1 h2; exact ⟨h1, h2⟩
  | cons n r ih =>
    intro s h1 h2
    rw [List.foldl_cons]
    obtain ⟨q1, q2, q3⟩ := ends_ok n
    have hl : (stp (fun n => detF n ++ typF n) s n).length = s.length + (1 + (detF n ++ typF n).length) := by unfold stp; rw [len_app, len_app, one_len]
    refine ih _ (by omega) ?_
    unfold stp
    rw [KAf.ends_right (by rw [len_app, one_len]; omega), KAf.ends_right (by rw [one_len]; omega)]
    exact q1
theorem pre_le {l pre post : List Int} {n : Int} (h : List.take 3 l = pre ++ n :: post) : pre.length ≤ 3 := by
  have h1 := congrArg List.length h
  have h2 := List.length_take_le 3 l
  rw [h1, List.length_append, List.length_cons] at h2
  omega
theorem turn_facts {pre : List Int} {wanted path way : Str} {slips struck : Int} (h : LW pre wanted path way slips struck) (hp : pre.length ≤ 3) (n : Int) :
    (way.length ≤ 100 ∧ way.length ≠ 0 ∧ (detF n ++ typF n).length ≤ 100 ∧ Txt.startswith (detF n ++ typF n) (Str.ofString "/") = false ∧ Txt.endswith way (Str.ofString "/") = false) ∧ wanted.length ≤ 40 ∧ path.length ≤ 40 ∧ way.length ≤ 40 := by
  obtain ⟨rfl, rfl, rfl, _, _⟩ := h
  have e2 : (Str.ofString "/z").length = 2 := by decide
  have a1 := fold_len letF 1 (fun n => by rw [(lens_ok n).1]; exact Nat.le_refl _) pre (Str.ofString "/z")
  have a2 := fold_len typF 2 (fun n => (lens_ok n).2.1) pre (Str.ofString "/z")
  have a3 := fold_len (fun n => detF n ++ typF n) 7 (fun n => (ends_ok n).2.1) pre (Str.ofString "/z")
  have a4 := fold_ends pre (Str.ofString "/z") (by decide) (by decide +kernel)
  have a5 := ends_ok n
  have a6 := lens_ok n
  rw [e2] at a1 a2 a3
  refine ⟨⟨?_, a4.1, by omega, a6.2.2.2.2, a4.2⟩, ?_, ?_, ?_⟩
  · unfold yF; omega
  · unfold wF; omega
  · unfold pF; omega
  · unfold yF; omega
end Mine
end

section
open PySem PySem.W PySem.Calls PyProof.Rows
namespace Mine
/-- the signs that the law's texts are made of -/
def sigma : List Nat := [47, 122, 97, 98, 99, 65, 66, 67, 46, 55, 56]
def phi (x : Nat) : Int := if x = 97 ∨ x = 98 ∨ x = 99 then 0 else if x = 65 ∨ x = 66 ∨ x = 67 then 1 else 2
def Phi (l : List Nat) : Int := (l.map phi).sum
theorem phi_sc : ∀ x ∈ sigma, ∀ y ∈ sigma, phi y - phi x ≤ sc x y := by
  have h : (sigma.all fun x => sigma.all fun y => decide (phi y - phi x ≤ sc x y)) = true := by decide +kernel
  intro x hx y hy
  have := List.all_eq_true.mp (List.all_eq_true.mp h x hx) y hy
  simpa using this
theorem phi_b (x : Nat) : 0 ≤ phi x ∧ phi x ≤ 2 := by
  unfold phi
  split
  · omega
  · split <;> omega
theorem Phi_snoc (l : List Nat) (x : Nat) : Phi (l ++ [x]) = Phi l + phi x := by simp [Phi]
theorem Phi_app (l k : List Nat) : Phi (l ++ k) = Phi l + Phi k := by simp [Phi]
theorem Al.pot {a b : List Nat} {n : Int} (h : Al sc a b n) : (∀ x ∈ a, x ∈ sigma) → (∀ x ∈ b, x ∈ sigma) → Phi b - Phi a ≤ n := by
  induction h with
  | nil => intros; simp [Phi]
  | sub x y _ ih =>
    intro ha hb
    have h1 := ih (fun z hz => ha z (by simp [hz])) (fun z hz => hb z (by simp [hz]))
    have h2 := phi_sc x (ha x (by simp)) y (hb y (by simp))
    rw [Phi_snoc, Phi_snoc]; omega
  | del x _ ih =>
    intro ha hb
    have h1 := ih (fun z hz => ha z (by simp [hz])) hb
    have h2 := phi_b x
    rw [Phi_snoc]; omega
  | ins y _ ih =>
    intro ha hb
    have h1 := ih ha (fun z hz => hb z (by simp [hz]))
    have h2 := phi_b y
    rw [Phi_snoc]; omega
/-- a pair of texts whose distance is told by the weights -/
def Good (a b : List Nat) : Prop := (∀ x ∈ a, x ∈ sigma) ∧ (∀ x ∈ b, x ∈ sigma) ∧ Al sc a b (Phi b - Phi a)
theorem Good.dist {a b : List Nat} (h : Good a b) : D sc a b = Phi b - Phi a := D_eq sc_cost ⟨h.2.2, fun _ hn => hn.pot h.1 h.2.1⟩
theorem Good.app {a b a' b' : List Nat} (h : Good a b) (h' : Good a' b') : Good (a ++ a') (b ++ b') := by
  refine ⟨?_, ?_, ?_⟩
  · intro x hx
    rcases List.mem_append.mp hx with q | q
    · exact h.1 x q
    · exact h'.1 x q
  · intro x hx
    rcases List.mem_append.mp hx with q | q
    · exact h.2.1 x q
    · exact h'.2.1 x q
  · exact (h.2.2.append h'.2.2).as (by rw [Phi_app, Phi_app]; omega)
/-- an alignment told as a row of choices: 0 both, 1 the left alone, 2 the right alone -/
def run : List Nat → List Nat → List Nat → Option Int
  | [], [], [] => some 0
  | 0 :: ks, x :: a, y :: b => (run ks a b).map (· + sc x y)
  | 1 :: ks, _ :: a, b => (run ks a b).map (· + 2)
  | 2 :: ks, a, _ :: b => (run ks a b).map (· + 2)
  | _, _, _ => none
theorem run_al : ∀ (ks a b : List Nat) (n : Int), run ks a b = some n → Al sc a b n
  | [], [], [], n, h => by simp [run] at h; subst h; exact .nil
  | 0 :: ks, x :: a, y :: b, n, h => by
    simp only [run, Option.map_eq_some_iff] at h
    obtain ⟨k, h1, rfl⟩ := h
    exact (run_al ks a b k h1).cons2 x y
  | 1 :: ks, x :: a, b, n, h => by
    simp only [run, Option.map_eq_some_iff] at h
    obtain ⟨k, h1, rfl⟩ := h
    exact (run_al ks a b k h1).consL x
  | 2 :: ks, a, y :: b, n, h => by
    simp only [run, Option.map_eq_some_iff] at h
    obtain ⟨k, h1, rfl⟩ := h
    exact (run_al ks a b k h1).consR y
  | [], [], _ :: _, n, h => by simp [run] at h
  | [], _ :: _, _, n, h => by simp [run] at h
  | 0 :: ks, [], _, n, h => by simp [run] at h
  | 0 :: ks, _ :: _, [], n, h => by simp [run] at h
  | 1 :: ks, [], _, n, h => by simp [run] at h
  | 2 :: ks, a, [], n, h => by simp [run] at h
  | (k + 3) :: ks, a, b, n, h => by simp [run] at h
end Mine
end

section
open PySem PySem.W PySem.Calls PyProof.Rows
namespace Mine
def okP (ks : List Nat) (a b : List Nat) : Bool := a.all (fun x => sigma.contains x) && b.all (fun x => sigma.contains x) && (run ks a b == some (Phi b - Phi a))
theorem okP_good {ks a b : List Nat} (h : okP ks a b = true) : Good a b := by
  unfold okP at h
  simp only [Bool.and_eq_true, List.all_eq_true, List.contains_iff_mem, beq_iff_eq] at h
  exact ⟨h.1.1, h.1.2, run_al ks a b _ h.2⟩
def seg (x : Str) : Str := Str.ofString "/" ++ x
def ksT (b : Int) : List Nat := if b = 0 then [0] else if b = 1 then [2, 0] else if b = 2 then [0, 2] else [0]
def ks1 (b : Int) : List Nat := 0 :: ksT b
def ks2 (a b c : Int) : List Nat := 0 :: (List.replicate (det3 c).length 2 ++ List.replicate (typ3 a b).length 0)
def ks3 (b c : Int) : List Nat := 0 :: (List.replicate (det3 c).length 2 ++ ksT b)
def allOk (a b c : Int) : Bool :=
  okP (ks1 b) (cl (seg (let3 a))) (cl (seg (typ3 a b))) && okP (ks2 a b c) (cl (seg (typ3 a b))) (cl (seg (det3 c ++ typ3 a b))) && okP (ks3 b c) (cl (seg (let3 a))) (cl (seg (det3 c ++ typ3 a b))) &&
  decide (Phi (cl (seg (typ3 a b))) - Phi (cl (seg (let3 a))) = pick5i 0 2 2 1 2 b) && decide (Phi (cl (seg (det3 c ++ typ3 a b))) - Phi (cl (seg (typ3 a b))) = 2 * ((det3 c).length : Int))
theorem allOk_all : ((List.range 3).all fun a => (List.range 5).all fun b => (List.range 4).all fun c => allOk a b c) = true := by decide +kernel
theorem segs (n : Int) : Good (cl (seg (letF n))) (cl (seg (typF n))) ∧ Good (cl (seg (typF n))) (cl (seg (detF n ++ typF n))) ∧ Good (cl (seg (letF n))) (cl (seg (detF n ++ typF n))) ∧
    Phi (cl (seg (typF n))) - Phi (cl (seg (letF n))) = slipF n ∧ Phi (cl (seg (detF n ++ typF n))) - Phi (cl (seg (typF n))) = 2 * ((detF n).length : Int) := by
  obtain ⟨a, b, c, ha, hb, hc, e1, e2, e3⟩ := kinds n
  have := by_kinds allOk allOk_all ha hb hc
  unfold allOk at this
  simp only [Bool.and_eq_true, decide_eq_true_eq] at this
  simp only [letF, typF, detF, slipF, e1, e2, e3]
  exact ⟨okP_good this.1.1.1.1, okP_good this.1.1.1.2, okP_good this.1.1.2, this.1.2, this.2⟩
theorem cl_app (a b : Str) : cl (a ++ b) = cl a ++ cl b := by
  simp only [cl, Str.cps_append, Array.toList_append]
theorem fold_good {f g : Int → Str} (h : ∀ n, Good (cl (seg (f n))) (cl (seg (g n)))) (pre : List Int) : ∀ s s' : Str, Good (cl s) (cl s') → Good (cl (pre.foldl (stp f) s)) (cl (pre.foldl (stp g) s')) := by
  induction pre with
  | nil => intro s s' q; exact q
  | cons n r ih =>
    intro s s' q
    rw [List.foldl_cons, List.foldl_cons]
    refine ih _ _ ?_
    have e1 : cl (stp f s n) = cl s ++ cl (seg (f n)) := cl_app _ _
    have e2 : cl (stp g s' n) = cl s' ++ cl (seg (g n)) := cl_app _ _
    rw [e1, e2]
    exact q.app (h n)
theorem fold_phi {f g : Int → Str} {k : Int → Int} (h : ∀ n, Phi (cl (seg (g n))) - Phi (cl (seg (f n))) = k n) (pre : List Int) : ∀ (s s' : Str) (a : Int), Phi (cl s') - Phi (cl s) = a →
    Phi (cl (pre.foldl (stp g) s')) - Phi (cl (pre.foldl (stp f) s)) = pre.foldl (fun a n => a + k n) a := by
  induction pre with
  | nil => intro s s' a q; exact q
  | cons n r ih =>
    intro s s' a q
    rw [List.foldl_cons, List.foldl_cons, List.foldl_cons]
    refine ih _ _ _ ?_
    have hn := h n
    have e1 : cl (stp f s n) = cl s ++ cl (seg (f n)) := cl_app _ _
    have e2 : cl (stp g s' n) = cl s' ++ cl (seg (g n)) := cl_app _ _
    rw [e1, e2, Phi_app, Phi_app]
    omega
theorem z_good : Good (cl (Str.ofString "/z")) (cl (Str.ofString "/z")) := okP_good (ks := [0, 0]) (by decide +kernel)
theorem levs (pre : List Int) : lev (wF pre) (pF pre) = sF pre ∧ lev (yF pre) (pF pre) = kkF pre ∧ lev (wF pre) (yF pre) = sF pre + kkF pre := by
  have g1 := fold_good (f := letF) (g := typF) (fun n => (segs n).1) pre _ _ z_good
  have g2 := fold_good (f := typF) (g := fun n => detF n ++ typF n) (fun n => (segs n).2.1) pre _ _ z_good
  have g3 := fold_good (f := letF) (g := fun n => detF n ++ typF n) (fun n => (segs n).2.2.1) pre _ _ z_good
  have p1 := fold_phi (f := letF) (g := typF) (k := slipF) (fun n => (segs n).2.2.2.1) pre (Str.ofString "/z") (Str.ofString "/z") 0 (by omega)
  have p2 := fold_phi (f := typF) (g := fun n => detF n ++ typF n) (k := fun n => 2 * ((detF n).length : Int)) (fun n => (segs n).2.2.2.2) pre (Str.ofString "/z") (Str.ofString "/z") 0 (by omega)
  refine ⟨?_, ?_, ?_⟩
  · exact g1.dist.trans p1
  · exact (lev_swap _ _).trans (g2.dist.trans p2)
  · refine g3.dist.trans ?_
    unfold sF kkF
    rw [← p1, ← p2]
    omega
end Mine
end

section
open PySem PySem.W PySem.Calls PyProof.Rows
namespace Mine
abbrev sl : Str := Str.ofString "/"
theorem join_app : ∀ (L M : List Str), L ≠ [] → M ≠ [] → Str.join sl (L ++ M) = Str.join sl L ++ (sl ++ Str.join sl M)
  | [], _, h, _ => absurd rfl h
  | [x], [], _, h => absurd rfl h
  | [x], m :: M, _, _ => by
    show x ++ sl ++ Str.join sl (m :: M) = x ++ (sl ++ Str.join sl (m :: M))
    rw [Str.append_assoc]
  | x :: y :: L, M, _, hM => by
    have ih := join_app (y :: L) M (by simp) hM
    show x ++ sl ++ Str.join sl (y :: L ++ M) = x ++ sl ++ Str.join sl (y :: L) ++ (sl ++ Str.join sl M)
    rw [ih]
    simp only [Str.append_assoc]
theorem sl_cl : cl sl = [47] := by decide
theorem free_split {p q u v : List Nat} (hp : 47 ∉ p) (hq : 47 ∉ q) (h : p ++ 47 :: u = q ++ 47 :: v) : p = q ∧ u = v := by
  induction p generalizing q with
  | nil =>
    cases q with
    | nil => simpa using h
    | cons b q => simp at h; exact absurd (by simp [h.1]) hq
  | cons a p ih =>
    cases q with
    | nil => simp at h; exact absurd (by simp [h.1]) hp
    | cons b q =>
      simp at h hp hq
      obtain ⟨rfl, h⟩ := h
      obtain ⟨rfl, rfl⟩ := ih hp.2 hq.2 h
      exact ⟨rfl, rfl⟩
theorem str_ext {a b : Str} (h : cl a = cl b) : a = b := by
  cases a; cases b
  simp [cl] at h
  rw [h]
theorem join_cons (x y : Str) (L : List Str) : cl (Str.join sl (x :: y :: L)) = cl x ++ 47 :: cl (Str.join sl (y :: L)) := by
  show cl (x ++ sl ++ Str.join sl (y :: L)) = _
  rw [cl_app, cl_app, sl_cl]; simp
theorem join_uniq : ∀ (P Q : List Str), P ≠ [] → Q ≠ [] → (∀ p ∈ P, 47 ∉ cl p) → (∀ p ∈ Q, 47 ∉ cl p) → cl (Str.join sl P) = cl (Str.join sl Q) → P = Q
  | [], _, h, _, _, _, _ => absurd rfl h
  | _, [], _, h, _, _, _ => absurd rfl h
  | [p], [q], _, _, _, _, h => by
    have e : p = q := str_ext h
    rw [e]
  | [p], q :: q' :: Q, _, _, hp, _, h => by
    rw [join_cons] at h
    have : 47 ∈ cl p := by show 47 ∈ cl (Str.join sl [p]); rw [h]; simp
    exact absurd this (hp p (by simp))
  | p :: p' :: P, [q], _, _, _, hq, h => by
    rw [join_cons] at h
    have : 47 ∈ cl q := by show 47 ∈ cl (Str.join sl [q]); rw [← h]; simp
    exact absurd this (hq q (by simp))
  | p :: p' :: P, q :: q' :: Q, _, _, hp, hq, h => by
    rw [join_cons, join_cons] at h
    obtain ⟨h1, h2⟩ := free_split (hp p (by simp)) (hq q (by simp)) h
    have := join_uniq (p' :: P) (q' :: Q) (by simp) (by simp) (fun x hx => hp x (by simp at hx ⊢; exact .inr hx)) (fun x hx => hq x (by simp at hx ⊢; exact .inr hx)) h2
    rw [str_ext h1, this]
theorem split_is {x : Str} {P : List Str} (hP : P ≠ []) (hf : ∀ p ∈ P, 47 ∉ cl p) (h : Str.join sl P = x) : Txt.split x sl = P := by
  have e : sl = ⟨#[47]⟩ := by decide
  refine join_uniq _ _ ?_ hP ?_ hf ?_
  · have := split_pos x sl
    intro q; rw [q] at this; simp at this
  · rw [e]; exact StrLaws.split_free x 47
  · rw [StrLaws.join_split, h]
def dparts (c : Int) : List Str := if c = 0 then [] else if c = 1 then [Str.ofString "."] else if c = 2 then [Str.ofString ".", Str.ofString ""] else [Str.ofString "7", Str.ofString ".."]
def parts (n : Int) : List Str := dparts (n.fmod 4) ++ [typF n]
def partsOk (a b c : Int) : Bool := (Str.join sl (dparts c ++ [typ3 a b]) == det3 c ++ typ3 a b) && (dparts c ++ [typ3 a b]).all (fun p => !(cl p).contains 47) && decide ((typ3 a b).length ≠ 0) && decide (typ3 a b ≠ Str.ofString ".") && decide (typ3 a b ≠ Str.ofString "..")
theorem partsOk_all : ((List.range 3).all fun a => (List.range 5).all fun b => (List.range 4).all fun c => partsOk a b c) = true := by decide +kernel
theorem parts_ok (n : Int) : Str.join sl (parts n) = detF n ++ typF n ∧ (∀ p ∈ parts n, 47 ∉ cl p) ∧ (typF n).length ≠ 0 ∧ typF n ≠ Str.ofString "." ∧ typF n ≠ Str.ofString ".." := by
  obtain ⟨a, b, c, ha, hb, hc, e1, e2, e3⟩ := kinds n
  have := by_kinds partsOk partsOk_all ha hb hc
  unfold partsOk at this
  simp only [Bool.and_eq_true, decide_eq_true_eq, List.all_eq_true, beq_iff_eq, Bool.not_eq_true', List.contains_eq_mem, decide_eq_false_iff_not] at this
  simp only [parts, letF, typF, detF, e1, e2, e3]
  exact ⟨this.1.1.1.1, this.1.1.1.2, this.1.1.2, this.1.2, this.2⟩
theorem parts_ne (n : Int) : parts n ≠ [] := by unfold parts; simp
theorem nstep_typ {acc : List Str} {t : Str} (h0 : t.length ≠ 0) (h1 : t ≠ Str.ofString ".") (h2 : t ≠ Str.ofString "..") : nstep acc t = acc ++ [t] := by
  unfold nstep
  rw [if_neg, if_pos (.inl h2)]
  rintro (h | h)
  · exact h0 h
  · exact h1 h
theorem fold_parts (n : Int) (acc : List Str) : (parts n).foldl nstep acc = acc ++ [typF n] := by
  obtain ⟨_, _, h0, h1, h2⟩ := parts_ok n
  unfold parts
  rw [List.foldl_append, List.foldl_cons, List.foldl_nil]
  have hd : (dparts (n.fmod 4)).foldl nstep acc = acc := by
    unfold dparts
    split
    · rfl
    · split
      · show nstep acc (Str.ofString ".") = acc
        unfold nstep; rw [if_pos (.inr rfl)]
      · split
        · show nstep (nstep acc (Str.ofString ".")) (Str.ofString "") = acc
          have e : nstep acc (Str.ofString ".") = acc := by unfold nstep; rw [if_pos (.inr rfl)]
          rw [e]; unfold nstep; rw [if_pos (.inl (by decide))]
        · show nstep (nstep acc (Str.ofString "7")) (Str.ofString "..") = acc
          have e : nstep acc (Str.ofString "7") = acc ++ [Str.ofString "7"] := nstep_typ (by decide) (by decide) (by decide)
          rw [e]
          unfold nstep
          rw [if_neg (by decide), if_neg, List.dropLast_concat]
          rintro (h | h)
          · exact h rfl
          · simp at h; exact absurd h (by decide)
  rw [hd]
  exact nstep_typ h0 h1 h2
def allParts (pre : List Int) : List Str := Str.ofString "z" :: pre.flatMap parts
theorem fold_all (pre : List Int) : ∀ acc : List Str, (pre.flatMap parts).foldl nstep acc = acc ++ pre.map typF := by
  induction pre with
  | nil => intro acc; simp
  | cons n r ih => intro acc; rw [List.flatMap_cons, List.foldl_append, fold_parts, ih, List.map_cons, List.append_assoc]; rfl
theorem join_fold {f : Int → Str} {g : Int → List Str} (hg : ∀ n, g n ≠ []) (hj : ∀ n, Str.join sl (g n) = f n) (pre : List Int) : ∀ L : List Str, L ≠ [] → Str.join sl (L ++ pre.flatMap g) = pre.foldl (stp f) (Str.join sl L) := by
  induction pre with
  | nil => intro L _; simp
  | cons n r ih =>
    intro L hL
    rw [List.flatMap_cons, List.foldl_cons, ← List.append_assoc, ih _ (by simp [hL]), join_app L (g n) hL (hg n), hj n]
    rfl
end Mine
end

section
open PySem PySem.W PySem.Calls PyProof.Rows
namespace Mine
theorem fold_pre (f : Int → Str) (pre : List Int) : ∀ s : Str, ∃ t, cl (pre.foldl (stp f) s) = cl s ++ t := by
  induction pre with
  | nil => intro s; exact ⟨[], by simp⟩
  | cons n r ih =>
    intro s
    rw [List.foldl_cons]
    obtain ⟨t, h⟩ := ih (stp f s n)
    have e : cl (stp f s n) = cl s ++ cl (seg (f n)) := cl_app _ _
    exact ⟨cl (seg (f n)) ++ t, by rw [h, e, List.append_assoc]⟩
theorem fold_sl (f : Int → Str) (pre : List Int) : ∀ s : Str, pre.foldl (stp f) (sl ++ s) = sl ++ pre.foldl (stp f) s := by
  induction pre with
  | nil => intro s; rfl
  | cons n r ih =>
    intro s
    rw [List.foldl_cons, List.foldl_cons]
    have e : stp f (sl ++ s) n = sl ++ stp f s n := by unfold stp; rw [Str.append_assoc]
    rw [e, ih]
def zF (pre : List Int) : Str := pre.foldl (stp fun n => detF n ++ typF n) (Str.ofString "z")
theorem slz : (Str.ofString "/z") = sl ++ Str.ofString "z" := by decide
theorem yz (pre : List Int) : yF pre = sl ++ zF pre := by unfold yF zF; rw [slz, fold_sl]
theorem y_cl (pre : List Int) : ∃ t, cl (yF pre) = 47 :: 122 :: t := by
  obtain ⟨t, h⟩ := fold_pre (fun n => detF n ++ typF n) pre (Str.ofString "/z")
  refine ⟨t, h.trans ?_⟩
  have : cl (Str.ofString "/z") = [47, 122] := by decide
  rw [this]; rfl
theorem y_len (pre : List Int) : 2 ≤ (yF pre).length := by
  obtain ⟨t, h⟩ := y_cl pre
  rw [← cl_len, h]; simp
theorem y_slice1 (pre : List Int) : Txt.slice (yF pre) none (some 1) = sl := by
  obtain ⟨t, h⟩ := y_cl pre
  have hl := y_len pre
  refine str_ext ?_
  rw [slice_upto (by decide) (by omega), h, sl_cl]; rfl
theorem y_slice2 (pre : List Int) : Txt.slice (yF pre) (some 1) (some 2) ≠ sl := by
  obtain ⟨t, h⟩ := y_cl pre
  have hl := y_len pre
  intro e
  have q := eq_of_beq (slice_closesL (x := yF pre) (i := 1) (j := 2) (by decide) (by decide) (by omega))
  rw [q] at e
  have e2 := congrArg cl e
  rw [sl_cl] at e2
  have e3 : (List.take (2 - 1 : Int).toNat (List.drop (1 : Int).toNat (yF pre).cps.toList)) = [47] := e2
  have h' : (yF pre).cps.toList = 47 :: 122 :: t := h
  rw [h'] at e3
  simp at e3
theorem y_rest (pre : List Int) : Txt.slice (yF pre) (some 1) none = zF pre := by
  have hl := y_len pre
  refine str_ext ?_
  rw [slice_from (by decide) (by omega), yz, cl_app, sl_cl]; rfl
theorem z_split (pre : List Int) : Txt.split (zF pre) sl = [Str.ofString "z"] ++ pre.flatMap parts := by
  refine split_is (by simp) ?_ ?_
  · intro p hp
    rcases List.mem_append.mp hp with h | h
    · simp at h; subst h; decide
    · obtain ⟨n, _, hn⟩ := List.mem_flatMap.mp h
      exact (parts_ok n).2.1 p hn
  · exact join_fold parts_ne (fun n => (parts_ok n).1) pre [Str.ofString "z"] (by simp)
theorem norm_y (pre : List Int) : normF (yF pre) = pF pre := by
  unfold normF
  rw [y_rest]
  have e : Txt.split (zF pre) (Str.ofString "/") = [Str.ofString "z"] ++ pre.flatMap parts := z_split pre
  rw [e, List.foldl_append]
  have e1 : [Str.ofString "z"].foldl nstep [] = [Str.ofString "z"] := by
    show nstep [] (Str.ofString "z") = _
    exact nstep_typ (by decide) (by decide) (by decide)
  rw [e1, fold_all]
  have e2 : pre.map typF = pre.flatMap (fun n => [typF n]) := by
    induction pre with
    | nil => rfl
    | cons n r ih => rw [List.map_cons, List.flatMap_cons, ih (z_split r)]; rfl
  rw [e2]
  have e3 := join_fold (f := typF) (g := fun n => [typF n]) (fun n => by simp) (fun n => rfl) pre [Str.ofString "z"] (by simp)
  show sl ++ Str.join sl _ = _
  rw [e3]
  unfold pF
  rw [slz, fold_sl]
  rfl
theorem law_end {pre : List Int} {wanted path way : Str} {slips struck : Int} (h : LW pre wanted path way slips struck) (hp : pre.length ≤ 3) :
    (way.length ≤ 40 ∧ wanted.length ≤ 40 ∧ path.length ≤ 40) ∧ (Txt.slice way none (some 1) = Str.ofString "/" ∧ Txt.slice way (some 1) (some 2) ≠ Str.ofString "/") ∧ normF way = path ∧ lev wanted path = slips ∧ lev way path = struck ∧ lev wanted way = slips + struck := by
  have hf := turn_facts h hp 0
  obtain ⟨rfl, rfl, rfl, rfl, rfl⟩ := h
  have hl := levs pre
  exact ⟨⟨hf.2.2.2, hf.2.1, hf.2.2.1⟩, ⟨y_slice1 pre, y_slice2 pre⟩, norm_y pre, hl.1, hl.2.1, hl.2.2⟩
end Mine
end

section
open PySem PySem.W PyProof.Rows
theorem Mine.offL1 : True := by
  w_top off
  trivial
open PySem PySem.W PyProof.Rows
namespace Mine
local macro_rules | `(tactic| walk_at "subscriptTail BinOp ListComp Add List Slice ref ref") => `(tactic| (k_here; k_dflt (refine kba_turn (value' := PySem.Expr.Name (PySem.Str.ofString "_") ⟨0, 0, 0, 0⟩) (fun _ => rfl) ?_)))
local macro_rules | `(tactic| walk_at "exec For Name Subscript") => `(tactic| (k_here; (rename Fr _ _ _ _ => lF'); (with_unfolding_all refine' For_invVF lF' ?k1 ?k2 ?_; (case k1 => exact rfl); (case k2 => exact rfl); k_whole)))
local macro_rules | `(tactic| walk_at "subscriptTail List cons Name ref int") => `(tactic| ((rename News _ _ _ _ => N'); with_unfolding_all refine pick4_st N' (List.Mem.head _) (fm_b _ 4 (by decide)).1 (fm_b _ 4 (by decide)).2 ?_; intro _))
local macro_rules | `(tactic| walk_at "subscriptTail List cons BinOp Name Mod Constant ref int") => `(tactic| ((rename News _ _ _ _ => N'); with_unfolding_all refine pick5_st N' (List.Mem.head _) (fm_b _ 5 (by decide)).1 (fm_b _ 5 (by decide)).2 ?_; intro _))
local macro_rules | `(tactic| walk_at "subscriptTail List cons BinOp Name Mod Constant ref int") => `(tactic| ((rename News _ _ _ _ => N'); with_unfolding_all refine pick5i_st N' (List.Mem.head _) (fm_b _ 5 (by decide)).1 (fm_b _ 5 (by decide)).2 ?_; intro _))
local macro_rules | `(tactic| walk_at "subscriptTail List cons BinOp ref int") => `(tactic| ((rename News _ _ _ _ => N'); with_unfolding_all refine pick5_st N' (List.Mem.head _) (fm_b _ 5 (by decide)).1 (fm_b _ 5 (by decide)).2 ?_; intro _))
local macro_rules | `(tactic| walk_at "subscriptTail List cons BinOp ref int") => `(tactic| ((rename News _ _ _ _ => N'); with_unfolding_all refine pick5i_st N' (List.Mem.head _) (fm_b _ 5 (by decide)).1 (fm_b _ 5 (by decide)).2 ?_; intro _))
local macro_rules | `(tactic| walk_at "call ref") => `(tactic| (k_here; (with_reducible show wpAny _ _ (call (Value.ref 115) [Value.str _ _, Value.str _ _]) _ _ _); k_dflt (refine' c_join ?k1 ?k2 ?k3 ?k4 ?k5 ?kK ?kp ?kd ?ku ?_; (case k1 => k_asm); (case k2 => k_asm); (case k3 => k_asm); (case k4 => k_asm); (case k5 => k_asm); (case kK => first | exact rfl | assumption); (case kp => assumption); (case kd => first | ktr_room | decide); (case ku => first | ktr_units | decide)); intro t9 h9 tk9 F9 N9; (try dsimp only); (try k_fold)))
set_option maxHeartbeats 8000000 in
theorem law_holds : PySem.Challenge.rw_pd0078_01.Holds := hd (by
  k_go0
  (all_goals try k_fold)
  iterate 70 (first | ((with_reducible show wpAny _ _ (pyIter _) _ _ _)) | (k_unfold; (try dsimp only)) | walk1)
  dsimp only
  k_with "state" => exact LW.start
  k_state (fun pre wanted path way slips struck => LW pre wanted path way slips struck) "wanted" "path" "way" "slips" "struck"
  · rename_i wanted twanted path tpath way tway slips tslips struck tstruck _ _ _ _ _ _
    have hlens := lens_ok kN
    have hpre : kPre.length ≤ 3 := pre_le kEq
    obtain ⟨hjoin, hwl0, hpl, hwl1⟩ := turn_facts kInv hpre kN
    have hwl : way.length ≤ 100 := hjoin.1
    dsimp only [detF, typF, letF, kF] at hlens hjoin
    obtain ⟨hl1, hl2, hl3, hl4, hl5⟩ := hlens
    iterate 200 (first | ((with_reducible show wpAny _ _ (call (Value.ref 115) _) _ _ _)) | (k_unfold; (try dsimp only)) | walk1)
    k_here
    refine' c_join ?k1 ?k2 ?k3 ?k4 ?k5 ?kK ?kp ?kd ?ku ?_
    case k1 => k_asm
    case k2 => k_asm
    case k3 => k_asm
    case k4 => k_asm
    case k5 => k_asm
    case kK => first | exact rfl | assumption
    case kp => assumption
    case kd => decide
    case ku => decide
    intro t9 h9 tk9 F9 N9
    dsimp only
    iterate 4 (first | (k_unfold; (try dsimp only)) | walk1)
    (try dsimp only [InvPostN])
    k_with "state" => exact LW.turn kInv
    kst_close
  · rename_i wanted twanted path tpath way tway slips tslips struck tstruck _ _ _ _ _
    have hE := law_end kInv (List.length_take_le 3 _)
    obtain ⟨⟨hl1, hl2, hl3⟩, hs, hn, he1, he2, he3⟩ := hE
    have hnp : way.length ≤ 100 ∧ Txt.slice way none (some 1) = Str.ofString "/" ∧ Txt.slice way (some 1) (some 2) ≠ Str.ofString "/" := ⟨by omega, hs⟩
    have hp1 : wanted.length ≤ 40 ∧ path.length ≤ 40 ∧ (99 : Int) ≤ 99 := ⟨hl2, hl3, by decide⟩
    have hp2 : way.length ≤ 40 ∧ path.length ≤ 40 ∧ (99 : Int) ≤ 99 := ⟨hl1, hl3, by decide⟩
    have hp3 : wanted.length ≤ 40 ∧ way.length ≤ 40 ∧ (99 : Int) ≤ 99 := ⟨hl2, hl1, by decide⟩
    iterate 30 (first | ((with_reducible show wpAny _ _ (call (Value.ref 129) _) _ _ _)) | (k_unfold; (try dsimp only)) | walk1)
    k_here
    refine' c_norm ?k1 ?k2 ?k3 ?k4 ?k5 ?kK ?kp ?kd ?ku ?_
    case k1 => k_asm
    case k2 => k_asm
    case k3 => k_asm
    case k4 => k_asm
    case k5 => k_asm
    case kK => first | exact rfl | assumption
    case kp => assumption
    case kd => decide
    case ku => decide
    intro t9 h9 tk9 F9 N9
    dsimp only
    rw [hn]
    iterate 12 (first | ((with_reducible show (ite _ _ _ : Prop))) | (k_unfold; (try dsimp only)) | walk1)
    refine PySem.W.ite_neg (by simp) ?_
    iterate 30 (first | ((with_reducible show wpAny _ _ (call (Value.ref 143) _) _ _ _)) | (k_unfold; (try dsimp only)) | walk1)
    k_here
    refine' c_lev ?k1 ?k2 ?k3 ?k4 ?k5 ?kK ?kp ?kd ?ku ?_
    case k1 => k_asm
    case k2 => k_asm
    case k3 => k_asm
    case k4 => k_asm
    case k5 => k_asm
    case kK => first | exact rfl | assumption
    case kp => assumption
    case kd => decide
    case ku => decide
    intro t9 h9 tk9 F9 N9
    dsimp only
    rw [he1]
    iterate 12 (first | ((with_reducible show (ite _ _ _ : Prop))) | (k_unfold; (try dsimp only)) | walk1)
    refine PySem.W.ite_neg (by simp) ?_
    iterate 30 (first | ((with_reducible show wpAny _ _ (call (Value.ref 143) _) _ _ _)) | (k_unfold; (try dsimp only)) | walk1)
    k_here
    refine' c_lev ?k1 ?k2 ?k3 ?k4 ?k5 ?kK ?kp ?kd ?ku ?_
    case k1 => k_asm
    case k2 => k_asm
    case k3 => k_asm
    case k4 => k_asm
    case k5 => k_asm
    case kK => first | exact rfl | assumption
    case kp => assumption
    case kd => decide
    case ku => decide
    intro t9 h9 tk9 F9 N9
    dsimp only
    rw [he2]
    iterate 12 (first | ((with_reducible show (ite _ _ _ : Prop))) | (k_unfold; (try dsimp only)) | walk1)
    refine PySem.W.ite_neg (by simp) ?_
    iterate 30 (first | ((with_reducible show wpAny _ _ (call (Value.ref 143) _) _ _ _)) | (k_unfold; (try dsimp only)) | walk1)
    k_here
    refine' c_lev ?k1 ?k2 ?k3 ?k4 ?k5 ?kK ?kp ?kd ?ku ?_
    case k1 => k_asm
    case k2 => k_asm
    case k3 => k_asm
    case k4 => k_asm
    case k5 => k_asm
    case kK => first | exact rfl | assumption
    case kp => assumption
    case kd => decide
    case ku => decide
    intro t9 h9 tk9 F9 N9
    dsimp only
    rw [he3]
    k_steps)
end Mine
end

open PySem PySem.W PyProof.Rows
theorem PySem.Challenge.cw_pd0078_01_holds : PySem.Challenge.rw_pd0078_01.Holds :=
  Mine.law_holds
