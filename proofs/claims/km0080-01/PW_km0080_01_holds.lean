import PyProof.Rows.All
import Wide.All
import OpenK.AllK
import Wide.FinOn
import PySem.Challenge.RW_km0080_01
open PySem PySem.W PySem.Spec PySem.Calls PyProof.Rows
set_option Elab.async false
set_option maxRecDepth 100000
namespace Mine
/-- what a call of the def at f is shown to do: from any caller's frame, k frames of room given, it comes back by Ret -/
abbrev Con (prog : Program) (w : World) (K : Frag) (p : Program) (loose : List PySem.Str) (mean : ExcName → Option Value) (mg mb : PySem.Str → Option Value) (f : Addr) (k : Nat) (news : List (Addr × Obj)) (vs : List Value)
    (Ret : Heap → Addr → (PySem.Str → Option Value) → Shared → (Value → Shared → Prop) → Prop) : Prop :=
  ∀ (dp un : Nat) (gd : Option (List Code)) (cn : PySem.Str) (cs : Scope) (a : Addr) (ccd : Value) (cl : List (PySem.Str × Addr)) (outer : List Env) (A₀ : Around) (base h₀ : Heap) (L : Addr) (m : PySem.Str → Option Value) (s : Shared) (Q E : Value → Shared → Prop),
    Below A₀ base outer h₀ → Fr h₀ L s.heap m → K.In h₀ → News h₀ L s.heap news → Top p loose mean mg mb h₀ → cs.kind = .function →
    dp + k < recursionLimit → un + 8 * k + 100 < cLine → Ret h₀ L m s Q →
      wpAny (model prog w) (ktrTop dp un gd cn cs L a ccd cl outer) (call (.ref f) vs) Q E s

/-- it comes back with the value R, nothing kept -/
abbrev RetS (news : List (Addr × Obj)) (R : Tok → Value) (h₀ : Heap) (L : Addr) (m : PySem.Str → Option Value) (s : Shared) (Q : Value → Shared → Prop) : Prop :=
  ∀ (t : Tok) (h' : Heap) (tk' : Nat), Fr h₀ L h' m → News h₀ L h' news → Q (R t) { s with heap := h', toks := tk' }

theorem con_use {prog : Program} {w : World} {K : Frag} {p : Program} {loose : List PySem.Str} {mean : ExcName → Option Value} {mg mb : PySem.Str → Option Value} {f : Addr} {k : Nat} {news : List (Addr × Obj)} {vs : List Value}
    {Ret : Heap → Addr → (PySem.Str → Option Value) → Shared → (Value → Shared → Prop) → Prop}
    {dp un : Nat} {gd : Option (List Code)} {cn : PySem.Str} {cs : Scope} {a : Addr} {ccd : Value} {cl : List (PySem.Str × Addr)} {outer : List Env} {A₀ : Around} {base h₀ : Heap} {L : Addr} {m : PySem.Str → Option Value} {s : Shared} {Q E : Value → Shared → Prop}
    (C : Con prog w K p loose mean mg mb f k news vs Ret) (B : Below A₀ base outer h₀) (F : Fr h₀ L s.heap m) (X : K.In h₀) (N : News h₀ L s.heap news) (T : Top p loose mean mg mb h₀) (hk : cs.kind = .function) (hd : dp + k < recursionLimit) (hu : un + 8 * k + 100 < cLine)
    (hret : Ret h₀ L m s Q) : wpAny (model prog w) (ktrTop dp un gd cn cs L a ccd cl outer) (call (.ref f) vs) Q E s :=
  C _ _ _ _ _ _ _ _ _ _ _ _ _ _ _ _ _ B F X N T hk hd hu hret

/-- it comes back with a list of the ints ns -/
abbrev RetL (news : List (Addr × Obj)) (ns : List Int) (h₀ : Heap) (L : Addr) (m : PySem.Str → Option Value) (s : Shared) (Q : Value → Shared → Prop) : Prop :=
  ∀ (D : Addr) (vs : List Value) (c : Nat) (h' : Heap) (tk' : Nat), Fr h₀ L h' m → News h₀ L h' ((D, listOf vs.toArray c) :: news) → (∀ p ∈ news, p.1 < D) → IntsAre vs ns → Q (.ref D) { s with heap := h', toks := tk' }

/-- it comes back with a pair of ints of which P holds -/
abbrev RetP (news : List (Addr × Obj)) (P : Int → Int → Prop) (h₀ : Heap) (L : Addr) (m : PySem.Str → Option Value) (s : Shared) (Q : Value → Shared → Prop) : Prop :=
  ∀ (D : Addr) (a b : Int) (t u : Tok) (c : Nat) (h' : Heap) (tk' : Nat), Fr h₀ L h' m → News h₀ L h' ((D, ({ cls := .type "tuple", data := .seq #[.int a t, .int b u] c } : Obj)) :: news) → (∀ p ∈ news, p.1 < D) → P a b → Q (.ref D) { s with heap := h', toks := tk' }

theorem ints_app {us ws : List Value} {rs ks : List Int} (h : IntsAre us rs) (h' : IntsAre ws ks) : IntsAre (us ++ ws) (rs ++ ks) := by
  induction h with
  | nil => exact h'
  | cons n t _ ih => exact .cons n t ih

theorem my_extend {prog : Program} {w : World} {A : Around} {E : Value → Shared → Prop} {s : Shared} {h₀ : Heap} {L D b : Addr} {m : PySem.Str → Option Value} {news news' : List (Addr × Obj)} {us ws : List Value} {n n2 : Nat} {Q : Value → Shared → Prop}
    (F : Fr h₀ L s.heap m) (N : News h₀ L s.heap news) (hb : (b, listOf ws.toArray n2) ∈ news) (hne : ws.length ≠ 0) (U : Upd D (listOf us.toArray n) (listOf (us ++ ws).toArray (n + 1)) news news') (hz : us.length + ws.length ≤ sizeLine)
    (h : ∀ h', Fr h₀ L h' m → News h₀ L h' news' → Q .none { s with heap := h' }) : wpAny (model prog w) A (call (.builtin "list.extend") [.ref D, .ref b]) Q E s :=
  kl_extend F N hb rfl hne U (extend_door (by simpa using hz)) (by simp; omega) (by simp; omega) h

section

variable {prog : Program} {w : World} {A : Around} {E : Value → Shared → Prop} {s : Shared} {env : Env} {h₀ : Heap} {x : PySem.Str} {body : List Stmt} {Q : Flow → Shared → Prop}

/-- a loop over a made tuple of ints: the tuple leaves the ledger -/
theorem lp_tup {σ : Type} {D : Addr} {vs : List Value} {ns : List Int} {nn : Nat} {m₀ : PySem.Str → Option Value} (Led : σ → List (Addr × Obj)) (ps : σ → List (PySem.Str × Value)) (Facts : σ → Prop) (stored : List PySem.Str) (P : List Int → σ → Prop) (c₀ : σ)
    (hh : A.handled = none) (hi : IntsAre vs ns) (F : Fr h₀ env.locals s.heap m₀) (N : News h₀ env.locals s.heap ((D, ({ cls := .type "tuple", data := .seq vs.toArray nn } : Obj)) :: Led c₀)) (hD : ∀ q ∈ Led c₀, q.1 ≠ D) (hf : Facts c₀) (hk : ∀ p ∈ ps c₀, m₀ p.1 = some p.2) (hp : P [] c₀)
    (turn : ∀ (c : σ) pre n t (u : PySem.Str → Option Value) h tk own, n ∈ ns → OwnOff own ((Led c₀).map (·.1)) → Facts c → P pre c →
      Fr h₀ env.locals h (fun y => if y = x then some (.int n t) else kstB (fun z => if stored.contains z then u z else m₀ z) (ps c) y) → News h₀ env.locals h (Led c ++ own) →
      wpAny (model prog w) A (execs body env) (InvPostN h₀ env.locals (KstS Led ps Facts x stored m₀ P (pre ++ [n])) own ((Led c₀).map (·.1)) { s with heap := h, toks := tk } Q) E { s with heap := h, toks := tk })
    (done : ∀ (c : σ) (u : PySem.Str → Option Value) h tk, Facts c → P ns c → Fr h₀ env.locals h (fun y => if y = x then u y else kstB (fun z => if stored.contains z then u z else m₀ z) (ps c) y) → News h₀ env.locals h (Led c) → Q .next { s with heap := h, toks := tk }) :
    wpAny (model prog w) A (pyIter (.ref D)) (fun it s₂ => LoopAtV prog w A h₀ env x body Q E it s₂) E s := by
  have hD0 := N _ (List.mem_cons_self)
  have ht : s.heap.IsTuple D vs.toArray := ⟨_, hD0.1, rfl, nn, rfl⟩
  have hne : D ≠ s.heap.objs.size := Nat.ne_of_lt (Heap.lt_size hD0.1)
  have N' : News h₀ env.locals s.heap (Led c₀) := fun p hp => N p (List.mem_cons_of_mem _ hp)
  have hlen : vs.toArray.size = ns.length := by simp [hi.length]
  refine wpAny_pyIter_tuple ht ?_
  refine loop_invN (fun i m nx => KstS Led ps Facts x stored m₀ P (ns.take i) m nx) (Walks.tuple (prog := prog) (w := w) hh s.heap.objs.size D hne vs.toArray) ?_ ?_ ?_ ?_
    ⟨⟨_, Heap.get?_push_size _ rfl, rfl, rfl⟩, ht.at fun o e => Heap.get?_push_of_some _ e⟩ (F.push _) (fun p hp => ⟨Heap.get?_push_of_some _ (N' p hp).1, (N' p hp).2⟩) ⟨c₀, rfl, hf, hk, fun _ _ _ _ => rfl, by simpa using hp⟩ ?_ ?_
  · intro hm
    rcases List.mem_cons.mp hm with e | hm
    · exact absurd F.ns.lt (e ▸ Nat.lt_irrefl _)
    · exact hD0.2.1 (List.mem_singleton.mp hm).symm
  · intro b hb
    rw [List.mem_singleton.mp hb]
    exact next_is_new F
  · intro p hp hI
    exact absurd (Heap.lt_size (N' p hp).1) ((List.mem_singleton.mp hI) ▸ Nat.lt_irrefl _)
  · intro q hq hI
    rcases List.mem_cons.mp hI with e | hm
    · exact absurd (Heap.lt_size (N' q hq).1) (e ▸ Nat.lt_irrefl _)
    · exact hD q hq (List.mem_singleton.mp hm)
  · rintro i v m₁ nx h tk own hin hP _ hoff ⟨c, rfl, hf', h1, h2, hp'⟩ F₁ N₁
    rw [hlen] at hin
    obtain ⟨t, hx⟩ := hi.get i ns[i] (List.getElem?_eq_getElem hin)
    have hv : v = .int ns[i] t := by
      have hP' : vs[i]? = some v := by rw [← hP]; exact (List.getElem?_toArray ..).symm
      rw [hx] at hP'; exact (Option.some.inj hP').symm
    subst hv
    have hs : ns.take (i + 1) = ns.take i ++ [ns[i]] := by rw [List.take_add_one, List.getElem?_eq_getElem hin]; rfl
    rw [hs]
    exact turn c _ _ t m₁ h tk own (List.getElem_mem hin) hoff hf' hp' (kst_fr h1 h2 F₁) N₁
  · rintro m₁ nx h tk ⟨c, rfl, hf', h1, h2, hp'⟩ F₁ N₁
    rw [hlen, List.take_length] at hp'
    exact done c m₁ h tk hf' hp' (kst_frOut h1 h2 F₁) N₁

end

set_option maxRecDepth 100000 in
set_option maxHeartbeats 8000000 in
open_top hd_01 for PySem.Challenge.rw_km0080_01

section

variable {prog : Program} {w : World} {A : Around} {E : Value → Shared → Prop} {s : Shared} {h₀ : Heap} {L D b : Addr} {m : PySem.Str → Option Value} {led keep : List (Addr × Obj)} {us vs : List Value} {n n2 : Nat} {x : Value} {Q : Value → Shared → Prop}

/-- append: what is kept of the ledger is said, the list stands ahead of it -/
theorem append_keep (F : Fr h₀ L s.heap m) (N : News h₀ L s.heap led) (hm : (D, listOf us.toArray n) ∈ led) (hs : ∀ p ∈ keep, p ∈ led) (hne : ∀ p ∈ keep, p.1 ≠ D) (hz : us.length ≤ sizeLine)
    (h : ∀ h', Fr h₀ L h' m → News h₀ L h' ((D, listOf (us ++ [x]).toArray (n + 1)) :: keep) → Q .none { s with heap := h' }) : wpAny (model prog w) A (call (.builtin "list.append") [.ref D, x]) Q E s := by
  have z := N _ hm
  refine append_at (hsz := by simpa using hz) z.1 fun h' hs' ho' => h h' (F.change hs' z.2.1 z.2.2) fun p hp => ?_
  rcases List.mem_cons.mp hp with rfl | hp
  · exact ⟨by simpa using ho', z.2⟩
  · have q := N p (hs p hp)
    exact ⟨(hs'.2 p.1 (hne p hp)).trans q.1, q.2⟩

theorem extend_keep (F : Fr h₀ L s.heap m) (N : News h₀ L s.heap led) (hm : (D, listOf us.toArray n) ∈ led) (hb : (b, listOf vs.toArray n2) ∈ led) (hs : ∀ p ∈ keep, p ∈ led) (hne : ∀ p ∈ keep, p.1 ≠ D) (hz : us.length + vs.length ≤ sizeLine)
    (h : ∀ h' n', Fr h₀ L h' m → News h₀ L h' ((D, listOf (us ++ vs).toArray n') :: keep) → Q .none { s with heap := h' }) : wpAny (model prog w) A (call (.builtin "list.extend") [.ref D, .ref b]) Q E s := by
  refine extend_in (own := []) (rest := keep) (ys := us) (n := n) (its2 := vs.toArray) (n2 := n2) F (fun p hp => ?_) (fun _ h => nomatch h) hne (N _ hb).1 (fun h' n' F' N' => ?_) (by simpa using hz)
  · rcases List.mem_cons.mp hp with rfl | hp
    · exact N _ hm
    · exact N p (hs p hp)
  · exact h h' n' F' (by simpa using N')

end

/-! octets -/

def le : Int → Nat → List Int
  | _, 0 => []
  | n, k + 1 => n.fmod 256 :: le (n.fdiv 256) k

def it : Nat → Int → Int
  | 0, n => n
  | k + 1, n => (it k n).fdiv 256

def lay (n : Int) (w : Nat) : List Int := (le n w).reverse

def num (l : List Int) : Int := l.foldl (fun a x => a * 256 + x) 0

def Octs (l : List Int) : Prop := ∀ x ∈ l, 0 ≤ x ∧ x < 256

theorem q256 (n : Int) : n.fdiv 256 * 256 + n.fmod 256 = n ∧ 0 ≤ n.fmod 256 ∧ n.fmod 256 < 256 := by
  have f := fdiv_fmod_facts n 256
  exact ⟨f.1, f.2.2.1 (by decide)⟩

theorem it_succ : ∀ (k : Nat) (n : Int), it (k + 1) n = it k (n.fdiv 256)
  | 0, _ => rfl
  | k + 1, n => by
    show (it (k + 1) n).fdiv 256 = (it k (n.fdiv 256)).fdiv 256
    rw [it_succ k n]

theorem le_snoc : ∀ (k : Nat) (n : Int), le n (k + 1) = le n k ++ [(it k n).fmod 256]
  | 0, _ => rfl
  | k + 1, n => by
    show n.fmod 256 :: le (n.fdiv 256) (k + 1) = n.fmod 256 :: le (n.fdiv 256) k ++ _
    rw [le_snoc k, it_succ]
    rfl

theorem le_len : ∀ (k : Nat) (n : Int), (le n k).length = k
  | 0, _ => rfl
  | k + 1, n => by rw [le, List.length_cons, le_len k]

theorem lay_len (n : Int) (k : Nat) : (lay n k).length = k := by rw [lay, List.length_reverse, le_len]

theorem le_octs : ∀ (k : Nat) (n : Int), Octs (le n k)
  | 0, _ => fun _ h => nomatch h
  | k + 1, n => fun x hx => by
    rcases List.mem_cons.mp hx with rfl | hx
    · exact (q256 n).2
    · exact le_octs k _ x hx

theorem lay_octs (n : Int) (k : Nat) : Octs (lay n k) := fun x hx => le_octs k n x (List.mem_reverse.mp hx)

theorem lay_succ (n : Int) (k : Nat) : lay n (k + 1) = lay (n.fdiv 256) k ++ [n.fmod 256] := by
  rw [lay, le, List.reverse_cons]; rfl

theorem num_snoc (l : List Int) (x : Int) : num (l ++ [x]) = num l * 256 + x := by
  rw [num, List.foldl_append]; rfl

theorem num_lay : ∀ (k : Nat) (n : Int), 0 ≤ n → n < 256 ^ k → num (lay n k) = n
  | 0, n, h, h' => by
    rw [Int.pow_zero] at h'
    show (0 : Int) = n
    omega
  | k + 1, n, h, h' => by
    have q := q256 n
    rw [Int.pow_succ] at h'
    generalize hp : (256 : Int) ^ k = p at h'
    rw [lay_succ, num_snoc, num_lay k _ (by omega) (by rw [hp]; omega)]
    exact q.1

theorem num_zero : ∀ l : List Int, (∀ x ∈ l, x = 0) → num l = 0 := by
  have gen : ∀ (l : List Int) (a : Int), a = 0 → (∀ x ∈ l, x = 0) → l.foldl (fun a x => a * 256 + x) a = 0 := by
    intro l
    induction l with
    | nil => exact fun a h _ => h
    | cons y r ih =>
      intro a h hl
      rw [List.foldl_cons]
      refine ih _ ?_ fun x hx => hl x (List.mem_cons_of_mem _ hx)
      rw [h, hl y List.mem_cons_self]; rfl
  exact fun l h => gen l 0 rfl h

theorem num_bound {l : List Int} (h : Octs l) : 0 ≤ num l ∧ num l < 256 ^ l.length := by
  have gen : ∀ r : List Int, Octs r.reverse → 0 ≤ num r.reverse ∧ num r.reverse < 256 ^ r.length := by
    intro r
    induction r with
    | nil => exact fun _ => ⟨by decide, by decide⟩
    | cons y r ih =>
      intro ho
      rw [List.reverse_cons] at ho ⊢
      have i := ih fun x hx => ho x (List.mem_append.mpr (.inl hx))
      have hy := ho y (List.mem_append.mpr (.inr List.mem_cons_self))
      rw [num_snoc, List.length_cons, Int.pow_succ]
      omega
  have g := gen l.reverse (by rw [List.reverse_reverse]; exact h)
  rw [List.reverse_reverse, List.length_reverse] at g
  exact g

/-- the upper octets are those of the upper part -/
theorem take_lay (a : Nat) : ∀ (b : Nat) (n : Int), (lay n (a + b)).take a = lay (it b n) a
  | 0, n => by rw [Nat.add_zero, List.take_of_length_le (by rw [lay_len]; exact Nat.le_refl _)]; rfl
  | b + 1, n => by
    rw [← Nat.add_assoc, lay_succ, List.take_append_of_le_length (by rw [lay_len]; omega), take_lay a b, it_succ]

theorem it_ge : ∀ (k : Nat) (n c : Int), 0 ≤ c → c * 256 ^ k ≤ n → c ≤ it k n
  | 0, n, c, _, h => by rw [Int.pow_zero, Int.mul_one] at h; exact h
  | k + 1, n, c, h0, h => by
    rw [it_succ]
    refine it_ge k _ c h0 ?_
    have q := q256 n
    rw [Int.pow_succ, ← Int.mul_assoc] at h
    generalize c * 256 ^ k = p at h
    omega

theorem it_lt : ∀ (k : Nat) (n c : Int), n < c * 256 ^ k → it k n < c
  | 0, n, c, h => by rw [Int.pow_zero, Int.mul_one] at h; exact h
  | k + 1, n, c, h => by
    rw [it_succ]
    refine it_lt k _ c ?_
    have q := q256 n
    rw [Int.pow_succ, ← Int.mul_assoc] at h
    generalize c * 256 ^ k = p at h
    omega

theorem upper_some (a b : Nat) (n : Int) (h : 256 ^ b ≤ n) (h' : n < 256 ^ (a + b)) : ((lay n (a + b)).take a).any (fun x => x != 0) = true := by
  rw [take_lay]
  by_cases g : ((lay (it b n) a).any fun x => x != 0) = true
  · exact g
  · exfalso
    have z : ∀ x ∈ lay (it b n) a, x = 0 := fun x hx => by
      by_cases e : x = 0
      · exact e
      · exact absurd (List.any_eq_true.mpr ⟨x, hx, by simpa using e⟩) g
    have h1 : 1 ≤ it b n := it_ge b n 1 (by decide) (by rw [Int.one_mul]; exact h)
    have h2 : it b n < 256 ^ a := it_lt b n _ (by rw [← Int.pow_add]; exact h')
    have e := num_lay a (it b n) (by omega) h2
    rw [num_zero _ z] at e
    omega

section

variable {prog : Program} {w : World} {A : Around} {E : Value → Shared → Prop} {s : Shared} {h₀ : Heap} {L l : Addr} {m : PySem.Str → Option Value} {news : List (Addr × Obj)} {vs : List Value}

theorem any_nums {ns : List Int} {Q : Value → Shared → Prop} (F : Fr h₀ L s.heap m) (N : News h₀ L s.heap news) (hh : A.handled = none) (hl : s.heap.IsList l vs.toArray) (hi : IntsAre vs ns) (ha : (ns.any fun x => x != 0) = true)
    (h : ∀ h' tk, Fr h₀ L h' m → News h₀ L h' news → Q (.bool true) { s with heap := h', toks := tk }) : wpAny (model prog w) A (call (.builtin "any") [.ref l]) Q E s := by
  have hlt : l < s.heap.objs.size := by obtain ⟨_, e, _⟩ := hl; exact Heap.lt_size e
  refine call_any_walk (wpAny_pyIter_list hl ?_)
  refine ⟨s.heap.objs.size, [s.heap.objs.size, l], [s.heap.objs.size], vs.toArray.size, _, _, fun i => (ns[i]?).getD 0 != 0, rfl, Walks.list (A := A.in1) hh _ l (Nat.ne_of_lt hlt) vs.toArray,
    ⟨⟨_, Heap.get?_push_size _ rfl, rfl, rfl⟩, hl.push _⟩, fun i v s' Q' E' hP hQ => ?_, fun h' tk hk => ?_⟩
  · have hv : vs[i]? = some v := by rw [← hP]; exact (List.getElem?_toArray ..).symm
    have hlt' : i < vs.length := by
      by_cases g : i < vs.length
      · exact g
      · rw [List.getElem?_eq_none (by omega)] at hv; cases hv
    have hlt2 : i < ns.length := by rw [← hi.length]; exact hlt'
    obtain ⟨t, hx⟩ := hi.get i ns[i] (List.getElem?_eq_getElem hlt2)
    rw [hx] at hv
    cases hv
    simp only [List.getElem?_eq_getElem hlt2, Option.getD_some] at hQ
    exact PyProof.Rows.truthy_int hQ
  · have e : ((List.range vs.toArray.size).any fun i => (ns[i]?).getD 0 != 0) = true := by
      obtain ⟨x, hx, hne⟩ := List.any_eq_true.mp ha
      obtain ⟨i, hi', rfl⟩ := List.mem_iff_getElem.mp hx
      refine List.any_eq_true.mpr ⟨i, List.mem_range.mpr (by rw [List.size_toArray, hi.length]; exact hi'), ?_⟩
      simp only [List.getElem?_eq_getElem hi', Option.getD_some]
      exact hne
    rw [e]
    exact h h' tk (F.keeps (LSm.kept_iter hk)) (N.grown (LSm.kept_iter hk))

end

def sz (n : Int) : Int := if n < 256 then 1 else if n < 65536 then 2 else if n < 4294967296 then 4 else 8

theorem sz_in (n : Int) : sz n = 1 ∨ sz n = 2 ∨ sz n = 4 ∨ sz n = 8 := by
  unfold sz
  split
  · omega
  · split
    · omega
    · split <;> omega

set_option maxHeartbeats 8000000 in
theorem size_con (w : World) (mean : ExcName → Option Value) (mg mb : PySem.Str → Option Value) (news : List (Addr × Obj)) (n : Int) (t : Tok) :
    Con PySem.Challenge.rw_km0080_01.row.prog w (hd_01.heap_39 w.params) hd_01.view_39 (looseW hd_01.view_39 []) mean mg mb 21 1 news [.int n t] (RetS news fun t => .int (sz n) t) := by
  k_fill
  k_with_none
  k_with "tree" => simp only [sz]
  dsimp only [Con, RetS]
  intros
  rename_i hret
  refine wpAny_call ?_
  k_dflt cell_enter
  k_steps
  all_goals cb_end hret

end Mine
open Mine
local macro_rules | `(tactic| walk_at "call ref") => `(tactic| (
  k_here; (with_reducible show wpAny _ _ (call (Value.ref 21) [Value.int _ _]) _ _ _)
  k_dflt (refine' con_use (size_con _ _ _ _ _ _ _) ?k1 ?k2 ?k3 ?k4 ?k5 ?kK ?kd ?ku ?_; (case k1 => k_asm); (case k2 => k_asm); (case k3 => k_asm); (case k4 => k_asm); (case k5 => k_asm); (case kK => first | exact rfl | assumption); (case kd => ktr_room); (case ku => ktr_units))
  intro t9 h9 tk9 F9 N9; (try dsimp only); (try k_fold)))
namespace Mine

set_option maxHeartbeats 8000000 in
theorem width_con (w : World) (mean : ExcName → Option Value) (mg mb : PySem.Str → Option Value) (news : List (Addr × Obj)) (n k : Int) (t : Tok) (hs : sz n = k) :
    Con PySem.Challenge.rw_km0080_01.row.prog w (hd_01.heap_39 w.params) hd_01.view_39 (looseW hd_01.view_39 []) mean mg mb 42 2 news [.int n t] (RetS news fun t => .int k t) := by
  k_fill
  k_with_none
  have h4 := sz_in n
  rw [hs] at h4
  subst hs
  dsimp only [Con, RetS]
  intros
  rename_i hret
  refine wpAny_call ?_
  k_dflt cell_enter
  k_steps
  all_goals cb_end hret

end Mine
open Mine
local macro_rules | `(tactic| walk_at "call builtin:len") => `(tactic| (
  k_here; (with_reducible show wpAny _ _ (call (Value.builtin "len") [Value.ref _]) _ _ _)
  k_dflt (refine' kst_len ?k1 ?k2 ?k3 ?k4 ?_; (case k1 => k_asm); (case k2 => k_mem); (case k3 => exact IntsAre.length (by assumption)); (case k4 => omega))
  k_whole))
local macro_rules | `(tactic| k_mem) => `(tactic| first | assumption | exact List.mem_cons_self | (refine' List.mem_cons_of_mem _ ?_; k_mem))
local macro_rules | `(tactic| is_list) => `(tactic| exact News.isList (by k_asm) (by k_mem))
local macro_rules | `(tactic| kst_same) => `(tactic| (
  intro z h1 h2 h3
  (try simp only [List.forall_mem_cons, List.not_mem_nil, false_implies, implies_true, and_true, ne_eq] at h2)
  (try simp only [List.contains_cons, List.contains_nil, Bool.or_false, Bool.or_eq_false_iff, beq_eq_false_iff_ne, ne_eq] at h3)
  simp [h1, h2, h3, kstB]; done))
local macro_rules | `(tactic| walk_at $s:str) => `(tactic| k_extra $s)
namespace Mine

/-- a width; a name hides its bounds from the walk, that would part it into cases -/
def Wd (k : Int) : Prop := 0 ≤ k ∧ k ≤ 8

theorem Wd.lo {k : Int} (h : Wd k) : 0 ≤ k := h.1

theorem Wd.hi {k : Int} (h : Wd k) : k ≤ 8 := h.2

abbrev LaySt := Int × Tok × List Value × Nat

section

variable {prog : Program} {w : World} {A : Around} {E : Value → Shared → Prop} {s : Shared} {env : Env} {h₀ : Heap} {x : PySem.Str} {body : List Stmt} {Q : Flow → Shared → Prop}

/-- the loop that lays a number into octets -/
theorem lay_loop {n₀ k : Int} {tk₀ : Tok} {r D : Addr} {t₀ u₀ v₀ : Tok} {m₀ : PySem.Str → Option Value} {news : List (Addr × Obj)} {cn : Nat}
    (hh : A.handled = none) (hr : IsRange s.heap r 0 k 1 t₀ u₀ v₀) (hw : Wd k) (F : Fr h₀ env.locals s.heap m₀) (N : News h₀ env.locals s.heap ((D, listOf (List.toArray []) cn) :: news)) (hlt : ∀ p ∈ news, p.1 < D)
    (hk : m₀ (PySem.Str.ofString "number") = some (.int n₀ tk₀))
    (turn : ∀ (i : Nat) (ta : Tok) (us : List Value) (c : Nat) (pre : List Int) (kk : Int) t (u : PySem.Str → Option Value) h tk own, pre.length = i → i < 8 → IntsAre us (le n₀ i) → (∀ p ∈ news ++ own, p.1 ≠ D) →
      Fr h₀ env.locals h (fun y => if y = x then some (.int kk t) else kstB (fun z => if ([PySem.Str.ofString "low"] : List PySem.Str).contains z then u z else m₀ z) [(PySem.Str.ofString "number", .int (it i n₀) ta)] y) → News h₀ env.locals h ((D, listOf us.toArray c) :: (news ++ own)) →
      wpAny (model prog w) A (execs body env) (InvPostN h₀ env.locals (KstS (fun c : LaySt => (D, listOf c.2.2.1.toArray c.2.2.2) :: news) (fun c => [(PySem.Str.ofString "number", .int c.1 c.2.1)]) (fun _ => True) x [PySem.Str.ofString "low"] m₀ (fun pre c => c.1 = it pre.length n₀ ∧ IntsAre c.2.2.1 (le n₀ pre.length)) (pre ++ [kk])) own (((D, listOf (List.toArray []) cn) :: news).map (·.1)) { s with heap := h, toks := tk } Q) E { s with heap := h, toks := tk })
    (done : ∀ (a : Int) (ta : Tok) (us : List Value) (c : Nat) (u : PySem.Str → Option Value) h tk, IntsAre us (le n₀ k.toNat) → Fr h₀ env.locals h (fun y => if y = x then u y else kstB (fun z => if ([PySem.Str.ofString "low"] : List PySem.Str).contains z then u z else m₀ z) [(PySem.Str.ofString "number", .int a ta)] y) → News h₀ env.locals h ((D, listOf us.toArray c) :: news) → Q .next { s with heap := h, toks := tk }) :
    wpAny (model prog w) A (pyIter (.ref r)) (fun it s₂ => LoopAtV prog w A h₀ env x body Q E it s₂) E s := by
  obtain ⟨hk0, hk8⟩ := hw
  have hn : Builtin.Range.rangeSize 0 k 1 = ((k.toNat : Nat) : Int) := by
    have e := rangeSize_nat 0 k
    rw [Int.sub_zero] at e
    exact e
  refine kst_range (σ := LaySt) (fun c => (D, listOf c.2.2.1.toArray c.2.2.2) :: news) (fun c => [(PySem.Str.ofString "number", .int c.1 c.2.1)]) (fun _ => True) [PySem.Str.ofString "low"] (fun pre c => c.1 = it pre.length n₀ ∧ IntsAre c.2.2.1 (le n₀ pre.length)) (n₀, tk₀, [], cn) hh hr
    (small_one (by decide) (by decide) (by omega) (by omega)) hn F N trivial (fun p hp => by rw [List.mem_singleton.mp hp]; exact hk) ⟨rfl, .nil⟩ ?_ ?_
  · rintro ⟨a, ta, us, c⟩ pre kk t u h tk own _ hl hoff _ ⟨e1, e2⟩ FT NT
    dsimp only at e1 e2
    subst e1
    refine turn pre.length ta us c pre kk t u h tk own rfl (by omega) e2 (fun p hp => ?_) FT NT
    rcases List.mem_append.mp hp with hp | hp
    · exact Nat.ne_of_lt (hlt p hp)
    · exact hoff p hp D (List.mem_cons_self)
  · rintro ⟨a, ta, us, c⟩ u h tk _ ⟨_, e2⟩ FT NT
    rw [rangeKs_length] at e2
    exact done a ta us c u h tk e2 FT NT

end

theorem news_pair {h₀ h : Heap} {L D : Addr} {o : Obj} {news led : List (Addr × Obj)} (N : News h₀ L h led) (hm : (D, o) ∈ led) (hs : ∀ p ∈ news, p ∈ led) : News h₀ L h ((D, o) :: news) := fun p hp => by
  rcases List.mem_cons.mp hp with rfl | hp
  · exact N _ hm
  · exact N p (hs p hp)

theorem in_led {q : Addr × Obj} {news own : List (Addr × Obj)} : ∀ p ∈ q :: news, p ∈ q :: (news ++ own) := fun p hp => by
  rcases List.mem_cons.mp hp with rfl | hp
  · exact List.mem_cons_self
  · exact List.mem_cons_of_mem _ (List.mem_append.mpr (.inl hp))

theorem in_own {q : Addr × Obj} {news own : List (Addr × Obj)} : ∀ p ∈ own, p ∈ q :: (news ++ own) := fun _ hp => List.mem_cons_of_mem _ (List.mem_append.mpr (.inr hp))

theorem lay_next {n : Int} {pre : List Int} {kk : Int} {us : List Value} {t : Tok} {i : Nat} (e : pre.length = i) (h : IntsAre us (le n i)) :
    (it i n).fdiv 256 = it (pre ++ [kk]).length n ∧ IntsAre (us ++ [.int ((it i n).fmod 256) t]) (le n (pre ++ [kk]).length) := by
  rw [List.length_append, List.length_singleton, e]
  refine ⟨rfl, ?_⟩
  rw [le_snoc]
  exact ints_app h (.cons _ _ .nil)

end Mine
open Mine
local macro_rules | `(tactic| walk_at "subscriptTail Name Slice ref ref") => `(tactic| (
  k_here; (with_reducible show wpAny _ _ (subscriptTail _ (PySem.Expr.Slice none none (some _) _) (Value.ref _) (Value.ref _)) _ _ _)
  k_dflt (refine' krv_ints ?F ?N ?l ?k ?i ?_ ?s ?t ?z; (case F => k_asm); (case N => k_asm); (case l => kmk_list); (case k => exact IsPart.int _ _); (case i => l_ints); (case s => with_unfolding_all rfl); (case t => kmk_pure); (case z => exact kmk_sz (by l_ints) (by rw [sizeLine_eq, le_len]; have := Wd.hi (by assumption); omega)))
  intro D' ws' h' F' N' l1 hI' _; (try k_lt l1); (try k_sweep)))
namespace Mine

set_option maxHeartbeats 8000000 in
theorem lay_con (w : World) (mean : ExcName → Option Value) (mg mb : PySem.Str → Option Value) (news : List (Addr × Obj)) (n k : Int) (t u : Tok) (hw : Wd k) :
    Con PySem.Challenge.rw_km0080_01.row.prog w (hd_01.heap_39 w.params) hd_01.view_39 (looseW hd_01.view_39 []) mean mg mb 28 1 news [.int n t, .int k u] (RetL news (lay n k.toNat)) := by
  k_fill
  k_with_none
  k_with "call builtin:list.append" => (
    k_dflt (refine' append_keep (keep := news ++ own) ?xaF ?xaN ?xam ?xas ?xae ?xaz ?_; (case xaF => k_asm); (case xaN => k_asm); (case xam => k_mem); (case xas => intro p hp; k_mem); (case xae => exact hne); (case xaz => (rw [hU.length, le_len, sizeLine_eq]; omega)))
    intro h' F' N'
    (try k_sweep))
  k_with "InvEndN" => ((rename News _ _ _ _ => nE'); refine kst_end ((it i n).fdiv 256, _, us ++ [.int ((it i n).fmod 256) _], c + 1) (by assumption) nE' (by exact in_led) (by exact in_own) rfl trivial (by kst_all) (by kst_same) (lay_next hpre hU))
  k_with "pyIter ref" => (
    (rename Fr _ _ _ _ => lF'); (rename News _ _ _ _ => lN'); (rename IsRange _ _ _ _ _ _ _ _ => rgX)
    (with_unfolding_all refine' lay_loop (by rfl) rgX hw lF' lN' (by assumption) (by rfl) (fun i ta us c pre kk t u h tk own hpre hi8 hU hne FT NT => ?_) (fun a ta us c u h tk hU FT NT => ?_))
    all_goals (try k_fold))
  dsimp only [Con, RetL]
  intros
  rename_i hret
  refine wpAny_call ?_
  k_dflt cell_enter
  k_steps
  all_goals (
    apply hret
    (k_asm)
    (apply news_pair)
    (k_asm)
    (k_mem)
    (intro p hp; k_mem)
    (first | assumption | exact kst_ltOf (by assumption) | ((iterate 8 (try (rename _ ∧ _ => qq; obtain ⟨_, qq⟩ := qq))); exact kst_ltOf (by assumption)))
    (assumption))

/-- what data[at:at + width] picks -/
def cut (ns : List Int) (a w : Int) : List Int := (ns.drop a.toNat).take (min (a + w).toNat ns.length - a.toNat)

theorem cut_len {ns : List Int} {a w : Int} (ha : 0 ≤ a) (hw : Wd w) : (cut ns a w).length ≤ 8 := by
  have h1 := hw.lo
  have h2 := hw.hi
  rw [cut, List.length_take]
  omega

theorem cut_octs {ns : List Int} {a w : Int} (h : Octs ns) : Octs (cut ns a w) := fun x hx => h x (List.mem_of_mem_drop (List.mem_of_mem_take hx))

theorem num_mul {ns pre post : List Int} {p : Int} (h : Octs ns) (hl : ns.length ≤ 8) (e : ns = pre ++ p :: post) : IntMulOk (num pre) 256 := by
  have b := num_bound (l := pre) fun x hx => h x (by rw [e]; exact List.mem_append.mpr (.inl hx))
  have l : pre.length ≤ 8 := by rw [e, List.length_append] at hl; omega
  have m : (256 : Int) ^ pre.length ≤ 256 ^ 8 := by
    have : (256 : Nat) ^ pre.length ≤ 256 ^ 8 := Nat.pow_le_pow_right (by decide) l
    exact_mod_cast this
  have z : (256 : Int) ^ 8 = 18446744073709551616 := by decide
  exact mulOk_of_bits (m := 64) (n := 10) (intBits_le_iff.mpr (by
    have z2 : (2 : Nat) ^ 64 = 18446744073709551616 := by decide
    omega)) (by decide) (by decide)

end Mine
open Mine
local macro_rules | `(tactic| mul_fits) => `(tactic| assumption)
local macro_rules | `(tactic| walk_at "exec For Name Subscript cons nil") => `(tactic| (k_here; (rename Fr _ _ _ _ => lF'); (with_unfolding_all refine' For_invVF lF' ?k1 ?k2 ?_; (case k1 => exact rfl); (case k2 => exact rfl); k_whole)))
namespace Mine

theorem at_ge {a w : Int} (h : 0 ≤ a) (hw : Wd w) : 0 ≤ a + w := Int.add_nonneg h hw.lo

end Mine
open Mine
local macro_rules | `(tactic| walk_at "subscriptTail Name Slice ref ref") => `(tactic| (
  k_here; (with_reducible show wpAny _ _ (subscriptTail _ (PySem.Expr.Slice _ _ none _) (Value.ref _) (Value.ref _)) _ _ _)
  k_dflt (refine' kmk_slice_ints ?F ?N ?l ?p ?q ?i ?m rfl ?_ ?s ?t ?z; (case F => k_asm); (case N => k_asm); (case l => kmk_list); (case p => kmk_part); (case q => kmk_part); (case i => l_ints); (case m => exact kmk_run (by l_ints) (by assumption) (at_ge (by assumption) (by assumption))); (case s => with_unfolding_all rfl); (case t => kmk_pure); (case z => exact kmk_sz (by l_ints) (by assumption)))
  intro D' ws' h' F' N' l1 hI' _ _; (try k_lt l1); (try k_sweep)))
namespace Mine

section

variable {prog : Program} {w : World} {A : Around} {E : Value → Shared → Prop} {s : Shared} {env : Env} {h₀ : Heap} {x : PySem.Str} {body : List Stmt} {Q : Flow → Shared → Prop}

theorem num_loop {D : Addr} {vs : List Value} {ns : List Int} {c : Nat} {m₀ : PySem.Str → Option Value} {news : List (Addr × Obj)} {tk₀ : Tok}
    (hh : A.handled = none) (hm : (D, listOf vs.toArray c) ∈ news) (hi : IntsAre vs ns) (ho : Octs ns) (hl8 : ns.length ≤ 8) (F : Fr h₀ env.locals s.heap m₀) (N : News h₀ env.locals s.heap news) (hk : m₀ (PySem.Str.ofString "number") = some (.int 0 tk₀))
    (turn : ∀ (ta : Tok) pre n t (u : PySem.Str → Option Value) h tk own, IntMulOk (num pre) 256 →
      Fr h₀ env.locals h (fun y => if y = x then some (.int n t) else kstB (fun z => if ([] : List PySem.Str).contains z then u z else m₀ z) [(PySem.Str.ofString "number", .int (num pre) ta)] y) → News h₀ env.locals h (news ++ own) →
      wpAny (model prog w) A (execs body env) (InvPostN h₀ env.locals (KstS (fun _ : Int × Tok => news) (fun c => [(PySem.Str.ofString "number", .int c.1 c.2)]) (fun _ => True) x [] m₀ (fun pre c => c.1 = num pre) (pre ++ [n])) own (news.map (·.1)) { s with heap := h, toks := tk } Q) E { s with heap := h, toks := tk })
    (done : ∀ (ta : Tok) (u : PySem.Str → Option Value) h tk, Fr h₀ env.locals h (fun y => if y = x then u y else kstB (fun z => if ([] : List PySem.Str).contains z then u z else m₀ z) [(PySem.Str.ofString "number", .int (num ns) ta)] y) → News h₀ env.locals h news → Q .next { s with heap := h, toks := tk }) :
    wpAny (model prog w) A (pyIter (.ref D)) (fun it s₂ => LoopAtV prog w A h₀ env x body Q E it s₂) E s := by
  refine kst_listL (σ := Int × Tok) (fun _ => news) (fun c => [(PySem.Str.ofString "number", .int c.1 c.2)]) (fun _ => True) [] (fun pre c => c.1 = num pre) (0, tk₀) hh (fun _ => hm) hi F N trivial (fun p hp => by rw [List.mem_singleton.mp hp]; exact hk) rfl ?_ ?_
  · rintro ⟨a, ta⟩ pre post n t u h tk own e _ _ _ hP FT NT
    dsimp only at hP
    subst hP
    exact turn ta pre n t u h tk own (num_mul ho hl8 e) FT NT
  · rintro ⟨a, ta⟩ u h tk _ hP FT NT
    dsimp only at hP
    subst hP
    exact done ta u h tk FT NT

end

set_option maxHeartbeats 8000000 in
theorem number_con (w : World) (mean : ExcName → Option Value) (mg mb : PySem.Str → Option Value) (news : List (Addr × Obj)) (d : Addr) (vs : List Value) (ns : List Int) (c : Nat) (a k : Int) (t u : Tok) (hm : (d, listOf vs.toArray c) ∈ news) (hi : IntsAre vs ns) (ho : Octs ns) (hsz : ns.length ≤ sizeLine) (ha : 0 ≤ a) (hw : Wd k) :
    Con PySem.Challenge.rw_km0080_01.row.prog w (hd_01.heap_39 w.params) hd_01.view_39 (looseW hd_01.view_39 []) mean mg mb 35 1 news [.ref d, .int a t, .int k u] (RetS news fun t => .int (num (cut ns a k)) t) := by
  k_fill
  k_with_none
  k_with "InvEndN" => ((rename News _ _ _ _ => nE'); refine kst_end (num pre * 256 + n, _) (by assumption) nE' (fun p hp => List.mem_append.mpr (.inl hp)) (fun p hp => List.mem_append.mpr (.inr hp)) rfl trivial (by kst_all) (by kst_same) (num_snoc pre n).symm)
  k_with "pyIter ref" => (
    (rename Fr _ _ _ _ => lF'); (rename News _ _ _ _ => lN')
    (with_unfolding_all refine' num_loop (by rfl) ?xnm ?xni (cut_octs (ns := ns) (a := a) (w := k) ho) (cut_len ha hw) lF' lN' (by rfl) (fun ta pre n t u h tk own hmul FT NT => ?_) (fun ta u h tk FT NT => ?_))
    (case xnm => k_mem)
    (case xni => assumption)
    all_goals (try k_fold))
  dsimp only [Con, RetS]
  intros
  rename_i hret
  refine wpAny_call ?_
  k_dflt cell_enter
  k_steps
  all_goals cb_end hret

/-- what the reader finds of one number -/
structure ItemAt (ns vals : List Int) (start W Tb : Int) (i : Nat) (P v : Int) : Prop where
  place : num (cut ns (Tb - start + (i : Int) * W) W) = P
  lo : 0 ≤ P - start
  hi : P - start < Tb - start
  found : vals.take (i + 1) = vals.take i ++ [v]
  mark : (ns.getD (P - start).toNat 0 = 16 ∧ num (cut ns (P - start + 1) 1) = v) ∨
    (ns.getD (P - start).toNat 0 = 17 ∧ ((cut ns (P - start + 1) (Int.fdiv 2 2)).any fun x => x != 0) = true ∧ num (cut ns (P - start + 1) 2) = v) ∨
    (ns.getD (P - start).toNat 0 = 18 ∧ ((cut ns (P - start + 1) (Int.fdiv 4 2)).any fun x => x != 0) = true ∧ num (cut ns (P - start + 1) 4) = v) ∨
    (ns.getD (P - start).toNat 0 = 19 ∧ ((cut ns (P - start + 1) (Int.fdiv 8 2)).any fun x => x != 0) = true ∧ num (cut ns (P - start + 1) 8) = v)

/-- what the reader finds of the file -/
structure Rd (ns vals : List Int) (start W Tb : Int) : Prop where
  octs : Octs ns
  size : ns.length ≤ 100000
  tl : 17 ≤ ns.length
  wd : W = 1 ∨ W = 2 ∨ W = 4 ∨ W = 8
  hW : ns.getD ((ns.length : Int) - 17).toNat 0 = W
  hc : num (cut ns ((ns.length : Int) - 17 + 1) 8) = (vals.length : Int)
  ht : num (cut ns ((ns.length : Int) - 17 + 9) 8) = Tb
  vlen : vals.length ≤ 65
  tb : 0 ≤ Tb - start
  tb2 : Tb - start ≤ (ns.length : Int) - 17
  item : ∀ i : Nat, i < vals.length → ∃ P v : Int, ItemAt ns vals start W Tb i P v

theorem number_is (w : World) (mean : ExcName → Option Value) (mg mb : PySem.Str → Option Value) (news : List (Addr × Obj)) (d : Addr) (vs : List Value) (ns : List Int) (c : Nat) (a k v : Int) (t u : Tok) (hm : (d, listOf vs.toArray c) ∈ news) (hi : IntsAre vs ns) (ho : Octs ns) (hsz : ns.length ≤ 100000) (ha : 0 ≤ a) (hw : Wd k) (hv : num (cut ns a k) = v) :
    Con PySem.Challenge.rw_km0080_01.row.prog w (hd_01.heap_39 w.params) hd_01.view_39 (looseW hd_01.view_39 []) mean mg mb 35 1 news [.ref d, .int a t, .int k u] (RetS news fun t => .int v t) := by
  subst hv
  exact number_con w mean mg mb news d vs ns c a k t u hm hi ho (by rw [sizeLine_eq]; omega) ha hw

section

variable {prog : Program} {w : World} {A : Around} {E : Value → Shared → Prop} {s : Shared}

theorem item_is {value slice : PySem.Expr} {l : Addr} {vs : List Value} {ns : List Int} {k v : Int} {u : Tok} {Q : Value → Shared → Prop} (hl : s.heap.IsList l vs.toArray) (hi : IntsAre vs ns)
    (h0 : 0 ≤ k) (h1 : k < ns.length) (hz : ns.length ≤ 100000) (hv : ns.getD k.toNat 0 = v) (h : ∀ t, Q (.int v t) s)
    (hs : subscripted slice false (.ref l) (.int k u) = operate [.ref l, .int k u] (getItem (.ref l) (.int k u)) := by with_unfolding_all rfl) :
    wpAny (model prog w) A (subscriptTail value slice (.ref l) (.int k u)) Q E s := by
  subst hv
  exact item_anyK hl hi h0 h1 (by omega) h hs

end

section

variable {prog : Program} {w : World} {A : Around} {E : Value → Shared → Prop} {s : Shared} {env : Env} {h₀ : Heap} {x : PySem.Str} {body : List Stmt} {Q : Flow → Shared → Prop}

abbrev ListSt := List Value × Nat

theorem read_loop {ns vals : List Int} {start W Tb : Int} {r D : Addr} {t₀ u₀ v₀ : Tok} {m₀ : PySem.Str → Option Value} {news : List (Addr × Obj)} {cn : Nat}
    (hh : A.handled = none) (hr : IsRange s.heap r 0 ((vals.length : Nat) : Int) 1 t₀ u₀ v₀) (R : Rd ns vals start W Tb) (F : Fr h₀ env.locals s.heap m₀) (N : News h₀ env.locals s.heap ((D, listOf (List.toArray []) cn) :: news)) (hlt : ∀ p ∈ news, p.1 < D)
    (turn : ∀ (i : Nat) (P v : Int) (us : List Value) (c : Nat) (pre : List Int) (kk : Int) t (u : PySem.Str → Option Value) h tk own, pre.length = i → kk = (i : Int) → us.length ≤ 65 → 0 ≤ Tb - start + (i : Int) * W → IntMulOk (i : Int) W → ItemAt ns vals start W Tb i P v → IntsAre us (vals.take i) → (∀ p ∈ news ++ own, p.1 ≠ D) →
      Fr h₀ env.locals h (fun y => if y = x then some (.int (i : Int) t) else kstB (fun z => if ([PySem.Str.ofString "at", PySem.Str.ofString "size"] : List PySem.Str).contains z then u z else m₀ z) [] y) → News h₀ env.locals h ((D, listOf us.toArray c) :: (news ++ own)) →
      wpAny (model prog w) A (execs body env) (InvPostN h₀ env.locals (KstS (fun c : ListSt => (D, listOf c.1.toArray c.2) :: news) (fun _ => []) (fun _ => True) x [PySem.Str.ofString "at", PySem.Str.ofString "size"] m₀ (fun pre c => IntsAre c.1 (vals.take pre.length)) (pre ++ [kk])) own (((D, listOf (List.toArray []) cn) :: news).map (·.1)) { s with heap := h, toks := tk } Q) E { s with heap := h, toks := tk })
    (done : ∀ (us : List Value) (c : Nat) (u : PySem.Str → Option Value) h tk, IntsAre us vals → Fr h₀ env.locals h (fun y => if y = x then u y else kstB (fun z => if ([PySem.Str.ofString "at", PySem.Str.ofString "size"] : List PySem.Str).contains z then u z else m₀ z) [] y) → News h₀ env.locals h ((D, listOf us.toArray c) :: news) → Q .next { s with heap := h, toks := tk }) :
    wpAny (model prog w) A (pyIter (.ref r)) (fun it s₂ => LoopAtV prog w A h₀ env x body Q E it s₂) E s := by
  have hv := R.vlen
  have hn : Builtin.Range.rangeSize 0 ((vals.length : Nat) : Int) 1 = ((vals.length : Nat) : Int) := by
    have e := rangeSize_nat 0 ((vals.length : Nat) : Int)
    rw [Int.sub_zero, Int.toNat_natCast] at e
    exact e
  refine kst_range (σ := ListSt) (fun c => (D, listOf c.1.toArray c.2) :: news) (fun _ => []) (fun _ => True) [PySem.Str.ofString "at", PySem.Str.ofString "size"] (fun pre c => IntsAre c.1 (vals.take pre.length)) ([], cn) hh hr
    (small_one (by decide) (by decide) (by omega) (by omega)) hn F N trivial (fun _ hp => nomatch hp) .nil ?_ ?_
  · rintro ⟨us, c⟩ pre kk t u h tk own hkk hl hoff _ e2 FT NT
    dsimp only at e2
    rw [Int.zero_add] at hkk
    obtain ⟨P, v, I⟩ := R.item pre.length hl
    have hm : IntMulOk ((pre.length : Nat) : Int) W := by
      rcases R.wd with h | h | h | h <;> subst h <;> exact mulOk_of_bits (m := 10) (n := 10) (intBits_le_iff.mpr (by omega)) (by decide) (by decide)
    have hz : 0 ≤ Tb - start + ((pre.length : Nat) : Int) * W := by
      have := R.tb
      rcases R.wd with h | h | h | h <;> subst h <;> omega
    refine turn pre.length P v us c pre kk t u h tk own rfl hkk (by rw [e2.length, List.length_take]; omega) hz hm I e2 (fun p hp => ?_) (by rw [← hkk]; exact FT) NT
    rcases List.mem_append.mp hp with hp | hp
    · exact Nat.ne_of_lt (hlt p hp)
    · exact hoff p hp D (List.mem_cons_self)
  · rintro ⟨us, c⟩ u h tk _ e2 FT NT
    rw [rangeKs_length, List.take_length] at e2
    exact done us c u h tk e2 FT NT

end

theorem pow_is {prog : Program} {w : World} {A : Around} {E : Value → Shared → Prop} {s : Shared} {Q : Value → Shared → Prop} {a n v : Int} {t u : Tok} (hn : 0 ≤ n) (hn2 : n ≤ 1000000) (ha : a.natAbs < 2 ^ 64) (hv : a ^ n.toNat = v) (h : Q (.int v s.toks) { s with toks := s.toks + 1 }) :
    wpAny (model prog w) A (binaryOp .Pow (.int a t) (.int n u)) Q E s := pow_int_small hn hn2 ha (hv ▸ h)

theorem s16 : (2 : Int) ^ ((16 : Int) - 16).toNat = 1 := by decide

theorem s17 : (2 : Int) ^ ((17 : Int) - 16).toNat = 2 := by decide

theorem s18 : (2 : Int) ^ ((18 : Int) - 16).toNat = 4 := by decide

theorem s19 : (2 : Int) ^ ((19 : Int) - 16).toNat = 8 := by decide

theorem wd1 : Wd 1 := ⟨by decide, by decide⟩

theorem wd2 : Wd 2 := ⟨by decide, by decide⟩

theorem wd4 : Wd 4 := ⟨by decide, by decide⟩

theorem wd8 : Wd 8 := ⟨by decide, by decide⟩

theorem Rd.wdW {ns vals : List Int} {start W Tb : Int} (R : Rd ns vals start W Tb) : Wd W := by
  rcases R.wd with h | h | h | h <;> subst h <;> exact ⟨by decide, by decide⟩

theorem no_ps {m : PySem.Str → Option Value} : ∀ p ∈ ([] : List (PySem.Str × Value)), m p.1 = some p.2 := fun _ h => nomatch h

theorem read_next {vals pre : List Int} {kk v : Int} {us : List Value} {t : Tok} {i : Nat} (e : pre.length = i) (h : IntsAre us (vals.take i)) (hf : vals.take (i + 1) = vals.take i ++ [v]) : IntsAre (us ++ [.int v t]) (vals.take (pre ++ [kk]).length) := by
  rw [List.length_append, List.length_singleton, e, hf]
  exact ints_app h (.cons _ _ .nil)

theorem read_end {h₀ : Heap} {L D : Addr} {x : PySem.Str} {stored : List PySem.Str} {m₀ m' : PySem.Str → Option Value} {vals pre : List Int} {kk v : Int} {us : List Value} {t : Tok} {i c' cn tk : Nat} {news own : List (Addr × Obj)} {s₁ : Shared} {h' : Heap}
    (F : Fr h₀ L h' m') (N : News h₀ L h' ((D, listOf (us ++ [Value.int v t]).toArray c') :: (news ++ own))) (hr : ∀ z, z ≠ x → stored.contains z = false → m' z = m₀ z) (e : pre.length = i) (h : IntsAre us (vals.take i)) (hf : vals.take (i + 1) = vals.take i ++ [v]) :
    InvEndN h₀ L (KstS (fun c : ListSt => (D, listOf c.1.toArray c.2) :: news) (fun _ => []) (fun _ => True) x stored m₀ (fun pre c => IntsAre c.1 (vals.take pre.length)) (pre ++ [kk])) own (((D, listOf (List.toArray []) cn) :: news).map (·.1)) s₁ { s₁ with heap := h', toks := tk } :=
  kst_end (us ++ [Value.int v t], c') F N in_led in_own rfl trivial no_ps (fun z h1 _ h3 => hr z h1 h3) (read_next e h hf)

end Mine
open Mine
local macro_rules | `(tactic| walk_at "binaryOp Pow int int") => `(tactic| (
  k_here
  k_dflt (refine' pow_is ?a ?b ?c ?v ?_; (case a => omega); (case b => omega); (case c => decide); (case v => first | exact s16 | exact s17 | exact s18 | exact s19))))
local macro_rules | `(tactic| walk_at "call builtin:any") => `(tactic| (
  k_here; (with_reducible show wpAny _ _ (call (Value.builtin "any") [Value.ref _]) _ _ _)
  k_dflt (refine' any_nums ?F ?N ?h ?l ?i ?a ?_; (case F => k_asm); (case N => k_asm); (case h => exact rfl); (case l => is_list); (case i => l_ints); (case a => assumption))
  intro h' tk' F' N'; (try dsimp only); (try k_fold)))
local macro_rules | `(tactic| walk_at "subscriptTail Name Slice ref ref") => `(tactic| (
  k_here; (with_reducible show wpAny _ _ (subscriptTail _ (PySem.Expr.Slice _ _ none _) (Value.ref _) (Value.ref _)) _ _ _)
  k_dflt (refine' kmk_slice_ints ?F ?N ?l ?p ?q ?i ?m rfl ?_ ?s ?t ?z; (case F => k_asm); (case N => k_asm); (case l => kmk_list); (case p => kmk_part); (case q => kmk_part); (case i => l_ints); (case m => exact kmk_run (by l_ints) (by omega) (by (have e2 : Int.fdiv 2 2 = 1 := rfl); (have e4 : Int.fdiv 4 2 = 2 := rfl); (have e8 : Int.fdiv 8 2 = 4 := rfl); omega)); (case s => with_unfolding_all rfl); (case t => kmk_pure); (case z => exact kmk_sz (by l_ints) (by rw [sizeLine_eq]; omega)))
  intro D' ws' h' F' N' l1 hI' _ _; (try k_lt l1); (try k_sweep)))
local macro_rules | `(tactic| walk_at "subscriptTail Name Name ref int") => `(tactic| (
  k_here; (with_reducible show wpAny _ _ (subscriptTail _ _ (Value.ref _) (Value.int _ _)) _ _ _)
  (with_unfolding_all refine' item_is ?k1 ?k2 ?k3 ?k4 ?k5 ?k6 ?_ ?k7; (case k1 => is_list); (case k2 => l_ints); (case k3 => omega); (case k4 => omega); (case k5 => assumption); (case k6 => assumption); (case k7 => with_unfolding_all rfl); k_whole)
  intro _))
local macro_rules | `(tactic| walk_at "call ref") => `(tactic| (
  k_here; (with_reducible show wpAny _ _ (call (Value.ref 35) [Value.ref _, Value.int _ _, Value.int _ _]) _ _ _)
  k_dflt (refine' con_use (number_is _ _ _ _ _ _ _ _ _ _ _ _ _ _ ?km ?ki ?ko ?ks ?ka ?kw ?kv) ?k1 ?k2 ?k3 ?k4 ?k5 ?kK ?kd ?ku ?_; (case k1 => k_asm); (case k2 => k_asm); (case k3 => k_asm); (case k4 => k_asm); (case k5 => k_asm); (case km => k_mem); (case ki => l_ints); (case ko => assumption); (case ks => assumption); (case ka => first | assumption | omega); (case kw => first | assumption | exact wd1 | exact wd2 | exact wd4 | exact wd8); (case kv => with_reducible assumption); (case kK => first | exact rfl | assumption); (case kd => ktr_room); (case ku => ktr_units))
  intro t9 h9 tk9 F9 N9; (try dsimp only); (try k_fold)))
namespace Mine

set_option maxHeartbeats 8000000 in
theorem read_con (w : World) (mean : ExcName → Option Value) (mg mb : PySem.Str → Option Value) (news : List (Addr × Obj)) (d : Addr) (vs : List Value) (ns vals : List Int) (c : Nat) (start W Tb : Int) (t : Tok) (hm : (d, listOf vs.toArray c) ∈ news) (hi : IntsAre vs ns) (R : Rd ns vals start W Tb) :
    Con PySem.Challenge.rw_km0080_01.row.prog w (hd_01.heap_39 w.params) hd_01.view_39 (looseW hd_01.view_39 []) mean mg mb 56 2 news [.ref d, .int start t] (RetL news vals) := by
  k_fill
  k_with_none
  have rOcts := R.octs
  have rSize := R.size
  have rTl := R.tl
  have rW := R.hW
  have rC := R.hc
  have rT := R.ht
  have rWd := R.wdW
  have rTb := R.tb
  have rTb2 := R.tb2
  k_with "call builtin:list.append" => (
    k_dflt (refine' append_keep (keep := news ++ own) ?xaF ?xaN ?xam ?xas ?xae ?xaz ?_; (case xaF => k_asm); (case xaN => k_asm); (case xam => k_mem); (case xas => intro p hp; k_mem); (case xae => exact hne); (case xaz => (rw [sizeLine_eq]; omega)))
    intro h' F' N'
    (try k_sweep))
  k_with "InvEndN" => (
    k_dflt (refine' read_end ?yF ?yN ?yr hpre hU I.found; (case yF => assumption); (case yN => assumption); (case yr => (intro z h1 h3; (simp only [List.contains_cons, List.contains_nil, Bool.or_false, Bool.or_eq_false_iff, beq_eq_false_iff_ne, ne_eq] at h3); simp [h1, h3, kstB]; done))))
  k_with "pyIter ref" => (
    (rename Fr _ _ _ _ => lF'); (rename News _ _ _ _ => lN'); (rename IsRange _ _ _ _ _ _ _ _ => rgX)
    (with_unfolding_all refine' read_loop (by rfl) rgX R lF' lN' (by assumption) (fun i P v us c pre kk t u h tk own hpre hkk hus hz hmul I hU hne FT NT => ?_) (fun us c u h tk hU FT NT => ?_))
    (have iP := I.place)
    (have iLo := I.lo)
    (have iHi := I.hi)
    (rcases I.mark with ⟨g1, g3⟩ | ⟨g1, g2, g3⟩ | ⟨g1, g2, g3⟩ | ⟨g1, g2, g3⟩)
    all_goals (try k_fold))
  dsimp only [Con, RetL]
  intros
  rename_i hret
  refine wpAny_call ?_
  k_dflt cell_enter
  k_steps
  all_goals (
    apply hret
    (k_asm)
    (apply news_pair)
    (k_asm)
    (k_mem)
    (intro p hp; k_mem)
    (first | assumption | exact kst_ltOf (by assumption) | ((iterate 8 (try (rename _ ∧ _ => qq; obtain ⟨_, qq⟩ := qq))); exact kst_ltOf (by assumption)))
    (assumption))

/-! the file as a plain list -/

def mk (s : Int) : Int := if s = 1 then 16 else if s = 2 then 17 else if s = 4 then 18 else 19

def enc (v : Int) : List Int := mk (sz v) :: lay v (sz v).toNat

def body (l : List Int) : List Int := l.flatMap enc

def tab (start W : Int) (l : List Int) : List Int := l.flatMap fun p => lay (start + p) W.toNat

theorem body_snoc (l : List Int) (v : Int) : body (l ++ [v]) = body l ++ enc v := by simp [body]

theorem tab_snoc (start W : Int) (l : List Int) (p : Int) : tab start W (l ++ [p]) = tab start W l ++ lay (start + p) W.toNat := by simp [tab]

theorem tab_len (start W : Int) : ∀ l : List Int, (tab start W l).length = l.length * W.toNat
  | [] => by simp [tab]
  | p :: r => by
    have ih := tab_len start W r
    rw [tab] at ih ⊢
    rw [List.flatMap_cons, List.length_append, ih, lay_len, List.length_cons, Nat.succ_mul]
    omega

theorem enc_len (v : Int) : (enc v).length ≤ 9 ∧ 2 ≤ (enc v).length := by
  rw [enc, List.length_cons, lay_len]
  rcases sz_in v with h | h | h | h <;> rw [h] <;> decide

theorem body_len : ∀ l : List Int, (body l).length ≤ 9 * l.length
  | [] => by simp [body]
  | v :: r => by
    have ih := body_len r
    have h := (enc_len v).1
    rw [body] at ih ⊢
    rw [List.flatMap_cons, List.length_append, List.length_cons]
    omega

theorem mk_oct (v : Int) : 0 ≤ mk (sz v) ∧ mk (sz v) < 256 := by
  rcases sz_in v with h | h | h | h <;> rw [h] <;> decide

theorem enc_octs (v : Int) : Octs (enc v) := fun x hx => by
  rcases List.mem_cons.mp hx with rfl | hx
  · exact mk_oct v
  · exact lay_octs _ _ x hx

theorem body_octs (l : List Int) : Octs (body l) := fun x hx => by
  obtain ⟨v, _, h⟩ := List.mem_flatMap.mp hx
  exact enc_octs v x h

theorem tab_octs (start W : Int) (l : List Int) : Octs (tab start W l) := fun x hx => by
  obtain ⟨v, _, h⟩ := List.mem_flatMap.mp hx
  exact lay_octs _ _ x h

theorem cut_mid {ns a b c : List Int} {x w : Int} (e : ns = a ++ b ++ c) (hx : x = (a.length : Int)) (hw : w = (b.length : Int)) : cut ns x w = b := by
  subst hx hw e
  rw [cut, Int.toNat_natCast, List.append_assoc, List.drop_left]
  have h : min ((a.length : Int) + (b.length : Int)).toNat (a ++ (b ++ c)).length - a.length = b.length := by
    rw [List.length_append, List.length_append]; omega
  rw [h, List.take_left]

theorem cut_part {ns a b c : List Int} {x w : Int} (e : ns = a ++ b ++ c) (hx : x = (a.length : Int)) (h0 : 0 ≤ w) (hw : w ≤ (b.length : Int)) : cut ns x w = b.take w.toNat := by
  have e' : ns = a ++ b.take w.toNat ++ (b.drop w.toNat ++ c) := by
    rw [e, List.append_assoc, List.append_assoc, ← List.append_assoc (b.take _), List.take_append_drop]
  exact cut_mid e' hx (by rw [List.length_take]; omega)

theorem getD_mid {ns a c : List Int} {x : Nat} {v : Int} (e : ns = a ++ v :: c) (hx : x = a.length) : ns.getD x 0 = v := by
  subst hx e
  simp [List.getD]

/-- what the first loop leaves of the places -/
def Places (vals pl : List Int) : Prop := pl.length = vals.length ∧ ∀ i, i < vals.length → pl[i]? = some ((body (vals.take i)).length : Int)

theorem places_nil : Places [] [] := ⟨rfl, fun _ h => absurd h (Nat.not_lt_zero _)⟩

theorem places_snoc {vals pl : List Int} {v : Int} (h : Places vals pl) : Places (vals ++ [v]) (pl ++ [((body vals).length : Int)]) := by
  refine ⟨by rw [List.length_append, List.length_append, h.1]; rfl, fun i hi => ?_⟩
  rw [List.length_append, List.length_singleton] at hi
  by_cases g : i < vals.length
  · rw [List.getElem?_append_left (by rw [h.1]; exact g), h.2 i g, List.take_append_of_le_length (by omega)]
  · have e : i = vals.length := by omega
    subst e
    rw [List.take_append_of_le_length (by omega), List.take_of_length_le (by omega), List.getElem?_append_right (by rw [h.1]; omega), h.1]
    simp

def file (vals pl : List Int) (start W Tb : Int) : List Int := body vals ++ tab start W pl ++ [W] ++ lay (vals.length : Int) 8 ++ lay Tb 8

theorem sz_pow {n : Int} (h : n < 18446744073709551616) : n < 256 ^ (sz n).toNat := by
  have p1 : (256 : Int) ^ (1 : Int).toNat = 256 := by decide
  have p2 : (256 : Int) ^ (2 : Int).toNat = 65536 := by decide
  have p4 : (256 : Int) ^ (4 : Int).toNat = 4294967296 := by decide
  have p8 : (256 : Int) ^ (8 : Int).toNat = 18446744073709551616 := by decide
  unfold sz
  split
  · rw [p1]; assumption
  · split
    · rw [p2]; assumption
    · split
      · rw [p4]; assumption
      · rw [p8]; exact h

theorem sz_low2 {n : Int} (h : sz n = 2) : 256 ≤ n := by
  by_cases g : n < 256
  · unfold sz at h; rw [if_pos g] at h; omega
  · omega

theorem sz_low4 {n : Int} (h : sz n = 4) : 65536 ≤ n := by
  by_cases g : n < 65536
  · unfold sz at h
    split at h
    · omega
    · first | (rw [if_pos g] at h; omega) | omega
  · omega

theorem sz_low8 {n : Int} (h : sz n = 8) : 4294967296 ≤ n := by
  by_cases g : n < 4294967296
  · unfold sz at h
    split at h
    · omega
    · split at h
      · omega
      · first | (rw [if_pos g] at h; omega) | omega
  · omega

theorem split_at (l : List Int) (i : Nat) (h : i < l.length) : l = l.take i ++ l[i] :: l.drop (i + 1) := by
  rw [List.getElem_cons_drop]
  exact (List.take_append_drop i l).symm

theorem body_app (a b : List Int) (v : Int) : body (a ++ v :: b) = body a ++ (mk (sz v) :: lay v (sz v).toNat ++ body b) := by simp [body, enc]

theorem tab_app (start W : Int) (a b : List Int) (v : Int) : tab start W (a ++ v :: b) = tab start W a ++ (lay (start + v) W.toNat ++ tab start W b) := by simp [tab]

theorem rd_file {vals pl : List Int} {start W Tb : Int} (hp : Places vals pl) (hl : vals.length ≤ 65) (hv : ∀ v ∈ vals, 0 ≤ v ∧ v < 18446744073709551616) (hs : 0 ≤ start) (hT : Tb = start + ((body vals).length : Int)) (hT2 : Tb < 18446744073709551616) (hW : W = sz Tb) :
    Rd (file vals pl start W Tb) vals start W Tb := by
  have hWn : W = 1 ∨ W = 2 ∨ W = 4 ∨ W = 8 := by rw [hW]; exact sz_in Tb
  have hW8 : W.toNat ≤ 8 := by rcases hWn with h | h | h | h <;> rw [h] <;> decide
  have hb := body_len vals
  have ht := tab_len start W pl
  have htl : (tab start W pl).length ≤ 65 * 8 := by
    rw [ht, hp.1]
    exact Nat.mul_le_mul hl hW8
  have hlen : (file vals pl start W Tb).length = (body vals).length + (tab start W pl).length + 17 := by
    simp only [file, List.length_append, lay_len, List.length_singleton]
  have hTb : Tb < 256 ^ W.toNat := by rw [hW]; exact sz_pow hT2
  constructor
  · intro x hx
    simp only [file, List.mem_append, List.mem_singleton] at hx
    rcases hx with (((hx | hx) | hx) | hx) | hx
    · exact body_octs _ x hx
    · exact tab_octs _ _ _ x hx
    · rw [hx]; rcases hWn with h | h | h | h <;> omega
    · exact lay_octs _ _ x hx
    · exact lay_octs _ _ x hx
  · omega
  · omega
  · exact hWn
  · exact getD_mid (a := body vals ++ tab start W pl) (c := lay (vals.length : Int) 8 ++ lay Tb 8) (by simp [file]) (by rw [hlen, List.length_append]; omega)
  · rw [cut_mid (ns := file vals pl start W Tb) (a := body vals ++ tab start W pl ++ [W]) (b := lay (vals.length : Int) 8) (c := lay Tb 8) (by rw [file]) (by rw [hlen, List.length_append, List.length_append, List.length_singleton]; omega) (by rw [lay_len]; rfl)]
    exact num_lay 8 _ (by omega) (by have : (256 : Int) ^ 8 = 18446744073709551616 := by decide
                                     omega)
  · rw [cut_mid (a := body vals ++ tab start W pl ++ [W] ++ lay (vals.length : Int) 8) (b := lay Tb 8) (c := []) (by simp [file]) (by rw [hlen]; simp only [List.length_append, lay_len, List.length_singleton]; omega) (by rw [lay_len]; rfl)]
    exact num_lay 8 _ (by omega) (by have : (256 : Int) ^ 8 = 18446744073709551616 := by decide
                                     omega)
  · exact hl
  · omega
  · rw [hlen]; omega
  · intro i hi
    have hi2 : i < pl.length := by rw [hp.1]; exact hi
    have hvi := hv vals[i] (List.getElem_mem hi)
    have ep := split_at pl i hi2
    have ev := split_at vals i hi
    have hpi : pl[i] = ((body (vals.take i)).length : Int) := by
      have := hp.2 i hi
      rw [List.getElem?_eq_getElem hi2] at this
      exact Option.some.inj this
    have eb : body vals = body (vals.take i) ++ (mk (sz vals[i]) :: lay vals[i] (sz vals[i]).toNat ++ body (vals.drop (i + 1))) :=
      (congrArg body ev).trans (body_app _ _ _)
    have et : tab start W pl = tab start W (pl.take i) ++ (lay (start + pl[i]) W.toNat ++ tab start W (pl.drop (i + 1))) :=
      (congrArg (tab start W) ep).trans (tab_app _ _ _ _ _)
    have hbl := congrArg List.length eb
    simp only [List.length_append, List.length_cons, lay_len] at hbl
    have hWc : ((W.toNat : Nat) : Int) = W := by rcases hWn with h | h | h | h <;> rw [h] <;> rfl
    refine ⟨start + pl[i], vals[i], ?_, ?_, ?_, ?_, ?_⟩
    · rw [cut_mid (a := body vals ++ tab start W (pl.take i)) (b := lay (start + pl[i]) W.toNat) (c := tab start W (pl.drop (i + 1)) ++ [W] ++ lay (vals.length : Int) 8 ++ lay Tb 8) (by rw [file, et]; simp) (by
        rw [List.length_append, tab_len, List.length_take, Nat.min_eq_left (by omega)]
        push_cast
        rw [hWc, hT]; omega) (by rw [lay_len, hWc])]
      exact num_lay _ _ (by omega) (by omega)
    · omega
    · rw [hT, hpi]; omega
    · rw [List.take_add_one, List.getElem?_eq_getElem hi]; rfl
    · have e1 : start + pl[i] - start = ((body (vals.take i)).length : Int) := by omega
      rw [e1]
      have eg : file vals pl start W Tb = body (vals.take i) ++ mk (sz vals[i]) :: (lay vals[i] (sz vals[i]).toNat ++ (body (vals.drop (i + 1)) ++ tab start W pl ++ [W] ++ lay (vals.length : Int) 8 ++ lay Tb 8)) := by
        rw [file, eb]; simp
      have ec : file vals pl start W Tb = (body (vals.take i) ++ [mk (sz vals[i])]) ++ lay vals[i] (sz vals[i]).toNat ++ (body (vals.drop (i + 1)) ++ tab start W pl ++ [W] ++ lay (vals.length : Int) 8 ++ lay Tb 8) := by
        rw [eg]; simp
      have gd : (file vals pl start W Tb).getD ((body (vals.take i)).length : Int).toNat 0 = mk (sz vals[i]) := getD_mid eg (by rw [Int.toNat_natCast])
      have hx : ((body (vals.take i)).length : Int) + 1 = ((body (vals.take i) ++ [mk (sz vals[i])]).length : Int) := by rw [List.length_append, List.length_singleton]; rfl
      have nm : ∀ s : Int, sz vals[i] = s → 0 ≤ s → num (cut (file vals pl start W Tb) (((body (vals.take i)).length : Int) + 1) s) = vals[i] := fun s hs h0 => by
        rw [cut_mid ec hx (by rw [lay_len, hs]; omega)]
        exact num_lay _ _ hvi.1 (sz_pow hvi.2)
      have up : ∀ (s h : Int), sz vals[i] = s → 0 ≤ h → (h + h = s) → 256 ^ h.toNat ≤ vals[i] → ((cut (file vals pl start W Tb) (((body (vals.take i)).length : Int) + 1) h).any fun x => x != 0) = true := fun s h hs h0 h2 hg => by
        rw [cut_part ec hx h0 (by rw [lay_len, hs]; omega)]
        have e : (sz vals[i]).toNat = h.toNat + h.toNat := by rw [hs]; omega
        have hlt := sz_pow hvi.2
        rw [e] at hlt ⊢
        exact upper_some _ _ _ hg hlt
      rw [gd]
      have f2 : Int.fdiv 2 2 = 1 := rfl
      have f4 : Int.fdiv 4 2 = 2 := rfl
      have f8 : Int.fdiv 8 2 = 4 := rfl
      rw [f2, f4, f8]
      have p1 : (256 : Int) ^ (1 : Int).toNat = 256 := by decide
      have p2 : (256 : Int) ^ (2 : Int).toNat = 65536 := by decide
      have p4 : (256 : Int) ^ (4 : Int).toNat = 4294967296 := by decide
      rcases sz_in vals[i] with h | h | h | h
      · exact .inl ⟨by rw [h]; rfl, nm 1 h (by decide)⟩
      · exact .inr (.inl ⟨by rw [h]; rfl, up 2 1 h (by decide) rfl (by rw [p1]; exact sz_low2 h), nm 2 h (by decide)⟩)
      · exact .inr (.inr (.inl ⟨by rw [h]; rfl, up 4 2 h (by decide) rfl (by rw [p2]; exact sz_low4 h), nm 4 h (by decide)⟩))
      · exact .inr (.inr (.inr ⟨by rw [h]; rfl, up 8 4 h (by decide) rfl (by rw [p4]; exact sz_low8 h), nm 8 h (by decide)⟩))

def VOk (rs pre : List Int) : Prop := rs.length = pre.length + 2 ∧ ∀ v ∈ rs, 0 ≤ v ∧ v < 18446744073709551616

theorem vok_start : VOk [255, 256] [] := ⟨rfl, fun v hv => by
  simp only [List.mem_cons, List.not_mem_nil, or_false] at hv
  omega⟩

theorem vok_next {rs pre : List Int} {n v : Int} (h : VOk rs pre) (hv : 0 ≤ v ∧ v < 18446744073709551616) : VOk (rs ++ [v]) (pre ++ [n]) := by
  refine ⟨by rw [List.length_append, List.length_append, h.1, List.length_singleton, List.length_singleton], fun x hx => ?_⟩
  rcases List.mem_append.mp hx with hx | hx
  · exact h.2 x hx
  · rw [List.mem_singleton.mp hx]; exact hv

theorem v1 {q : Int} : 0 ≤ q.fmod (2 ^ Int.toNat 64) ∧ q.fmod (2 ^ Int.toNat 64) < 18446744073709551616 := by
  have e : (2 : Int) ^ Int.toNat 64 = 18446744073709551616 := by decide
  rw [e]
  exact (fdiv_fmod_facts q 18446744073709551616).2.2.1 (by decide)

theorem v2 {q : Int} : 0 ≤ q.fmod 70000 ∧ q.fmod 70000 < 18446744073709551616 := by
  have h := (fdiv_fmod_facts q 70000).2.2.1 (by decide)
  omega

theorem v3 {q k : Int} : 0 ≤ (if 2 ^ Int.toNat 64 - 1 < 256 ^ k.toNat + q.fmod 3 - 1 then 2 ^ Int.toNat 64 - 1 else 256 ^ k.toNat + q.fmod 3 - 1) ∧ (if 2 ^ Int.toNat 64 - 1 < 256 ^ k.toNat + q.fmod 3 - 1 then 2 ^ Int.toNat 64 - 1 else 256 ^ k.toNat + q.fmod 3 - 1) < 18446744073709551616 := by
  have e : (2 : Int) ^ Int.toNat 64 = 18446744073709551616 := by decide
  rw [e]
  have h := (fdiv_fmod_facts q 3).2.2.1 (by decide)
  have p : (0 : Int) < 256 ^ k.toNat := Int.pow_pos (by decide)
  generalize (256 : Int) ^ k.toNat = z at p
  split <;> omega

abbrev ValSt := List Value × List Int × Nat

section

variable {prog : Program} {w : World} {A : Around} {E : Value → Shared → Prop} {s : Shared} {env : Env} {h₀ : Heap} {x : PySem.Str} {body : List Stmt} {Q : Flow → Shared → Prop}

theorem val_loop {l D : Addr} {vs us₀ : List Value} {ns : List Int} {m₀ : PySem.Str → Option Value} {cn : Nat}
    (hh : A.handled = none) (hl : h₀.IsList l vs.toArray) (hi : IntsAre vs ns) (hn : ns.length ≤ 63) (F : Fr h₀ env.locals s.heap m₀) (N : News h₀ env.locals s.heap [(D, listOf us₀.toArray cn)]) (h0 : IntsAre us₀ [255, 256])
    (turn : ∀ (us : List Value) (rs : List Int) (c : Nat) (pre : List Int) (n : Int) t (u : PySem.Str → Option Value) h tk own, IntsAre us rs → VOk rs pre → us.length ≤ 100 → (∀ p ∈ own, p.1 ≠ D) →
      Fr h₀ env.locals h (fun y => if y = x then some (.int n t) else kstB (fun z => if ([PySem.Str.ofString "q", PySem.Str.ofString "r"] : List PySem.Str).contains z then u z else m₀ z) [] y) → News h₀ env.locals h ((D, listOf us.toArray c) :: own) →
      wpAny (model prog w) A (execs body env) (InvPostN h₀ env.locals (KstS (fun c : ValSt => [(D, listOf c.1.toArray c.2.2)]) (fun _ => []) (fun c => IntsAre c.1 c.2.1) x [PySem.Str.ofString "q", PySem.Str.ofString "r"] m₀ (fun pre c => VOk c.2.1 pre) (pre ++ [n])) own ([(D, listOf us₀.toArray cn)].map (·.1)) { s with heap := h, toks := tk } Q) E { s with heap := h, toks := tk })
    (done : ∀ (us : List Value) (rs : List Int) (c : Nat) (u : PySem.Str → Option Value) h tk, IntsAre us rs → VOk rs ns → Fr h₀ env.locals h (fun y => if y = x then u y else kstB (fun z => if ([PySem.Str.ofString "q", PySem.Str.ofString "r"] : List PySem.Str).contains z then u z else m₀ z) [] y) → News h₀ env.locals h [(D, listOf us.toArray c)] → Q .next { s with heap := h, toks := tk }) :
    wpAny (model prog w) A (pyIter (.ref l)) (fun it s₂ => LoopAtV prog w A h₀ env x body Q E it s₂) E s := by
  refine kst_list (σ := ValSt) (fun c => [(D, listOf c.1.toArray c.2.2)]) (fun _ => []) (fun c => IntsAre c.1 c.2.1) [PySem.Str.ofString "q", PySem.Str.ofString "r"] (fun pre c => VOk c.2.1 pre) (us₀, [255, 256], cn) hh hl hi F N h0 no_ps vok_start ?_ ?_
  · rintro ⟨us, rs, c⟩ pre post n t u h tk own e _ hoff hf hP FT NT
    dsimp only at hf hP
    refine turn us rs c pre n t u h tk own hf hP ?_ (fun p hp => hoff p hp D List.mem_cons_self) FT NT
    rw [hf.length, hP.1]
    rw [e, List.length_append] at hn
    omega
  · rintro ⟨us, rs, c⟩ u h tk hf hP FT NT
    exact done us rs c u h tk hf hP FT NT

end

theorem val_end {h₀ : Heap} {L D : Addr} {x : PySem.Str} {stored : List PySem.Str} {m₀ m' : PySem.Str → Option Value} {rs pre : List Int} {n v : Int} {us us₀ : List Value} {t : Tok} {c' cn tk : Nat} {own : List (Addr × Obj)} {s₁ : Shared} {h' : Heap}
    (F : Fr h₀ L h' m') (N : News h₀ L h' ((D, listOf (us ++ [Value.int v t]).toArray c') :: own)) (hr : ∀ z, z ≠ x → stored.contains z = false → m' z = m₀ z) (h : IntsAre us rs) (hP : VOk rs pre) (hv : 0 ≤ v ∧ v < 18446744073709551616) :
    InvEndN h₀ L (KstS (fun c : ValSt => [(D, listOf c.1.toArray c.2.2)]) (fun _ => []) (fun c => IntsAre c.1 c.2.1) x stored m₀ (fun pre c => VOk c.2.1 pre) (pre ++ [n])) own ([(D, listOf us₀.toArray cn)].map (·.1)) s₁ { s₁ with heap := h', toks := tk } :=
  kst_end (us ++ [Value.int v t], rs ++ [v], c') F N (fun p hp => by rw [List.mem_singleton.mp hp]; exact List.mem_cons_self) (fun _ hp => List.mem_cons_of_mem _ hp) rfl (ints_app h (.cons _ _ .nil)) no_ps (fun z h1 _ h3 => hr z h1 h3) (vok_next hP hv)

theorem my_append {prog : Program} {w : World} {A : Around} {E : Value → Shared → Prop} {s : Shared} {h₀ : Heap} {L D : Addr} {m : PySem.Str → Option Value} {news news' : List (Addr × Obj)} {us : List Value} {x : Value} {n : Nat} {Q : Value → Shared → Prop}
    (F : Fr h₀ L s.heap m) (N : News h₀ L s.heap news) (U : Upd D (listOf us.toArray n) (listOf (us ++ [x]).toArray (n + 1)) news news') (hz : us.length ≤ sizeLine)
    (h : ∀ h', Fr h₀ L h' m → News h₀ L h' news' → Q .none { s with heap := h' }) : wpAny (model prog w) A (call (.builtin "list.append") [.ref D, x]) Q E s :=
  append_K (its := us.toArray) F N (by have e : us.toArray.push x = (us ++ [x]).toArray := by simp
                                       rw [e]; exact U) h (by simpa using hz)

/-- the data and the places, as the first loop fills them -/
abbrev FillSt := List Value × Nat × List Value × Nat

def FOk (_vals : List Int) (pre : List Int) (c : FillSt) : Prop := IntsAre c.1 (body pre) ∧ ∃ pn, IntsAre c.2.2.1 pn ∧ Places pre pn

section

variable {prog : Program} {w : World} {A : Around} {E : Value → Shared → Prop} {s : Shared} {env : Env} {h₀ : Heap} {x : PySem.Str} {body' : List Stmt} {Q : Flow → Shared → Prop}

theorem fill_loop {VL DT PL : Addr} {vs : List Value} {vals : List Int} {m₀ : PySem.Str → Option Value} {vc dc pc : Nat}
    (hh : A.handled = none) (hi : IntsAre vs vals) (hv : ∀ v ∈ vals, 0 ≤ v ∧ v < 18446744073709551616) (hl : vals.length ≤ 65) (F : Fr h₀ env.locals s.heap m₀)
    (N : News h₀ env.locals s.heap [(PL, listOf (List.toArray []) pc), (DT, listOf (List.toArray []) dc), (VL, listOf vs.toArray vc)])
    (turn : ∀ (ds : List Value) (dc' : Nat) (ps : List Value) (pc' : Nat) (pn pre : List Int) (v : Int) t (u : PySem.Str → Option Value) h tk own, IntsAre ds (body pre) → IntsAre ps pn → Places pre pn → ds.length ≤ 600 → (body pre).length ≤ 600 → ps.length ≤ 65 → 0 ≤ v → v < 18446744073709551616 → OwnOff own [PL, DT, VL] →
      Fr h₀ env.locals h (fun y => if y = x then some (.int v t) else kstB (fun z => if ([PySem.Str.ofString "width"] : List PySem.Str).contains z then u z else m₀ z) [] y) → News h₀ env.locals h ((PL, listOf ps.toArray pc') :: (DT, listOf ds.toArray dc') :: (VL, listOf vs.toArray vc) :: own) →
      wpAny (model prog w) A (execs body' env) (InvPostN h₀ env.locals (KstS (fun c : FillSt => [(PL, listOf c.2.2.1.toArray c.2.2.2), (DT, listOf c.1.toArray c.2.1), (VL, listOf vs.toArray vc)]) (fun _ => []) (fun _ => True) x [PySem.Str.ofString "width"] m₀ (FOk vals) (pre ++ [v])) own [PL, DT, VL] { s with heap := h, toks := tk } Q) E { s with heap := h, toks := tk })
    (done : ∀ (ds : List Value) (dc' : Nat) (ps : List Value) (pc' : Nat) (pn : List Int) (u : PySem.Str → Option Value) h tk, IntsAre ds (body vals) → IntsAre ps pn → Places vals pn → vals.length ≤ 65 → (body vals).length ≤ 600 → ds.length ≤ 600 →
      Fr h₀ env.locals h (fun y => if y = x then u y else kstB (fun z => if ([PySem.Str.ofString "width"] : List PySem.Str).contains z then u z else m₀ z) [] y) → News h₀ env.locals h [(PL, listOf ps.toArray pc'), (DT, listOf ds.toArray dc'), (VL, listOf vs.toArray vc)] → Q .next { s with heap := h, toks := tk }) :
    wpAny (model prog w) A (pyIter (.ref VL)) (fun it s₂ => LoopAtV prog w A h₀ env x body' Q E it s₂) E s := by
  refine kst_listL (σ := FillSt) (fun c => [(PL, listOf c.2.2.1.toArray c.2.2.2), (DT, listOf c.1.toArray c.2.1), (VL, listOf vs.toArray vc)]) (fun _ => []) (fun _ => True) [PySem.Str.ofString "width"] (FOk vals) ([], dc, [], pc) hh (fun _ => List.mem_cons_of_mem _ (List.mem_cons_of_mem _ List.mem_cons_self)) hi F N trivial no_ps ⟨.nil, [], .nil, places_nil⟩ ?_ ?_
  · rintro ⟨ds, dc', ps, pc'⟩ pre post v t u h tk own e hm hoff _ ⟨h1, pn, h2, h3⟩ FT NT
    dsimp only at h1 h2
    have hb := body_len pre
    have hlen : pre.length ≤ 64 := by
      rw [e, List.length_append, List.length_cons] at hl
      omega
    exact turn ds dc' ps pc' pn pre v t u h tk own h1 h2 h3 (by rw [h1.length]; omega) (by omega) (by rw [h2.length, h3.1]; omega) (hv v hm).1 (hv v hm).2 hoff FT NT
  · rintro ⟨ds, dc', ps, pc'⟩ u h tk _ ⟨h1, pn, h2, h3⟩ FT NT
    dsimp only at h1 h2
    have hb := body_len vals
    exact done ds dc' ps pc' pn u h tk h1 h2 h3 hl (by omega) (by rw [h1.length]; omega) FT NT

end

theorem fill_end {h₀ : Heap} {L VL DT PL : Addr} {x : PySem.Str} {stored : List PySem.Str} {m₀ m' : PySem.Str → Option Value} {vals pn pre : List Int} {v n m k : Int} {vs ds ps ws : List Value} {t t' : Tok} {vc c1 c2 tk : Nat} {own led : List (Addr × Obj)} {s₁ : Shared} {h' : Heap}
    (F : Fr h₀ L h' m') (N : News h₀ L h' led) (q1 : (PL, listOf (ps ++ [Value.int n t]).toArray c1) ∈ led) (q2 : (DT, listOf ((ds ++ [Value.int m t']) ++ ws).toArray c2) ∈ led) (q3 : (VL, listOf vs.toArray vc) ∈ led) (ho : ∀ p ∈ own, p ∈ led)
    (hr : ∀ z, z ≠ x → stored.contains z = false → m' z = m₀ z) (h1 : IntsAre ds (body pre)) (h2 : IntsAre ps pn) (h3 : Places pre pn) (hn : n = ((body pre).length : Int)) (hz : sz v = k) (hm : m = mk k) (hw : IntsAre ws (lay v k.toNat)) :
    InvEndN h₀ L (KstS (fun c : FillSt => [(PL, listOf c.2.2.1.toArray c.2.2.2), (DT, listOf c.1.toArray c.2.1), (VL, listOf vs.toArray vc)]) (fun _ => []) (fun _ => True) x stored m₀ (FOk vals) (pre ++ [v])) own [PL, DT, VL] s₁ { s₁ with heap := h', toks := tk } := by
  subst hz
  refine kst_end ((ds ++ [Value.int m t']) ++ ws, c2, ps ++ [Value.int n t], c1) F N (fun p hp => ?_) ho rfl trivial no_ps (fun z g1 _ g3 => hr z g1 g3) ⟨?_, pn ++ [n], ints_app h2 (.cons _ _ .nil), ?_⟩
  · simp only [List.mem_cons, List.not_mem_nil, or_false] at hp
    rcases hp with rfl | rfl | rfl
    · exact q1
    · exact q2
    · exact q3
  · rw [body_snoc]
    have e : body pre ++ enc v = (body pre ++ [m]) ++ lay v (sz v).toNat := by rw [hm]; simp [enc]
    rw [e]
    exact ints_app (ints_app h1 (.cons _ _ .nil)) hw
  · rw [hn]; exact places_snoc h3

theorem lay_ne {ws : List Value} {v k : Int} (h : IntsAre ws (lay v k.toNat)) (hk : 0 < k.toNat) : ws.length ≠ 0 := by
  rw [h.length, lay_len]; omega

theorem ext_sz {ds ws : List Value} {x : Value} {v k : Int} (hd : ds.length ≤ 600) (h : IntsAre ws (lay v k.toNat)) (hk : k.toNat ≤ 8) : (ds ++ [x]).length + ws.length ≤ sizeLine := by
  rw [h.length, lay_len, sizeLine_eq, List.length_append, List.length_singleton]; omega

theorem get_mk {prog : Program} {w : World} {A : Around} {E : Value → Shared → Prop} {s : Shared} {d : Addr} {D : List (PyData × PyData)} {k x : Int} {u : Tok} {Q : Value → Shared → Prop}
    (T : TabAt (intKind prog w) PyData.int s.heap d D) (hl : PySem.Spec.lookup (PyData.int k) D = some (PyData.int x)) (h : ∀ t, Q (.int x t) { s with toks := s.toks + 1 }) :
    wpAny (model prog w) A (getItem (.ref d) (.int k u)) Q E s :=
  getItem_tab PyProof.V.same_int (intKind_is _ _ _ _) T hl fun v hv => by
    obtain ⟨t, e⟩ := PyProof.V.Flat.int_inv hv
    subst e
    exact h t

theorem mk1 : (16 : Int) = mk 1 := rfl

theorem mk2 : (17 : Int) = mk 2 := rfl

theorem mk4 : (18 : Int) = mk 4 := rfl

theorem mk8 : (19 : Int) = mk 8 := rfl

section

variable {prog : Program} {w : World} {A : Around} {E : Value → Shared → Prop} {s : Shared} {h₀ : Heap} {L : Addr} {m : PySem.Str → Option Value} {news : List (Addr × Obj)}

theorem border_in {i : Nat} (h : i < 4) : 0 ≤ ([0, 256, 65536, 2 ^ Int.toNat 32] : List Int).getD i 0 ∧ ([0, 256, 65536, 2 ^ Int.toNat 32] : List Int).getD i 0 ≤ 4294967296 := by
  have e : (2 : Int) ^ Int.toNat 32 = 4294967296 := by decide
  rw [e]
  have : i = 0 ∨ i = 1 ∨ i = 2 ∨ i = 3 := by omega
  rcases this with rfl | rfl | rfl | rfl <;> decide

/-- the border, an item of a written tuple: its bounds alone -/
theorem border_is {value slice : PySem.Expr} {l : Addr} {vs : List Value} {q : Int} {u : Tok} {Q : Value → Shared → Prop} (ht : IsTup s.heap l vs.toArray) (hi : IntsAre vs [0, 256, 65536, 2 ^ Int.toNat 32])
    (h : ∀ b t, 0 ≤ b → b ≤ 4294967296 → Q (.int b t) s)
    (hs : subscripted slice false (.ref l) (.int (q.fmod 4) u) = operate [.ref l, .int (q.fmod 4) u] (getItem (.ref l) (.int (q.fmod 4) u)) := by with_unfolding_all rfl) :
    wpAny (model prog w) A (subscriptTail value slice (.ref l) (.int (q.fmod 4) u)) Q E s := by
  have f := (fdiv_fmod_facts q 4).2.2.1 (by decide)
  refine item_anyT ht hi f.1 (by simp only [List.length_cons, List.length_nil]; omega) (by omega) (fun t => ?_) hs
  have b := border_in (i := (q.fmod 4).toNat) (by omega)
  exact h _ t b.1 b.2

theorem st_le {b q n : Int} (hb : b ≤ 4294967296) (hn : 0 ≤ n) : b + q.fmod 3 - 1 - n ≤ 4294967299 := by
  have f := (fdiv_fmod_facts q 3).2.2.1 (by decide)
  omega

/-- max(0, b): its bounds alone -/
theorem max_is {b : Int} {t u : Tok} {Q : Value → Shared → Prop} (hh : A.handled = none) (F : Fr h₀ L s.heap m) (N : News h₀ L s.heap news) (hb : b ≤ 4294967299)
    (h : ∀ h' tk st t, Fr h₀ L h' m → News h₀ L h' news → 0 ≤ st → st ≤ 4294967299 → Q (.int st t) { s with heap := h', toks := tk }) :
    wpAny (model prog w) A (call (.builtin "max") [.int 0 t, .int b u]) Q E s :=
  max_two_N hh F N fun h' tk F' N' => h h' tk _ _ F' N' (by split <;> omega) (by split <;> omega)

end

abbrev TabSt := List Value × Nat

section

variable {prog : Program} {w : World} {A : Around} {E : Value → Shared → Prop} {s : Shared} {env : Env} {h₀ : Heap} {x : PySem.Str} {body' : List Stmt} {Q : Flow → Shared → Prop}

theorem tab_loop {VL DT PL : Addr} {vs ds₀ ps : List Value} {vals pn : List Int} {st W : Int} {m₀ : PySem.Str → Option Value} {vc dc₀ pc : Nat} {led : List (Addr × Obj)}
    (hh : A.handled = none) (hWz : sz (st + ((body vals).length : Int)) = W) (hV : IntsAre vs vals) (hD : IntsAre ds₀ (body vals)) (hP : IntsAre ps pn) (hPl : Places vals pn) (hl : vals.length ≤ 65) (hb6 : (body vals).length ≤ 600) (hW : W.toNat ≤ 8) (F : Fr h₀ env.locals s.heap m₀)
    (N : News h₀ env.locals s.heap led) (q1 : (PL, listOf ps.toArray pc) ∈ led) (q2 : (DT, listOf ds₀.toArray dc₀) ∈ led) (q3 : (VL, listOf vs.toArray vc) ∈ led)
    (turn : ∀ (ds : List Value) (dc : Nat) (pre : List Int) (p : Int) t (u : PySem.Str → Option Value) h tk own, IntsAre ds (body vals ++ tab st W pre) → ds.length ≤ 1200 → OwnOff own [PL, DT, VL] →
      Fr h₀ env.locals h (fun y => if y = x then some (.int p t) else kstB (fun z => if ([] : List PySem.Str).contains z then u z else m₀ z) [] y) → News h₀ env.locals h ((PL, listOf ps.toArray pc) :: (DT, listOf ds.toArray dc) :: (VL, listOf vs.toArray vc) :: own) →
      wpAny (model prog w) A (execs body' env) (InvPostN h₀ env.locals (KstS (fun c : TabSt => [(PL, listOf ps.toArray pc), (DT, listOf c.1.toArray c.2), (VL, listOf vs.toArray vc)]) (fun _ => []) (fun _ => True) x [] m₀ (fun pre c => IntsAre c.1 (body vals ++ tab st W pre)) (pre ++ [p])) own [PL, DT, VL] { s with heap := h, toks := tk } Q) E { s with heap := h, toks := tk })
    (done : ∀ (ds : List Value) (dc : Nat) (u : PySem.Str → Option Value) h tk, IntsAre ds (body vals ++ tab st W pn) → ds.length ≤ 1200 →
      Fr h₀ env.locals h (fun y => if y = x then u y else kstB (fun z => if ([] : List PySem.Str).contains z then u z else m₀ z) [] y) → News h₀ env.locals h [(PL, listOf ps.toArray pc), (DT, listOf ds.toArray dc), (VL, listOf vs.toArray vc)] → Q .next { s with heap := h, toks := tk }) :
    wpAny (model prog w) A (pyIter (.ref PL)) (fun it s₂ => LoopAtV prog w A h₀ env x body' Q E it s₂) E s := by
  have N' : News h₀ env.locals s.heap [(PL, listOf ps.toArray pc), (DT, listOf ds₀.toArray dc₀), (VL, listOf vs.toArray vc)] := fun p hp => by
    simp only [List.mem_cons, List.not_mem_nil, or_false] at hp
    rcases hp with rfl | rfl | rfl
    · exact N _ q1
    · exact N _ q2
    · exact N _ q3
  have len : ∀ (ds : List Value) (pre : List Int), IntsAre ds (body vals ++ tab st W pre) → pre.length ≤ 65 → ds.length ≤ 1200 := fun ds pre h hp => by
    rw [h.length, List.length_append, tab_len]
    have := Nat.mul_le_mul hp hW
    omega
  refine kst_listL (σ := TabSt) (fun c => [(PL, listOf ps.toArray pc), (DT, listOf c.1.toArray c.2), (VL, listOf vs.toArray vc)]) (fun _ => []) (fun _ => True) [] (fun pre c => IntsAre c.1 (body vals ++ tab st W pre)) (ds₀, dc₀) hh (fun _ => List.mem_cons_self) hP F N' trivial no_ps (by rw [tab, List.flatMap_nil, List.append_nil]; exact hD) ?_ ?_
  · rintro ⟨ds, dc⟩ pre post p t u h tk own e _ hoff _ h1 FT NT
    refine turn ds dc pre p t u h tk own h1 (len _ _ h1 ?_) hoff FT NT
    have := hPl.1
    rw [e, List.length_append] at this
    omega
  · rintro ⟨ds, dc⟩ u h tk _ h1 FT NT
    exact done ds dc u h tk h1 (len _ _ h1 (by rw [hPl.1]; exact hl)) FT NT

end

theorem tab_end {h₀ : Heap} {L VL DT PL : Addr} {x : PySem.Str} {stored : List PySem.Str} {m₀ m' : PySem.Str → Option Value} {vals pre : List Int} {st W p : Int} {vs ds ps ws : List Value} {vc pc c2 tk : Nat} {own led : List (Addr × Obj)} {s₁ : Shared} {h' : Heap}
    (F : Fr h₀ L h' m') (N : News h₀ L h' led) (q1 : (PL, listOf ps.toArray pc) ∈ led) (q2 : (DT, listOf (ds ++ ws).toArray c2) ∈ led) (q3 : (VL, listOf vs.toArray vc) ∈ led) (ho : ∀ p ∈ own, p ∈ led)
    (hr : ∀ z, z ≠ x → stored.contains z = false → m' z = m₀ z) (h1 : IntsAre ds (body vals ++ tab st W pre)) (hw : IntsAre ws (lay (st + p) W.toNat)) :
    InvEndN h₀ L (KstS (fun c : TabSt => [(PL, listOf ps.toArray pc), (DT, listOf c.1.toArray c.2), (VL, listOf vs.toArray vc)]) (fun _ => []) (fun _ => True) x stored m₀ (fun pre c => IntsAre c.1 (body vals ++ tab st W pre)) (pre ++ [p])) own [PL, DT, VL] s₁ { s₁ with heap := h', toks := tk } := by
  refine kst_end (ds ++ ws, c2) F N (fun p hp => ?_) ho rfl trivial no_ps (fun z g1 _ g3 => hr z g1 g3) ?_
  · simp only [List.mem_cons, List.not_mem_nil, or_false] at hp
    rcases hp with rfl | rfl | rfl
    · exact q1
    · exact q2
    · exact q3
  · rw [tab_snoc, ← List.append_assoc]
    exact ints_app h1 hw

theorem ext_sz2 {ds ws : List Value} {v k : Int} (hd : ds.length ≤ 1200) (h : IntsAre ws (lay v k.toNat)) (hk : k.toNat ≤ 8) : ds.length + ws.length ≤ sizeLine := by
  rw [h.length, lay_len, sizeLine_eq]; omega

theorem ext_sz3 {ds ws : List Value} {x : Value} {v k : Int} (hd : ds.length ≤ 1200) (h : IntsAre ws (lay v k.toNat)) (hk : k.toNat ≤ 8) : (ds ++ [x]).length + ws.length ≤ sizeLine := by
  rw [h.length, lay_len, sizeLine_eq, List.length_append, List.length_singleton]; omega

theorem ext_sz4 {ds us ws : List Value} {x : Value} {v k v' k' : Int} (hd : ds.length ≤ 1200) (h' : IntsAre us (lay v' k'.toNat)) (h : IntsAre ws (lay v k.toNat)) (hk' : k'.toNat ≤ 8) (hk : k.toNat ≤ 8) : ((ds ++ [x]) ++ us).length + ws.length ≤ sizeLine := by
  rw [h.length, lay_len, sizeLine_eq, List.length_append, List.length_append, List.length_singleton, h'.length, lay_len]; omega

theorem VOk.vals {rs pre : List Int} (h : VOk rs pre) : ∀ v ∈ rs, 0 ≤ v ∧ v < 18446744073709551616 := h.2

theorem VOk.len {rs pre : List Int} (h : VOk rs pre) (hn : ¬ (63 : Int) < (pre.length : Int)) : rs.length ≤ 65 := by
  have := h.1
  omega

/-- the file, as the walk has made it -/
theorem file_ints {ds us ws : List Value} {vals pn : List Int} {st W : Int} {t : Tok} (h1 : IntsAre ds (body vals ++ tab st W pn)) (h2 : IntsAre us (lay (vals.length : Int) (Int.toNat 8))) (h3 : IntsAre ws (lay (st + ((body vals).length : Int)) (Int.toNat 8))) :
    IntsAre (((ds ++ [.int W t]) ++ us) ++ ws) (file vals pn st W (st + ((body vals).length : Int))) :=
  ints_app (ints_app (ints_app h1 (.cons _ _ .nil)) h2) h3

theorem rd_here {rs ns pn : List Int} {st W : Int} (hPl : Places rs pn) (hP : VOk rs ns) (hl : rs.length ≤ 65) (hs : 0 ≤ st) (hs2 : st ≤ 4294967299) (hb6 : (body rs).length ≤ 600) (hW : sz (st + ((body rs).length : Int)) = W) :
    Rd (file rs pn st W (st + ((body rs).length : Int))) rs st W (st + ((body rs).length : Int)) :=
  rd_file hPl hl hP.2 hs rfl (by omega) hW.symm

theorem up2 {T : Int} (h : sz T = 2) (hT : T < 18446744073709551616) : ((lay T (Int.toNat 2)).take (Int.fdiv 2 2).toNat).any (fun x => x != 0) = true := by
  have p : (256 : Int) ^ 1 = 256 := by decide
  have q := sz_pow hT
  rw [h] at q
  exact upper_some 1 1 T (by rw [p]; exact sz_low2 h) q

theorem up4 {T : Int} (h : sz T = 4) (hT : T < 18446744073709551616) : ((lay T (Int.toNat 4)).take (Int.fdiv 4 2).toNat).any (fun x => x != 0) = true := by
  have p : (256 : Int) ^ 2 = 65536 := by decide
  have q := sz_pow hT
  rw [h] at q
  exact upper_some 2 2 T (by rw [p]; exact sz_low4 h) q

theorem up8 {T : Int} (h : sz T = 8) (hT : T < 18446744073709551616) : ((lay T (Int.toNat 8)).take (Int.fdiv 8 2).toNat).any (fun x => x != 0) = true := by
  have p : (256 : Int) ^ 4 = 4294967296 := by decide
  have q := sz_pow hT
  rw [h] at q
  exact upper_some 4 4 T (by rw [p]; exact sz_low8 h) q

end Mine
open Mine
local macro_rules | `(tactic| walk_at "call ref") => `(tactic| (
  k_here; (with_reducible show wpAny _ _ (call (Value.ref 42) [Value.int _ _]) _ _ _)
  k_dflt (refine' con_use (width_con _ _ _ _ _ _ _ _ ?kp) ?k1 ?k2 ?k3 ?k4 ?k5 ?kK ?kd ?ku ?_; (case k1 => k_asm); (case k2 => k_asm); (case k3 => k_asm); (case k4 => k_asm); (case k5 => k_asm); (case kK => first | exact rfl | assumption); (case kd => ktr_room); (case ku => ktr_units); (case kp => first | with_reducible assumption | exact rfl))
  intro t9 h9 tk9 F9 N9; (try dsimp only); (try k_fold)))
local macro_rules | `(tactic| walk_at "call ref") => `(tactic| (
  k_here; (with_reducible show wpAny _ _ (call (Value.ref 28) [Value.int _ _, Value.int _ _]) _ _ _)
  k_dflt (refine' con_use (lay_con _ _ _ _ _ _ _ _ _ ?kw) ?k1 ?k2 ?k3 ?k4 ?k5 ?kK ?kd ?ku ?_; (case k1 => k_asm); (case k2 => k_asm); (case k3 => k_asm); (case k4 => k_asm); (case k5 => k_asm); (case kw => first | assumption | exact wd1 | exact wd2 | exact wd4 | exact wd8); (case kK => first | exact rfl | assumption); (case kd => ktr_room); (case ku => ktr_units))
  intro D' ws' c' h' tk' F' N' l1 hI'; (try k_lt l1); (try dsimp only); (try k_fold)))
local macro_rules | `(tactic| walk_at "binaryOp Pow int int") => `(tactic| (
  k_here
  (with_reducible refine pow_int_small ?kb1 ?kb2 ?kb3 ?_)
  (case kb1 => decide)
  (case kb2 => decide)
  (case kb3 => decide)))
local macro_rules | `(tactic| walk_at "subscriptTail Tuple") => `(tactic| (
  k_here; (with_reducible show wpAny _ _ (subscriptTail _ _ (Value.ref _) (Value.int (Int.fmod _ 4) _)) _ _ _)
  (with_unfolding_all refine' border_is ?k1 ?k2 ?_; (case k1 => exact News.isTup (by k_asm) (by k_mem)); (case k2 => exact .cons _ _ (.cons _ _ (.cons _ _ (.cons _ _ .nil)))); k_whole)
  intro b9 t9 hb0 hb1))
namespace Mine

theorem half2 : (0 : Int) ≤ Int.fdiv 2 2 := by decide

theorem half4 : (0 : Int) ≤ Int.fdiv 4 2 := by decide

theorem half8 : (0 : Int) ≤ Int.fdiv 8 2 := by decide

end Mine
open Mine
local macro_rules | `(tactic| walk_at "subscriptTail Call") => `(tactic| (k_here; (with_reducible show wpAny _ _ (subscriptTail (PySem.Expr.Call _ _ _ _) _ _ _) _ _ _); k_dflt (refine kba_turn (value' := PySem.Expr.Name (PySem.Str.ofString "_") ⟨0, 0, 0, 0⟩) (fun _ => rfl) ?_)))
local macro_rules | `(tactic| walk_at "subscriptTail Name Slice ref ref") => `(tactic| (
  k_here; (with_reducible show wpAny _ _ (subscriptTail _ (PySem.Expr.Slice none _ none _) (Value.ref _) (Value.ref _)) _ _ _)
  k_dflt (refine' kmk_slice_ints ?F ?N ?l ?p ?q ?i ?m rfl ?_ ?s ?t ?z; (case F => k_asm); (case N => k_asm); (case l => kmk_list); (case p => kmk_part); (case q => kmk_part); (case i => l_ints); (case m => first | exact kmk_upto (by l_ints) half2 | exact kmk_upto (by l_ints) half4 | exact kmk_upto (by l_ints) half8); (case s => with_unfolding_all rfl); (case t => kmk_pure); (case z => exact kmk_sz (by l_ints) (by rw [sizeLine_eq, lay_len]; decide)))
  intro D' ws' h' F' N' l1 hI' _ _; (try k_lt l1); (try k_sweep)))
local macro_rules | `(tactic| walk_at "callWith builtin:list.append") => `(tactic| (k_here; (with_reducible show wpAny _ _ (callWith _ (Value.builtin _) _ (backTo _ (starEach (_ :: _) _)) []) _ _ _); k_dflt (refine callWith_method1 ?_)))
local macro_rules | `(tactic| walk_at "callWith builtin:list.extend") => `(tactic| (k_here; (with_reducible show wpAny _ _ (callWith _ (Value.builtin _) _ (backTo _ (starEach (_ :: _) _)) []) _ _ _); k_dflt (refine callWith_method1 ?_)))
local macro_rules | `(tactic| walk_at "getItem ref int") => `(tactic| (k_here; k_dflt (first | (refine' get_mk (x := 16) ?k1 ?k2 ?_; (case k1 => k_tabat); (case k2 => rfl); k_whole) | (refine' get_mk (x := 17) ?k1 ?k2 ?_; (case k1 => k_tabat); (case k2 => rfl); k_whole) | (refine' get_mk (x := 18) ?k1 ?k2 ?_; (case k1 => k_tabat); (case k2 => rfl); k_whole) | (refine' get_mk (x := 19) ?k1 ?k2 ?_; (case k1 => k_tabat); (case k2 => rfl); k_whole)); (rename PyProof.V.FlatPairs _ _ _ => xf9; clear xf9); (rename Obj.IsDictOf _ _ _ => xd9; clear xd9); intro t8; (try dsimp only)))
namespace Mine

end Mine
open Mine
set_option maxHeartbeats 8000000 in
theorem PySem.Challenge.cw_km0080_01_holds : PySem.Challenge.rw_km0080_01.Holds := by
  refine hd_01 ?_
  k_with_none
  k_with "call builtin:max" => (
    (with_reducible show wpAny _ _ (call (Value.builtin "max") [Value.int 0 _, Value.int _ _]) _ _ _)
    k_dflt (refine' max_is ?xmh ?xmF ?xmN ?xmb ?_; (case xmh => exact rfl); (case xmF => k_asm); (case xmN => k_asm); (case xmb => exact st_le (by assumption) (by omega)))
    intro h' tk' st t' F' N' hs0 hs1
    (try k_sweep)
    (rcases sz_in (st + ((body rs).length : Int)) with hW | hW | hW | hW)
    (rotate_left 1)
    (have hup := up2 hW (by omega))
    (rotate_left 1)
    (have hup := up4 hW (by omega))
    (rotate_left 1)
    (have hup := up8 hW (by omega))
    (rotate_left 1)
    all_goals ((try dsimp only); (try k_fold)))
  k_with "call builtin:list.extend" => (
    k_dflt (refine' my_extend ?xcF ?xcN ?xcb ?xcn ?xcU ?xcz ?_; (case xcF => k_asm); (case xcN => k_asm); (case xcb => k_mem); (case xcn => exact lay_ne (by assumption) (by decide)); (case xcU => k_upd); (case xcz => first | exact ext_sz (by assumption) (by assumption) (by decide) | exact ext_sz2 (by assumption) (by assumption) (by decide) | exact ext_sz3 (by assumption) (by assumption) (by decide) | exact ext_sz4 (by assumption) (by assumption) (by assumption) (by decide) (by decide)))
    intro h' F' N'
    (try k_sweep))
  k_with "call builtin:list.append" => (
    k_dflt (refine' my_append ?xbF ?xbN ?xbU ?xbz ?_; (case xbF => k_asm); (case xbN => k_asm); (case xbU => k_upd); (case xbz => (rw [sizeLine_eq]; omega)))
    intro h' F' N'
    (try k_sweep))
  k_with "call builtin:list.append" => (
    k_dflt (refine' append_keep (keep := own) ?xaF ?xaN ?xam ?xas ?xae ?xaz ?_; (case xaF => k_asm); (case xaN => k_asm); (case xam => k_mem); (case xas => intro p hp; k_mem); (case xae => exact hne); (case xaz => (rw [sizeLine_eq]; omega)))
    intro h' F' N'
    (try k_sweep))
  k_with "InvEndN" => (
    k_dflt (refine' fill_end ?yF ?yN ?y1 ?y2 ?y3 ?yo ?yr hD hP hPl ?yn hz ?ym ?yw; (case yF => assumption); (case yN => assumption); (case y1 => k_mem); (case y2 => k_mem); (case y3 => k_mem); (case yo => intro p hp; k_mem); (case yr => (intro z h1 h3; (simp only [List.contains_cons, List.contains_nil, Bool.or_false, Bool.or_eq_false_iff, beq_eq_false_iff_ne, ne_eq] at h3); simp [h1, h3, kstB]; done)); (case yn => exact rfl); (case ym => first | exact mk1 | exact mk2 | exact mk4 | exact mk8); (case yw => assumption)))
  k_with "InvEndN" => (
    k_dflt (refine' val_end ?yF ?yN ?yr hU hP ?yv; (case yF => assumption); (case yN => assumption); (case yr => (intro z h1 h3; (simp only [List.contains_cons, List.contains_nil, Bool.or_false, Bool.or_eq_false_iff, beq_eq_false_iff_ne, ne_eq] at h3); simp [h1, h3, kstB]; done)); (case yv => first | exact v1 | exact v2 | exact v3)))
  k_with "call ref" => (
    (with_reducible show wpAny _ _ (call (Value.ref 56) [Value.ref _, Value.int _ _]) _ _ _)
    (have R9 := rd_here hPl hP hl65 hs0 hs1 hb6 hW)
    k_dflt (refine' con_use (read_con _ _ _ _ _ _ _ _ _ _ _ _ _ _ ?km ?ki R9) ?k1 ?k2 ?k3 ?k4 ?k5 ?kK ?kd ?ku ?_; (case k1 => k_asm); (case k2 => k_asm); (case k3 => k_asm); (case k4 => k_asm); (case k5 => k_asm); (case km => k_mem); (case ki => exact file_ints (by assumption) (by assumption) (by assumption)); (case kK => first | exact rfl | assumption); (case kd => ktr_room); (case ku => ktr_units))
    clear R9
    intro D' ws' c' h' tk' F' N' l1 hI'
    (try k_lt l1)
    (try dsimp only)
    (try k_fold))
  k_with "InvEndN" => (
    k_dflt (refine' tab_end ?yF ?yN ?y1 ?y2 ?y3 ?yo ?yr hE ?yw; (case yF => assumption); (case yN => assumption); (case y1 => k_mem); (case y2 => k_mem); (case y3 => k_mem); (case yo => intro p hp; k_mem); (case yr => (intro z h1 h3; (simp only [List.contains_cons, List.contains_nil, Bool.or_false, Bool.or_eq_false_iff, beq_eq_false_iff_ne, ne_eq] at h3); simp [h1, h3, kstB]; done)); (case yw => assumption)))
  k_with "pyIter ref" => (k_of "place" => (
    (rename Fr _ _ _ _ => lF'); (rename News _ _ _ _ => lN')
    (with_unfolding_all refine' tab_loop (by rfl) hW hU hD hQ hPl hl65 hb6 ?xtw lF' lN' ?xt1 ?xt2 ?xt3 (fun ds dc pre p t u h tk own hE hds hoff FT NT => ?_) (fun ds dc u h tk hE hds FT NT => ?_))
    (case xtw => decide)
    (case xt1 => k_mem)
    (case xt2 => k_mem)
    (case xt3 => k_mem)
    all_goals (try k_fold)))
  k_with "pyIter ref" => (k_of "value" => (
    (rename Fr _ _ _ _ => lF'); (rename News _ _ _ _ => lN')
    (with_unfolding_all refine' fill_loop (by rfl) ?xfi ?xfv ?xfl lF' lN' (fun ds dc ps pc pn pre v t u h tk own hD hP hPl hd6 hb6 hp6 hv0 hv1 hoff FT NT => ?_) (fun ds dc ps pc pn u h tk hD hQ hPl hl65 hb6 hd6 FT NT => ?_))
    (case xfi => assumption)
    (case xfv => (apply VOk.vals; assumption))
    (case xfl => (refine' VOk.len ?xfa ?xfb; (case xfa => assumption); (case xfb => omega)))
    (rcases sz_in v with hz | hz | hz | hz)
    all_goals (try k_fold)))
  k_with "pyIter ref" => (k_of "n" => (
    (rename Fr _ _ _ _ => lF'); (rename News _ _ _ _ => lN')
    (with_unfolding_all refine' val_loop (by rfl) ?xvl ?xvi ?xvn lF' lN' ?xv0 (fun us rs c pre n t u h tk own hU hP hus hne FT NT => ?_) (fun us rs c u h tk hU hP FT NT => ?_))
    (case xvl => assumption)
    (case xvi => assumption)
    (case xvn => omega)
    (case xv0 => exact .cons _ _ (.cons _ _ .nil))
    all_goals (try k_fold)))
  k_go0
  (all_goals try k_fold)
  k_steps
  all_goals w_report
