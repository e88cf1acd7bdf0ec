import PyProof.Rows.All
import Wide.All
import OpenK.AllK
import Wide.FinOn
import PySem.Challenge.RW_km0080_03
open PySem PySem.W PySem.Spec PySem.Calls PyProof.Rows
set_option Elab.async false
set_option maxRecDepth 100000
namespace Mine
/-- what a call of the def at f is shown to do: from any caller's frame, k frames of room given, it comes back by Ret -/
abbrev Con (prog : Program) (w : World) (K : Frag) (p : Program) (loose : List PySem.Str) (mean : ExcName → Option Value) (mg mb : PySem.Str → Option Value) (f : Addr) (k : Nat) (news : List (Addr × Obj)) (vs : List Value)
    (Ret : Heap → Addr → (PySem.Str → Option Value) → Shared → (Value → Shared → Prop) → Prop) : Prop :=
  ∀ (dp un : Nat) (gd : Option (List Code)) (cn : PySem.Str) (cs : Scope) (a : Addr) (ccd : Value) (cl : List (PySem.Str × Addr)) (outer : List Env) (A₀ : Around) (base h₀ : Heap) (L : Addr) (m : PySem.Str → Option Value) (s : Shared) (Q E : Value → Shared → Prop),
    Below A₀ base outer h₀ → Fr h₀ L s.heap m → K.In h₀ → News h₀ L s.heap news → Top p loose mean mg mb h₀ → cs.kind = .function →
    dp + k < recursionLimit → un + 8 * k + 100 < cLine → Ret h₀ L m s Q →
      wpAny (model prog w) (ktrTop dp un gd cn cs L a ccd cl outer) (call (.ref f) vs) Q E s

/-- it comes back with the value R, nothing kept -/
abbrev RetS (news : List (Addr × Obj)) (R : Tok → Value) (h₀ : Heap) (L : Addr) (m : PySem.Str → Option Value) (s : Shared) (Q : Value → Shared → Prop) : Prop :=
  ∀ (t : Tok) (h' : Heap) (tk' : Nat), Fr h₀ L h' m → News h₀ L h' news → Q (R t) { s with heap := h', toks := tk' }

theorem con_use {prog : Program} {w : World} {K : Frag} {p : Program} {loose : List PySem.Str} {mean : ExcName → Option Value} {mg mb : PySem.Str → Option Value} {f : Addr} {k : Nat} {news : List (Addr × Obj)} {vs : List Value}
    {Ret : Heap → Addr → (PySem.Str → Option Value) → Shared → (Value → Shared → Prop) → Prop}
    {dp un : Nat} {gd : Option (List Code)} {cn : PySem.Str} {cs : Scope} {a : Addr} {ccd : Value} {cl : List (PySem.Str × Addr)} {outer : List Env} {A₀ : Around} {base h₀ : Heap} {L : Addr} {m : PySem.Str → Option Value} {s : Shared} {Q E : Value → Shared → Prop}
    (C : Con prog w K p loose mean mg mb f k news vs Ret) (B : Below A₀ base outer h₀) (F : Fr h₀ L s.heap m) (X : K.In h₀) (N : News h₀ L s.heap news) (T : Top p loose mean mg mb h₀) (hk : cs.kind = .function) (hd : dp + k < recursionLimit) (hu : un + 8 * k + 100 < cLine)
    (hret : Ret h₀ L m s Q) : wpAny (model prog w) (ktrTop dp un gd cn cs L a ccd cl outer) (call (.ref f) vs) Q E s :=
  C _ _ _ _ _ _ _ _ _ _ _ _ _ _ _ _ _ B F X N T hk hd hu hret

/-- it comes back with a list of the ints ns -/
abbrev RetL (news : List (Addr × Obj)) (ns : List Int) (h₀ : Heap) (L : Addr) (m : PySem.Str → Option Value) (s : Shared) (Q : Value → Shared → Prop) : Prop :=
  ∀ (D : Addr) (vs : List Value) (c : Nat) (h' : Heap) (tk' : Nat), Fr h₀ L h' m → News h₀ L h' ((D, listOf vs.toArray c) :: news) → (∀ p ∈ news, p.1 < D) → IntsAre vs ns → Q (.ref D) { s with heap := h', toks := tk' }

/-- it comes back with a pair of ints of which P holds -/
abbrev RetP (news : List (Addr × Obj)) (P : Int → Int → Prop) (h₀ : Heap) (L : Addr) (m : PySem.Str → Option Value) (s : Shared) (Q : Value → Shared → Prop) : Prop :=
  ∀ (D : Addr) (a b : Int) (t u : Tok) (c : Nat) (h' : Heap) (tk' : Nat), Fr h₀ L h' m → News h₀ L h' ((D, ({ cls := .type "tuple", data := .seq #[.int a t, .int b u] c } : Obj)) :: news) → (∀ p ∈ news, p.1 < D) → P a b → Q (.ref D) { s with heap := h', toks := tk' }

theorem ints_app {us ws : List Value} {rs ks : List Int} (h : IntsAre us rs) (h' : IntsAre ws ks) : IntsAre (us ++ ws) (rs ++ ks) := by
  induction h with
  | nil => exact h'
  | cons n t _ ih => exact .cons n t ih

theorem my_extend {prog : Program} {w : World} {A : Around} {E : Value → Shared → Prop} {s : Shared} {h₀ : Heap} {L D b : Addr} {m : PySem.Str → Option Value} {news news' : List (Addr × Obj)} {us ws : List Value} {n n2 : Nat} {Q : Value → Shared → Prop}
    (F : Fr h₀ L s.heap m) (N : News h₀ L s.heap news) (hb : (b, listOf ws.toArray n2) ∈ news) (hne : ws.length ≠ 0) (U : Upd D (listOf us.toArray n) (listOf (us ++ ws).toArray (n + 1)) news news') (hz : us.length + ws.length ≤ sizeLine)
    (h : ∀ h', Fr h₀ L h' m → News h₀ L h' news' → Q .none { s with heap := h' }) : wpAny (model prog w) A (call (.builtin "list.extend") [.ref D, .ref b]) Q E s :=
  kl_extend F N hb rfl hne U (extend_door (by simpa using hz)) (by simp; omega) (by simp; omega) h

section

variable {prog : Program} {w : World} {A : Around} {E : Value → Shared → Prop} {s : Shared} {env : Env} {h₀ : Heap} {x : PySem.Str} {body : List Stmt} {Q : Flow → Shared → Prop}

/-- a loop over a made tuple of ints: the tuple leaves the ledger -/
theorem lp_tup {σ : Type} {D : Addr} {vs : List Value} {ns : List Int} {nn : Nat} {m₀ : PySem.Str → Option Value} (Led : σ → List (Addr × Obj)) (ps : σ → List (PySem.Str × Value)) (Facts : σ → Prop) (stored : List PySem.Str) (P : List Int → σ → Prop) (c₀ : σ)
    (hh : A.handled = none) (hi : IntsAre vs ns) (F : Fr h₀ env.locals s.heap m₀) (N : News h₀ env.locals s.heap ((D, ({ cls := .type "tuple", data := .seq vs.toArray nn } : Obj)) :: Led c₀)) (hD : ∀ q ∈ Led c₀, q.1 ≠ D) (hf : Facts c₀) (hk : ∀ p ∈ ps c₀, m₀ p.1 = some p.2) (hp : P [] c₀)
    (turn : ∀ (c : σ) pre n t (u : PySem.Str → Option Value) h tk own, n ∈ ns → OwnOff own ((Led c₀).map (·.1)) → Facts c → P pre c →
      Fr h₀ env.locals h (fun y => if y = x then some (.int n t) else kstB (fun z => if stored.contains z then u z else m₀ z) (ps c) y) → News h₀ env.locals h (Led c ++ own) →
      wpAny (model prog w) A (execs body env) (InvPostN h₀ env.locals (KstS Led ps Facts x stored m₀ P (pre ++ [n])) own ((Led c₀).map (·.1)) { s with heap := h, toks := tk } Q) E { s with heap := h, toks := tk })
    (done : ∀ (c : σ) (u : PySem.Str → Option Value) h tk, Facts c → P ns c → Fr h₀ env.locals h (fun y => if y = x then u y else kstB (fun z => if stored.contains z then u z else m₀ z) (ps c) y) → News h₀ env.locals h (Led c) → Q .next { s with heap := h, toks := tk }) :
    wpAny (model prog w) A (pyIter (.ref D)) (fun it s₂ => LoopAtV prog w A h₀ env x body Q E it s₂) E s := by
  have hD0 := N _ (List.mem_cons_self)
  have ht : s.heap.IsTuple D vs.toArray := ⟨_, hD0.1, rfl, nn, rfl⟩
  have hne : D ≠ s.heap.objs.size := Nat.ne_of_lt (Heap.lt_size hD0.1)
  have N' : News h₀ env.locals s.heap (Led c₀) := fun p hp => N p (List.mem_cons_of_mem _ hp)
  have hlen : vs.toArray.size = ns.length := by simp [hi.length]
  refine wpAny_pyIter_tuple ht ?_
  refine loop_invN (fun i m nx => KstS Led ps Facts x stored m₀ P (ns.take i) m nx) (Walks.tuple (prog := prog) (w := w) hh s.heap.objs.size D hne vs.toArray) ?_ ?_ ?_ ?_
    ⟨⟨_, Heap.get?_push_size _ rfl, rfl, rfl⟩, ht.at fun o e => Heap.get?_push_of_some _ e⟩ (F.push _) (fun p hp => ⟨Heap.get?_push_of_some _ (N' p hp).1, (N' p hp).2⟩) ⟨c₀, rfl, hf, hk, fun _ _ _ _ => rfl, by simpa using hp⟩ ?_ ?_
  · intro hm
    rcases List.mem_cons.mp hm with e | hm
    · exact absurd F.ns.lt (e ▸ Nat.lt_irrefl _)
    · exact hD0.2.1 (List.mem_singleton.mp hm).symm
  · intro b hb
    rw [List.mem_singleton.mp hb]
    exact next_is_new F
  · intro p hp hI
    exact absurd (Heap.lt_size (N' p hp).1) ((List.mem_singleton.mp hI) ▸ Nat.lt_irrefl _)
  · intro q hq hI
    rcases List.mem_cons.mp hI with e | hm
    · exact absurd (Heap.lt_size (N' q hq).1) (e ▸ Nat.lt_irrefl _)
    · exact hD q hq (List.mem_singleton.mp hm)
  · rintro i v m₁ nx h tk own hin hP _ hoff ⟨c, rfl, hf', h1, h2, hp'⟩ F₁ N₁
    rw [hlen] at hin
    obtain ⟨t, hx⟩ := hi.get i ns[i] (List.getElem?_eq_getElem hin)
    have hv : v = .int ns[i] t := by
      have hP' : vs[i]? = some v := by rw [← hP]; exact (List.getElem?_toArray ..).symm
      rw [hx] at hP'; exact (Option.some.inj hP').symm
    subst hv
    have hs : ns.take (i + 1) = ns.take i ++ [ns[i]] := by rw [List.take_add_one, List.getElem?_eq_getElem hin]; rfl
    rw [hs]
    exact turn c _ _ t m₁ h tk own (List.getElem_mem hin) hoff hf' hp' (kst_fr h1 h2 F₁) N₁
  · rintro m₁ nx h tk ⟨c, rfl, hf', h1, h2, hp'⟩ F₁ N₁
    rw [hlen, List.take_length] at hp'
    exact done c m₁ h tk hf' hp' (kst_frOut h1 h2 F₁) N₁

end

set_option maxRecDepth 100000 in
set_option maxHeartbeats 8000000 in
open_top hd_03 for PySem.Challenge.rw_km0080_03

def sz (n : Int) : Int := if n < 256 then 1 else if n < 65536 then 2 else if n < 4294967296 then 4 else 8

theorem sz_in (n : Int) : sz n = 1 ∨ sz n = 2 ∨ sz n = 4 ∨ sz n = 8 := by
  unfold sz
  split
  · omega
  · split
    · omega
    · split <;> omega

set_option maxHeartbeats 8000000 in
theorem size_con (w : World) (mean : ExcName → Option Value) (mg mb : PySem.Str → Option Value) (news : List (Addr × Obj)) (n : Int) (t : Tok) :
    Con PySem.Challenge.rw_km0080_03.row.prog w (hd_03.heap_39 w.params) hd_03.view_39 (looseW hd_03.view_39 []) mean mg mb 21 1 news [.int n t] (RetS news fun t => .int (sz n) t) := by
  k_fill
  k_with_none
  k_with "tree" => simp only [sz]
  dsimp only [Con, RetS]
  intros
  rename_i hret
  refine wpAny_call ?_
  k_dflt cell_enter
  k_steps
  all_goals cb_end hret

end Mine
open Mine
local macro_rules | `(tactic| walk_at "call ref") => `(tactic| (
  k_here; (with_reducible show wpAny _ _ (call (Value.ref 21) [Value.int _ _]) _ _ _)
  k_dflt (refine' con_use (size_con _ _ _ _ _ _ _) ?k1 ?k2 ?k3 ?k4 ?k5 ?kK ?kd ?ku ?_; (case k1 => k_asm); (case k2 => k_asm); (case k3 => k_asm); (case k4 => k_asm); (case k5 => k_asm); (case kK => first | exact rfl | assumption); (case kd => ktr_room); (case ku => ktr_units))
  intro t9 h9 tk9 F9 N9; (try dsimp only); (try k_fold)))
namespace Mine

set_option maxHeartbeats 8000000 in
theorem width_con (w : World) (mean : ExcName → Option Value) (mg mb : PySem.Str → Option Value) (news : List (Addr × Obj)) (n k : Int) (t : Tok) (hs : sz n = k) :
    Con PySem.Challenge.rw_km0080_03.row.prog w (hd_03.heap_39 w.params) hd_03.view_39 (looseW hd_03.view_39 []) mean mg mb 28 2 news [.int n t] (RetS news fun t => .int k t) := by
  k_fill
  k_with_none
  have h4 := sz_in n
  rw [hs] at h4
  subst hs
  dsimp only [Con, RetS]
  intros
  rename_i hret
  refine wpAny_call ?_
  k_dflt cell_enter
  k_steps
  all_goals cb_end hret

end Mine
open Mine
local macro_rules | `(tactic| walk_at "call ref") => `(tactic| (
  k_here; (with_reducible show wpAny _ _ (call (Value.ref 28) [Value.int _ _]) _ _ _)
  k_dflt (refine' con_use (width_con _ _ _ _ _ _ _ _ ?kp) ?k1 ?k2 ?k3 ?k4 ?k5 ?kK ?kd ?ku ?_; (case k1 => k_asm); (case k2 => k_asm); (case k3 => k_asm); (case k4 => k_asm); (case k5 => k_asm); (case kK => first | exact rfl | assumption); (case kd => ktr_room); (case ku => ktr_units); (case kp => first | k_extra "width" | exact rfl))
  intro t9 h9 tk9 F9 N9; (try dsimp only); (try k_fold)))
local macro_rules | `(tactic| walk_at $s:str) => `(tactic| k_extra $s)
namespace Mine

def Room (n : Int) : Prop := Builtin.Int.intBits n ≤ 4194304

theorem sz_ge (n : Int) : 1 ≤ sz n := by rcases sz_in n with h | h | h | h <;> omega

theorem sz_1 {n : Int} (h : n < 256) : sz n = 1 := by unfold sz; rw [if_pos h]

theorem sz_2 {n : Int} (h : 256 ≤ n) (h' : n < 65536) : sz n = 2 := by unfold sz; rw [if_neg (by omega), if_pos h']

theorem sz_4 {n : Int} (h : 65536 ≤ n) (h' : n < 4294967296) : sz n = 4 := by unfold sz; rw [if_neg (by omega), if_neg (by omega), if_pos h']

theorem sz_8 {n : Int} (h : 4294967296 ≤ n) : sz n = 8 := by unfold sz; rw [if_neg (by omega), if_neg (by omega), if_neg (by omega)]

theorem max_ok {a b h : Int} (ha : a ≤ h) (hb : b ≤ h) : decide ((if a > b then a else b) ≤ h) = true := by
  split <;> simp <;> omega

theorem min_ok {a b : Int} (ha : 1 ≤ a) (hb : 1 ≤ b) : decide (1 ≤ (if a < b then a else b)) = true := by
  split <;> simp <;> omega

theorem cut_2 {n : Int} (h : 256 ≤ n) (h' : n < 65536) : n.fdiv 256 ≠ 0 ∧ sz (n.fdiv 256) = 1 ∧ sz (n.fmod 256) = 1 := by
  have f := fdiv_fmod_facts n 256
  have f2 := f.2.2.1 (by decide)
  have f1 := f.1
  exact ⟨by omega, sz_1 (by omega), sz_1 (by omega)⟩

theorem sz_le2 {n : Int} (h : n < 65536) : sz n ≤ 2 := by
  by_cases g : n < 256
  · rw [sz_1 g]; decide
  · rw [sz_2 (by omega) h]; decide

theorem sz_le4 {n : Int} (h : n < 4294967296) : sz n ≤ 4 := by
  by_cases g : n < 65536
  · exact Int.le_trans (sz_le2 g) (by decide)
  · rw [sz_4 (by omega) h]; decide

theorem cut_4 {n : Int} (h : 65536 ≤ n) (h' : n < 4294967296) : n.fdiv 65536 ≠ 0 ∧ sz (n.fdiv 65536) ≤ 2 ∧ sz (n.fmod 65536) ≤ 2 := by
  have f := fdiv_fmod_facts n 65536
  have f2 := f.2.2.1 (by decide)
  have f1 := f.1
  exact ⟨by omega, sz_le2 (by omega), sz_le2 (by omega)⟩

theorem cut_8 {n : Int} (h : 4294967296 ≤ n) (h' : n < 18446744073709551616) : n.fdiv 4294967296 ≠ 0 ∧ sz (n.fdiv 4294967296) ≤ 4 ∧ sz (n.fmod 4294967296) ≤ 4 := by
  have f := fdiv_fmod_facts n 4294967296
  have f2 := f.2.2.1 (by decide)
  have f1 := f.1
  exact ⟨by omega, sz_le4 (by omega), sz_le4 (by omega)⟩

theorem p2 : (256 : Int) ^ (Int.fdiv 2 2).toNat = 256 := by decide

theorem p4 : (256 : Int) ^ (Int.fdiv 4 2).toNat = 65536 := by decide

theorem p8 : (256 : Int) ^ (Int.fdiv 8 2).toNat = 4294967296 := by decide

set_option maxHeartbeats 8000000 in
theorem cut_con (w : World) (mean : ExcName → Option Value) (mg mb : PySem.Str → Option Value) (news : List (Addr × Obj)) (n : Int) (t : Tok) :
    Con PySem.Challenge.rw_km0080_03.row.prog w (hd_03.heap_39 w.params) hd_03.view_39 (looseW hd_03.view_39 []) mean mg mb 42 3 news [.int n t] (RetS news fun _ => .bool true) := by
  k_fill
  k_with_none
  k_with "width" => assumption
  k_with "tree" => exact max_ok (by assumption) (by assumption)
  k_with "tree" => exact min_ok (sz_ge _) (sz_ge _)
  dsimp only [Con, RetS]
  intros
  rename_i hret
  have cases : (n < 256 ∧ sz n = 1) ∨
      (256 ≤ n ∧ n < 65536 ∧ sz n = 2 ∧ n.fdiv (256 ^ (Int.fdiv 2 2).toNat) ≠ 0 ∧ sz (n.fdiv (256 ^ (Int.fdiv 2 2).toNat)) ≤ Int.fdiv 2 2 ∧ sz (n.fmod (256 ^ (Int.fdiv 2 2).toNat)) ≤ Int.fdiv 2 2) ∨
      (256 ≤ n ∧ n < 4294967296 ∧ sz n = 4 ∧ n.fdiv (256 ^ (Int.fdiv 4 2).toNat) ≠ 0 ∧ sz (n.fdiv (256 ^ (Int.fdiv 4 2).toNat)) ≤ Int.fdiv 4 2 ∧ sz (n.fmod (256 ^ (Int.fdiv 4 2).toNat)) ≤ Int.fdiv 4 2) ∨
      (256 ≤ n ∧ n < 18446744073709551616 ∧ sz n = 8 ∧ n.fdiv (256 ^ (Int.fdiv 8 2).toNat) ≠ 0 ∧ sz (n.fdiv (256 ^ (Int.fdiv 8 2).toNat)) ≤ Int.fdiv 8 2 ∧ sz (n.fmod (256 ^ (Int.fdiv 8 2).toNat)) ≤ Int.fdiv 8 2) ∨
      (18446744073709551616 ≤ n ∧ sz n = 8 ∧ n.fdiv (256 ^ (Int.fdiv 8 2).toNat) ≠ 0) := by
    rw [p2, p4, p8]
    have e2 : Int.fdiv 2 2 = 1 := by decide
    have e4 : Int.fdiv 4 2 = 2 := by decide
    have e8 : Int.fdiv 8 2 = 4 := by decide
    rw [e2, e4, e8]
    by_cases h1 : n < 256
    · exact .inl ⟨h1, sz_1 h1⟩
    · by_cases h2 : n < 65536
      · have c := cut_2 (by omega) h2
        exact .inr (.inl ⟨by omega, h2, sz_2 (by omega) h2, c.1, by omega, by omega⟩)
      · by_cases h3 : n < 4294967296
        · have c := cut_4 (by omega) h3
          exact .inr (.inr (.inl ⟨by omega, h3, sz_4 (by omega) h3, c⟩))
        · by_cases h4 : n < 18446744073709551616
          · have c := cut_8 (by omega) h4
            exact .inr (.inr (.inr (.inl ⟨by omega, h4, sz_8 (by omega), c⟩)))
          · have f := fdiv_fmod_facts n 4294967296
            have f2 := f.2.2.1 (by decide)
            have f1 := f.1
            exact .inr (.inr (.inr (.inr ⟨by omega, sz_8 (by omega), by omega⟩)))
  refine wpAny_call ?_
  k_dflt cell_enter
  rcases cases with ⟨g1, gz⟩ | ⟨g1, g2, gz, g3, g4, g5⟩ | ⟨g1, g2, gz, g3, g4, g5⟩ | ⟨g1, g2, gz, g3, g4, g5⟩ | ⟨g1, gz, g3⟩
  all_goals k_steps
  all_goals cb_end hret

end Mine
open Mine
local macro_rules | `(tactic| walk_at "call builtin:len") => `(tactic| (
  k_here; (with_reducible show wpAny _ _ (call (Value.builtin "len") [Value.ref _]) _ _ _)
  k_dflt (refine' kst_len ?k1 ?k2 ?k3 ?k4 ?_; (case k1 => k_asm); (case k2 => k_mem); (case k3 => exact IntsAre.length (by assumption)); (case k4 => omega))
  k_whole))
local macro_rules | `(tactic| k_mem) => `(tactic| first | assumption | exact List.mem_cons_self | (refine' List.mem_cons_of_mem _ ?_; k_mem))
local macro_rules | `(tactic| is_list) => `(tactic| exact News.isList (by k_asm) (by k_mem))
local macro_rules | `(tactic| kst_same) => `(tactic| (
  intro z h1 h2 h3
  (try simp only [List.forall_mem_cons, List.not_mem_nil, false_implies, implies_true, and_true, ne_eq] at h2)
  (try simp only [List.contains_cons, List.contains_nil, Bool.or_false, Bool.or_eq_false_iff, beq_eq_false_iff_ne, ne_eq] at h3)
  simp [h1, h2, h3, kstB]; done))
namespace Mine

def joined (ns : List Int) (a b : Int) : Prop := 0 ≤ a ∧ b = sz a ∧ Builtin.Int.intBits a ≤ 100 * ns.length

/-- what is known of the join of a shorter row -/
def JoinAt (w : World) (mean : ExcName → Option Value) (mg mb : PySem.Str → Option Value) (N : Nat) : Prop := ∀ (news : List (Addr × Obj)) (rw : Addr) (vs : List Value) (ns : List Int) (c : Nat),
    (rw, listOf vs.toArray c) ∈ news → IntsAre vs ns → 0 < ns.length → ns.length < N → ns.length ≤ 65 →
    Con PySem.Challenge.rw_km0080_03.row.prog w (hd_03.heap_39 w.params) hd_03.view_39 (looseW hd_03.view_39 []) mean mg mb 35 (ns.length + 2) news [.ref rw] (RetP news (joined ns))

theorem JoinAt.use {w : World} {mean : ExcName → Option Value} {mg mb : PySem.Str → Option Value} {N : Nat} (h : JoinAt w mean mg mb N) {news : List (Addr × Obj)} {rw : Addr} {vs : List Value} {ns : List Int} {c : Nat}
    (hm : (rw, listOf vs.toArray c) ∈ news) (hi : IntsAre vs ns) (h0 : 0 < ns.length) (hN : ns.length < N) (h65 : ns.length ≤ 65) :
    Con PySem.Challenge.rw_km0080_03.row.prog w (hd_03.heap_39 w.params) hd_03.view_39 (looseW hd_03.view_39 []) mean mg mb 35 (ns.length + 2) news [.ref rw] (RetP news (joined ns)) := h _ _ _ _ _ hm hi h0 hN h65

theorem half_up {ns : List Int} (h : ns.length ≠ 1) (h0 : 0 < ns.length) : 0 < (ns.take (Int.fdiv (ns.length : Int) 2).toNat).length ∧ (ns.take (Int.fdiv (ns.length : Int) 2).toNat).length < ns.length := by
  have f := fdiv_fmod_facts (ns.length : Int) 2
  have f2 := f.2.2.1 (by decide)
  have f1 := f.1
  rw [List.length_take]
  omega

theorem half_down {ns : List Int} (h : ns.length ≠ 1) (h0 : 0 < ns.length) : 0 < (ns.drop (Int.fdiv (ns.length : Int) 2).toNat).length ∧ (ns.drop (Int.fdiv (ns.length : Int) 2).toNat).length < ns.length := by
  have f := fdiv_fmod_facts (ns.length : Int) 2
  have f2 := f.2.2.1 (by decide)
  have f1 := f.1
  rw [List.length_drop]
  omega

theorem half_ge {ns : List Int} : 0 ≤ Int.fdiv (ns.length : Int) 2 := by
  have f := fdiv_fmod_facts (ns.length : Int) 2
  have f2 := f.2.2.1 (by decide)
  have f1 := f.1
  omega

theorem half_lt {ns : List Int} (h0 : 0 < ns.length) : Int.fdiv (ns.length : Int) 2 < ns.length := by
  have f := fdiv_fmod_facts (ns.length : Int) 2
  have f2 := f.2.2.1 (by decide)
  have f1 := f.1
  omega

end Mine
open Mine
local macro_rules | `(tactic| walk_at "subscriptTail Name Slice ref ref") => `(tactic| (
  k_here; (with_reducible show wpAny _ _ (subscriptTail _ (PySem.Expr.Slice _ _ none _) (Value.ref _) (Value.ref _)) _ _ _)
  k_dflt (refine' kmk_slice_ints ?F ?N ?l ?p ?q ?i ?m rfl ?_ ?s ?t ?z; (case F => k_asm); (case N => k_asm); (case l => kmk_list); (case p => kmk_part); (case q => kmk_part); (case i => l_ints); (case m => first | exact kmk_upto (by l_ints) half_ge | exact kmk_from (by l_ints) half_ge); (case s => with_unfolding_all rfl); (case t => kmk_pure); (case z => exact kmk_sz (by l_ints) (by rw [sizeLine_eq]; omega)))
  intro D' ws' h' F' N' l1 hI' _ _; (try k_lt l1); (try k_sweep)))
local macro_rules | `(tactic| walk_at "call ref") => `(tactic| (
  k_here; (with_reducible show wpAny _ _ (call (Value.ref 35) [Value.ref _]) _ _ _)
  first
  | (exfalso; omega)
  | (k_dflt (refine' con_use (JoinAt.use ?kih ?km ?ki ?kp ?kl ?k65) ?k1 ?k2 ?k3 ?k4 ?k5 ?kK ?kd ?ku ?_; (case kih => assumption); (case k1 => k_asm); (case k2 => k_asm); (case k3 => k_asm); (case k4 => k_asm); (case k5 => k_asm); (case km => k_mem); (case ki => assumption); (case kp => first | assumption | k_extra "len"); (case kl => first | assumption | k_extra "len"); (case k65 => first | assumption | k_extra "len"); (case kK => first | exact rfl | assumption); (case kd => ktr_room); (case ku => ktr_units))
     intro D' a' b' t' u' c' h' tk' F' N' l1 hP'; (try k_lt l1); (obtain ⟨hP0, hP1, hP2⟩ := hP'); subst hP1; (try dsimp only); (try k_fold))))
namespace Mine

/-- the room of a joint: wide enough for both -/
def okRoom (a b r : Int) : Prop := (r = 1 ∨ r = 2 ∨ r = 4 ∨ r = 8) ∧ sz a ≤ r ∧ sz b ≤ r ∧ 0 ≤ a ∧ 0 ≤ b

theorem okRoom.one {a b r : Int} (h : okRoom a b r) : r = 1 ∨ r = 2 ∨ r = 4 ∨ r = 8 := h.1

theorem okRoom.nn {a b r : Int} (h : okRoom a b r) : 0 ≤ b := h.2.2.2.2

theorem room_start {a b : Int} (ha : 0 ≤ a) (hb : 0 ≤ b) : okRoom a b (if sz b > sz a then sz b else sz a) := by
  have h1 := sz_in a
  have h2 := sz_in b
  unfold okRoom
  split <;> omega

theorem room_next {a b r : Int} (h : okRoom a b r) : okRoom a b (if 2 * r < 8 then 2 * r else 8) := by
  unfold okRoom at *
  split <;> omega

theorem lt_1 {n : Int} (h : sz n ≤ 1) : n < 256 := by
  by_cases g : n < 256
  · exact g
  · exfalso
    unfold sz at h
    rw [if_neg g] at h
    split at h
    · omega
    · split at h <;> omega

theorem lt_2 {n : Int} (h : sz n ≤ 2) : n < 65536 := by
  by_cases g : n < 65536
  · exact g
  · exfalso
    unfold sz at h
    rw [if_neg (by omega), if_neg g] at h
    split at h <;> omega

theorem lt_4 {n : Int} (h : sz n ≤ 4) : n < 4294967296 := by
  by_cases g : n < 4294967296
  · exact g
  · exfalso
    unfold sz at h
    rw [if_neg (by omega), if_neg (by omega), if_neg g] at h
    omega

theorem room_cases {a b r : Int} (h : okRoom a b r) : (a = 0 ∧ (r = 1 ∨ r = 2 ∨ r = 4 ∨ r = 8)) ∨ (0 < a ∧ r = 1 ∧ a < 256 ∧ b < 256) ∨ (0 < a ∧ r = 2 ∧ a < 65536 ∧ b < 65536) ∨ (0 < a ∧ r = 4 ∧ a < 4294967296 ∧ b < 4294967296) ∨ (0 < a ∧ r = 8) := by
  obtain ⟨hr, h1, h2, h3, h4⟩ := h
  by_cases g : a = 0
  · exact .inl ⟨g, hr⟩
  · rcases hr with rfl | rfl | rfl | rfl
    · exact .inr (.inl ⟨by omega, rfl, lt_1 h1, lt_1 h2⟩)
    · exact .inr (.inr (.inl ⟨by omega, rfl, lt_2 h1, lt_2 h2⟩))
    · exact .inr (.inr (.inr (.inl ⟨by omega, rfl, lt_4 h1, lt_4 h2⟩)))
    · exact .inr (.inr (.inr (.inr ⟨by omega, rfl⟩)))

theorem join_0 {p b : Int} : sz (0 * p + b) = sz b := by rw [Int.zero_mul, Int.zero_add]

theorem e1 : (256 : Int) ^ (1 : Int).toNat = 256 := by decide

theorem e2 : (256 : Int) ^ (2 : Int).toNat = 65536 := by decide

theorem e4 : (256 : Int) ^ (4 : Int).toNat = 4294967296 := by decide

theorem e8 : (256 : Int) ^ (8 : Int).toNat = 18446744073709551616 := by decide

theorem join_1 {a b : Int} (h : 0 < a) (hb : 0 ≤ b) (h1 : a < 256) (h2 : b < 256) : sz (a * 256 ^ (1 : Int).toNat + b) = 2 := by
  rw [e1]; exact sz_2 (by omega) (by omega)

theorem join_2 {a b : Int} (h : 0 < a) (hb : 0 ≤ b) (h1 : a < 65536) (h2 : b < 65536) : sz (a * 256 ^ (2 : Int).toNat + b) = 4 := by
  rw [e2]; exact sz_4 (by omega) (by omega)

theorem join_4 {a b : Int} (h : 0 < a) (hb : 0 ≤ b) : sz (a * 256 ^ (4 : Int).toNat + b) = 8 := by
  rw [e4]; exact sz_8 (by omega)

theorem join_8 {a b : Int} (h : 0 < a) (hb : 0 ≤ b) : sz (a * 256 ^ (8 : Int).toNat + b) = 8 := by
  rw [e8]; exact sz_8 (by omega)

theorem join_mul {a p : Int} {k : Nat} (h : Builtin.Int.intBits a ≤ 100 * k) (hk : k ≤ 65) (hp : Builtin.Int.intBits p ≤ 100) : IntMulOk a p := mulOk_of_bits h hp (by omega)

theorem zero_mul_ok {r : Int} (h : r = 1 ∨ r = 2 ∨ r = 4 ∨ r = 8) : IntMulOk 0 (256 ^ r.toNat) := by
  rcases h with rfl | rfl | rfl | rfl <;> exact mulOk_of_bits (m := 10) (n := 100) (by decide) (by decide) (by decide)

theorem div_join {a b p : Int} (h0 : 0 ≤ b) (h1 : b < p) : (a * p + b).fdiv p = a ∧ (a * p + b).fmod p = b := by
  have f := fdiv_fmod_facts (a * p + b) p
  have f2 := f.2.2.1 (by omega)
  have f1 := f.1
  have e : ((a * p + b).fdiv p - a) * p = b - (a * p + b).fmod p := by rw [Int.sub_mul]; omega
  have hq : (a * p + b).fdiv p - a = 0 := by
    generalize (a * p + b).fdiv p - a = q at e
    rcases Int.lt_trichotomy q 0 with hq | hq | hq
    · have := Int.mul_le_mul_of_nonneg_right (show q ≤ -1 by omega) (show 0 ≤ p by omega)
      rw [Int.neg_mul, Int.one_mul] at this
      omega
    · exact hq
    · have := Int.mul_le_mul_of_nonneg_right (show 1 ≤ q by omega) (show 0 ≤ p by omega)
      rw [Int.one_mul] at this
      omega
  rw [hq, Int.zero_mul] at e
  exact ⟨by omega, by omega⟩

theorem dj1 {a b : Int} (h0 : 0 ≤ b) (h1 : b < 256) : (a * 256 ^ (1 : Int).toNat + b).fdiv (256 ^ (Int.fdiv 2 2).toNat) = a ∧ (a * 256 ^ (1 : Int).toNat + b).fmod (256 ^ (Int.fdiv 2 2).toNat) = b := by
  rw [e1, p2]; exact div_join h0 h1

theorem dj2 {a b : Int} (h0 : 0 ≤ b) (h1 : b < 65536) : (a * 256 ^ (2 : Int).toNat + b).fdiv (256 ^ (Int.fdiv 4 2).toNat) = a ∧ (a * 256 ^ (2 : Int).toNat + b).fmod (256 ^ (Int.fdiv 4 2).toNat) = b := by
  rw [e2, p4]; exact div_join h0 h1

theorem dj4 {a b : Int} (h0 : 0 ≤ b) (h1 : b < 4294967296) : (a * 256 ^ (4 : Int).toNat + b).fdiv (256 ^ (Int.fdiv 8 2).toNat) = a ∧ (a * 256 ^ (4 : Int).toNat + b).fmod (256 ^ (Int.fdiv 8 2).toNat) = b := by
  rw [e4, p8]; exact div_join h0 h1

theorem pair_same {prog : Program} {w : World} {A : Around} {E : Value → Shared → Prop} {s : Shared} {Q : Value → Shared → Prop} {h₀ : Heap} {L a b : Addr} {news : List (Addr × Obj)} {x y x' y' : Int} {t u t' u' : Tok} {c c' : Nat}
    (N : News h₀ L s.heap news) (ha : (a, ({ cls := .type "tuple", data := .seq #[.int x t, .int y u] c } : Obj)) ∈ news) (hb : (b, ({ cls := .type "tuple", data := .seq #[.int x' t', .int y' u'] c' } : Obj)) ∈ news) (e : x = x' ∧ y = y') (hu : A.units + 64 < cLine)
    (h : Q (.bool false) s) : wpAny (model prog w) A (compareOp .NotEq (.ref a) (.ref b)) Q E s := by
  obtain ⟨rfl, rfl⟩ := e
  refine ne_dataH (reads_tuple_at (N.get ha) rfl rfl (.cons (.int _ _) (.cons (.int _ _) .nil))) (reads_tuple_at (N.get hb) rfl rfl (.cons (.int _ _) (.cons (.int _ _) .nil))) rfl rfl hu ?_
  simpa [PyData.eqv, PyData.eqvAll] using h

end Mine
open Mine
local macro_rules | `(tactic| walk_at "compareOp NotEq ref ref") => `(tactic| (
  k_here; (with_reducible show wpAny _ _ (compareOp CmpOp.NotEq (Value.ref _) (Value.ref _)) _ _ _)
  k_dflt (refine' pair_same ?N ?a ?b ?e ?u ?_; (case N => k_asm); (case a => k_mem); (case b => k_mem); (case e => k_extra "pair"); (case u => ktr_units))))
namespace Mine

theorem oct_lt {x : Int} : x.fmod 256 < 256 := ((fdiv_fmod_facts x 256).2.2.1 (by decide)).2

theorem join_bits {ns : List Int} {k : Nat} {a b p : Int} (h1 : 0 < (ns.take k).length) (h2 : 0 < (ns.drop k).length) (ha : Builtin.Int.intBits a ≤ 100 * (ns.take k).length) (hb : Builtin.Int.intBits b ≤ 100 * (ns.drop k).length) (hp : Builtin.Int.intBits p ≤ 70) :
    Builtin.Int.intBits (a * p + b) ≤ 100 * ns.length := by
  have q := bits_add (bits_mul ha hp) hb
  have e : (ns.take k).length + (ns.drop k).length = ns.length := by rw [← List.length_append, List.take_append_drop]
  omega

theorem joined_one {ns : List Int} {x : Int} (h0 : 0 < ns.length) : joined ns (x.fmod 256) 1 := by
  have f := (fdiv_fmod_facts x 256).2.2.1 (by decide)
  refine ⟨f.1, (sz_1 f.2).symm, Nat.le_trans ((intBits_le_iff (m := 8)).mpr (by omega)) (by omega)⟩

theorem joined_pos {ns : List Int} {k : Nat} {a b p v : Int} (h1 : 0 < (ns.take k).length) (h2 : 0 < (ns.drop k).length) (ha : Builtin.Int.intBits a ≤ 100 * (ns.take k).length) (hb : Builtin.Int.intBits b ≤ 100 * (ns.drop k).length) (hp : Builtin.Int.intBits p ≤ 70)
    (ga : 0 ≤ a) (gb : 0 ≤ b) (gp : 0 ≤ p) (hv : sz (a * p + b) = v) : joined ns (a * p + b) v :=
  ⟨Int.add_nonneg (Int.mul_nonneg ga gp) gb, hv.symm, join_bits h1 h2 ha hb hp⟩

theorem pow_bits {r : Int} (h : r = 1 ∨ r = 2 ∨ r = 4 ∨ r = 8) : Builtin.Int.intBits (256 ^ r.toNat) ≤ 70 := by
  rcases h with rfl | rfl | rfl | rfl <;> decide

theorem pow_pos {r : Int} (h : r = 1 ∨ r = 2 ∨ r = 4 ∨ r = 8) : (0 : Int) ≤ 256 ^ r.toNat := by
  rcases h with rfl | rfl | rfl | rfl <;> decide

theorem news_pair {h₀ h : Heap} {L D : Addr} {o : Obj} {news led : List (Addr × Obj)} (N : News h₀ L h led) (hm : (D, o) ∈ led) (hs : ∀ p ∈ news, p ∈ led) : News h₀ L h ((D, o) :: news) := fun p hp => by
  rcases List.mem_cons.mp hp with rfl | hp
  · exact N _ hm
  · exact N p (hs p hp)

theorem room_mul {r : Int} (h : r = 1 ∨ r = 2 ∨ r = 4 ∨ r = 8) : IntMulOk 2 r := by
  rcases h with rfl | rfl | rfl | rfl <;> exact mulOk_of_bits (m := 10) (n := 10) (by decide) (by decide) (by decide)

end Mine
open Mine
local macro_rules | `(tactic| mul_fits) => `(tactic| first | exact room_mul (by assumption) | exact zero_mul_ok (by assumption) | exact join_mul (by assumption) (by omega) (by decide))
namespace Mine

section

variable {prog : Program} {w : World} {A : Around} {E : Value → Shared → Prop} {s : Shared} {env : Env} {h₀ : Heap} {x : PySem.Str} {body : List Stmt} {Q : Flow → Shared → Prop}

theorem room_loop {a b : Int} {tk₀ : Tok} {r : Addr} {a₀ b₀ : Int} {t₀ u₀ v₀ : Tok} {n : Nat} {m₀ : PySem.Str → Option Value} {news : List (Addr × Obj)}
    (hh : A.handled = none) (hr : IsRange s.heap r a₀ b₀ 1 t₀ u₀ v₀) (hsmall : Builtin.Range.small a₀ b₀ 1 = true) (hn : Builtin.Range.rangeSize a₀ b₀ 1 = (n : Int)) (F : Fr h₀ env.locals s.heap m₀) (N : News h₀ env.locals s.heap news)
    (hk : m₀ (PySem.Str.ofString "room") = some (.int (if sz b > sz a then sz b else sz a) tk₀)) (ha : 0 ≤ a) (hb : 0 ≤ b)
    (turn : ∀ (q : Int) (tq : Tok) (pre : List Int) (k : Int) t (u : PySem.Str → Option Value) h tk own, OwnOff own (news.map (·.1)) → okRoom a b q →
      Fr h₀ env.locals h (fun y => if y = x then some (.int k t) else kstB (fun z => if ([] : List PySem.Str).contains z then u z else m₀ z) [(PySem.Str.ofString "room", .int q tq)] y) → News h₀ env.locals h (news ++ own) →
      wpAny (model prog w) A (execs body env) (InvPostN h₀ env.locals (KstS (fun _ : Int × Tok => news) (fun c => [(PySem.Str.ofString "room", .int c.1 c.2)]) (fun _ => True) x [] m₀ (fun _ c => okRoom a b c.1) (pre ++ [k])) own (news.map (·.1)) { s with heap := h, toks := tk } Q) E { s with heap := h, toks := tk })
    (done : ∀ (q : Int) (tq : Tok) (u : PySem.Str → Option Value) h tk, okRoom a b q → Fr h₀ env.locals h (fun y => if y = x then u y else kstB (fun z => if ([] : List PySem.Str).contains z then u z else m₀ z) [(PySem.Str.ofString "room", .int q tq)] y) → News h₀ env.locals h news → Q .next { s with heap := h, toks := tk }) :
    wpAny (model prog w) A (pyIter (.ref r)) (fun it s₂ => LoopAtV prog w A h₀ env x body Q E it s₂) E s :=
  kst_range (σ := Int × Tok) (fun _ => news) (fun c => [(PySem.Str.ofString "room", .int c.1 c.2)]) (fun _ => True) [] (fun _ c => okRoom a b c.1) (if sz b > sz a then sz b else sz a, tk₀) hh hr hsmall hn F N trivial
    (fun p hp => by rw [List.mem_singleton.mp hp]; exact hk) (room_start ha hb)
    (fun c pre k t u h tk own _ _ hoff _ hP FT NT => turn c.1 c.2 pre k t u h tk own hoff hP FT NT) (fun c u h tk _ hP FT NT => done c.1 c.2 u h tk hP FT NT)

end

set_option maxHeartbeats 8000000 in
theorem join_con (w : World) (mean : ExcName → Option Value) (mg mb : PySem.Str → Option Value) (N : Nat) : JoinAt w mean mg mb N := by
  induction N with
  | zero => intro _ _ _ _ _ _ _ _ h; omega
  | succ N ih =>
  intro news rw vs ns c hm hi h0 hN h65
  k_fill
  k_with_none
  k_with "width" => (refine' sz_1 ?_; exact oct_lt)
  k_with "len" => first | exact hu1 | exact hu2 | exact hu3 | exact hd1 | exact hd2 | exact hd3
  k_with "width" => first | exact join_0 | (refine' join_1 ?_ ?_ ?_ ?_ <;> assumption) | (refine' join_2 ?_ ?_ ?_ ?_ <;> assumption) | (refine' join_4 ?_ ?_ <;> assumption) | (refine' join_8 ?_ ?_ <;> assumption)
  k_with "pair" => first | exact dj1 (by assumption) (by assumption) | exact dj2 (by assumption) (by assumption) | exact dj4 (by assumption) (by assumption)
  k_with "InvEndN" => ((rename News _ _ _ _ => nE'); refine kst_end (_, _) (by assumption) nE' (fun p hp => List.mem_append.mpr (.inl hp)) (fun p hp => List.mem_append.mpr (.inr hp)) rfl trivial (by kst_all) (by kst_same) (room_next (by assumption)))
  k_with "pyIter ref" => (
    (rename Fr _ _ _ _ => lF'); (rename News _ _ _ _ => lN'); (rename IsRange _ _ _ _ _ _ _ _ => rgX)
    (with_unfolding_all refine' room_loop (by rfl) (by first | exact rgX | assumption) ?xrs (by first | exact rangeSize_nat _ _ | rfl) lF' lN' (by rfl) ?xra ?xrb (fun r tr pre k tp u h tk own hoff hP FT NT => ?_) (fun r tr u h tk hP FT NT => ?_))
    (case xra => assumption)
    (case xrb => assumption)
    (case xrs => first | exact small_one (by omega) (by omega) (by omega) (by omega) | exact small_one (by l_bnd) (by l_bnd) (by l_bnd) (by l_bnd) | decide)
    (have hr1 := okRoom.one hP)
    rotate_left
    (have hb := okRoom.nn hP)
    (rcases room_cases hP with ⟨rfl, hr1⟩ | ⟨hz, rfl, g1, g2⟩ | ⟨hz, rfl, g1, g2⟩ | ⟨hz, rfl, g1, g2⟩ | ⟨hz, rfl⟩)
    all_goals (try k_fold))
  dsimp only [Con, RetP]
  intros
  rename_i hret
  refine wpAny_call ?_
  k_dflt cell_enter
  by_cases h1 : ns.length = 1
  · k_steps
    all_goals first
      | (exfalso; omega)
      | (rename _ ≠ _ => hne; exact absurd (by first | rfl | decide) hne)
      | (apply hret
         (k_asm)
         (apply news_pair)
         (k_asm)
         (k_mem)
         (intro p hp; k_mem)
         (first | assumption | exact kst_ltOf (by assumption) | ((iterate 8 (try (rename _ ∧ _ => qq; obtain ⟨_, qq⟩ := qq))); exact kst_ltOf (by assumption)))
         first
         | exact joined_one h0
         | (refine' joined_pos hu1 hd1 ?_ ?_ ?_ ?_ ?_ ?_ ?_ <;> first | assumption | exact pow_bits (by assumption) | exact pow_pos (by assumption) | decide | exact join_0 | exact join_1 hz hb g1 g2 | exact join_2 hz hb g1 g2 | exact join_4 hz hb | exact join_8 hz hb))
  · have hu := half_up h1 h0
    have hd := half_down h1 h0
    have hu1 := hu.1
    have hd1 := hd.1
    have hu2 : (ns.take (Int.fdiv (ns.length : Int) 2).toNat).length < N := by omega
    have hd2 : (ns.drop (Int.fdiv (ns.length : Int) 2).toNat).length < N := by omega
    have hu3 : (ns.take (Int.fdiv (ns.length : Int) 2).toNat).length ≤ 65 := by omega
    have hd3 : (ns.drop (Int.fdiv (ns.length : Int) 2).toNat).length ≤ 65 := by omega
    have hg : 0 ≤ Int.fdiv (ns.length : Int) 2 := half_ge
    have hl : Int.fdiv (ns.length : Int) 2 < ns.length := half_lt h0
    k_steps
    all_goals first
      | (exfalso; omega)
      | (rename _ ≠ _ => hne; exact absurd (by first | rfl | decide) hne)
      | (apply hret
         (k_asm)
         (apply news_pair)
         (k_asm)
         (k_mem)
         (intro p hp; k_mem)
         (first | assumption | exact kst_ltOf (by assumption) | ((iterate 8 (try (rename _ ∧ _ => qq; obtain ⟨_, qq⟩ := qq))); exact kst_ltOf (by assumption)))
         first
         | exact joined_one h0
         | (refine' joined_pos hu1 hd1 ?_ ?_ ?_ ?_ ?_ ?_ ?_ <;> first | assumption | exact pow_bits (by assumption) | exact pow_pos (by assumption) | decide | exact join_0 | exact join_1 hz hb g1 g2 | exact join_2 hz hb g1 g2 | exact join_4 hz hb | exact join_8 hz hb))

end Mine
open Mine
local macro_rules | `(tactic| walk_at "exec For Name Tuple cons nil") => `(tactic| (k_here; (rename Fr _ _ _ _ => lF'); (with_unfolding_all refine' For_invVF lF' ?k1 ?k2 ?_; (case k1 => exact rfl); (case k2 => exact rfl); k_whole)))
local macro_rules | `(tactic| walk_at "call ref") => `(tactic| (
  k_here; (with_reducible show wpAny _ _ (call (Value.ref 42) [Value.int _ _]) _ _ _)
  k_dflt (refine' con_use (cut_con _ _ _ _ _ _ _) ?k1 ?k2 ?k3 ?k4 ?k5 ?kK ?kd ?ku ?_; (case k1 => k_asm); (case k2 => k_asm); (case k3 => k_asm); (case k4 => k_asm); (case k5 => k_asm); (case kK => first | exact rfl | assumption); (case kd => ktr_room); (case ku => ktr_units))
  intro t9 h9 tk9 F9 N9; (try dsimp only); (try k_fold)))
local macro_rules | `(tactic| walk_at "call ref") => `(tactic| (
  k_here; (with_reducible show wpAny _ _ (call (Value.ref 35) [Value.ref _]) _ _ _)
  k_dflt (refine' con_use (join_con _ _ _ _ _ _ _ _ _ _ ?km ?ki ?kp (Nat.lt_succ_self _) ?k65) ?k1 ?k2 ?k3 ?k4 ?k5 ?kK ?kd ?ku ?_; (case k1 => k_asm); (case k2 => k_asm); (case k3 => k_asm); (case k4 => k_asm); (case k5 => k_asm); (case km => k_mem); (case ki => assumption); (case kp => (simp only [List.length_reverse, List.length_append, List.length_cons, List.length_nil]; omega)); (case k65 => (simp only [List.length_reverse, List.length_append, List.length_cons, List.length_nil]; omega)); (case kK => first | exact rfl | assumption); (case kd => ((try simp only [List.length_reverse, List.length_append, List.length_cons, List.length_nil]); ktr_room)); (case ku => ((try simp only [List.length_reverse, List.length_append, List.length_cons, List.length_nil]); ktr_units)))
  intro D' a' b' t' u' c' h' tk' F' N' l1 hP'; (try k_lt l1); (try dsimp only); (try k_fold)))
namespace Mine

theorem ext_script {prog : Program} {w : World} {A : Around} {E : Value → Shared → Prop} {s : Shared} {h₀ : Heap} {L D b : Addr} {m : PySem.Str → Option Value} {us vs : List Value} {rs ns : List Int} {n : Nat} {P : Params} {ds : List PyData} {Q : Value → Shared → Prop}
    (F : Fr h₀ L s.heap m) (N : News h₀ L s.heap [(D, listOf us.toArray n)]) (W : Well P h₀ (.ref b) (ofPy (PyData.list ds))) (hl : h₀.IsList b vs.toArray) (hi : IntsAre us rs) (hj : IntsAre vs ns) (hz : rs.length + ns.length ≤ sizeLine)
    (h : ∀ ws h' n', IntsAre ws (rs ++ ns) → Fr h₀ L h' m → News h₀ L h' [(D, listOf ws.toArray n')] → Q .none { s with heap := h' }) : wpAny (model prog w) A (call (.builtin "list.extend") [.ref D, .ref b]) Q E s := by
  have hb : s.heap.get? b = some { cls := .type "list", data := .seq vs.toArray } := by
    obtain ⟨o, ho, _, k, hd⟩ := hl
    cases W with
    | list hg _ =>
      rw [hg] at ho
      cases ho
      injection hd with e1 e2
      rw [e1] at hg
      exact F.keep _ _ hg
  refine extend_in (own := []) (rest := []) F N (fun _ h => nomatch h) (fun _ h => nomatch h) hb (fun h' n' F' N' => ?_) (by rw [List.size_toArray, hi.length, hj.length]; exact hz)
  exact h (us ++ vs) h' n' (ints_app hi hj) F' N'

end Mine
open Mine
set_option maxHeartbeats 8000000 in
theorem PySem.Challenge.cw_km0080_03_holds : PySem.Challenge.rw_km0080_03.Holds := by
  refine hd_03 ?_
  k_with_none
  k_with "call builtin:list.extend" => (
    k_dflt (refine' ext_script ?xeF ?xeN ?xeW ?xel ?xei ?xej ?xez ?_; (case xeF => k_asm); (case xeN => k_asm); (case xeW => assumption); (case xel => assumption); (case xei => exact .cons _ _ (.cons _ _ .nil)); (case xej => assumption); (case xez => (rw [sizeLine_eq, List.length_cons, List.length_cons, List.length_nil]; omega)))
    intro ws h' n' hRow F' N'
    have hR0 : 0 < (([1, 0] : List Int) ++ _).length := Nat.lt_of_lt_of_eq (Nat.zero_lt_succ _) (hRow.length.symm.trans hRow.length)
    skip)
  k_with "TurnEnd" => ((rename News _ _ _ _ => nE'); refine TurnEnd.intro (by assumption) nE' (by first | exact fun p hp => hp | k_sub) (by (intro z h1 h3; (simp only [List.contains_cons, List.contains_nil, Bool.or_false, beq_eq_false_iff_ne, ne_eq] at h3); simp [h1, h3, kstB]; done)))
  k_with "InvEndN" => ((rename News _ _ _ _ => nE'); refine kst_end () (by assumption) nE' (by kst_in) (by first | (intro p hp; kst_mem) | kst_anyIn) (by rfl) trivial (by kst_all) (by kst_same) trivial)
  k_with "pyIter ref" => (k_of "number" => (
    (rename Fr _ _ _ _ => lF'); (rename News _ _ _ _ => lN')
    (with_unfolding_all refine' lp_tup (σ := Unit) (fun _ => _) (fun _ => []) (fun _ => True) [] (fun _ _ => True) () (by rfl) ?xri lF' lN' ?xrd trivial ?xrk trivial (fun ca pre p2 tp u h tk own hmem hoff _ hP FT NT => ?_) (fun ca u h tk _ hP FT NT => ?_))
    (case xri => l_intsW)
    (case xrk => kst_all)
    (case xrd => k_all)
    (try simp only [List.cons_append, List.nil_append] at NT)
    all_goals (try k_fold)))
  k_go0
  (all_goals try k_fold)
  k_steps
  all_goals w_report
