import PyProof.Rows.All
import Wide.All
import OpenK.AllK
import Wide.FinOn
import PySem.Challenge.RW_km0080_02
open PySem PySem.W PySem.Spec PySem.Calls PyProof.Rows
set_option Elab.async false
set_option maxRecDepth 100000
namespace Mine
section

variable {prog : Program} {w : World} {A : Around} {E : Value → Shared → Prop} {s : Shared} {env : Env} {h₀ : Heap} {x : PySem.Str} {body : List Stmt} {Q : Flow → Shared → Prop}

/-- a loop over a made tuple of ints: the tuple leaves the ledger -/
theorem lp_tup {σ : Type} {D : Addr} {vs : List Value} {ns : List Int} {nn : Nat} {m₀ : PySem.Str → Option Value} (Led : σ → List (Addr × Obj)) (ps : σ → List (PySem.Str × Value)) (Facts : σ → Prop) (stored : List PySem.Str) (P : List Int → σ → Prop) (c₀ : σ)
    (hh : A.handled = none) (hi : IntsAre vs ns) (F : Fr h₀ env.locals s.heap m₀) (N : News h₀ env.locals s.heap ((D, ({ cls := .type "tuple", data := .seq vs.toArray nn } : Obj)) :: Led c₀)) (hD : ∀ q ∈ Led c₀, q.1 ≠ D) (hf : Facts c₀) (hk : ∀ p ∈ ps c₀, m₀ p.1 = some p.2) (hp : P [] c₀)
    (turn : ∀ (c : σ) pre n t (u : PySem.Str → Option Value) h tk own, n ∈ ns → OwnOff own ((Led c₀).map (·.1)) → Facts c → P pre c →
      Fr h₀ env.locals h (fun y => if y = x then some (.int n t) else kstB (fun z => if stored.contains z then u z else m₀ z) (ps c) y) → News h₀ env.locals h (Led c ++ own) →
      wpAny (model prog w) A (execs body env) (InvPostN h₀ env.locals (KstS Led ps Facts x stored m₀ P (pre ++ [n])) own ((Led c₀).map (·.1)) { s with heap := h, toks := tk } Q) E { s with heap := h, toks := tk })
    (done : ∀ (c : σ) (u : PySem.Str → Option Value) h tk, Facts c → P ns c → Fr h₀ env.locals h (fun y => if y = x then u y else kstB (fun z => if stored.contains z then u z else m₀ z) (ps c) y) → News h₀ env.locals h (Led c) → Q .next { s with heap := h, toks := tk }) :
    wpAny (model prog w) A (pyIter (.ref D)) (fun it s₂ => LoopAtV prog w A h₀ env x body Q E it s₂) E s := by
  have hD0 := N _ (List.mem_cons_self)
  have ht : s.heap.IsTuple D vs.toArray := ⟨_, hD0.1, rfl, nn, rfl⟩
  have hne : D ≠ s.heap.objs.size := Nat.ne_of_lt (Heap.lt_size hD0.1)
  have N' : News h₀ env.locals s.heap (Led c₀) := fun p hp => N p (List.mem_cons_of_mem _ hp)
  have hlen : vs.toArray.size = ns.length := by simp [hi.length]
  refine wpAny_pyIter_tuple ht ?_
  refine loop_invN (fun i m nx => KstS Led ps Facts x stored m₀ P (ns.take i) m nx) (Walks.tuple (prog := prog) (w := w) hh s.heap.objs.size D hne vs.toArray) ?_ ?_ ?_ ?_
    ⟨⟨_, Heap.get?_push_size _ rfl, rfl, rfl⟩, ht.at fun o e => Heap.get?_push_of_some _ e⟩ (F.push _) (fun p hp => ⟨Heap.get?_push_of_some _ (N' p hp).1, (N' p hp).2⟩) ⟨c₀, rfl, hf, hk, fun _ _ _ _ => rfl, by simpa using hp⟩ ?_ ?_
  · intro hm
    rcases List.mem_cons.mp hm with e | hm
    · exact absurd F.ns.lt (e ▸ Nat.lt_irrefl _)
    · exact hD0.2.1 (List.mem_singleton.mp hm).symm
  · intro b hb
    rw [List.mem_singleton.mp hb]
    exact next_is_new F
  · intro p hp hI
    exact absurd (Heap.lt_size (N' p hp).1) ((List.mem_singleton.mp hI) ▸ Nat.lt_irrefl _)
  · intro q hq hI
    rcases List.mem_cons.mp hI with e | hm
    · exact absurd (Heap.lt_size (N' q hq).1) (e ▸ Nat.lt_irrefl _)
    · exact hD q hq (List.mem_singleton.mp hm)
  · rintro i v m₁ nx h tk own hin hP _ hoff ⟨c, rfl, hf', h1, h2, hp'⟩ F₁ N₁
    rw [hlen] at hin
    obtain ⟨t, hx⟩ := hi.get i ns[i] (List.getElem?_eq_getElem hin)
    have hv : v = .int ns[i] t := by
      have hP' : vs[i]? = some v := by rw [← hP]; exact (List.getElem?_toArray ..).symm
      rw [hx] at hP'; exact (Option.some.inj hP').symm
    subst hv
    have hs : ns.take (i + 1) = ns.take i ++ [ns[i]] := by rw [List.take_add_one, List.getElem?_eq_getElem hin]; rfl
    rw [hs]
    exact turn c _ _ t m₁ h tk own (List.getElem_mem hin) hoff hf' hp' (kst_fr h1 h2 F₁) N₁
  · rintro m₁ nx h tk ⟨c, rfl, hf', h1, h2, hp'⟩ F₁ N₁
    rw [hlen, List.take_length] at hp'
    exact done c m₁ h tk hf' hp' (kst_frOut h1 h2 F₁) N₁

end

set_option maxRecDepth 100000 in
set_option maxHeartbeats 8000000 in
open_top hd_02 for PySem.Challenge.rw_km0080_02

/-- what a call of the def at f is shown to do: from any caller's frame, k frames of room given, it comes back by Ret -/
abbrev Con (prog : Program) (w : World) (K : Frag) (p : Program) (loose : List PySem.Str) (mean : ExcName → Option Value) (mg mb : PySem.Str → Option Value) (f : Addr) (k : Nat) (news : List (Addr × Obj)) (vs : List Value)
    (Ret : Heap → Addr → (PySem.Str → Option Value) → Shared → (Value → Shared → Prop) → Prop) : Prop :=
  ∀ (dp un : Nat) (gd : Option (List Code)) (cn : PySem.Str) (cs : Scope) (a : Addr) (ccd : Value) (cl : List (PySem.Str × Addr)) (outer : List Env) (A₀ : Around) (base h₀ : Heap) (L : Addr) (m : PySem.Str → Option Value) (s : Shared) (Q E : Value → Shared → Prop),
    Below A₀ base outer h₀ → Fr h₀ L s.heap m → K.In h₀ → News h₀ L s.heap news → Top p loose mean mg mb h₀ → cs.kind = .function →
    dp + k < recursionLimit → un + 8 * k < cLine → Ret h₀ L m s Q →
      wpAny (model prog w) (ktrTop dp un gd cn cs L a ccd cl outer) (call (.ref f) vs) Q E s

/-- it comes back with the value R, nothing kept -/
abbrev RetS (news : List (Addr × Obj)) (R : Tok → Value) (h₀ : Heap) (L : Addr) (m : PySem.Str → Option Value) (s : Shared) (Q : Value → Shared → Prop) : Prop :=
  ∀ (t : Tok) (h' : Heap) (tk' : Nat), Fr h₀ L h' m → News h₀ L h' news → Q (R t) { s with heap := h', toks := tk' }

theorem con_use {prog : Program} {w : World} {K : Frag} {p : Program} {loose : List PySem.Str} {mean : ExcName → Option Value} {mg mb : PySem.Str → Option Value} {f : Addr} {k : Nat} {news : List (Addr × Obj)} {vs : List Value}
    {Ret : Heap → Addr → (PySem.Str → Option Value) → Shared → (Value → Shared → Prop) → Prop}
    {dp un : Nat} {gd : Option (List Code)} {cn : PySem.Str} {cs : Scope} {a : Addr} {ccd : Value} {cl : List (PySem.Str × Addr)} {outer : List Env} {A₀ : Around} {base h₀ : Heap} {L : Addr} {m : PySem.Str → Option Value} {s : Shared} {Q E : Value → Shared → Prop}
    (C : Con prog w K p loose mean mg mb f k news vs Ret) (B : Below A₀ base outer h₀) (F : Fr h₀ L s.heap m) (X : K.In h₀) (N : News h₀ L s.heap news) (T : Top p loose mean mg mb h₀) (hk : cs.kind = .function) (hd : dp + k < recursionLimit) (hu : un + 8 * k < cLine)
    (hret : Ret h₀ L m s Q) : wpAny (model prog w) (ktrTop dp un gd cn cs L a ccd cl outer) (call (.ref f) vs) Q E s :=
  C _ _ _ _ _ _ _ _ _ _ _ _ _ _ _ _ _ B F X N T hk hd hu hret

def sz (n : Int) : Int := if n < 256 then 1 else if n < 65536 then 2 else if n < 4294967296 then 4 else 8

set_option maxHeartbeats 8000000 in
theorem size_con (w : World) (mean : ExcName → Option Value) (mg mb : PySem.Str → Option Value) (news : List (Addr × Obj)) (n : Int) (t : Tok) :
    Con PySem.Challenge.rw_km0080_02.row.prog w (hd_02.heap_39 w.params) hd_02.view_39 (looseW hd_02.view_39 []) mean mg mb 21 1 news [.int n t] (RetS news fun t => .int (sz n) t) := by
  k_fill
  k_with "tree" => simp only [sz]
  dsimp only [Con, RetS]
  intros
  rename_i hret
  refine wpAny_call ?_
  k_dflt cell_enter
  k_steps
  all_goals cb_end hret

end Mine
open Mine
local macro_rules | `(tactic| walk_at "call ref") => `(tactic| (
  k_here; (with_reducible show wpAny _ _ (call (Value.ref 21) [Value.int _ _]) _ _ _)
  k_dflt (refine' con_use (size_con _ _ _ _ _ _ _) ?k1 ?k2 ?k3 ?k4 ?k5 ?kK ?kd ?ku ?_; (case k1 => k_asm); (case k2 => k_asm); (case k3 => k_asm); (case k4 => k_asm); (case k5 => k_asm); (case kK => first | exact rfl | assumption); (case kd => ktr_room); (case ku => ktr_units))
  intro t9 h9 tk9 F9 N9; (try dsimp only); (try k_fold)))
namespace Mine

set_option maxHeartbeats 8000000 in
theorem same_con (w : World) (mean : ExcName → Option Value) (mg mb : PySem.Str → Option Value) (news : List (Addr × Obj)) (n k : Int) (t t' : Tok) (hs : sz n = k) :
    Con PySem.Challenge.rw_km0080_02.row.prog w (hd_02.heap_39 w.params) hd_02.view_39 (looseW hd_02.view_39 []) mean mg mb 28 2 news [.int n t, .int k t'] (RetS news fun _ => .bool true) := by
  k_fill
  k_with_none
  k_with "tree" => exact beq_iff_eq.mpr hs
  dsimp only [Con, RetS]
  intros
  rename_i hret
  refine wpAny_call ?_
  k_dflt cell_enter
  k_steps
  all_goals cb_end hret

/-- the bits that a number may have where it is squared -/
def Room (n : Int) : Prop := Builtin.Int.intBits n ≤ 4194304

theorem mul_ok {a b : Int} (ha : Room a) (hb : Room b) : IntMulOk a b := mulOk_of_bits ha hb (by decide)

theorem sz_low {n : Int} (h : n < 256) : sz n = 1 := by unfold sz; rw [if_pos h]

theorem sq_low {r m : Int} (h0 : 0 ≤ r) (h : r < 16) (hm : m ≤ 2 * r) : sz (r * r + m) = 1 := by
  refine sz_low ?_
  have h1 : r * r ≤ 15 * 15 := Int.mul_le_mul (by omega) (by omega) h0 (by omega)
  omega

theorem sq_lt {r m b : Int} (h0 : 0 ≤ r) (hm : m ≤ 2 * r) (hb : r < b) : r * r + m < b * b := by
  have h1 : (r + 1) * (r + 1) ≤ b * b := Int.mul_le_mul (by omega) (by omega) (by omega) (by omega)
  have h2 : (r + 1) * (r + 1) = r * r + 2 * r + 1 := by rw [Int.add_mul, Int.mul_add]; omega
  omega

theorem sq_ge {r m b : Int} (hb0 : 0 ≤ b) (hm : 0 ≤ m) (hb : b ≤ r) : b * b ≤ r * r + m := by
  have h1 : b * b ≤ r * r := Int.mul_le_mul hb hb hb0 (by omega)
  omega

theorem sq_high {r m : Int} (h : ¬ r < 16) (hm0 : 0 ≤ m) (hm : m ≤ 2 * r) : sz (r * r + m) = min 8 (2 * sz r) := by
  have g16 := sq_ge (b := 16) (by omega) hm0 (by omega : (16 : Int) ≤ r)
  have e1 := fun h => @sq_lt r m 256 (by omega) hm h
  have e2 := fun h => @sq_lt r m 65536 (by omega) hm h
  have e3 := fun h => @sq_lt r m 4294967296 (by omega) hm h
  have g1 := fun h => @sq_ge r m 256 (by omega) hm0 h
  have g2 := fun h => @sq_ge r m 65536 (by omega) hm0 h
  have g3 := fun h => @sq_ge r m 4294967296 (by omega) hm0 h
  generalize r * r + m = q at *
  unfold sz
  by_cases a1 : r < 256
  · have := e1 a1
    rw [if_pos a1, if_neg (by omega), if_pos (by omega)]; omega
  · have := g1 (by omega)
    by_cases a2 : r < 65536
    · have := e2 a2
      rw [if_neg a1, if_pos a2, if_neg (by omega), if_neg (by omega), if_pos (by omega)]; omega
    · have := g2 (by omega)
      by_cases a3 : r < 4294967296
      · rw [if_neg a1, if_neg a2, if_pos a3, if_neg (by omega), if_neg (by omega), if_neg (by omega)]; omega
      · rw [if_neg a1, if_neg a2, if_neg a3, if_neg (by omega), if_neg (by omega), if_neg (by omega)]; omega

theorem sq_high' {r m : Int} (h : ¬ r < 16) (hm0 : 0 ≤ m) (hm : m ≤ 2 * r) : sz (r * r + m) = if 2 * sz r < 8 then 2 * sz r else 8 := by
  rw [sq_high h hm0 hm]
  split <;> omega

end Mine
open Mine
local macro_rules | `(tactic| walk_at "call ref") => `(tactic| (
  k_here; (with_reducible show wpAny _ _ (call (Value.ref 28) [Value.int _ _, Value.int _ _]) _ _ _)
  k_dflt (refine' con_use (same_con _ _ _ _ _ _ _ _ _ ?kp) ?k1 ?k2 ?k3 ?k4 ?k5 ?kK ?kd ?ku ?_; (case k1 => k_asm); (case k2 => k_asm); (case k3 => k_asm); (case k4 => k_asm); (case k5 => k_asm); (case kK => first | exact rfl | assumption); (case kd => ktr_room); (case ku => ktr_units); (case kp => k_extra "width"))
  intro t9 h9 tk9 F9 N9; (try dsimp only); (try k_fold)))
local macro_rules | `(tactic| mul_fits) => `(tactic| exact mul_ok (by assumption) (by assumption))
namespace Mine

set_option maxHeartbeats 8000000 in
theorem over_con (w : World) (mean : ExcName → Option Value) (mg mb : PySem.Str → Option Value) (news : List (Addr × Obj)) (n k : Int) (t t' : Tok) (hR : Room n) (h0 : 0 ≤ n) (hk0 : 0 ≤ k) (hk1 : k ≤ 2 * n) :
    Con PySem.Challenge.rw_km0080_02.row.prog w (hd_02.heap_39 w.params) hd_02.view_39 (looseW hd_02.view_39 []) mean mg mb 35 3 news [.int n t, .int k t'] (RetS news fun _ => .bool true) := by
  k_fill
  k_with_none
  k_with "width" => exact sz_low (by omega)
  k_with "width" => exact sq_low h0 (by omega) hk1
  k_with "width" => exact sq_high' (by omega) hk0 hk1
  dsimp only [Con, RetS]
  intros
  rename_i hret
  refine wpAny_call ?_
  k_dflt cell_enter
  k_steps
  all_goals cb_end hret

end Mine
open Mine
local macro_rules | `(tactic| walk_at "call ref") => `(tactic| (
  k_here; (with_reducible show wpAny _ _ (call (Value.ref 35) [Value.int _ _, Value.int _ _]) _ _ _)
  k_dflt (refine' con_use (over_con _ _ _ _ _ _ _ _ _ ?kp ?kq ?kr ?ks) ?k1 ?k2 ?k3 ?k4 ?k5 ?kK ?kd ?ku ?_; (case k1 => k_asm); (case k2 => k_asm); (case k3 => k_asm); (case k4 => k_asm); (case k5 => k_asm); (case kK => first | exact rfl | assumption); (case kd => ktr_room); (case ku => ktr_units); (case kp => k_extra "room"); (case kq => k_extra "over"); (case kr => k_extra "over"); (case ks => k_extra "over"))
  intro t9 h9 tk9 F9 N9; (try dsimp only); (try k_fold)))
namespace Mine

theorem room_two : Room 2 := by unfold Room; decide

end Mine
open Mine
local macro_rules | `(tactic| mul_fits) => `(tactic| first | exact mul_ok (by assumption) (by assumption) | exact mul_ok room_two (by assumption))
local macro_rules | `(tactic| walk_at $s:str) => `(tactic| k_extra $s)
local macro_rules | `(tactic| kst_same) => `(tactic| (
  intro z h1 h2 h3
  (try simp only [List.forall_mem_cons, List.not_mem_nil, false_implies, implies_true, and_true, ne_eq] at h2)
  (try simp only [List.contains_cons, List.contains_nil, Bool.or_false, Bool.or_eq_false_iff, beq_eq_false_iff_ne, ne_eq] at h3)
  simp [h1, h2, h3, kstB]; done))
namespace Mine

def up : Nat → Int
  | 0 => 4097
  | i + 1 => up i * up i

def lo : Nat → Int
  | 0 => 16
  | i + 1 => lo i * lo i

def tw (n : Int) (pre : List Int) (c : Int × Tok) : Prop := 0 ≤ c.1 ∧ c.1 < up pre.length ∧ (16 ≤ n → lo pre.length ≤ c.1)

theorem room_up {a : Int} {i : Nat} (hi : i ≤ 5) (h0 : 0 ≤ a) (h : a < up i) : Room a := by
  refine Nat.le_trans ((intBits_le_iff (m := 450)).mpr ?_) (by decide)
  have hu : up i < 2 ^ 450 := by
    have : i = 0 ∨ i = 1 ∨ i = 2 ∨ i = 3 ∨ i = 4 ∨ i = 5 := by omega
    rcases this with e | e | e | e | e | e <;> subst e <;> decide
  omega

theorem tw_next {n a k : Int} {tk tk' : Tok} {pre : List Int} (p : Int) (h : tw n pre (a, tk)) (hk : k = p.fmod (2 * a + 1)) : tw n (pre ++ [p]) (a * a + k, tk') := by
  obtain ⟨h0, h1, h2⟩ := h
  dsimp only at h0 h1 h2
  have f := (fdiv_fmod_facts p (2 * a + 1)).2.2.1 (by omega)
  rw [← hk] at f
  unfold tw
  rw [List.length_append, List.length_singleton]
  refine ⟨?_, ?_, ?_⟩
  · have : 0 ≤ a * a := Int.mul_nonneg h0 h0
    dsimp only; omega
  · exact sq_lt h0 (by omega) h1
  · intro hn
    have hl : 0 ≤ lo pre.length := by
      have : ∀ i, 0 ≤ lo i := fun i => by
        induction i with
        | zero => decide
        | succ i ih => exact Int.mul_nonneg ih ih
      exact this _
    exact sq_ge hl (by omega) (h2 hn)

theorem tw_end {n a : Int} {tk : Tok} {ns : List Int} (hl : ns.length = 5) (h : tw n ns (a, tk)) (hn : ¬ n < 16) : sz a = 8 := by
  have h2 := h.2.2 (by omega)
  rw [hl] at h2
  dsimp only at h2
  have : (4294967296 : Int) ≤ lo 5 := by decide
  unfold sz
  rw [if_neg (by omega), if_neg (by omega), if_neg (by omega)]

theorem pre_le {ns pre post : List Int} {p : Int} (hl : ns.length = 5) (h : ns = pre ++ p :: post) : pre.length ≤ 5 := by
  rw [h, List.length_append] at hl
  omega

theorem fmod_lo {p a : Int} (h : 0 ≤ a) : 0 ≤ p.fmod (2 * a + 1) := ((fdiv_fmod_facts p (2 * a + 1)).2.2.1 (by omega)).1

theorem fmod_hi {p a : Int} (h : 0 ≤ a) : p.fmod (2 * a + 1) ≤ 2 * a := by
  have := ((fdiv_fmod_facts p (2 * a + 1)).2.2.1 (by omega)).2
  omega

set_option maxHeartbeats 8000000 in
theorem tower_con (w : World) (mean : ExcName → Option Value) (mg mb : PySem.Str → Option Value) (news : List (Addr × Obj)) (pk : Addr) (vs : List Value) (ns : List Int) (c : Nat) (n : Int) (t : Tok)
    (hm : (pk, listOf vs.toArray c) ∈ news) (hi : IntsAre vs ns) (hl : ns.length = 5) (h0 : 0 ≤ n) (h1 : n ≤ 4096) :
    Con PySem.Challenge.rw_km0080_02.row.prog w (hd_02.heap_39 w.params) hd_02.view_39 (looseW hd_02.view_39 []) mean mg mb 42 4 news [.int n t, .ref pk] (RetS news fun _ => .bool true) := by
  k_fill
  k_with_none
  k_with "width" => exact tw_end hl (by assumption) (by omega)
  k_with "room" => assumption
  k_with "over" => first | assumption | exact fmod_lo (by assumption) | exact fmod_hi (by assumption)
  k_with "state" => exact tw_next _ hq rfl
  k_with "exec For Name Name cons nil" => ((rename Fr _ _ _ _ => lF'); (with_unfolding_all refine' For_invVF lF' ?k1 ?k2 ?_); (case k1 => exact rfl); (case k2 => exact rfl))
  k_with "pyIter ref" => (
    (rename Fr _ _ _ _ => lF'); (rename News _ _ _ _ => lN')
    (with_unfolding_all refine' kst_listL (σ := Int × Tok) (fun _ => news) (fun c => [(PySem.Str.ofString "number", .int c.1 c.2)]) (fun _ => True) [PySem.Str.ofString "more"] (tw n) (n, t) (by rfl) (fun _ => hm) (by assumption) lF' lN' trivial ?kk ?kp (fun ca pre post p tp u h tk own hns hmem hoff _ hP FT NT => ?_) (fun ca u h tk _ hP FT NT => ?_))
    (case kk => kst_all)
    (case kp => exact ⟨h0, by show n < 4097; omega, fun h => h⟩)
    obtain ⟨a, ta⟩ := ca
    have hq := hP
    have hr : Room a := room_up (pre_le hl hns) hP.1 hP.2.1
    have p0 := hP.1
    dsimp only at p0
    rotate_left
    obtain ⟨a, ta⟩ := ca
    rotate_left
    all_goals (try k_fold))
  dsimp only [Con, RetS]
  intros
  rename_i hret
  refine wpAny_call ?_
  k_dflt cell_enter
  k_steps
  all_goals cb_end hret

end Mine
open Mine
local macro_rules | `(tactic| walk_at "exec For Name Tuple cons nil") => `(tactic| (k_here; (rename Fr _ _ _ _ => lF'); (with_unfolding_all refine' For_invVF lF' ?k1 ?k2 ?_; (case k1 => exact rfl); (case k2 => exact rfl); k_whole)))
namespace Mine

theorem ints5 {a b c d e : Int} {t u v x y : Tok} : IntsAre [.int a t, .int b u, .int c v, .int d x, .int e y] [a, b, c, d, e] := .cons _ _ (.cons _ _ (.cons _ _ (.cons _ _ (.cons _ _ .nil))))

end Mine
open Mine
local macro_rules | `(tactic| walk_at "call ref") => `(tactic| (
  k_here; (with_reducible show wpAny _ _ (call (Value.ref 42) [Value.int _ _, Value.ref _]) _ _ _)
  k_dflt (refine' con_use (tower_con _ _ _ _ _ _ _ _ _ _ _ ?km ?ki ?kl ?kz ?ky) ?k1 ?k2 ?k3 ?k4 ?k5 ?kK ?kd ?ku ?_; (case k1 => k_asm); (case k2 => k_asm); (case k3 => k_asm); (case k4 => k_asm); (case k5 => k_asm); (case kK => first | exact rfl | assumption); (case kd => ktr_room); (case ku => ktr_units); (case km => k_mem); (case ki => exact ints5); (case kl => rfl); (case kz => first | decide | ((try k_fmods); omega)); (case ky => first | decide | ((try k_fmods); omega)))
  intro t9 h9 tk9 F9 N9; (try dsimp only); (try k_fold)))
namespace Mine

theorem ext_room {a b : Array Value} (h : a.size + b.size ≤ sizeLine) : ¬(!a.isEmpty && Builtin.List.listTooLong (a.size + b.size)) = true := extend_door h

def rts (pre roots : List Int) : Prop := roots.length = 4 + 3 * pre.length ∧ ∀ r ∈ roots, 0 ≤ r ∧ Room r

theorem room_small {n : Int} (h0 : 0 ≤ n) (h : n < 100000) : Room n := Nat.le_trans ((intBits_le_iff (m := 17)).mpr (by omega)) (by decide)

theorem rts_start : rts [] [0, 15, 16, 255] := by
  refine ⟨rfl, fun r hr => ?_⟩
  have : 0 ≤ r ∧ r < 100000 := by
    simp only [List.mem_cons, List.not_mem_nil, or_false] at hr
    omega
  exact ⟨this.1, room_small this.1 this.2⟩

theorem my_extend {prog : Program} {w : World} {A : Around} {E : Value → Shared → Prop} {s : Shared} {h₀ : Heap} {L D b : Addr} {m : PySem.Str → Option Value} {news news' : List (Addr × Obj)} {us ws : List Value} {n n2 : Nat} {Q : Value → Shared → Prop}
    (F : Fr h₀ L s.heap m) (N : News h₀ L s.heap news) (hb : (b, listOf ws.toArray n2) ∈ news) (hne : ws.length ≠ 0) (U : Upd D (listOf us.toArray n) (listOf (us ++ ws).toArray (n + 1)) news news') (hz : us.length + ws.length ≤ sizeLine)
    (h : ∀ h', Fr h₀ L h' m → News h₀ L h' news' → Q .none { s with heap := h' }) : wpAny (model prog w) A (call (.builtin "list.extend") [.ref D, .ref b]) Q E s :=
  kl_extend F N hb rfl hne U (extend_door (by simpa using hz)) (by simp; omega) (by simp; omega) h

theorem room_abs {n : Int} {ns : List Int} (h : PyData.layable0 (.list (ns.map .int)) = true) (hm : n ∈ ns) : Room (if n < 0 then -n else n) :=
  Nat.le_trans (intBits_le_of_natAbs (y := n) (by split <;> omega) (PyData.bits_item_of_ints h hm)) (by decide)

theorem rts_step {n : Int} {ns pre rs : List Int} (h : PyData.layable0 (.list (ns.map .int)) = true) (hm : n ∈ ns) (hr : rts pre rs) :
    rts (pre ++ [n]) (rs ++ [if n < 0 then -n else n, (if n < 0 then -n else n).fmod 300, (if n < 0 then -n else n).fmod 70000]) := by
  have h1 := room_abs h hm
  have h0 : 0 ≤ (if n < 0 then -n else n) := by split <;> omega
  generalize (if n < 0 then -n else n) = a at *
  refine ⟨by rw [List.length_append, List.length_append, hr.1]; simp; omega, fun r hx => ?_⟩
  rcases List.mem_append.mp hx with hx | hx
  · exact hr.2 r hx
  · have f3 := (fdiv_fmod_facts a 300).2.2.1 (by decide)
    have f7 := (fdiv_fmod_facts a 70000).2.2.1 (by decide)
    simp only [List.mem_cons, List.not_mem_nil, or_false] at hx
    rcases hx with rfl | rfl | rfl
    · exact ⟨h0, h1⟩
    · exact ⟨f3.1, room_small f3.1 (by omega)⟩
    · exact ⟨f7.1, room_small f7.1 (by omega)⟩

theorem rts_fits {n : Int} {ns pre post rs : List Int} {us : List Value} {k : Nat} (hk : k = 3) (hi : IntsAre us rs) (hr : rts pre rs) (e : ns = pre ++ n :: post) (hc : ¬ (((63 : Nat) : Int) < ((ns.length : Nat) : Int))) : us.length + k ≤ sizeLine := by
  rw [e, List.length_append, List.length_cons] at hc
  rw [hi.length, hr.1, sizeLine_eq]
  omega

theorem ints_app {us ws : List Value} {rs ks : List Int} (h : IntsAre us rs) (h' : IntsAre ws ks) : IntsAre (us ++ ws) (rs ++ ks) := by
  induction h with
  | nil => exact h'
  | cons n t _ ih => exact .cons n t ih

end Mine
open Mine
set_option maxHeartbeats 600000 in
theorem PySem.Challenge.cw_km0080_02_holds : PySem.Challenge.rw_km0080_02.Holds := by
  refine hd_02 ?_
  k_with_none
 
  k_with "state" => exact rts_start
  k_with "state" => exact rts_step (by assumption) (by assumption) (by assumption)
  k_with "call builtin:list.extend" => (
    k_dflt (refine' my_extend ?xeF ?xeN ?xeb ?xene ?xeU ?xez ?_; (case xeF => k_asm); (case xeN => k_asm); (case xeb => k_mem); (case xeU => k_upd); (case xene => exact Nat.succ_ne_zero _); (case xez => exact rts_fits rfl (by assumption) (by assumption) (by assumption) (by assumption)))
    intro h' F' N'
    (try k_sweep))
  k_with "width" => exact sz_low (by omega)
  k_with "room" => assumption
  k_with "over" => first | assumption | omega
  k_with "InvEndN" => ((rename News _ _ _ _ => nE'); refine kst_end (_, _, _) (by assumption) nE' (by kst_in) (by first | (intro p hp; kst_mem) | kst_anyIn) (by rfl) (ints_app (by assumption) (by l_intsW)) (by kst_all) (by kst_same) (rts_step (by assumption) (by assumption) (by assumption)))
  k_with "InvEndN" => ((rename News _ _ _ _ => nE'); refine kst_end () (by assumption) nE' (by kst_in) (by first | (intro p hp; kst_mem) | kst_anyIn) (by rfl) trivial (by kst_all) (by kst_same) trivial)
  k_with "pyIter ref" => (k_of "more" => (
    (rename Fr _ _ _ _ => lF'); (rename News _ _ _ _ => lN')
    (with_unfolding_all refine' lp_tup (σ := Unit) (fun _ => _) (fun _ => []) (fun _ => True) [] (fun _ _ => True) () (by rfl) ?xri lF' lN' ?xrd trivial ?xrk trivial (fun ca pre p2 tp u h tk own hmem hoff _ hP FT NT => ?_) (fun ca u h tk _ hP FT NT => ?_))
    (case xri => l_intsW)
    (case xrk => kst_all)
    (case xrd => k_all)
    simp only [List.cons_append, List.nil_append] at NT
    simp only [List.map_cons, List.map_nil] at hoff
    have hq : 0 ≤ p2 ∧ p2 ≤ 2 * p := by simp only [List.mem_cons, List.not_mem_nil, or_false] at hmem; omega
    all_goals (try k_fold)))
  k_with "pyIter ref" => (k_of "root" => (
    (rename Fr _ _ _ _ => lF'); (rename News _ _ _ _ => lN')
    (with_unfolding_all refine' kst_listL (σ := Unit) (fun _ => _) (fun _ => []) (fun _ => True) [PySem.Str.ofString "more"] (fun _ _ => True) () (by rfl) (fun _ => ?xrm) ?xri lF' lN' trivial ?xrk trivial (fun ca pre post p tp u h tk own hns hmem hoff _ hP FT NT => ?_) (fun ca u h tk _ hP FT NT => ?_))
    (case xrm => k_mem)
    (case xri => assumption)
    (case xrk => kst_all)
    have hq : 0 ≤ p ∧ Room p := (show rts _ _ by assumption).2 p hmem
    have hq1 := hq.1
    have hq2 := hq.2
    simp only [List.cons_append, List.nil_append] at NT
    simp only [List.map_cons, List.map_nil] at hoff
    all_goals (try k_fold)))
  k_with "pyIter ref" => (k_of "n" => k_state (fun pre roots => rts pre roots) "roots")
  k_go0
  (all_goals try k_fold)
  k_steps
  all_goals w_report
