import PyProof.Rows.All
import Wide.All
import OpenK.AllK
import Wide.FinOn
import Lean
import PySem.Challenge.RW_sr0041_01
open PySem PySem.W PySem.Calls PyProof.Rows
set_option Elab.async false
set_option maxRecDepth 100000
namespace Mine
set_option maxHeartbeats 8000000 in
open_top hd for PySem.Challenge.rw_sr0041_01
theorem prime : (fun (_ : PySem.W.OpenLaw) (_ : Params → Frag) => True) PySem.Challenge.rw_sr0041_01 hd.heap_39 := by
  k_fill
  trivial
def qs (n : Nat) : PySem.Str := PySem.Str.mk (Array.replicate n 34)

inductive QAre : List Value → List Nat → Prop
  | nil : QAre [] []
  | cons (n : Nat) (t : Tok) {vs ns} : QAre vs ns → QAre (.str (qs n) t :: vs) (n :: ns)

theorem QAre.length {vs : List Value} {ns : List Nat} (h : QAre vs ns) : vs.length = ns.length := by
  induction h with
  | nil => rfl
  | cons n t _ ih => simp [ih]

theorem QAre.get {vs : List Value} {ns : List Nat} (h : QAre vs ns) : ∀ (i : Nat), i < ns.length → ∃ t, vs[i]? = some (.str (qs (ns.getD i 0)) t) := by
  induction h with
  | nil => intro i hi; exact absurd hi (Nat.not_lt_zero _)
  | cons n t _ ih =>
    intro i hi
    cases i with
    | zero => exact ⟨t, rfl⟩
    | succ j =>
      obtain ⟨t', e⟩ := ih j (by simpa using hi)
      exact ⟨t', by simpa using e⟩

theorem qs_cps (n : Nat) : (qs n).cps.toList = List.replicate n 34 := by simp [qs]
theorem qs_length (n : Nat) : (qs n).length = n := by simp [qs, PySem.Str.length]
theorem rep_lt : ∀ (m n : Nat), (List.replicate m 34 < List.replicate n 34) ↔ m < n
  | 0, 0 => by simp
  | 0, n + 1 => by simp [List.replicate_succ]
  | m + 1, 0 => by simp [List.replicate_succ]
  | m + 1, n + 1 => by
    rw [List.replicate_succ, List.replicate_succ, List.cons_lt_cons_iff, rep_lt m n]
    simp
theorem rep_inj (m n : Nat) : (List.replicate m 34 = List.replicate n 34) ↔ m = n := by
  constructor
  · intro h
    have := congrArg List.length h
    simpa using this
  · rintro rfl; rfl

section
variable {prog : Program} {w : World} {A : Around} {E : Value → Shared → Prop} {s : Shared} {Q : Value → Shared → Prop}
theorem q_lt {m n : Nat} {t u : Tok} (h : Q (.bool (decide (m < n))) s) : wpAny (model prog w) A (compareOp .Lt (.str (qs m) t) (.str (qs n) u)) Q E s := by
  refine PyProof.Rows.lt_str ?_
  have : decide ((qs m).cps.toList < (qs n).cps.toList) = decide (m < n) := by
    rw [qs_cps, qs_cps]
    exact decide_eq_decide.mpr (rep_lt m n)
  rw [this]
  exact h
theorem q_ne {m n : Nat} {t u : Tok} (h : Q (.bool (decide (m ≠ n))) s) : wpAny (model prog w) A (compareOp .NotEq (.str (qs m) t) (.str (qs n) u)) Q E s := by
  refine PyProof.Rows.ne_str ?_
  have : (qs m != qs n) = decide (m ≠ n) := by
    by_cases e : m = n
    · subst e; simp
    · have : qs m ≠ qs n := fun q => e (by have := congrArg PySem.Str.length q; simpa [qs_length] using this)
      simp [this, e]
  rw [this]
  exact h
theorem q_eq {m n : Nat} {t u : Tok} (h : Q (.bool (decide (m = n))) s) : wpAny (model prog w) A (compareOp .Eq (.str (qs m) t) (.str (qs n) u)) Q E s := by
  refine PyProof.Rows.eq_str ?_
  have : (qs m == qs n) = decide (m = n) := by
    by_cases e : m = n
    · subst e; simp
    · have : qs m ≠ qs n := fun q => e (by have := congrArg PySem.Str.length q; simpa [qs_length] using this)
      simp [this, e]
  rw [this]
  exact h

theorem q_item {h₀ : Heap} {L l : Addr} {news : List (Addr × Obj)} {vs : List Value} {ns : List Nat} {c : Nat} {value slice : PySem.Expr} {k : Int} {u : Tok}
    (N : News h₀ L s.heap news) (hl : (l, listOf vs.toArray c) ∈ news) (hq : QAre vs ns) (h0 : 0 ≤ k) (h1 : k < (ns.length : Int)) (hfit : k < 2 ^ 63)
    (h : ∀ t, Q (.str (qs (ns.getD k.toNat 0)) t) s)
    (hs : subscripted slice false (.ref l) (.int k u) = operate [.ref l, .int k u] (getItem (.ref l) (.int k u))) :
    wpAny (model prog w) A (subscriptTail value slice (.ref l) (.int k u)) Q E s := by
  have hL : s.heap.IsList l vs.toArray := ⟨_, (N _ hl).1, rfl, c, rfl⟩
  obtain ⟨t, e⟩ := hq.get k.toNat (by omega)
  exact tail_any hL.typeIs slot_list_getitem.lookup (wpAny_getItem_list hL h0 hfit (by simpa using e) (h t)) hs
end

def Reads (m : PySem.Str → Option Value) : List (PySem.Str × Value) → Prop
  | [] => True
  | p :: r => m p.1 = some p.2 ∧ Reads m r
theorem reads_nil {m : PySem.Str → Option Value} : Reads m [] := trivial
theorem reads_cons {m : PySem.Str → Option Value} {x : PySem.Str} {v : Value} {r : List (PySem.Str × Value)} (h : m x = some v) (t : Reads m r) : Reads m ((x, v) :: r) := ⟨h, t⟩
theorem reads_skip {m : PySem.Str → Option Value} {x : PySem.Str} {o : Option Value} : ∀ {ps : List (PySem.Str × Value)}, (ps.all fun p => decide (p.1 ≠ x)) = true → Reads m ps → Reads (fun y => if y = x then o else m y) ps
  | [], _, _ => trivial
  | p :: r, e, h => by
    simp only [List.all_cons, Bool.and_eq_true, decide_eq_true_eq] at e
    exact ⟨by show (if p.1 = x then o else m p.1) = some p.2; rw [if_neg e.1]; exact h.1, reads_skip e.2 h.2⟩
def mapB (rest : PySem.Str → Option Value) : List (PySem.Str × Value) → PySem.Str → Option Value
  | [] => rest
  | p :: r => fun z => if z = p.1 then some p.2 else mapB rest r z
theorem mapB_eq {m : PySem.Str → Option Value} {z : PySem.Str} : ∀ {ps : List (PySem.Str × Value)}, Reads m ps → mapB m ps z = m z
  | [], _ => rfl
  | p :: r, h => by
    show (if z = p.1 then some p.2 else mapB m r z) = m z
    by_cases e : z = p.1
    · rw [if_pos e, e]
      exact h.1.symm
    · rw [if_neg e]
      exact mapB_eq h.2
theorem fr_known {h₀ h : Heap} {L : Addr} {m₁ : PySem.Str → Option Value} {ps : List (PySem.Str × Value)} (F : Fr h₀ L h m₁) (hk : Reads m₁ ps) : Fr h₀ L h (mapB m₁ ps) := by
  have e : mapB m₁ ps = m₁ := by
    funext z
    exact mapB_eq hk
  rw [e]
  exact F

abbrev Ctr (w : World) (d : Nat) (f : Addr) (args : List Value) (news : List (Addr × Obj)) (Post : Value → List (Addr × Obj) → Prop) : Prop :=
  ∀ (p : Program) (loose : List PySem.Str) (mean : ExcName → Option Value) (mg mb : PySem.Str → Option Value) (dp un : Nat) (gd : Option (List Code)) (cn : PySem.Str) (cs : Scope) (a : Addr) (ccd : Value) (cl : List (PySem.Str × Addr)) (outer : List Env) (A₀ : Around) (base h₀ : Heap) (L : Addr) (m : PySem.Str → Option Value) (s : Shared) (Q E : Value → Shared → Prop),
    Below A₀ base outer h₀ → Fr h₀ L s.heap m → (hd.heap_39 w.params).In h₀ → News h₀ L s.heap news → Top p loose mean mg mb h₀ → cs.kind = .function → dp + d < recursionLimit → un + 8 * d < cLine →
    (∀ v news' h' tk', Post v news' → Fr h₀ L h' m → News h₀ L h' news' → Q v { s with heap := h', toks := tk' }) →
    wpAny (model PySem.Challenge.rw_sr0041_01.row.prog w) (ktrTop dp un gd cn cs L a ccd cl outer) (call (.ref f) args) Q E s

def Srt (ns : List Nat) : Prop := ∀ i j, i ≤ j → j < ns.length → ns.getD i 0 ≤ ns.getD j 0

theorem ws2_next {h₀ : Heap} {L : Addr} {s : Shared} {J : Nat → (PySem.Str → Option Value) → List (Addr × Obj) → Prop} {Q : Flow → Shared → Prop} {n n' : Nat} {h' : Heap} {tk : Nat} {m₂ : PySem.Str → Option Value} {news₂ : List (Addr × Obj)}
    (F : Fr h₀ L h' m₂) (N : News h₀ L h' news₂) (hJ : J n' m₂ news₂) (hn : n' < n) : WhileStep2 h₀ L s J Q n .next { s with heap := h', toks := tk } := ⟨h', tk, m₂, news₂, n', rfl, F, N, hn, hJ⟩
theorem ws2_brk {h₀ : Heap} {L : Addr} {s s₃ : Shared} {J : Nat → (PySem.Str → Option Value) → List (Addr × Obj) → Prop} {Q : Flow → Shared → Prop} {n : Nat} (h : Q .next s₃) : WhileStep2 h₀ L s J Q n .brk s₃ := h
theorem ws2_ret {h₀ : Heap} {L : Addr} {s s₃ : Shared} {J : Nat → (PySem.Str → Option Value) → List (Addr × Obj) → Prop} {Q : Flow → Shared → Prop} {n : Nat} {v : Value} (h : Q (.ret v) s₃) : WhileStep2 h₀ L s J Q n (.ret v) s₃ := h
theorem fdiv2 (a : Int) : a.fdiv 2 = a / 2 := Int.fdiv_eq_ediv_of_nonneg _ (by decide)
theorem News.sub {h₀ h : Heap} {L : Addr} {l l' : List (Addr × Obj)} (N : News h₀ L h l) (hs : ∀ p ∈ l', p ∈ l) : News h₀ L h l' := fun p hp => N p (hs p hp)
local macro_rules | `(tactic| ktr_call $_x:term $b:term) => `(tactic| (refine wpAny_call ?_; refine' code_def (binds := $b) ?k1 ?k2 ?k3 ?k4 ?k5 ?kA ?kF ?kK ?k6 ?k7 ?k8 ?k9 ?kB ?_ ?c2 ?c3 ?c4 ?c5; (case kA => exact rfl); (case kF => exact rfl); (case kK => assumption); (case k1 => k_asm); (case k2 => k_asm); (case k3 => k_asm); (case k4 => k_asm); (case k5 => k_asm); (case k6 => k_is); (case k7 => k_is); (case k8 => ktr_room); (case k9 => first | exact BindsTo.of_eq rfl | (refine' kp_binds ?kx ?ke; (case kx => k_in); (case ke => exact fun _ => rfl))); (case c5 => decide); (case kB => exact locs rfl); (case c2 => exact rfl); (case c3 => exact rfl); (case c4 => exact rfl); k_whole; intro g' L' h' FG' F' N' B' X' T'; (try dsimp only); (try k_lift B'); (try k_fold)))
local macro_rules | `(tactic| walk_at "call builtin:len") => `(tactic| ((rename QAre _ _ => hq9); k_here; (with_reducible show wpAny _ _ (call (Value.builtin "len") [Value.ref _]) _ _ _); k_dflt (refine' kst_len ?k1 ?k2 ?k3 ?k4 ?_; (case k1 => k_asm); (case k2 => assumption); (case k3 => exact QAre.length hq9); (case k4 => omega); k_whole)))
local macro_rules | `(tactic| walk_at "subscriptTail") => `(tactic| (k_here; (with_reducible show wpAny _ _ (subscriptTail _ _ (Value.ref _) (Value.int _ _)) _ _ _); (rename QAre _ _ => hq9); (with_unfolding_all refine' q_item ?k1 ?k2 hq9 ?k3 ?k4 ?k5 ?_ ?k6; (case k1 => k_asm); (case k2 => assumption); (case k3 => first | omega | ((try simp only [fdiv2]); omega)); (case k4 => first | omega | ((try simp only [fdiv2]); omega)); (case k5 => first | omega | ((try simp only [fdiv2]); omega)); (case k6 => with_unfolding_all rfl); k_whole); intro _))
local macro_rules | `(tactic| walk_at "compareOp Lt str str") => `(tactic| (with_reducible refine q_lt ?_))

local macro_rules | `(tactic| k_steps) => `(tactic| repeat' ((fail_if_success (with_reducible show wpAny _ _ (exec (Stmt.While _ _ _ _) _) _ _ _)); (fail_if_success (with_reducible show wpAny _ _ (exec (Stmt.For _ _ _ _ _) _) _ _ _)); (fail_if_success (with_reducible show wpAny _ _ (call (Value.ref _) _) _ _ _)); (fail_if_success (with_reducible show WhileStep2 _ _ _ _ _ _ _ _)); first | (k_unfold; (try dsimp only)) | walk1 | (dsimp only; walk1) | (leave1; walk_say "STEP leave1"; try dsimp only) | fail "no step"))

local macro_rules | `(tactic| kst_all) => `(tactic| first | exact reads_nil | (refine reads_cons ?r1 ?r2; (case r1 => first | rfl | exact rfl); (case r2 => kst_all)))
local macro_rules | `(tactic| k_call_by $_x:str $g:term) => `(tactic| (refine' ($g) _ _ _ _ _ _ _ _ _ _ _ _ _ _ _ _ _ _ _ _ _ _ ?k1 ?k2 ?k3 ?k4 ?k5 ?kK ?kd ?ku ?_; (case k1 => k_asm); (case k2 => k_asm); (case k3 => k_asm); (case k4 => k_asm); (case k5 => k_asm); (case kK => first | exact rfl | assumption); (case kd => ktr_room); (case ku => ktr_units)))
-- needs: P0
set_option maxHeartbeats 8000000 in
theorem bisect_right_ok {w : World} {l : Addr} {vs : List Value} {ns : List Nat} {c : Nat} {x : Nat} {tx t0 : Tok} {news : List (Addr × Obj)}
    (hl : (l, listOf vs.toArray c) ∈ news) (hq : QAre vs ns) (hn : ns.length < 1000) (hs : Srt ns) :
    Ctr w 2 32 [.ref l, .str (qs x) tx, .int 0 t0, .none] news (fun v news' => news' = news ∧ ∃ (k : Nat) (t : Tok), v = .int (k : Int) t ∧ k ≤ ns.length ∧ (∀ i, i < k → ns.getD i 0 ≤ x) ∧ (∀ i, k ≤ i → i < ns.length → x < ns.getD i 0)) := by
  intro p loose mean mg mb dp un gd cn cs a ccd cl outer A₀ base h₀ L m s Q E B F X N T hk hd' hu hret
  ktr_call 0 [(PySem.Str.ofString "a", Value.ref l), (PySem.Str.ofString "x", .str (qs x) tx), (PySem.Str.ofString "lo", .int 0 t0), (PySem.Str.ofString "hi", .none), (PySem.Str.ofString "key", .none)]
  k_steps
  rename Fr _ _ _ _ => F1
  rename News _ _ _ _ => N1
  refine' While_inv2 (fun n m₁ nx => ∃ (lo hi : Nat) (tlo thi : Tok), n = hi - lo ∧ nx = news ∧
     Reads m₁ [(PySem.Str.ofString "a", Value.ref l), (PySem.Str.ofString "x", .str (qs x) tx), (PySem.Str.ofString "lo", .int lo tlo), (PySem.Str.ofString "hi", .int hi thi), (PySem.Str.ofString "key", .none)] ∧
     lo ≤ hi ∧ hi ≤ ns.length ∧ (∀ i, i < lo → ns.getD i 0 ≤ x) ∧ (∀ i, hi ≤ i → i < ns.length → x < ns.getD i 0)) F1 N1 ?h0 ?turn (by passes_own)
  case h0 =>
    exact ⟨0, ns.length, _, _, rfl, rfl, by kst_all, Nat.zero_le _, Nat.le_refl _, fun i hi => absurd hi (Nat.not_lt_zero _), fun i h1 h2 => absurd h2 (by omega)⟩
  case turn =>
    rintro n m₁ nx h₁ tk₁ F₁ N₁ ⟨lo, hi, tlo, thi, rfl, rfl, hr, hle, hhi, hA, hB⟩
    replace F₁ := fr_known F₁ hr
    dsimp only [mapB] at F₁
    clear F1 N1 hr
    have em : ((lo : Int) + (hi : Int)).fdiv 2 = (((lo + hi) / 2 : Nat) : Int) := by rw [fdiv2]; omega
    k_steps
    · simp only [em, Int.toNat_natCast] at *
      have hx : x < ns.getD ((lo + hi) / 2) 0 := by assumption
      have hlt : lo < hi := by omega
      refine ws2_next (by assumption) (by assumption) ⟨lo, (lo + hi) / 2, _, _, rfl, rfl, by kst_all, by omega, by omega, hA, fun i h1 h2 => ?_⟩ (by omega)
      exact Nat.lt_of_lt_of_le hx (hs _ _ h1 h2)
    · simp only [em, Int.toNat_natCast] at *
      have hx : ¬ x < ns.getD ((lo + hi) / 2) 0 := by assumption
      have hlt : lo < hi := by omega
      refine ws2_next (by assumption) (by assumption) ⟨(lo + hi) / 2 + 1, hi, _, _, rfl, rfl, by kst_all, by omega, by omega, fun i h1 => ?_, hB⟩ (by omega)
      exact Nat.le_trans (hs i ((lo + hi) / 2) (by omega) (by omega)) (by omega)
    · refine hret _ _ _ _ ⟨rfl, lo, _, rfl, by omega, hA, fun i h1 h2 => hB i (by omega) h2⟩ (by assumption) (by assumption)
-- needs: P0
set_option maxHeartbeats 8000000 in
theorem bisect_left_ok {w : World} {l : Addr} {vs : List Value} {ns : List Nat} {c : Nat} {x : Nat} {tx : Tok} {news : List (Addr × Obj)}
    (hl : (l, listOf vs.toArray c) ∈ news) (hq : QAre vs ns) (hn : ns.length < 1000) (hs : Srt ns) :
    Ctr w 2 41 [.ref l, .str (qs x) tx] news (fun v news' => news' = news ∧ ∃ (k : Nat) (t : Tok), v = .int (k : Int) t ∧ k ≤ ns.length ∧ (∀ i, i < k → ns.getD i 0 < x) ∧ (∀ i, k ≤ i → i < ns.length → x ≤ ns.getD i 0)) := by
  intro p loose mean mg mb dp un gd cn cs a ccd cl outer A₀ base h₀ L m s Q E B F X N T hk hd' hu hret
  ktr_call 0 [(PySem.Str.ofString "a", Value.ref l), (PySem.Str.ofString "x", .str (qs x) tx), (PySem.Str.ofString "lo", .int 0 216), (PySem.Str.ofString "hi", .none), (PySem.Str.ofString "key", .none)]
  k_steps
  rename Fr _ _ _ _ => F1
  rename News _ _ _ _ => N1
  refine' While_inv2 (fun n m₁ nx => ∃ (lo hi : Nat) (tlo thi : Tok), n = hi - lo ∧ nx = news ∧
     Reads m₁ [(PySem.Str.ofString "a", Value.ref l), (PySem.Str.ofString "x", .str (qs x) tx), (PySem.Str.ofString "lo", .int lo tlo), (PySem.Str.ofString "hi", .int hi thi), (PySem.Str.ofString "key", .none)] ∧
     lo ≤ hi ∧ hi ≤ ns.length ∧ (∀ i, i < lo → ns.getD i 0 < x) ∧ (∀ i, hi ≤ i → i < ns.length → x ≤ ns.getD i 0)) F1 N1 ?h0 ?turn (by passes_own)
  case h0 =>
    exact ⟨0, ns.length, _, _, rfl, rfl, by kst_all, Nat.zero_le _, Nat.le_refl _, fun i hi => absurd hi (Nat.not_lt_zero _), fun i h1 h2 => absurd h2 (by omega)⟩
  case turn =>
    rintro n m₁ nx h₁ tk₁ F₁ N₁ ⟨lo, hi, tlo, thi, rfl, rfl, hr, hle, hhi, hA, hB⟩
    replace F₁ := fr_known F₁ hr
    dsimp only [mapB] at F₁
    clear F1 N1 hr
    have em : ((lo : Int) + (hi : Int)).fdiv 2 = (((lo + hi) / 2 : Nat) : Int) := by rw [fdiv2]; omega
    k_steps
    · simp only [em, Int.toNat_natCast] at *
      have hx : ns.getD ((lo + hi) / 2) 0 < x := by assumption
      have hlt : lo < hi := by omega
      refine ws2_next (by assumption) (by assumption) ⟨(lo + hi) / 2 + 1, hi, _, _, rfl, rfl, by kst_all, by omega, by omega, fun i h1 => ?_, hB⟩ (by omega)
      exact Nat.lt_of_le_of_lt (hs i ((lo + hi) / 2) (by omega) (by omega)) (by omega)
    · simp only [em, Int.toNat_natCast] at *
      have hx : ¬ ns.getD ((lo + hi) / 2) 0 < x := by assumption
      have hlt : lo < hi := by omega
      refine ws2_next (by assumption) (by assumption) ⟨lo, (lo + hi) / 2, _, _, rfl, rfl, by kst_all, by omega, by omega, hA, fun i h1 h2 => ?_⟩ (by omega)
      exact Nat.le_trans (Nat.le_of_not_lt hx) (hs _ _ h1 h2)
    · refine hret _ _ _ _ ⟨rfl, lo, _, rfl, by omega, hA, fun i h1 h2 => hB i (by omega) h2⟩ (by assumption) (by assumption)
-- needs: P0 P1
def insR (x : Nat) : List Nat → List Nat
  | [] => [x]
  | y :: r => if x < y then x :: y :: r else y :: insR x r

theorem insR_of : ∀ (ns : List Nat) (x k : Nat), k ≤ ns.length → (∀ i, i < k → ns.getD i 0 ≤ x) → (∀ i, k ≤ i → i < ns.length → x < ns.getD i 0) → ns.take k ++ x :: ns.drop k = insR x ns
  | [], x, k, _, _, _ => by simp [insR]
  | y :: r, x, 0, _, _, h2 => by
    have h := h2 0 (Nat.le_refl _) (by simp)
    simp at h
    simp [insR, h]
  | y :: r, x, k + 1, h0, h1, h2 => by
    have h := h1 0 (Nat.succ_pos _)
    simp at h
    have h' : ¬ x < y := by omega
    simp only [List.take_succ_cons, List.drop_succ_cons, List.cons_append, insR, if_neg h']
    rw [insR_of r x k (by simpa using h0) (fun i hi => by simpa using h1 (i + 1) (by omega)) (fun i hi hl => by simpa using h2 (i + 1) (by omega) (by simpa using hl))]

theorem QAre.ins {vs : List Value} {ns : List Nat} (h : QAre vs ns) (x : Nat) (t : Tok) : ∀ k, QAre (vs.take k ++ .str (qs x) t :: vs.drop k) (ns.take k ++ x :: ns.drop k) := by
  induction h with
  | nil => intro k; simpa using QAre.cons x t QAre.nil
  | cons n u h ih =>
    intro k
    cases k with
    | zero => exact QAre.cons x t (QAre.cons n u h)
    | succ k => exact QAre.cons n u (ih k)

set_option maxHeartbeats 8000000 in
theorem insort_ok {w : World} {l : Addr} {vs : List Value} {ns : List Nat} {c : Nat} {x : Nat} {tx : Tok} {rest : List (Addr × Obj)}
    (hr : ∀ p ∈ rest, p.1 ≠ l) (hq : QAre vs ns) (hn : ns.length < 1000) (hs : Srt ns) :
    Ctr w 4 23 [.ref l, .str (qs x) tx] ((l, listOf vs.toArray c) :: rest) (fun v news' => v = .none ∧ ∃ vs', QAre vs' (insR x ns) ∧ news' = (l, listOf vs'.toArray (c + 1)) :: rest) := by
  intro p loose mean mg mb dp un gd cn cs a ccd cl outer A₀ base h₀ L m s Q E B F X N T hk hd' hu hret
  ktr_call 0 [(PySem.Str.ofString "a", Value.ref l), (PySem.Str.ofString "x", .str (qs x) tx), (PySem.Str.ofString "lo", .int 0 189), (PySem.Str.ofString "hi", .none), (PySem.Str.ofString "key", .none)]
  k_steps
  k_call_by "" (bisect_right_ok (List.Mem.head _) hq hn hs)
  rintro v9 nx9 h9 tk9 ⟨rfl, k, t, rfl, hk, hA, hB⟩ F9 N9
  k_steps
  have hv := hq.length
  have hk2 : min ((k : Int)).toNat vs.length = k := by simp only [Int.toNat_natCast]; omega
  refine kl_insert (l := vs.take k ++ Value.str (qs x) tx :: vs.drop k) (by assumption) (by assumption) ?f ?e (Upd.head hr) ?z fun h' F' N' => ?_
  case f => simp only [Builtin.List.listFitsIndex]; simp; omega
  case e =>
    show kl_ins vs (k : Int) (Value.str (qs x) tx) = _
    unfold kl_ins
    rw [if_neg (by omega), hk2]
  case z =>
    show vs.length ≤ sizeLine
    rw [PySem.sizeLine_eq]; omega
  k_steps
  refine hret _ _ _ _ ⟨rfl, _, ?_, rfl⟩ (by assumption) (by assumption)
  rw [← insR_of ns x k hk hA hB]
  exact hq.ins x tx k
-- needs: P0
def pq (n : Nat) : PySem.Str := PySem.Str.mk ([50, 53, 55, 32] ++ List.replicate n 34).toArray
theorem pq_length (n : Nat) : (pq n).length = n + 4 := by simp [pq, PySem.Str.length]
theorem pq_cps (n : Nat) : (pq n).cps.toList = [50, 53, 55, 32] ++ List.replicate n 34 := by simp [pq]
theorem lit_q : PySem.Str.ofString "\"" = qs 1 := by decide +kernel
theorem lit_0 : PySem.Str.ofString "" = qs 0 := by decide +kernel
theorem lit_257 : PySem.Str.ofString "257 \"" = pq 1 := by decide +kernel
theorem lit_code : PySem.Str.ofString "257" = ⟨[50, 53, 55].toArray⟩ := by decide +kernel
theorem lit_sep : PySem.Str.ofString " \"" = ⟨[32, 34].toArray⟩ := by decide +kernel
theorem str_ext {x y : PySem.Str} (h : x.cps.toList = y.cps.toList) : x = y := by
  cases x; cases y
  simp only [PySem.Str.mk.injEq]
  exact Array.toList_inj.mp h
theorem str_append_cps (x y : PySem.Str) : (x ++ y).cps.toList = x.cps.toList ++ y.cps.toList := by
  rw [PySem.Str.cps_append, Array.toList_append]
theorem qs_append (a b : Nat) : qs a ++ qs b = qs (a + b) := by
  apply str_ext
  rw [str_append_cps, qs_cps, qs_cps, qs_cps, List.replicate_append_replicate]
theorem pq_append (a b : Nat) : pq a ++ qs b = pq (a + b) := by
  apply str_ext
  rw [str_append_cps, pq_cps, qs_cps, pq_cps, List.append_assoc, List.replicate_append_replicate]
theorem qs_zero : qs 0 = PySem.Str.empty := by decide +kernel
theorem qs_mul (a : Nat) (n : Int) (hn : 0 ≤ n) : PySem.Txt.mul (qs a) n = qs (a * n.toNat) := by
  unfold PySem.Txt.mul
  by_cases h1 : n < 1
  · rw [if_pos h1]
    have : n.toNat = 0 := by omega
    rw [this, Nat.mul_zero, qs_zero]
  · rw [if_neg h1]
    by_cases h2 : (n == 1 || (qs a).length == 0) = true
    · rw [if_pos h2]
      rw [qs_length] at h2
      simp only [Bool.or_eq_true, beq_iff_eq] at h2
      rcases h2 with h2 | h2
      · subst h2; simp
      · subst h2; simp
    · rw [if_neg h2]
      apply str_ext
      rw [qs_cps]
      have go : ∀ (k : Nat) (acc : Array Nat), ((List.replicate k (qs a).cps).foldl (· ++ ·) acc).toList = acc.toList ++ List.replicate (a * k) 34 := by
        intro k
        induction k with
        | zero => intro acc; simp
        | succ k ih =>
          intro acc
          rw [List.replicate_succ, List.foldl_cons, ih, Array.toList_append, qs_cps, List.append_assoc, List.replicate_append_replicate]
          congr 2
          rw [Nat.mul_succ, Nat.add_comm]
      exact (go n.toNat #[]).trans (by simp)
theorem slice_all (x : PySem.Str) : PySem.Txt.slice x none none = x := by
  unfold PySem.Txt.slice
  have : (Builtin.Str.strSliceIndices none none 1 x.length).length = x.length := by
    unfold Builtin.Str.strSliceIndices sliceRange
    simp
    split <;> omega
  rw [this]
  simp
theorem slice_from_qs (m : Nat) (i : Int) (h0 : 0 ≤ i) (h1 : i ≤ (m : Int)) : PySem.Txt.slice (qs m) (some i) none = qs (m - i.toNat) := by
  have h := eq_of_beq (slice_closes_fromL (x := qs m) (i := i) (b := (m : Int)) h0 (by rw [qs_length]; exact h1) (by rw [qs_length]))
  rw [h]
  apply str_ext
  show List.take ((m : Int) - i).toNat (List.drop i.toNat (qs m).cps.toList) = _
  rw [qs_cps, qs_cps, List.drop_replicate, List.take_replicate]
  congr 1
  omega
theorem qs_at {n : Nat} {i : Int} (h0 : 0 ≤ i) (h1 : i < (n : Int)) : (qs n).cps.toList[i.toNat]? = some 34 := by
  rw [qs_cps, List.getElem?_replicate, if_pos (by omega)]
theorem pq_at {n : Nat} {i : Int} (h0 : 4 ≤ i) (h1 : i < (n : Int) + 4) : (pq n).cps.toList[i.toNat]? = some 34 := by
  rw [pq_cps, List.getElem?_append_right (by simp; omega), List.getElem?_replicate, if_pos (by simp; omega)]
theorem slice_code (n : Nat) : PySem.Txt.slice (pq n) none (some 3) = PySem.Str.ofString "257" := by
  have h := eq_of_beq (slice_closes_toL (x := pq n) (j := 3) (by decide) (by rw [pq_length]; omega))
  rw [h, lit_code, pq_cps]
  rfl
theorem slice_sep (n : Nat) (h : 1 ≤ n) : PySem.Txt.slice (pq n) (some 3) (some 5) = PySem.Str.ofString " \"" := by
  have h := eq_of_beq (slice_closesL (x := pq n) (i := 3) (j := 5) (by decide) (by decide) (by rw [pq_length]; omega))
  rw [h, lit_sep, pq_cps]
  obtain ⟨k, rfl⟩ : ∃ k, n = k + 1 := ⟨n - 1, by omega⟩
  rfl
section
variable {prog : Program} {w : World} {A : Around} {E : Value → Shared → Prop} {s : Shared} {Q : Value → Shared → Prop} {t u : Tok}
theorem q_const {M : Model} {env : Env} {x y : PySem.Str} {k : Nat} {pos : Pos} (e : x = y) (h : Q (.str y s.toks) { s with toks := s.toks + 1 }) : wpAny M A (eval (.Constant (.str x) k pos) env) Q E s := by
  subst e
  exact Calls.Constant_str h
theorem q_add {a b : Nat} (hz : a + b ≤ 1000000) (h : ∀ t' tk, Q (.str (qs (a + b)) t') { s with toks := tk }) : wpAny (model prog w) A (binaryOp .Add (.str (qs a) t) (.str (qs b) u)) Q E s := by
  refine PyProof.Rows.add_str (fun t' tk => ?_) (by rw [qs_length, qs_length, PySem.sizeLine_eq]; omega)
  rw [qs_append]
  exact h t' tk
theorem pq_add {a b : Nat} (hz : a + b ≤ 1000000) (h : ∀ t' tk, Q (.str (pq (a + b)) t') { s with toks := tk }) : wpAny (model prog w) A (binaryOp .Add (.str (pq a) t) (.str (qs b) u)) Q E s := by
  refine PyProof.Rows.add_str (fun t' tk => ?_) (by rw [pq_length, qs_length, PySem.sizeLine_eq]; omega)
  rw [pq_append]
  exact h t' tk
theorem q_mul {a : Nat} {n : Int} (ha : a ≤ 1000) (h0 : 0 ≤ n) (hn : n ≤ 1000) (h : ∀ t' tk, Q (.str (qs (a * n.toNat)) t') { s with toks := tk }) : wpAny (model prog w) A (binaryOp .Mult (.str (qs a) t) (.int n u)) Q E s := by
  refine SB.mul (PyProof.Rows.mulOk_of 1000 1000 (by rw [qs_length]; exact ha) (by omega) (by omega) (by decide) (by decide)) (fun t' tk => ?_)
  rw [qs_mul a n h0]
  exact h t' tk
theorem q_ne_same {x : PySem.Str} (h : Q (.bool false) s) : wpAny (model prog w) A (compareOp .NotEq (.str x t) (.str x u)) Q E s := by
  refine PyProof.Rows.ne_str ?_
  rw [bne_self_eq_false]
  exact h
theorem q_len {a : Nat} (ha : a ≤ 1000000) (h : ∀ t' tk, Q (.int (a : Int) t') { s with toks := tk }) : wpAny (model prog w) A (call (.builtin "len") [.str (qs a) t]) Q E s := by
  refine P.len_str (by rw [qs_length]; omega) ?_
  rw [qs_length]
  exact h _ _
theorem pq_len {a : Nat} (ha : a ≤ 1000000) (h : ∀ t' tk, Q (.int ((a : Int) + 4) t') { s with toks := tk }) : wpAny (model prog w) A (call (.builtin "len") [.str (pq a) t]) Q E s := by
  refine P.len_str (by rw [pq_length]; omega) ?_
  have e : (((pq a).length : Nat) : Int) = (a : Int) + 4 := by rw [pq_length]; omega
  rw [e]
  exact h _ _
theorem q_truthy {Q : Bool → Shared → Prop} {a : Nat} (ha : a ≤ 1000000) (h : ∀ tk, Q (decide (a ≠ 0)) { s with toks := tk }) : wpAny (model prog w) A (truthy (.str (qs a) t)) Q E s := by
  refine P.truthy_str (by rw [qs_length]; omega) ?_
  have e : (((qs a).length : Int) != 0) = decide (a ≠ 0) := by
    rw [qs_length, Bool.eq_iff_iff]
    simp
  rw [e]
  exact h _
theorem q_sign {value slice : PySem.Expr} {x : PySem.Str} {i : Int} (h0 : 0 ≤ i) (h1 : i < 2 ^ 63) (hx : x.cps.toList[i.toNat]? = some 34) (h : ∀ t' tk, Q (.str (qs 1) t') { s with toks := tk })
    (hs : subscripted slice false (.str x t) (.int i u) = operate [.str x t, .int i u] (getItem (.str x t) (.int i u))) :
    wpAny (model prog w) A (subscriptTail value slice (.str x t) (.int i u)) Q E s := by
  have hx' : x.cps[i.toNat]? = some 34 := by rw [← hx, Array.getElem?_toList]
  refine tail_any (typeIs_str s x t) F.slot_str_getitem.lookup (P.getItem_str (c := 34) ?_ (PySem.StrLaws.at_nonneg h0 hx') ?_) hs
  · simp; omega
  · exact h _ _
end
section
variable {prog : Program} {w : World} {A : Around} {E : Value → Shared → Prop} {s : Shared} {value slice : PySem.Expr} {x y : PySem.Str} {t : Tok} {h₀ : Heap} {L : Addr} {m : PySem.Str → Option Value} {news : List (Addr × Obj)} {Q : Value → Shared → Prop}
theorem q_sl_nn (hF : Fr h₀ L s.heap m) (hN : News h₀ L s.heap news) (e : PySem.Txt.slice x none none = y) (hsz : x.length ≤ 1000000) (h : ∀ h' t' k, Fr h₀ L h' m → News h₀ L h' news → Q (.str y t') { s with heap := h', toks := k })
    (hs : subscripted slice false (.str x t) (.ref s.heap.objs.size) = operate [.ref s.heap.objs.size, .str x t] (getItem (.str x t) (.ref s.heap.objs.size)))
    (ht : ∀ r, letTemporaryGo value (.str x t) r = pure ()) :
    wpAny (model prog w) A (subscriptTail value slice (.str x t) (.ref s.heap.objs.size)) Q E { s with heap := s.heap.push { cls := .type "slice", data := .fields #[.none, .none, .none] } } := by
  subst e
  exact slice_strN_nn hF hN h hs ht (by rw [PySem.sizeLine_eq]; omega)
theorem q_sl_ns {j : Int} {uj : Tok} (hF : Fr h₀ L s.heap m) (hN : News h₀ L s.heap news) (e : PySem.Txt.slice x none (some j) = y) (hsz : x.length ≤ 1000000) (h : ∀ h' t' k, Fr h₀ L h' m → News h₀ L h' news → Q (.str y t') { s with heap := h', toks := k })
    (hs : subscripted slice false (.str x t) (.ref s.heap.objs.size) = operate [.ref s.heap.objs.size, .str x t] (getItem (.str x t) (.ref s.heap.objs.size)))
    (ht : ∀ r, letTemporaryGo value (.str x t) r = pure ()) :
    wpAny (model prog w) A (subscriptTail value slice (.str x t) (.ref s.heap.objs.size)) Q E { s with heap := s.heap.push { cls := .type "slice", data := .fields #[.none, .int j uj, .none] } } := by
  subst e
  exact slice_strN_ns hF hN h hs ht (by rw [PySem.sizeLine_eq]; omega)
theorem q_sl_sn {i : Int} {ui : Tok} (hF : Fr h₀ L s.heap m) (hN : News h₀ L s.heap news) (e : PySem.Txt.slice x (some i) none = y) (hsz : x.length ≤ 1000000) (h : ∀ h' t' k, Fr h₀ L h' m → News h₀ L h' news → Q (.str y t') { s with heap := h', toks := k })
    (hs : subscripted slice false (.str x t) (.ref s.heap.objs.size) = operate [.ref s.heap.objs.size, .str x t] (getItem (.str x t) (.ref s.heap.objs.size)))
    (ht : ∀ r, letTemporaryGo value (.str x t) r = pure ()) :
    wpAny (model prog w) A (subscriptTail value slice (.str x t) (.ref s.heap.objs.size)) Q E { s with heap := s.heap.push { cls := .type "slice", data := .fields #[.int i ui, .none, .none] } } := by
  subst e
  exact slice_strN_sn hF hN h hs ht (by rw [PySem.sizeLine_eq]; omega)
theorem q_sl_ss {i j : Int} {ui uj : Tok} (hF : Fr h₀ L s.heap m) (hN : News h₀ L s.heap news) (e : PySem.Txt.slice x (some i) (some j) = y) (hsz : x.length ≤ 1000000) (h : ∀ h' t' k, Fr h₀ L h' m → News h₀ L h' news → Q (.str y t') { s with heap := h', toks := k })
    (hs : subscripted slice false (.str x t) (.ref s.heap.objs.size) = operate [.ref s.heap.objs.size, .str x t] (getItem (.str x t) (.ref s.heap.objs.size)))
    (ht : ∀ r, letTemporaryGo value (.str x t) r = pure ()) :
    wpAny (model prog w) A (subscriptTail value slice (.str x t) (.ref s.heap.objs.size)) Q E { s with heap := s.heap.push { cls := .type "slice", data := .fields #[.int i ui, .int j uj, .none] } } := by
  subst e
  exact slice_strN_ss hF hN h hs ht (by rw [PySem.sizeLine_eq]; omega)
end
local macro_rules | `(tactic| walk_at "eval Constant str") => `(tactic| first | with_reducible refine q_const lit_q ?_ | with_reducible refine q_const lit_0 ?_ | with_reducible refine q_const lit_257 ?_)
local macro_rules | `(tactic| walk_at "compareOp NotEq str str") => `(tactic| first | with_reducible refine q_ne_same ?_ | with_reducible refine q_ne ?_)
local macro_rules | `(tactic| walk_at "compareOp Eq str str") => `(tactic| (with_reducible refine q_eq ?_))
local macro_rules | `(tactic| walk_at "binaryOp Add str str") => `(tactic| ((first | with_reducible refine' q_add ?hz ?_ | with_reducible refine' pq_add ?hz ?_); (case hz => omega); intro _ _))
local macro_rules | `(tactic| walk_at "binaryOp Mult str int") => `(tactic| ((with_reducible refine' q_mul ?ha ?h0 ?hn ?_); (case ha => omega); (case h0 => omega); (case hn => omega); intro _ _))
local macro_rules | `(tactic| walk_at "call builtin:len") => `(tactic| ((with_reducible show wpAny _ _ (call (Value.builtin "len") [Value.str _ _]) _ _ _); (first | with_reducible refine' q_len ?hz ?_ | with_reducible refine' pq_len ?hz ?_); (case hz => omega); intro _ _))
local macro_rules | `(tactic| walk_at "truthy str") => `(tactic| ((with_reducible refine' q_truthy ?hz ?_); (case hz => omega); intro _))
local macro_rules | `(tactic| walk_at "subscriptTail Name Name str int") => `(tactic| (k_here; (with_reducible show wpAny _ _ (subscriptTail _ _ (Value.str _ _) (Value.int _ _)) _ _ _); (with_unfolding_all refine' q_sign ?k1 ?k2 ?k3 ?_ ?k4; (case k1 => omega); (case k2 => omega); (case k3 => first | exact pq_at (by omega) (by omega) | exact qs_at (by omega) (by omega)); (case k4 => with_unfolding_all rfl); k_whole); intro _ _))
local macro_rules | `(tactic| walk_at "subscriptTail Name Slice str ref") => `(tactic| (k_here; (first
  | ((with_reducible show wpAny _ _ (subscriptTail _ (PySem.Expr.Slice none (some (PySem.Expr.Constant _ _ _)) none _) _ _) _ _ _); (with_unfolding_all refine' q_sl_ns (s := ⟨_, _, _, _, _⟩) ?k1 ?k2 ?ke ?kz ?_ ?k4 ?k5))
  | ((with_reducible show wpAny _ _ (subscriptTail _ (PySem.Expr.Slice (some _) none none _) _ _) _ _ _); (with_unfolding_all refine' q_sl_sn (s := ⟨_, _, _, _, _⟩) ?k1 ?k2 ?ke ?kz ?_ ?k4 ?k5))
  | ((with_reducible show wpAny _ _ (subscriptTail _ (PySem.Expr.Slice (some _) (some _) none _) _ _) _ _ _); (with_unfolding_all refine' q_sl_ss (s := ⟨_, _, _, _, _⟩) ?k1 ?k2 ?ke ?kz ?_ ?k4 ?k5))
  | (with_unfolding_all refine' q_sl_nn (s := ⟨_, _, _, _, _⟩) ?k1 ?k2 ?ke ?kz ?_ ?k4 ?k5)); (case k1 => k_asm); (case k2 => k_asm); (case ke => first | exact slice_code _ | exact slice_sep _ (by omega) | exact slice_all _ | exact slice_from_qs _ _ (by omega) (by omega)); (case kz => first | (rw [qs_length]; omega) | (rw [pq_length]; omega)); (case k4 => with_unfolding_all rfl); (case k5 => (intro _; with_unfolding_all rfl)); k_whole; intro _ _ _ _ _))
-- needs: P0 P4
set_option maxHeartbeats 8000000 in
theorem parse257_ok {w : World} {k : Nat} {tx : Tok} {news : List (Addr × Obj)} (hk : k < 1000) :
    Ctr w 2 73 [.str (pq (2 * k + 2)) tx] news (fun v news' => news' = news ∧ ∃ t, v = .str (qs k) t) := by
  intro p loose mean mg mb dp un gd cn cs a ccd cl outer A₀ base h₀ L m s Q E B F X N T hk' hd' hu hret
  ktr_call 0 [(PySem.Str.ofString "resp", Value.str (pq (2 * k + 2)) tx)]
  k_steps
  rename Fr _ _ _ _ => F1
  rename News _ _ _ _ => N1
  refine' While_inv2 (fun n m₁ nx => ∃ (j : Nat) (i : Int) (ti tn td : Tok), n = k - j ∧ nx = news ∧
     Reads m₁ [(PySem.Str.ofString "resp", Value.str (pq (2 * k + 2)) tx), (PySem.Str.ofString "i", .int i ti), (PySem.Str.ofString "n", .int (((2 * k + 2 : Nat) : Int) + 4) tn), (PySem.Str.ofString "dirname", .str (qs j) td)] ∧
     j ≤ k ∧ i = 5 + 2 * (j : Int)) F1 N1 ?h0 ?turn (by passes_own)
  case h0 => exact ⟨0, 5, _, _, _, rfl, rfl, by kst_all, Nat.zero_le _, by omega⟩
  case turn =>
    rintro n m₁ nx h₁ tk₁ F₁ N₁ ⟨j, i, ti, tn, td, rfl, rfl, hr, hj, hi⟩
    replace F₁ := fr_known F₁ hr
    dsimp only [mapB] at F₁
    clear F1 N1 hr
    k_steps
    · dsimp only
      refine ws2_brk ?_
      have hjk : j = k := by omega
      subst hjk
      dsimp only
      k_steps
      exact hret _ _ _ _ ⟨rfl, _, rfl⟩ (by assumption) (by assumption)
    · exact ws2_next (by assumption) (by assumption) ⟨j + 1, _, _, _, _, rfl, rfl, by kst_all, by omega, by omega⟩ (by omega)
-- needs: P0 P4
set_option maxHeartbeats 8000000 in
theorem lev_ok {w : World} {a b : Nat} {mc : Int} {ta tb tc : Tok} {news : List (Addr × Obj)} (ha : a < 1000) (hb : b < 1000) :
    Ctr w 2 87 [.str (qs a) ta, .str (qs b) tb, .int mc tc] news (fun v news' => news' = news ∧ ∃ t, v = .int ((2 * ((a - b) + (b - a)) : Nat) : Int) t) := by
  intro p loose mean mg mb dp un gd cn cs ad ccd cl outer A₀ base h₀ L m s Q E B F X N T hk' hd' hu hret
  ktr_call 0 [(PySem.Str.ofString "a", Value.str (qs a) ta), (PySem.Str.ofString "b", Value.str (qs b) tb), (PySem.Str.ofString "max_cost", .int mc tc)]
  k_steps
  · exact hret _ _ _ _ ⟨rfl, _, by
      have e : (0 : Int) = ((2 * ((a - b) + (b - a)) : Nat) : Int) := by omega
      rw [← e]⟩ (by assumption) (by assumption)
  rename Fr _ _ _ _ => F1
  rename News _ _ _ _ => N1
  refine' While_inv2 (fun n m₁ nx => ∃ (pre : Int) (tp : Tok), n = a - pre.toNat ∧ nx = news ∧
     Reads m₁ [(PySem.Str.ofString "a", Value.str (qs a) ta), (PySem.Str.ofString "b", Value.str (qs b) tb), (PySem.Str.ofString "max_cost", .int mc tc), (PySem.Str.ofString "pre", .int pre tp)] ∧
     0 ≤ pre ∧ pre ≤ a ∧ pre ≤ b) F1 N1 ?h0 ?turn (by passes_own)
  case h0 => exact ⟨0, _, rfl, rfl, by kst_all, by omega, by omega, by omega⟩
  case turn =>
    rintro n m₁ nx h₁ tk₁ F₁ N₁ ⟨pre, tp, rfl, rfl, hr, h0, h1, h2⟩
    replace F₁ := fr_known F₁ hr
    dsimp only [mapB] at F₁
    clear F1 N1 hr
    k_steps
    · exact ws2_next (by assumption) (by assumption) ⟨pre + 1, _, rfl, rfl, by kst_all, by omega, by omega, by omega⟩ (by omega)
    all_goals
      have hxy : a - pre.toNat = 0 ∨ b - pre.toNat = 0 := by omega
      have hsum : (a - pre.toNat) + (b - pre.toNat) = (a - b) + (b - a) := by omega
      generalize hx : a - pre.toNat = x at *
      generalize hy : b - pre.toNat = y at *
      have hx9 : x < 1000 := by omega
      have hy9 : y < 1000 := by omega
      rename Fr _ _ _ _ => F1
      rename News _ _ _ _ => N1
      refine' While_inv2 (fun n m₁ nx' => ∃ (t1 t2 t3 : Tok), n = 0 ∧ nx' = nx ∧
        Reads m₁ [(PySem.Str.ofString "a", Value.str (qs x) t1), (PySem.Str.ofString "b", Value.str (qs y) t2), (PySem.Str.ofString "post", .int 0 t3)]) F1 N1 ?h0 ?turn (by passes_own)
      case h0 => exact ⟨_, _, _, rfl, rfl, by kst_all⟩
      case turn =>
        rintro n m₁ nx' h₁ tk₁ F₁ N₁ ⟨t1, t2, t3, rfl, rfl, hr⟩
        replace F₁ := fr_known F₁ hr
        dsimp only [mapB] at F₁
        clear F1 N1 hr
        k_steps
        have e : (2 : Int) * ((x : Int) + (y : Int)) = ((2 * ((a - b) + (b - a)) : Nat) : Int) := by omega
        rw [e]
        exact hret _ _ _ _ ⟨rfl, _, rfl⟩ (by assumption) (by assumption)
-- needs: P0
def dist (a b : Nat) : Nat := (a - b) + (b - a)
def rmAll : List Nat → List Nat → Option (List Nat)
  | [], left => some left
  | w :: ws, left => if left.contains w then rmAll ws (left.erase w) else none
def rowF : Nat → List Nat → List Nat → Nat → List Nat
  | 0, _, row, _ => row
  | f + 1, left, row, least =>
    match rmAll (row.map (· + dist (left.headD 0) least)) left with
    | none => []
    | some left' => rowF f left' (row ++ [dist (left.headD 0) least]) least

theorem left_hit : ∀ (ns : List Nat) (x k : Nat), k < ns.length → (∀ i, i < k → ns.getD i 0 < x) → ns.getD k 0 = x → ns.contains x = true ∧ ns.erase x = ns.take k ++ ns.drop (k + 1)
  | [], _, _, h, _, _ => by simp at h
  | y :: r, x, 0, _, _, h2 => by
    simp at h2
    subst h2
    simp
  | y :: r, x, k + 1, h0, h1, h2 => by
    have hy := h1 0 (Nat.succ_pos _)
    simp at hy
    obtain ⟨a, b⟩ := left_hit r x k (by simpa using h0) (fun i hi => by simpa using h1 (i + 1) (by omega)) (by simpa using h2)
    have hne : y ≠ x := by omega
    refine ⟨by simp at a ⊢; exact .inr a, ?_⟩
    rw [List.erase_cons, if_neg (by simpa using hne), b]
    rfl
theorem left_miss (ns : List Nat) (x k : Nat) (h1 : ∀ i, i < k → ns.getD i 0 < x) (h2 : ∀ i, k ≤ i → i < ns.length → x ≤ ns.getD i 0) (hs : Srt ns) (h : k = ns.length ∨ ns.getD k 0 ≠ x) : ns.contains x = false := by
  cases hc : ns.contains x with
  | false => rfl
  | true =>
    have hm : x ∈ ns := by simpa using hc
    obtain ⟨i, hi, e⟩ := List.getElem_of_mem hm
    have e' : ns.getD i 0 = x := by simp [hi, e]
    rcases Nat.lt_or_ge i k with hik | hik
    · have := h1 i hik; omega
    · rcases h with h | h
      · omega
      · have a1 := h2 k (Nat.le_refl _) (by omega)
        have a2 := hs k i hik hi
        omega
theorem getD_take_drop (ns : List Nat) (k i : Nat) (hk : k < ns.length) : (ns.take k ++ ns.drop (k + 1)).getD i 0 = if i < k then ns.getD i 0 else ns.getD (i + 1) 0 := by
  simp only [List.getD_eq_getElem?_getD]
  by_cases h : i < k
  · rw [if_pos h, List.getElem?_append_left (by simp; omega), List.getElem?_take_of_lt h]
  · rw [if_neg h, List.getElem?_append_right (by simp; omega), List.getElem?_drop]
    congr 2
    simp
    omega
theorem Srt.cut {ns : List Nat} (hs : Srt ns) (k : Nat) (hk : k < ns.length) : Srt (ns.take k ++ ns.drop (k + 1)) := by
  intro i j hij hj
  have hl : (ns.take k ++ ns.drop (k + 1)).length = ns.length - 1 := by simp; omega
  rw [hl] at hj
  rw [getD_take_drop ns k i hk, getD_take_drop ns k j hk]
  split <;> split
  · exact hs _ _ hij (by omega)
  · exact hs _ _ (by omega) (by omega)
  · omega
  · exact hs _ _ (by omega) (by omega)
theorem Bd.cut {ns : List Nat} {B : Nat} (hb : ∀ x ∈ ns, x < B) (k : Nat) : ∀ x ∈ ns.take k ++ ns.drop (k + 1), x < B := by
  intro x hx
  rcases List.mem_append.mp hx with h | h
  · exact hb x (List.mem_of_mem_take h)
  · exact hb x (List.mem_of_mem_drop h)
theorem QAre.cut {vs : List Value} {ns : List Nat} (h : QAre vs ns) : ∀ k, QAre (vs.take k ++ vs.drop (k + 1)) (ns.take k ++ ns.drop (k + 1)) := by
  induction h with
  | nil => intro k; simpa using QAre.nil
  | cons n u h ih =>
    intro k
    cases k with
    | zero => exact h
    | succ k => exact QAre.cons n u (ih k)
theorem cut_of : ∀ (vs : List Value) (k : Nat), k < vs.length → kl_cut vs k = some (vs.take k, vs.getD k .none, vs.drop (k + 1))
  | [], k, h => by simp at h
  | v :: r, 0, _ => rfl
  | v :: r, k + 1, h => by
    unfold kl_cut
    rw [cut_of r k (by simpa using h)]
    rfl
theorem getD_lt {ns : List Nat} {B i : Nat} (hb : ∀ x ∈ ns, x < B) (hi : i < ns.length) : ns.getD i 0 < B := by
  have e : ns.getD i 0 = ns[i] := by simp [hi]
  rw [e]
  exact hb _ (List.getElem_mem hi)

def NAre (us : List Value) (ns : List Nat) : Prop := IntsAre us (ns.map fun n : Nat => (n : Int))
theorem NAre.length {us : List Value} {ns : List Nat} (h : NAre us ns) : us.length = ns.length := by
  have := IntsAre.length h
  simpa using this
theorem NAre.snoc {us : List Value} {ns : List Nat} (h : NAre us ns) (n : Nat) (t : Tok) : NAre (us ++ [.int n t]) (ns ++ [n]) := by
  unfold NAre at *
  rw [List.map_append]
  generalize ns.map (fun n : Nat => (n : Int)) = ms at *
  induction h with
  | nil => exact IntsAre.cons _ _ IntsAre.nil
  | cons a u h ih => exact IntsAre.cons a u ih
theorem tri_lt : ∀ b, b < 7 → ∀ a, a < b → 1 ≤ a → a * (a - 1) / 2 < b * (b - 1) / 2 := by decide
theorem tri_step : ∀ a, a < 7 → a * (a - 1) / 2 + a = (a + 1) * (a + 1 - 1) / 2 := by decide
theorem headD_getD (ns : List Nat) : ns.getD (Int.toNat 0) 0 = ns.headD 0 := by cases ns <;> rfl
theorem headD_lt {ns : List Nat} {B : Nat} (hb : ∀ x ∈ ns, x < B) (hi : 0 < ns.length) : ns.headD 0 < B := by
  rw [← headD_getD]
  exact getD_lt hb hi
theorem map_cast_get {ns : List Nat} {i : Nat} {n : Int} (h : (ns.map fun n : Nat => (n : Int))[i]? = some n) : ∃ e, ns[i]? = some e ∧ n = (e : Int) := by
  rw [List.getElem?_map] at h
  cases he : ns[i]? with
  | none => rw [he] at h; cases h
  | some e => rw [he] at h; exact ⟨e, rfl, (Option.some.inj h).symm⟩
theorem drop_of_get {ns : List Nat} {i e : Nat} (h : ns[i]? = some e) : ns.drop i = e :: ns.drop (i + 1) := by
  obtain ⟨hi, he⟩ := List.getElem?_eq_some_iff.mp h
  rw [← he]
  exact List.drop_eq_getElem_cons hi
theorem rowF_none {f : Nat} {left row : List Nat} {least : Nat} (h : rmAll (row.map (· + dist (left.headD 0) least)) left = none) : rowF (f + 1) left row least = [] := by
  unfold rowF
  rw [h]
theorem rowF_some {f : Nat} {left row left' : List Nat} {least : Nat} (h : rmAll (row.map (· + dist (left.headD 0) least)) left = some left') : rowF (f + 1) left row least = rowF f left' (row ++ [dist (left.headD 0) least]) least := by
  rw [rowF, h]
theorem rmAll_miss {w : Nat} {ws left : List Nat} (h : left.contains w = false) : rmAll (w :: ws) left = none := by
  unfold rmAll
  rw [if_neg (by rw [h]; exact Bool.false_ne_true)]
theorem rmAll_hit {w : Nat} {ws left : List Nat} (h : left.contains w = true) : rmAll (w :: ws) left = rmAll ws (left.erase w) := by
  rw [rmAll, if_pos h]
local macro_rules | `(tactic| walk_at "call builtin:len") => `(tactic| (k_here; (with_reducible show wpAny _ _ (call (Value.builtin "len") [Value.ref _]) _ _ _); k_dflt (refine' kst_len ?k1 ?k2 ?k3 ?k4 ?_; (case k1 => k_asm); (case k2 => first | assumption | k_mem); (case k3 => first | exact QAre.length (by assumption) | exact NAre.length (by assumption)); (case k4 => omega); k_whole)))
local macro_rules | `(tactic| walk_at "subscriptTail") => `(tactic| (k_here; (with_reducible show wpAny _ _ (subscriptTail _ _ (Value.ref _) (Value.int _ _)) _ _ _); (with_unfolding_all refine' q_item ?k1 ?k2 ?kq ?k3 ?k4 ?k5 ?_ ?k6; (case k1 => k_asm); (case k2 => first | assumption | k_mem); (case kq => assumption); (case k3 => omega); (case k4 => omega); (case k5 => omega); (case k6 => with_unfolding_all rfl); k_whole); intro _))
local macro_rules | `(tactic| k_steps) => `(tactic| repeat' ((fail_if_success (with_reducible show wpAny _ _ (exec (Stmt.While _ _ _ _) _) _ _ _)); (fail_if_success (with_reducible show wpAny _ _ (exec (Stmt.For _ _ _ _ _) _) _ _ _)); (fail_if_success (with_reducible show wpAny _ _ (call (Value.ref _) _) _ _ _)); (fail_if_success (with_reducible show WhileStep2 _ _ _ _ _ _ _ _)); (fail_if_success (with_reducible show wpAny _ _ (pyIter _) _ _ _)); (fail_if_success (with_reducible show InvPostN _ _ _ _ _ _ _ _ _)); first | (k_unfold; (try dsimp only)) | walk1 | (dsimp only; walk1) | (leave1; walk_say "STEP leave1"; try dsimp only) | fail "no step"))
local macro_rules | `(tactic| walk_at "call type:range") => `(tactic| ((rename Fr _ _ _ _ => F'); (rename News _ _ _ _ => N'); first
  | (with_unfolding_all refine range1_rows F' N' ?_; intro _ _ _ _ _ _ _ _ _)
  | (with_unfolding_all refine range2_rows F' N' ?_; intro _ _ _ _ _ _ _ _ _)))
-- needs: P0 P2 P4 P6 P7
set_option maxHeartbeats 8000000 in
theorem row_ok {w : World} {l : Addr} {vs : List Value} {ns : List Nat} {c : Nat} {least count : Nat} {tl tc : Tok} {rest : List (Addr × Obj)}
    (hr : ∀ p ∈ rest, p.1 ≠ l) (hq : QAre vs ns) (hs : Srt ns) (hb : ∀ x ∈ ns, x < 100) (hle : least < 100) (hc1 : 1 ≤ count) (hc2 : count ≤ 6) (hn : ns.length = count * (count - 1) / 2) :
    Ctr w 5 94 [.ref l, .int least tl, .int count tc] ((l, listOf vs.toArray c) :: rest) (fun v news' => ∃ r us cr, v = .ref r ∧ NAre us (rowF (count - 1) ns [least] least) ∧ (∀ p ∈ rest, p.1 ≠ r) ∧ news' = (r, listOf us.toArray cr) :: rest) := by
  intro p loose mean mg mb dp un gd cn cs ad ccd cl outer A₀ base h₀ L m s Q E B F X N T hk' hd' hu hret
  ktr_call 0 [(PySem.Str.ofString "left", Value.ref l), (PySem.Str.ofString "least", Value.int least tl), (PySem.Str.ofString "count", .int count tc)]
  k_steps
  rename Fr _ _ _ _ => F1
  rename News _ _ _ _ => N1
  rename _ < _ ∧ AllLt _ _ => l1
  rename_i r hp1 hp2
  have hrr : ∀ p ∈ rest, p.1 ≠ r := fun p hp => Nat.ne_of_lt (kst_ltOf l1.2 p hp)
  have hlr : l ≠ r := Nat.ne_of_lt l1.1
  refine' While_inv2 (fun n m₁ nx => ∃ (vs' : List Value) (ns' : List Nat) (c' : Nat) (us : List Value) (rw : List Nat) (cr : Nat), n = count - rw.length ∧
     nx = (r, listOf us.toArray cr) :: (l, listOf vs'.toArray c') :: rest ∧
     Reads m₁ [(PySem.Str.ofString "left", Value.ref l), (PySem.Str.ofString "least", Value.int least tl), (PySem.Str.ofString "count", .int count tc), (PySem.Str.ofString "row", .ref r)] ∧
     QAre vs' ns' ∧ Srt ns' ∧ (∀ x ∈ ns', x < 100) ∧ NAre us rw ∧ (∀ x ∈ rw, x < 100) ∧ 1 ≤ rw.length ∧ rw.length ≤ count ∧ ns'.length + rw.length * (rw.length - 1) / 2 = count * (count - 1) / 2 ∧
     rowF (count - rw.length) ns' rw least = rowF (count - 1) ns [least] least) F1 N1 ?h0 ?turn (by passes_own)
  case h0 =>
    exact ⟨vs, ns, c, _, [least], 0, rfl, rfl, by kst_all, hq, hs, hb, IntsAre.cons _ _ IntsAre.nil, by simpa using hle, by simp, by simpa using hc1, by simpa using hn, rfl⟩
  case turn =>
    rintro n m₁ nx h₁ tk₁ F₁ N₁ ⟨vs', ns', c', us, rw, cr, rfl, rfl, hrd, hq', hs', hb', hu', hbr, hw1, hw2, hlen, hgoal⟩
    replace F₁ := fr_known F₁ hrd
    dsimp only [mapB] at F₁
    clear F1 N1 hrd hq
    have hpos : rw.length < count → 0 < ns'.length := fun h => by
      have := tri_lt count (by omega) rw.length h hw1
      omega
    have hnl : ns'.length ≤ 15 := by
      have : ∀ b, b < 7 → b * (b - 1) / 2 ≤ 15 := by decide
      have := this count (by omega)
      omega
    k_steps
    · have hpos' : 0 < ns'.length := hpos (by omega)
      have hd0 := headD_lt hb' hpos'
      have e1 : 1 * ((least : Int)).toNat = least := by omega
      rw [e1, headD_getD]
      k_call_by "" (lev_ok (by omega) (by omega))
      rintro v9 nx9 h9 tk9 ⟨rfl, t9, rfl⟩ F9 N9
      k_steps
      have e2 : ((2 * (ns'.headD 0 - least + (least - ns'.headD 0)) : Nat) : Int).fdiv 2 = ((dist (ns'.headD 0) least : Nat) : Int) := by
        rw [fdiv2]; unfold dist; omega
      have hfu : dist (ns'.headD 0) least < 100 := by unfold dist; omega
      rename Fr _ _ _ _ => F1
      rename News _ _ _ _ => N1
      rw [e2] at F1
      generalize hfe : dist (ns'.headD 0) least = fu at *
      with_unfolding_all refine' For_invVF F1 ?k1 ?k2 ?_
      case k1 => exact rfl
      case k2 => exact rfl
      k_steps
      have e3 : rw.length < count := by omega
      clear e2
      with_unfolding_all refine' iter_invNL (fun i m₁ nx => ∃ (vs2 : List Value) (ns2 : List Nat) (c2 : Nat) (tf : Tok),
        nx = (r, listOf us.toArray cr) :: (l, listOf vs2.toArray c2) :: rest ∧
        Reads m₁ [(PySem.Str.ofString "left", Value.ref l), (PySem.Str.ofString "least", Value.int least tl), (PySem.Str.ofString "count", .int count tc), (PySem.Str.ofString "row", .ref r), (PySem.Str.ofString "further", .int fu tf)] ∧
        QAre vs2 ns2 ∧ Srt ns2 ∧ (∀ x ∈ ns2, x < 100) ∧ ns2.length + i = ns'.length ∧
        rmAll ((rw.drop i).map (· + fu)) ns2 = rmAll (rw.map (· + fu)) ns') ?hh ?hl hu' F1 N1 ?hj ?turn ?done
      case hh => exact rfl
      case hl => exact List.Mem.head _
      case hj => exact ⟨vs', ns', c', _, rfl, by kst_all, hq', hs', hb', rfl, rfl⟩
      case turn =>
        rintro i n t m₂ nx2 h2 tk2 own hin hadr hoff hmem ⟨vs2, ns2, c2, tf, rfl, hrd, hq2, hs2, hb2, hlen2, hrm⟩ F₂ N₂
        replace F₂ := fr_known F₂ (reads_skip (by rfl) hrd)
        dsimp only [mapB] at F₂
        simp only [List.cons_append] at N₂
        have hmL : (l, listOf vs2.toArray c2) ∈ ((r, listOf us.toArray cr) :: (l, listOf vs2.toArray c2) :: (rest ++ own)) := List.Mem.tail _ (List.Mem.head _)
        clear F1 N1 hrd hadr hmem
        obtain ⟨e, he, rfl⟩ := map_cast_get hin
        have he100 : e < 100 := hbr e (List.mem_of_getElem? he)
        have hdr := drop_of_get he
        k_steps
        have e5 : 1 * ((e : Int) + (fu : Int)).toNat = e + fu := by omega
        rename Fr _ _ _ _ => F3
        rw [e5] at F3 ⊢
        clear F₂ N₂
        k_call_by "" (bisect_left_ok hmL hq2 (by omega) hs2)
        rintro v9 nx9 h9 tk9 ⟨rfl, k, t, rfl, hk, hA, hB⟩ F9 N9
        k_steps
        all_goals have hfirst : count - rw.length = (count - rw.length - 1) + 1 := by omega
        case' refine'_5 => skip
        all_goals (try
          (have hmiss : ns2.contains (e + fu) = false := left_miss ns2 (e + fu) k hA hB hs2 (by simp only [Int.toNat_natCast] at *; omega)
           have hnone : rmAll (rw.map (· + fu)) ns' = none := by
             rw [← hrm, hdr, List.map_cons]
             exact rmAll_miss hmiss
           have hR : rowF (count - 1) ns [least] least = [] := by
             rw [← hgoal, hfirst]
             exact rowF_none (by rw [hfe]; exact hnone)
           dsimp only [InvPostN]
           refine ws2_ret ?_
           dsimp only
           k_steps
           rename _ < _ ∧ _ < _ ∧ AllLt _ _ => lf
           refine hret _ _ _ _ ⟨_, [], 0, rfl, by rw [hR]; exact IntsAre.nil, fun p hp => Nat.ne_of_lt (kst_ltOf lf.2.2 p (List.mem_append_left _ hp)), rfl⟩ (by assumption) (News.sub (by assumption) fun p hp => ?_)
           rcases List.mem_cons.mp hp with rfl | hp
           · exact .head _
           · exact .tail _ (.tail _ (.tail _ (List.mem_append_left _ hp)))))
        have hk9 : k < ns2.length := by omega
        have hlen9 := hq2.length
        obtain ⟨hc1', hc2'⟩ := left_hit ns2 (e + fu) k hk9 hA (by simp only [Int.toNat_natCast] at *; omega)
        have hoo : ∀ p ∈ rest ++ own, p.1 ≠ l := fun p hp => (List.mem_append.mp hp).elim (hr p) (hoff.ne (by simp) p)
        refine kl_popAt (by assumption) (by assumption) (k := k) ?f ?x (cut_of vs2 k (by omega)) (Upd.tail (Ne.symm hlr) (Upd.head hoo)) ?z fun h' F' N' => ?_
        case f => simp only [Builtin.List.listFitsIndex]; simp; omega
        case x =>
          show seqIndex? (k : Int) vs2.toArray.size = some k
          rw [List.size_toArray]
          have := PySem.StrLaws.seqIndex_nonneg (i := (k : Int)) (n := vs2.length) (by omega) (by omega)
          simpa using this
        case z =>
          show vs2.length ≤ sizeLine
          rw [PySem.sizeLine_eq]; omega
        k_steps
        dsimp only [InvPostN]
        refine InvEndN.intro F' N' (nx := (r, listOf us.toArray cr) :: (l, listOf (vs2.take k ++ vs2.drop (k + 1)).toArray (c2 + 1)) :: rest) ⟨.head _, vs2.take k ++ vs2.drop (k + 1), ns2.take k ++ ns2.drop (k + 1), c2 + 1, _, rfl, by kst_all, hq2.cut k, hs2.cut k hk9, Bd.cut hb2 k, ?_, ?_⟩ rfl ?_ ?_
        · rw [List.length_append, List.length_take, List.length_drop]; omega
        · rw [← hrm, hdr, List.map_cons, rmAll_hit hc1', hc2']
        · intro p hp
          rcases List.mem_cons.mp hp with rfl | hp
          · exact .head _
          · rcases List.mem_cons.mp hp with rfl | hp
            · exact .tail _ (.head _)
            · exact .tail _ (.tail _ (List.mem_append_left _ hp))
        · exact fun p hp => .tail _ (.tail _ (List.mem_append_right _ hp))
      case done =>
        rintro m₂ nx2 h2 tk2 hmem ⟨vs2, ns2, c2, tf, rfl, hrd, hq2, hs2, hb2, hlen2, hrm⟩ F₂ N₂
        replace F₂ := fr_known F₂ hrd
        dsimp only [mapB] at F₂
        clear F1 N1 hrd hmem
        rw [List.length_map] at hlen2 hrm
        rw [List.drop_length] at hrm
        have hsome : rmAll (rw.map (· + fu)) ns' = some ns2 := by rw [← hrm]; rfl
        repeat' ((fail_if_success (with_reducible show wpAny _ _ (call (Value.builtin _) _) _ _ _)); first | (k_unfold; (try dsimp only)) | walk1 | (dsimp only; walk1) | (leave1; walk_say "STEP leave1"; try dsimp only) | fail "no step")
        refine append_K (by assumption) (by assumption) (.head fun p hp => ?hd) (fun h' F' N' => ?_) ?z
        case hd =>
          rcases List.mem_cons.mp hp with rfl | hp
          · first | exact hlr | exact Ne.symm hlr
          · exact hrr p hp
        case z =>
          have hul := NAre.length hu'
          rw [List.size_toArray, PySem.sizeLine_eq]
          omega
        k_steps
        rename Fr _ _ _ _ => F'
        rename News _ _ _ _ => N'
        rw [List.push_toArray] at N'
        have hfirst : count - rw.length = (count - rw.length - 1) + 1 := by omega
        refine ws2_next F' N' ⟨vs2, ns2, c2, us ++ [.int (fu : Int) tf], rw ++ [fu], cr + 1, rfl, rfl, by kst_all, hq2, hs2, hb2, hu'.snoc fu tf, ?_, ?_, ?_, ?_, ?_⟩ ?_
        · intro x hx
          rcases List.mem_append.mp hx with h | h
          · exact hbr x h
          · rw [List.mem_singleton.mp h]; exact hfu
        · rw [List.length_append]; omega
        · rw [List.length_append]; simp; omega
        · have := tri_step rw.length (by omega)
          rw [List.length_append, show rw.length + [fu].length = rw.length + 1 from rfl]
          omega
        · rw [← hgoal, hfirst, rowF_some (by rw [hfe]; exact hsome), hfe, List.length_append]
          rfl
        · rw [List.length_append]; simp; omega
    · have hce : count - rw.length = 0 := by omega
      refine hret _ _ _ _ ⟨r, us, cr, rfl, ?_, hrr, rfl⟩ (by assumption) (News.sub (by assumption) fun p hp => ?_)
      · rw [← hgoal, hce]
        exact hu'
      · rcases List.mem_cons.mp hp with rfl | hp
        · exact .head _
        · exact .tail _ (.tail _ hp)
-- needs: P0 P1 P3 P4 P5 P7
def sumsIn (sz : List Nat) (j : Nat) (acc : List Nat) : Nat → List Nat
  | 0 => acc
  | i + 1 => insR (sz.getD i 0 + sz.getD j 0) (sumsIn sz j acc i)
def sumsOut (sz : List Nat) : Nat → List Nat
  | 0 => []
  | j + 1 => sumsIn sz j (sumsOut sz j) j
def sumsF (sz : List Nat) : List Nat := sumsOut sz sz.length

theorem insR_length (x : Nat) : ∀ ns, (insR x ns).length = ns.length + 1
  | [] => rfl
  | y :: r => by
    unfold insR
    split
    · rfl
    · simp [insR_length x r]
theorem insR_mem (x : Nat) : ∀ (ns : List Nat) (z : Nat), z ∈ insR x ns ↔ z = x ∨ z ∈ ns
  | [], z => by simp [insR]
  | y :: r, z => by
    unfold insR
    split
    · simp
    · simp only [List.mem_cons, insR_mem x r z]
      constructor
      · rintro (h | h | h) <;> simp [h]
      · rintro (h | h | h) <;> simp [h]
theorem Srt.of_cons {y : Nat} {r : List Nat} (h : Srt (y :: r)) : Srt r ∧ ∀ z ∈ r, y ≤ z := by
  refine ⟨fun i j hij hj => by simpa using h (i + 1) (j + 1) (by omega) (by simpa using hj), fun z hz => ?_⟩
  obtain ⟨i, hi, e⟩ := List.getElem_of_mem hz
  have := h 0 (i + 1) (by omega) (by simpa using hi)
  simp [hi, e] at this
  exact this
theorem Srt.cons {y : Nat} {r : List Nat} (h : Srt r) (hy : ∀ z ∈ r, y ≤ z) : Srt (y :: r) := by
  intro i j hij hj
  cases j with
  | zero =>
    have : i = 0 := by omega
    subst this
    exact Nat.le_refl _
  | succ j =>
    have hj' : j < r.length := by simpa using hj
    cases i with
    | zero =>
      have := hy r[j] (List.getElem_mem hj')
      simpa [hj'] using this
    | succ i => simpa using h i j (by omega) hj'
theorem Srt.ins {ns : List Nat} (h : Srt ns) (x : Nat) : Srt (insR x ns) := by
  induction ns with
  | nil =>
    intro i j hij hj
    have hj0 : j = 0 := by
      simp [insR] at hj
      omega
    have hi0 : i = 0 := by omega
    rw [hi0, hj0]
    exact Nat.le_refl _
  | cons y r ih =>
    obtain ⟨h1, h2⟩ := h.of_cons
    unfold insR
    split
    · rename_i hxy
      exact h.cons fun z hz => by
        rcases List.mem_cons.mp hz with rfl | hz
        · omega
        · have := h2 z hz; omega
    · rename_i hxy
      exact (ih h1).cons fun z hz => by
        rcases (insR_mem x r z).mp hz with rfl | hz
        · omega
        · exact h2 z hz
theorem sumsIn_facts {sz : List Nat} {j B : Nat} {acc : List Nat} (hsz : ∀ x, sz.getD x 0 < B) (ha : Srt acc) (hb : ∀ x ∈ acc, x < 2 * B) : ∀ i, Srt (sumsIn sz j acc i) ∧ (∀ x ∈ sumsIn sz j acc i, x < 2 * B) ∧ (sumsIn sz j acc i).length = acc.length + i
  | 0 => ⟨ha, hb, rfl⟩
  | i + 1 => by
    obtain ⟨h1, h2, h3⟩ := sumsIn_facts hsz ha hb i
    refine ⟨h1.ins _, fun x hx => ?_, by rw [sumsIn, insR_length, h3]; omega⟩
    rcases (insR_mem _ _ _).mp hx with rfl | hx
    · have a := hsz i; have b := hsz j; omega
    · exact h2 x hx
theorem sumsOut_facts {sz : List Nat} {B : Nat} (hsz : ∀ x, sz.getD x 0 < B) : ∀ j, Srt (sumsOut sz j) ∧ (∀ x ∈ sumsOut sz j, x < 2 * B) ∧ 2 * (sumsOut sz j).length = j * (j - 1)
  | 0 => ⟨fun i j _ hj => absurd hj (Nat.not_lt_zero _), fun x hx => (nomatch hx), rfl⟩
  | j + 1 => by
    obtain ⟨h1, h2, h3⟩ := sumsOut_facts hsz j
    obtain ⟨k1, k2, k3⟩ := sumsIn_facts (j := j) hsz h1 h2 j
    refine ⟨k1, k2, ?_⟩
    rw [sumsOut, k3, Nat.mul_add, h3]
    cases j with
    | zero => rfl
    | succ j => simp only [Nat.add_sub_cancel, Nat.succ_mul, Nat.mul_succ]; omega
theorem getD_all_lt {ns : List Nat} {B : Nat} (hB : 0 < B) (hb : ∀ x ∈ ns, x < B) (i : Nat) : ns.getD i 0 < B := by
  by_cases hi : i < ns.length
  · exact getD_lt hb hi
  · have : ns.getD i 0 = 0 := by simp [Nat.le_of_not_lt hi]
    omega

section
variable {prog : Program} {w : World} {A : Around} {E : Value → Shared → Prop} {s : Shared} {env : Env} {h₀ : Heap} {x : PySem.Str} {body : List Stmt} {Q : Flow → Shared → Prop}
theorem range_inv {r : Addr} {a₀ b₀ : Int} {t₀ u₀ v₀ : Tok} {n : Nat} {m₀ : PySem.Str → Option Value} {news : List (Addr × Obj)} (J : Nat → (PySem.Str → Option Value) → List (Addr × Obj) → Prop)
    (hh : A.handled = none) (hr : IsRange s.heap r a₀ b₀ 1 t₀ u₀ v₀) (hsmall : Builtin.Range.small a₀ b₀ 1 = true) (hn : Builtin.Range.rangeSize a₀ b₀ 1 = (n : Int)) (F : Fr h₀ env.locals s.heap m₀) (N : News h₀ env.locals s.heap news) (hj : J 0 m₀ news)
    (turn : ∀ i t m₁ news₁ h tk own, i < n → news₁.map (·.1) = news.map (·.1) → OwnOff own (news.map (·.1)) → J i m₁ news₁ → Fr h₀ env.locals h (fun y => if y = x then some (.int (a₀ + (i : Int)) t) else m₁ y) → News h₀ env.locals h (news₁ ++ own) →
      wpAny (model prog w) A (execs body env) (InvPostN h₀ env.locals (J (i + 1)) own (news.map (·.1)) { s with heap := h, toks := tk } Q) E { s with heap := h, toks := tk })
    (done : ∀ m₁ news₁ h tk, J n m₁ news₁ → Fr h₀ env.locals h m₁ → News h₀ env.locals h news₁ → Q .next { s with heap := h, toks := tk }) :
    wpAny (model prog w) A (pyIter (.ref r)) (fun it s₂ => LoopAtV prog w A h₀ env x body Q E it s₂) E s := by
  refine wpAny_pyIter_range hr hsmall ?_
  have W := (Walks.range (prog := prog) (w := w) hh s.heap.objs.size a₀ 1 n).bound
  refine loop_invN J W ?_ ?_ ?_ ?_ (by show IsRangeIter _ _ _ _ _; rw [hn]; simpa using Heap.get?_push_size _ rfl) (F.push _) (fun p hp => ⟨Heap.get?_push_of_some _ (N p hp).1, (N p hp).2⟩) hj ?_ ?_
  · exact fun hm => absurd F.ns.lt ((List.mem_singleton.mp hm) ▸ Nat.lt_irrefl _)
  · intro b hb
    rw [List.mem_singleton.mp hb]
    exact next_is_new F
  · exact fun p hp hI => absurd (Heap.lt_size (N p hp).1) ((List.mem_singleton.mp hI) ▸ Nat.lt_irrefl _)
  · exact fun p hp hI => absurd (Heap.lt_size (N p hp).1) ((List.mem_singleton.mp hI) ▸ Nat.lt_irrefl _)
  · rintro i v m₁ news₁ h tk own hi ⟨_, t, rfl⟩ hadr hoff hJ F₁ N₁
    rw [Int.mul_one] at F₁
    exact turn i t m₁ news₁ h tk own hi hadr hoff hJ F₁ N₁
  · exact fun m₁ news₁ h tk hJ F₁ N₁ => done m₁ news₁ h tk hJ F₁ N₁
end

theorem q_mul2 {prog : Program} {w : World} {A : Around} {E : Value → Shared → Prop} {s : Shared} {Q : Value → Shared → Prop} {t u : Tok} {a : Nat} (ha : a ≤ 1000) (h : ∀ t' tk, Q (.str (qs (a * 2)) t') { s with toks := tk }) : wpAny (model prog w) A (binaryOp .Mult (.str (qs a) t) (.int 2 u)) Q E s :=
  q_mul ha (by decide) (by decide) h
local macro_rules | `(tactic| walk_at "binaryOp Mult str int") => `(tactic| ((with_reducible refine' q_mul2 ?ha ?_); (case ha => omega); intro _ _))

set_option maxHeartbeats 8000000 in
theorem sums_ok {w : World} {nl : Addr} {nv : List Value} {sz : List Nat} {c : Nat} {news : List (Addr × Obj)}
    (hl : (nl, listOf nv.toArray c) ∈ news) (hq : QAre nv sz) (hn : sz.length ≤ 6) (hb : ∀ x ∈ sz, x < 20) :
    Ctr w 6 108 [.ref nl] news (fun v news' => ∃ r us cr, v = .ref r ∧ QAre us (sumsF sz) ∧ (∀ p ∈ news, p.1 < r) ∧ news' = (r, listOf us.toArray cr) :: news) := by
  intro p loose mean mg mb dp un gd cn cs ad ccd cl outer A₀ base h₀ L m s Q E B F X N T hk' hd' hu hret
  ktr_call 0 [(PySem.Str.ofString "names", Value.ref nl)]
  k_steps
  rename Fr _ _ _ _ => F1
  rename News _ _ _ _ => N1
  rename ∀ p ∈ news, _ => l1
  rename_i r hp1 hp2
  have hbz : ∀ i, sz.getD i 0 < 20 := getD_all_lt (by decide) hb
  have hnl : nl ≠ r := Nat.ne_of_lt (l1 _ hl)
  have hm1 : (nl, listOf nv.toArray c) ∈ ((r, listOf #[] 0) :: news) := .tail _ hl
  with_unfolding_all refine' For_invVF F1 ?k1 ?k2 ?_
  case k1 => exact rfl
  case k2 => exact rfl
  k_steps
  rename IsRange _ _ _ _ _ _ _ _ => rg
  rename Fr _ _ _ _ => F1
  rename News _ _ _ _ => N1
  with_unfolding_all refine' range_inv (n := sz.length) (fun j m₁ nx => ∃ (us : List Value) (cr : Nat), nx = (r, listOf us.toArray cr) :: news ∧ QAre us (sumsOut sz j) ∧
    Reads m₁ [(PySem.Str.ofString "names", Value.ref nl), (PySem.Str.ofString "sums", .ref r)]) ?hh rg ?hs ?hn F1 N1 ?hj ?turn ?done
  case hh => exact rfl
  case hs => exact small_one (by omega) (by omega) (by omega) (by omega)
  case hn => rw [rangeSize_nat]; omega
  case hj => exact ⟨[], 0, rfl, QAre.nil, by kst_all⟩
  case turn =>
    rintro j t m₂ nx2 h2 tk2 own hjn hadr hoff ⟨us, cr, rfl, hqu, hrd⟩ F₂ N₂
    rw [Int.zero_add] at F₂
    replace F₂ := fr_known F₂ (reads_cons (x := PySem.Str.ofString "j") (v := .int (j : Int) t) rfl (reads_skip (by rfl) hrd))
    dsimp only [mapB] at F₂
    rw [List.cons_append] at N₂
    clear F1 N1 hrd hadr
    obtain ⟨hso1, hso2, hso3⟩ := sumsOut_facts hbz j
    k_steps
    with_unfolding_all refine' For_invVF F₂ ?k1 ?k2 ?_
    case k1 => exact rfl
    case k2 => exact rfl
    k_steps
    rename IsRange _ _ _ _ _ _ _ _ => rg2
    rename Fr _ _ _ _ => F1
    rename News _ _ _ _ => N1
    with_unfolding_all refine' range_inv (n := j) (fun i m₁ nx => ∃ (us : List Value) (cr : Nat), nx = (r, listOf us.toArray cr) :: (news ++ own) ∧ QAre us (sumsIn sz j (sumsOut sz j) i) ∧
      Reads m₁ [(PySem.Str.ofString "names", Value.ref nl), (PySem.Str.ofString "sums", .ref r), (PySem.Str.ofString "j", .int (j : Int) t)]) ?ihh rg2 ?ihs ?ihn F1 N1 ?ihj ?iturn ?idone
    case ihh => exact rfl
    case ihs => exact small_one (by omega) (by omega) (by omega) (by omega)
    case ihn => rw [rangeSize_nat]; omega
    case ihj => exact ⟨us, cr, rfl, hqu, by kst_all⟩
    case iturn =>
      rintro i t3 m₃ nx3 h3 tk3 own3 hij hadr hoff3 ⟨us3, cr3, rfl, hqu3, hrd⟩ F₃ N₃
      rw [Int.zero_add] at F₃
      replace F₃ := fr_known F₃ (reads_cons (x := PySem.Str.ofString "i") (v := .int (i : Int) t3) rfl (reads_skip (by rfl) hrd))
      dsimp only [mapB] at F₃
      rw [List.cons_append] at N₃
      clear F1 N1 hrd hadr
      obtain ⟨hsi1, hsi2, hsi3⟩ := sumsIn_facts (j := j) hbz hso1 hso2 i
      have hm3 : (nl, listOf nv.toArray c) ∈ ((r, listOf us3.toArray cr3) :: (news ++ own ++ own3)) := .tail _ (List.mem_append_left _ (List.mem_append_left _ hl))
      have hoo : ∀ p ∈ news ++ own ++ own3, p.1 ≠ r := fun p hp => (List.mem_append.mp hp).elim (fun h => (List.mem_append.mp h).elim (fun h => Nat.ne_of_lt (l1 p h)) (hoff.ne (by simp) p)) (hoff3.ne (by simp) p)
      have hzi := hbz ((i : Int)).toNat
      have hzj := hbz ((j : Int)).toNat
      have hj6 : j < 6 := by omega
      k_steps
      have ez : 1 + sz.getD ((i : Int)).toNat 0 * 2 + sz.getD ((j : Int)).toNat 0 * 2 + 1 = 2 * (sz.getD i 0 + sz.getD j 0) + 2 := by
        rw [Int.toNat_natCast, Int.toNat_natCast]; omega
      rw [ez]
      have hzz : sz.getD i 0 + sz.getD j 0 < 1000 := by
        have := hbz i; have := hbz j; omega
      k_call_by "" (parse257_ok hzz)
      rintro v9 nx9 h9 tk9 ⟨rfl, t9, rfl⟩ F9 N9
      k_steps
      have hjj : ∀ b, b < 6 → b * (b - 1) ≤ 20 := by decide
      have hjj' := hjj j hj6
      k_call_by "" (insort_ok hoo hqu3 (by rw [hsi3]; omega) hsi1)
      rintro v9 nx9 h9 tk9 ⟨rfl, us9, hq9, rfl⟩ F9 N9
      k_steps
      dsimp only [InvPostN]
      refine InvEndN.intro F9 N9 (nx := (r, listOf us9.toArray (cr3 + 1)) :: (news ++ own)) ⟨us9, cr3 + 1, rfl, hq9, by kst_all⟩ rfl ?_ ?_
      · intro p hp
        rcases List.mem_cons.mp hp with rfl | hp
        · exact .head _
        · exact .tail _ (List.mem_append_left _ hp)
      · exact fun p hp => .tail _ (List.mem_append_right _ hp)
    case idone =>
      rintro m₃ nx3 h3 tk3 ⟨us3, cr3, rfl, hqu3, hrd⟩ F₃ N₃
      k_steps
      dsimp only [InvPostN]
      refine InvEndN.intro F₃ N₃ (nx := (r, listOf us3.toArray cr3) :: news) ⟨us3, cr3, rfl, hqu3, hrd.1, hrd.2.1, trivial⟩ rfl ?_ ?_
      · intro p hp
        rcases List.mem_cons.mp hp with rfl | hp
        · exact .head _
        · exact .tail _ (List.mem_append_left _ hp)
      · exact fun p hp => .tail _ (List.mem_append_right _ hp)
  case done =>
    rintro m₃ nx3 h3 tk3 ⟨us3, cr3, rfl, hqu3, hrd⟩ F₃ N₃
    replace F₃ := fr_known F₃ hrd
    dsimp only [mapB] at F₃
    k_steps
    exact hret _ _ _ _ ⟨r, us3, cr3, rfl, hqu3, l1, rfl⟩ (by assumption) (by assumption)
-- needs: P0 P7
-- plain
theorem ints_get : ∀ {us : List Value} {ns : List Int}, IntsAre us ns → ∀ i, i < ns.length → ∃ t, us[i]? = some (.int (ns.getD i 0) t)
  | _, _, .nil, i, h => absurd h (Nat.not_lt_zero _)
  | _, _, .cons n t r, 0, _ => ⟨t, rfl⟩
  | _, _, .cons n t r, i + 1, h => by
    obtain ⟨t', e⟩ := ints_get r i (by simpa using h)
    exact ⟨t', by simpa using e⟩
theorem drop_getD {ns : List Int} {i : Nat} (h : i < ns.length) : ns.drop i = ns.getD i 0 :: ns.drop (i + 1) := by
  rw [List.drop_eq_getElem_cons h]
  simp [h]
theorem loop_lt (l b : Addr) (xs ys : List Value) (ns ms : List Int) (n n2 : Nat) (hx : IntsAre xs ns) (hy : IntsAre ys ms) (k : Nat) :
    ∀ i : Nat, ns.length - i = k → i ≤ ns.length → i ≤ ms.length → Meets (Builtin.«list.__eq__.loop» ⟨[.ref l, .ref b, rawInt i, rawInt 0], []⟩)
      (fun _ R s => s.heap.get? l = some (listOf xs.toArray n) ∧ s.heap.get? b = some (listOf ys.toArray n2) ∧
        R (.ok (.ret (.bool (decide (ns.drop i < ms.drop i))))) s) := by
  have lx := hx.length
  have ly := hy.length
  induction k with
  | zero =>
    intro i hk h1 h2 prog w A R s h
    obtain ⟨hp, g, d, tk, os⟩ := s; obtain ⟨hl, hb, h⟩ := h
    wp_walk using AutoSeq1.wpAny_loadPart' hl, AutoSeq1.wpAny_loadPart' hb
    have hi1 : xs.toArray[((i : Nat) : Int).toNat]? = none := by simp; omega
    rw [hi1]
    wp_walk using AutoSeq1.wpAny_loadPart' hl, AutoSeq1.wpAny_loadPart' hb
    show R (.ok (.ret (.bool (decide (xs.toArray.size < ys.toArray.size))))) _
    have hd : ns.drop i = [] := List.drop_of_length_le (by omega)
    have e : decide (ns.drop i < ms.drop i) = decide (xs.toArray.size < ys.toArray.size) := by
      rw [hd, List.size_toArray, List.size_toArray]
      apply decide_eq_decide.mpr
      by_cases hm : i < ms.length
      · rw [drop_getD hm]
        simp
        omega
      · rw [List.drop_of_length_le (by omega)]
        simp
        omega
    rw [e] at h
    exact h
  | succ k ih =>
    intro i hk h1 h2 prog w A R s h
    obtain ⟨hp, g, d, tk, os⟩ := s; obtain ⟨hl, hb, h⟩ := h
    wp_walk using AutoSeq1.wpAny_loadPart' hl, AutoSeq1.wpAny_loadPart' hb
    have hlt : i < ns.length := by omega
    obtain ⟨t, ex⟩ := ints_get hx i hlt
    have hi1 : xs.toArray[((i : Nat) : Int).toNat]? = some (.int (ns.getD i 0) t) := by simpa using ex
    rw [hi1]
    by_cases hm : i < ms.length
    · obtain ⟨u, ey⟩ := ints_get hy i hm
      have hi2 : ys.toArray[((i : Nat) : Int).toNat]? = some (.int (ms.getD i 0) u) := by simpa using ey
      rw [hi2]
      have hc : ((i : Int) + 1) = ((i + 1 : Nat) : Int) := by push_cast; rfl
      rw [drop_getD hlt, drop_getD hm] at h
      refine wpAny_bind (wpAny_eqBool_int ?_)
      by_cases e : ns.getD i 0 = ms.getD i 0
      · have eb : (ns.getD i 0 == ms.getD i 0) = true := by simpa using e
        rw [eb]
        wp_walk
        rw [hc]
        refine ⟨plainId_quiet MeetsSeq3.plain_eq_loop _, codeAny_builtin MeetsSeq3.entry_eq_loop (by
          rw [Around.under_plainId MeetsSeq3.plain_eq_loop _]
          refine ih (i + 1) (by omega) (by omega) (by omega) prog w A R _ ⟨hl, hb, ?_⟩
          have e2 : decide (ns.getD i 0 :: ns.drop (i + 1) < ms.getD i 0 :: ms.drop (i + 1)) = decide (ns.drop (i + 1) < ms.drop (i + 1)) := by
            apply decide_eq_decide.mpr
            rw [List.cons_lt_cons_iff, e]
            simp
          rw [e2] at h
          exact h)⟩
      · have eb : (ns.getD i 0 == ms.getD i 0) = false := by simpa using e
        rw [eb]
        wp_walk using AutoSeq1.wpAny_loadPart' hl, AutoSeq1.wpAny_loadPart' hb
        rw [hi1, hi2]
        have e2 : decide (ns.getD i 0 :: ns.drop (i + 1) < ms.getD i 0 :: ms.drop (i + 1)) = decide (ns.getD i 0 < ms.getD i 0) := by
          apply decide_eq_decide.mpr
          rw [List.cons_lt_cons_iff]
          constructor
          · rintro (q | q)
            · exact q
            · exact absurd q.1 e
          · exact fun q => .inl q
        rw [e2] at h
        refine wpAny_bind ?_
        refine (show wpAny _ _ (compareOp .Lt (.int (ns.getD i 0) t) (.int (ms.getD i 0) u)) _ _ _ from PyProof.Rows.lt_int ?_)
        wp_walk
        exact h
    · have hi2 : ys.toArray[((i : Nat) : Int).toNat]? = none := by simp; omega
      rw [hi2]
      wp_walk using AutoSeq1.wpAny_loadPart' hl, AutoSeq1.wpAny_loadPart' hb
      show R (.ok (.ret (.bool (decide (xs.toArray.size < ys.toArray.size))))) _
      have e : decide (ns.drop i < ms.drop i) = decide (xs.toArray.size < ys.toArray.size) := by
        rw [List.size_toArray, List.size_toArray, drop_getD hlt, List.drop_of_length_le (by omega : ms.length ≤ i)]
        apply decide_eq_decide.mpr
        simp
        omega
      rw [e] at h
      exact h
theorem meets_lt (l b : Addr) (xs ys : List Value) (ns ms : List Int) (n n2 : Nat) (hx : IntsAre xs ns) (hy : IntsAre ys ms) :
    Meets (Builtin.«list.__lt__» ⟨[.ref l, .ref b], []⟩)
      (fun _ R s => s.heap.get? l = some (listOf xs.toArray n) ∧ s.heap.get? b = some (listOf ys.toArray n2) ∧ R (.ok (.ret (.bool (decide (ns < ms))))) s) := by
  intro prog w A R s h
  obtain ⟨hp, g, d, tk, os⟩ := s; obtain ⟨hl, hb, h⟩ := h
  have f3 := AutoSeq1.sub_list_list
  wp_walk using AutoSeq1.wpAny_loadPart' hl, AutoSeq1.wpAny_loadPart' hb
  exact ⟨plainId_quiet MeetsSeq3.plain_eq_loop _, codeAny_builtin MeetsSeq3.entry_eq_loop (by
    rw [Around.under_plainId MeetsSeq3.plain_eq_loop _]
    exact loop_lt l b xs ys ns ms n n2 hx hy _ 0 rfl (Nat.zero_le _) (Nat.zero_le _) prog w A R _ ⟨hl, hb, by simpa using h⟩)⟩
section
variable {prog : Program} {w : World} {A : Around} {E : Value → Shared → Prop} {s : Shared} {Q : Bool → Shared → Prop}
theorem key_lt {l b : Addr} {xs ys : List Value} {ns ms : List Int} {n n2 : Nat} (hu : A.units < cLine) (hl : s.heap.get? l = some (listOf xs.toArray n)) (hb : s.heap.get? b = some (listOf ys.toArray n2)) (hx : IntsAre xs ns) (hy : IntsAre ys ms)
    (h : Q (decide (ns < ms)) s) : wpAny (model prog w) A (keyLt' oneType' (.ref l) (.ref b)) Q E s := by
  rw [keyLt'_oneType, oneLt'_eq]
  simp only [if_true]
  refine wpAny_bind (wpAny_cRoomFor hu ?_)
  refine wpAny_bind (wpAny_callSpecialIfBound?_slot (T := "list") ⟨_, hl, rfl⟩ F.slot_list_lt ?_)
  refine call_meets F.slot_list_lt ⟨_, hl, rfl⟩ F.entry_list_lt (F.args_list_lt_2 _ _) (meets_lt l b xs ys ns ms n n2 hx hy) ⟨hl, hb, ?_⟩
  exact wpAny_truthy_bool h
end
-- needs: P0 P7 P10
-- plain
section
variable {prog : Program} {w : World} {A : Around} {E : Value → Shared → Prop} {s : Shared}
theorem sort_one {a : Addr} {v : Value} {n : Nat} {P : PySem.Fin → Shared → Prop} (ho : s.heap.get? a = some (seqObj "list" #[v] n))
    (h : ∀ h' c, (∀ b o, b ≠ a → s.heap.get? b = some o → h'.get? b = some o) → h'.get? a = some (seqObj "list" #[v] c) → P (.done (.ret .none)) { s with heap := h' }) :
    wpAny (model prog w) A (Builtin.«list.sort» ⟨[.ref a], []⟩) P E s := by
  rw [list_sort_plain]
  have ha : a < s.heap.objs.size := Heap.lt_size ho
  refine wpAny_bind (listItems_at ho rfl ?_)
  refine wpAny_bind (listUpdate_at ho rfl ?_ (by show 1 ≤ _; rw [sizeLine_eq]; omega) (Nat.zero_le _))
  obtain ⟨e1, ho1⟩ : ∃ e1, (s.heap.update a (Obj.mapSeq fun _ => (#[] : Array Value))).get? a = some (seqObj "list" #[] e1) := ⟨_, get?_update_seq ho (fun _ => #[])⟩
  refine wpAny_bind (seqEpoch_at ho1 rfl ?_)
  refine wpAny_bind (wpAny_newTuple ?_ (by show 1 ≤ _; rw [sizeLine_eq]; omega))
  refine wpAny_bind (wpAny_newList ?_ (Nat.zero_le _))
  refine wpAny_holding ?_
  have ho6 : (((s.heap.update a (Obj.mapSeq fun _ => (#[] : Array Value))).push (seqObj "tuple" #[v] 0)).push (seqObj "list" #[] 0)).get? a = some (seqObj "list" #[] e1) :=
    Heap.get?_push_of_some _ (Heap.get?_push_of_some _ ho1)
  show wpAny (model prog w) A _ P E { s with heap := ((s.heap.update a (Obj.mapSeq fun _ => (#[] : Array Value))).push (seqObj "tuple" #[v] 0)).push (seqObj "list" #[] 0) }
  dsimp only
  have h2 : (#[v] : Array Value).size < 2 := Nat.le_refl 2
  rw [if_pos h2, if_pos h2]
  refine wpAny_bind (wpAny_pure ?_)
  rw [StateT.run_pure]
  refine wpAny_bind (wpAny_pure ?_)
  dsimp only
  refine wpAny_bind (seqEpoch_at ho6 rfl ?_)
  have hout : (arrOf (SortSt.mk' general' ((#[v] : Array Value).zip #[v]) #[] 7 none)).map (·.2) = #[v] := by
    show ((#[v] : Array Value).zip #[v]).map (·.2) = #[v]
    simp
  rw [hout]
  refine wpAny_bind (listUpdate_at ho6 rfl ?_ (Nat.zero_le _) (by show 1 ≤ _; rw [sizeLine_eq]; omega))
  obtain ⟨e2, ho7⟩ : ∃ e2, ((((s.heap.update a (Obj.mapSeq fun _ => (#[] : Array Value))).push (seqObj "tuple" #[v] 0)).push (seqObj "list" #[] 0)).update a (Obj.mapSeq fun _ => (#[v] : Array Value))).get? a = some (seqObj "list" #[v] e2) := ⟨_, get?_update_seq ho6 (fun _ => #[v])⟩
  simp only [bne_self_eq_false, Bool.false_eq_true, if_false]
  refine wpAny_pure (h _ e2 (fun b o hb e => ?_) ho7)
  rw [Heap.get?_update_ne _ _ _ _ hb]
  refine Heap.get?_push_of_some _ (Heap.get?_push_of_some _ ?_)
  rw [Heap.get?_update_ne _ _ _ _ hb]
  exact e
end
section
variable {prog : Program} {w : World} {A : Around} {E : Value → Shared → Prop} {s : Shared} {h₀ : Heap} {L l : Addr} {m : PySem.Str → Option Value} {news : List (Addr × Obj)} {Q : Value → Shared → Prop}
theorem sorted_one {v : Value} (F : Fr h₀ L s.heap m) (N : News h₀ L s.heap news) (hl : s.heap.IsList l [v].toArray)
    (h : ∀ D c h', Fr h₀ L h' m → News h₀ L h' ((D, listOf [v].toArray c) :: news) → (∀ q ∈ news, q.1 < D) → Q (.ref D) { s with heap := h' }) :
    wpAny (model prog w) A (call (.builtin "sorted") [.ref l]) Q E s := by
  refine Calls.call_function_entry kind_sorted plain_sorted entry_sorted (args_sorted1 _) ?_
  unfold Builtin.«sorted»
  refine wpAny_bind (m := checkCount "sorted" 1 1 _) (wpAny_pure ?_)
  refine wpAny_bind (collect_list hl ?_ (by show 1 ≤ _; rw [sizeLine_eq]; omega))
  refine wpAny_bind (wpAny_newList ?_ (by show 1 ≤ _; rw [sizeLine_eq]; omega))
  have hsz : ((s.heap.push (seqObj "list" #[] 0)).update s.heap.objs.size (Obj.mapSeq (· ++ [v].toArray))).objs.size = s.heap.objs.size + 1 := by
    rw [Heap.size_update, size_push']
  have hoL : (((s.heap.push (seqObj "list" #[] 0)).update s.heap.objs.size (Obj.mapSeq (· ++ [v].toArray))).push (seqObj "list" [v].toArray 0)).get? (s.heap.objs.size + 1) = some (seqObj "list" #[v] 0) := by
    rw [← hsz]; exact Heap.get?_push_size _ rfl
  have keep : ∀ b o, s.heap.get? b = some o → (((s.heap.push (seqObj "list" #[] 0)).update s.heap.objs.size (Obj.mapSeq (· ++ [v].toArray))).push (seqObj "list" [v].toArray 0)).get? b = some o := fun b o q => by
    have hlt : b < s.heap.objs.size := Heap.lt_size q
    rw [Heap.get?_push_ne _ _ _ (by rw [hsz]; exact Nat.ne_of_lt (Nat.lt_succ_of_lt hlt)), Heap.get?_update_ne _ _ _ _ (Nat.ne_of_lt hlt), Heap.get?_push_ne _ _ _ (Nat.ne_of_lt hlt)]
    exact q
  have hL : L < s.heap.objs.size := F.ns.lt
  show wpAny _ _ _ _ _ { s with heap := ((s.heap.push (seqObj "list" #[] 0)).update s.heap.objs.size (Obj.mapSeq (· ++ [v].toArray))).push (seqObj "list" [v].toArray 0) }
  rw [hsz]
  refine wpAny_bind (wpAny_holding (wpAny_call_entry slot_list_sort ⟨_, hoL, rfl⟩ entry_list_sort (sort_one hoL fun h' c hk hD => ⟨_, rfl, ?_⟩) (args_list_sort _)))
  have keep2 : ∀ b o, s.heap.get? b = some o → h'.get? b = some o := fun b o q => hk b o (Nat.ne_of_lt (Nat.lt_succ_of_lt (Heap.lt_size q))) (keep b o q)
  refine wpAny_pure ⟨_, rfl, h (s.heap.objs.size + 1) c h' (F.kept keep2) (fun p hp => ?_) fun q hq => Nat.lt_succ_of_lt (Heap.lt_size (N q hq).1)⟩
  rcases List.mem_cons.mp hp with rfl | hp
  · exact ⟨hD, Nat.ne_of_gt (Nat.lt_succ_of_lt hL), Heap.get?_none_of_le (Nat.le_trans F.above (Nat.le_succ_of_le (Nat.le_of_lt hL)))⟩
  · exact N.grown keep2 p hp

theorem kas_two {cmp : Nat → Nat → (Bool → Shared → Prop) → Shared → Prop} {R : Array Nat → Shared → Prop} {s : Shared} (h : cmp 1 0 (fun b s' => R (if b = true then #[1, 0] else #[0, 1]) s') s) : (kas_sort 2).kasWp cmp R s := by
  have e : kas_sort 2 = .ask 1 0 fun b => .ret (if b = true then #[1, 0] else #[0, 1]) := by
    show KasT.ask 1 0 _ = _
    congr 1
    funext b
    cases b <;> rfl
  rw [e]
  exact h
def two {α : Type} (c : Bool) (a b : α) : List α := if c = true then [b, a] else [a, b]
theorem sorted_two {a b : Addr} {xs ys : List Value} {ns ms : List Int} {n n2 : Nat} (hu : A.units + 8 < cLine) (F : Fr h₀ L s.heap m) (N : News h₀ L s.heap news) (hl : s.heap.IsList l [Value.ref a, Value.ref b].toArray)
    (ha : (a, listOf xs.toArray n) ∈ news) (hb : (b, listOf ys.toArray n2) ∈ news) (hx : IntsAre xs ns) (hy : IntsAre ys ms)
    (h : ∀ D c h', Fr h₀ L h' m → News h₀ L h' ((D, listOf (two (decide (ms < ns)) (Value.ref a) (Value.ref b)).toArray c) :: news) → (∀ q ∈ news, q.1 < D) → Q (.ref D) { s with heap := h' }) :
    wpAny (model prog w) A (call (.builtin "sorted") [.ref l]) Q E s := by
  refine kas_sorted (T := .type "list") F N hl (Nat.le_refl 2) (by simp) ?_ (by decide) fun D e1 h' F' N' hD => ?_
  · intro h9 F9 N9 v hv
    have one : ∀ {p : Addr} {zs : List Value} {k : Nat}, (p, listOf zs.toArray k) ∈ news → Looks (model prog w) h9 (typeOf (.ref p)) (.type "list") := fun hp => (Looks.ld (N9 _ hp).1).andThen .now
    rcases List.mem_cons.mp hv with rfl | hv
    · exact one ha
    · rw [List.mem_singleton.mp hv]; exact one hb
  · refine kas_two ?_
    show wpAny (model prog w) A.in1.in1 (keyLt' oneType' (.ref b) (.ref a)) _ _ { s with heap := h' }
    refine key_lt (l := b) (b := a) (by simp only [units_in1]; omega) (N' _ (.tail _ hb)).1 (N' _ (.tail _ ha)).1 hy hx ?_
    have fin : ∀ p : Array Nat, (p.toList.map fun i => [Value.ref a, Value.ref b].getD i Value.none) = two (decide (ms < ns)) (Value.ref a) (Value.ref b) →
        KasFin h₀ L m D e1 (p.toList.map fun i => [Value.ref a, Value.ref b].getD i Value.none) (fun s'' => Q (.ref D) s'') { s with heap := h' } := by
      intro p e
      rw [e]
      exact KasFin.intro F' N' (.head fun p hp => Nat.ne_of_lt (hD p hp)) fun h2 c F2 N2 => h D c h2 F2 N2 hD
    cases hc : decide (ms < ns) with
    | true =>
      rw [hc] at fin
      exact fin #[1, 0] rfl
    | false =>
      rw [hc] at fin
      exact fin #[0, 1] rfl
end
-- needs: P0 P4 P6 P7 P8 P9 P11
def wayAt (ns : List Nat) (count third : Nat) : Option (List Nat) :=
  if 2 < third ∧ ns.getD third 0 = ns.getD (third - 1) 0 then none
  else if ns.getD 0 0 + ns.getD 1 0 < ns.getD third 0 ∨ 2 * dist (ns.getD 0 0 + ns.getD 1 0) (ns.getD third 0) % 4 ≠ 0 then none
  else
    let least := 2 * dist (ns.getD 0 0 + ns.getD 1 0) (ns.getD third 0) / 4
    let row := rowF (count - 1) ns [least] least
    if row = [] then none else some row
def waysUpto (ns : List Nat) (count : Nat) : Nat → List (List Nat)
  | 0 => []
  | k + 1 => waysUpto ns count k ++ (wayAt ns count (2 + k)).toList
def waysF (ns : List Nat) (count : Nat) : List (List Nat) := waysUpto ns count (count - 2)
def castL (r : List Nat) : List Int := r.map fun n : Nat => (n : Int)
def sortRows : List (List Nat) → List (List Nat)
  | [a, b] => two (decide (castL b < castL a)) a b
  | l => l

inductive RowsAre : List Value → List (Addr × Obj) → List (List Nat) → Prop
  | nil : RowsAre [] [] []
  | cons {r : Addr} {us : List Value} {c : Nat} {row : List Nat} {vs : List Value} {led : List (Addr × Obj)} {rows : List (List Nat)} : NAre us row → RowsAre vs led rows → RowsAre (.ref r :: vs) ((r, listOf us.toArray c) :: led) (row :: rows)
theorem RowsAre.snoc {r : Addr} {us : List Value} {c : Nat} {row : List Nat} (hu : NAre us row) {vs : List Value} {led : List (Addr × Obj)} {rows : List (List Nat)} (h : RowsAre vs led rows) : RowsAre (vs ++ [.ref r]) (led ++ [(r, listOf us.toArray c)]) (rows ++ [row]) := by
  induction h with
  | nil => exact .cons hu .nil
  | cons hu' _ ih => exact .cons hu' ih
theorem RowsAre.length {vs : List Value} {led : List (Addr × Obj)} {rows : List (List Nat)} (h : RowsAre vs led rows) : vs.length = rows.length := by
  induction h with
  | nil => rfl
  | cons _ _ ih => simp [ih]
theorem len_two {α : Type} {l : List α} (h : l.length = 2) : ∃ a b, l = [a, b] := by
  match l, h with
  | [a, b], _ => exact ⟨a, b, rfl⟩
theorem rows_one {vs : List Value} {led : List (Addr × Obj)} {a : List Nat} (h : RowsAre vs led [a]) : ∃ r us c, vs = [.ref r] ∧ led = [(r, listOf us.toArray c)] ∧ NAre us a := by
  cases h with
  | cons hu h => cases h; exact ⟨_, _, _, rfl, rfl, hu⟩
theorem rows_two {vs : List Value} {led : List (Addr × Obj)} {a b : List Nat} (h : RowsAre vs led [a, b]) : ∃ r1 r2 us1 us2 c1 c2, vs = [.ref r1, .ref r2] ∧ led = [(r1, listOf us1.toArray c1), (r2, listOf us2.toArray c2)] ∧ NAre us1 a ∧ NAre us2 b := by
  cases h with
  | cons hu h =>
    obtain ⟨r, us, c, rfl, rfl, hv⟩ := rows_one h
    exact ⟨_, _, _, _, _, _, rfl, rfl, hu, hv⟩
theorem waysUpto_length (ns : List Nat) (count : Nat) : ∀ k, (waysUpto ns count k).length ≤ k
  | 0 => Nat.le_refl _
  | k + 1 => by
    have := waysUpto_length ns count k
    rw [waysUpto, List.length_append]
    cases wayAt ns count (2 + k) <;> simp <;> omega

section
variable {prog : Program} {w : World} {A : Around} {E : Value → Shared → Prop} {s : Shared} {env : Env} {h₀ : Heap} {x : PySem.Str} {body : List Stmt} {Q : Flow → Shared → Prop}
def GrowEnd (h₀ : Heap) (L : Addr) (J : (PySem.Str → Option Value) → List (Addr × Obj) → Prop) (own : List (Addr × Obj)) (s₁ s₂ : Shared) : Prop :=
  ∃ h' tk m' nx, s₂ = { s₁ with heap := h', toks := tk } ∧ Fr h₀ L h' m' ∧ News h₀ L h' (nx ++ own) ∧ (∀ q ∈ nx, ∀ p ∈ own, q.1 ≠ p.1) ∧ J m' nx
def GrowPost (h₀ : Heap) (L : Addr) (J : (PySem.Str → Option Value) → List (Addr × Obj) → Prop) (own : List (Addr × Obj)) (s₁ : Shared) (Q : Flow → Shared → Prop) (f : Flow) (s₂ : Shared) : Prop :=
  match f with
  | .ret v => Q (.ret v) s₂
  | .brk => Q .next s₂
  | _ => GrowEnd h₀ L J own s₁ s₂
theorem GrowEnd.intro {L : Addr} {J : (PySem.Str → Option Value) → List (Addr × Obj) → Prop} {own : List (Addr × Obj)} {s₁ : Shared} {h' : Heap} {tk : Nat} {m' : PySem.Str → Option Value} {nx : List (Addr × Obj)} (F : Fr h₀ L h' m') (N : News h₀ L h' (nx ++ own))
    (hd : ∀ q ∈ nx, ∀ p ∈ own, q.1 ≠ p.1) (hJ : J m' nx) : GrowEnd h₀ L J own s₁ { s₁ with heap := h', toks := tk } := ⟨h', tk, m', nx, rfl, F, N, hd, hJ⟩
theorem range_grow {r : Addr} {a₀ b₀ : Int} {t₀ u₀ v₀ : Tok} {n : Nat} {m₀ : PySem.Str → Option Value} {news : List (Addr × Obj)} (J : Nat → (PySem.Str → Option Value) → List (Addr × Obj) → Prop)
    (hh : A.handled = none) (hr : IsRange s.heap r a₀ b₀ 1 t₀ u₀ v₀) (hsmall : Builtin.Range.small a₀ b₀ 1 = true) (hn : Builtin.Range.rangeSize a₀ b₀ 1 = (n : Int)) (F : Fr h₀ env.locals s.heap m₀) (N : News h₀ env.locals s.heap news) (hj : J 0 m₀ news)
    (turn : ∀ i t m₁ news₁ h tk own, i < n → (∀ q ∈ news₁, ∀ p ∈ own, q.1 ≠ p.1) → J i m₁ news₁ → Fr h₀ env.locals h (fun y => if y = x then some (.int (a₀ + (i : Int)) t) else m₁ y) → News h₀ env.locals h (news₁ ++ own) →
      wpAny (model prog w) A (execs body env) (GrowPost h₀ env.locals (J (i + 1)) own { s with heap := h, toks := tk } Q) E { s with heap := h, toks := tk })
    (done : ∀ m₁ news₁ h tk, J n m₁ news₁ → Fr h₀ env.locals h m₁ → News h₀ env.locals h news₁ → Q .next { s with heap := h, toks := tk }) :
    wpAny (model prog w) A (pyIter (.ref r)) (fun it s₂ => LoopAtV prog w A h₀ env x body Q E it s₂) E s := by
  refine wpAny_pyIter_range hr hsmall ?_
  have W := (Walks.range (prog := prog) (w := w) hh s.heap.objs.size a₀ 1 n).bound
  have hnew : h₀.get? s.heap.objs.size = none := next_is_new F
  refine ⟨_, _, _, n, _, _, m₀, news, J, rfl, W, ?_, ?_, ?_, (by show IsRangeIter _ _ _ _ _; rw [hn]; simpa using Heap.get?_push_size _ rfl), F.push _, (fun p hp => ⟨Heap.get?_push_of_some _ (N p hp).1, (N p hp).2⟩), hj, ?_, ?_⟩
  · exact fun hm => absurd F.ns.lt ((List.mem_singleton.mp hm) ▸ Nat.lt_irrefl _)
  · intro b hb
    rw [List.mem_singleton.mp hb]
    exact hnew
  · exact fun p hp hI => absurd (Heap.lt_size (N p hp).1) ((List.mem_singleton.mp hI) ▸ Nat.lt_irrefl _)
  · rintro i v m₁ news₁ s₁ own ⟨hh', tk', rfl⟩ hin ⟨_, t, rfl⟩ hJ hoff hown _ hall hst F₁ N₁
    rw [Int.mul_one] at F₁
    have hI : hh'.get? s.heap.objs.size = some _ := hst
    have hIown := hall _ (List.mem_singleton.mpr rfl) hnew _ hI
    have hsep : ∀ q ∈ news₁, ∀ p ∈ own, q.1 ≠ p.1 := fun q hq p hp e => hoff q hq (by rw [e]; exact hown p hp)
    have N₂ : News h₀ env.locals hh' (news₁ ++ own) := fun p hp => N₁ p ((List.mem_append.mp hp).elim (fun h => List.mem_append.mpr (.inr h)) fun h => List.mem_append.mpr (.inl h))
    refine wpAny_mono (turn i t m₁ news₁ hh' tk' own hin hsep hJ F₁ N₂) (fun f s₂ p => ?_) fun _ _ e => e
    have fin : GrowEnd h₀ env.locals (J (i + 1)) own { s with heap := hh', toks := tk' } s₂ → LoopStepU h₀ env.locals [s.heap.objs.size] own (J (i + 1)) { s with heap := hh', toks := tk' } .next s₂ := by
      rintro ⟨h', tk, m', nx, e, F', N', hd, hm⟩
      refine ⟨rfl, h', tk, m', nx, e, F', fun p hp => N' p ((List.mem_append.mp hp).elim (fun h => List.mem_append.mpr (.inr h)) fun h => List.mem_append.mpr (.inl h)), fun q hq hw => ?_, hm⟩
      exact hd q hq _ hIown (List.mem_singleton.mp hw)
    cases f with
    | ret v => exact .ret p
    | brk => exact .brk p
    | next => exact .next (fin p)
    | cont => exact .cont (fin p)
  · exact fun h' tk m' news' F' N' _ hJ => done m' news' h' tk hJ F' N'
end

section
variable {prog : Program} {w : World} {A : Around} {E : Value → Shared → Prop} {s : Shared} {h₀ : Heap} {L l : Addr} {m : PySem.Str → Option Value} {news : List (Addr × Obj)} {Q : Value → Shared → Prop}
theorem q_copy {vs : List Value} {c : Nat} (F : Fr h₀ L s.heap m) (N : News h₀ L s.heap news) (hm : (l, listOf vs.toArray c) ∈ news) (hz : vs.length ≤ 1000000)
    (h : ∀ D c h', Fr h₀ L h' m → News h₀ L h' ((D, listOf vs.toArray c) :: news) → (∀ q ∈ news, q.1 < D) → Q (.ref D) { s with heap := h' }) :
    wpAny (model prog w) A (call (.type "list") [.ref l]) Q E s :=
  list_copyK F N ⟨_, (N _ hm).1, rfl, c, rfl⟩ h (by rw [List.size_toArray, PySem.sizeLine_eq]; omega)
theorem castL_nil (row : List Nat) : castL row = [] ↔ row = [] := by
  unfold castL
  exact List.map_eq_nil_iff
theorem castL_inj {a b : List Nat} (h : castL a = castL b) : a = b := by
  unfold castL at h
  induction a generalizing b with
  | nil => cases b with
    | nil => rfl
    | cons _ _ => cases h
  | cons x r ih => cases b with
    | nil => cases h
    | cons y t =>
      simp only [List.map_cons, List.cons.injEq] at h
      rw [ih h.2, Int.ofNat_inj.mp h.1]
theorem q_ne_rows {a b : Addr} {us vs : List Value} {c d : Nat} {r t : List Nat} (N : News h₀ L s.heap news) (ha : (a, listOf us.toArray c) ∈ news) (hb : (b, listOf vs.toArray d) ∈ news) (hu : NAre us r) (hv : NAre vs t) (hun : A.units + 64 < cLine)
    (h : Q (.bool (decide (r ≠ t))) s) : wpAny (model prog w) A (compareOp .NotEq (.ref a) (.ref b)) Q E s := by
  refine ke_ne_ints ⟨_, (N _ ha).1, rfl, c, rfl⟩ ⟨_, (N _ hb).1, rfl, d, rfl⟩ hu hv hun ?_
  have e : (!decide ((r.map fun n : Nat => (n : Int)) = t.map fun n : Nat => (n : Int))) = decide (r ≠ t) := by
    by_cases h : r = t
    · subst h; simp
    · have : (r.map fun n : Nat => (n : Int)) ≠ t.map fun n : Nat => (n : Int) := fun q => h (castL_inj q)
      simp [h, this]
  rw [e]
  exact h
end
local macro_rules | `(tactic| walk_at "call type:list") => `(tactic| (k_here; (with_reducible show wpAny _ _ (call (Value.type _) [Value.ref _]) _ _ _); (with_unfolding_all refine' q_copy ?k1 ?k2 ?k3 ?z ?_; (case k1 => k_asm); (case k2 => k_asm); (case k3 => first | assumption | k_mem); (case z => (rw [QAre.length (by assumption)]; omega)); k_whole); intro D' c' h' F' N' l1))
local macro_rules | `(tactic| walk_at "compareOp NotEq ref ref") => `(tactic| (k_here; (with_unfolding_all refine' q_ne_rows ?k1 ?k2 ?k3 ?k4 ?k5 ?k6 ?_; (case k1 => k_asm); (case k2 => first | assumption | k_mem); (case k3 => first | assumption | k_mem); (case k4 => assumption); (case k5 => first | assumption | exact IntsAre.nil); (case k6 => ktr_units); k_whole)))

set_option maxHeartbeats 8000000 in
theorem ways_ok {w : World} {l : Addr} {vs : List Value} {ns : List Nat} {c count : Nat} {tc : Tok} {news : List (Addr × Obj)}
    (hl : (l, listOf vs.toArray c) ∈ news) (hq : QAre vs ns) (hs : Srt ns) (hb : ∀ x ∈ ns, x < 40) (hc1 : 3 ≤ count) (hc2 : count ≤ 6) (hn : ns.length = count * (count - 1) / 2)
    (hw : (waysF ns count).length = 1 ∨ (waysF ns count).length = 2) :
    Ctr w 12 101 [.ref l, .int count tc] news (fun v news' => ∃ D ws led cD, v = .ref D ∧ RowsAre ws led (sortRows (waysF ns count)) ∧ news' = (D, listOf ws.toArray cD) :: (led ++ news)) := by
  intro p loose mean mg mb dp un gd cn cs ad ccd cl outer A₀ base h₀ L m s Q E B F X N T hk' hd' hu hret
  ktr_call 0 [(PySem.Str.ofString "sums", Value.ref l), (PySem.Str.ofString "count", .int count tc)]
  k_steps
  rename Fr _ _ _ _ => F1
  rename News _ _ _ _ => N1
  rename ∀ p ∈ news, _ => l1
  rename_i r hp1 hp2
  have hbz : ∀ i, ns.getD i 0 < 40 := getD_all_lt (by decide) hb
  have hlr : l ≠ r := Nat.ne_of_lt (l1 _ hl)
  have hm1 : (l, listOf vs.toArray c) ∈ ((r, listOf #[] 0) :: news) := .tail _ hl
  have hcn : count ≤ ns.length := by
    have : ∀ b, b < 7 → 3 ≤ b → b ≤ b * (b - 1) / 2 := by decide
    have := this count (by omega) hc1
    omega
  have hn15 : ns.length ≤ 15 := by
    have : ∀ b, b < 7 → b * (b - 1) / 2 ≤ 15 := by decide
    have := this count (by omega)
    omega
  with_unfolding_all refine' For_invVF F1 ?k1 ?k2 ?_
  case k1 => exact rfl
  case k2 => exact rfl
  k_steps
  rename IsRange _ _ _ _ _ _ _ _ => rg
  rename Fr _ _ _ _ => F1
  rename News _ _ _ _ => N1
  with_unfolding_all refine' range_grow (n := count - 2) (fun k m₁ nx => ∃ (wv : List Value) (cr : Nat) (led : List (Addr × Obj)), nx = (r, listOf wv.toArray cr) :: (led ++ news) ∧ RowsAre wv led (waysUpto ns count k) ∧ (∀ p ∈ led ++ news, p.1 ≠ r) ∧
    Reads m₁ [(PySem.Str.ofString "sums", Value.ref l), (PySem.Str.ofString "count", .int count tc), (PySem.Str.ofString "ways", .ref r)]) ?hh rg ?hs ?hn F1 N1 ?hj ?turn ?done
  case hh => exact rfl
  case hs => exact small_one (by omega) (by omega) (by omega) (by omega)
  case hn => rw [rangeSize_nat]; omega
  case hj => exact ⟨[], 0, [], rfl, .nil, fun p hp => Nat.ne_of_lt (l1 p hp), by kst_all⟩
  case turn =>
    rintro k t m₂ nx2 h2 tk2 own hkn hoff ⟨wv, cr, led, rfl, hrows, hdis, hrd⟩ F₂ N₂
    replace F₂ := fr_known F₂ (reads_cons (x := PySem.Str.ofString "third") (v := .int (2 + (k : Int)) t) rfl (reads_skip (by rfl) hrd))
    dsimp only [mapB] at F₂
    rw [List.cons_append] at N₂
    clear F1 N1 hrd
    have hm3 : (l, listOf vs.toArray c) ∈ ((r, listOf wv.toArray cr) :: (led ++ news ++ own)) := .tail _ (List.mem_append_left _ (List.mem_append_right _ hl))
    have hb0 := hbz (Int.toNat 0)
    have hb1 := hbz (Int.toNat 1)
    have hb2 := hbz ((2 + (k : Int))).toNat
    have e2 : ((2 + (k : Int))).toNat = 2 + k := by omega
    have e3 : ((2 + (k : Int) - 1)).toNat = 2 + k - 1 := by omega
    have z0 : Int.toNat 0 = 0 := rfl
    have z1 : Int.toNat 1 = 1 := rfl
    k_steps
    · simp only [e2, e3] at *
      dsimp only [GrowPost]
      refine GrowEnd.intro (nx := (r, listOf wv.toArray cr) :: (led ++ news)) (by assumption) (by rw [List.cons_append]; assumption) hoff ⟨wv, cr, led, rfl, ?_, hdis, by kst_all⟩
      have hnone : wayAt ns count (2 + k) = none := by
        unfold wayAt
        rw [if_pos ⟨by omega, by assumption⟩]
      rw [waysUpto, hnone]
      simpa using hrows
    all_goals
      have hcond : ¬ (2 < 2 + k ∧ ns.getD (2 + k) 0 = ns.getD (2 + k - 1) 0) := by
        simp only [e2, e3] at *
        rintro ⟨q1, q2⟩
        first | (exact absurd q2 (by assumption)) | omega
      simp only [e2, z0, z1] at *
      k_call_by "" (lev_ok (by omega) (by omega))
      rintro v9 nx9 h9 tk9 ⟨rfl, t9, rfl⟩ F9 N9
      k_steps
      have e2 : ((2 + (k : Int))).toNat = 2 + k := by omega
      simp only [e2]
      have ed : (ns.getD 0 0 + ns.getD 1 0 - ns.getD (2 + k) 0 + (ns.getD (2 + k) 0 - (ns.getD 0 0 + ns.getD 1 0))) = dist (ns.getD 0 0 + ns.getD 1 0) (ns.getD (2 + k) 0) := rfl
      rename Fr _ _ _ _ => F1
      simp only [ed] at F1 ⊢
      have hd100 : dist (ns.getD 0 0 + ns.getD 1 0) (ns.getD (2 + k) 0) < 100 := by unfold dist; omega
      generalize hdd : dist (ns.getD 0 0 + ns.getD 1 0) (ns.getD (2 + k) 0) = dd at F1 hd100 ⊢
      k_steps
      · dsimp only [GrowPost]
        refine GrowEnd.intro (nx := (r, listOf wv.toArray cr) :: (led ++ news)) (by assumption) (by rw [List.cons_append]; assumption) hoff ⟨wv, cr, led, rfl, ?_, hdis, by kst_all⟩
        have hnone : wayAt ns count (2 + k) = none := by
          unfold wayAt
          rw [if_neg hcond, if_pos (.inl (by omega))]
        rw [waysUpto, hnone]
        simpa using hrows
      · dsimp only [GrowPost]
        refine GrowEnd.intro (nx := (r, listOf wv.toArray cr) :: (led ++ news)) (by assumption) (by rw [List.cons_append]; assumption) hoff ⟨wv, cr, led, rfl, ?_, hdis, by kst_all⟩
        have hnone : wayAt ns count (2 + k) = none := by
          have hx : 2 * dist (ns.getD 0 0 + ns.getD 1 0) (ns.getD (2 + k) 0) % 4 ≠ 0 := by
            rw [hdd]
            intro q
            have q2 : ((2 * dd : Nat) : Int).fmod 4 = 0 := by rw [Int.fmod_eq_emod_of_nonneg _ (by decide)]; omega
            exact absurd q2 (by assumption)
          unfold wayAt
          rw [if_neg hcond, if_pos (.inr hx)]
        rw [waysUpto, hnone]
        simpa using hrows
      · have e4 : ((2 * dd : Nat) : Int).fdiv 4 = ((2 * dd / 4 : Nat) : Int) := by rw [Int.fdiv_eq_ediv_of_nonneg _ (by decide)]; omega
        rw [e4]
        rename ∀ q ∈ (r, listOf wv.toArray cr) :: (led ++ news ++ own), _ => lD
        k_call_by "" (row_ok (fun p hp => Nat.ne_of_lt (lD p hp)) hq hs (fun x hx => Nat.lt_trans (hb x hx) (by decide)) (by omega) (by omega) hc2 hn)
        rintro v9 nx9 h9 tk9 ⟨r2, us2, c2, rfl, hu2, hd2, rfl⟩ F9 N9
        generalize hrw : rowF (count - 1) ns [2 * dd / 4] (2 * dd / 4) = row at hu2
        have hne2 : r ≠ r2 := hd2 _ (List.Mem.head _)
        have hmod : ¬ (ns.getD 0 0 + ns.getD 1 0 < ns.getD (2 + k) 0 ∨ 2 * dist (ns.getD 0 0 + ns.getD 1 0) (ns.getD (2 + k) 0) % 4 ≠ 0) := by
          rw [hdd]
          have q2 : ((2 * dd : Nat) : Int).fmod 4 = 0 := by assumption
          rw [Int.fmod_eq_emod_of_nonneg _ (by decide)] at q2
          omega
        have hway : wayAt ns count (2 + k) = if row = [] then none else some row := by
          unfold wayAt
          rw [if_neg hcond, if_neg hmod]
          simp only [hdd, hrw]
        k_steps
        · have hrow : row = [] := by
            have q : decide ((row.map fun n : Nat => (n : Int)) = []) = true := by assumption
            exact List.map_eq_nil_iff.mp (of_decide_eq_true q)
          rw [if_pos hrow] at hway
          dsimp only [GrowPost]
          refine GrowEnd.intro (nx := (r, listOf wv.toArray cr) :: (led ++ news)) (by assumption) (News.sub (by assumption) fun p hp => .tail _ (.tail _ (by rw [List.cons_append] at hp; exact hp))) hoff ⟨wv, cr, led, rfl, ?_, hdis, by kst_all⟩
          rw [waysUpto, hway]
          simpa using hrows
        · have hrow : row ≠ [] := by
            have q : decide ((row.map fun n : Nat => (n : Int)) = []) = false := by assumption
            intro e
            rw [e] at q
            cases q
          rw [if_neg hrow] at hway
          rename _ < _ ∧ _ < _ ∧ AllLt _ _ => lf
          have hwl := hrows.length
          have hwk := waysUpto_length ns count k
          have hoo : ∀ p ∈ led ++ news ++ own, p.1 ≠ r := fun p hp => (List.mem_append.mp hp).elim (hdis p) (fun h e => hoff _ (.head _) p h e.symm)
          refine append_K (by assumption) (by assumption) (.tail (Nat.ne_of_gt lf.2.1) (.tail (Ne.symm hne2) (.head hoo))) (fun h' F' N' => ?_) ?z
          case z => rw [List.size_toArray, PySem.sizeLine_eq]; omega
          rw [List.push_toArray] at N'
          k_steps
          dsimp only [GrowPost]
          refine GrowEnd.intro (nx := (r, listOf (wv ++ [Value.ref r2]).toArray (cr + 1)) :: ((led ++ [(r2, listOf us2.toArray c2)]) ++ news)) F' (News.sub N' fun p hp => ?_) ?_ ⟨wv ++ [.ref r2], cr + 1, led ++ [(r2, listOf us2.toArray c2)], rfl, ?_, ?_, by kst_all⟩
          · simp only [List.cons_append, List.append_assoc, List.mem_cons, List.mem_append, List.nil_append] at hp ⊢
            rcases hp with h | h | h | h | h
            · exact .inr (.inr (.inl h))
            · exact .inr (.inr (.inr (.inl h)))
            · exact .inr (.inl h)
            · exact .inr (.inr (.inr (.inr (.inl h))))
            · exact .inr (.inr (.inr (.inr (.inr h))))
          · intro q hq9 p hp
            simp only [List.append_assoc, List.mem_cons, List.mem_append, List.cons_append, List.nil_append] at hq9
            rcases hq9 with h | h | h | h
            · rw [h]; exact hoff _ (.head _) p hp
            · exact hoff q (.tail _ (List.mem_append_left _ h)) p hp
            · rw [h]; exact Ne.symm (hd2 p (.tail _ (List.mem_append_right _ hp)))
            · exact hoff q (.tail _ (List.mem_append_right _ h)) p hp
          · rw [waysUpto, hway]
            exact hrows.snoc hu2
          · intro p hp
            simp only [List.append_assoc, List.mem_append, List.mem_cons, List.cons_append, List.nil_append] at hp
            rcases hp with h | h | h
            · exact hdis p (List.mem_append_left _ h)
            · rw [h]; exact Ne.symm hne2
            · exact hdis p (List.mem_append_right _ h)
  case done =>
    rintro m₂ nx2 h2 tk2 ⟨wv, cr, led, rfl, hrows, hdis, hrd⟩ F₂ N₂
    replace F₂ := fr_known F₂ hrd
    dsimp only [mapB] at F₂
    clear F1 N1 hrd
    k_steps
    have hrows' : RowsAre wv led (waysF ns count) := hrows
    rcases hw with hw | hw
    · obtain ⟨a, ha⟩ := List.length_eq_one_iff.mp hw
      rw [ha] at hrows' hret
      obtain ⟨r1, us1, k1, rfl, rfl, hu1⟩ := rows_one hrows'
      refine sorted_one (l := r) (by assumption) (by assumption) ⟨_, (N₂ _ (.head _)).1, rfl, cr, rfl⟩ fun D cD h' F' N' hD => ?_
      k_steps
      refine hret _ _ _ _ ⟨D, _, _, cD, rfl, hrows', rfl⟩ (by assumption) (News.sub (by assumption) fun p hp => ?_)
      rcases List.mem_cons.mp hp with h | h
      · rw [h]; exact .head _
      · exact .tail _ (.tail _ h)
    · obtain ⟨a, b, hab⟩ := len_two hw
      rw [hab] at hrows' hret
      obtain ⟨r1, r2, us1, us2, k1, k2, rfl, rfl, hu1, hu2⟩ := rows_two hrows'
      have m1 : (r1, listOf us1.toArray k1) ∈ ((r, listOf [Value.ref r1, Value.ref r2].toArray cr) :: ([(r1, listOf us1.toArray k1), (r2, listOf us2.toArray k2)] ++ news)) := .tail _ (.head _)
      have m2 : (r2, listOf us2.toArray k2) ∈ ((r, listOf [Value.ref r1, Value.ref r2].toArray cr) :: ([(r1, listOf us1.toArray k1), (r2, listOf us2.toArray k2)] ++ news)) := .tail _ (.tail _ (.head _))
      refine sorted_two (l := r) (ns := castL a) (ms := castL b) (by ktr_units) (by assumption) (by assumption) ⟨_, (N₂ _ (.head _)).1, rfl, cr, rfl⟩ m1 m2 hu1 hu2 fun D cD h' F' N' hD => ?_
      k_steps
      cases hc : decide (castL b < castL a) with
      | true =>
        refine hret _ _ _ _ ⟨D, [.ref r2, .ref r1], [(r2, listOf us2.toArray k2), (r1, listOf us1.toArray k1)], cD, rfl, ?_, rfl⟩ (by assumption) (News.sub (by assumption) fun p hp => ?_)
        · show RowsAre _ _ (two (decide (castL b < castL a)) a b)
          rw [hc]
          exact .cons hu2 (.cons hu1 .nil)
        · rw [hc]
          simp only [List.cons_append, List.nil_append, List.mem_cons, two, if_true] at hp ⊢
          rcases hp with h | h | h | h
          · exact .inl h
          · exact .inr (.inr (.inr (.inl h)))
          · exact .inr (.inr (.inl h))
          · exact .inr (.inr (.inr (.inr h)))
      | false =>
        refine hret _ _ _ _ ⟨D, [.ref r1, .ref r2], [(r1, listOf us1.toArray k1), (r2, listOf us2.toArray k2)], cD, rfl, ?_, rfl⟩ (by assumption) (News.sub (by assumption) fun p hp => ?_)
        · show RowsAre _ _ (two (decide (castL b < castL a)) a b)
          rw [hc]
          exact .cons hu1 (.cons hu2 .nil)
        · rw [hc]
          simp only [List.cons_append, List.nil_append, List.mem_cons, two, Bool.false_eq_true, if_false] at hp ⊢
          rcases hp with h | h | h | h
          · exact .inl h
          · exact .inr (.inr (.inl h))
          · exact .inr (.inr (.inr (.inl h)))
          · exact .inr (.inr (.inr (.inr h)))
-- needs: P0 P3 P7 P9 P12
-- plain
def sortN : List Nat → List Nat
  | [] => []
  | x :: r => insR x (sortN r)
def pairSums : List Nat → List Nat
  | [] => []
  | x :: r => r.map (x + ·) ++ pairSums r
def dueF (sizes : List Nat) : List (List Nat) :=
  let own := sortN sizes
  let half := own.sum / 2
  let other := sortN (own.map (half - ·))
  if own.length = 4 ∧ own.sum % 2 = 0 ∧ other ≠ own then sortRows [own, other] else [own]
def insB (x : Nat) : List Nat → List Nat
  | [] => [x]
  | y :: r => bif Nat.blt x y then x :: y :: r else y :: insB x r
theorem blt_eq (x y : Nat) : Nat.blt x y = decide (x < y) := by
  rw [Bool.eq_iff_iff]
  simp [Nat.blt, Nat.ble_eq, Nat.lt_iff_add_one_le]
theorem insB_eq (x : Nat) : ∀ l, insB x l = insR x l
  | [] => rfl
  | y :: r => by
    unfold insB insR
    rw [insB_eq x r, blt_eq]
    by_cases h : x < y <;> simp [h]
def rmOne (w : Nat) : List Nat → Option (List Nat)
  | [] => none
  | y :: r => bif Nat.beq y w then some r else (rmOne w r).map (y :: ·)
theorem rmOne_eq (w : Nat) : ∀ l, rmOne w l = if l.contains w then some (l.erase w) else none
  | [] => rfl
  | y :: r => by
    unfold rmOne
    rw [rmOne_eq w r, List.erase_cons, List.contains_cons]
    by_cases h : y = w
    · subst h
      simp
    · have h1 : Nat.beq y w = false := by
        cases e : Nat.beq y w with
        | false => rfl
        | true => exact absurd (Nat.eq_of_beq_eq_true e) h
      have h2 : (w == y) = false := by simp; omega
      have h3 : (y == w) = false := by simp; omega
      rw [h1, h2, h3]
      cases hc : r.contains w <;> rfl
def rmAllB : List Nat → List Nat → Option (List Nat)
  | [], left => some left
  | w :: ws, left => match rmOne w left with
    | none => none
    | some l => rmAllB ws l
theorem rmAllB_eq : ∀ ws left, rmAllB ws left = rmAll ws left
  | [], _ => rfl
  | w :: ws, left => by
    unfold rmAllB rmAll
    rw [rmOne_eq]
    cases h : left.contains w with
    | true =>
      simp only [if_true]
      exact rmAllB_eq ws _
    | false => rfl
def rowB : Nat → List Nat → List Nat → Nat → List Nat
  | 0, _, row, _ => row
  | f + 1, left, row, least =>
    match rmAllB (row.map (Nat.add · (dist (left.headD 0) least))) left with
    | none => []
    | some left' => rowB f left' (row ++ [dist (left.headD 0) least]) least
theorem rowB_eq : ∀ f left row least, rowB f left row least = rowF f left row least
  | 0, _, _, _ => rfl
  | f + 1, left, row, least => by
    unfold rowB rowF
    have e : row.map (Nat.add · (dist (left.headD 0) least)) = row.map (· + dist (left.headD 0) least) := rfl
    rw [e, rmAllB_eq]
    cases rmAll (row.map (· + dist (left.headD 0) least)) left with
    | none => rfl
    | some l => exact rowB_eq f l _ least
def wayB (ns : List Nat) (count third : Nat) : Option (List Nat) :=
  bif Nat.blt 2 third && Nat.beq (ns.getD third 0) (ns.getD (third - 1) 0) then none
  else
    let both := ns.getD 0 0 + ns.getD 1 0
    let apart := 2 * dist both (ns.getD third 0)
    bif Nat.blt both (ns.getD third 0) || !Nat.beq (apart % 4) 0 then none
    else match rowB (count - 1) ns [apart / 4] (apart / 4) with
      | [] => none
      | x :: r => some (x :: r)
theorem beq_dec (x y : Nat) : Nat.beq x y = decide (x = y) := by
  by_cases h : x = y
  · subst h; simp
  · simp only [h, decide_false]
    cases e : Nat.beq x y with
    | false => rfl
    | true => exact absurd (Nat.eq_of_beq_eq_true e) h
theorem wayB_eq (ns : List Nat) (count third : Nat) : wayB ns count third = wayAt ns count third := by
  unfold wayB wayAt
  simp only [blt_eq, beq_dec, rowB_eq]
  generalize ns.getD third 0 = c
  generalize ns.getD (third - 1) 0 = d
  generalize ns.getD 0 0 + ns.getD 1 0 = b
  generalize rowF (count - 1) ns [2 * dist b c / 4] (2 * dist b c / 4) = row
  generalize 2 * dist b c % 4 = e
  by_cases h : 2 < third ∧ c = d
  · rw [if_pos h]
    simp [h.1, h.2]
  · rw [if_neg h, show (decide (2 < third) && decide (c = d)) = false by rw [← Bool.decide_and]; exact decide_eq_false h]
    simp only [cond_false]
    by_cases g : b < c ∨ e ≠ 0
    · rw [if_pos g, show (decide (b < c) || !decide (e = 0)) = true by rcases g with g | g <;> simp [g]]
      rfl
    · have g1 : ¬ b < c := fun q => g (.inl q)
      have g2 : e = 0 := Decidable.byContradiction fun q => g (.inr q)
      rw [if_neg g, show (decide (b < c) || !decide (e = 0)) = false by rw [decide_eq_false g1, g2]; rfl]
      simp only [cond_false]
      cases row with
      | nil => rfl
      | cons x r => simp
def waysB (ns : List Nat) (count : Nat) : Nat → List (List Nat)
  | 0 => []
  | k + 1 => waysB ns count k ++ (wayB ns count (2 + k)).toList
theorem waysB_eq (ns : List Nat) (count : Nat) : ∀ k, waysB ns count k = waysUpto ns count k
  | 0 => rfl
  | k + 1 => by
    unfold waysB waysUpto
    rw [waysB_eq ns count k, wayB_eq]
def sortB : List Nat → List Nat
  | [] => []
  | x :: r => insB x (sortB r)
theorem sortB_eq : ∀ l, sortB l = sortN l
  | [] => rfl
  | x :: r => by
    unfold sortB sortN
    rw [insB_eq, sortB_eq r]
def okW (due : List (List Nat)) : List (List Nat) → Bool
  | [a] => due == [a]
  | [a, b] => due == two (decide (castL b < castL a)) a b
  | _ => false
theorem okW_spec {due ways : List (List Nat)} (h : okW due ways = true) : (ways.length = 1 ∨ ways.length = 2) ∧ sortRows ways = due := by
  match ways, h with
  | [a], h => exact ⟨.inl rfl, (eq_of_beq h).symm⟩
  | [a, b], h => exact ⟨.inr rfl, (eq_of_beq h).symm⟩
  | [], h => cases h
  | _ :: _ :: _ :: _, h => cases h
def goodC (sz : List Nat) : Bool := okW (dueF sz) (waysB (sortB (pairSums sz)) sz.length (sz.length - 2))

def allTails (q : List Nat → Bool) : List Nat → Bool
  | [] => true
  | d :: ds => q (d :: ds) && allTails q ds
def allUp (p : List Nat → Bool) : Nat → List Nat → List Nat → Bool
  | 0, _, pre => p pre
  | k + 1, ds, pre => allTails (fun t => allUp p k t (t.headD 0 :: pre)) ds
theorem allTails_spec {q : List Nat → Bool} : ∀ {ds p r : List Nat} {x : Nat}, allTails q ds = true → ds = p ++ x :: r → q (x :: r) = true
  | [], p, r, x, _, e => by simp at e
  | d :: ds, [], r, x, h, e => by
    simp only [List.nil_append] at e
    rw [← e]
    simp only [allTails, Bool.and_eq_true] at h
    exact h.1
  | d :: ds, y :: p, r, x, h, e => by
    simp only [List.cons_append, List.cons.injEq] at e
    simp only [allTails, Bool.and_eq_true] at h
    exact allTails_spec h.2 e.2
theorem allUp_spec {p : List Nat → Bool} : ∀ (k : Nat) (ds pre l : List Nat), ds.Pairwise (· < ·) → l.Pairwise (· ≤ ·) → (∀ x ∈ l, x ∈ ds) → l.length = k → allUp p k ds pre = true → p (l.reverse ++ pre) = true
  | 0, ds, pre, l, _, _, _, hl, h => by
    have : l = [] := List.eq_nil_of_length_eq_zero hl
    subst this
    exact h
  | k + 1, ds, pre, l, hd, hp, hm, hl, h => by
    match l, hl with
    | x :: l', hl =>
      obtain ⟨a, b, e⟩ := List.append_of_mem (hm x (.head _))
      have h1 := allTails_spec (q := fun t => allUp p k t (t.headD 0 :: pre)) h e
      have hp' := List.pairwise_cons.mp hp
      subst e
      have hd' := List.pairwise_append.mp hd
      have h2 := allUp_spec k (x :: b) (x :: pre) l' hd'.2.1 hp'.2 (fun y hy => ?_) (by simpa using hl) h1
      · simpa using h2
      · have hy1 := hp'.1 y hy
        rcases List.mem_append.mp (hm y (.tail _ hy)) with g | g
        · have := hd'.2.2 y g x (.head _)
          omega
        · exact g

theorem Srt.pairwise {l : List Nat} (h : Srt l) : l.Pairwise (· ≤ ·) := by
  rw [List.pairwise_iff_getElem]
  intro i j hi hj hij
  have := h i j (Nat.le_of_lt hij) hj
  simpa [hi, hj] using this
theorem srt_perm {a b : List Nat} (hp : a.Perm b) (ha : a.Pairwise (· ≤ ·)) (hb : b.Pairwise (· ≤ ·)) : a = b := by
  first
    | exact hp.eq_of_pairwise (fun x y _ _ h1 h2 => Nat.le_antisymm h1 h2) ha hb
    | exact List.Perm.eq_of_pairwise (fun x y _ _ h1 h2 => Nat.le_antisymm h1 h2) ha hb hp
theorem insR_perm (x : Nat) : ∀ l, (insR x l).Perm (x :: l)
  | [] => .refl _
  | y :: r => by
    unfold insR
    split
    · exact .refl _
    · exact ((insR_perm x r).cons y).trans (.swap x y r)
theorem sortN_perm : ∀ l, (sortN l).Perm l
  | [] => .refl _
  | x :: r => (insR_perm x (sortN r)).trans ((sortN_perm r).cons x)
theorem sortN_srt : ∀ l, Srt (sortN l)
  | [] => fun i j _ hj => absurd hj (Nat.not_lt_zero _)
  | x :: r => (sortN_srt r).ins x
theorem sortN_congr {a b : List Nat} (h : a.Perm b) : sortN a = sortN b :=
  srt_perm ((sortN_perm a).trans (h.trans (sortN_perm b).symm)) (sortN_srt a).pairwise (sortN_srt b).pairwise
theorem pairSums_perm {a b : List Nat} (h : a.Perm b) : (pairSums a).Perm (pairSums b) := by
  induction h with
  | nil => exact .refl _
  | cons x h ih => exact (h.map _).append ih
  | swap x y l =>
    simp only [pairSums, List.map_cons]
    rw [List.perm_iff_count]
    intro a
    simp only [List.count_append, List.count_cons, Nat.add_comm x y]
    omega
  | trans _ _ h1 h2 => exact h1.trans h2
theorem pairSums_snoc (x : Nat) : ∀ l, (pairSums (l ++ [x])).Perm (l.map (· + x) ++ pairSums l)
  | [] => .refl _
  | a :: l => by
    simp only [List.cons_append, pairSums, List.map_append, List.map_cons, List.map_nil]
    have ih := pairSums_snoc x l
    rw [List.perm_iff_count] at ih ⊢
    intro z
    have := ih z
    simp only [List.count_append, List.count_cons, List.count_nil] at this ⊢
    omega
theorem sumsIn_perm {sz : List Nat} {j : Nat} {acc : List Nat} : ∀ i, i ≤ sz.length → (sumsIn sz j acc i).Perm ((sz.take i).map (· + sz.getD j 0) ++ acc)
  | 0, _ => .refl _
  | i + 1, h => by
    have ih := sumsIn_perm (sz := sz) (j := j) (acc := acc) i (by omega)
    have e : sz.take (i + 1) = sz.take i ++ [sz.getD i 0] := by
      rw [List.take_add_one]
      simp [show i < sz.length by omega]
    rw [sumsIn, e, List.map_append]
    refine (insR_perm _ _).trans ?_
    rw [List.perm_iff_count] at ih ⊢
    intro z
    have := ih z
    simp only [List.count_append, List.count_cons, List.map_cons, List.map_nil, List.count_nil] at this ⊢
    omega
theorem sumsOut_perm {sz : List Nat} : ∀ j, j ≤ sz.length → (sumsOut sz j).Perm (pairSums (sz.take j))
  | 0, _ => .refl _
  | j + 1, h => by
    have ih := sumsOut_perm (sz := sz) j (by omega)
    have e : sz.take (j + 1) = sz.take j ++ [sz.getD j 0] := by
      rw [List.take_add_one]
      simp [show j < sz.length by omega]
    rw [sumsOut, e]
    exact (sumsIn_perm j (by omega)).trans ((ih.append_left _).trans (pairSums_snoc _ _).symm)
theorem getD_bd {sz : List Nat} (h : ∀ x ∈ sz, x < 10) : ∀ i, sz.getD i 0 < 20 := getD_all_lt (by decide) fun x hx => Nat.lt_trans (h x hx) (by decide)
theorem sumsF_eq {sz : List Nat} (h : ∀ x ∈ sz, x < 10) : sumsF sz = sortN (pairSums sz) := by
  have hp := sumsOut_perm (sz := sz) sz.length (Nat.le_refl _)
  rw [List.take_length] at hp
  exact srt_perm (hp.trans (sortN_perm _).symm) (sumsOut_facts (getD_bd h) sz.length).1.pairwise (sortN_srt _).pairwise
theorem dueF_congr {a b : List Nat} (h : a.Perm b) : dueF a = dueF b := by
  unfold dueF
  rw [sortN_congr h]
theorem fact_of {sz : List Nat} {k : Nat} (hk : sz.length = k) (hr : ∀ x ∈ sz, 3 ≤ x ∧ x < 10) (h : allUp goodC k [3, 4, 5, 6, 7, 8, 9] [] = true) :
    ((waysF (sumsF sz) sz.length).length = 1 ∨ (waysF (sumsF sz) sz.length).length = 2) ∧ sortRows (waysF (sumsF sz) sz.length) = dueF sz := by
  have hp : ((sortN sz).reverse).Perm sz := (List.reverse_perm _).trans (sortN_perm sz)
  have hg := allUp_spec (p := goodC) k [3, 4, 5, 6, 7, 8, 9] [] (sortN sz) (by decide) (sortN_srt sz).pairwise (fun x hx => by
    have := hr x ((sortN_perm sz).mem_iff.mp hx)
    have : x = 3 ∨ x = 4 ∨ x = 5 ∨ x = 6 ∨ x = 7 ∨ x = 8 ∨ x = 9 := by omega
    simpa using this) ((sortN_perm sz).length_eq.trans hk) h
  rw [List.append_nil] at hg
  have hg' := okW_spec hg
  rw [sortB_eq, sortN_congr (pairSums_perm hp), dueF_congr hp, hp.length_eq, waysB_eq, ← sumsF_eq fun x hx => (hr x hx).2] at hg'
  exact hg'

set_option maxRecDepth 1000000
theorem good3 : allUp goodC 3 [3, 4, 5, 6, 7, 8, 9] [] = true := by decide +kernel
theorem good4 : allUp goodC 4 [3, 4, 5, 6, 7, 8, 9] [] = true := by decide +kernel
theorem good5a : allUp goodC 4 [3, 4, 5, 6, 7, 8, 9] [3] = true := by decide +kernel
theorem good5b : allUp goodC 4 [4, 5, 6, 7, 8, 9] [4] = true := by decide +kernel
theorem good5c : allTails (fun t => allUp goodC 4 t [t.headD 0]) [5, 6, 7, 8, 9] = true := by decide +kernel
theorem good5 : allUp goodC 5 [3, 4, 5, 6, 7, 8, 9] [] = true := by
  show (allUp goodC 4 [3, 4, 5, 6, 7, 8, 9] [3] && (allUp goodC 4 [4, 5, 6, 7, 8, 9] [4] && allTails (fun t => allUp goodC 4 t [t.headD 0]) [5, 6, 7, 8, 9])) = true
  rw [good5a, good5b, good5c]
  rfl
theorem good6a : allUp goodC 4 [3, 4, 5, 6, 7, 8, 9] [3, 3] = true := by decide +kernel
theorem good6b : allUp goodC 4 [4, 5, 6, 7, 8, 9] [4, 3] = true := by decide +kernel
theorem good6c : allUp goodC 4 [5, 6, 7, 8, 9] [5, 3] = true := by decide +kernel
theorem good6d : allTails (fun t => allUp goodC 4 t [t.headD 0, 3]) [6, 7, 8, 9] = true := by decide +kernel
theorem good6e : allUp goodC 4 [4, 5, 6, 7, 8, 9] [4, 4] = true := by decide +kernel
theorem good6f : allTails (fun t => allUp goodC 4 t [t.headD 0, 4]) [5, 6, 7, 8, 9] = true := by decide +kernel
theorem good6g : allTails (fun t => allUp goodC 5 t [t.headD 0]) [5, 6, 7, 8, 9] = true := by decide +kernel
theorem good6 : allUp goodC 6 [3, 4, 5, 6, 7, 8, 9] [] = true := by
  show ((allUp goodC 4 [3, 4, 5, 6, 7, 8, 9] [3, 3] && (allUp goodC 4 [4, 5, 6, 7, 8, 9] [4, 3] && (allUp goodC 4 [5, 6, 7, 8, 9] [5, 3] && allTails (fun t => allUp goodC 4 t [t.headD 0, 3]) [6, 7, 8, 9]))) &&
    ((allUp goodC 4 [4, 5, 6, 7, 8, 9] [4, 4] && allTails (fun t => allUp goodC 4 t [t.headD 0, 4]) [5, 6, 7, 8, 9]) && allTails (fun t => allUp goodC 5 t [t.headD 0]) [5, 6, 7, 8, 9])) = true
  rw [good6a, good6b, good6c, good6d, good6e, good6f, good6g]
  rfl
theorem fact_all {sz : List Nat} (h3 : 3 ≤ sz.length) (h6 : sz.length ≤ 6) (hr : ∀ x ∈ sz, 3 ≤ x ∧ x < 10) :
    ((waysF (sumsF sz) sz.length).length = 1 ∨ (waysF (sumsF sz) sz.length).length = 2) ∧ sortRows (waysF (sumsF sz) sz.length) = dueF sz := by
  have : sz.length = 3 ∨ sz.length = 4 ∨ sz.length = 5 ∨ sz.length = 6 := by omega
  rcases this with h | h | h | h
  · exact fact_of h hr good3
  · exact fact_of h hr good4
  · exact fact_of h hr good5
  · exact fact_of h hr good6
-- needs: P0 P4 P7 P9 P11 P12 P13
theorem castL_perm {a b : List Nat} (h : a.Perm b) : (castL a).Perm (castL b) := h.map _
theorem castL_pairwise {a : List Nat} (h : a.Pairwise (· ≤ ·)) : (castL a).Pairwise (· ≤ ·) := by
  unfold castL
  rw [List.pairwise_map]
  exact h.imp fun h => Int.ofNat_le.mpr h

theorem castL_sum : ∀ l : List Nat, (castL l).sum = ((l.sum : Nat) : Int)
  | [] => rfl
  | x :: r => by
    have ih := castL_sum r
    unfold castL at ih ⊢
    rw [List.map_cons, List.sum_cons, List.sum_cons, ih]
    omega
theorem castL_map_sub {h : Nat} : ∀ {own : List Nat}, (∀ x ∈ own, x ≤ h) → (castL own).map (fun k => (h : Int) - k) = castL (own.map (h - ·))
  | [], _ => rfl
  | x :: r, hx => by
    have ih := castL_map_sub (own := r) fun y hy => hx y (.tail _ hy)
    have := hx x (.head _)
    unfold castL at ih ⊢
    simp only [List.map_cons, List.cons.injEq]
    exact ⟨by omega, ih⟩
theorem other_nat {own : List Nat} {n' : List Int} {half : Int} (hh : (castL own).sum.fdiv 2 = half) (hx : ∀ x ∈ own, x ≤ own.sum / 2) (hp : n'.Perm ((castL own).map fun k => half - k)) (ho : n'.Pairwise (· ≤ ·)) : n' = castL (sortN (own.map (own.sum / 2 - ·))) := by
  have e : half = ((own.sum / 2 : Nat) : Int) := by rw [← hh, castL_sum, fdiv2]; omega
  rw [e, castL_map_sub hx] at hp
  exact ksm_same (hp.trans (castL_perm (sortN_perm _)).symm) ho (castL_pairwise (sortN_srt _).pairwise)
theorem le_half {own : List Nat} (h4 : own.length = 4) (hr : ∀ x ∈ own, 3 ≤ x ∧ x < 10) : ∀ x ∈ own, x ≤ own.sum / 2 := by
  match own, h4 with
  | [a, b, c, d], _ =>
    simp only [List.mem_cons, List.not_mem_nil, or_false, forall_eq_or_imp, forall_eq] at hr ⊢
    simp only [List.sum_cons, List.sum_nil]
    omega
theorem due_one {sz : List Nat} (h : ¬ ((sortN sz).length = 4 ∧ (sortN sz).sum % 2 = 0 ∧ sortN ((sortN sz).map ((sortN sz).sum / 2 - ·)) ≠ sortN sz)) : dueF sz = [sortN sz] := by
  unfold dueF
  rw [if_neg h]
theorem due_two {sz : List Nat} (h : (sortN sz).length = 4 ∧ (sortN sz).sum % 2 = 0 ∧ sortN ((sortN sz).map ((sortN sz).sum / 2 - ·)) ≠ sortN sz) : dueF sz = two (decide (castL (sortN ((sortN sz).map ((sortN sz).sum / 2 - ·))) < castL (sortN sz))) (sortN sz) (sortN ((sortN sz).map ((sortN sz).sum / 2 - ·))) := by
  unfold dueF
  rw [if_pos h]
  rfl
theorem fmod2 (l : List Nat) : (castL l).sum.fmod 2 = ((l.sum % 2 : Nat) : Int) := by
  rw [castL_sum, Int.fmod_eq_emod_of_nonneg _ (by decide)]
  omega

theorem sorted_pair {prog : Program} {w : World} {A : Around} {E : Value → Shared → Prop} {s : Shared} {h₀ : Heap} {L l9 a b : Addr} {m : PySem.Str → Option Value} {news : List (Addr × Obj)} {Q : Value → Shared → Prop} {xs ys : List Value} {r1 r2 : List Nat} {k0 n n2 : Nat} {x1 x2 : Addr × Obj}
    (hu : A.units + 8 < cLine) (F : Fr h₀ L s.heap m) (N : News h₀ L s.heap ((l9, listOf [Value.ref a, Value.ref b].toArray k0) :: (b, listOf ys.toArray n2) :: x1 :: (a, listOf xs.toArray n) :: x2 :: news)) (hx : NAre xs r1) (hy : NAre ys r2)
    (h : ∀ D ws led cD h', RowsAre ws led (two (decide (castL r2 < castL r1)) r1 r2) → Fr h₀ L h' m → News h₀ L h' ((D, listOf ws.toArray cD) :: (led ++ news)) → Q (.ref D) { s with heap := h' }) :
    wpAny (model prog w) A (call (.builtin "sorted") [.ref l9]) Q E s := by
  refine sorted_two (ns := castL r1) (ms := castL r2) hu F N ⟨_, (N _ (.head _)).1, rfl, k0, rfl⟩ (.tail _ (.tail _ (.tail _ (.head _)))) (.tail _ (.head _)) hx hy fun D cD h' F' N' hD => ?_
  cases hc : decide (castL r2 < castL r1) with
  | true =>
    rw [hc] at h N'
    refine h D [.ref b, .ref a] [(b, listOf ys.toArray n2), (a, listOf xs.toArray n)] cD h' (.cons hy (.cons hx .nil)) F' (News.sub N' fun p hp => ?_)
    simp only [two, if_true, List.cons_append, List.nil_append, List.mem_cons] at hp ⊢
    rcases hp with h | h | h | h
    · exact .inl h
    · exact .inr (.inr (.inl h))
    · exact .inr (.inr (.inr (.inr (.inl h))))
    · exact .inr (.inr (.inr (.inr (.inr (.inr h)))))
  | false =>
    rw [hc] at h N'
    refine h D [.ref a, .ref b] [(a, listOf xs.toArray n), (b, listOf ys.toArray n2)] cD h' (.cons hx (.cons hy .nil)) F' (News.sub N' fun p hp => ?_)
    simp only [two, Bool.false_eq_true, if_false, List.cons_append, List.nil_append, List.mem_cons] at hp ⊢
    rcases hp with h | h | h | h
    · exact .inl h
    · exact .inr (.inr (.inr (.inr (.inl h))))
    · exact .inr (.inr (.inl h))
    · exact .inr (.inr (.inr (.inr (.inr (.inr h)))))

set_option maxHeartbeats 8000000 in
theorem due_ok {w : World} {l : Addr} {vs : List Value} {sz : List Nat} {c : Nat} {news : List (Addr × Obj)}
    (hl : (l, listOf vs.toArray c) ∈ news) (hv : NAre vs sz) (h3 : 3 ≤ sz.length) (h6 : sz.length ≤ 6) (hr : ∀ x ∈ sz, 3 ≤ x ∧ x < 10) :
    Ctr w 12 113 [.ref l] news (fun v news' => ∃ D ws led cD, v = .ref D ∧ RowsAre ws led (dueF sz) ∧ news' = (D, listOf ws.toArray cD) :: (led ++ news)) := by
  intro p loose mean mg mb dp un gd cn cs ad ccd cl outer A₀ base h₀ L m s Q E B F X N T hk' hd' hu hret
  have hv' : IntsAre vs (sz.map fun n : Nat => (n : Int)) := hv
  refine wpAny_call ?_
  refine' code_defC (binds := [(PySem.Str.ofString "sizes", Value.ref l)]) ?k1 ?k2 ?k3 ?k4 ?k5 ?kA ?kF ?kK ?k6 ?k7 ?k8 ?k9 ?kB ?kD ?_ ?c2 ?c3 ?c4
  case kA => exact rfl
  case kF => exact rfl
  case kK => assumption
  case k1 => k_asm
  case k2 => k_asm
  case k3 => k_asm
  case k4 => k_asm
  case k5 => k_asm
  case k6 => k_is
  case k7 => k_is
  case k8 => ktr_room
  case k9 => exact BindsTo.of_eq rfl
  case kB => exact rfl
  case kD => decide +kernel
  case c2 => exact rfl
  case c3 => exact rfl
  case c4 => exact rfl
  intro g' L' h' tk' cells' FG' F' N' Y' B' X' T' lc'
  k_cells Y'
  simp only [List.cons_append, List.nil_append] at N'
  dsimp only
  k_lift B'
  k_steps
  refine kso_sorted (by assumption) (by assumption) ⟨_, (N' _ (.tail _ hl)).1, rfl, c, rfl⟩ hv' (by rw [List.length_map]; omega) fun D1 us1 ns1 c1 h1 F1 N1 l1 i1 e1 p1 o1 _ => ?_
  have hns1 : ns1 = castL (sortN sz) := ksm_same (p1.trans (castL_perm (sortN_perm sz)).symm) o1 (castL_pairwise (sortN_srt sz).pairwise)
  subst hns1
  have hown : NAre us1 (sortN sz) := i1
  have hlo : (sortN sz).length = sz.length := (sortN_perm sz).length_eq
  clear F' N'
  k_steps
  have hL1 : L' + 1 < D1 := l1 _ (.head _)
  have hnl' : ∀ p ∈ news, p.1 ≠ L' + 1 := fun p hp => Nat.ne_of_lt (Nat.lt_succ_of_lt (lc' p hp))
  rename Obj => oc
  rename Obj.data oc = _ => dc
  generalize hhalf : (castL (sortN sz)).sum.fdiv 2 = half
  refine storeX_C (by assumption) (by assumption) rfl (.tail (Nat.ne_of_gt hL1) (.head hnl')) dc (fun h2 o2 F2 N2 d2 => ?_) rfl rfl
  have hL2 : L' + 1 ≠ D1 := Nat.ne_of_lt hL1
  k_steps
  all_goals
    have hro : ∀ x ∈ sortN sz, 3 ≤ x ∧ x < 10 := fun x hx => hr x ((sortN_perm sz).mem_iff.mp hx)
    rename List.Perm _ _ => pV
    rename IntsAre _ _ => iV
    rename List.Pairwise _ _ => oV
  · have h4 : (sortN sz).length = 4 := by omega
    have hoth := other_nat hhalf (le_half h4 hro) pV oV
    rename _ = castL (sortN sz) => heq
    have hdu : dueF sz = [sortN sz] := due_one fun q => q.2.2 (castL_inj (hoth.symm.trans heq))
    refine hret _ _ _ _ ⟨_, [.ref D1], [(D1, listOf us1.toArray c1)], 0, rfl, by rw [hdu]; exact .cons hown .nil, rfl⟩ (by assumption) (News.sub (by assumption) fun p hp => ?_)
    simp only [List.cons_append, List.nil_append, List.mem_cons] at hp ⊢
    rcases hp with h | h | h
    · exact .inl h
    · exact .inr (.inr (.inr (.inl h)))
    · exact .inr (.inr (.inr (.inr (.inr h))))
  · have h4 : (sortN sz).length = 4 := by omega
    have hoth := other_nat hhalf (le_half h4 hro) pV oV
    subst hoth
    rename ¬ castL _ = castL (sortN sz) => hne
    have h2 : (sortN sz).sum % 2 = 0 := by
      have q : (castL (sortN sz)).sum.fmod 2 = 0 := by assumption
      rw [fmod2] at q
      omega
    have hdu := due_two (sz := sz) ⟨h4, h2, fun q => hne (by rw [q])⟩
    rename Fr _ _ _ _ => F9
    rename News _ _ _ _ => N9
    refine sorted_pair (by ktr_units) F9 N9 hown iV fun D ws led cD h' hR F' N' => ?_
    k_steps
    exact hret _ _ _ _ ⟨D, ws, led, cD, rfl, by rw [hdu]; exact hR, rfl⟩ (by assumption) (by assumption)
  · have hdu : dueF sz = [sortN sz] := due_one fun q => by
      have q1 : (castL (sortN sz)).sum.fmod 2 ≠ 0 := by assumption
      rw [fmod2] at q1
      omega
    refine hret _ _ _ _ ⟨_, [.ref D1], [(D1, listOf us1.toArray c1)], 0, rfl, by rw [hdu]; exact .cons hown .nil, rfl⟩ (by assumption) (News.sub (by assumption) fun p hp => ?_)
    simp only [List.cons_append, List.nil_append, List.mem_cons] at hp ⊢
    rcases hp with h | h | h
    · exact .inl h
    · exact .inr (.inr (.inr (.inl h)))
    · exact .inr (.inr (.inr (.inr (.inr h))))
  · have hdu : dueF sz = [sortN sz] := due_one fun q => by omega
    refine hret _ _ _ _ ⟨_, [.ref D1], [(D1, listOf us1.toArray c1)], 0, rfl, by rw [hdu]; exact .cons hown .nil, rfl⟩ (by assumption) (News.sub (by assumption) fun p hp => ?_)
    simp only [List.cons_append, List.nil_append, List.mem_cons] at hp ⊢
    rcases hp with h | h | h
    · exact .inl h
    · exact .inr (.inr (.inr (.inl h)))
    · exact .inr (.inr (.inr (.inr (.inr h))))
end Mine
namespace Mine
-- needs: P0 P4 P7 P9 P11 P12 P13 P14
-- bare
theorem sizes_facts (dr : List Int) (h : dr.length = 7) : ∃ (c : Nat) (sz : List Nat), 3 + (dr.getD 0 0 + 1).fmod 4 = (c : Int) ∧ 3 ≤ c ∧ c ≤ 6 ∧ List.map (fun k => 3 + k.fmod 7) (List.take (min (3 + (dr.getD 0 0 + 1).fmod 4 + 1).toNat dr.length - 1) (List.drop 1 dr)) = castL sz ∧ sz.length = c ∧ ∀ x ∈ sz, 3 ≤ x ∧ x < 10 := by
  have g0 := Int.fmod_nonneg_of_pos (dr.getD 0 0 + 1) (b := 4) (by decide)
  have g1 := Int.fmod_lt_of_pos (dr.getD 0 0 + 1) (b := 4) (by decide)
  refine ⟨(3 + (dr.getD 0 0 + 1).fmod 4).toNat, List.map (fun k => (3 + Int.fmod k 7).toNat) (List.take (min (3 + (dr.getD 0 0 + 1).fmod 4 + 1).toNat dr.length - 1) (List.drop 1 dr)), by omega, by omega, by omega, ?_, ?_, ?_⟩
  · unfold castL
    rw [List.map_map]
    refine List.map_congr_left fun k _ => ?_
    have q := Int.fmod_nonneg_of_pos k (b := 7) (by decide)
    show 3 + k.fmod 7 = (((3 + k.fmod 7).toNat : Nat) : Int)
    omega
  · rw [List.length_map, List.length_take, List.length_drop, h]
    omega
  · intro x hx
    obtain ⟨k, _, rfl⟩ := List.mem_map.mp hx
    have q := Int.fmod_nonneg_of_pos k (b := 7) (by decide)
    have q2 := Int.fmod_lt_of_pos k (b := 7) (by decide)
    omega
theorem draws_len (ws : List Int) : (List.take 7 ws ++ List.drop ((List.take 7 ws).length : Int).toNat [1, 0, 5, 2, 13, 4, 6]).length = 7 := by
  rw [List.length_append, List.length_drop, List.length_take]
  simp only [List.length_cons, List.length_nil]
  omega
theorem rows_eq {A : Around} {s : Shared} : ∀ {vs : List Value} {led : List (Addr × Obj)} {R : List (List Nat)} {ws : List Value} {led2 : List (Addr × Obj)}, RowsAre vs led R → RowsAre ws led2 R → (∀ p ∈ led, s.heap.get? p.1 = some p.2) → (∀ p ∈ led2, s.heap.get? p.1 = some p.2) → A.in1.units + 64 < cLine → ∀ j (h1 : j < vs.length) (h2 : j < ws.length), PySem.SeqAt.EqAt A.in1 s vs[j] ws[j] true
  | _, _, _, _, _, .nil, .nil, _, _, _ => fun _ h1 => absurd h1 (Nat.not_lt_zero _)
  | _, _, _, _, _, .cons (r := r1) (us := us1) (c := c1) (row := row) u1 t1, .cons (r := r2) (us := us2) (c := c2) u2 t2, g1, g2, hu => fun j h1 h2 => by
    cases j with
    | zero =>
      show PySem.SeqAt.EqAt A.in1 s (.ref r1) (.ref r2) true
      by_cases e : r1 = r2
      · subst e
        exact PySem.SeqAt.EqAt.same _
      · refine PySem.SeqAt.EqAt.of_refs e fun prog w E Q hq => ?_
        refine ke_eq_ints (ns := row.map fun n : Nat => (n : Int)) (ms := row.map fun n : Nat => (n : Int)) ⟨_, g1 _ (.head _), rfl, c1, rfl⟩ ⟨_, g2 _ (.head _), rfl, c2, rfl⟩ u1 u2 hu ?_
        rw [decide_eq_true rfl]
        exact hq
    | succ j => exact rows_eq t1 t2 (fun p hp => g1 p (.tail _ hp)) (fun p hp => g2 p (.tail _ hp)) hu j (Nat.lt_of_succ_lt_succ h1) (Nat.lt_of_succ_lt_succ h2)
theorem lists_eq {prog : Program} {w : World} {A : Around} {E : Value → Shared → Prop} {s : Shared} {Q : Value → Shared → Prop} {h₀ : Heap} {L D1 D2 : Addr} {vs ws : List Value} {led led2 news : List (Addr × Obj)} {R : List (List Nat)} {n1 n2 : Nat} (N : News h₀ L s.heap news) (m1 : (D1, listOf vs.toArray n1) ∈ news) (m2 : (D2, listOf ws.toArray n2) ∈ news) (l1 : ∀ p ∈ led, p ∈ news) (l2 : ∀ p ∈ led2, p ∈ news) (r1 : RowsAre vs led R) (r2 : RowsAre ws led2 R) (hu : A.in1.units + 64 < cLine) (hu' : A.units < cLine) (h : Q (.bool true) s) : wpAny (model prog w) A (compareOp .Eq (.ref D1) (.ref D2)) Q E s := by
  have q := rows_eq (A := A) (s := s) r1 r2 (fun p hp => (N p (l1 p hp)).1) (fun p hp => (N p (l2 p hp)).1) hu
  refine PySem.SeqAt.eq_listAt (e := fun _ => true) (items := vs.toArray) (items2 := ws.toArray) ⟨_, (N _ m1).1, rfl, n1, rfl⟩ ⟨_, (N _ m2).1, rfl, n2, rfl⟩ (by rw [List.size_toArray, List.size_toArray, r1.length, r2.length]) hu' (fun j h1 h2 => ?_) ?_
  · have h1' : j < vs.length := by simpa using h1
    have h2' : j < ws.length := by simpa using h2
    simpa using q j h1' h2'
  · rw [List.all_eq_true.mpr fun _ _ => rfl]
    exact h
def QEl (news : List (Addr × Obj)) (k : Nat) (y : Value) (news' : List (Addr × Obj)) : Prop := news' = news ∧ ∃ t : Tok, y = .str (qs k) t
theorem QAre.snoc {n : Nat} {t : Tok} : ∀ {vs : List Value} {ns : List Nat}, QAre vs ns → QAre (vs ++ [.str (qs n) t]) (ns ++ [n])
  | _, _, .nil => .cons n t .nil
  | _, _, .cons z u r => .cons z u (QAre.snoc r)
theorem NAre.at {vs : List Value} {ns : List Nat} (h : NAre vs ns) (i : Nat) (v : Value) (e : vs[i]? = some v) : ∃ (k : Nat) (t : Tok), ns[i]? = some k ∧ v = .int (k : Int) t := by
  obtain ⟨k, t, e1, e2⟩ := IntsAre.at (show IntsAre vs (ns.map fun n : Nat => (n : Int)) from h) i v e
  rw [List.getElem?_map] at e2
  cases e3 : ns[i]? with
  | none => rw [e3] at e2; cases e2
  | some n =>
    rw [e3] at e2
    simp only [Option.map_some, Option.some.injEq] at e2
    exact ⟨n, t, rfl, by rw [e1, e2]⟩
theorem texts_rest {prog : Program} {w : World} {A : Around} {h₀ : Heap} {L : Addr} {m : PySem.Str → Option Value} {env : Env} {elt : PySem.Expr} {x : PySem.Str} {scope : Scope} {cl : List (PySem.Str × Addr)} {s : Shared} {S : List (Addr × Obj) → Prop} {Fin : List Value → List (Addr × Obj) → Prop} {news : List (Addr × Obj)} {vs : List Value} {ks : List Nat} (hv : NAre vs ks)
    (turn : ∀ k t I oI C oC D m₂ ys h tk (E' : Value → Shared → Prop), k ∈ ks → LCg.NsObj oC m₂ → m₂ x = some (.int (k : Int) t) → Fr h₀ L h m → News h₀ L h ((I, oI) :: (C, oC) :: (D, LCg.lst ys) :: news) → LCg.Off3 I C D news → ((@Ne Nat I C) ∧ (@Ne Nat I D) ∧ (@Ne Nat C D)) →
      wpAny (model prog w) A (eval elt (compEnvC scope cl C env)) (LCg.CompEnd h₀ L m { s with heap := h, toks := tk } I oI C oC D (LCg.lst ys) S (fun y news' => QEl news k y news')) E' { s with heap := h, toks := tk })
    (fin : ∀ ys, QAre ys ks → Fin ys news) : LCg.CompRest prog w A h₀ L m env elt x scope cl s S (fun i v => vs.toArray[i]? = some v) Fin vs.toArray.size 0 [] news := by
  have hlen : ks.length = vs.toArray.size := by rw [List.size_toArray, NAre.length hv]
  have key : ∀ (j i : Nat) (ys : List Value), i + j = ks.length → QAre ys (ks.take i) → LCg.CompRest prog w A h₀ L m env elt x scope cl s S (fun i v => vs.toArray[i]? = some v) Fin j i ys news := by
    intro j
    induction j with
    | zero =>
      intro i ys hi hy
      rw [show i = ks.length by omega, List.take_length] at hy
      exact LCg.CompRest.zero (fin ys hy)
    | succ j ih =>
      intro i ys hi hy
      refine LCg.CompRest.succ fun v I oI C oC D m₂ h tk E' hvi hC hx F N off ne => ?_
      obtain ⟨k, t, hk, rfl⟩ := NAre.at hv i v (by simpa using hvi)
      refine wpAny_mono (turn k t I oI C oC D m₂ ys h tk E' (List.mem_of_getElem? hk) hC hx F N off ne) (fun y s₂ hq => ?_) fun _ _ e => e
      obtain ⟨h', tk', nw, e, F', N', off', hS, hn, t', hy'⟩ := hq
      subst hn
      subst hy'
      refine ⟨h', tk', nw, e, F', N', off', hS, ih (i + 1) _ (by omega) ?_⟩
      rw [List.take_add_one, hk]
      exact QAre.snoc hy
  rw [← hlen]
  exact key ks.length 0 [] (by omega) .nil
local macro_rules | `(tactic| k_steps) => `(tactic| repeat' ((fail_if_success (with_reducible show wpAny _ _ (subscriptTail (Expr.List _ _) _ _ _) _ _ _)); (fail_if_success (with_reducible show wpAny _ _ (eval (Expr.ListComp _ _ _ _) _) _ _ _)); (fail_if_success (with_reducible show wpAny _ _ (call (Value.ref _) _) _ _ _)); (fail_if_success (with_reducible show wpAny _ _ (compareOp _ (Value.ref _) _) _ _ _)); (fail_if_success (with_reducible show LCg.CompSrc _ _ _ _ _ _ _ (Expr.BinOp _ Operator.Mult _ _) _ _ _ _ _ _)); (fail_if_success (with_reducible show LCg.CompEnd _ _ _ _ _ _ _ _ _ _ _ (fun _ _ => QEl _ _ _ _) _ _)); first | (k_unfold; (try dsimp only)) | walk1 | (dsimp only; walk1) | (leave1; walk_say "STEP leave1"; try dsimp only) | fail "no step"))
local macro_rules | `(tactic| k_call_by $_x:str $g:term) => `(tactic| (refine' ($g) _ _ _ _ _ _ _ _ _ _ _ _ _ _ _ _ _ _ _ _ _ _ ?k1 ?k2 ?k3 ?k4 ?k5 ?kK ?kd ?ku ?_; (case k1 => k_asm); (case k2 => k_asm); (case k3 => k_asm); (case k4 => k_asm); (case k5 => k_asm); (case kK => first | exact rfl | assumption); (case kd => first | ktr_room | decide); (case ku => first | ktr_units | decide)))
local macro_rules | `(tactic| walk_at "eval Constant str") => `(tactic| with_reducible refine q_const lit_q ?_)
local macro_rules | `(tactic| walk_at "binaryOp Mult str int") => `(tactic| ((with_reducible refine' q_mul ?ha ?h0 ?hn ?_); (case ha => omega); (case h0 => omega); (case hn => omega); intro _ _))
set_option maxHeartbeats 8000000 in
theorem law_holds : PySem.Challenge.rw_sr0041_01.Holds := hd (by
  k_go0
  all_goals try k_fold
  rename_i w s0 s1 mg mb G Y fa o pm doc kV ho hg KX X V GL T B TE TW w9 w8 M w7 w6 hcd w5 hs hlay0 hL1 hr1 hl2 w4 w3 w2 w1 w0 hL ra wl r0 hI hr hc1 hc2 K0 hD h1 F N0
  refine wpAny_mono (Q := fun (f : Flow) (s9 : Shared) => f = Flow.ret (.bool true) ∧ ∃ h9 tk9 m9, s9 = { s1 with heap := h9, toks := tk9 } ∧ Fr s1.heap s1.heap.objs.size h9 m9) ?body ?cont fun _ _ e => e
  case body =>
    clear G Y o pm doc kV ho hg X V GL B TE TW w8 w9 M w6 hcd hs hlay0 hL1 hr1 hl2 w4 w3 w0 ra wl r0 hr hc2 hD
    k_steps
    refine kba_turn (value' := PySem.Expr.Name (PySem.Str.ofString "_") ⟨0, 0, 0, 0⟩) (fun _ => rfl) ?_
    refine' kmk_slice_ints (ns := [1, 0, 5, 2, 13, 4, 6]) (ms := List.drop ((List.take 7 w5).length : Int).toNat [1, 0, 5, 2, 13, 4, 6]) (c := 7 - (List.take 7 w5).length) (lo := some ((List.take 7 w5).length : Int)) (hi := none) ?zF ?zN ?zl ?zp ?zq ?zi ?zm ?zc ?_ ?zs ?zt ?zz
    case zF => k_asm
    case zN => k_asm
    case zl => kmk_list
    case zp => exact IsPart.int _ _
    case zq => exact IsPart.none
    case zi => exact .cons _ _ (.cons _ _ (.cons _ _ (.cons _ _ (.cons _ _ (.cons _ _ (.cons _ _ .nil))))))
    case zm => exact kmk_from (.cons _ _ (.cons _ _ (.cons _ _ (.cons _ _ (.cons _ _ (.cons _ _ (.cons _ _ .nil))))))) (Int.natCast_nonneg _)
    case zc => exact List.length_drop ..
    case zs => with_unfolding_all rfl
    case zt => kmk_pure
    case zz => exact Nat.le_of_ble_eq_true rfl
    intro D' ws' h' F' N' l1 hI' hC' hL'
    (try k_lt l1)
    (try k_sweep)
    k_steps
    refine LCg.ListComp_U (F₀ := by k_asm) (by with_unfolding_all rfl) (by decide) (by rfl) (by decide) (by rfl) ?_
    k_steps
    rename IntsAre _ (List.map _ _) => hI8
    obtain ⟨c, sz, ec, c3, c6, esz, hl, hr⟩ := sizes_facts _ (draws_len w5)
    have hv : NAre _ sz := esz ▸ hI8
    have hvl := hv.length
    refine LCg.CompSrc.ledger (by rfl) (by k_asm) (by k_asm) (by k_mem) ?zs1 ?_
    case zs1 => 
      rw [sizeLine_eq, List.size_toArray]
      omega
    intro g'
    refine texts_rest hv (fun k t I oI C oC D m₂ ys h tk E' hk hC hx F2 N2 off ne => ?_) (fun nv hq => ?_)
    · have hk2 := hr k hk
      k_steps
      refine LCg.CompEnd.intro (by assumption) (by assumption) _ (fun p hp => hp) off ?ec1 ⟨rfl, _, by rw [Nat.one_mul]; rfl⟩
      lcg_src
    · k_steps
      subst hl
      obtain ⟨hw, hf⟩ := fact_all c3 c6 hr
      have hb20 : ∀ x ∈ sz, x < 20 := fun x hx => Nat.lt_trans (hr x hx).2 (by decide)
      obtain ⟨hs1, hs2, hs3⟩ := sumsOut_facts (getD_all_lt (by decide) hb20) sz.length
      have hn : (sumsF sz).length = sz.length * (sz.length - 1) / 2 := by
        rw [← hs3]
        show (sumsOut sz sz.length).length = _
        omega
      k_call_by "" (sums_ok (.head _) hq c6 hb20)
      rintro v9 nx9 h9 tk9 ⟨r, us, cr, rfl, hus, _, rfl⟩ F9 N9
      k_steps
      rw [show (3 : Int) + Int.fmod (List.getD (List.take 7 w5 ++ List.drop ((List.take 7 w5).length : Int).toNat [1, 0, 5, 2, 13, 4, 6]) (Int.toNat 0) 0 + 1) 4 = (sz.length : Int) from ec]
      k_call_by "" (ways_ok (.head _) hus hs1 hs2 c3 c6 hn hw)
      rintro v8 nx8 h8 tk8 ⟨D8, ws8, led8, cD8, rfl, hR8, rfl⟩ F8 N8
      k_steps
      k_call_by "" (due_ok (.tail _ (List.mem_append_right _ (.tail _ (.tail _ (.head _))))) hv c3 c6 hr)
      rintro v7 nx7 h7 tk7 ⟨D7, ws7, led7, cD7, rfl, hR7, rfl⟩ F7 N7
      k_steps
      rw [hf] at hR8
      refine lists_eq N7 (.tail _ (List.mem_append_right _ (.head _))) (.head _) (fun p hp => .tail _ (List.mem_append_right _ (.tail _ (List.mem_append_left _ hp)))) (fun p hp => .tail _ (List.mem_append_left _ hp)) hR8 hR7 (by first | decide | ke_room) (by first | decide | ke_room) ?_
      exact ⟨rfl, _, _, _, rfl, F7⟩
  case cont =>
    rintro f s9 ⟨rfl, h9, tk9, m9, rfl, F9⟩
    clear F
    dsimp only
    wrow_close)
end Mine
theorem PySem.Challenge.cw_sr0041_01_holds : PySem.Challenge.rw_sr0041_01.Holds := by
  exact Mine.law_holds
