import PyProof.Rows.All
import Wide.All
import OpenK.AllK
import Wide.FinOn
import PySem.Challenge.RW_xg0028_01

set_option Elab.async false

section
open PySem PySem.W PyProof.Rows
namespace Mine
set_option maxRecDepth 100000 in
set_option maxHeartbeats 8000000 in
open_top hd for PySem.Challenge.rw_xg0028_01
end Mine
end

section
open PySem PySem.W PyProof.Rows PySem.Spec PySem.Calls
namespace Mine

abbrev LRet (h₀ : Heap) (L : Addr) (m : Str → Option Value) (l : Addr) (pr rest : List (Addr × Obj)) (s : Shared) (Q : Value → Shared → Prop) (R : Tok → Value) (post : List Int → Prop) : Prop :=
  ∀ (t : Tok) (h' : Heap) (tk' n' : Nat) (ws' : List Value) (ns' : List Int), Fr h₀ L h' m → News h₀ L h' (pr ++ (l, W.listOf ws'.toArray n') :: rest) → IntsAre ws' ns' → post ns' → Q (R t) { s with heap := h', toks := tk' }

abbrev LClaim (prog : Program) (w : World) (K : Frag) (p : Program) (loose : List Str) (mean : ExcName → Option Value) (mg mb : Str → Option Value) (f : Addr) (k : Nat) (pr rest : List (Addr × Obj)) (l : Addr) (ws : List Value) (ns : List Int) (n : Nat) (pre : Prop) (args : List Value) (R : Tok → Value) (post : List Int → Prop) : Prop :=
  ∀ (dp un : Nat) (gd : Option (List Code)) (cn : Str) (cs : Scope) (a : Addr) (ccd : Value) (cl : List (Str × Addr)) (outer : List Env) (A₀ : Around) (base h₀ : Heap) (L : Addr) (m : Str → Option Value) (s : Shared) (Q E : Value → Shared → Prop),
    Below A₀ base outer h₀ → Fr h₀ L s.heap m → K.In h₀ → News h₀ L s.heap (pr ++ (l, W.listOf ws.toArray n) :: rest) → Top p loose mean mg mb h₀ → cs.kind = .function →
    (∀ q ∈ pr ++ rest, q.1 ≠ l) → IntsAre ws ns → pre → dp + k < recursionLimit → un + 8 * k < cLine → LRet h₀ L m l pr rest s Q R post →
      wpAny (model prog w) (ktrTop dp un gd cn cs L a ccd cl outer) (call (.ref f) args) Q E s

theorem news_pull {h₀ h : Heap} {L : Addr} {x : Addr × Obj} {pr rest : List (Addr × Obj)} (N : News h₀ L h (pr ++ x :: rest)) : News h₀ L h (x :: (pr ++ rest)) := fun p hp => N p (by
  rcases List.mem_cons.mp hp with rfl | h
  · exact List.mem_append.mpr (.inr (.head _))
  · rcases List.mem_append.mp h with h | h
    · exact List.mem_append.mpr (.inl h)
    · exact List.mem_append.mpr (.inr (.tail _ h)))
theorem news_push {h₀ h : Heap} {L : Addr} {x : Addr × Obj} {pr rest : List (Addr × Obj)} (N : News h₀ L h (x :: (pr ++ rest))) : News h₀ L h (pr ++ x :: rest) := fun p hp => N p (by
  rcases List.mem_append.mp hp with h | h
  · exact .tail _ (List.mem_append.mpr (.inl h))
  · rcases List.mem_cons.mp h with rfl | h
    · exact .head _
    · exact .tail _ (List.mem_append.mpr (.inr h)))
/-- from the front form to any place -/
theorem LClaim.at {prog : Program} {w : World} {K : Frag} {p : Program} {loose : List Str} {mean : ExcName → Option Value} {mg mb : Str → Option Value} {f : Addr} {k : Nat} {l : Addr} {ws : List Value} {ns : List Int} {n : Nat} {pre : Prop} {args : List Value} {R : Tok → Value} {post : List Int → Prop}
    (C : ∀ rest, LClaim prog w K p loose mean mg mb f k [] rest l ws ns n pre args R post) (pr rest : List (Addr × Obj)) : LClaim prog w K p loose mean mg mb f k pr rest l ws ns n pre args R post :=
  fun dp un gd cn cs a ccd cl outer A₀ base h₀ L m s Q E B F X N T hk hne hI hp hd hu hret =>
    C (pr ++ rest) dp un gd cn cs a ccd cl outer A₀ base h₀ L m s Q E B F X (news_pull N) T hk hne hI hp hd hu
      fun t h' tk' n' ws' ns' F' N' => hret t h' tk' n' ws' ns' F' (news_push N')

def sdF (x : Int) (a : Nat) (h : List Int) (p : Nat) : List Int :=
  if a < p then
    if x < h.getD ((p-1)/2) 0 then sdF x a (h.set p (h.getD ((p-1)/2) 0)) ((p-1)/2) else h.set p x
  else h.set p x
termination_by p

theorem sd_state {x a : Int} {h ns M : List Int} {p : Int} (ha : 0 ≤ a) (h1 : a < p) (h2 : p < ns.length) (h3 : h.length = ns.length) (h4 : sdF x a.toNat h p.toNat = M) (h5 : x < h.getD ((p-1)/2).toNat 0) :
    0 ≤ (p-1)/2 ∧ (p-1)/2 < ns.length ∧ (h.set p.toNat (h.getD ((p-1)/2).toNat 0)).length = ns.length ∧ sdF x a.toNat (h.set p.toNat (h.getD ((p-1)/2).toNat 0)) ((p-1)/2).toNat = M := by
  refine ⟨by omega, by omega, by rw [List.length_set]; exact h3, ?_⟩
  have e : ((p-1)/2).toNat = (p.toNat - 1)/2 := by omega
  rw [e] at h5 ⊢
  rw [← h4, sdF.eq_def x a.toNat h p.toNat, if_pos (by omega), if_pos h5]
theorem sd_end1 {x a : Int} {h M : List Int} {p : Int} (ha : 0 ≤ a) (h1 : a < p) (h4 : sdF x a.toNat h p.toNat = M) (h5 : ¬ x < h.getD ((p-1)/2).toNat 0) : h.set p.toNat x = M := by
  have e : ((p-1)/2).toNat = (p.toNat - 1)/2 := by omega
  rw [e] at h5
  rw [← h4, sdF.eq_def, if_pos (by omega), if_neg h5]
theorem sd_end2 {x a : Int} {h M : List Int} {p : Int} (ha : 0 ≤ a) (h1 : ¬ a < p) (h4 : sdF x a.toNat h p.toNat = M) : h.set p.toNat x = M := by
  rw [← h4, sdF.eq_def, if_neg (by omega)]

theorem my_rshift1 {prog : Program} {w : World} {A : Around} {E : Value → Shared → Prop} {s : Shared} {a : Int} {t u : Tok} {Q : Value → Shared → Prop} (h : Q (.int (a / 2) s.toks) { s with toks := s.toks + 1 }) :
    wpAny (model prog w) A (binaryOp .RShift (.int a t) (.int 1 u)) Q E s :=
  rshift_int (by decide) (by
    have e : a.fdiv (2 ^ Int.toNat 1) = a / 2 := by
      show a.fdiv (2 ^ 1) = a / 2
      rw [Int.fdiv_eq_ediv_of_nonneg _ (by decide)]; rfl
    rw [e]; exact h)
local macro_rules | `(tactic| walk_at "binaryOp RShift int int") => `(tactic| (with_unfolding_all refine my_rshift1 ?_))
local macro_rules | `(tactic| k_upd) => `(tactic| exact Upd.head (by assumption))

set_option maxRecDepth 100000 in
set_option maxHeartbeats 8000000 in
theorem siftdown (w : World) (p : Program) (loose : List Str) (mean : ExcName → Option Value) (mg mb : Str → Option Value) (l : Addr) (ws : List Value) (ns : List Int) (n : Nat) (a b : Int) (ta tb : Tok) (rest : List (Addr × Obj)) :
  LClaim PySem.Challenge.rw_xg0028_01.row.prog w (Mine.hd.heap_39 w.params) p loose mean mg mb 49 1 [] rest l ws ns n (0 ≤ a ∧ a ≤ b ∧ b < (ns.length : Int) ∧ ns.length ≤ 5) [.ref l, .int a ta, .int b tb] (fun _ => .none) (fun ns' => ns' = sdF (ns.getD b.toNat 0) a.toNat ns b.toNat) := by
  k_fill
  k_with_none
  w_top off
  dsimp only [LClaim, LRet, List.nil_append]
  intro dp un gd cn cs fa ccd cl outer A₀ base h₀ L m s Q E B F KX N T hk hne hI hpre hd hu hret
  obtain ⟨ha, hab, hb, hn5⟩ := hpre
  k_with "exec While Compare cons nil" => k_while (fun _ heap pos => 0 ≤ pos ∧ pos < (ns.length : Int) ∧ heap.length = ns.length ∧ sdF (ns.getD b.toNat 0) a.toNat heap pos.toNat = sdF (ns.getD b.toNat 0) a.toNat ns b.toNat) (fun _ heap pos => pos.toNat) "heap" "pos"
  k_with "state" => first | exact ⟨by omega, by omega, rfl, rfl⟩ | exact sd_state ha (by assumption) (by assumption) (by assumption) (by assumption) (by assumption)
  refine wpAny_call ?_
  k_dflt cell_enter
  k_steps
  all_goals (refine hret 0 _ _ _ _ _ (by assumption) (by assumption) (by assumption) ?_; first | exact sd_end1 ha (by assumption) (by assumption) (by assumption) | exact sd_end2 ha (by assumption) (by assumption))
end Mine
end

section
open PySem PySem.W PyProof.Rows PySem.Spec PySem.Calls
namespace Mine

def suF (h : List Int) (p : Nat) : List Int × Nat :=
  if 2*p+1 < h.length then
    if 2*p+2 < h.length ∧ ¬ h.getD (2*p+1) 0 < h.getD (2*p+2) 0 then suF (h.set p (h.getD (2*p+2) 0)) (2*p+2)
    else suF (h.set p (h.getD (2*p+1) 0)) (2*p+1)
  else (h, p)
termination_by h.length - p
decreasing_by all_goals (simp only [List.length_set]; omega)

def suT (h : List Int) (p : Nat) : List Int :=
  sdF (h.getD p 0) p ((suF h p).1.set (suF h p).2 (h.getD p 0)) (suF h p).2


theorem su_a {h ns : List Int} {M : List Int × Nat} {b p c : Int} (hb : b ≤ p) (h0 : 0 ≤ p) (h2 : p < ns.length) (h3 : h.length = ns.length) (hc : c = 2 * p + 1) (h4 : suF h p.toNat = M) (h5 : c + 1 < ns.length) (h6 : ¬ h.getD c.toNat 0 < h.getD (c + 1).toNat 0) :
    b ≤ c + 1 ∧ 0 ≤ c + 1 ∧ c + 1 < ns.length ∧ (h.set p.toNat (h.getD (c + 1).toNat 0)).length = ns.length ∧ 2 * (c + 1) + 1 = 2 * (c + 1) + 1 ∧ suF (h.set p.toNat (h.getD (c + 1).toNat 0)) (c + 1).toNat = M := by
  refine ⟨by omega, by omega, by omega, by rw [List.length_set]; exact h3, rfl, ?_⟩
  have e : (c + 1).toNat = 2 * p.toNat + 2 := by omega
  have e' : c.toNat = 2 * p.toNat + 1 := by omega
  rw [e, e'] at h6
  rw [e, ← h4, suF.eq_def h p.toNat, if_pos (by omega), if_pos ⟨by omega, h6⟩]
theorem su_b {h ns : List Int} {M : List Int × Nat} {b p c : Int} (hb : b ≤ p) (h0 : 0 ≤ p) (h2 : p < ns.length) (h3 : h.length = ns.length) (hc : c = 2 * p + 1) (h4 : suF h p.toNat = M) (h5 : c < ns.length) (h6 : ¬ (c + 1 < ns.length ∧ ¬ h.getD c.toNat 0 < h.getD (c + 1).toNat 0)) :
    b ≤ c ∧ 0 ≤ c ∧ c < ns.length ∧ (h.set p.toNat (h.getD c.toNat 0)).length = ns.length ∧ 2 * c + 1 = 2 * c + 1 ∧ suF (h.set p.toNat (h.getD c.toNat 0)) c.toNat = M := by
  refine ⟨by omega, by omega, by omega, by rw [List.length_set]; exact h3, rfl, ?_⟩
  have e : (c + 1).toNat = 2 * p.toNat + 2 := by omega
  have e' : c.toNat = 2 * p.toNat + 1 := by omega
  rw [e, e'] at h6
  rw [e', ← h4, suF.eq_def h p.toNat, if_pos (by omega), if_neg (fun q => h6 ⟨by omega, q.2⟩)]
theorem su_end {h ns : List Int} {b p c x : Int} (h0 : 0 ≤ p) (hx : ns.getD b.toNat 0 = x) (h2 : p < ns.length) (h3 : h.length = ns.length) (hc : c = 2 * p + 1) (h4 : suF h p.toNat = suF ns b.toNat) (h5 : ¬ c < ns.length) :
    sdF ((h.set p.toNat x).getD p.toNat 0) b.toNat (h.set p.toNat x) p.toNat = suT ns b.toNat := by
  have e : suF h p.toNat = (h, p.toNat) := by rw [suF.eq_def, if_neg (by omega)]
  unfold suT
  rw [← h4, e, hx]
  have : (h.set p.toNat x).getD p.toNat 0 = x := by
    rw [List.getD_eq_getElem?_getD, List.getElem?_set_self (by omega)]; rfl
  rw [this]

local macro_rules | `(tactic| k_upd) => `(tactic| exact Upd.head (by assumption))
local macro_rules | `(tactic| walk_at "call ref") => `(tactic| (k_here; k_dflt (
  refine' (LClaim.at (siftdown _ _ _ _ _ _ _ _ _ _ _ _ _ _) [] _) _ _ _ _ _ _ _ _ _ _ _ _ _ _ _ _ _ ?k1 ?k2 ?k3 ?k4 ?k5 ?kK ?kn ?kI ?kp ?kd ?ku ?_;
  (case k1 => k_asm); (case k2 => k_asm); (case k3 => k_asm); (case k4 => k_asm); (case k5 => k_asm); (case kK => first | exact rfl | assumption);
  (case kn => assumption); (case kI => l_ints); (case kp => (simp only [List.length_set]; omega)); (case kd => first | omega | ktr_room); (case ku => first | omega | ktr_units);
  intro t9 h9 tk9 n9 ws9 ns9 F9 N9 I9 hp9; (try dsimp only [List.nil_append] at N9))))

set_option maxRecDepth 100000 in
set_option maxHeartbeats 1000000 in
theorem siftup (w : World) (p : Program) (loose : List Str) (mean : ExcName → Option Value) (mg mb : Str → Option Value) (l : Addr) (ws : List Value) (ns : List Int) (n : Nat) (b : Int) (tb : Tok) (rest : List (Addr × Obj)) :
  LClaim PySem.Challenge.rw_xg0028_01.row.prog w (Mine.hd.heap_39 w.params) p loose mean mg mb 56 2 [] rest l ws ns n (0 ≤ b ∧ b < (ns.length : Int) ∧ ns.length ≤ 5) [.ref l, .int b tb] (fun _ => .none) (fun ns' => ns' = suT ns b.toNat) := by
  k_fill
  k_with_none
  w_top off
  dsimp only [LClaim, LRet, List.nil_append]
  intro dp un gd cn cs fa ccd cl outer A₀ base h₀ L m s Q E B F KX N T hk hne hI hpre hd hu hret
  obtain ⟨hb0, hb, hn5⟩ := hpre
  k_with "exec While Compare cons nil" => k_while (fun _ heap pos childpos => b ≤ pos ∧ 0 ≤ pos ∧ pos < (ns.length : Int) ∧ heap.length = ns.length ∧ childpos = 2 * pos + 1 ∧ suF heap pos.toNat = suF ns b.toNat) (fun _ heap pos childpos => ns.length - pos.toNat) "heap" "pos" "childpos"
  k_with "state" => first
    | exact ⟨Int.le_refl _, hb0, hb, rfl, rfl, rfl⟩
    | exact su_a (by assumption) (by assumption) (by assumption) (by assumption) (by assumption) (by assumption) (by assumption) (by assumption)
    | exact su_b (by assumption) (by assumption) (by assumption) (by assumption) (by assumption) (by assumption) (by assumption) (by omega)
  refine wpAny_call ?_
  k_dflt cell_enter
  k_steps
  all_goals (refine hret 0 _ _ _ _ _ (by assumption) (by assumption) (by assumption) ?_; exact Eq.trans (by assumption) (su_end (by assumption) rfl (by assumption) (by assumption) (by assumption) (by assumption) (by assumption)))
end Mine
end

section
open PySem PySem.W PyProof.Rows PySem.Spec PySem.Calls
namespace Mine

def pushF (x : Int) (h : List Int) : List Int := sdF x 0 (h ++ [x]) h.length
def popF (h : List Int) : List Int := if h.length ≤ 1 then [] else suT (h.dropLast.set 0 (h.getLastD 0)) 0
def replF (x : Int) (h : List Int) : List Int := suT (h.set 0 x) 0

theorem sdF_length (x : Int) (a : Nat) : ∀ (p : Nat) (h : List Int), (sdF x a h p).length = h.length := by
  intro p
  induction p using Nat.strongRecOn with
  | _ p ih =>
    intro h
    rw [sdF.eq_def]
    split
    · split
      · rw [ih ((p-1)/2) (by omega), List.length_set]
      · rw [List.length_set]
    · rw [List.length_set]
theorem suF_length : ∀ (n p : Nat) (h : List Int), h.length - p ≤ n → (suF h p).1.length = h.length := by
  intro n
  induction n with
  | zero => intro p h hn; rw [suF.eq_def, if_neg (by omega)]
  | succ n ih =>
    intro p h hn
    rw [suF.eq_def]
    split
    · split
      · rw [ih _ _ (by rw [List.length_set]; omega), List.length_set]
      · rw [ih _ _ (by rw [List.length_set]; omega), List.length_set]
    · rfl
theorem suT_length (h : List Int) (p : Nat) : (suT h p).length = h.length := by
  unfold suT
  rw [sdF_length, List.length_set, suF_length _ _ _ (Nat.le_refl _)]
theorem push_end {x : Int} {h h' : List Int} {z : Int} (hz : z = (h ++ [x]).length - 1) (e : h' = sdF ((h ++ [x]).getD z.toNat 0) (0 : Int).toNat (h ++ [x]) z.toNat) : h' = pushF x h ∧ h'.length = h.length + 1 := by
  have e1 : z.toNat = h.length := by rw [hz, List.length_append]; simp
  have e2 : (h ++ [x]).getD h.length 0 = x := by simp [List.getD_eq_getElem?_getD]
  rw [e1, e2] at e
  refine ⟨e, ?_⟩
  rw [e, sdF_length, List.length_append]; rfl


theorem pop_val1 {h : List Int} (h0 : 0 < h.dropLast.length) : h.dropLast.getD (Int.toNat 0) 0 = h.getD 0 0 := by
  match h, h0 with
  | a :: b :: r, _ => rfl
theorem pop_val2 {h : List Int} (hn : 0 < h.length) (h0 : ¬ 0 < h.dropLast.length) : h.getLastD 0 = h.getD 0 0 := by
  match h, hn, h0 with
  | [a], _, _ => rfl
  | a :: b :: r, _, h0 => exact absurd (by simp) h0
theorem pop_end1 {h h' : List Int} (h0 : 0 < h.dropLast.length) (e : h' = suT (h.dropLast.set (Int.toNat 0) (h.getLastD 0)) (Int.toNat 0)) : h' = popF h ∧ h'.length + 1 = h.length := by
  rw [List.length_dropLast] at h0
  refine ⟨?_, ?_⟩
  · rw [e]; unfold popF; rw [if_neg (by omega)]; rfl
  · rw [e, suT_length, List.length_set, List.length_dropLast]; omega
theorem pop_end2 {h : List Int} (hn : 0 < h.length) (h0 : ¬ 0 < h.dropLast.length) : h.dropLast = popF h ∧ h.dropLast.length + 1 = h.length := by
  have hd : h.dropLast.length = h.length - 1 := List.length_dropLast
  refine ⟨?_, by omega⟩
  unfold popF
  rw [if_pos (by omega)]
  exact List.eq_nil_of_length_eq_zero (by omega)
theorem repl_end {x : Int} {h h' : List Int} (e : h' = suT (h.set (Int.toNat 0) x) (Int.toNat 0)) : h' = replF x h ∧ h'.length = h.length := by
  refine ⟨e, ?_⟩
  rw [e, suT_length, List.length_set]

local macro_rules | `(tactic| k_upd) => `(tactic| exact Upd.head (by assumption))
local macro_rules | `(tactic| walk_at "call ref") => `(tactic| (k_here; k_dflt (
  refine' (LClaim.at (siftdown _ _ _ _ _ _ _ _ _ _ _ _ _ _) [] _) _ _ _ _ _ _ _ _ _ _ _ _ _ _ _ _ _ ?k1 ?k2 ?k3 ?k4 ?k5 ?kK ?kn ?kI ?kp ?kd ?ku ?_;
  (case k1 => k_asm); (case k2 => k_asm); (case k3 => k_asm); (case k4 => k_asm); (case k5 => k_asm); (case kK => first | exact rfl | assumption);
  (case kn => assumption); (case kI => first | exact IntsAre.append (by assumption) (IntsAre.cons _ _ IntsAre.nil) | l_ints); (case kp => (simp only [List.length_append, List.length_cons, List.length_nil]; omega)); (case kd => first | omega | ktr_room); (case ku => first | omega | ktr_units);
  intro t9 h9 tk9 n9 ws9 ns9 F9 N9 I9 hp9; (try dsimp only [List.nil_append] at N9))))
local macro_rules | `(tactic| walk_at "call ref") => `(tactic| (k_here; k_dflt (
  refine' (LClaim.at (siftup _ _ _ _ _ _ _ _ _ _ _ _) [] _) _ _ _ _ _ _ _ _ _ _ _ _ _ _ _ _ _ ?k1 ?k2 ?k3 ?k4 ?k5 ?kK ?kn ?kI ?kp ?kd ?ku ?_;
  (case k1 => k_asm); (case k2 => k_asm); (case k3 => k_asm); (case k4 => k_asm); (case k5 => k_asm); (case kK => first | exact rfl | assumption);
  (case kn => assumption); (case kI => first | exact IntsAre.append (by assumption) (IntsAre.cons _ _ IntsAre.nil) | l_ints); (case kp => (simp only [List.length_set, List.length_dropLast]; omega)); (case kd => first | omega | ktr_room); (case ku => first | omega | ktr_units);
  intro t9 h9 tk9 n9 ws9 ns9 F9 N9 I9 hp9; (try dsimp only [List.nil_append] at N9))))

set_option maxRecDepth 100000 in
set_option maxHeartbeats 1000000 in
theorem heappush (w : World) (p : Program) (loose : List Str) (mean : ExcName → Option Value) (mg mb : Str → Option Value) (l : Addr) (ws : List Value) (ns : List Int) (n : Nat) (x : Int) (tx : Tok) (rest : List (Addr × Obj)) :
  LClaim PySem.Challenge.rw_xg0028_01.row.prog w (Mine.hd.heap_39 w.params) p loose mean mg mb 21 3 [] rest l ws ns n (ns.length ≤ 4) [.ref l, .int x tx] (fun _ => .none) (fun ns' => ns' = pushF x ns ∧ ns'.length = ns.length + 1) := by
  k_fill
  k_with_none
  w_top off
  dsimp only [LClaim, LRet, List.nil_append]
  intro dp un gd cn cs fa ccd cl outer A₀ base h₀ L m s Q E B F KX N T hk hne hI hn4 hd hu hret
  refine wpAny_call ?_
  k_dflt cell_enter
  k_steps
  all_goals (refine hret 0 _ _ _ _ _ (by assumption) (by assumption) (by assumption) ?_; refine push_end ?_ (by assumption); simp)

set_option maxRecDepth 100000 in
set_option maxHeartbeats 1000000 in
theorem heappop (w : World) (p : Program) (loose : List Str) (mean : ExcName → Option Value) (mg mb : Str → Option Value) (l : Addr) (ws : List Value) (ns : List Int) (n : Nat) (rest : List (Addr × Obj)) :
  LClaim PySem.Challenge.rw_xg0028_01.row.prog w (Mine.hd.heap_39 w.params) p loose mean mg mb 28 3 [] rest l ws ns n (0 < ns.length ∧ ns.length ≤ 5) [.ref l] (fun t => .int (ns.getD 0 0) t) (fun ns' => ns' = popF ns ∧ ns'.length + 1 = ns.length) := by
  k_fill
  k_with_none
  w_top off
  dsimp only [LClaim, LRet, List.nil_append]
  intro dp un gd cn cs fa ccd cl outer A₀ base h₀ L m s Q E B F KX N T hk hne hI hpre hd hu hret
  obtain ⟨hn0, hn5⟩ := hpre
  have hw := hI.length
  have hdl : ns.dropLast.length = ns.length - 1 := List.length_dropLast
  refine wpAny_call ?_
  k_dflt cell_enter
  k_steps
  · have e : ns.dropLast.getD (Int.toNat 0) 0 = ns.getD 0 0 := pop_val1 (by assumption)
    rw [e]
    exact hret _ _ _ _ _ _ (by assumption) (by assumption) (by assumption) (pop_end1 (by assumption) (by assumption))
  · have e : ns.getLastD 0 = ns.getD 0 0 := pop_val2 hn0 (by assumption)
    rw [e]
    exact hret _ _ _ _ _ _ (by assumption) (by assumption) (by assumption) (pop_end2 hn0 (by assumption))

set_option maxRecDepth 100000 in
set_option maxHeartbeats 1000000 in
theorem heapreplace (w : World) (p : Program) (loose : List Str) (mean : ExcName → Option Value) (mg mb : Str → Option Value) (l : Addr) (ws : List Value) (ns : List Int) (n : Nat) (x : Int) (tx : Tok) (rest : List (Addr × Obj)) :
  LClaim PySem.Challenge.rw_xg0028_01.row.prog w (Mine.hd.heap_39 w.params) p loose mean mg mb 35 3 [] rest l ws ns n (0 < ns.length ∧ ns.length ≤ 5) [.ref l, .int x tx] (fun t => .int (ns.getD 0 0) t) (fun ns' => ns' = replF x ns ∧ ns'.length = ns.length) := by
  k_fill
  k_with_none
  w_top off
  dsimp only [LClaim, LRet, List.nil_append]
  intro dp un gd cn cs fa ccd cl outer A₀ base h₀ L m s Q E B F KX N T hk hne hI hpre hd hu hret
  obtain ⟨hn0, hn5⟩ := hpre
  refine wpAny_call ?_
  k_dflt cell_enter
  k_steps
  all_goals exact hret _ _ _ _ _ _ (by assumption) (by assumption) (by assumption) (repl_end (by assumption))
end Mine
end

section
open PySem PySem.W PyProof.Rows PySem.Spec PySem.Calls PyProof
namespace Mine

theorem rev_meets (r : Addr) (a b c : Int) (t u v : Tok)
    (hs : (Builtin.Range.rangeFitsLong a && Builtin.Range.rangeFitsLong b && Builtin.Range.rangeFitsLong c && Builtin.Range.rangeFitsLong (-c) && Builtin.Range.rangeFitsLong (a - c) && Builtin.Range.rangeFitsLong (Builtin.Range.rangeSize a b c)) = true) :
    Meets (Builtin.«range.__reversed__» ⟨[.ref r], []⟩) (fun _ R s => s.heap.get? r = some { cls := .type "range", dict := none, data := .fields #[.int a t, .int b u, .int c v], slots := #[] } ∧
      R (.ok (.ret (Value.ref s.heap.objs.size))) { s with heap := s.heap.push { cls := Value.type "range_iterator", data := Data.fields #[rawInt (a + (Builtin.Range.rangeSize a b c - 1) * c), rawInt (Builtin.Range.rangeSize a b c), rawInt (-c)] }, toks := s.toks }) :=
  .of_wp fun prog w A R s h => by
    obtain ⟨hp, g, d, tk, os⟩ := s
    obtain ⟨hl, h⟩ := h
    wp_walk
    rw [if_pos hs]
    exact ⟨_, rfl, h⟩

theorem sub_ri_reversed : isSubtype (.type "range_iterator") (.type "reversed") = pure false := by rw [isSubtype_type]; kernel_rfl

section
variable {prog : Program} {w : World} {A : Around} {E : Value → Shared → Prop} {s : Shared}

theorem call_range_reversed {r : Addr} {n : Nat} {t u v : Tok} {Q : Value → Shared → Prop} (hr : IsRange s.heap r 0 n 1 t u v) (hn : n < 2 ^ 60)
    (h : Q (.ref s.heap.objs.size) { s with heap := s.heap.push { cls := Value.type "range_iterator", data := Data.fields #[rawInt ((n : Int) - 1), rawInt n, rawInt (-1)] } }) :
    wpAny (model prog w) A (call (.builtin "range.__reversed__") [.ref r]) Q E s := by
  have hz : Builtin.Range.rangeSize 0 n 1 = (n : Int) := by
    unfold Builtin.Range.rangeSize
    simp only [show (1 : Int) > 0 by decide, if_true, Int.ediv_one]
    split <;> omega
  have hs : (Builtin.Range.rangeFitsLong 0 && Builtin.Range.rangeFitsLong (n : Int) && Builtin.Range.rangeFitsLong 1 && Builtin.Range.rangeFitsLong (-1) && Builtin.Range.rangeFitsLong (0 - 1) && Builtin.Range.rangeFitsLong (Builtin.Range.rangeSize 0 n 1)) = true := by
    rw [hz]
    simp only [Builtin.Range.rangeFitsLong, Bool.and_eq_true, decide_eq_true_eq]
    omega
  have hT : s.TypeIs (.ref r) "range" := ⟨_, hr, rfl⟩
  refine call_meets F.slot_range_reversed hT F.entry_range_reversed (F.args_range_reversed_1 _) (rev_meets r 0 n 1 t u v hs) ⟨hr, ?_⟩
  rw [hz, show (0 : Int) + ((n : Int) - 1) * 1 = (n : Int) - 1 by omega]
  exact h

theorem code_reversed_range {r : Addr} {n : Nat} {t u v : Tok} {Q₁ : Value → Shared → Prop} (hr : IsRange s.heap r 0 n 1 t u v) (hn : n < 2 ^ 60)
    (h : Q₁ (.ref s.heap.objs.size) { s with heap := s.heap.push { cls := Value.type "range_iterator", data := Data.fields #[rawInt ((n : Int) - 1), rawInt n, rawInt (-1)] } }) :
    codeAny (model prog w) A (.call (.builtin "reversed.__new__") ⟨[.type "reversed", .ref r], []⟩) (wants Q₁ E) s := by
  have hT : s.TypeIs (.ref r) "range" := ⟨_, hr, rfl⟩
  refine codeAny_of_tree ?_
  show wpAny _ A.in1 (do checkBuiltinCall "reversed.__new__" ⟨[.type "reversed", .ref r], []⟩; again (.builtin "reversed.__new__" ⟨[.type "reversed", .ref r], []⟩)) _ _ s
  refine wpAny_bind (wpAny_of_eq (F.newCall_reversed_1 _) (wpAny_pure ⟨plainId_quiet F.plain_reversed_new _, codeAny_builtin F.entry_reversed_new ?_⟩))
  rw [Around.under_plainId F.plain_reversed_new _]
  unfold Builtin.«reversed.__new__»
  refine wpAny_bind (wpAny_of_eq (newClass_reversed _) ?_)
  try dsimp only
  refine wpAny_bind (wpAny_of_eq (a := ()) (by first | rfl | kernel_rfl) ?_)
  refine wpAny_bind (wpAny_of_eq (a := ()) (by first | rfl | kernel_rfl) ?_)
  try dsimp only
  refine wpAny_bind (wpAny_specialOf hT F.slot_range_reversed.lookup ?_)
  try dsimp only
  refine wpAny_bind (wpAny_of_eq (F.slot_range_reversed.bind _) ?_)
  try dsimp only
  first
  | rw [if_neg (show ¬ ((Value.builtin "range.__reversed__" == Value.none) = true) from Bool.false_ne_true)]
  | (show wpAny _ _ (if (Value.builtin "range.__reversed__" == Value.none) = true then _ else _) _ _ _; rw [if_neg (show ¬ ((Value.builtin "range.__reversed__" == Value.none) = true) from Bool.false_ne_true)])
  refine wpAny_bind (wpAny_rule ?_)
  refine wpAny_bind (m := runValue (.call (.builtin "range.__reversed__") ⟨[.ref r], []⟩)) (show wpAny _ _ (call (.builtin "range.__reversed__") [.ref r]) _ _ _ from call_range_reversed hr hn ?_)
  first
  | exact wpAny_pure h
  | exact wpAny_bind (wpAny_pure (wpAny_pure h))

theorem call_reversed_range {r : Addr} {n : Nat} {t u v : Tok} {Q : Value → Shared → Prop} (hr : IsRange s.heap r 0 n 1 t u v) (hn : n < 2 ^ 60)
    (h : Q (.ref s.heap.objs.size) { s with heap := s.heap.push { cls := Value.type "range_iterator", data := Data.fields #[rawInt ((n : Int) - 1), rawInt n, rawInt (-1)] } }) :
    wpAny (model prog w) A (call (.type "reversed") [.ref r]) Q E s := by
  refine callType_other (U := "range_iterator") (Q₁ := fun obj s₁ => obj = .ref s.heap.objs.size ∧ s₁ = { s with heap := s.heap.push { cls := Value.type "range_iterator", data := Data.fields #[rawInt ((n : Int) - 1), rawInt n, rawInt (-1)] } }) (by decide +kernel) F.create_reversed ⟨_, _, F.mro_reversed⟩ F.made_reversed sub_ri_reversed (F.typeCall_reversed_1 _) (code_reversed_range hr hn ⟨rfl, rfl⟩) ?_
  rintro obj s₁ ⟨rfl, rfl⟩
  exact ⟨⟨_, Heap.get?_push_size _ rfl, rfl⟩, h⟩
end

section
variable {prog : Program} {w : World} {A : Around} {E : Value → Shared → Prop} {s : Shared} {env : Env} {h₀ : Heap} {x : Str} {body : List Stmt} {Q : Flow → Shared → Prop}
theorem rev_loop {r : Addr} {n : Nat} {t₀ u₀ v₀ : Tok} {m₀ : Str → Option Value} {news : List (Addr × Obj)} (J : Nat → List (Addr × Obj) → Prop)
    (hh : A.handled = none) (hr : IsRange s.heap r 0 n 1 t₀ u₀ v₀) (hn : n < 2 ^ 60) (F : Fr h₀ env.locals s.heap m₀) (N : News h₀ env.locals s.heap news) (hj : J 0 news)
    (turn : ∀ (i : Nat) news₁ t h tk own, i < n → news₁.map (·.1) = news.map (·.1) → OwnOff own (news.map (·.1)) → J i news₁ →
      Fr h₀ env.locals h (fun y => if y = x then some (.int ((n : Int) - 1 - i) t) else m₀ y) → News h₀ env.locals h (news₁ ++ own) →
      wpAny (model prog w) A (execs body env) (InvPostN h₀ env.locals (fun m' nx => J (i + 1) nx ∧ ∀ y, y ≠ x → m' y = m₀ y) own (news.map (·.1)) { s with heap := h, toks := tk } Q) E { s with heap := h, toks := tk })
    (done : ∀ u news₁ h tk, J n news₁ → Fr h₀ env.locals h (fun y => if y = x then u else m₀ y) → News h₀ env.locals h news₁ → Q .next { s with heap := h, toks := tk }) :
    wpAny (model prog w) A (call (.type "reversed") [.ref r]) (fun xv s₁ => wpAny (model prog w) A (pyIter xv) (fun it s₂ => LoopAtV prog w A h₀ env x body Q E it s₂) E s₁) E s := by
  refine call_reversed_range hr hn ?_
  refine wpAny_pyIter_rangeiter (x := (n : Int) - 1) (left := n) (step := -1) (Heap.get?_push_size _ rfl) ?_
  have W : Walks prog w A s.heap.objs.size [s.heap.objs.size] [s.heap.objs.size] n (fun i v => ∃ t, v = .int ((n : Int) - 1 + i * (-1)) t)
      (fun i h => IsRangeIter h s.heap.objs.size ((n : Int) - 1 + (i : Nat) * (-1)) ((n : Int) - (i : Nat)) (-1)) := Walks.range hh _ ((n : Int) - 1) (-1) n
  refine loop_invN (fun i m' nx => J i nx ∧ ∀ y, y ≠ x → m' y = m₀ y) W ?_ ?_ ?_ ?_ (by show IsRangeIter _ _ _ _ _; simpa using Heap.get?_push_size _ rfl) (F.push _) (fun p hp => ⟨Heap.get?_push_of_some _ (N p hp).1, (N p hp).2⟩) ⟨hj, fun _ _ => rfl⟩ ?_ ?_
  · intro hm
    exact absurd F.ns.lt ((List.mem_singleton.mp hm) ▸ Nat.lt_irrefl _)
  · intro b hb
    rw [List.mem_singleton.mp hb]
    exact next_is_new F
  · intro p hp hI
    exact absurd (Heap.lt_size (N p hp).1) ((List.mem_singleton.mp hI) ▸ Nat.lt_irrefl _)
  · intro p hp hI
    exact absurd (Heap.lt_size (N p hp).1) ((List.mem_singleton.mp hI) ▸ Nat.lt_irrefl _)
  · rintro i v m₁ nx h tk own hi ⟨t, rfl⟩ hadr hoff ⟨hJ, hs⟩ F₁ N₁
    have e1 : (n : Int) - 1 + (i : Int) * (-1) = (n : Int) - 1 - (i : Int) := by omega
    have e2 : (fun y => if y = x then some (Value.int ((n : Int) - 1 - (i : Int)) t) else m₁ y) = (fun y => if y = x then some (Value.int ((n : Int) - 1 - (i : Int)) t) else m₀ y) := by
      funext y
      by_cases hy : y = x
      · rw [if_pos hy, if_pos hy]
      · rw [if_neg hy, if_neg hy, hs y hy]
    rw [e1, e2] at F₁
    exact turn i nx t h tk own hi hadr hoff hJ F₁ N₁
  · rintro m₁ nx h tk ⟨hJ, hs⟩ F₁ N₁
    have e2 : m₁ = (fun y => if y = x then m₁ x else m₀ y) := by
      funext y
      by_cases hy : y = x
      · rw [if_pos hy, hy]
      · rw [if_neg hy, hs y hy]
    rw [e2] at F₁
    exact done _ nx h tk hJ F₁ N₁
end
end Mine
end

section
open PySem PySem.W PyProof.Rows PySem.Spec PySem.Calls
namespace Mine

def hfyI (n : Nat) (h : List Int) : Nat → List Int
  | 0 => h
  | i + 1 => suT (hfyI n h i) (n - 1 - i)
def hfyF (h : List Int) : List Int := hfyI (h.length / 2) h (h.length / 2)
theorem hfyI_length (n : Nat) (h : List Int) : ∀ i, (hfyI n h i).length = h.length
  | 0 => rfl
  | i + 1 => by show (suT (hfyI n h i) (n - 1 - i)).length = _; rw [suT_length, hfyI_length n h i]


theorem hfy_end {h₀ h' : Heap} {L l : Addr} {m' m₀ : Str → Option Value} {x : Str} {ws9 : List Value} {n9 tk : Nat} {o : Obj} {ns9 : List Int} {rest own : List (Addr × Obj)} {s₁ : Shared}
    (F : Fr h₀ L h' m') (N : News h₀ L h' ((l, W.listOf ws9.toArray n9) :: (rest ++ own))) (I : IntsAre ws9 ns9) (hs : ∀ y, y ≠ x → m' y = m₀ y) :
    InvEndN h₀ L (fun m' nx => (∃ ws' e, nx = (l, W.listOf ws'.toArray e) :: rest ∧ IntsAre ws' ns9) ∧ ∀ y, y ≠ x → m' y = m₀ y) own (((l, o) :: rest).map (·.1)) s₁ { s₁ with heap := h', toks := tk } :=
  InvEndN.intro (nx := (l, W.listOf ws9.toArray n9) :: rest) F N ⟨⟨_, _, rfl, I⟩, hs⟩ rfl
    (fun q hq => by rw [← List.cons_append]; exact List.mem_append.mpr (.inl hq))
    (fun q hq => by rw [← List.cons_append]; exact List.mem_append.mpr (.inr hq))

local macro_rules | `(tactic| k_upd) => `(tactic| exact Upd.head (by assumption))
local macro_rules | `(tactic| walk_at "call ref") => `(tactic| (k_here; k_dflt (
  refine' (LClaim.at (siftup _ _ _ _ _ _ _ _ _ _ _ _) [] _) _ _ _ _ _ _ _ _ _ _ _ _ _ _ _ _ _ ?k1 ?k2 ?k3 ?k4 ?k5 ?kK ?kn ?kI ?kp ?kd ?ku ?_;
  (case k1 => k_asm); (case k2 => k_asm); (case k3 => k_asm); (case k4 => k_asm); (case k5 => k_asm); (case kK => first | exact rfl | assumption);
  (case kn => assumption); (case kI => l_ints); (case kp => omega); (case kd => first | omega | ktr_room); (case ku => first | omega | ktr_units);
  intro t9 h9 tk9 n9 ws9 ns9 F9 N9 I9 hp9; (try dsimp only [List.nil_append] at N9))))

set_option maxRecDepth 100000 in
set_option maxHeartbeats 1000000 in
theorem heapify (w : World) (p : Program) (loose : List Str) (mean : ExcName → Option Value) (mg mb : Str → Option Value) (l : Addr) (ws : List Value) (ns : List Int) (n : Nat) (rest : List (Addr × Obj)) :
  LClaim PySem.Challenge.rw_xg0028_01.row.prog w (Mine.hd.heap_39 w.params) p loose mean mg mb 42 4 [] rest l ws ns n (ns.length ≤ 5) [.ref l] (fun _ => .none) (fun ns' => ns' = hfyF ns ∧ ns'.length = ns.length) := by
  k_fill
  k_with_none
  w_top off
  dsimp only [LClaim, LRet, List.nil_append]
  intro dp un gd cn cs fa ccd cl outer A₀ base h₀ L m s Q E B F KX N T hk hne hI hn5 hd hu hret
  refine wpAny_call ?_
  k_dflt cell_enter
  k_steps
  rename IsRange _ _ _ _ _ _ _ _ => rg
  have hfd : ((ns.length : Int).fdiv 2) = ((ns.length / 2 : Nat) : Int) := by
    rw [Int.fdiv_eq_ediv_of_nonneg _ (by decide)]; rfl
  rw [hfd] at rg
  (rename Fr _ _ _ _ => lF)
  refine rev_loop (n := ns.length / 2) (fun i nx => ∃ ws' e, nx = (l, W.listOf ws'.toArray e) :: rest ∧ IntsAre ws' (hfyI (ns.length / 2) ns i)) rfl rg (by omega) lF (by assumption) ⟨_, _, rfl, hI⟩ ?_ ?_
  · rintro i _ t h tk own hi hadr hoff ⟨ws', e, rfl, hI'⟩ F' N'
    clear lF
    have hl9 := hfyI_length (ns.length / 2) ns i
    have hne9 : ∀ q ∈ rest ++ own, q.1 ≠ l := by
      intro q hq
      rcases List.mem_append.mp hq with hq | hq
      · exact hne q hq
      · exact hoff q hq l (.head _)
    rw [List.cons_append] at N'
    k_steps
    rename IntsAre _ _ => I9
    rename News _ _ _ _ => N9
    rename _ = suT _ _ => hp9
    have e9 : hfyI (ns.length / 2) ns (i + 1) = suT (hfyI (ns.length / 2) ns i) ((((ns.length / 2 : Nat) : Int) - 1 - (i : Int)).toNat) := by
      have e : (((ns.length / 2 : Nat) : Int) - 1 - (i : Int)).toNat = ns.length / 2 - 1 - i := by omega
      rw [e]; rfl
    rw [← e9] at hp9
    rw [hp9] at I9
    exact hfy_end (by assumption) N9 I9 fun y hy => if_neg hy
  · rintro u _ h tk ⟨ws', e, rfl, hI'⟩ F' N'
    clear lF
    k_steps
    exact hret 0 _ _ _ _ _ (by assumption) (by assumption) hI' ⟨rfl, hfyI_length _ _ _⟩
end Mine
end

section
open PySem PySem.W PyProof.Rows PySem.Spec PySem.Calls PyProof
namespace Mine

def LiIt (o : Obj) (l : Addr) (k : Nat) : Prop := o.cls = .type "list_iterator" ∧ o.data = .fields #[.ref l, .int k 0]

section
variable {prog : Program} {w : World} {A : Around} {E : Value → Shared → Prop} {s : Shared} {h₀ : Heap} {L l I : Addr} {m : Str → Option Value} {news : List (Addr × Obj)} {io : Obj} {vs : List Value} {ns : List Int} {nn k : Nat}

theorem my_iter {Q : Value → Shared → Prop} (F : Fr h₀ L s.heap m) (N : News h₀ L s.heap news) (hl : (l, W.listOf vs.toArray nn) ∈ news)
    (h : ∀ (I : Addr) h' oI, Fr h₀ L h' m → News h₀ L h' ((I, oI) :: news) → (∀ p ∈ news, p.1 < I) → LiIt oI l 0 → Q (.ref I) { s with heap := h' }) :
    wpAny (model prog w) A (call (.builtin "iter") [.ref l]) Q E s := by
  have hls : s.heap.IsList l vs.toArray := ⟨_, (N _ hl).1, rfl, nn, rfl⟩
  refine call_function_entry (by decide +kernel) (by decide +kernel) kdk_entry_iter (kdk_args_iter _) ?_
  unfold Builtin.«iter»
  refine wpAny_bind (m := someArgs "iter" 1 2 _) (wpAny_of_eq (a := [Value.ref l]) (by first | rfl | kernel_rfl!) ?_)
  show wpAny _ _ (pyIter (.ref l) >>= _) _ _ _
  refine wpAny_bind (wpAny_pyIter_list hls ?_)
  exact wpAny_pure ⟨_, rfl, h _ _ _ (F.push _) (News.push F N _ rfl) (fun q hq => Heap.lt_size (N q hq).1) ⟨rfl, rfl⟩⟩

theorem my_special {items : Array Value} {x : Value} {Q : Option Value → Shared → Prop} (hit : s.heap.IsListIter I l k) (hl : s.heap.IsList l items) (hx : items[k]? = some x)
    (hQ : ∀ h', h'.IsListIter I l (k + 1) → Heap.SameBut I s.heap h' → Q (some x) { s with heap := h' }) :
    wpAny (model prog w) A (callSpecial? (.ref I) (Str.ofString "__next__")) Q E s := by
  obtain ⟨o, ho, hc, hd⟩ := id hit
  obtain ⟨ol, hol, _, nl, hdl⟩ := hl
  refine wpAny_callSpecial?_slot (name := Str.ofString "__next__") hit.typeIs slot_listiter_next
    (wpAny_call_entry slot_listiter_next hit.typeIs entry_listiter_next ?_ (args_listiter_next _))
  show wpAny _ _ (field (.ref I) 0 >>= _) _ _ s
  refine wpAny_bind (wpAny_field ho hd (x := .ref l) rfl ?_)
  show wpAny _ _ (if (Value.ref l == Value.none) = true then _ else _) _ _ s
  rw [if_neg (show ¬ ((Value.ref l == Value.none) = true) from Bool.false_ne_true)]
  show wpAny _ _ (field (.ref I) 1 >>= _) _ _ s
  refine wpAny_bind (wpAny_field ho hd (x := .int k 0) rfl ?_)
  show wpAny _ _ (seqItems? (.ref l) >>= _) _ _ s
  refine wpAny_bind (wpAny_seqItems hol hdl ?_)
  simp only [Int.toNat_natCast, hx]
  refine wpAny_bind (wpAny_setField ho hd (by simp) (wpAny_pure ⟨x, rfl, hQ _ ?_ (Heap.SameBut.update ..)⟩))
  exact ⟨_, Heap.get?_update_self _ ho (Obj.isFreed_of_fields (Obj.data_mapFields hd _)), (Obj.cls_mapFields ..).trans hc, by
    rw [Obj.data_mapFields hd]; simp [rawInt]⟩

theorem my_next {x : Int} {Q : Value → Shared → Prop} (F : Fr h₀ L s.heap m) (N : News h₀ L s.heap ((I, io) :: news)) (hoff : ∀ p ∈ news, p.1 ≠ I) (hi : LiIt io l k) (hl : (l, W.listOf vs.toArray nn) ∈ news) (hv : IntsAre vs ns) (hx : ns[k]? = some x)
    (h : ∀ t h' o', Fr h₀ L h' m → News h₀ L h' ((I, o') :: news) → LiIt o' l (k + 1) → Q (.int x t) { s with heap := h' }) :
    wpAny (model prog w) A (call (.builtin "next") [.ref I]) Q E s := by
  have hm := N (I, io) (.head _)
  have hit : s.heap.IsListIter I l k := ⟨io, hm.1, hi.1, hi.2⟩
  have hls : s.heap.IsList l vs.toArray := ⟨_, (N _ (.tail _ hl)).1, rfl, nn, rfl⟩
  obtain ⟨t, ht⟩ := hv.get k x hx
  have hx' : vs.toArray[k]? = some (Value.int x t) := by simpa using ht
  refine call_function_entry (by decide +kernel) (by decide +kernel) kdk_entry_next (kdk_args_next _) ?_
  unfold Builtin.«next»
  refine wpAny_bind (m := someArgs "next" 1 2 _) (wpAny_of_eq (a := [Value.ref I]) (by first | rfl | kernel_rfl!) ?_)
  dsimp only
  refine wpAny_bind (wpAny_specialOf (name := Str.ofString "__next__") hit.typeIs slot_listiter_next.lookup ?_)
  refine wpAny_ite_split (fun hab => absurd hab (by decide)) (fun _ => ?_)
  refine wpAny_bind (my_special hit hls hx' fun h' hit' hs => ?_)
  obtain ⟨o', ho', hc', hd'⟩ := hit'
  exact wpAny_pure ⟨_, rfl, h t h' o' (F.change hs hm.2.1 hm.2.2) (News.setIn (own := []) N (fun _ hp => nomatch hp) hoff hs ho') ⟨hc', hd'⟩⟩
end

theorem walks_listFrom {prog : Program} {w : World} {A : Around} (hh : A.handled = none) (I ax : Addr) (hne : ax ≠ I) (items : Array Value) (k n : Nat) (hn : k + n = items.size) :
    Walks prog w A I [I, ax] [I] n (fun i v => items[k + i]? = some v) (fun i h => h.IsListIter I ax (k + i) ∧ h.IsList ax items) where
  sub := fun b hb => by simp at hb; simp [hb]
  frame := fun _ _ _ st hk => ⟨st.1.at fun o e => hk I (by simp) o e, st.2.at fun o e => hk ax (by simp) o e⟩
  item := fun i s Q E hi st hQ => by
    have hlt : k + i < items.size := by omega
    refine wpAny_pyNext_list_item st.1 st.2 (x := items[k + i]) (by simp [hlt]) fun h' hit' hs' => ?_
    exact hQ _ h' s.toks (by simp [hlt]) ⟨hit', st.2.extBut hs'.extBut hne⟩ fun b o hb e => hs'.extBut b o (fun h => hb (by simp [h])) e
  done := fun s Q E st hQ => wpAny_pyNext_list_end hh st.1 st.2 (by rw [hn]; simp) fun h' he' => hQ h' s.toks fun b o hb e => he' b o (fun h => hb (by simp [h])) e
  self := fun _ _ _ _ st hQ => wpAny_pyIter_listiter st.1 hQ

section
variable {prog : Program} {w : World} {A : Around} {E : Value → Shared → Prop} {s : Shared} {env : Env} {h₀ : Heap} {x : Str} {body : List Stmt} {Q : Flow → Shared → Prop}

theorem iter_from {l I : Addr} {io : Obj} {vs : List Value} {ns : List Int} {nn k : Nat} {m₀ : Str → Option Value} {news : List (Addr × Obj)} (J : Nat → (Str → Option Value) → Prop)
    (hh : A.handled = none) (hl : (l, W.listOf vs.toArray nn) ∈ news) (hi : IntsAre vs ns) (hk : k ≤ ns.length) (hio : LiIt io l k) (hoff : ∀ p ∈ news, p.1 ≠ I) (F : Fr h₀ env.locals s.heap m₀) (N : News h₀ env.locals s.heap ((I, io) :: news)) (hj : J k m₀)
    (turn : ∀ i n t m₁ h tk own, k ≤ i → ns[i]? = some n → OwnOff own (news.map (·.1)) → J i m₁ → Fr h₀ env.locals h (fun y => if y = x then some (.int n t) else m₁ y) → News h₀ env.locals h (news ++ own) →
      wpAny (model prog w) A (execs body env) (InvPostN h₀ env.locals (fun m' nx => nx = news ∧ J (i + 1) m') own (news.map (·.1)) { s with heap := h, toks := tk } Q) E { s with heap := h, toks := tk })
    (done : ∀ m₁ h tk, J ns.length m₁ → Fr h₀ env.locals h m₁ → News h₀ env.locals h news → Q .next { s with heap := h, toks := tk }) :
    wpAny (model prog w) A (pyIter (.ref I)) (fun it s₂ => LoopAtV prog w A h₀ env x body Q E it s₂) E s := by
  have hIx := N (I, io) (.head _)
  have hol : s.heap.get? l = some (W.listOf vs.toArray nn) := (N _ (.tail _ hl)).1
  have hls : s.heap.IsList l vs.toArray := ⟨_, hol, rfl, nn, rfl⟩
  have hne : l ≠ I := hoff _ hl
  have hit : s.heap.IsListIter I l k := ⟨io, hIx.1, hio.1, hio.2⟩
  refine wpAny_pyIter_listiter hit ?_
  have hlen : vs.toArray.size = ns.length := by simp [hi.length]
  have WW := walks_listFrom (prog := prog) (w := w) hh I l hne vs.toArray k (ns.length - k) (by omega)
  refine ⟨_, _, _, ns.length - k, _, _, m₀, news, (fun i m nx => nx = news ∧ J (k + i) m), rfl, WW, ?_, ?_, ?_, ⟨hit, hls⟩, F, (fun p hp => N p (.tail _ hp)), ⟨rfl, hj⟩, ?_, ?_⟩
  · intro hm
    rcases List.mem_cons.mp hm with e | hm
    · exact hIx.2.1 e.symm
    · exact (N _ (.tail _ hl)).2.1 ((List.mem_singleton.mp hm).symm)
  · intro b hb
    rw [List.mem_singleton.mp hb]
    exact hIx.2.2
  · intro p hp hI
    exact hoff p hp (List.mem_singleton.mp hI)
  · rintro i v m₁ news₁ s₁ own ⟨hh', tk', rfl⟩ hin hP ⟨rfl, hJ⟩ hoff₁ hown hget hfp _ F₁ N₁
    have hsep : OwnOff (own.filter fun p => decide (p.1 = I)) (news₁.map (·.1)) := by
      intro p hp b hb e
      obtain ⟨q, hq, rfl⟩ := List.mem_map.mp hb
      have h1 : p.1 = I := by simpa using (List.mem_filter.mp hp).2
      exact hoff q hq (by rw [← e, h1])
    have hlt' : k + i < ns.length := by omega
    obtain ⟨t, hx⟩ := hi.get (k + i) ns[k + i] (by simp [hlt'])
    have hv : v = .int ns[k + i] t := by
      have hP' : vs[k + i]? = some v := by simpa using hP
      rw [hx] at hP'; exact (Option.some.inj hP').symm
    subst hv
    have N₂ : News h₀ env.locals hh' (news₁ ++ own.filter fun p => decide (p.1 = I)) := fun p hp => N₁ p ((List.mem_append.mp hp).elim (fun h => List.mem_append.mpr (.inr h)) fun h => List.mem_append.mpr (.inl ((List.mem_filter.mp h).1)))
    have hlo : hh'.get? l = some (W.listOf vs.toArray nn) := (N₁ _ (List.mem_append.mpr (.inr hl))).1
    refine wpAny_mono (turn (k + i) ns[k + i] t m₁ hh' tk' _ (by omega) (by simp [hlt']) hsep hJ F₁ N₂) (fun f s₂ p => ?_) fun _ _ e => e
    have fin : InvEndN h₀ env.locals (fun m' nx => nx = news₁ ∧ J (k + i + 1) m') (own.filter fun p => decide (p.1 = I)) (news₁.map (·.1)) { s with heap := hh', toks := tk' } s₂ →
        LoopStepU h₀ env.locals [I] own (fun m nx => nx = news₁ ∧ J (k + (i + 1)) m) { s with heap := hh', toks := tk' } .next s₂ := by
      rintro ⟨h', tk, m', news', nx, e, F', N', hn, ho, ha, rfl, hm⟩
      refine ⟨rfl, h', tk, m', nx, e, F', fun p hp => ?_, fun p hp hI => hoff p hp (List.mem_singleton.mp hI), rfl, hm⟩
      rcases List.mem_append.mp hp with h | h
      · by_cases hI : p.1 = I
        · exact N' p (ho p (List.mem_filter.mpr ⟨h, by simpa using hI⟩))
        · have h1 : p.1 = l := by
            rcases List.mem_cons.mp (hown p h) with h2 | h2
            · exact absurd h2 hI
            · exact List.mem_singleton.mp h2
          have h2 : hh'.get? p.1 = some p.2 := hget p h
          rw [h1, hlo] at h2
          have h3 : p = (l, W.listOf vs.toArray nn) := Prod.ext h1 (Option.some.inj h2).symm
          rw [h3]
          exact N' _ (hn _ hl)
      · exact N' p (hn p h)
    cases f with
    | ret v => exact .ret p
    | brk => exact .brk p
    | next => exact .next (fin p)
    | cont => exact .cont (fin p)
  · rintro h' tk m' news' F' N' _ ⟨rfl, hJ⟩
    have e : k + (ns.length - k) = ns.length := by omega
    rw [e] at hJ
    exact done m' h' tk hJ F' N'
end
end Mine
end

section
open PySem PySem.W PyProof.Rows PySem.Spec PySem.Calls PyProof
namespace Mine

abbrev lamOf (qual : Str) (q1 q2 q3 q4 q5 : Pos) (pm : Value) (c' : Addr) (ctv : Value) : Obj :=
  kla_obj (Str.ofString "<lambda>") qual { posonlyargs := [], args := [{ arg := Str.ofString "one", annotation := none, pos := q1 }, { arg := Str.ofString "two", annotation := none, pos := q2 }], vararg := none, kwonlyargs := [], kw_defaults := [], kwarg := none, defaults := [] }
    (.BinOp (.Name (Str.ofString "one") q3) Operator.Add (.Name (Str.ofString "two") q4) q5)
    { kind := ScopeKind.function, names := [(Str.ofString "one", NameKind.local), (Str.ofString "two", NameKind.local)], isGenerator := false, isCoroutine := false } [] pm c' ctv

abbrev RRet (h₀ : Heap) (L : Addr) (m : Str → Option Value) (news : List (Addr × Obj)) (s : Shared) (Q : Value → Shared → Prop) (x : Int) : Prop :=
  ∀ (t : Tok) (h' : Heap) (tk' : Nat), Fr h₀ L h' m → News h₀ L h' news → Q (.int x t) { s with heap := h', toks := tk' }


theorem lt_ne9 {I : Addr} {news : List (Addr × Obj)} (h : ∀ p ∈ news, p.1 < I) : ∀ p ∈ news, p.1 ≠ I := fun p hp => Nat.ne_of_lt (h p hp)

section
variable {prog : Program} {w : World} {A : Around} {E : Value → Shared → Prop} {s : Shared} {env : Env} {h₀ : Heap} {x y : Str} {body : List Stmt} {Q : Flow → Shared → Prop}
theorem red_loop {l I : Addr} {io : Obj} {vs : List Value} {ns : List Int} {nn k : Nat} {t₀ : Tok} {m₀ : Str → Option Value} {news : List (Addr × Obj)} (S : Nat → Int) (hS : ∀ i n, ns[i]? = some n → S (i + 1) = S i + n) (_hyx : y ≠ x) (hst : m₀ y = some (.int (S k) t₀))
    (hh : A.handled = none) (hl : (l, W.listOf vs.toArray nn) ∈ news) (hi : IntsAre vs ns) (hk : k ≤ ns.length) (hio : LiIt io l k) (hoff : ∀ p ∈ news, p.1 ≠ I) (F : Fr h₀ env.locals s.heap m₀) (N : News h₀ env.locals s.heap ((I, io) :: news))
    (turn : ∀ n t v t' h tk own, OwnOff own (news.map (·.1)) → Fr h₀ env.locals h (fun z => if z = x then some (.int n t) else if z = y then some (.int v t') else m₀ z) → News h₀ env.locals h (news ++ own) →
      wpAny (model prog w) A (execs body env) (InvPostN h₀ env.locals (fun m' nx => nx = news ∧ ∃ t'', ∀ z, z ≠ x → m' z = if z = y then some (.int (v + n) t'') else m₀ z) own (news.map (·.1)) { s with heap := h, toks := tk } Q) E { s with heap := h, toks := tk })
    (done : ∀ u t h tk, Fr h₀ env.locals h (fun z => if z = x then u else if z = y then some (.int (S ns.length) t) else m₀ z) → News h₀ env.locals h news → Q .next { s with heap := h, toks := tk }) :
    wpAny (model prog w) A (pyIter (.ref I)) (fun it s₂ => LoopAtV prog w A h₀ env x body Q E it s₂) E s := by
  refine iter_from (fun i m => ∃ t, ∀ z, z ≠ x → m z = if z = y then some (.int (S i) t) else m₀ z) hh hl hi hk hio hoff F N ⟨t₀, fun z _ => ?_⟩ ?_ ?_
  · by_cases hz : z = y
    · rw [if_pos hz, hz, hst]
    · rw [if_neg hz]
  · rintro i n t m₁ h tk own _ hn hof ⟨t', hm⟩ F₁ N₁
    have e2 : (fun z => if z = x then some (Value.int n t) else m₁ z) = (fun z => if z = x then some (Value.int n t) else if z = y then some (.int (S i) t') else m₀ z) := by
      funext z
      by_cases hz : z = x
      · rw [if_pos hz, if_pos hz]
      · rw [if_neg hz, if_neg hz, hm z hz]
    rw [e2] at F₁
    rw [hS i n hn]
    exact turn n t (S i) t' h tk own hof F₁ N₁
  · rintro m₁ h tk ⟨t, hm⟩ F₁ N₁
    have e2 : m₁ = (fun z => if z = x then m₁ x else if z = y then some (.int (S ns.length) t) else m₀ z) := by
      funext z
      by_cases hz : z = x
      · rw [if_pos hz, hz]
      · rw [if_neg hz, hm z hz]
    rw [e2] at F₁
    exact done _ t h tk F₁ N₁
end

theorem red_end {h₀ h' : Heap} {L : Addr} {x y : Str} {u u' : Option Value} {v : Value} {tk : Nat} {m₀ : Str → Option Value} {news own : List (Addr × Obj)} {s₁ : Shared} {k : Int} {t : Tok} (hv : v = .int k t)
    (F : Fr h₀ L h' (fun z => if z = y then some v else (fun z => if z = x then u else if z = y then u' else m₀ z) z)) (N : News h₀ L h' (news ++ own)) :
    InvEndN h₀ L (fun m' nx => nx = news ∧ ∃ t'', ∀ z, z ≠ x → m' z = if z = y then some (.int k t'') else m₀ z) own (news.map (·.1)) s₁ { s₁ with heap := h', toks := tk } :=
  InvEndN.intro (nx := news) F N ⟨rfl, t, fun z hz => by
    by_cases hy : z = y
    · simp only [if_pos hy, hv]
    · simp only [if_neg hy, if_neg hz]⟩ rfl
    (fun q hq => List.mem_append.mpr (.inl hq)) (fun q hq => List.mem_append.mpr (.inr hq))
theorem take1_sum {ns : List Int} (h : 0 < ns.length) : (ns.take 1).sum = ns.getD 0 0 := by
  match ns, h with
  | a :: r, _ => simp
theorem take_sum {ns : List Int} (i : Nat) (n : Int) (h : ns[i]? = some n) : (ns.take (i + 1)).sum = (ns.take i).sum + n := by
  rw [List.take_add_one, h, List.sum_append]; simp

local macro_rules | `(tactic| walk_at "compareOp Is int ref") => `(tactic| (refine wpAny_is_other (by rfl) (by intro x; cases x) ?_))
local macro_rules | `(tactic| walk_at "call builtin:next") => `(tactic| (k_here; (with_reducible show wpAny _ _ (call (Value.builtin "next") [Value.ref _]) _ _ _); k_dflt (refine' my_next ?F ?N ?o ?i ?l ?v ?x ?_; (case F => k_asm); (case N => k_asm); (case o => exact lt_ne9 (by assumption)); (case i => assumption); (case l => assumption); (case v => assumption); (case x => assumption); intro t9 h9 o9 F9 N9 i9)))
local macro_rules | `(tactic| walk_at "callWith ref") => `(tactic| (k_here; k_dflt (refine' callWith_F ?k1 ?_; (case k1 => exact FnAt.of (by k_asm) (by assumption)); k_whole)))
local macro_rules | `(tactic| walk_at "FnAt") => `(tactic| (k_dflt (exact FnAt.of (by k_asm) (by assumption))))
local macro_rules | `(tactic| walk_at "call ref") => `(tactic| (k_here; k_dflt (refine wpAny_call ?_; refine' kla_code ?k1 ?k2 ?k3 ?k4 ?k5 ?kA ?kF ?kK ?k6 ?k7 ?k8 ?k9 ?kB ?_ ?c2 ?c3 ?c4 ?c5; (case kA => exact rfl); (case kF => exact rfl); (case kK => exact rfl); (case k1 => k_asm); (case k2 => k_asm); (case k3 => k_asm); (case k4 => k_asm); (case k5 => k_asm); (case k6 => assumption); (case k7 => exact codeRec_news (by k_asm) (by assumption) (by assumption) (by assumption)); (case k8 => ktr_room); (case k9 => exact rfl); (case c5 => decide); (case kB => exact locs rfl); (case c2 => exact rfl); (case c3 => exact rfl); (case c4 => exact rfl); k_whole; intro g' L' h' FG' F' N' B' X' T'; (try dsimp only); (try k_lift B'); (try k_fold))))
local macro_rules | `(tactic| walk_at "call builtin:iter") => `(tactic| (k_here; (with_reducible show wpAny _ _ (call (Value.builtin "iter") [Value.ref _]) _ _ _); k_dflt (refine' my_iter ?F ?N ?l ?_; (case F => k_asm); (case N => k_asm); (case l => assumption); intro I9 h9 o9 F9 N9 l9 i9)))

set_option maxRecDepth 100000 in
set_option maxHeartbeats 1000000 in
theorem reduce0 (w : World) (p : Program) (loose : List Str) (mean : ExcName → Option Value) (mg mb : Str → Option Value) (news : List (Addr × Obj)) (f c' l : Addr) (qual : Str) (q1 q2 q3 q4 q5 : Pos) (pm ctv : Value) (oc : Obj) (vs' : Array Value) (tq : Tok) (ws : List Value) (ns : List Int) (n : Nat) (a : Int) (ta : Tok)
    (dp un : Nat) (gd : Option (List Code)) (cn : Str) (cs : Scope) (fa : Addr) (ccd : Value) (cl : List (Str × Addr)) (outer : List Env) (A₀ : Around) (base h₀ : Heap) (L : Addr) (m : Str → Option Value) (s : Shared) (Q E : Value → Shared → Prop)
    (B : Below A₀ base outer h₀) (F : Fr h₀ L s.heap m) (KX : (Mine.hd.heap_39 w.params).In h₀) (N : News h₀ L s.heap news) (T : Top p loose mean mg mb h₀) (hk : cs.kind = .function)
    (hf : (f, lamOf qual q1 q2 q3 q4 q5 pm c' ctv) ∈ news) (hc : (c', oc) ∈ news) (d1 : oc.data = .fields vs') (d2 : vs'[1]? = some (.str qual tq)) (hl : (l, W.listOf ws.toArray n) ∈ news) (hI : IntsAre ws ns) (hn5 : ns.length ≤ 5)
    (hd : dp + 2 < recursionLimit) (hu : un + 16 < cLine) (hret : RRet h₀ L m news s Q (a + ns.sum)) :
    wpAny (model PySem.Challenge.rw_xg0028_01.row.prog w) (ktrTop dp un gd cn cs L fa ccd cl outer) (call (.ref 65) [.ref f, .ref l, .int a ta]) Q E s := by
  revert KX; k_fill; intro KX
  k_with_none
  w_top off
  refine wpAny_call ?_
  k_dflt (refine' code_def ?k1 ?k2 ?k3 ?k4 ?k5 ?kA ?kF ?kK ?k6 ?k7 ?k8 ?k9 ?kB ?_ ?c2 ?c3 ?c4 ?c5; (case kA => exact rfl); (case kF => exact rfl); (case kK => assumption); (case k1 => k_asm); (case k2 => k_asm); (case k3 => k_asm); (case k4 => k_asm); (case k5 => k_asm); (case k6 => k_is); (case k7 => k_is); (case k8 => ktr_room); (case k9 => exact binds_K (by k_in) rfl (by k_is) rfl rfl rfl); (case c5 => decide); (case kB => exact locs rfl); (case c2 => exact rfl); (case c3 => exact rfl); (case c4 => exact rfl); k_whole; intro g' L' h' FG' F' N' B' X' T'; (try dsimp only); (try k_lift B'); (try k_fold))
  k_steps
  rename Fr _ _ _ _ => lF
  refine red_loop (y := Str.ofString "value") (fun i => a + (ns.take i).sum) (fun i n h => by rw [take_sum i n h]; omega) (by decide) (by exact congrArg some (congrArg (fun z => Value.int z ta) (by simp))) rfl hl (by assumption) (Nat.zero_le _) (by assumption) (lt_ne9 (by assumption)) lF (by assumption) ?_ ?_
  · intro n t v t' h tk own hof F' N'
    clear lF
    have hf9 : (f, lamOf qual q1 q2 q3 q4 q5 pm c' ctv) ∈ news ++ own := List.mem_append.mpr (.inl hf)
    have hc9 : (c', oc) ∈ news ++ own := List.mem_append.mpr (.inl hc)
    k_steps
    exact red_end rfl (by assumption) (by assumption)
  · intro u t h tk F' N'
    clear lF
    k_steps
    rw [List.take_length]
    exact hret _ _ _ (by assumption) (by assumption)
set_option maxRecDepth 100000 in
set_option maxHeartbeats 1000000 in
theorem reduce1 (w : World) (p : Program) (loose : List Str) (mean : ExcName → Option Value) (mg mb : Str → Option Value) (news : List (Addr × Obj)) (f c' l : Addr) (qual : Str) (q1 q2 q3 q4 q5 : Pos) (pm ctv : Value) (oc : Obj) (vs' : Array Value) (tq : Tok) (ws : List Value) (ns : List Int) (n : Nat)
    (dp un : Nat) (gd : Option (List Code)) (cn : Str) (cs : Scope) (fa : Addr) (ccd : Value) (cl : List (Str × Addr)) (outer : List Env) (A₀ : Around) (base h₀ : Heap) (L : Addr) (m : Str → Option Value) (s : Shared) (Q E : Value → Shared → Prop)
    (B : Below A₀ base outer h₀) (F : Fr h₀ L s.heap m) (KX : (Mine.hd.heap_39 w.params).In h₀) (N : News h₀ L s.heap news) (T : Top p loose mean mg mb h₀) (hk : cs.kind = .function)
    (hf : (f, lamOf qual q1 q2 q3 q4 q5 pm c' ctv) ∈ news) (hc : (c', oc) ∈ news) (d1 : oc.data = .fields vs') (d2 : vs'[1]? = some (.str qual tq)) (hl : (l, W.listOf ws.toArray n) ∈ news) (hI : IntsAre ws ns) (hn5 : ns.length ≤ 5) (hn0 : 0 < ns.length)
    (hd : dp + 2 < recursionLimit) (hu : un + 16 < cLine) (hret : RRet h₀ L m news s Q ns.sum) :
    wpAny (model PySem.Challenge.rw_xg0028_01.row.prog w) (ktrTop dp un gd cn cs L fa ccd cl outer) (call (.ref 65) [.ref f, .ref l]) Q E s := by
  revert KX; k_fill; intro KX
  k_with_none
  w_top off
  refine wpAny_call ?_
  k_dflt (refine' code_def ?k1 ?k2 ?k3 ?k4 ?k5 ?kA ?kF ?kK ?k6 ?k7 ?k8 ?k9 ?kB ?_ ?c2 ?c3 ?c4 ?c5; (case kA => exact rfl); (case kF => exact rfl); (case kK => assumption); (case k1 => k_asm); (case k2 => k_asm); (case k3 => k_asm); (case k4 => k_asm); (case k5 => k_asm); (case k6 => k_is); (case k7 => k_is); (case k8 => ktr_room); (case k9 => exact binds_K (by k_in) rfl (by k_is) rfl rfl rfl); (case c5 => decide); (case kB => exact locs rfl); (case c2 => exact rfl); (case c3 => exact rfl); (case c4 => exact rfl); k_whole; intro g' L' h' FG' F' N' B' X' T'; (try dsimp only); (try k_lift B'); (try k_fold))
  have hx0 : ns[0]? = some (ns.getD 0 0) := by
    rw [List.getD_eq_getElem?_getD]
    match ns, hn0 with
    | a :: r, _ => rfl
  k_steps
  rename Fr _ _ _ _ => lF
  refine red_loop (y := Str.ofString "value") (fun i => (ns.take i).sum) (fun i n h => take_sum i n h) (by decide) (k := 1) (by exact congrArg some (congrArg (fun z => Value.int z _) (take1_sum hn0).symm)) rfl hl (by assumption) (by omega) (by assumption) (lt_ne9 (by assumption)) lF (by assumption) ?_ ?_
  · intro n t v t' h tk own hof F' N'
    clear lF
    have hf9 : (f, lamOf qual q1 q2 q3 q4 q5 pm c' ctv) ∈ news ++ own := List.mem_append.mpr (.inl hf)
    have hc9 : (c', oc) ∈ news ++ own := List.mem_append.mpr (.inl hc)
    k_steps
    exact red_end rfl (by assumption) (by assumption)
  · intro u t h tk F' N'
    clear lF
    k_steps
    rw [List.take_length]
    exact hret _ _ _ (by assumption) (by assumption)
end Mine
end

section
open PySem PySem.W PyProof.Rows PySem.Spec PySem.Calls PyProof
namespace Mine

def CellPost (h₀ : Heap) (L I : Addr) (it : Obj) (c : Addr) (J : (Str → Option Value) → List (Addr × Obj) → Prop) (s₁ : Shared) (f : Flow) (s₂ : Shared) : Prop :=
  f = .next ∧ ∃ h' tk m' oc' v' nx, s₂ = { s₁ with heap := h', toks := tk } ∧ Fr h₀ L h' m' ∧ News h₀ L h' ((I, it) :: (c, oc') :: nx) ∧ oc'.data = .cell v' ∧ J m' nx

abbrev itO (n i : Nat) : Obj := { cls := .type "range_iterator", dict := none, data := .fields #[rawInt (i : Int), rawInt ((n : Int) - (i : Int)), rawInt 1], slots := #[] }

section
variable {prog : Program} {w : World} {A : Around} {E : Value → Shared → Prop} {s : Shared} {h₀ : Heap} {L a : Addr} {cn : Str} {cs : Scope} {ccd : Value} {cl : List (Str × Addr)} {x : Str} {px : Pos} {body : List Stmt} {Q : Flow → Shared → Prop}
theorem cell_loop {c r : Addr} {n : Nat} {t₀ u₀ v₀ : Tok} {oc : Obj} {vc : Option Value} {m₀ : Str → Option Value} {news : List (Addr × Obj)} (J : Nat → (Str → Option Value) → List (Addr × Obj) → Prop)
    (hh : A.handled = none) (hk : cs.kind = .function) (hx : (envX cn cs L a ccd cl).kindOf x = some .cell) (hc : cl.lookup x = some c)
    (hr : IsRange s.heap r 0 n 1 t₀ u₀ v₀) (hn : n < 2 ^ 60) (F : Fr h₀ L s.heap m₀) (N : News h₀ L s.heap ((c, oc) :: news)) (hoc : oc.data = .cell vc) (hcn : ∀ p ∈ news, p.1 ≠ c) (hj : J 0 m₀ news)
    (hadr : ∀ i m nx, J i m nx → nx.map (·.1) = news.map (·.1))
    (turn : ∀ i m₁ nx t h tk (I : Addr) it oc', i < n → J i m₁ nx → c < I → (∀ p ∈ nx, p.1 < I) → oc'.data = .cell (some (.int i t)) → Fr h₀ L h m₁ → News h₀ L h ((I, it) :: (c, oc') :: nx) →
      wpAny (model prog w) A (execs body (envX cn cs L a ccd cl)) (CellPost h₀ L I it c (J (i + 1)) { s with heap := h, toks := tk }) E { s with heap := h, toks := tk })
    (done : ∀ m₁ nx h tk oc' v', J n m₁ nx → Fr h₀ L h m₁ → News h₀ L h ((c, oc') :: nx) → oc'.data = .cell v' → Q .next { s with heap := h, toks := tk })
    (hE : PassesOwn (model prog w) A (envX cn cs L a ccd cl) E) :
    wpAny (model prog w) A (pyIter (.ref r)) (fun it s₂ => codeAny (model prog w) A (.forLoop (.Name x px) it body [] (envX cn cs L a ccd cl)) (fun r s' => match r with | .ok f => Q f s' | .error e => cameBackBy (model prog w) A (envX cn cs L a ccd cl) E e s') s₂) E s := by
  have hz : Builtin.Range.rangeSize 0 n 1 = (n : Int) := by
    unfold Builtin.Range.rangeSize
    simp only [show (1 : Int) > 0 by decide, if_true, Int.ediv_one]
    split <;> omega
  have hsmall : Builtin.Range.small 0 n 1 = true := small_one (by omega) (by omega) (by omega) (by omega)
  refine wpAny_pyIter_range hr hsmall ?_
  rw [hz]
  have hIL : s.heap.objs.size ≠ L := Nat.ne_of_gt F.ns.lt
  have hIn : h₀.get? s.heap.objs.size = none := next_is_new F
  have hcI : c < s.heap.objs.size := Heap.lt_size (N _ (.head _)).1
  have hnI : ∀ p ∈ news, p.1 < s.heap.objs.size := fun p hp => Heap.lt_size (N p (.tail _ hp)).1
  have N₀ : News h₀ L (s.heap.push (itO n 0)) ((s.heap.objs.size, itO n 0) :: (c, oc) :: news) := News.push F N _ rfl
  have e0 : itO n 0 = { cls := .type "range_iterator", data := .fields #[rawInt 0, rawInt n, rawInt 1] } := by simp [itO]
  have nxlt : ∀ i m nx, J i m nx → (∀ p ∈ nx, p.1 < s.heap.objs.size) ∧ ∀ p ∈ nx, p.1 ≠ c := fun i m nx hJ => by
    have ha := hadr i m nx hJ
    constructor
    · intro p hp
      have : p.1 ∈ news.map (·.1) := ha ▸ List.mem_map_of_mem hp
      obtain ⟨q, hq, e⟩ := List.mem_map.mp this
      rw [← e]; exact hnI q hq
    · intro p hp
      have : p.1 ∈ news.map (·.1) := ha ▸ List.mem_map_of_mem hp
      obtain ⟨q, hq, e⟩ := List.mem_map.mp this
      rw [← e]; exact hcn q hq
  refine codeAny_forLoop (R := fun r s' => match r with | .ok f => Q f s' | .error e => cameBackBy (model prog w) A (envX cn cs L a ccd cl) E e s')
    (fun k s' => ∃ i h' tk m' oc' v' nx, k = n + 1 - i ∧ i ≤ n ∧ s' = { s with heap := h', toks := tk } ∧ Fr h₀ L h' m' ∧ News h₀ L h' ((s.heap.objs.size, itO n i) :: (c, oc') :: nx) ∧ oc'.data = .cell v' ∧ J i m' nx) ?_ (n + 1)
    ⟨0, s.heap.push (itO n 0), s.toks, m₀, oc, vc, news, rfl, Nat.zero_le _, by rw [e0], F.push _, N₀, hoc, hj⟩
  rintro k s' ⟨i, h', tk, m', oc', v', nx, rfl, hi, rfl, F', N', hoc', hJ⟩
  have hit : IsRangeIter h' s.heap.objs.size (i : Int) ((n : Int) - (i : Int)) 1 := (N' _ (.head _)).1
  obtain ⟨l1, l2⟩ := nxlt i m' nx hJ
  by_cases hlt : i < n
  · refine wpAny_pyNext_range_item hit (by omega) fun h₁ hit₁ hs₁ => ?_
    have F₁ : Fr h₀ L h₁ m' := F'.change hs₁ hIL hIn
    have hit₁' : h₁.get? s.heap.objs.size = some (itO n (i + 1)) := by
      have e1 : (i : Int) + 1 = ((i + 1 : Nat) : Int) := by omega
      have e2 : (n : Int) - (i : Int) - 1 = (n : Int) - ((i + 1 : Nat) : Int) := by omega
      rw [e1, e2] at hit₁
      exact hit₁
    have N₁ : News h₀ L h₁ ((s.heap.objs.size, itO n (i + 1)) :: (c, oc') :: nx) :=
      News.setIn (own := []) N' (fun _ hp => nomatch hp) (fun p hp => by
        rcases List.mem_cons.mp hp with rfl | hp
        · exact Nat.ne_of_lt hcI
        · exact Nat.ne_of_lt (l1 p hp)) hs₁ hit₁'
    refine wpAny_assign_Name (storeX_C F₁ N₁ hc (UpdF.tail (Nat.ne_of_gt hcI) (UpdF.head l2)) hoc' (fun h₂ oc₂ F₂ N₂ hd₂ => ?_) hk hx)
    refine wpAny_mono (wpAny_passesOwn hE (turn i m' nx _ h₂ (tk + 1) s.heap.objs.size (itO n (i + 1)) oc₂ hlt hJ hcI l1 hd₂ F₂ N₂)) (fun f s₃ q => ?_) fun _ _ e => e
    obtain ⟨rfl, h₃, tk₃, m₃, oc₃, v₃, nx₃, rfl, F₃, N₃, hd₃, hJ₃⟩ := q
    exact ⟨n + 1 - (i + 1), by omega, i + 1, h₃, tk₃, m₃, oc₃, v₃, nx₃, rfl, hlt, rfl, F₃, N₃, hd₃, hJ₃⟩
  · have hin : i = n := by omega
    subst hin
    refine wpAny_pyNext_range_end hh hit (by omega) fun h₁ he₁ => wpAny_execs_nil ?_
    have F₁ : Fr h₀ L h₁ m' := ⟨F'.ns.extBut he₁ (Ne.symm hIL), fun b o e => he₁ b o (fun q => by rw [q, hIn] at e; cases e) (F'.keep b o e), F'.above⟩
    refine done m' nx h₁ tk oc' v' hJ F₁ (fun p hp => ⟨he₁ p.1 p.2 ?_ (N' p (.tail _ hp)).1, (N' p (.tail _ hp)).2⟩) hoc'
    rcases List.mem_cons.mp hp with rfl | hp
    · exact Nat.ne_of_lt hcI
    · exact Nat.ne_of_lt (l1 p hp)
end
end Mine
end

section
open PySem PySem.W PyProof.Rows
namespace Mine

def restF (ns : List Int) (i j : Nat) : List Int := List.foldl (fun l' k' => if k' ≠ (i : Int) ∧ k' ≠ (j : Int) then l' ++ [ns.getD k'.toNat 0] else l') [] (rangeKs 0 ns.length) ++ [ns.getD (i : Int).toNat 0 + ns.getD (j : Int).toNat 0]
def minL : List Int → Int
  | [] => 0
  | a :: r => r.foldl min a
def valN (rec : List Int → Int) (ns : List Int) (i j : Nat) : Int := ns.getD i 0 + ns.getD j 0 + rec (restF ns i j)
def foundAt (rec : List Int → Int) (ns : List Int) (i j : Nat) : List Int := ((List.range i).flatMap fun a => (List.range a).map (valN rec ns a)) ++ (List.range j).map (valN rec ns i)
def cheapN : Nat → List Int → Int
  | 0, _ => 0
  | N + 1, ns => if ns.length < 2 then 0 else minL (foundAt (cheapN N) ns ns.length 0)

theorem foundAt_succ (rec : List Int → Int) (ns : List Int) (i j : Nat) : foundAt rec ns i (j + 1) = foundAt rec ns i j ++ [valN rec ns i j] := by
  unfold foundAt
  rw [List.range_succ, List.map_append, ← List.append_assoc]; rfl
theorem foundAt_next (rec : List Int → Int) (ns : List Int) (i : Nat) : foundAt rec ns (i + 1) 0 = foundAt rec ns i i := by
  unfold foundAt
  rw [List.range_succ, List.flatMap_append]
  simp
theorem foundAt_len0 (rec : List Int → Int) (ns : List Int) : ∀ i, i ≤ 5 → (foundAt rec ns i 0).length ≤ 5 * i
  | 0, _ => Nat.le_refl _
  | i + 1, h => by
    have ih := foundAt_len0 rec ns i (by omega)
    rw [foundAt_next]
    have e : (foundAt rec ns i i).length = (foundAt rec ns i 0).length + i := by
      unfold foundAt
      simp
    omega
theorem foundAt_len (rec : List Int → Int) (ns : List Int) (i j : Nat) (hi : i ≤ 5) (hj : j ≤ 5) : (foundAt rec ns i j).length < 1000 := by
  have h := foundAt_len0 rec ns i hi
  have e : (foundAt rec ns i j).length = (foundAt rec ns i 0).length + j := by
    unfold foundAt
    simp
  omega
theorem mem_foundAt {rec : List Int → Int} {ns : List Int} {n : Nat} {v : Int} : v ∈ foundAt rec ns n 0 ↔ ∃ i j, i < n ∧ j < i ∧ v = valN rec ns i j := by
  unfold foundAt
  simp only [List.range_zero, List.map_nil, List.append_nil, List.mem_flatMap, List.mem_range, List.mem_map]
  constructor
  · rintro ⟨i, hi, j, hj, rfl⟩; exact ⟨i, j, hi, hj, rfl⟩
  · rintro ⟨i, j, hi, hj, rfl⟩; exact ⟨i, hi, j, hj, rfl⟩
theorem foundAt_pos (rec : List Int → Int) (ns : List Int) {n : Nat} (h : 2 ≤ n) : 0 < (foundAt rec ns n 0).length :=
  List.length_pos_of_mem (mem_foundAt.mpr ⟨1, 0, by omega, by omega, rfl⟩)

theorem foldl_min_le (r : List Int) : ∀ a : Int, r.foldl min a ≤ a ∧ ∀ x ∈ r, r.foldl min a ≤ x := by
  induction r with
  | nil => intro a; exact ⟨Int.le_refl _, fun _ h => nomatch h⟩
  | cons b r ih =>
    intro a
    obtain ⟨h1, h2⟩ := ih (min a b)
    simp only [List.foldl_cons]
    refine ⟨by omega, fun x hx => ?_⟩
    rcases List.mem_cons.mp hx with rfl | hx
    · omega
    · exact h2 x hx
theorem foldl_min_mem (r : List Int) : ∀ a : Int, r.foldl min a ∈ a :: r := by
  induction r with
  | nil => intro a; exact .head _
  | cons b r ih =>
    intro a
    simp only [List.foldl_cons]
    have h := ih (min a b)
    rcases List.mem_cons.mp h with e | h
    · rw [e]
      by_cases hab : a ≤ b
      · rw [Int.min_eq_left hab]; exact .head _
      · rw [Int.min_eq_right (by omega)]; exact .tail _ (.head _)
    · exact .tail _ (.tail _ h)
theorem minL_mem {l : List Int} (h : 0 < l.length) : minL l ∈ l := by
  match l, h with
  | a :: r, _ => exact foldl_min_mem r a
theorem minL_le {l : List Int} {x : Int} (h : x ∈ l) : minL l ≤ x := by
  match l, h with
  | a :: r, h =>
    rcases List.mem_cons.mp h with rfl | h
    · exact (foldl_min_le r _).1
    · exact (foldl_min_le r _).2 x h
theorem minL_eq {l : List Int} {M : Int} (h1 : M ∈ l) (h2 : ∀ a, a ∈ l → M ≤ a) : minL l = M :=
  Int.le_antisymm (minL_le h1) (h2 _ (minL_mem (List.length_pos_of_mem h1)))

theorem foldl_filter (ns : List Int) (i j : Int) : ∀ (ks l : List Int), List.foldl (fun l' k' => if k' ≠ i ∧ k' ≠ j then l' ++ [ns.getD k'.toNat 0] else l') l ks = l ++ (ks.filter fun k => decide (k ≠ i ∧ k ≠ j)).map fun k => ns.getD k.toNat 0
  | [], l => by simp
  | k :: r, l => by
    rw [List.foldl_cons, foldl_filter ns i j r]
    by_cases h : k ≠ i ∧ k ≠ j
    · rw [if_pos h, List.filter_cons_of_pos (by simpa using h)]; simp
    · rw [if_neg h, List.filter_cons_of_neg (by simpa using h)]
def others (ns : List Int) (i j : Nat) : List Int := ((List.range ns.length).filter fun k => decide (k ≠ i ∧ k ≠ j)).map fun k => ns.getD k 0
theorem restF_eq (ns : List Int) (i j : Nat) : restF ns i j = others ns i j ++ [ns.getD i 0 + ns.getD j 0] := by
  unfold restF others
  rw [foldl_filter, List.nil_append]
  congr 1
  have e : rangeKs 0 ns.length = (List.range ns.length).map fun (k : Nat) => (k : Int) := by
    unfold rangeKs
    simp
  rw [e, List.filter_map, List.map_map]
  congr 1
  apply List.filter_congr
  intro k _
  simp only [Function.comp]
  congr 1
  apply propext
  omega
theorem map_getD (ns : List Int) : (List.range ns.length).map (fun k => ns.getD k 0) = ns := by
  apply List.ext_getElem
  · simp
  · intro k h1 h2
    simp [h2]
theorem range_perm {n i j : Nat} (hi : i < n) (hj : j < i) : (List.range n).Perm (i :: j :: (List.range n).filter fun k => decide (k ≠ i ∧ k ≠ j)) := by
  have h1 : (List.range n).Perm (i :: (List.range n).erase i) := List.perm_cons_erase (List.mem_range.mpr hi)
  have h2 : ((List.range n).erase i).Perm (j :: ((List.range n).erase i).erase j) := List.perm_cons_erase (by
    rw [List.Nodup.mem_erase_iff List.nodup_range]
    exact ⟨by omega, List.mem_range.mpr (by omega)⟩)
  have e : ((List.range n).erase i).erase j = (List.range n).filter fun k => decide (k ≠ i ∧ k ≠ j) := by
    rw [List.Nodup.erase_eq_filter (List.Nodup.erase _ List.nodup_range), List.Nodup.erase_eq_filter List.nodup_range, List.filter_filter]
    apply List.filter_congr
    intro k _
    simp only [ne_eq, Bool.decide_and, decide_not]
    rw [Bool.and_comm]
    rfl
  rw [e] at h2
  exact h1.trans (h2.cons _)
theorem others_perm {ns : List Int} {i j : Nat} (hi : i < ns.length) (hj : j < i) : ns.Perm (ns.getD i 0 :: ns.getD j 0 :: others ns i j) := by
  have h := (range_perm hi hj).map fun k => ns.getD k 0
  rw [map_getD] at h
  exact h
theorem restF_length {ns : List Int} {i j : Nat} (hi : i < ns.length) (hj : j < i) : (restF ns i j).length + 1 = ns.length := by
  have h := (others_perm hi hj).length_eq
  rw [restF_eq, List.length_append]
  simp only [List.length_cons, List.length_nil] at h ⊢
  omega
end Mine
end

section
open PySem PySem.W PyProof.Rows PySem.Spec PySem.Calls PyProof
namespace Mine

abbrev CClaim (w : World) (p : Program) (loose : List Str) (mean : ExcName → Option Value) (mg mb : Str → Option Value) (N : Nat) : Prop :=
  ∀ (l : Addr) (ws : List Value) (ns : List Int) (n : Nat) (rest : List (Addr × Obj)),
    LClaim PySem.Challenge.rw_xg0028_01.row.prog w (Mine.hd.heap_39 w.params) p loose mean mg mb 70 (4 * N) [] rest l ws ns n (ns.length < N ∧ ns.length ≤ 5) [.ref l] (fun t => .int (cheapN N ns) t) (fun _ => True)

theorem leN {a b : Nat} (h : a ≤ b) : a ≤ b := h
theorem ne_above {a b c : Nat} (h : a < b) (h2 : b ≤ c) : a ≠ c := Nat.ne_of_lt (Nat.lt_of_lt_of_le h h2)
theorem drop1 {h₀ h : Heap} {L : Addr} {x : Addr × Obj} {r : List (Addr × Obj)} (N : News h₀ L h (x :: r)) : News h₀ L h r := fun p hp => N p (.tail _ hp)

local macro_rules | `(tactic| walk_at "call ref") => `(tactic| k_extra "call ref")
theorem allLt_ne {d : Addr} {l : List (Addr × Obj)} (h : AllLt d l) : ∀ q ∈ l, q.1 ≠ d := fun q hq => Nat.ne_of_lt (ktn_ltOf h q hq)
local macro_rules | `(tactic| walk_at "exec For Name Call cons nil") => `(tactic| (k_here; k_dflt (refine wpAny_For ?_ (by intro _; rfl))))
theorem upd_of {d : Addr} {o o' : Obj} {post : List (Addr × Obj)} (h2 : ∀ p ∈ post, p.1 ≠ d) : ∀ pre : List (Addr × Obj), (∀ p ∈ pre, p.1 ≠ d) → Upd d o o' (pre ++ (d, o) :: post) (pre ++ (d, o') :: post)
  | [], _ => Upd.head h2
  | q :: r, h => Upd.tail (h q (.head _)) (upd_of h2 r fun p hp => h p (.tail _ hp))
theorem my_append {prog : Program} {w : World} {A : Around} {E : Value → Shared → Prop} {s : Shared} {h₀ : Heap} {L D : Addr} {m : Str → Option Value} {news : List (Addr × Obj)} {vs : List Value} {n : Nat} {x : Value} {Q : Value → Shared → Prop} (pre post : List (Addr × Obj))
    (F : Fr h₀ L s.heap m) (N : News h₀ L s.heap news) (hs : ∀ p ∈ pre ++ (D, W.listOf vs.toArray n) :: post, p ∈ news) (h1 : ∀ p ∈ pre, p.1 ≠ D) (h2 : ∀ p ∈ post, p.1 ≠ D) (hz : vs.length < 1000)
    (h : ∀ h', Fr h₀ L h' m → News h₀ L h' (pre ++ (D, W.listOf (vs ++ [x]).toArray (n + 1)) :: post) → Q .none { s with heap := h' }) : wpAny (model prog w) A (call (.builtin "list.append") [.ref D, x]) Q E s := by
  have e : vs.toArray.push x = (vs ++ [x]).toArray := by simp
  refine append_K F (cb_drop N hs) (upd_of h2 pre h1) ?_ ?_
  · intro h' F' N'
    rw [e] at N'
    exact h h' F' N'
  · rw [PySem.sizeLine_eq, List.size_toArray]; omega
theorem mapRest (x y : Option Value) (f : Str → Option Value) : (fun z => if z = Str.ofString "rest" then x else if z = Str.ofString "rest" then y else f z) = fun z => if z = Str.ofString "rest" then x else f z := by
  funext z
  by_cases h : z = Str.ofString "rest"
  · rw [if_pos h, if_pos h]
  · rw [if_neg h, if_neg h, if_neg h]
theorem idx5 {k : Int} {n : Nat} (h : k < 0 + (n : Int)) : k < n := by omega
theorem idx63 {k : Int} {n : Nat} (hn : n ≤ 5) (h : k < n) : k < 2 ^ 63 := by omega
local macro_rules | `(tactic| walk_at "subscriptTail Name Name ref int") => `(tactic| (k_here; k_dflt (refine' ksa_sub ?k1 ?k2 ?k3 ?k4 ?k5 ?k6 ?_ ?k7; (case k1 => k_asm); (case k2 => k_mem); (case k3 => with_reducible assumption); (case k4 => with_reducible assumption); (case k5 => with_reducible (first | assumption | exact idx5 (by assumption))); (case k6 => with_reducible exact idx63 (by assumption) (by first | assumption | exact idx5 (by assumption))); (case k7 => with_unfolding_all rfl); k_whole); intro _))
theorem rangeLen (n : Nat) : Builtin.Range.rangeSize 0 n 1 = (n : Int) := by
  unfold Builtin.Range.rangeSize
  simp only [show (1 : Int) > 0 by decide, if_true, Int.ediv_one]
  split <;> omega
theorem smallLen {n : Nat} (h : n ≤ 5) : Builtin.Range.small 0 n 1 = true := small_one (by omega) (by omega) (by omega) (by omega)
theorem sizeLen {n : Nat} (h : n ≤ 5) : n ≤ sizeLine := by rw [PySem.sizeLine_eq]; omega
local macro_rules | `(tactic| walk_at "eval ListComp") => `(tactic| (k_here; k_dflt (refine LCt.ListComp_T (F₀ := by k_asm) (by with_unfolding_all rfl) (by decide) (by rfl) (by decide) (by rfl) ?_)))
local macro_rules | `(tactic| walk_at "CompSrcT") => `(tactic| k_extra "CompSrcT")
local macro_rules | `(tactic| walk_at "CompEnd") => `(tactic| (k_dflt (refine LCg.CompEnd.intro (by assumption) (by assumption) _ (fun p hp => hp) (by assumption) True.intro ?_)))
local macro_rules | `(tactic| walk_at "KCiEl") => `(tactic| (refine kci_el (if_pos (And.intro (by assumption) (by assumption))) rfl rfl))
local macro_rules | `(tactic| walk_at "KCiNo") => `(tactic| (refine kci_no (if_neg (fun h => ?_)) rfl; first | exact absurd (by assumption) h.1 | exact absurd (by assumption) h.2))
local macro_rules | `(tactic| walk_at "call builtin:list.append") => `(tactic| k_extra "call builtin:list.append")
set_option maxRecDepth 100000 in
set_option maxHeartbeats 700000 in
theorem cheap_step (w : World) (p : Program) (loose : List Str) (mean : ExcName → Option Value) (mg mb : Str → Option Value) (N : Nat) (ih : CClaim w p loose mean mg mb N) : CClaim w p loose mean mg mb (N + 1) := by
  dsimp only [CClaim]
  k_fill
  k_with_none
  w_top off
  dsimp only [LClaim, LRet, List.nil_append]
  intro l ws ns n rest dp un gd cn cs fa ccd cl outer A₀ base h₀ L m s Q E B F KX Nw T hk hne hI hpre hd hu hret
  obtain ⟨hn, hn5⟩ := hpre
  refine wpAny_call ?_
  k_dflt (refine' code_defC ?k1 ?k2 ?k3 ?k4 ?k5 ?kA ?kF ?kK ?k6 ?k7 ?k8 ?k9 ?kB ?kD ?_ ?c2 ?c3 ?c4; (case kA => exact rfl); (case kF => exact rfl); (case kK => assumption); (case k1 => k_asm); (case k2 => k_asm); (case k3 => k_asm); (case k4 => k_asm); (case k5 => k_asm); (case k6 => k_is); (case k7 => k_is); (case k8 => (first | omega | ktr_room)); (case k9 => exact BindsTo.of_eq rfl); (case kB => exact rfl); (case kD => decide +kernel); (case c2 => exact rfl); (case c3 => exact rfl); (case c4 => exact rfl); k_whole; intro g' L' h' tk' cells' FG' F' N' Y' B' X' T' l1; k_cells Y'; (try simp only [List.cons_append, List.nil_append] at N'); (try dsimp only); (try k_lift B'); (try k_fold))
  rename_i oJ oI oR dJ dI dR
  have dJ0 : oJ.data = .cell none := dJ
  have dI0 : oI.data = .cell none := dI
  have dR0 : oR.data = .cell (some (.ref l)) := dR
  clear dJ dI dR
  have F2 : ∃ mB, Fr g' L' h' mB := ⟨_, F'⟩
  clear F'
  obtain ⟨mB, F'⟩ := F2
  k_steps
  · have e : cheapN (N + 1) ns = 0 := if_pos (by omega)
    rw [e] at hret
    exact hret _ _ _ n ws ns (by assumption) (drop1 (drop1 (drop1 (by assumption)))) hI trivial
  rename_i _ _ lf _ la _ _ _ _ _ _ _ _ _ _ _ _
  rename IsRange _ _ _ _ _ _ _ _ => rg
  rename Fr _ _ _ _ => lF
  rename News _ _ _ _ => lN
  have hmB : (fun y => if y = Str.ofString "found" then some (Value.ref lf) else mB y) = (fun y => if y = Str.ofString "rest" then mB (Str.ofString "rest") else if y = Str.ofString "found" then some (Value.ref lf) else mB y) := by
    funext y
    by_cases hy : y = Str.ofString "rest"
    · subst hy; rfl
    · rw [if_neg hy]
  rw [hmB] at lF
  refine cell_loop (c := L' + 1 + 1) (n := ns.length) (oc := oI) (news := [(lf, W.listOf #[] 0), (L' + 1 + 1 + 1, oJ), (L' + 1, oR)] ++ (l, W.listOf ws.toArray n) :: rest)
    (fun i m nx => ∃ oj vj wf ef, nx = (lf, W.listOf (wf : List Value).toArray ef) :: (L' + 1 + 1 + 1, oj) :: (L' + 1, oR) :: (l, W.listOf ws.toArray n) :: rest ∧ oj.data = .cell vj ∧ IntsAre wf (foundAt (cheapN N) ns i 0) ∧
      ∃ u, m = (fun y => if y = Str.ofString "rest" then u else if y = Str.ofString "found" then some (Value.ref lf) else mB y))
    rfl rfl rfl rfl rg (by omega) lF (cb_drop lN (by intro q hq; simp only [List.mem_cons, List.cons_append, List.nil_append] at hq ⊢; grind)) dI0 ?_ ⟨oJ, _, [], 0, rfl, dJ0, .nil, _, rfl⟩ (by rintro i m nx ⟨_, _, _, _, rfl, _⟩; rfl) ?_ ?_ (by with_unfolding_all passes_own)
  · intro q hq
    simp only [List.mem_cons, List.cons_append, List.nil_append] at hq
    rcases hq with rfl | rfl | rfl | rfl | hq
    · k_ne
    · k_ne
    · k_ne
    · exact ne_above (l1 _ (List.mem_cons_self)) (by refine leN ?_; omega)
    · exact ne_above (l1 _ (List.mem_cons_of_mem _ hq)) (by refine leN ?_; omega)
  · rintro i m₁ nx t h tk I it oc' hi ⟨oj, vj, wf, ef, rfl, hoj, hwf, u, rfl⟩ hcI hnxI hoc' F1 N1
    clear lF lN
    k_steps
    rename IsRange _ _ _ _ _ _ _ _ => rg
    rename Fr _ _ _ _ => lF
    rename News _ _ _ _ => lN
    refine cell_loop (c := L' + 1 + 1 + 1) (n := i) (oc := oj) (news := [(I, it), (L' + 1 + 1, oc'), (lf, W.listOf wf.toArray ef), (L' + 1, oR)] ++ (l, W.listOf ws.toArray n) :: rest)
      (fun j m nx => ∃ wf' ef', nx = (I, it) :: (L' + 1 + 1, oc') :: (lf, W.listOf (wf' : List Value).toArray ef') :: (L' + 1, oR) :: (l, W.listOf ws.toArray n) :: rest ∧ IntsAre wf' (foundAt (cheapN N) ns i j) ∧
        ∃ u, m = (fun y => if y = Str.ofString "rest" then u else if y = Str.ofString "found" then some (Value.ref lf) else mB y))
      rfl rfl rfl rfl rg (by omega) lF (cb_drop lN (by intro q hq; simp only [List.mem_cons, List.cons_append, List.nil_append] at hq ⊢; grind)) hoj ?_ ⟨wf, ef, rfl, hwf, _, rfl⟩ (by rintro i m nx ⟨_, _, rfl, _⟩; rfl) ?_ ?_ (by with_unfolding_all passes_own)
    · intro q hq
      simp only [List.mem_cons, List.cons_append, List.nil_append] at hq
      have hI3 : @LT.lt Nat _ (L' + 1 + 1 + 1) I := hnxI _ (.tail _ (.head _))
      rcases hq with rfl | rfl | rfl | rfl | rfl | hq
      · k_ne
      · k_ne
      · k_ne
      · k_ne
      · exact ne_above (l1 _ (List.mem_cons_self)) (by refine leN ?_; omega)
      · exact ne_above (l1 _ (List.mem_cons_of_mem _ hq)) (by refine leN ?_; omega)
    · rintro j m₂ nx2 t2 h2 tk2 I2 it2 oc2 hj ⟨wf', ef', rfl, hwf', u', rfl⟩ hcI2 hnx2 hoc2 F2 N2
      clear lF lN
      k_with "CompSrcT" => (k_dflt (refine LCt.CompSrcT.range (by rfl) (by k_asm) (by k_asm) (by assumption) (smallLen hn5) (rangeLen _) (sizeLen hn5) ?_); intro g9; (refine' kci_range (fun l' k' => if k' ≠ (i:Int) ∧ k' ≠ (j:Int) then l' ++ [ns.getD k'.toNat 0] else l') (fun k' t' I' oI' C' oC' D' m' ys' l' h' tk' E' hlo' hhi' hI' hC' hx' F' N' off' ne' hM' => ?_) ?_ ?_))
      have hrl := restF_length hi hj
      have hkp : (restF ns i j).length < N ∧ (restF ns i j).length ≤ 5 := by omega
      have hd1 : dp + 1 + 4 * N < recursionLimit := by omega
      have hu1 : un + 3 + 8 * (4 * N) < cLine := by omega
      k_with "call ref" => (
        (k_dflt (refine' (ih _ _ (restF ns i j) _ _) _ _ _ _ _ _ _ _ _ _ _ _ _ _ _ _ _ ?k1 ?k2 ?k3 ?k4 ?k5 ?kK ?kn ?kI ?kp ?kd ?ku ?_));
        (case k1 => k_asm); (case k2 => k_asm); (case k3 => k_asm); (case k4 => k_asm); (case k5 => k_asm); (case kK => exact rfl); (case kn => exact allLt_ne (by assumption)); (case kI => assumption); (case kp => exact hkp); (case kd => exact hd1); (case ku => exact hu1);
        intro t9 h9 tk9 n9 ws9 ns9 F9 N9 I9 hp9; (try dsimp only [List.nil_append] at N9); (try k_fold))
      have hpre : ∀ p ∈ [(I2, it2), (L' + 1 + 1 + 1, oc2), (I, it), (L' + 1 + 1, oc')], p.1 ≠ lf := by
        have b1 : @LT.lt Nat _ lf I2 := hnx2 (lf, _) (.tail _ (.tail _ (.head _)))
        have b2 : @LT.lt Nat _ lf I := hnxI (lf, _) (.head _)
        intro q hq
        simp only [List.mem_cons, List.not_mem_nil, or_false] at hq
        rcases hq with rfl | rfl | rfl | rfl <;> k_ne
      have hpost : ∀ p ∈ (L' + 1, oR) :: (l, W.listOf ws.toArray n) :: rest, p.1 ≠ lf := by
        intro q hq
        simp only [List.mem_cons] at hq
        rcases hq with rfl | rfl | hq
        · k_ne
        · k_ne
        · exact allLt_ne la.2.2.2.2 q hq
      have hwl : wf'.length < 1000 := by rw [hwf'.length]; exact foundAt_len _ _ _ _ (by omega) (by omega)
      k_with "call builtin:list.append" => (
        (k_dflt (refine' my_append [(I2, it2), (L' + 1 + 1 + 1, oc2), (I, it), (L' + 1 + 1, oc')] ((L' + 1, oR) :: (l, W.listOf ws.toArray n) :: rest) ?F ?N ?s hpre hpost hwl ?_));
        (case F => k_asm); (case N => k_asm); (case s => exact fun q hq => .tail _ (.tail _ (.tail _ hq))); intro h9 F9 N9; (try dsimp only [List.nil_append, List.cons_append] at N9); (try k_fold))
      have hi0 : (0 : Int) ≤ (i : Int) := Int.natCast_nonneg _
      have hj0 : (0 : Int) ≤ (j : Int) := Int.natCast_nonneg _
      have hin : (i : Int) < (ns.length : Int) := Int.ofNat_lt.mpr hi
      have hjn : (j : Int) < (ns.length : Int) := Int.ofNat_lt.mpr (Nat.lt_trans hj hi)
      k_steps
      refine ⟨rfl, h9, _, _, oc2, _, _, rfl, F9, N9, hoc2, ⟨_, _, rfl, ?_, _, mapRest _ _ _⟩⟩
      rw [foundAt_succ]
      exact IntsAre.append hwf' (.cons _ _ .nil)
    · rintro m₂ nx2 h2 tk2 oc2 v2 ⟨wf', ef', rfl, hwf', u', rfl⟩ F2 N2 hoc2
      clear lF lN
      k_steps
      refine ⟨rfl, h2, tk2, _, oc', _, (lf, W.listOf wf'.toArray ef') :: (L' + 1 + 1 + 1, oc2) :: (L' + 1, oR) :: (l, W.listOf ws.toArray n) :: rest, rfl, F2, cb_drop N2 (by intro q hq; simp only [List.mem_cons] at hq ⊢; grind), hoc', oc2, _, _, _, rfl, hoc2, ?_, _, rfl⟩
      rw [foundAt_next]
      exact hwf'
  · rintro m₁ nx h tk oc' v' ⟨oj, vj, wf, ef, rfl, hoj, hwf, u, rfl⟩ F1 N1 hoc'
    clear lF lN
    have hpos : 0 < (foundAt (cheapN N) ns ns.length 0).length := foundAt_pos _ _ (by omega)
    k_steps
    rename _ ∈ foundAt _ _ _ _ => hM1
    rename ∀ a, a ∈ foundAt _ _ _ _ → _ => hM2
    have e : cheapN (N + 1) ns = _ := (if_neg (by omega)).trans (minL_eq hM1 hM2)
    rw [e] at hret
    exact hret _ _ _ n ws ns (by assumption) (cb_drop (by assumption) (by intro q hq; simp only [List.mem_cons] at hq ⊢; grind)) hI trivial
end Mine
namespace Mine
theorem cheap_all (w : World) (p : Program) (loose : List Str) (mean : ExcName → Option Value) (mg mb : Str → Option Value) : ∀ N, CClaim w p loose mean mg mb N
  | 0 => fun l ws ns n rest dp un gd cn cs fa ccd cl outer A₀ base h₀ L m s Q E B F KX Nw T hk hne hI hpre => absurd hpre.1 (Nat.not_lt_zero _)
  | N + 1 => cheap_step w p loose mean mg mb N (cheap_all w p loose mean mg mb N)
end Mine
end

section
open PySem PySem.W PyProof.Rows
namespace Mine
def IsHeap (h : List Int) : Prop := ∀ i, 0 < i → i < h.length → h.getD ((i-1)/2) 0 ≤ h.getD i 0

theorem ih1 {a : Int} : IsHeap [a] := by
  intro i h0 h1
  simp only [List.length_cons, List.length_nil] at h1
  omega
theorem ih2 {a b : Int} : IsHeap [a, b] ↔ a ≤ b := by
  constructor
  · intro h
    exact h 1 (by decide) (by simp)
  · intro h i h0 h1
    match i, h0, h1 with
    | 1, _, _ => exact h
theorem ih3 {a b c : Int} : IsHeap [a, b, c] ↔ a ≤ b ∧ a ≤ c := by
  constructor
  · intro h
    exact ⟨h 1 (by decide) (by simp), h 2 (by decide) (by simp)⟩
  · intro h i h0 h1
    match i, h0, h1 with
    | 1, _, _ => exact h.1
    | 2, _, _ => exact h.2
theorem ih4 {a b c d : Int} : IsHeap [a, b, c, d] ↔ a ≤ b ∧ a ≤ c ∧ b ≤ d := by
  constructor
  · intro h
    exact ⟨h 1 (by decide) (by simp), h 2 (by decide) (by simp), h 3 (by decide) (by simp)⟩
  · intro h i h0 h1
    match i, h0, h1 with
    | 1, _, _ => exact h.1
    | 2, _, _ => exact h.2.1
    | 3, _, _ => exact h.2.2
theorem ih5 {a b c d e : Int} : IsHeap [a, b, c, d, e] ↔ a ≤ b ∧ a ≤ c ∧ b ≤ d ∧ b ≤ e := by
  constructor
  · intro h
    exact ⟨h 1 (by decide) (by simp), h 2 (by decide) (by simp), h 3 (by decide) (by simp), h 4 (by decide) (by simp)⟩
  · intro h i h0 h1
    match i, h0, h1 with
    | 1, _, _ => exact h.1
    | 2, _, _ => exact h.2.1
    | 3, _, _ => exact h.2.2.1
    | 4, _, _ => exact h.2.2.2

theorem push_spec {h : List Int} {x : Int} (hh : IsHeap h) (hl : h.length ≤ 4) : IsHeap (pushF x h) ∧ (pushF x h).Perm (x :: h) := by
  match h, hl, hh with
  | [], _, _ => exact ⟨by simp [pushF, sdF]; exact ih1, by simp [pushF, sdF]⟩
  | [a], _, _ =>
    simp [pushF, sdF]
    split
    · exact ⟨ih2.mpr (by omega), by apply List.perm_iff_count.mpr; intro z; simp [List.count_cons]⟩
    · exact ⟨ih2.mpr (by omega), by apply List.perm_iff_count.mpr; intro z; simp [List.count_cons]; omega⟩
  | [a, b], _, hh =>
    rw [ih2] at hh
    simp [pushF, sdF]
    (repeat' split) <;> exact ⟨ih3.mpr (by omega), by apply List.perm_iff_count.mpr; intro z; simp [List.count_cons]; try omega⟩
  | [a, b, c], _, hh =>
    rw [ih3] at hh
    simp [pushF, sdF]
    (repeat' split) <;> exact ⟨ih4.mpr (by omega), by apply List.perm_iff_count.mpr; intro z; simp [List.count_cons]; try omega⟩
  | [a, b, c, d], _, hh =>
    rw [ih4] at hh
    simp [pushF, sdF]
    (repeat' split) <;> exact ⟨ih5.mpr (by omega), by apply List.perm_iff_count.mpr; intro z; simp [List.count_cons]; try omega⟩

theorem suF_leaf {h : List Int} {p : Nat} (h1 : h.length ≤ 2*p+1) : suF h p = (h, p) := by rw [suF.eq_def, if_neg (by omega)]
theorem suF_r {h : List Int} {p : Nat} (h1 : 2*p+2 < h.length) (h2 : ¬ h.getD (2*p+1) 0 < h.getD (2*p+2) 0) : suF h p = suF (h.set p (h.getD (2*p+2) 0)) (2*p+2) := by rw [suF.eq_def, if_pos (by omega), if_pos ⟨h1, h2⟩]
theorem suF_l {h : List Int} {p : Nat} (h1 : 2*p+1 < h.length) (h2 : 2*p+2 < h.length → h.getD (2*p+1) 0 < h.getD (2*p+2) 0) : suF h p = suF (h.set p (h.getD (2*p+1) 0)) (2*p+1) := by
  rw [suF.eq_def, if_pos h1, if_neg (fun q => q.2 (h2 q.1))]
theorem suT_of {h h' : List Int} {p q : Nat} (e : suF h p = (h', q)) : suT h p = sdF (h.getD p 0) p (h'.set q (h.getD p 0)) q := by unfold suT; rw [e]

theorem su0_1 {x : Int} : suT [x] 0 = [x] := by
  rw [suT_of (suF_leaf (by simp))]; simp [sdF]
theorem su0_spec {h : List Int} (h0 : 0 < h.length) (hl : h.length ≤ 5) (h3 : 3 < h.length → h.getD 1 0 ≤ h.getD 3 0) (h4 : 4 < h.length → h.getD 1 0 ≤ h.getD 4 0) : IsHeap (suT h 0) ∧ (suT h 0).Perm h := by
  match h, h0, hl, h3, h4 with
  | [a], _, _, _, _ => exact ⟨by rw [su0_1]; exact ih1, by rw [su0_1]⟩
  | [a, b], _, _, _, _ =>
    rw [suT_of ((suF_l (h := [a, b]) (p := 0) (by simp) (by simp)).trans (suF_leaf (by simp)))]
    simp [sdF]
    (repeat' split) <;> exact ⟨ih2.mpr (by omega), by apply List.perm_iff_count.mpr; intro z; simp [List.count_cons]; try omega⟩
  | [a, b, c], _, _, _, _ =>
    by_cases hbc : b < c
    · rw [suT_of ((suF_l (h := [a, b, c]) (p := 0) (by simp) (fun _ => hbc)).trans (suF_leaf (by simp)))]
      simp [sdF]
      (repeat' split) <;> exact ⟨ih3.mpr (by omega), by apply List.perm_iff_count.mpr; intro z; simp [List.count_cons]; try omega⟩
    · rw [suT_of ((suF_r (h := [a, b, c]) (p := 0) (by simp) hbc).trans (suF_leaf (by simp)))]
      simp [sdF]
      (repeat' split) <;> exact ⟨ih3.mpr (by omega), by apply List.perm_iff_count.mpr; intro z; simp [List.count_cons]; try omega⟩
  | [a, b, c, d], _, _, h3, _ =>
    have h3' : b ≤ d := h3 (by simp)
    clear h3
    by_cases hbc : b < c
    · rw [suT_of (((suF_l (h := [a, b, c, d]) (p := 0) (by simp) (fun _ => hbc)).trans (suF_l (by simp) (by simp))).trans (suF_leaf (by simp)))]
      simp [sdF]
      (repeat' split) <;> exact ⟨ih4.mpr (by omega), by apply List.perm_iff_count.mpr; intro z; simp [List.count_cons]; try omega⟩
    · rw [suT_of ((suF_r (h := [a, b, c, d]) (p := 0) (by simp) hbc).trans (suF_leaf (by simp)))]
      simp [sdF]
      (repeat' split) <;> exact ⟨ih4.mpr (by omega), by apply List.perm_iff_count.mpr; intro z; simp [List.count_cons]; try omega⟩
  | [a, b, c, d, e], _, _, h3, h4 =>
    have h3' : b ≤ d := h3 (by simp)
    have h4' : b ≤ e := h4 (by simp)
    clear h3 h4
    by_cases hbc : b < c
    · by_cases hde : d < e
      · rw [suT_of (((suF_l (h := [a, b, c, d, e]) (p := 0) (by simp) (fun _ => hbc)).trans (suF_l (by simp) (fun _ => hde))).trans (suF_leaf (by simp)))]
        simp [sdF]
        (repeat' split) <;> exact ⟨ih5.mpr (by omega), by apply List.perm_iff_count.mpr; intro z; simp [List.count_cons]; try omega⟩
      · rw [suT_of (((suF_l (h := [a, b, c, d, e]) (p := 0) (by simp) (fun _ => hbc)).trans (suF_r (by simp) hde)).trans (suF_leaf (by simp)))]
        simp [sdF]
        (repeat' split) <;> exact ⟨ih5.mpr (by omega), by apply List.perm_iff_count.mpr; intro z; simp [List.count_cons]; try omega⟩
    · rw [suT_of ((suF_r (h := [a, b, c, d, e]) (p := 0) (by simp) hbc).trans (suF_leaf (by simp)))]
      simp [sdF]
      (repeat' split) <;> exact ⟨ih5.mpr (by omega), by apply List.perm_iff_count.mpr; intro z; simp [List.count_cons]; try omega⟩

theorem heap_head {h : List Int} (hh : IsHeap h) (hl : h.length ≤ 5) : ∀ x ∈ h, h.getD 0 0 ≤ x := by
  match h, hl, hh with
  | [], _, _ => intro x hx; nomatch hx
  | [a], _, _ => simp
  | [a, b], _, hh => rw [ih2] at hh; simp; omega
  | [a, b, c], _, hh => rw [ih3] at hh; simp; omega
  | [a, b, c, d], _, hh => rw [ih4] at hh; simp; omega
  | [a, b, c, d, e], _, hh => rw [ih5] at hh; simp; omega

theorem pop_spec {h : List Int} (hh : IsHeap h) (h0 : 0 < h.length) (hl : h.length ≤ 5) : IsHeap (popF h) ∧ h.Perm (h.getD 0 0 :: popF h) := by
  match h, h0, hl, hh with
  | [a], _, _, _ => exact ⟨fun i h0 h1 => by simp [popF] at h1, by simp [popF]⟩
  | [a, b], _, _, hh =>
    have hp : popF [a, b] = suT [b] 0 := rfl
    obtain ⟨q1, q2⟩ := su0_spec (h := [b]) (by simp) (by simp) (by simp) (by simp)
    rw [hp]
    exact ⟨q1, ((q2.cons a).symm)⟩
  | [a, b, c], _, _, hh =>
    have hp : popF [a, b, c] = suT [c, b] 0 := rfl
    obtain ⟨q1, q2⟩ := su0_spec (h := [c, b]) (by simp) (by simp) (by simp) (by simp)
    rw [hp]
    refine ⟨q1, List.Perm.trans ?_ ((q2.cons a).symm)⟩
    apply List.perm_iff_count.mpr; intro z; simp [List.count_cons]; omega
  | [a, b, c, d], _, _, hh =>
    have hp : popF [a, b, c, d] = suT [d, b, c] 0 := rfl
    obtain ⟨q1, q2⟩ := su0_spec (h := [d, b, c]) (by simp) (by simp) (by simp) (by simp)
    rw [hp]
    refine ⟨q1, List.Perm.trans ?_ ((q2.cons a).symm)⟩
    apply List.perm_iff_count.mpr; intro z; simp [List.count_cons]; omega
  | [a, b, c, d, e], _, _, hh =>
    have hp : popF [a, b, c, d, e] = suT [e, b, c, d] 0 := rfl
    rw [ih5] at hh
    obtain ⟨q1, q2⟩ := su0_spec (h := [e, b, c, d]) (by simp) (by simp) (fun _ => hh.2.2.1) (by simp)
    rw [hp]
    refine ⟨q1, List.Perm.trans ?_ ((q2.cons a).symm)⟩
    apply List.perm_iff_count.mpr; intro z; simp [List.count_cons]; omega

theorem repl_spec {h : List Int} {x : Int} (hh : IsHeap h) (h0 : 0 < h.length) (hl : h.length ≤ 5) : IsHeap (replF x h) ∧ (h.getD 0 0 :: replF x h).Perm (x :: h) := by
  have key : ∀ a t, h = a :: t → IsHeap (replF x h) ∧ (h.getD 0 0 :: replF x h).Perm (x :: h) := by
    rintro a t rfl
    have hp : replF x (a :: t) = suT (x :: t) 0 := rfl
    have h3 : 3 < (x :: t).length → (x :: t).getD 1 0 ≤ (x :: t).getD 3 0 := fun q => hh 3 (by decide) q
    have h4 : 4 < (x :: t).length → (x :: t).getD 1 0 ≤ (x :: t).getD 4 0 := fun q => hh 4 (by decide) q
    obtain ⟨q1, q2⟩ := su0_spec (h := x :: t) (by simp) hl h3 h4
    rw [hp]
    exact ⟨q1, ((q2.cons a).trans (List.Perm.swap x a t))⟩
  match h, h0 with
  | a :: t, _ => exact key a t rfl

theorem hfy_spec {h : List Int} (hl : h.length ≤ 5) : IsHeap (hfyF h) ∧ (hfyF h).Perm h := by
  match h, hl with
  | [], _ => exact ⟨fun i h0 h1 => by simp [hfyF, hfyI] at h1, by simp [hfyF, hfyI]⟩
  | [a], _ => exact ⟨by simp [hfyF, hfyI]; exact ih1, by simp [hfyF, hfyI]⟩
  | [a, b], _ =>
    have hp : hfyF [a, b] = suT [a, b] 0 := by simp [hfyF, hfyI]
    rw [hp]
    exact su0_spec (by simp) (by simp) (by simp) (by simp)
  | [a, b, c], _ =>
    have hp : hfyF [a, b, c] = suT [a, b, c] 0 := by simp [hfyF, hfyI]
    rw [hp]
    exact su0_spec (by simp) (by simp) (by simp) (by simp)
  | [a, b, c, d], _ =>
    have hp : hfyF [a, b, c, d] = suT (suT [a, b, c, d] 1) 0 := by simp [hfyF, hfyI]
    rw [hp]
    have e : suT [a, b, c, d] 1 = if b < d then [a, b, c, d] else [a, d, c, b] := by
      rw [suT_of ((suF_l (h := [a, b, c, d]) (p := 1) (by simp) (by simp)).trans (suF_leaf (by simp)))]
      simp [sdF]
    rw [e]
    split
    · exact su0_spec (by simp) (by simp) (fun _ => by simp; omega) (by simp)
    · obtain ⟨q1, q2⟩ := su0_spec (h := [a, d, c, b]) (by simp) (by simp) (fun _ => by simp; omega) (by simp)
      refine ⟨q1, q2.trans ?_⟩
      apply List.perm_iff_count.mpr; intro z; simp [List.count_cons]; omega
  | [a, b, c, d, e], _ =>
    have hp : hfyF [a, b, c, d, e] = suT (suT [a, b, c, d, e] 1) 0 := by simp [hfyF, hfyI]
    rw [hp]
    have key : ∃ b' d' e', suT [a, b, c, d, e] 1 = [a, b', c, d', e'] ∧ b' ≤ d' ∧ b' ≤ e' ∧ [a, b', c, d', e'].Perm [a, b, c, d, e] := by
      by_cases hde : d < e
      · rw [suT_of ((suF_l (h := [a, b, c, d, e]) (p := 1) (by simp) (fun _ => hde)).trans (suF_leaf (by simp)))]
        simp [sdF]
        split
        · exact ⟨b, d, e, rfl, by omega, by omega, .refl _⟩
        · exact ⟨d, b, e, rfl, by omega, by omega, by apply List.perm_iff_count.mpr; intro z; simp [List.count_cons]; omega⟩
      · rw [suT_of ((suF_r (h := [a, b, c, d, e]) (p := 1) (by simp) hde).trans (suF_leaf (by simp)))]
        simp [sdF]
        split
        · exact ⟨b, d, e, rfl, by omega, by omega, .refl _⟩
        · exact ⟨e, d, b, rfl, by omega, by omega, by apply List.perm_iff_count.mpr; intro z; simp [List.count_cons]; omega⟩
    obtain ⟨b', d', e', e1, k1, k2, k3⟩ := key
    rw [e1]
    obtain ⟨q1, q2⟩ := su0_spec (h := [a, b', c, d', e']) (by simp) (by simp) (fun _ => k1) (fun _ => k2)
    exact ⟨q1, q2.trans k3⟩
end Mine
end

section
open PySem PySem.W PyProof.Rows
namespace Mine

/-- the costs of all ways to join two by two till one is left -/
inductive Cost : List Int → Int → Prop where
  | base {l : List Int} (h : l.length < 2) : Cost l 0
  | step {l O : List Int} {x y c : Int} (p : l.Perm (x :: y :: O)) (h : Cost ((x + y) :: O) c) : Cost l (x + y + c)
theorem Cost.perm {l l' : List Int} {c : Int} (h : Cost l c) (p : l.Perm l') : Cost l' c := by
  cases h with
  | base h => exact .base (by rw [← p.length_eq]; exact h)
  | step q h => exact .step (p.symm.trans q) h

theorem pair_at {l O : List Int} {x y : Int} (p : l.Perm (x :: y :: O)) : ∃ i j, i < l.length ∧ j < i ∧ ((l.getD i 0 = x ∧ l.getD j 0 = y) ∨ (l.getD i 0 = y ∧ l.getD j 0 = x)) ∧ (others l i j).Perm O := by
  have hx : x ∈ l := p.mem_iff.mpr (.head _)
  obtain ⟨a, ha, hax⟩ := List.getElem_of_mem hx
  have p1 : l.Perm (x :: l.eraseIdx a) := by
    have e : l = l.take a ++ x :: l.drop (a + 1) := by
      rw [← hax, List.getElem_cons_drop, List.take_append_drop]
    rw [List.eraseIdx_eq_take_drop_succ]
    exact (List.Perm.of_eq e).trans List.perm_middle
  have p2 : (l.eraseIdx a).Perm (y :: O) := List.Perm.cons_inv (p1.symm.trans p)
  have hy : y ∈ l.eraseIdx a := p2.mem_iff.mpr (.head _)
  obtain ⟨b, hb, hba, hby⟩ := List.mem_eraseIdx_iff_getElem.mp hy
  have hga : l.getD a 0 = x := by rw [List.getD_eq_getElem?_getD, List.getElem?_eq_getElem ha, hax]; rfl
  have hgb : l.getD b 0 = y := by rw [List.getD_eq_getElem?_getD, List.getElem?_eq_getElem hb, hby]; rfl
  rcases Nat.lt_or_gt_of_ne hba with hlt | hlt
  · refine ⟨a, b, ha, hlt, .inl ⟨hga, hgb⟩, ?_⟩
    have q := others_perm ha hlt
    rw [hga, hgb] at q
    exact List.Perm.cons_inv (List.Perm.cons_inv (q.symm.trans p))
  · refine ⟨b, a, hb, hlt, .inr ⟨hgb, hga⟩, ?_⟩
    have q := others_perm hb hlt
    rw [hga, hgb] at q
    exact List.Perm.cons_inv (List.Perm.cons_inv ((q.symm.trans p).trans (List.Perm.swap y x O)))

theorem cheapN_best : ∀ (N : Nat) (l : List Int), l.length < N → Cost l (cheapN N l) ∧ ∀ c, Cost l c → cheapN N l ≤ c
  | 0, l, h => absurd h (Nat.not_lt_zero _)
  | N + 1, l, h => by
    by_cases h2 : l.length < 2
    · have e : cheapN (N + 1) l = 0 := if_pos h2
      rw [e]
      refine ⟨.base h2, fun c hc => ?_⟩
      cases hc with
      | base _ => exact Int.le_refl _
      | step p _ => have := p.length_eq; simp only [List.length_cons] at this; omega
    · have e : cheapN (N + 1) l = minL (foundAt (cheapN N) l l.length 0) := if_neg h2
      rw [e]
      constructor
      · obtain ⟨i, j, hi, hj, hv⟩ := mem_foundAt.mp (minL_mem (foundAt_pos (cheapN N) l (n := l.length) (by omega)))
        rw [hv]
        unfold valN
        have hl := restF_length hi hj
        have hc := (cheapN_best N (restF l i j) (by omega)).1
        refine .step (others_perm hi hj) (hc.perm ?_)
        rw [restF_eq]
        exact List.perm_append_singleton _ _
      · intro c hc
        cases hc with
        | base h => exact absurd h h2
        | @step _ O x y c p hc =>
          obtain ⟨i, j, hi, hj, hxy, hO⟩ := pair_at p
          have hl := restF_length hi hj
          have hq : valN (cheapN N) l i j ≤ x + y + c := by
            unfold valN
            have hs : l.getD i 0 + l.getD j 0 = x + y := by
              rcases hxy with ⟨h1, h2⟩ | ⟨h1, h2⟩ <;> rw [h1, h2]
              exact Int.add_comm _ _
            have hle := (cheapN_best N (restF l i j) (by omega)).2 c (hc.perm (by
              rw [restF_eq, hs]
              exact ((hO.symm.cons _)).trans (List.perm_append_singleton _ _).symm))
            omega
          exact Int.le_trans (minL_le (mem_foundAt.mpr ⟨i, j, hi, hj, rfl⟩)) hq

def best (l : List Int) : Int := cheapN 6 l
theorem best_cost {l : List Int} (h : l.length ≤ 5) : Cost l (best l) := (cheapN_best 6 l (by omega)).1
theorem best_le {l : List Int} (h : l.length ≤ 5) {c : Int} (hc : Cost l c) : best l ≤ c := (cheapN_best 6 l (by omega)).2 c hc
theorem best_perm {l l' : List Int} (h : l.length ≤ 5) (p : l.Perm l') : best l = best l' :=
  Int.le_antisymm (best_le h ((best_cost (by rw [← p.length_eq]; exact h)).perm p.symm)) (best_le (by rw [← p.length_eq]; exact h) ((best_cost h).perm p))
end Mine
end

section
open PySem PySem.W PyProof.Rows
namespace Mine

theorem sum_perm {l l' : List Int} (p : l.Perm l') : l.sum = l'.sum := by
  induction p with
  | nil => rfl
  | cons x _ ih => rw [List.sum_cons, List.sum_cons, ih]
  | swap x y l => simp only [List.sum_cons]; omega
  | trans _ _ h1 h2 => rw [h1, h2]

theorem two_min {l O R : List Int} {x y a b : Int} (p : l.Perm (x :: y :: O)) (q : l.Perm (a :: b :: R)) (hab : a ≤ b) (hR : ∀ r ∈ R, b ≤ r) : a + b ≤ x + y := by
  have hp := p.symm.trans q
  have hx : x ∈ a :: b :: R := hp.mem_iff.mp (.head _)
  have hy : y ∈ a :: b :: R := hp.mem_iff.mp (.tail _ (.head _))
  have hay : a ≤ y := by
    rcases List.mem_cons.mp hy with rfl | hy
    · exact Int.le_refl _
    · rcases List.mem_cons.mp hy with rfl | hy
      · exact hab
      · have := hR y hy; omega
  rcases List.mem_cons.mp hx with rfl | hx
  · have h2 := List.Perm.cons_inv hp
    have : y ∈ b :: R := h2.mem_iff.mp (.head _)
    rcases List.mem_cons.mp this with rfl | hy
    · omega
    · have := hR y hy; omega
  · rcases List.mem_cons.mp hx with rfl | hx
    · omega
    · have := hR x hx; omega
theorem two_max {l O R : List Int} {w v d e : Int} (p : l.Perm (w :: v :: O)) (q : l.Perm (e :: d :: R)) (hde : d ≤ e) (hR : ∀ r ∈ R, r ≤ d) : w + v ≤ d + e := by
  have hp := p.symm.trans q
  have hw : w ∈ e :: d :: R := hp.mem_iff.mp (.head _)
  have hv : v ∈ e :: d :: R := hp.mem_iff.mp (.tail _ (.head _))
  have hve : v ≤ e := by
    rcases List.mem_cons.mp hv with rfl | hv
    · exact Int.le_refl _
    · rcases List.mem_cons.mp hv with rfl | hv
      · exact hde
      · have := hR v hv; omega
  rcases List.mem_cons.mp hw with rfl | hw
  · have h2 := List.Perm.cons_inv hp
    have : v ∈ d :: R := h2.mem_iff.mp (.head _)
    rcases List.mem_cons.mp this with rfl | hv
    · omega
    · have := hR v hv; omega
  · rcases List.mem_cons.mp hw with rfl | hw
    · omega
    · have := hR w hw; omega

theorem cost1 {l : List Int} {c : Int} (h : Cost l c) (hl : l.length = 1) : c = 0 := by
  cases h with
  | base _ => rfl
  | step p _ => have := p.length_eq; simp only [List.length_cons] at this; omega
theorem len0 {O : List Int} (h : O.length = 0) : O = [] := List.eq_nil_of_length_eq_zero h
theorem len1 {O : List Int} (h : O.length = 1) : ∃ z, O = [z] := by
  match O, h with
  | [z], _ => exact ⟨z, rfl⟩
theorem len2 {O : List Int} (h : O.length = 2) : ∃ z w, O = [z, w] := by
  match O, h with
  | [z, w], _ => exact ⟨z, w, rfl⟩
theorem len3 {O : List Int} (h : O.length = 3) : ∃ z w v, O = [z, w, v] := by
  match O, h with
  | [z, w, v], _ => exact ⟨z, w, v, rfl⟩
theorem cost2 {l : List Int} {c : Int} (h : Cost l c) (hl : l.length = 2) : c = l.sum := by
  cases h with
  | base h => omega
  | @step _ O x y c p h =>
    have hO : O = [] := len0 (by have := p.length_eq; simp only [List.length_cons] at this; omega)
    subst hO
    have := cost1 h rfl
    rw [sum_perm p, this]
    simp
theorem cost3 {l : List Int} {c : Int} (h : Cost l c) (hl : l.length = 3) : ∃ x y z, l.Perm [x, y, z] ∧ c = 2 * x + 2 * y + z := by
  cases h with
  | base h => omega
  | @step _ O x y c p h =>
    obtain ⟨z, rfl⟩ := len1 (O := O) (by have := p.length_eq; simp only [List.length_cons] at this; omega)
    have := cost2 h rfl
    refine ⟨x, y, z, p, ?_⟩
    rw [this]
    simp only [List.sum_cons, List.sum_nil]
    omega
theorem cost4 {l : List Int} {c : Int} (h : Cost l c) (hl : l.length = 4) : ∃ x y z w, l.Perm [x, y, z, w] ∧ (c = 3 * x + 3 * y + 2 * z + w ∨ c = 2 * x + 2 * y + 2 * z + 2 * w) := by
  cases h with
  | base h => omega
  | @step _ O x y c p h =>
    obtain ⟨z, w, rfl⟩ := len2 (O := O) (by have := p.length_eq; simp only [List.length_cons] at this; omega)
    obtain ⟨P, Q, R, q, hc⟩ := cost3 h rfl
    have hm : x + y ∈ [P, Q, R] := q.mem_iff.mp (.head _)
    simp only [List.mem_cons, List.not_mem_nil, or_false] at hm
    rcases hm with e | e | e
    · rw [← e] at q
      have q' : [z, w].Perm [Q, R] := List.Perm.cons_inv q
      exact ⟨x, y, Q, R, p.trans ((q'.cons y).cons x), .inl (by omega)⟩
    · rw [← e] at q
      have q' : [z, w].Perm [P, R] := List.Perm.cons_inv (q.trans (List.Perm.swap _ _ _))
      exact ⟨x, y, P, R, p.trans ((q'.cons y).cons x), .inl (by omega)⟩
    · rw [← e] at q
      have q' : [z, w].Perm [P, Q] := List.Perm.cons_inv (q.trans (by apply List.perm_iff_count.mpr; intro u; simp [List.count_cons]; omega : [P, Q, x + y].Perm [x + y, P, Q]))
      exact ⟨x, y, P, Q, p.trans ((q'.cons y).cons x), .inr (by omega)⟩
theorem cost5 {l : List Int} {c : Int} (h : Cost l c) (hl : l.length = 5) : ∃ x y z w v, l.Perm [x, y, z, w, v] ∧ (c = 4 * x + 4 * y + 3 * z + 2 * w + v ∨ c = 3 * x + 3 * y + 3 * z + 3 * w + v ∨ c = 3 * x + 3 * y + 2 * z + 2 * w + 2 * v) := by
  cases h with
  | base h => omega
  | @step _ O x y c p h =>
    obtain ⟨z, w, v, rfl⟩ := len3 (O := O) (by have := p.length_eq; simp only [List.length_cons] at this; omega)
    obtain ⟨P, Q, R, S, q, hc⟩ := cost4 h rfl
    have hm : x + y ∈ [P, Q, R, S] := q.mem_iff.mp (.head _)
    simp only [List.mem_cons, List.not_mem_nil, or_false] at hm
    rcases hm with e | e | e | e
    · rw [← e] at q
      have q' : [z, w, v].Perm [Q, R, S] := List.Perm.cons_inv q
      refine ⟨x, y, Q, R, S, p.trans ((q'.cons y).cons x), ?_⟩
      rcases hc with hc | hc
      · exact .inl (by omega)
      · exact .inr (.inr (by omega))
    · rw [← e] at q
      have q' : [z, w, v].Perm [P, R, S] := List.Perm.cons_inv (q.trans (List.Perm.swap _ _ _))
      refine ⟨x, y, P, R, S, p.trans ((q'.cons y).cons x), ?_⟩
      rcases hc with hc | hc
      · exact .inl (by omega)
      · exact .inr (.inr (by omega))
    · rw [← e] at q
      have q' : [z, w, v].Perm [P, Q, S] := List.Perm.cons_inv (q.trans (by apply List.perm_iff_count.mpr; intro u; simp [List.count_cons]; omega : [P, Q, x + y, S].Perm [x + y, P, Q, S]))
      rcases hc with hc | hc
      · exact ⟨x, y, P, Q, S, p.trans ((q'.cons y).cons x), .inr (.inl (by omega))⟩
      · exact ⟨x, y, P, Q, S, p.trans ((q'.cons y).cons x), .inr (.inr (by omega))⟩
    · rw [← e] at q
      have q' : [z, w, v].Perm [P, Q, R] := List.Perm.cons_inv (q.trans (by apply List.perm_iff_count.mpr; intro u; simp [List.count_cons]; omega : [P, Q, R, x + y].Perm [x + y, P, Q, R]))
      rcases hc with hc | hc
      · refine ⟨P, Q, R, x, y, (p.trans ((q'.cons y).cons x)).trans (by apply List.perm_iff_count.mpr; intro u; simp [List.count_cons]; omega), .inr (.inr (by omega))⟩
      · refine ⟨x, y, P, Q, R, p.trans ((q'.cons y).cons x), .inr (.inr (by omega))⟩

theorem best1 {a : Int} : best [a] = 0 := cost1 (best_cost (by simp)) rfl
theorem best2 {a b : Int} : best [a, b] = a + b := by
  rw [cost2 (best_cost (by simp)) rfl]; simp
theorem best3 {a b c : Int} (h1 : a ≤ c) (h2 : b ≤ c) : best [a, b, c] = 2 * a + 2 * b + c := by
  have k1 : Cost [a, b, c] (a + b + (a + b + c + 0)) := .step (.refl _) (.step (.refl _) (.base (by simp)))
  have u1 := best_le (by simp) k1
  obtain ⟨x, y, z, p, e⟩ := cost3 (best_cost (l := [a, b, c]) (by simp)) rfl
  have hs := sum_perm p
  simp only [List.sum_cons, List.sum_nil] at hs
  have hz : z ∈ [a, b, c] := p.mem_iff.mpr (by simp)
  simp only [List.mem_cons, List.not_mem_nil, or_false] at hz
  omega
theorem best4 {a b c d : Int} (h1 : a ≤ c) (h2 : b ≤ c) (h3 : c ≤ d) : best [a, b, c, d] = min (3 * a + 3 * b + 2 * c + d) (2 * a + 2 * b + 2 * c + 2 * d) := by
  have k1 : Cost [a, b, c, d] (a + b + (a + b + c + (a + b + c + d + 0))) := .step (.refl _) (.step (.refl _) (.step (.refl _) (.base (by simp))))
  have k2 : Cost [a, b, c, d] (a + b + (c + d + (c + d + (a + b) + 0))) := .step (.refl _) (.step (O := [a + b]) (by apply List.perm_iff_count.mpr; intro u; simp [List.count_cons]; omega) (.step (.refl _) (.base (by simp))))
  have u1 := best_le (by simp) k1
  have u2 := best_le (by simp) k2
  obtain ⟨x, y, z, w, p, e⟩ := cost4 (best_cost (l := [a, b, c, d]) (by simp)) rfl
  have hs := sum_perm p
  simp only [List.sum_cons, List.sum_nil] at hs
  have hw : w ∈ [a, b, c, d] := p.mem_iff.mpr (by simp)
  simp only [List.mem_cons, List.not_mem_nil, or_false] at hw
  have hm : z + w ≤ c + d := two_max (l := [a, b, c, d]) (O := [x, y]) (R := [a, b]) (p.trans (by apply List.perm_iff_count.mpr; intro u; simp [List.count_cons]; omega)) (by apply List.perm_iff_count.mpr; intro u; simp [List.count_cons]; omega) h3 (by simp; omega)
  rcases e with e | e <;> omega
theorem best5 {a b c d e : Int} (h1 : a ≤ b) (h2 : b ≤ c) (h3 : c ≤ d) (h4 : d ≤ e) : best [a, b, c, d, e] = min (min (4 * a + 4 * b + 3 * c + 2 * d + e) (3 * a + 3 * b + 3 * c + 3 * d + e)) (3 * a + 3 * b + 2 * c + 2 * d + 2 * e) := by
  have k1 : Cost [a, b, c, d, e] (a + b + (a + b + c + (a + b + c + d + (a + b + c + d + e + 0)))) := .step (.refl _) (.step (.refl _) (.step (.refl _) (.step (.refl _) (.base (by simp)))))
  have k2 : Cost [a, b, c, d, e] (a + b + (c + d + (c + d + (a + b) + (c + d + (a + b) + e + 0)))) := .step (.refl _) (.step (O := [a + b, e]) (by apply List.perm_iff_count.mpr; intro u; simp [List.count_cons]; omega) (.step (.refl _) (.step (.refl _) (.base (by simp)))))
  have k3 : Cost [a, b, c, d, e] (a + b + (a + b + c + (d + e + (d + e + (a + b + c) + 0)))) := .step (.refl _) (.step (.refl _) (.step (O := [a + b + c]) (by apply List.perm_iff_count.mpr; intro u; simp [List.count_cons]; omega) (.step (.refl _) (.base (by simp)))))
  have u1 := best_le (by simp) k1
  have u2 := best_le (by simp) k2
  have u3 := best_le (by simp) k3
  obtain ⟨x, y, z, w, v, p, f⟩ := cost5 (best_cost (l := [a, b, c, d, e]) (by simp)) rfl
  have hs := sum_perm p
  simp only [List.sum_cons, List.sum_nil] at hs
  have hv : v ∈ [a, b, c, d, e] := p.mem_iff.mpr (by simp)
  simp only [List.mem_cons, List.not_mem_nil, or_false] at hv
  have hm : w + v ≤ d + e := two_max (l := [a, b, c, d, e]) (O := [x, y, z]) (R := [a, b, c]) (p.trans (by apply List.perm_iff_count.mpr; intro u; simp [List.count_cons]; omega)) (by apply List.perm_iff_count.mpr; intro u; simp [List.count_cons]; omega) h4 (by simp; omega)
  have hn : a + b ≤ x + y := two_min p (.refl _) h1 (by simp; omega)
  rcases f with f | f | f <;> omega

theorem sort2 (c d : Int) : ∃ c' d', [c, d].Perm [c', d'] ∧ c' ≤ d' := by
  by_cases h : c ≤ d
  · exact ⟨c, d, .refl _, h⟩
  · exact ⟨d, c, List.Perm.swap _ _ _, by omega⟩
theorem sort3 (c d e : Int) : ∃ c' d' e', [c, d, e].Perm [c', d', e'] ∧ c' ≤ d' ∧ d' ≤ e' := by
  obtain ⟨c1, d1, p1, h1⟩ := sort2 c d
  have q1 : [c, d, e].Perm [c1, d1, e] := p1.append_right [e]
  by_cases h : d1 ≤ e
  · exact ⟨c1, d1, e, q1, h1, h⟩
  · by_cases h' : c1 ≤ e
    · exact ⟨c1, e, d1, q1.trans (by apply List.perm_iff_count.mpr; intro u; simp [List.count_cons]; omega), h', by omega⟩
    · exact ⟨e, c1, d1, q1.trans (by apply List.perm_iff_count.mpr; intro u; simp [List.count_cons]; omega), by omega, h1⟩

/-- joining the two least is best -/
theorem greedy {h O : List Int} {a b : Int} (p : h.Perm (a :: b :: O)) (hl : h.length ≤ 5) (hab : a ≤ b) (hO : ∀ r ∈ O, b ≤ r) (ha : 0 ≤ a) : best h = a + b + best ((a + b) :: O) := by
  have hlen := p.length_eq
  simp only [List.length_cons] at hlen
  rw [best_perm hl p]
  match O, hO, hlen with
  | [], _, _ => rw [best2, best1]; omega
  | [c], hO, _ =>
    have hc := hO c (by simp)
    rw [best3 (by omega) hc, best2]; omega
  | [c, d], hO, _ =>
    obtain ⟨c1, d1, q, h1⟩ := sort2 c d
    have hc := hO c1 (q.mem_iff.mpr (by simp))
    rw [best_perm (by simp) ((q.cons b).cons a), best_perm (by simp) (q.cons (a + b)), best4 (by omega) hc h1]
    by_cases k : a + b ≤ d1
    · rw [best3 k h1]; omega
    · rw [best_perm (by simp) (by apply List.perm_iff_count.mpr; intro u; simp [List.count_cons]; omega : [a + b, c1, d1].Perm [c1, d1, a + b]), best3 (by omega) (by omega)]; omega
  | [c, d, e], hO, _ =>
    obtain ⟨c1, d1, e1, q, h1, h2⟩ := sort3 c d e
    have hc := hO c1 (q.mem_iff.mpr (by simp))
    rw [best_perm (by simp) ((q.cons b).cons a), best_perm (by simp) (q.cons (a + b)), best5 hab hc h1 h2]
    by_cases k : a + b ≤ d1
    · rw [best4 k h1 h2]; omega
    · by_cases k2 : a + b ≤ e1
      · rw [best_perm (by simp) (by apply List.perm_iff_count.mpr; intro u; simp [List.count_cons]; omega : [a + b, c1, d1, e1].Perm [c1, d1, a + b, e1]), best4 (by omega) (by omega) k2]; omega
      · rw [best_perm (by simp) (by apply List.perm_iff_count.mpr; intro u; simp [List.count_cons]; omega : [a + b, c1, d1, e1].Perm [c1, d1, e1, a + b]), best4 (by omega) h2 (by omega)]; omega
  | _ :: _ :: _ :: _ :: _, _, hlen => exact absurd hlen (by simp only [List.length_cons]; omega)
end Mine
end

section
open PySem PySem.W PyProof.Rows
namespace Mine
def WInv (row heap other sums again : List Int) : Prop :=
  IsHeap heap ∧ IsHeap other ∧ heap.Perm other ∧ again = sums ∧ heap.sum = row.sum ∧ (∀ x ∈ heap, 0 ≤ x) ∧ sums.Pairwise (· ≤ ·) ∧ (∀ s ∈ sums, ∀ x y O, heap.Perm (x :: y :: O) → s ≤ x + y) ∧ sums.sum + best heap = best row
def FInv (pre heap : List Int) : Prop := IsHeap heap ∧ heap.Perm pre

theorem head_mem {h : List Int} (h0 : 0 < h.length) : h.getD 0 0 ∈ h := by
  match h, h0 with
  | a :: r, _ => exact .head _
theorem head_eq {h o : List Int} (hh : IsHeap h) (ho : IsHeap o) (p : h.Perm o) (h0 : 0 < h.length) (hl : h.length ≤ 5) : o.getD 0 0 = h.getD 0 0 := by
  have hlo := p.length_eq
  have a1 := heap_head hh hl _ (p.mem_iff.mpr (head_mem (h := o) (by omega)))
  have a2 := heap_head ho (by omega) _ (p.mem_iff.mp (head_mem h0))
  omega

theorem st_for0 : ([] : List Int).length = ([] : List Int).length ∧ FInv [] [] := ⟨rfl, fun i h0 h1 => by simp at h1, .refl _⟩
theorem st_for {w pre post heap ns9 : List Int} {k : Int} {f : Int → Int} (he : List.map f (List.take 5 w) = pre ++ k :: post) (h1 : heap.length = pre.length) (h2 : FInv pre heap) (h3 : ns9 = pushF k heap ∧ ns9.length = heap.length + 1) :
    ns9.length = (pre ++ [k]).length ∧ FInv (pre ++ [k]) ns9 := by
  have hl := congrArg List.length he
  simp only [List.length_map, List.length_append, List.length_cons, List.length_take] at hl
  obtain ⟨a, b⟩ := push_spec (x := k) h2.1 (by omega)
  refine ⟨by rw [h3.2, h1, List.length_append]; rfl, ?_⟩
  rw [h3.1]
  exact ⟨a, b.trans ((h2.2.cons k).trans (List.perm_append_singleton _ _).symm)⟩
theorem st_while0 {w heap other : List Int} (h1 : heap.length = (List.map (fun k => k.fmod 99) (List.take 5 w)).length) (h2 : FInv (List.map (fun k => k.fmod 99) (List.take 5 w)) heap)
    (h3 : other = hfyF (List.map (fun k => k.fmod 99) (List.take 5 w)) ∧ other.length = (List.map (fun k => k.fmod 99) (List.take 5 w)).length) :
    heap.length ≤ 5 ∧ heap.length = other.length ∧ ([] : List Int).length + heap.length ≤ 5 ∧ ([] : List Int).length = ([] : List Int).length ∧ (0 < (List.map (fun k => k.fmod 99) (List.take 5 w)).length → 0 < heap.length) ∧
      WInv (List.map (fun k => k.fmod 99) (List.take 5 w)) heap other [] [] := by
  have h5 : (List.map (fun k => k.fmod 99) (List.take 5 w)).length ≤ 5 := by rw [List.length_map, List.length_take]; omega
  have hn : ∀ x ∈ List.map (fun k => k.fmod 99) (List.take 5 w), 0 ≤ x := by
    intro x hx
    obtain ⟨y, _, rfl⟩ := List.mem_map.mp hx
    exact Int.fmod_nonneg_of_pos y (by decide)
  generalize List.map (fun k => k.fmod 99) (List.take 5 w) = row at *
  obtain ⟨e, e'⟩ := h3
  obtain ⟨a, b⟩ := hfy_spec h5
  rw [← e] at a b
  refine ⟨by omega, by omega, by simp only [List.length_nil]; omega, rfl, by omega, h2.1, a, h2.2.trans b.symm, rfl, sum_perm h2.2, fun x hx => hn x (h2.2.mem_iff.mp hx), .nil, (by intro s hs; cases hs), ?_⟩
  rw [best_perm (by omega) h2.2]
  simp
theorem st_while {row heap other sums again a1 a2 a3 b1 b2 : List Int} (k1 : heap.length ≤ 5) (k2 : heap.length = other.length) (k3 : sums.length + heap.length ≤ 5) (k4 : again.length = sums.length) (k6 : WInv row heap other sums again) (t : 1 < (heap.length : Int))
    (e1 : a1 = popF heap ∧ a1.length + 1 = heap.length) (e2 : a2 = popF a1 ∧ a2.length + 1 = a1.length) (e3 : a3 = pushF (heap.getD 0 0 + a1.getD 0 0) a2 ∧ a3.length = a2.length + 1)
    (e4 : b1 = popF other ∧ b1.length + 1 = other.length) (e5 : b2 = replF (other.getD 0 0 + b1.getD (Int.toNat 0) 0) b1 ∧ b2.length = b1.length) :
    a3.length ≤ 5 ∧ a3.length = b2.length ∧ (sums ++ [heap.getD 0 0 + a1.getD 0 0]).length + a3.length ≤ 5 ∧ (again ++ [other.getD 0 0 + b1.getD (Int.toNat 0) 0]).length = (sums ++ [heap.getD 0 0 + a1.getD 0 0]).length ∧ (0 < row.length → 0 < a3.length) ∧
      WInv row a3 b2 (sums ++ [heap.getD 0 0 + a1.getD 0 0]) (again ++ [other.getD 0 0 + b1.getD (Int.toNat 0) 0]) := by
  obtain ⟨i1, i2, i3, i4, i5, i6, i7, i8, i9⟩ := k6
  obtain ⟨p1, q1⟩ := pop_spec i1 (by omega) k1
  rw [← e1.1] at p1 q1
  obtain ⟨p2, q2⟩ := pop_spec p1 (by omega) (by omega)
  rw [← e2.1] at p2 q2
  obtain ⟨p3, q3⟩ := push_spec (x := heap.getD 0 0 + a1.getD 0 0) p2 (by omega)
  rw [← e3.1] at p3 q3
  obtain ⟨p4, q4⟩ := pop_spec i2 (by omega) (by omega)
  rw [← e4.1] at p4 q4
  have hd1 : other.getD 0 0 = heap.getD 0 0 := head_eq i1 i2 i3 (by omega) k1
  have hb1 : a1.Perm b1 := by
    rw [hd1] at q4
    exact List.Perm.cons_inv ((q1.symm.trans i3).trans q4)
  have hd2 : b1.getD 0 0 = a1.getD 0 0 := head_eq p1 p4 hb1 (by omega) (by omega)
  have hitem : other.getD 0 0 + b1.getD (Int.toNat 0) 0 = heap.getD 0 0 + a1.getD 0 0 := by
    show other.getD 0 0 + b1.getD 0 0 = _
    rw [hd1, hd2]
  rw [hitem] at e5 ⊢
  obtain ⟨p5, q5⟩ := repl_spec (x := heap.getD 0 0 + a1.getD 0 0) p4 (by omega) (by omega)
  rw [← e5.1, hd2] at q5
  rw [← e5.1] at p5
  have hp : heap.Perm (heap.getD 0 0 :: a1.getD 0 0 :: a2) := q1.trans (q2.cons _)
  have v12 : heap.getD 0 0 ≤ a1.getD 0 0 := heap_head i1 k1 _ (hp.mem_iff.mpr (.tail _ (.head _)))
  have v2r : ∀ r ∈ a2, a1.getD 0 0 ≤ r := fun r hr => heap_head p1 (by omega) _ (q2.mem_iff.mpr (.tail _ hr))
  have v0 : 0 ≤ heap.getD 0 0 := i6 _ (hp.mem_iff.mpr (.head _))
  have hg := greedy hp k1 v12 v2r v0
  have hs3 := sum_perm q3
  have hsh := sum_perm hp
  simp only [List.sum_cons] at hs3 hsh
  have hbb : a3.Perm b2 := by
    have z : (a1.getD 0 0 :: b2).Perm (a1.getD 0 0 :: (heap.getD 0 0 + a1.getD 0 0) :: a2) :=
      q5.trans (((hb1.symm.trans q2).cons _).trans (List.Perm.swap _ _ _))
    exact q3.trans (List.Perm.cons_inv z).symm
  have hpair : ∀ x y O, a3.Perm (x :: y :: O) → heap.getD 0 0 + a1.getD 0 0 ≤ x + y := by
    intro x y O q
    have hn : ∀ u ∈ a3, u = heap.getD 0 0 + a1.getD 0 0 ∨ a1.getD 0 0 ≤ u := fun u hu => by
      rcases List.mem_cons.mp (q3.mem_iff.mp hu) with h | h
      · exact .inl h
      · exact .inr (v2r u h)
    have hx := hn x (q.mem_iff.mpr (.head _))
    have hy := hn y (q.mem_iff.mpr (.tail _ (.head _)))
    omega
  have hold : ∀ s ∈ sums, s ≤ heap.getD 0 0 + a1.getD 0 0 := fun s hs => i8 s hs _ _ _ hp
  refine ⟨by omega, by omega, by simp only [List.length_append, List.length_cons, List.length_nil]; omega, by simp only [List.length_append, List.length_cons, List.length_nil]; omega, by omega, p3, p5, hbb, by rw [i4], by omega, ?_, ?_, ?_, ?_⟩
  · intro x hx
    rcases List.mem_cons.mp (q3.mem_iff.mp hx) with h | h
    · omega
    · have := v2r x h; omega
  · rw [List.pairwise_append]
    refine ⟨i7, by simp, fun s hs u hu => ?_⟩
    rw [List.mem_singleton.mp hu]
    exact hold s hs
  · intro s hs x y O q
    have h1 := hpair x y O q
    rcases List.mem_append.mp hs with h | h
    · have := hold s h; omega
    · rw [List.mem_singleton.mp h]; exact h1
  · rw [List.sum_append, best_perm (by omega) q3]
    simp only [List.sum_cons, List.sum_nil]
    omega

theorem w_again {row heap other sums again : List Int} (k6 : WInv row heap other sums again) : sums = again := k6.2.2.2.1.symm
theorem w_other {row heap other sums again : List Int} (k6 : WInv row heap other sums again) (t : ¬ 1 < (heap.length : Int)) : heap = other := by
  have p := k6.2.2.1
  have hl := p.length_eq
  match heap, other, t, hl, p with
  | [], [], _, _, _ => rfl
  | [a], [b], _, _, p => have := p.mem_iff.mp (List.mem_cons_self (a := a) (l := [])); simp at this; rw [this]
  | _ :: _ :: _, _, t, _, _ => exact absurd (by simp only [List.length_cons]; omega) t
theorem w_sorted {row heap other sums again n : List Int} (k6 : WInv row heap other sums again) (p : n.Perm sums) (o : n.Pairwise (fun x1 x2 => x1 ≤ x2)) : sums = n :=
  (List.Perm.eq_of_pairwise (fun a b _ _ h1 h2 => Int.le_antisymm h1 h2) o k6.2.2.2.2.2.2.1 p).symm
theorem pos_of_ne {l : List Int} (h : decide (l = []) = false) : 0 < l.length := by
  match l, h with
  | a :: r, _ => simp
theorem w_one {row heap other sums again : List Int} (k6 : WInv row heap other sums again) (t : ¬ 1 < (heap.length : Int)) (k5 : 0 < row.length → 0 < heap.length) (h : decide (row = []) = false) : heap = [row.sum] := by
  have h0 := k5 (pos_of_ne h)
  have hs := k6.2.2.2.2.1
  match heap, t, h0, hs with
  | [a], _, _, hs => simp at hs; rw [hs]
  | _ :: _ :: _, t, _, _ => exact absurd (by simp only [List.length_cons]; omega) t
theorem w_best {row heap other sums again : List Int} (k6 : WInv row heap other sums again) (t : ¬ 1 < (heap.length : Int)) : (0 + sums.sum == cheapN 6 row) = true := by
  have hb := k6.2.2.2.2.2.2.2.2
  have h0 : best heap = 0 := by
    match heap, t with
    | [], _ => rfl
    | [a], _ => exact best1
    | _ :: _ :: _, t => exact absurd (by simp only [List.length_cons]; omega) t
  have e : best row = cheapN 6 row := rfl
  rw [beq_iff_eq]
  omega
end Mine
end

section
open PySem PySem.W PyProof.Rows PySem.Spec PySem.Calls PyProof

local macro_rules | `(tactic| walk_at "call ref") => `(tactic| (k_here; k_dflt (
  (first
  | (refine' (Mine.LClaim.at (Mine.heappush _ _ _ _ _ _ _ _ _ _ _ _) [] _) _ _ _ _ _ _ _ _ _ _ _ _ _ _ _ _ _ ?k1 ?k2 ?k3 ?k4 ?k5 ?kK ?kn ?kI ?kp ?kd ?ku ?_; (case k4 => k_asm))
  | (refine' (Mine.LClaim.at (Mine.heappush _ _ _ _ _ _ _ _ _ _ _ _) [_] _) _ _ _ _ _ _ _ _ _ _ _ _ _ _ _ _ _ ?k1 ?k2 ?k3 ?k4 ?k5 ?kK ?kn ?kI ?kp ?kd ?ku ?_; (case k4 => k_asm))
  | (refine' (Mine.LClaim.at (Mine.heappush _ _ _ _ _ _ _ _ _ _ _ _) [_, _] _) _ _ _ _ _ _ _ _ _ _ _ _ _ _ _ _ _ ?k1 ?k2 ?k3 ?k4 ?k5 ?kK ?kn ?kI ?kp ?kd ?ku ?_; (case k4 => k_asm))
  | (refine' (Mine.LClaim.at (Mine.heappush _ _ _ _ _ _ _ _ _ _ _ _) [_, _, _] _) _ _ _ _ _ _ _ _ _ _ _ _ _ _ _ _ _ ?k1 ?k2 ?k3 ?k4 ?k5 ?kK ?kn ?kI ?kp ?kd ?ku ?_; (case k4 => k_asm))
  | (refine' (Mine.LClaim.at (Mine.heappush _ _ _ _ _ _ _ _ _ _ _ _) [_, _, _, _] _) _ _ _ _ _ _ _ _ _ _ _ _ _ _ _ _ _ ?k1 ?k2 ?k3 ?k4 ?k5 ?kK ?kn ?kI ?kp ?kd ?ku ?_; (case k4 => k_asm))
  | (refine' (Mine.LClaim.at (Mine.heappush _ _ _ _ _ _ _ _ _ _ _ _) [_, _, _, _, _] _) _ _ _ _ _ _ _ _ _ _ _ _ _ _ _ _ _ ?k1 ?k2 ?k3 ?k4 ?k5 ?kK ?kn ?kI ?kp ?kd ?ku ?_; (case k4 => k_asm))
  | (refine' (Mine.LClaim.at (Mine.heappush _ _ _ _ _ _ _ _ _ _ _ _) [_, _, _, _, _, _] _) _ _ _ _ _ _ _ _ _ _ _ _ _ _ _ _ _ ?k1 ?k2 ?k3 ?k4 ?k5 ?kK ?kn ?kI ?kp ?kd ?ku ?_; (case k4 => k_asm))
  | (refine' (Mine.LClaim.at (Mine.heappush _ _ _ _ _ _ _ _ _ _ _ _) [_, _, _, _, _, _, _] _) _ _ _ _ _ _ _ _ _ _ _ _ _ _ _ _ _ ?k1 ?k2 ?k3 ?k4 ?k5 ?kK ?kn ?kI ?kp ?kd ?ku ?_; (case k4 => k_asm))
  | (refine' (Mine.LClaim.at (Mine.heappush _ _ _ _ _ _ _ _ _ _ _ _) [_, _, _, _, _, _, _, _] _) _ _ _ _ _ _ _ _ _ _ _ _ _ _ _ _ _ ?k1 ?k2 ?k3 ?k4 ?k5 ?kK ?kn ?kI ?kp ?kd ?ku ?_; (case k4 => k_asm)));
  (case k1 => k_asm); (case k2 => k_asm); (case k3 => k_asm); (case k5 => k_asm); (case kK => (first | exact rfl | assumption));
  (case kn => k_all); (case kI => l_ints); (case kp => (first | omega | ((simp only [List.length_map]); omega) | ((rename _ = _ ++ _ :: _ => kE9); (have kL9 := congrArg List.length kE9); (simp only [List.length_append, List.length_cons, List.length_map] at kL9); omega) | fail "contract: the premise")); (case kd => (first | decide | omega | ktr_room)); (case ku => (first | decide | omega | ktr_units));
  intro t9 h9 tk9 n9 ws9 ns9 F9 N9 I9 hp9; (try dsimp only [List.nil_append, List.cons_append] at N9); (try k_fold))))

local macro_rules | `(tactic| walk_at "call ref") => `(tactic| (k_here; k_dflt (
  (first
  | (refine' (Mine.LClaim.at (Mine.heappop _ _ _ _ _ _ _ _ _ _) [] _) _ _ _ _ _ _ _ _ _ _ _ _ _ _ _ _ _ ?k1 ?k2 ?k3 ?k4 ?k5 ?kK ?kn ?kI ?kp ?kd ?ku ?_; (case k4 => k_asm))
  | (refine' (Mine.LClaim.at (Mine.heappop _ _ _ _ _ _ _ _ _ _) [_] _) _ _ _ _ _ _ _ _ _ _ _ _ _ _ _ _ _ ?k1 ?k2 ?k3 ?k4 ?k5 ?kK ?kn ?kI ?kp ?kd ?ku ?_; (case k4 => k_asm))
  | (refine' (Mine.LClaim.at (Mine.heappop _ _ _ _ _ _ _ _ _ _) [_, _] _) _ _ _ _ _ _ _ _ _ _ _ _ _ _ _ _ _ ?k1 ?k2 ?k3 ?k4 ?k5 ?kK ?kn ?kI ?kp ?kd ?ku ?_; (case k4 => k_asm))
  | (refine' (Mine.LClaim.at (Mine.heappop _ _ _ _ _ _ _ _ _ _) [_, _, _] _) _ _ _ _ _ _ _ _ _ _ _ _ _ _ _ _ _ ?k1 ?k2 ?k3 ?k4 ?k5 ?kK ?kn ?kI ?kp ?kd ?ku ?_; (case k4 => k_asm))
  | (refine' (Mine.LClaim.at (Mine.heappop _ _ _ _ _ _ _ _ _ _) [_, _, _, _] _) _ _ _ _ _ _ _ _ _ _ _ _ _ _ _ _ _ ?k1 ?k2 ?k3 ?k4 ?k5 ?kK ?kn ?kI ?kp ?kd ?ku ?_; (case k4 => k_asm))
  | (refine' (Mine.LClaim.at (Mine.heappop _ _ _ _ _ _ _ _ _ _) [_, _, _, _, _] _) _ _ _ _ _ _ _ _ _ _ _ _ _ _ _ _ _ ?k1 ?k2 ?k3 ?k4 ?k5 ?kK ?kn ?kI ?kp ?kd ?ku ?_; (case k4 => k_asm))
  | (refine' (Mine.LClaim.at (Mine.heappop _ _ _ _ _ _ _ _ _ _) [_, _, _, _, _, _] _) _ _ _ _ _ _ _ _ _ _ _ _ _ _ _ _ _ ?k1 ?k2 ?k3 ?k4 ?k5 ?kK ?kn ?kI ?kp ?kd ?ku ?_; (case k4 => k_asm))
  | (refine' (Mine.LClaim.at (Mine.heappop _ _ _ _ _ _ _ _ _ _) [_, _, _, _, _, _, _] _) _ _ _ _ _ _ _ _ _ _ _ _ _ _ _ _ _ ?k1 ?k2 ?k3 ?k4 ?k5 ?kK ?kn ?kI ?kp ?kd ?ku ?_; (case k4 => k_asm))
  | (refine' (Mine.LClaim.at (Mine.heappop _ _ _ _ _ _ _ _ _ _) [_, _, _, _, _, _, _, _] _) _ _ _ _ _ _ _ _ _ _ _ _ _ _ _ _ _ ?k1 ?k2 ?k3 ?k4 ?k5 ?kK ?kn ?kI ?kp ?kd ?ku ?_; (case k4 => k_asm)));
  (case k1 => k_asm); (case k2 => k_asm); (case k3 => k_asm); (case k5 => k_asm); (case kK => (first | exact rfl | assumption));
  (case kn => k_all); (case kI => l_ints); (case kp => (first | omega | ((simp only [List.length_map]); omega) | ((rename _ = _ ++ _ :: _ => kE9); (have kL9 := congrArg List.length kE9); (simp only [List.length_append, List.length_cons, List.length_map] at kL9); omega) | fail "contract: the premise")); (case kd => (first | decide | omega | ktr_room)); (case ku => (first | decide | omega | ktr_units));
  intro t9 h9 tk9 n9 ws9 ns9 F9 N9 I9 hp9; (try dsimp only [List.nil_append, List.cons_append] at N9); (try k_fold))))

local macro_rules | `(tactic| walk_at "call ref") => `(tactic| (k_here; k_dflt (
  (first
  | (refine' (Mine.LClaim.at (Mine.heapreplace _ _ _ _ _ _ _ _ _ _ _ _) [] _) _ _ _ _ _ _ _ _ _ _ _ _ _ _ _ _ _ ?k1 ?k2 ?k3 ?k4 ?k5 ?kK ?kn ?kI ?kp ?kd ?ku ?_; (case k4 => k_asm))
  | (refine' (Mine.LClaim.at (Mine.heapreplace _ _ _ _ _ _ _ _ _ _ _ _) [_] _) _ _ _ _ _ _ _ _ _ _ _ _ _ _ _ _ _ ?k1 ?k2 ?k3 ?k4 ?k5 ?kK ?kn ?kI ?kp ?kd ?ku ?_; (case k4 => k_asm))
  | (refine' (Mine.LClaim.at (Mine.heapreplace _ _ _ _ _ _ _ _ _ _ _ _) [_, _] _) _ _ _ _ _ _ _ _ _ _ _ _ _ _ _ _ _ ?k1 ?k2 ?k3 ?k4 ?k5 ?kK ?kn ?kI ?kp ?kd ?ku ?_; (case k4 => k_asm))
  | (refine' (Mine.LClaim.at (Mine.heapreplace _ _ _ _ _ _ _ _ _ _ _ _) [_, _, _] _) _ _ _ _ _ _ _ _ _ _ _ _ _ _ _ _ _ ?k1 ?k2 ?k3 ?k4 ?k5 ?kK ?kn ?kI ?kp ?kd ?ku ?_; (case k4 => k_asm))
  | (refine' (Mine.LClaim.at (Mine.heapreplace _ _ _ _ _ _ _ _ _ _ _ _) [_, _, _, _] _) _ _ _ _ _ _ _ _ _ _ _ _ _ _ _ _ _ ?k1 ?k2 ?k3 ?k4 ?k5 ?kK ?kn ?kI ?kp ?kd ?ku ?_; (case k4 => k_asm))
  | (refine' (Mine.LClaim.at (Mine.heapreplace _ _ _ _ _ _ _ _ _ _ _ _) [_, _, _, _, _] _) _ _ _ _ _ _ _ _ _ _ _ _ _ _ _ _ _ ?k1 ?k2 ?k3 ?k4 ?k5 ?kK ?kn ?kI ?kp ?kd ?ku ?_; (case k4 => k_asm))
  | (refine' (Mine.LClaim.at (Mine.heapreplace _ _ _ _ _ _ _ _ _ _ _ _) [_, _, _, _, _, _] _) _ _ _ _ _ _ _ _ _ _ _ _ _ _ _ _ _ ?k1 ?k2 ?k3 ?k4 ?k5 ?kK ?kn ?kI ?kp ?kd ?ku ?_; (case k4 => k_asm))
  | (refine' (Mine.LClaim.at (Mine.heapreplace _ _ _ _ _ _ _ _ _ _ _ _) [_, _, _, _, _, _, _] _) _ _ _ _ _ _ _ _ _ _ _ _ _ _ _ _ _ ?k1 ?k2 ?k3 ?k4 ?k5 ?kK ?kn ?kI ?kp ?kd ?ku ?_; (case k4 => k_asm))
  | (refine' (Mine.LClaim.at (Mine.heapreplace _ _ _ _ _ _ _ _ _ _ _ _) [_, _, _, _, _, _, _, _] _) _ _ _ _ _ _ _ _ _ _ _ _ _ _ _ _ _ ?k1 ?k2 ?k3 ?k4 ?k5 ?kK ?kn ?kI ?kp ?kd ?ku ?_; (case k4 => k_asm)));
  (case k1 => k_asm); (case k2 => k_asm); (case k3 => k_asm); (case k5 => k_asm); (case kK => (first | exact rfl | assumption));
  (case kn => k_all); (case kI => l_ints); (case kp => (first | omega | ((simp only [List.length_map]); omega) | ((rename _ = _ ++ _ :: _ => kE9); (have kL9 := congrArg List.length kE9); (simp only [List.length_append, List.length_cons, List.length_map] at kL9); omega) | fail "contract: the premise")); (case kd => (first | decide | omega | ktr_room)); (case ku => (first | decide | omega | ktr_units));
  intro t9 h9 tk9 n9 ws9 ns9 F9 N9 I9 hp9; (try dsimp only [List.nil_append, List.cons_append] at N9); (try k_fold))))

local macro_rules | `(tactic| walk_at "call ref") => `(tactic| (k_here; k_dflt (
  (first
  | (refine' (Mine.LClaim.at (Mine.heapify _ _ _ _ _ _ _ _ _ _) [] _) _ _ _ _ _ _ _ _ _ _ _ _ _ _ _ _ _ ?k1 ?k2 ?k3 ?k4 ?k5 ?kK ?kn ?kI ?kp ?kd ?ku ?_; (case k4 => k_asm))
  | (refine' (Mine.LClaim.at (Mine.heapify _ _ _ _ _ _ _ _ _ _) [_] _) _ _ _ _ _ _ _ _ _ _ _ _ _ _ _ _ _ ?k1 ?k2 ?k3 ?k4 ?k5 ?kK ?kn ?kI ?kp ?kd ?ku ?_; (case k4 => k_asm))
  | (refine' (Mine.LClaim.at (Mine.heapify _ _ _ _ _ _ _ _ _ _) [_, _] _) _ _ _ _ _ _ _ _ _ _ _ _ _ _ _ _ _ ?k1 ?k2 ?k3 ?k4 ?k5 ?kK ?kn ?kI ?kp ?kd ?ku ?_; (case k4 => k_asm))
  | (refine' (Mine.LClaim.at (Mine.heapify _ _ _ _ _ _ _ _ _ _) [_, _, _] _) _ _ _ _ _ _ _ _ _ _ _ _ _ _ _ _ _ ?k1 ?k2 ?k3 ?k4 ?k5 ?kK ?kn ?kI ?kp ?kd ?ku ?_; (case k4 => k_asm))
  | (refine' (Mine.LClaim.at (Mine.heapify _ _ _ _ _ _ _ _ _ _) [_, _, _, _] _) _ _ _ _ _ _ _ _ _ _ _ _ _ _ _ _ _ ?k1 ?k2 ?k3 ?k4 ?k5 ?kK ?kn ?kI ?kp ?kd ?ku ?_; (case k4 => k_asm))
  | (refine' (Mine.LClaim.at (Mine.heapify _ _ _ _ _ _ _ _ _ _) [_, _, _, _, _] _) _ _ _ _ _ _ _ _ _ _ _ _ _ _ _ _ _ ?k1 ?k2 ?k3 ?k4 ?k5 ?kK ?kn ?kI ?kp ?kd ?ku ?_; (case k4 => k_asm))
  | (refine' (Mine.LClaim.at (Mine.heapify _ _ _ _ _ _ _ _ _ _) [_, _, _, _, _, _] _) _ _ _ _ _ _ _ _ _ _ _ _ _ _ _ _ _ ?k1 ?k2 ?k3 ?k4 ?k5 ?kK ?kn ?kI ?kp ?kd ?ku ?_; (case k4 => k_asm))
  | (refine' (Mine.LClaim.at (Mine.heapify _ _ _ _ _ _ _ _ _ _) [_, _, _, _, _, _, _] _) _ _ _ _ _ _ _ _ _ _ _ _ _ _ _ _ _ ?k1 ?k2 ?k3 ?k4 ?k5 ?kK ?kn ?kI ?kp ?kd ?ku ?_; (case k4 => k_asm))
  | (refine' (Mine.LClaim.at (Mine.heapify _ _ _ _ _ _ _ _ _ _) [_, _, _, _, _, _, _, _] _) _ _ _ _ _ _ _ _ _ _ _ _ _ _ _ _ _ ?k1 ?k2 ?k3 ?k4 ?k5 ?kK ?kn ?kI ?kp ?kd ?ku ?_; (case k4 => k_asm)));
  (case k1 => k_asm); (case k2 => k_asm); (case k3 => k_asm); (case k5 => k_asm); (case kK => (first | exact rfl | assumption));
  (case kn => k_all); (case kI => l_ints); (case kp => (first | omega | ((simp only [List.length_map]); omega) | ((rename _ = _ ++ _ :: _ => kE9); (have kL9 := congrArg List.length kE9); (simp only [List.length_append, List.length_cons, List.length_map] at kL9); omega) | fail "contract: the premise")); (case kd => (first | decide | omega | ktr_room)); (case ku => (first | decide | omega | ktr_units));
  intro t9 h9 tk9 n9 ws9 ns9 F9 N9 I9 hp9; (try dsimp only [List.nil_append, List.cons_append] at N9); (try k_fold))))

local macro_rules | `(tactic| walk_at "call ref") => `(tactic| (k_here; k_dflt (
  (first
  | (refine' (Mine.LClaim.at (Mine.cheap_all _ _ _ _ _ _ 6 _ _ _ _) [] _) _ _ _ _ _ _ _ _ _ _ _ _ _ _ _ _ _ ?k1 ?k2 ?k3 ?k4 ?k5 ?kK ?kn ?kI ?kp ?kd ?ku ?_; (case k4 => k_asm))
  | (refine' (Mine.LClaim.at (Mine.cheap_all _ _ _ _ _ _ 6 _ _ _ _) [_] _) _ _ _ _ _ _ _ _ _ _ _ _ _ _ _ _ _ ?k1 ?k2 ?k3 ?k4 ?k5 ?kK ?kn ?kI ?kp ?kd ?ku ?_; (case k4 => k_asm))
  | (refine' (Mine.LClaim.at (Mine.cheap_all _ _ _ _ _ _ 6 _ _ _ _) [_, _] _) _ _ _ _ _ _ _ _ _ _ _ _ _ _ _ _ _ ?k1 ?k2 ?k3 ?k4 ?k5 ?kK ?kn ?kI ?kp ?kd ?ku ?_; (case k4 => k_asm))
  | (refine' (Mine.LClaim.at (Mine.cheap_all _ _ _ _ _ _ 6 _ _ _ _) [_, _, _] _) _ _ _ _ _ _ _ _ _ _ _ _ _ _ _ _ _ ?k1 ?k2 ?k3 ?k4 ?k5 ?kK ?kn ?kI ?kp ?kd ?ku ?_; (case k4 => k_asm))
  | (refine' (Mine.LClaim.at (Mine.cheap_all _ _ _ _ _ _ 6 _ _ _ _) [_, _, _, _] _) _ _ _ _ _ _ _ _ _ _ _ _ _ _ _ _ _ ?k1 ?k2 ?k3 ?k4 ?k5 ?kK ?kn ?kI ?kp ?kd ?ku ?_; (case k4 => k_asm))
  | (refine' (Mine.LClaim.at (Mine.cheap_all _ _ _ _ _ _ 6 _ _ _ _) [_, _, _, _, _] _) _ _ _ _ _ _ _ _ _ _ _ _ _ _ _ _ _ ?k1 ?k2 ?k3 ?k4 ?k5 ?kK ?kn ?kI ?kp ?kd ?ku ?_; (case k4 => k_asm))
  | (refine' (Mine.LClaim.at (Mine.cheap_all _ _ _ _ _ _ 6 _ _ _ _) [_, _, _, _, _, _] _) _ _ _ _ _ _ _ _ _ _ _ _ _ _ _ _ _ ?k1 ?k2 ?k3 ?k4 ?k5 ?kK ?kn ?kI ?kp ?kd ?ku ?_; (case k4 => k_asm))
  | (refine' (Mine.LClaim.at (Mine.cheap_all _ _ _ _ _ _ 6 _ _ _ _) [_, _, _, _, _, _, _] _) _ _ _ _ _ _ _ _ _ _ _ _ _ _ _ _ _ ?k1 ?k2 ?k3 ?k4 ?k5 ?kK ?kn ?kI ?kp ?kd ?ku ?_; (case k4 => k_asm))
  | (refine' (Mine.LClaim.at (Mine.cheap_all _ _ _ _ _ _ 6 _ _ _ _) [_, _, _, _, _, _, _, _] _) _ _ _ _ _ _ _ _ _ _ _ _ _ _ _ _ _ ?k1 ?k2 ?k3 ?k4 ?k5 ?kK ?kn ?kI ?kp ?kd ?ku ?_; (case k4 => k_asm))
  | (refine' (Mine.LClaim.at (Mine.cheap_all _ _ _ _ _ _ 6 _ _ _ _) [_, _, _, _, _, _, _, _, _] _) _ _ _ _ _ _ _ _ _ _ _ _ _ _ _ _ _ ?k1 ?k2 ?k3 ?k4 ?k5 ?kK ?kn ?kI ?kp ?kd ?ku ?_; (case k4 => k_asm))
  | (refine' (Mine.LClaim.at (Mine.cheap_all _ _ _ _ _ _ 6 _ _ _ _) [_, _, _, _, _, _, _, _, _, _] _) _ _ _ _ _ _ _ _ _ _ _ _ _ _ _ _ _ ?k1 ?k2 ?k3 ?k4 ?k5 ?kK ?kn ?kI ?kp ?kd ?ku ?_; (case k4 => k_asm))
  | (refine' (Mine.LClaim.at (Mine.cheap_all _ _ _ _ _ _ 6 _ _ _ _) [_, _, _, _, _, _, _, _, _, _, _] _) _ _ _ _ _ _ _ _ _ _ _ _ _ _ _ _ _ ?k1 ?k2 ?k3 ?k4 ?k5 ?kK ?kn ?kI ?kp ?kd ?ku ?_; (case k4 => k_asm))
  | (refine' (Mine.LClaim.at (Mine.cheap_all _ _ _ _ _ _ 6 _ _ _ _) [_, _, _, _, _, _, _, _, _, _, _, _] _) _ _ _ _ _ _ _ _ _ _ _ _ _ _ _ _ _ ?k1 ?k2 ?k3 ?k4 ?k5 ?kK ?kn ?kI ?kp ?kd ?ku ?_; (case k4 => k_asm))
  | (refine' (Mine.LClaim.at (Mine.cheap_all _ _ _ _ _ _ 6 _ _ _ _) [_, _, _, _, _, _, _, _, _, _, _, _, _] _) _ _ _ _ _ _ _ _ _ _ _ _ _ _ _ _ _ ?k1 ?k2 ?k3 ?k4 ?k5 ?kK ?kn ?kI ?kp ?kd ?ku ?_; (case k4 => k_asm))
  | (refine' (Mine.LClaim.at (Mine.cheap_all _ _ _ _ _ _ 6 _ _ _ _) [_, _, _, _, _, _, _, _, _, _, _, _, _, _] _) _ _ _ _ _ _ _ _ _ _ _ _ _ _ _ _ _ ?k1 ?k2 ?k3 ?k4 ?k5 ?kK ?kn ?kI ?kp ?kd ?ku ?_; (case k4 => k_asm)));
  (case k1 => k_asm); (case k2 => k_asm); (case k3 => k_asm); (case k5 => k_asm); (case kK => (first | exact rfl | assumption));
  (case kn => k_all); (case kI => l_ints); (case kp => (first | omega | ((simp only [List.length_map]); omega) | ((rename _ = _ ++ _ :: _ => kE9); (have kL9 := congrArg List.length kE9); (simp only [List.length_append, List.length_cons, List.length_map] at kL9); omega) | fail "contract: the premise")); (case kd => (first | decide | omega | ktr_room)); (case ku => (first | decide | omega | ktr_units));
  intro t9 h9 tk9 n9 ws9 ns9 F9 N9 I9 hp9; (try dsimp only [List.nil_append, List.cons_append] at N9); (try k_fold))))

local macro_rules | `(tactic| walk_at "call ref") => `(tactic| (k_here; k_dflt (
  (refine' Mine.reduce0 _ _ _ _ _ _ _ _ _ _ _ _ _ _ _ _ _ _ _ _ _ _ _ _ _ _ _ _ _ _ _ _ _ _ _ _ _ _ _ _ _ _ _ ?k1 ?k2 ?k3 ?k4 ?k5 ?kK ?hf ?hc ?d1 ?d2 ?hl ?kI ?kp ?kd ?ku ?_);
  (case k1 => k_asm); (case k2 => k_asm); (case k3 => k_asm); (case k4 => k_asm); (case k5 => k_asm); (case kK => (first | exact rfl | assumption));
  (case hf => k_mem); (case hc => k_mem); (case d1 => assumption); (case d2 => assumption); (case hl => k_mem); (case kI => l_ints); (case kp => (first | omega | ((simp only [List.length_map]); omega) | ((rename _ = _ ++ _ :: _ => kE9); (have kL9 := congrArg List.length kE9); (simp only [List.length_append, List.length_cons, List.length_map] at kL9); omega) | fail "contract: the premise")); (case kd => (first | decide | omega | ktr_room)); (case ku => (first | decide | omega | ktr_units));
  intro t9 h9 tk9 F9 N9; (try k_fold))))

local macro_rules | `(tactic| walk_at "call ref") => `(tactic| (k_here; k_dflt (
  (refine' Mine.reduce1 _ _ _ _ _ _ _ _ _ _ _ _ _ _ _ _ _ _ _ _ _ _ _ _ _ _ _ _ _ _ _ _ _ _ _ _ _ _ _ _ _ ?k1 ?k2 ?k3 ?k4 ?k5 ?kK ?hf ?hc ?d1 ?d2 ?hl ?kI ?kp ?k0 ?kd ?ku ?_);
  (case k1 => k_asm); (case k2 => k_asm); (case k3 => k_asm); (case k4 => k_asm); (case k5 => k_asm); (case kK => (first | exact rfl | assumption));
  (case hf => k_mem); (case hc => k_mem); (case d1 => assumption); (case d2 => assumption); (case hl => k_mem); (case kI => l_ints); (case kp => (first | omega | ((simp only [List.length_map]); omega) | ((rename _ = _ ++ _ :: _ => kE9); (have kL9 := congrArg List.length kE9); (simp only [List.length_append, List.length_cons, List.length_map] at kL9); omega) | fail "contract: the premise")); (case k0 => (exact Mine.pos_of_ne (by assumption))); (case kd => (first | decide | omega | ktr_room)); (case ku => (first | decide | omega | ktr_units));
  intro t9 h9 tk9 F9 N9; (try k_fold))))

set_option maxRecDepth 100000 in
set_option maxHeartbeats 4000000 in
theorem PySem.Challenge.cw_xg0028_01_holds : PySem.Challenge.rw_xg0028_01.Holds := by
  k_with_none
  k_with "pyIter ref" => k_state (fun pre heap => heap.length = pre.length ∧ Mine.FInv pre heap) "heap"
  k_with "exec While Compare cons nil" => k_while_given ["row"] (fun row _ heap other sums again => heap.length ≤ 5 ∧ heap.length = other.length ∧ sums.length + heap.length ≤ 5 ∧ again.length = sums.length ∧ (0 < row.length → 0 < heap.length) ∧ Mine.WInv row heap other sums again) (fun _ _ heap _ _ _ => heap.length) "heap" "other" "sums" "again"
  k_with "state" => first
    | exact Mine.st_for0
    | exact Mine.st_for (by assumption) (by assumption) (by assumption) (by assumption)
    | exact Mine.st_while0 (by assumption) (by assumption) (by assumption)
    | exact Mine.st_while (by assumption) (by assumption) (by assumption) (by assumption) (by assumption) (by assumption) (by assumption) (by assumption) (by assumption) (by assumption) (by assumption)
  refine Mine.hd ?_
  w_strict (k_go0; (all_goals try k_fold); k_steps; (all_goals first
    | (exfalso; exact absurd (Mine.w_again (by assumption)) (by assumption))
    | (exfalso; exact absurd (Mine.w_other (by assumption) (by assumption)) (by assumption))
    | (exfalso; exact absurd (Mine.w_sorted (by assumption) (by assumption) (by assumption)) (by assumption))
    | (exfalso; exact absurd (Mine.w_one (by assumption) (by assumption) (by assumption) (by assumption)) (by assumption))
    | (rw [Mine.w_best (by assumption) (by assumption)]; k_steps)))

end
