import PyProof.Rows.All
import Wide.All
import OpenK.AllK
import Wide.FinOn
import PySem.Challenge.RW_aa6002_01
set_option Elab.async false
set_option linter.unusedVariables false
set_option maxRecDepth 100000
open PySem PySem.W PyProof.Rows PySem.Calls
namespace Mine
section
set_option linter.unusedVariables false
set_option maxRecDepth 100000
set_option maxHeartbeats 1000000
open Builtin (bitAnd bitOr bitXor bitNot)
theorem p2pos (n : Nat) : (0 : Int) < 2 ^ n := Int.pow_pos (by decide)
theorem p2succ (n : Nat) : (2 : Int) ^ (n + 1) = 2 * 2 ^ n := by rw [Int.pow_succ, Int.mul_comm]
theorem and_zero (x : Int) : bitAnd x 0 = 0 := by
  have h := kbt_mask x 0
  simpa using h
theorem zero_and (x : Int) : bitAnd 0 x = 0 := by rw [bitAnd_comm, and_zero]
/-- a field of a number -/
theorem and_field (b : Nat) : ∀ (o : Nat) (x : Int), bitAnd x ((2 ^ b - 1) * 2 ^ o) = x / 2 ^ o % 2 ^ b * 2 ^ o
  | 0, x => by
    have h := kbt_mask x b
    simpa using h
  | o + 1, x => by
    have hp := p2pos o
    have e : ((2 ^ b - 1) * 2 ^ (o + 1) : Int) = 2 * ((2 ^ b - 1) * 2 ^ o) := by rw [p2succ, Int.mul_left_comm]
    have e1 : (2 * ((2 ^ b - 1) * 2 ^ o) : Int) / 2 = (2 ^ b - 1) * 2 ^ o := Int.mul_ediv_cancel_left _ (by decide)
    have e2 : (2 * ((2 ^ b - 1) * 2 ^ o) : Int) % 2 = 0 := Int.mul_emod_right ..
    rw [e, kbt_halves, e1, e2, if_neg (by omega), and_field b o (x / 2), p2succ, Int.ediv_ediv_of_nonneg (by decide), Int.add_zero, Int.mul_left_comm]
theorem and_less : ∀ (n : Nat) (x y : Int), 0 ≤ x → x < 2 ^ n → bitAnd x (2 ^ n - 1 - y) = x - bitAnd x y
  | 0, x, y, h0, h1 => by
    have : x = 0 := by simp at h1; omega
    subst this
    rw [zero_and, zero_and]; rfl
  | n + 1, x, y, h0, h1 => by
    have e := p2succ n
    rw [e] at h1 ⊢
    have ih := and_less n (x / 2) (y / 2) (by omega) (by omega)
    have e1 : (2 * 2 ^ n - 1 - y) / 2 = 2 ^ n - 1 - y / 2 := by omega
    rw [kbt_halves x (2 * 2 ^ n - 1 - y), kbt_halves x y, e1, ih]
    have hy : (2 * 2 ^ n - 1 - y) % 2 = 1 - y % 2 := by omega
    rw [hy]
    split <;> split <;> omega
theorem half_and (a z : Int) : bitAnd a z / 2 = bitAnd (a / 2) (z / 2) ∧ (bitAnd a z % 2 = 1 ↔ a % 2 = 1 ∧ z % 2 = 1) := by
  rw [kbt_halves a z]
  split <;> constructor <;> omega
theorem and_apart : ∀ (n : Nat) (a c y : Int), 0 ≤ y → y < 2 ^ n → bitAnd (bitAnd a (2 ^ n - 1 - y)) (bitAnd c y) = 0
  | 0, a, c, y, h0, h1 => by
    have : y = 0 := by simp at h1; omega
    subst this
    rw [and_zero, and_zero]
  | n + 1, a, c, y, h0, h1 => by
    have e := p2succ n
    rw [e] at h1 ⊢
    have ih := and_apart n (a / 2) (c / 2) (y / 2) (by omega) (by omega)
    have e1 : (2 * 2 ^ n - 1 - y) / 2 = 2 ^ n - 1 - y / 2 := by omega
    rw [kbt_halves, (half_and a _).1, (half_and c y).1, e1, ih, if_neg]
    · rfl
    · rw [(half_and a _).2, (half_and c y).2]
      omega
/-- the field set, reckoned -/
theorem set_value {data value : Int} {o b : Nat} (h0 : 0 ≤ data) (h1 : data < 65536) (hb : o + b ≤ 16) :
    bitOr (bitAnd data (bitXor 65535 ((2 ^ b - 1) * 2 ^ o))) (bitAnd (value * 2 ^ o) ((2 ^ b - 1) * 2 ^ o)) = data - data / 2 ^ o % 2 ^ b * 2 ^ o + value % 2 ^ b * 2 ^ o := by
  have hM0 : (0 : Int) ≤ (2 ^ b - 1) * 2 ^ o := Int.mul_nonneg (by have := p2pos b; omega) (Int.le_of_lt (p2pos o))
  have hM1 : ((2 ^ b - 1) * 2 ^ o : Int) < 2 ^ 16 := by
    have e : ((2 ^ b - 1) * 2 ^ o : Int) = 2 ^ (o + b) - 2 ^ o := by rw [Int.sub_mul, Int.pow_add, Int.one_mul, Int.mul_comm]
    have h2 : (2 : Int) ^ (o + b) ≤ 2 ^ 16 := by exact_mod_cast Nat.pow_le_pow_right (n := 2) (by decide) hb
    have h3 := p2pos o
    omega
  have ex : bitXor 65535 ((2 ^ b - 1) * 2 ^ o) = 2 ^ 16 - 1 - (2 ^ b - 1) * 2 ^ o := by
    rw [bitXor_and, bitAnd_m16']
    have : (2 ^ 16 : Int) = 65536 := rfl
    rw [this] at hM1 ⊢
    omega
  rw [ex, bitOr_and, and_apart 16 _ _ _ hM0 hM1, and_less 16 data _ h0 h1, and_field, and_field, Int.mul_ediv_cancel _ (Int.ne_of_gt (p2pos o))]
  omega
theorem get_value (data : Int) (o b : Nat) : (bitAnd data ((2 ^ b - 1) * 2 ^ o)).fdiv (2 ^ o) = (data.fdiv (2 ^ o)).fmod (2 ^ b) := by
  rw [and_field, Int.fdiv_eq_ediv_of_nonneg _ (Int.le_of_lt (p2pos o)), Int.fdiv_eq_ediv_of_nonneg _ (Int.le_of_lt (p2pos o)), Int.fmod_eq_emod_of_nonneg _ (Int.le_of_lt (p2pos b)), Int.mul_ediv_cancel _ (Int.ne_of_gt (p2pos o))]
theorem mod_succ (x : Int) (n : Nat) : x % 2 ^ (n + 1) = x % 2 ^ n + x / 2 ^ n % 2 * 2 ^ n := by
  have e1 := Int.emod_add_mul_ediv x (2 ^ n)
  have e2 := Int.emod_add_mul_ediv (x / 2 ^ n) 2
  have e3 := Int.emod_add_mul_ediv x (2 ^ (n + 1))
  have e4 : x / 2 ^ (n + 1) = x / 2 ^ n / 2 := by rw [Int.pow_succ, Int.ediv_ediv_of_nonneg (Int.le_of_lt (p2pos n))]
  rw [e4, p2succ, Int.mul_assoc, Int.mul_left_comm] at e3
  rw [← e2, Int.mul_add] at e1
  rw [p2succ]
  rw [Int.mul_comm (x / 2 ^ n % 2)]
  omega
def figOf (data value place width k : Int) : Int := if place ≤ k ∧ k < place + width then (value.fdiv (2 ^ (k - place).toNat)).fmod 2 else (data.fdiv (2 ^ k.toNat)).fmod 2
def setStep (data value place width : Int) (o k : Int) : Int := o + figOf data value place width k * 2 ^ k.toNat
theorem rangeKs_push (n : Nat) : rangeKs 0 (n + 1) = rangeKs 0 n ++ [(n : Int)] := by
  unfold rangeKs
  rw [List.range_succ, List.map_append]
  simp
theorem fold_value (data value : Int) (o b : Nat) : ∀ n : Nat, (rangeKs 0 n).foldl (setStep data value o b) 0 = data % 2 ^ n - data / 2 ^ o % 2 ^ (min n (o + b) - o) * 2 ^ o + value % 2 ^ (min n (o + b) - o) * 2 ^ o
  | 0 => by
    have e : min 0 (o + b) - o = 0 := by omega
    rw [e]
    simp [rangeKs, Int.emod_one]
  | n + 1 => by
    rw [rangeKs_push, List.foldl_append, fold_value data value o b n]
    show _ + figOf data value o b n * 2 ^ ((n : Int)).toNat = _
    rw [Int.toNat_natCast]
    by_cases hin : o ≤ n ∧ n < o + b
    · obtain ⟨hi1, hi2⟩ := hin
      obtain ⟨c, rfl⟩ : ∃ c, n = o + c := ⟨n - o, by omega⟩
      have e1 : min (o + c) (o + b) - o = c := by omega
      have e2 : min (o + c + 1) (o + b) - o = c + 1 := by omega
      have ef : figOf data value o b ((o + c : Nat) : Int) = value / 2 ^ c % 2 := by
        unfold figOf
        rw [if_pos ⟨by omega, by omega⟩, show (((o + c : Nat) : Int) - (o : Int)).toNat = c by omega, Int.fdiv_eq_ediv_of_nonneg _ (Int.le_of_lt (p2pos c)), Int.fmod_eq_emod_of_nonneg _ (by decide)]
      rw [e1, e2, ef, mod_succ data, mod_succ (data / 2 ^ o), mod_succ value, Int.ediv_ediv_of_nonneg (Int.le_of_lt (p2pos o)), ← Int.pow_add]
      have ep : (2 : Int) ^ (o + c) = 2 ^ c * 2 ^ o := by rw [Int.pow_add, Int.mul_comm]
      rw [Int.add_mul, Int.add_mul, Int.mul_assoc _ (2 ^ c) (2 ^ o), Int.mul_assoc _ (2 ^ c) (2 ^ o), ← ep]
      omega
    · have e1 : min (n + 1) (o + b) - o = min n (o + b) - o := by omega
      have ef : figOf data value o b (n : Int) = data / 2 ^ n % 2 := by
        unfold figOf
        rw [if_neg (by omega), Int.toNat_natCast, Int.fdiv_eq_ediv_of_nonneg _ (Int.le_of_lt (p2pos n)), Int.fmod_eq_emod_of_nonneg _ (by decide)]
      rw [e1, ef, mod_succ data]
      omega
/-- what is set, by the law's own sum -/
theorem set_sum {data value : Int} {o b : Nat} (h0 : 0 ≤ data) (h1 : data < 65536) (hb : o + b ≤ 16) :
    Builtin.bitOr (Builtin.bitAnd data (Builtin.bitXor 65535 ((2 ^ b - 1) * 2 ^ o))) (Builtin.bitAnd (value * 2 ^ o) ((2 ^ b - 1) * 2 ^ o)) = (rangeKs 0 16).foldl (setStep data value o b) 0 := by
  rw [set_value h0 h1 hb, fold_value data value o b 16]
  have e : min 16 (o + b) - o = b := by omega
  have e2 : data % 2 ^ 16 = data := Int.emod_eq_of_lt h0 h1
  rw [e, e2]
end
end Mine
open PySem.Spec
open Sem (wp)
namespace Mine
section
set_option linter.unusedVariables false
set_option maxRecDepth 100000
set_option maxHeartbeats 1000000
/-- no frame that holds a bytearray while it decodes -/
def cleanCode : Code → Bool
  | .builtin id _ => !Builtin.Bytes.decodersThatHold.contains id
  | _ => true
def cleanStack (st : List (Code × Pos)) : Bool := st.all fun q => cleanCode q.1
/-- the library's judgement, in contexts without such a frame alone -/
def wpC {α : Type} (M : Model) (A : Around) (t : Sem α) (Q : α → Shared → Prop) (E : Value → Shared → Prop) (s : Shared) : Prop :=
  ∀ Γ p, Γ.In A → cleanCode Γ.code = true → cleanStack Γ.below = true → wp M Γ t (fun a _ s' => Q a s') (fun e _ s' => E e s') p s
def codeC (M : Model) (A : Around) (c : Code) (R : Result → Shared → Prop) (s : Shared) : Prop :=
  ∀ Γ p, Γ.code = c → Γ.Below A → cleanStack Γ.below = true → wpCode M Γ R p s
section
variable {α β : Type} {M : Model} {A : Around} {E : Value → Shared → Prop} {s : Shared}
theorem wpC_any {t : Sem α} {Q : α → Shared → Prop} (h : wpAny M A t Q E s) : wpC M A t Q E s := fun Γ p hΓ _ _ => h Γ p hΓ
theorem codeC_any {c : Code} {R : Result → Shared → Prop} (h : codeAny M A c R s) : codeC M A c R s := fun Γ p hc hΓ _ => h Γ p hc hΓ
theorem wpC_mono {t : Sem α} {Q Q' : α → Shared → Prop} {E' : Value → Shared → Prop} (h : wpC M A t Q E s) (hQ : ∀ a s, Q a s → Q' a s) (hE : ∀ e s, E e s → E' e s) : wpC M A t Q' E' s :=
  fun Γ p hΓ h1 h2 => Sem.wp_mono M Γ t (fun a _ s => hQ a s) (fun e _ s => hE e s) p s (h Γ p hΓ h1 h2)
theorem codeC_mono {c : Code} {R R' : Result → Shared → Prop} (h : codeC M A c R s) (hR : ∀ r s, R r s → R' r s) : codeC M A c R' s :=
  fun Γ p hc hΓ h2 => wpCode_mono hR (h Γ p hc hΓ h2)
theorem wpC_bind {m : Sem α} {f : α → Sem β} {Q : β → Shared → Prop} (h : wpC M A m (fun a s' => wpC M A (f a) Q E s') E s) : wpC M A (m >>= f) Q E s := fun Γ p hΓ h1 h2 => by
  rw [Sem.wp_bind']
  exact Sem.wp_mono M Γ m (fun a p' s' h' => h' Γ p' hΓ h1 h2) (fun _ _ _ h' => h') p s (h Γ p hΓ h1 h2)
/-- what goes ahead is the library's, what comes behind is ours -/
theorem wpC_then {m : Sem α} {f : α → Sem β} {Q : β → Shared → Prop} (h : wpAny M A m (fun a s' => wpC M A (f a) Q E s') E s) : wpC M A (m >>= f) Q E s := wpC_bind (wpC_any h)
/-- what goes ahead is ours, what comes behind is the library's -/
theorem wpC_front {m : Sem α} {f : α → Sem β} {Q : β → Shared → Prop} (h : wpC M A m (fun a s' => wpAny M A (f a) Q E s') E s) : wpC M A (m >>= f) Q E s :=
  wpC_bind (wpC_mono h (fun _ _ x => wpC_any x) fun _ _ x => x)
theorem wpC_pure {a : α} {Q : α → Shared → Prop} (h : Q a s) : wpC M A (pure a) Q E s := fun _ _ _ _ _ => h
theorem wpC_holding {vs : List Value} {m : Sem α} {Q : α → Shared → Prop} (h : wpC M A m Q E s) : wpC M A (holding vs m) Q E s := fun Γ p hΓ h1 h2 => by rw [Sem.wp_holding]; exact h Γ p hΓ h1 h2
theorem wpC_keep {vs : List Value} {m : Sem α} {Q : α → Shared → Prop} (h : wpC M A m Q E s) : wpC M A (m.keep vs) Q E s := fun Γ p hΓ h1 h2 => by rw [Sem.wp_keep]; exact h Γ p hΓ h1 h2
theorem wpC_ite {c : Prop} [Decidable c] {a b : Sem α} {Q : α → Shared → Prop} (h : if c then wpC M A a Q E s else wpC M A b Q E s) : wpC M A (if c then a else b) Q E s := by split <;> simp_all
theorem wpC_tryCatch {m : Sem α} {k : Value → Sem α} {Q : α → Shared → Prop} (h : wpC M A m Q (fun e s' => wpAny M A (k e) Q E s') s) : wpC M A (tryCatch m k) Q E s := fun Γ p hΓ h1 h2 => by
  rw [Sem.wp_tryCatch']
  exact Sem.wp_mono M Γ m (fun _ _ _ h' => h') (fun e p' s' h' => h' Γ p' hΓ) p s (h Γ p hΓ h1 h2)
theorem wpC_onRaise {m : Sem α} {k : Value → Sem Unit} {Q : α → Shared → Prop} (h : wpC M A m Q (fun e s' => wpAny M A (k e) (fun _ s'' => E e s'') E s') s) : wpC M A (m.onRaise k) Q E s := fun Γ p hΓ h1 h2 => by
  rw [Sem.wp_onRaise]
  exact Sem.wp_mono M Γ m (fun _ _ _ h' => h') (fun e p' s' h' => h' Γ p' hΓ) p s (h Γ p hΓ h1 h2)
theorem clean_cons {Γ : PySem.Ctx} {p : Pos} (h1 : cleanCode Γ.code = true) (h2 : cleanStack Γ.below = true) : cleanStack ((Γ.code, p) :: Γ.below) = true := by
  show (cleanCode Γ.code && cleanStack Γ.below) = true
  rw [h1, h2]
  rfl
theorem wpC_runValue {c : Code} {Q : Value → Shared → Prop} (hc : codeC M A c (fun r s' => match r with | .ok (.ret v) => Q v s' | .ok _ => False | .error e => E e s') s) : wpC M A (runValue c) Q E s :=
  fun Γ p hΓ h1 h2 => by
    rw [Sem.wp_runValue]
    exact hc _ p rfl (hΓ.enter c none p (by intro x; cases x)) (clean_cons h1 h2)
theorem wpC_call {f : Value} {pos : List Value} {kw : List (Str × Value)} {Q : Value → Shared → Prop}
    (hc : codeC M A (.call f ⟨pos, kw⟩) (fun r s' => match r with | .ok (.ret v) => Q v s' | .ok _ => False | .error e => E e s') s) : wpC M A (call f pos kw) Q E s := wpC_runValue hc
theorem codeC_tree {c : Code} {R : Result → Shared → Prop} (hcc : cleanCode c = true)
    (h : wpC M (A.under c) (M.den c) (fun fin s' => match fin with | .done f => R (.ok f) s' | .again c' => c'.quiet = true ∧ codeC M A c' R s') (fun e s' => R (.error e) s') s) : codeC M A c R s := fun Γ p hc hΓ hcl => by
  rw [wpCode_iff_wp, hc]
  refine Sem.wp_mono M Γ _ (fun fin p' s' h' => ?_) (fun _ _ _ h' => h') p s (h Γ p (hc ▸ hΓ.in) (hc ▸ hcc) hcl)
  cases fin with
  | done f => exact h'
  | again c' => exact ⟨h'.1, h'.2 (Γ.goto c') p' rfl (hΓ.goto c') hcl⟩
end

/-- a fresh bytearray is exported by nobody, where no such frame stands -/
theorem wpC_exported {M : Model} {A : Around} {E : Value → Shared → Prop} {s : Shared} {self : Value} {Q : Bool → Shared → Prop} (hg : A.guards = some []) (h : Q false s) : wpC M A (Builtin.Bytes.exported self) Q E s := fun Γ p hΓ h1 h2 => by
  have key : ∀ q ∈ ((Γ.code, p) :: Γ.below), cleanCode q.1 = true ∧ q.1.isGuard = false := by
    have hgs := hΓ.2.2.2.1 [] hg
    have hall := clean_cons (p := p) h1 h2
    intro q hq
    refine ⟨List.all_eq_true.mp hall q hq, ?_⟩
    cases hx : q.1.isGuard with
    | false => rfl
    | true =>
      have hm : q.1 ∈ guardsOf ((Γ.code, p) :: Γ.below) := List.mem_filter.mpr ⟨List.mem_map_of_mem hq, hx⟩
      rw [guardsOf_cons, hgs] at hm
      cases hm
  unfold Builtin.Bytes.exported
  rw [Sem.wp_bind']
  unfold stack
  rw [Sem.wp_stack]
  show Q (List.any ((Γ.code, p) :: Γ.below) _) s
  have e : ∀ {f : Code × Pos → Bool}, (∀ q ∈ ((Γ.code, p) :: Γ.below), f q = false) → ((Γ.code, p) :: Γ.below).any f = false := fun {f} hf => by
    rw [List.any_eq_false]
    intro q hq
    rw [hf q hq]
    exact Bool.false_ne_true
  rw [e (fun q hq => ?_)]
  · exact h
  · obtain ⟨k1, k2⟩ := key q hq
    obtain ⟨c, p'⟩ := q
    dsimp only at k1 k2 ⊢
    split <;> rename_i heq
    · cases heq; simp [Code.isGuard, guardIds] at k2
    · cases heq; simp [Code.isGuard, guardIds] at k2
    · cases heq; simp [Code.isGuard, guardIds] at k2
    · cases heq; simp [Code.isGuard, guardIds] at k2
    · cases heq; simp [Code.isGuard, guardIds] at k2
    · cases heq
      simp only [cleanCode, Bool.not_eq_true'] at k1
      rw [k1, Bool.and_false]
    · rfl
section
variable {prog : Program} {w : World} {A A₀ : Around} {E : Value → Shared → Prop} {s : Shared} {R : Result → Shared → Prop}
theorem codeC_func {body : List Stmt} {env : Env}
    (h : wpC (model prog w) (A.deeper env) (execs body env) (fun f s' => R (.ok (.ret (match f with | .ret v => v | _ => .none))) s')
      (fun e s' => wpAny (model prog w) (A.deeper env) (leaving env e) (fun _ s'' => R (.error e) s'') (fun e' s'' => R (.error e') s'') s') s) :
    codeC (model prog w) A (.func body env) R s := by
  refine codeC_tree rfl ?_
  show wpC _ (A.deeper env) (do point; match ← (execs body env).onRaise (leaving env) with | .ret v => ret v | _ => ret .none) _ _ s
  refine wpC_then (wpAny_point (wpC_front (wpC_onRaise (wpC_mono h (fun f s' h' => ?_) fun _ _ h' => h'))))
  cases f <;> exact wpAny_pure h'
theorem codeC_call_function {a : Addr} {args : Args} {o : Obj} {fd : FuncData} {body : List Stmt} (hroom : A.depth < recursionLimit) (ho : s.heap.get? a = some o)
    (hd' : o.data = .func fd) (hco : fd.scope.isCoroutine = false) (hgen : fd.scope.isGenerator = false) (hbody : fd.body = .stmts body) (hcd : s.heap.CodeRec fd.code fd.qualname)
    (h : wpAny (model prog w) A.in1 (bindArgs fd args) (fun binds s₁ =>
      wpAny (model prog w) A.in1 (newFunctionEnv fd.scope fd.globals fd.closure binds (fd.qualname ++ ".<locals>.") (some a) fd.code none fd.builtins)
        (fun env s₂ => s₂.heap.NoLimit ∧ codeC (model prog w) A (.func body env) R s₂) (fun e s' => R (.error e) s') s₁) (fun e s' => R (.error e) s') s) :
    codeC (model prog w) A (.call (.ref a) args) R s := by
  refine codeC_tree rfl (wpC_any ?_)
  show wpAny _ A.in1 (callAny (.ref a) args) _ _ s
  simp only [callAny]
  refine wpAny_bind (wpAny_load ho ?_)
  obtain ⟨c, oc, vs, tq, hc, hoc, hdc, hq⟩ := hcd
  simp only [hd', callFunction, hco, hgen, hbody, hc]
  rw [hc] at h
  refine wpAny_bind (m := field (.ref c) 1) (wpAny_field hoc hdc hq (wpAny_bind (wpAny_pure ?_)))
  exact wpAny_bind (wpAny_mono h (fun binds s₁ h₁ => wpAny_bind (wpAny_mono h₁ (fun env s₂ h₂ => wpAny_bind (wpAny_enterFrame h₂.1 hroom
    (wpAny_pure (And.intro rfl h₂.2)))) fun _ _ h' => h')) fun _ _ h' => h')
end
end
section
set_option linter.unusedVariables false
set_option maxRecDepth 100000
set_option maxHeartbeats 1000000
/-- `m`, where no decoder stands on the stack; else `d` -/
def gated {α : Type} (d : α) (m : Sem α) : Sem α := do
  let st ← stack
  if cleanStack st then m else pure d
section
variable {α : Type} {M : Model} {A : Around} {E : Value → Shared → Prop} {s : Shared}
theorem wp_gated {Γ : PySem.Ctx} {p : Pos} {d : α} {m : Sem α} {Q : α → Pos → Shared → Prop} {E' : Value → Pos → Shared → Prop} :
    wp M Γ (gated d m) Q E' p s ↔ if cleanStack ((Γ.code, p) :: Γ.below) then wp M Γ m Q E' p s else Q d p s := by
  unfold gated
  rw [Sem.wp_bind']
  unfold stack
  rw [Sem.wp_stack]
  show wp M Γ (if cleanStack ((Γ.code, p) :: Γ.below) then m else pure d) Q E' p s ↔ _
  split <;> rfl
theorem clean_of {Γ : PySem.Ctx} {p : Pos} (h : cleanStack ((Γ.code, p) :: Γ.below) = true) : cleanCode Γ.code = true ∧ cleanStack Γ.below = true := Bool.and_eq_true_iff.mp h
theorem wpAny_gated {d : α} {m : Sem α} {Q : α → Shared → Prop} (h : wpC M A m Q E s) (hd : Q d s) : wpAny M A (gated d m) Q E s := fun Γ p hΓ => by
  rw [wp_gated]
  split
  · rename_i hc
    exact h Γ p hΓ (clean_of hc).1 (clean_of hc).2
  · exact hd
theorem wpC_gated {d : α} {m : Sem α} {Q : α → Shared → Prop} (h : wpAny M A (gated d m) Q E s) : wpC M A m Q E s := fun Γ p hΓ h1 h2 => by
  have := h Γ p hΓ
  rw [wp_gated, if_pos (clean_cons h1 h2)] at this
  exact this
end
/-- the caller's tree -/
def calls (name : Str) (vs : List Value) : Sem Fin := do
  match ← nsGet mainNs name with
  | some f => do ret (← PySem.call f vs)
  | none => unsupported "claim.caller:no-such-global"
theorem gate_open {den : Code → Sem Fin} {p : Program} {w : World} {s s' : Shared} {t : Sem Fin} {d : Fin} {o : Outcome} (hs : s.asleep) : ∀ n, schedN den p w n (.single s ⟨gated d t, .builtin "claim.caller" {}, default, []⟩) = .halted o s' →
    ∃ n', schedN den p w n' (.single s ⟨t, .builtin "claim.caller" {}, default, []⟩) = .halted o s'
  | 0, h => nomatch h
  | n + 1, h => by
    have e₀ : step den p w s ⟨gated d t, .builtin "claim.caller" {}, default, []⟩ = .go s ⟨t, .builtin "claim.caller" {}, default, []⟩ := rfl
    rcases sstep_single den p w s ⟨gated d t, .builtin "claim.caller" {}, default, []⟩ rfl hs with e | e
    · rw [e₀] at e
      refine ⟨n, ?_⟩
      simp only [schedN, e] at h
      exact h
    · rw [e₀] at e
      cases e
theorem from_gate {c : ClaimW} {name : Str} {d : Fin} {w : World} {free : Addr → Prop} {gens : Prop} {kept : Heap → Prop} {s : Shared} (hz : s.asleep)
    (h : c.CallFrom (fun vs => ⟨gated d (calls name vs), .builtin "claim.caller" {}, default, []⟩) w free gens kept s) : c.CallFrom (callStub name) w free gens kept s := by
  intro args hpre hlay ord hord
  obtain ⟨vs, s₁, hl, n, o, s', hs, rest⟩ := h args hpre hlay ord hord
  obtain ⟨n', hs'⟩ := gate_open (Shared.asleep_of_life (layAllW_rest _ _ _ hl).2.2.2 hz) n hs
  exact ⟨vs, s₁, hl, n', o, s', hs', rest⟩
theorem open_gate {c : ClaimW} {name : Str} {d : Fin} {defs keeps : List Str} {writes : Bool}
    (h : c.HoldsOpenBy (fun vs => ⟨gated d (calls name vs), .builtin "claim.caller" {}, default, []⟩) defs keeps writes) : c.HoldsOpenBy (callStub name) defs keeps writes := by
  obtain ⟨a, b, k⟩ := h
  refine ⟨a, b, fun w => ⟨(k w).1, fun s hs => ?_⟩⟩
  obtain ⟨s₀, hf, hg, s₁, hT, h1, h2, h3, hc⟩ := (k w).2 s hs
  have z : s₁.asleep := Shared.asleep_of_life (hT.2.1.trans (fence_lifeW hf)) (AfterImport.life hs)
  exact ⟨s₀, hf, hg, s₁, hT, h1, h2, h3, from_gate z hc⟩
theorem calls_gated {prog : Program} {name : Str} {w : World} {vs : List Value} {s : Shared} {mg : Str → Option Value} {f : Value} {d : Value} {Q : Fin → Shared → Prop} {E : Value → Shared → Prop} (hg : s.heap.Ns mainGlobals mg) (hf : mg name = some f)
    (h : wpAny (model prog w) callerA (gated d (PySem.call f vs)) (fun v s' => Q (.done (.ret v)) s') E s) : wpAny (model prog w) callerA (gated (.done (.ret d)) (calls name vs)) Q E s := fun Γ p hΓ => by
  rw [wp_gated]
  split
  · rename_i hc
    refine (?_ : wpC (model prog w) callerA (calls name vs) Q E s) Γ p hΓ (clean_of hc).1 (clean_of hc).2
    exact wpC_then (wpAny_nsGet hg (by rw [hf]; exact wpC_front (wpC_mono (wpC_gated h) (fun v s' x => wpAny_pure x) fun _ _ x => x)))
  · rename_i hc
    have := h Γ p hΓ
    rw [wp_gated, if_neg hc] at this
    exact this
theorem PySem.W.holds_open {r : OpenRow} {q : Program} {loose : List Str} {Xt : Shared → Bool} {XP : (Str → Option Value) → Heap → Prop} {α : Type} {Yf : Shared → α} {Ya : World → α} {YP : World → Heap → Prop} {d : DefRec} {kwd : List (Str × Expr)} {N : Nat}
    (left : LeftO r.prog q loose Xt Yf Ya N) (hY : ∀ w s, Yf s = Ya w → YP w s.heap) (hYk : ∀ w h h', YP w h → (∀ b o, h.get? b = some o → h'.get? b = some o) → YP w h')
    (hX : ∀ s, Xt s = true → XP (s.heap.nsMap mainGlobals) s.heap) (hXk : ∀ mg h h', XP mg h → (∀ b o, h.get? b = some o → h'.get? b = some o) → XP mg h')
    (hdef : defOf q r.name = some (d, kwd)) (hp : r.prog.theDef r.name = some (d.params, d.body, d.scope)) (hk : kwWritten? d.params.kwonlyargs d.params.kw_defaults = some kwd) (hRf : ∀ s, Xt s = true → RecFacts r.records s.heap) (hwr : (!r.writes || r.records.isEmpty) = true)
    (k1 : r.wellSaid = true) (ok : (chainsOk q && opensWell r.prog && (frees r.toRowW && r.within.isEmpty)) = true) (hb : r.prog.bare) (hw : r.toRowW.promised)
    (call : WalkO q loose XP YP r.toRowW d kwd fun f vs => gated (.bool true) (PySem.call f vs)) : r.Holds :=
  ⟨k1, hw, open_gate (open_anyG (r := r.toRowW) (run := fun f vs => gated (.bool true) (PySem.call f vs)) (tree := fun vs => gated (.done (.ret (.bool true))) (calls r.name vs)) left hY hYk hX hXk hRf hwr ok hb hw
    (fun _ _ _ _ _ _ _ hg hf h => calls_gated hg hf h)
    (fun w s hg G n hn => by
      obtain rfl : n = r.name := by split at hn <;> simp_all
      exact pinned_of_view hg G hdef hp hk)
    fun w s₀ s₁ mg mb G Y args vs as hpre hlay L low =>
      let ⟨a, o, pm, cd, doc, dV, kV, h1, h2, h3, h4, h5⟩ := G.fn hdef
      ⟨.ref a, h1, call w s₀ s₁ mg mb G Y a o pm cd doc dV kV h2 h3 h4 h5 (defOf_name hdef ▸ h1) L.gens args vs as hpre hlay L.reads L.well (L.low low)⟩)⟩
end
set_option Elab.async false
set_option maxRecDepth 100000 in
set_option maxHeartbeats 8000000 in
open_top hd for PySem.Challenge.rw_aa6002_01
set_option Elab.async false
set_option maxRecDepth 100000
set_option maxHeartbeats 4000000

/-- what a call of a def of the text promises: `vs` the arguments, `R` what comes back, `need` what the caller must know -/
def Claim (w : World) (r : Nat) (f : Addr) (need : Heap → List (Addr × Obj) → Prop) (vs : List Value) (R : Tok → Value) : Prop :=
  ∀ (p : Program) (loose : List Str) (mean : ExcName → Option Value) (mg mb : Str → Option Value) (dp un : Nat) (gd : Option (List Code)) (cn : Str) (cs : Scope) (a : Addr) (ccd : Value) (cl : List (Str × Addr)) (outer : List Env) (A₀ : Around) (base h₀ : Heap) (L : Addr) (m : Str → Option Value) (news : List (Addr × Obj)) (s : Shared) (Q E : Value → Shared → Prop),
    Below A₀ base outer h₀ → Fr h₀ L s.heap m → (hd.heap_39 w.params).In h₀ → News h₀ L s.heap news → Top p loose mean mg mb h₀ → cs.kind = .function → need base news → dp + r < recursionLimit → un + 8 * r < cLine →
    CbRet h₀ L m news s Q R →
    wpAny (model PySem.Challenge.rw_aa6002_01.row.prog w) (ktrTop dp un gd cn cs L a ccd cl outer) (call (.ref f) vs) Q E s

/-- the same for a def that hands back a new list -/
def ClaimL (w : World) (r : Nat) (f : Addr) (need : Heap → List (Addr × Obj) → Prop) (vs : List Value) (R : List Value → Prop) : Prop :=
  ∀ (p : Program) (loose : List Str) (mean : ExcName → Option Value) (mg mb : Str → Option Value) (dp un : Nat) (gd : Option (List Code)) (cn : Str) (cs : Scope) (a : Addr) (ccd : Value) (cl : List (Str × Addr)) (outer : List Env) (A₀ : Around) (base h₀ : Heap) (L : Addr) (m : Str → Option Value) (news : List (Addr × Obj)) (s : Shared) (Q E : Value → Shared → Prop),
    Below A₀ base outer h₀ → Fr h₀ L s.heap m → (hd.heap_39 w.params).In h₀ → News h₀ L s.heap news → Top p loose mean mg mb h₀ → cs.kind = .function → need base news → dp + r < recursionLimit → un + 8 * r < cLine →
    (∀ (l : Addr) (us : List Value) (c : Nat) (h' : Heap) (tk' : Nat), Fr h₀ L h' m → News h₀ L h' ((l, listOf us.toArray c) :: news) → (∀ p ∈ news, p.1 < l) → R us → Q (.ref l) { s with heap := h', toks := tk' }) →
    wpAny (model PySem.Challenge.rw_aa6002_01.row.prog w) (ktrTop dp un gd cn cs L a ccd cl outer) (call (.ref f) vs) Q E s


theorem news_more {h₀ h : Heap} {L : Addr} {q : Addr × Obj} {news : List (Addr × Obj)} (N : News h₀ L h news) (hq : q ∈ news) : News h₀ L h (q :: news) := fun p hp => by
  rcases List.mem_cons.mp hp with rfl | hp
  · exact N _ hq
  · exact N _ hp
theorem news_less {h₀ h : Heap} {L : Addr} {q : Addr × Obj} {news : List (Addr × Obj)} (N : News h₀ L h (q :: news)) : News h₀ L h news := fun p hp => N p (List.mem_cons_of_mem _ hp)
section
variable {w : World} {r : Nat} {f : Addr} {need : Heap → List (Addr × Obj) → Prop} {vs : List Value} {p : Program} {loose : List Str} {mean : ExcName → Option Value} {mg mb : Str → Option Value} {dp un : Nat} {gd : Option (List Code)} {cn : Str} {cs : Scope} {a : Addr} {ccd : Value} {cl : List (Str × Addr)} {outer : List Env} {A₀ : Around} {base h₀ : Heap} {L : Addr} {m : Str → Option Value} {news : List (Addr × Obj)} {s : Shared} {Q E : Value → Shared → Prop}
theorem Claim.use {R : Tok → Value} (C : Claim w r f need vs R) (B : Below A₀ base outer h₀) (F : Fr h₀ L s.heap m) (X : (hd.heap_39 w.params).In h₀) (N : News h₀ L s.heap news) (T : Top p loose mean mg mb h₀) (hk : cs.kind = .function) (hn : need base news) (hd : dp + r < recursionLimit) (hu : un + 8 * r < cLine)
    (ret : CbRet h₀ L m news s Q R) : wpAny (model PySem.Challenge.rw_aa6002_01.row.prog w) (ktrTop dp un gd cn cs L a ccd cl outer) (call (.ref f) vs) Q E s := C _ _ _ _ _ _ _ _ _ _ _ _ _ _ _ _ _ _ _ _ _ _ _ B F X N T hk hn hd hu ret
theorem ClaimL.use {R : List Value → Prop} (C : ClaimL w r f need vs R) (B : Below A₀ base outer h₀) (F : Fr h₀ L s.heap m) (X : (hd.heap_39 w.params).In h₀) (N : News h₀ L s.heap news) (T : Top p loose mean mg mb h₀) (hk : cs.kind = .function) (hn : need base news) (hd : dp + r < recursionLimit) (hu : un + 8 * r < cLine)
    (ret : ∀ (l : Addr) (us : List Value) (c : Nat) (h' : Heap) (tk' : Nat), Fr h₀ L h' m → News h₀ L h' ((l, listOf us.toArray c) :: news) → (∀ p ∈ news, p.1 < l) → R us → Q (.ref l) { s with heap := h', toks := tk' }) : wpAny (model PySem.Challenge.rw_aa6002_01.row.prog w) (ktrTop dp un gd cn cs L a ccd cl outer) (call (.ref f) vs) Q E s := C _ _ _ _ _ _ _ _ _ _ _ _ _ _ _ _ _ _ _ _ _ _ _ B F X N T hk hn hd hu ret
end

/-- what a call asks beside the claim's own premises -/
local macro_rules | `(tactic| walk_at "mine asks") => `(tactic| (
  (case k1 => k_asm)
  (case k2 => k_asm)
  (case k3 => k_asm)
  (case k4 => k_asm)
  (case k5 => k_asm)
  (case kK => first | exact rfl | assumption)
  (case kd => ktr_room)
  (case ku => ktr_units)))

set_option hygiene false in
local macro_rules | `(tactic| walk_at "mine in") => `(tactic| (
  w_top off
  refine wpAny_call ?_
  k_dflt (first
  | (refine' code_def ?k1 ?k2 ?k3 ?k4 ?k5 ?kA ?kF ?kK ?k6 ?k7 ?k8 ?k9 ?kB ?_ ?c2 ?c3 ?c4 ?c5; (case kA => exact rfl); (case kF => exact rfl); (case kK => first | exact rfl | assumption); (case k1 => k_asm); (case k2 => k_asm); (case k3 => k_asm); (case k4 => k_asm); (case k5 => k_asm); (case k6 => k_is); (case k7 => k_is); (case k8 => ktr_room); (case k9 => first | exact BindsTo.of_eq rfl | exact binds_K (by k_in) rfl (by k_is) rfl rfl rfl); (case c5 => decide); (case kB => exact locs rfl); (case c2 => exact rfl); (case c3 => exact rfl); (case c4 => exact rfl); k_whole; intro g' L' h' FG' F' N' B' X' T'; (try dsimp only); (try k_lift B'); (try k_fold))
  | (refine' code_defC ?k1 ?k2 ?k3 ?k4 ?k5 ?kA ?kF ?kK ?k6 ?k7 ?k8 ?k9 ?kB ?kD ?_ ?c2 ?c3 ?c4; (case kA => exact rfl); (case kF => exact rfl); (case kK => first | exact rfl | assumption); (case k1 => k_asm); (case k2 => k_asm); (case k3 => k_asm); (case k4 => k_asm); (case k5 => k_asm); (case k6 => k_is); (case k7 => k_is); (case k8 => ktr_room); (case k9 => first | exact BindsTo.of_eq rfl | exact binds_K (by k_in) rfl (by k_is) rfl rfl rfl); (case kB => exact rfl); (case kD => decide +kernel); (case c2 => exact rfl); (case c3 => exact rfl); (case c4 => exact rfl); k_whole; intro g' L' h' tk' cells' FG' F' N' Y' B' X' T' l1; (try k_lt l1); k_cells Y'; (try simp only [List.cons_append, List.nil_append] at N'); (try dsimp only); (try k_lift B'); (try k_fold)))))

set_option hygiene false in
local macro_rules | `(tactic| walk_at "mine end") => `(tactic| first
  | exact hret _ _ _ (by k_asm) (by k_asm)
  | exact hret _ _ _ (by k_asm) (cb_drop (by assumption) (by kcj_all)))
section
set_option linter.unusedVariables false
set_option maxRecDepth 100000
set_option maxHeartbeats 400000
def figs (number : Int) (n : Nat) : List Str := (List.range n).map fun i => Str.ofString (toString ((number.fdiv (2 ^ i)).fmod 2))
section
variable {prog : Program} {w : World} {A : Around} {E : Value → Shared → Prop} {s : Shared} {env : Env} {h₀ : Heap} {x : Str} {body : List Stmt} {Q : Flow → Shared → Prop}
theorem figs_loop {r D l : Addr} {o : Obj} {b₀ : Int} {t₀ u₀ v₀ tx : Tok} {n : Nat} {number : Int} {m₀ : Str → Option Value} {news : List (Addr × Obj)} 
    (hh : A.handled = none) (hr : IsRange s.heap r 0 b₀ 1 t₀ u₀ v₀) (hsmall : Builtin.Range.small 0 b₀ 1 = true) (hn : Builtin.Range.rangeSize 0 b₀ 1 = (n : Int)) (F : Fr h₀ env.locals s.heap m₀)
    (N : News h₀ env.locals s.heap ((D, o) :: (l, listOf #[] 0) :: news)) (hk : m₀ (Str.ofString "left") = some (Value.int number tx))
    (turn : ∀ (vs : List Value) (c : Nat) (left : Int) (tl : Tok) (pre : List Int) (k : Int) t (u : Str → Option Value) h tk own, k = 0 + (pre.length : Int) → pre.length < n → OwnOff own (D :: l :: news.map (·.1)) → 
      StrsAre vs (figs number pre.length) → left = number.fdiv (2 ^ pre.length) →
      Fr h₀ env.locals h (fun y => if y = x then some (.int k t) else kstB (fun z => if [].contains z then u z else m₀ z) [(Str.ofString "left", Value.int left tl)] y) → News h₀ env.locals h ((D, o) :: (l, listOf vs.toArray c) :: (news ++ own)) →
      wpAny (model prog w) A (execs body env) (InvPostN h₀ env.locals (KstS (fun (c : List Value × Nat × Int × Tok) => (D, o) :: (l, W.listOf c.1.toArray c.2.1) :: news) (fun c => [(Str.ofString "left", Value.int c.2.2.1 c.2.2.2)]) (fun _ => True) x [] m₀ (fun pre c => StrsAre c.1 (figs number pre.length) ∧ c.2.2.1 = number.fdiv (2 ^ pre.length)) (pre ++ [k])) own (D :: l :: news.map (·.1)) { s with heap := h, toks := tk } Q) E { s with heap := h, toks := tk })
    (done : ∀ (vs : List Value) (c : Nat) (left : Int) (tl : Tok) (u : Str → Option Value) h tk, StrsAre vs (figs number n) → Fr h₀ env.locals h (fun y => if y = x then u y else kstB (fun z => if [].contains z then u z else m₀ z) [(Str.ofString "left", Value.int left tl)] y) → News h₀ env.locals h ((D, o) :: (l, listOf vs.toArray c) :: news) → Q .next { s with heap := h, toks := tk }) :
    wpAny (model prog w) A (pyIter (.ref r)) (fun it s₂ => LoopAtV prog w A h₀ env x body Q E it s₂) E s := by
  refine kst_range (σ := List Value × Nat × Int × Tok) (fun c => (D, o) :: (l, W.listOf c.1.toArray c.2.1) :: news) (fun c => [(Str.ofString "left", Value.int c.2.2.1 c.2.2.2)]) (fun _ => True) [] (fun pre c => StrsAre c.1 (figs number pre.length) ∧ c.2.2.1 = number.fdiv (2 ^ pre.length)) ([], 0, number, tx) hh hr hsmall hn F N trivial ?_ ?_ ?_ ?_
  · intro p hp
    rcases List.mem_singleton.mp hp with rfl
    exact hk
  · exact ⟨StrsAre.nil, (Int.fdiv_one _).symm⟩
  · rintro ⟨vs, c, left, tl⟩ pre k t u h tk own hk hlt hoff _ ⟨hP, hP'⟩ F N
    exact turn vs c left tl pre k t u h tk own hk hlt hoff hP hP' F N
  · rintro ⟨vs, c, left, tl⟩ u h tk _ ⟨hP, hP'⟩ F N
    rw [rangeKs_length] at hP
    exact done vs c left tl u h tk hP F N
end
theorem figs_next (n : Int) (k : Nat) : (n.fdiv (2 ^ k)).fdiv 2 = n.fdiv (2 ^ (k + 1)) := by
  rw [Int.fdiv_eq_ediv_of_nonneg _ (by decide), Int.fdiv_eq_ediv_of_nonneg _ (Int.le_of_lt (Int.pow_pos (by decide))), Int.fdiv_eq_ediv_of_nonneg _ (Int.le_of_lt (Int.pow_pos (by decide))), Int.ediv_ediv_of_nonneg (Int.le_of_lt (Int.pow_pos (by decide))), Int.pow_succ]
theorem figs_push {n left : Int} {vs : List Value} {k : Nat} (h : StrsAre vs (figs n k)) (e : left = n.fdiv (2 ^ k)) (t : Tok) : StrsAre (vs ++ [Value.str (Str.ofString (toString (left.fmod 2))) t]) (figs n (k + 1)) := by
  subst e
  unfold figs
  rw [List.range_succ, List.map_append]
  exact h.append' (StrsAre.cons _ _ StrsAre.nil)
theorem figures_claim (w : World) (number count : Int) (t1 t2 : Tok) (h0 : 0 ≤ count) (h1 : count < 40) :
    ClaimL w 2 96 (fun _ _ => True) [.int number t1, .int count t2] (fun vs => StrsAre vs (figs number count.toNat)) := by
  unfold ClaimL
  k_fill
  intro p loose mean mg mb dp un gd cn cs a ccd cl outer A₀ base h₀ L m news s Q E B F X N T hk hneed hd hu hret
  walk_at "mine in"
  replace F' : Fr g' L' h' (fun y => List.lookup y [(Str.ofString "count", .int count t2), (Str.ofString "number", .int number t1)]) := F'
  repeat ((fail_if_success (with_reducible show wpAny _ _ (pyIter _) _ _ _)); (first | (k_unfold; try dsimp only) | walk1 | (dsimp only; walk1)))
  try (k_unfold; try dsimp only)
  rename Fr _ _ _ _ => lF'
  rename News _ _ _ _ => lN'
  rename IsRange _ _ _ _ _ _ _ _ => rgX
  refine figs_loop (by rfl) rgX (by exact small_one (by omega) (by omega) (by omega) (by omega)) (by exact rangeSize_nat _ _) lF' lN' (by rfl) ?_ ?_
  all_goals (try clear lF' lN')
  · intro vs c left tl pre k t u h tk own hk hlt hoff hP hP' F N
    have kMark := kstMark
    have hvl : vs.length = pre.length := by have e := hP.length; simpa [figs] using e
    k_steps
    rename News _ _ _ _ => nE'
    simp only [List.push_toArray] at nE'
    refine' kst_end ⟨vs ++ [Value.str _ _], c+1, left.fdiv 2, _⟩ (by assumption) nE' ?hn ?ho (by rfl) trivial ?hk ?hr ?hp
    case hn => kst_in
    case ho => intro p hp; kst_mem
    case hk => kst_all
    case hr =>
      intro z h1 h2 h3
      have h4 : z ≠ Str.ofString "left" := h2 _ (List.mem_singleton.mpr rfl)
      simp [h1, h4, kstB]
    case hp =>
      rw [List.length_append]
      exact ⟨figs_push hP hP' _, by rw [hP']; exact figs_next _ _⟩
  · intro vs c left tl u h tk hP F N
    k_steps
    exact hret _ vs c _ _ (by k_asm) (cb_drop (by assumption) (by kcj_all)) (by k_asm) (by simpa using hP)
end
set_option linter.unusedVariables false
set_option maxRecDepth 100000
set_option maxHeartbeats 4000000
theorem mask_one (b o : Nat) : (1 * 2 ^ b - 1) * 2 ^ o = ((2 ^ b - 1) * 2 ^ o : Int) := by rw [Int.one_mul]
theorem get_claim (w : World) (data offset bits : Int) (t1 t2 t3 : Tok) (h0 : 0 ≤ offset) (h1 : offset < 40) (h2 : 0 ≤ bits) (h3 : bits ≤ 20) :
    Claim w 2 28 (fun _ _ => True) [.int data t1, .int offset t2, .int bits t3] (fun t => .int ((data.fdiv (2 ^ offset.toNat)).fmod (2 ^ bits.toNat)) t) := by
  unfold Claim
  k_fill
  intro p loose mean mg mb dp un gd cn cs a ccd cl outer A₀ base h₀ L m news s Q E B F X N T hk hneed hd hu hret
  rw [← get_value, ← mask_one] at hret
  walk_at "mine in"
  replace F' : Fr g' L' h' (fun y => List.lookup y [(Str.ofString "bits", .int bits t3), (Str.ofString "offset", .int offset t2), (Str.ofString "data", .int data t1)]) := F'
  k_steps
  exact hret _ _ _ (by k_asm) (by k_asm)
theorem get_claim1 (w : World) (data offset : Int) (t1 t2 : Tok) (h0 : 0 ≤ offset) (h1 : offset < 40) :
    Claim w 2 28 (fun _ _ => True) [.int data t1, .int offset t2] (fun t => .int ((data.fdiv (2 ^ offset.toNat)).fmod 2) t) := by
  unfold Claim
  k_fill
  intro p loose mean mg mb dp un gd cn cs a ccd cl outer A₀ base h₀ L m news s Q E B F X N T hk hneed hd hu hret
  have e2 : (2 : Int) = 2 ^ 1 := rfl
  have e := get_value data offset.toNat 1
  rw [← mask_one, ← e2] at e
  rw [← e] at hret
  walk_at "mine in"
  k_steps
  exact hret _ _ _ (by k_asm) (by k_asm)
section
variable {prog : Program} {w : World} {A : Around} {E : Value → Shared → Prop} {s : Shared} {a n : Int} {t u : Tok} {Q : Value → Shared → Prop}
theorem lshift_big (hb : Builtin.Int.intBits a ≤ 1048600) (hn : 0 ≤ n) (h1 : n < 64) (h : Q (.int (a * 2 ^ n.toNat) s.toks) { s with toks := s.toks + 1 }) : wpAny (model prog w) A (binaryOp .LShift (.int a t) (.int n u)) Q E s :=
  lshift_int hn (by have e : (2 : Int) ^ 27 = 134217728 := rfl
                    omega) h
end
local macro_rules | `(tactic| walk_at "binaryOp LShift int int") => `(tactic| ((rename Builtin.Int.intBits _ ≤ 1048600 => hb9); k_dflt (refine' lshift_big hb9 ?c1 ?c2 ?_; (case c1 => omega); (case c2 => omega)); (try dsimp only); (try k_fold)))
theorem set_claim (w : World) (data value offset bits : Int) (t1 t2 t3 t4 : Tok) (h0 : 0 ≤ offset) (h1 : offset < 16) (h2 : 0 ≤ bits) (h3 : offset + bits ≤ 16) (hd0 : 0 ≤ data) (hd1 : data < 65536) (hv : Builtin.Int.intBits value ≤ 1048600) :
    Claim w 2 36 (fun _ _ => True) [.int data t1, .int value t4, .int offset t2, .int bits t3] (fun t => .int ((rangeKs 0 16).foldl (setStep data value offset bits) 0) t) := by
  unfold Claim
  k_fill
  intro p loose mean mg mb dp un gd cn cs a ccd cl outer A₀ base h₀ L m news s Q E B F X N T hk hneed hd hu hret
  have e := set_sum (data := data) (value := value) (o := offset.toNat) (b := bits.toNat) hd0 hd1 (by omega)
  rw [show ((offset.toNat : Nat) : Int) = offset by omega, show ((bits.toNat : Nat) : Int) = bits by omega, ← mask_one] at e
  rw [← e] at hret
  clear e
  walk_at "mine in"
  replace F' : Fr g' L' h' (fun y => List.lookup y [(Str.ofString "bits", .int bits t3), (Str.ofString "offset", .int offset t2), (Str.ofString "value", .int value t4), (Str.ofString "data", .int data t1)]) := F'
  k_steps
  exact hret _ _ _ (by k_asm) (by k_asm)
theorem set_claim1 (w : World) (data value offset : Int) (t1 t2 t4 : Tok) (h0 : 0 ≤ offset) (h1 : offset < 16) (hd0 : 0 ≤ data) (hd1 : data < 65536) (hv : Builtin.Int.intBits value ≤ 1048600) :
    Claim w 2 36 (fun _ _ => True) [.int data t1, .int value t4, .int offset t2] (fun t => .int ((rangeKs 0 16).foldl (setStep data value offset 1) 0) t) := by
  unfold Claim
  k_fill
  intro p loose mean mg mb dp un gd cn cs a ccd cl outer A₀ base h₀ L m news s Q E B F X N T hk hneed hd hu hret
  have e := set_sum (data := data) (value := value) (o := offset.toNat) (b := 1) hd0 hd1 (by omega)
  rw [show ((offset.toNat : Nat) : Int) = offset by omega, ← mask_one] at e
  rw [show ((1 : Nat) : Int) = 1 from rfl] at e
  rw [← e] at hret
  clear e
  walk_at "mine in"
  k_steps
  exact hret _ _ _ (by k_asm) (by k_asm)
section
set_option linter.unusedVariables false
set_option maxRecDepth 100000
set_option maxHeartbeats 4000000
section
variable {data value place width o k : Int} {pre : List Int}
theorem set_start : (0 : Int) = ([] : List Int).foldl (setStep data value place width) 0 := rfl
theorem set_turn1 (h1 : place ≤ k) (h2 : k < place + width) (e : o = pre.foldl (setStep data value place width) 0) : o + (value.fdiv (2 ^ (k - place).toNat)).fmod 2 * 2 ^ k.toNat = (pre ++ [k]).foldl (setStep data value place width) 0 := by
  rw [List.foldl_append, ← e]
  show _ = o + figOf data value place width k * 2 ^ k.toNat
  rw [figOf, if_pos ⟨h1, h2⟩]
theorem set_turn2 (h2 : ¬ (place ≤ k ∧ k < place + width)) (e : o = pre.foldl (setStep data value place width) 0) : o + (data.fdiv (2 ^ k.toNat)).fmod 2 * 2 ^ k.toNat = (pre ++ [k]).foldl (setStep data value place width) 0 := by
  rw [List.foldl_append, ← e]
  show _ = o + figOf data value place width k * 2 ^ k.toNat
  rw [figOf, if_neg h2]
end
theorem set_law_claim (w : World) (data value place width : Int) (t1 t2 t3 t4 : Tok) (h0 : 0 ≤ place) (h1 : place < 16) (h2 : 1 ≤ width) (h3 : width ≤ 16) :
    Claim w 2 103 (fun _ _ => True) [.int data t1, .int value t4, .int place t2, .int width t3] (fun t => .int ((rangeKs 0 16).foldl (setStep data value place width) 0) t) := by
  unfold Claim
  k_fill
  intro p loose mean mg mb dp un gd cn cs a ccd cl outer A₀ base h₀ L m news s Q E B F X N T hk hneed hd hu hret
  walk_at "mine in"
  replace F' : Fr g' L' h' (fun y => List.lookup y [(Str.ofString "width", .int width t3), (Str.ofString "place", .int place t2), (Str.ofString "value", .int value t4), (Str.ofString "data", .int data t1)]) := F'
  k_with "pyIter ref" => k_state (fun pre o => o = pre.foldl (setStep data value place width) 0) "out"
  k_with "state" => first | exact set_start | exact set_turn1 (by assumption) (by assumption) (by assumption) | exact set_turn2 (by omega) (by assumption)
  k_steps
  rename (_ = List.foldl _ _ _) => he
  subst he
  exact hret _ _ _ (by k_asm) (by k_asm)
end
set_option linter.unusedVariables false
set_option maxRecDepth 100000
set_option maxHeartbeats 4000000
def hexS : Str := Str.ofString "0123456789abcdef"
def pairS (x : Int) : Str := Txt.item hexS (x.fdiv 16) ++ Txt.item hexS (x.fmod 16)
theorem pair_claim (w : World) (one : Int) (tk : Tok) (h0 : 0 ≤ one) (h1 : one < 256) : Claim w 2 77 (fun _ _ => True) [.int one tk] (fun t => .str (pairS one) t) := by
  unfold Claim
  k_fill
  intro p loose mean mg mb dp un gd cn cs a ccd cl outer A₀ base h₀ L m news s Q E B F X N T hk hneed hd hu hret
  walk_at "mine in"
  replace F' : Fr g' L' h' (fun y => List.lookup y [(Str.ofString "one", .int one tk)]) := F'
  k_steps
  exact hret _ _ _ (by k_asm) (by k_asm)

theorem number_claim (w : World) (l : Addr) (vs : List Value) (ns : List Int) (place : Int) (tk : Tok) (h0 : 0 ≤ place) (h1 : place < 16) :
    Claim w 2 70 (fun base _ => base.IsList l vs.toArray ∧ IntsAre vs ns ∧ ns.length < 2 ^ 62) [.ref l, .int place tk] (fun t => .int ((if ns = [] then 0 else ns.getD (place.fmod ns.length).toNat 0) + 7 * place) t) := by
  unfold Claim
  k_fill
  intro p loose mean mg mb dp un gd cn cs a ccd cl outer A₀ base h₀ L m news s Q E B F X N T hk hneed hd hu hret
  obtain ⟨hl, hi, hfit⟩ := hneed
  walk_at "mine in"
  replace F' : Fr g' L' h' (fun y => List.lookup y [(Str.ofString "place", .int place tk), (Str.ofString "script", .ref l)]) := F'
  k_steps
  · rename (0 < ns.length) => hpos
    rw [if_neg (by intro e; rw [e] at hpos; exact absurd hpos (by decide))] at hret
    exact hret _ _ _ (by k_asm) (by k_asm)
  · rename (¬ 0 < ns.length) => hpos
    rw [if_pos (List.length_eq_zero_iff.mp (by omega))] at hret
    exact hret _ _ _ (by k_asm) (by k_asm)
theorem item_len {x : Str} {i : Int} (h : 0 ≤ i ∧ i < x.length) : (Txt.item x i).length = 1 := by
  rw [item_meets h]
  rfl
theorem hexS_len : hexS.length = 16 := by decide +kernel
theorem pairS_len {x : Int} (h0 : 0 ≤ x) (h1 : x < 256) : (pairS x).length = 2 := by
  have e := hexS_len
  unfold pairS
  rw [PySem.Str.length_append, item_len (by rw [Int.fdiv_eq_ediv_of_nonneg _ (by decide)]; omega), item_len (by rw [Int.fmod_eq_emod_of_nonneg _ (by decide)]; omega)]
section
variable {w : World} {p : Program} {loose : List Str} {mean : ExcName → Option Value} {mg mb : Str → Option Value} {dp un : Nat} {gd : Option (List Code)} {cn : Str} {cs : Scope} {a : Addr} {ccd : Value} {cl : List (Str × Addr)} {outer : List Env} {A₀ : Around} {base h₀ : Heap} {L : Addr} {m : Str → Option Value} {news : List (Addr × Obj)} {s : Shared} {Q E : Value → Shared → Prop}
theorem pair_use {one : Int} {tk : Tok} (h0 : 0 ≤ one) (h1 : one < 256) (B : Below A₀ base outer h₀) (F : Fr h₀ L s.heap m) (X : (hd.heap_39 w.params).In h₀) (N : News h₀ L s.heap news) (T : Top p loose mean mg mb h₀) (hk : cs.kind = .function) (hd : dp + 2 < recursionLimit) (hu : un + 8 * 2 < cLine)
    (ret : ∀ t h' tk', (pairS one).length = 2 → Fr h₀ L h' m → News h₀ L h' news → Q (.str (pairS one) t) { s with heap := h', toks := tk' }) :
    wpAny (model PySem.Challenge.rw_aa6002_01.row.prog w) (ktrTop dp un gd cn cs L a ccd cl outer) (call (.ref 77) [.int one tk]) Q E s :=
  Claim.use (pair_claim w one tk h0 h1) B F X N T hk trivial hd hu fun t h' tk' F N => ret t h' tk' (pairS_len h0 h1) F N
end
set_option hygiene false in
local macro_rules | `(tactic| walk_at "mine lo") => `(tactic| exact (hns _).1)
set_option hygiene false in
local macro_rules | `(tactic| walk_at "mine hi") => `(tactic| exact (hns _).2)
local macro_rules | `(tactic| walk_at "call ref") => `(tactic| (k_here; (with_reducible show wpAny _ _ (call (Value.ref 77) [Value.int _ _]) _ _ _); k_dflt (refine' pair_use ?p0 ?p1 ?k1 ?k2 ?k3 ?k4 ?k5 ?kK ?kd ?ku ?_; (case p0 => first | omega | (rw [Int.fdiv_eq_ediv_of_nonneg _ (by decide)]; omega) | (rw [Int.fmod_eq_emod_of_nonneg _ (by decide)]; omega) | walk_at "mine lo"); (case p1 => first | omega | (rw [Int.fdiv_eq_ediv_of_nonneg _ (by decide)]; omega) | (rw [Int.fmod_eq_emod_of_nonneg _ (by decide)]; omega) | walk_at "mine hi"); (case k1 => k_asm); (case k2 => k_asm); (case k3 => k_asm); (case k4 => k_asm); (case k5 => k_asm); (case kK => first | exact rfl | assumption); (case kd => ktr_room); (case ku => ktr_units); skip); intro t9 h9 tk9 hpl9 F9 N9; (try dsimp only); (try k_fold)))
set_option linter.unusedVariables false
set_option maxRecDepth 100000
set_option maxHeartbeats 1000000
def cellS (ns : List Int) (k : Int) : Str := if k < ns.length then pairS (ns.getD k.toNat 0) else Str.ofString "  "
def cellsS (ns : List Int) (ks : List Int) : Str := ks.foldl (fun out k => out ++ (cellS ns k ++ Str.ofString " ")) (Str.ofString "")
theorem cells_start {ns : List Int} : Str.ofString "" = cellsS ns [] ∧ (Str.ofString "").length = 3 * ([] : List Int).length := ⟨rfl, by decide⟩
theorem cellsS_append (ns : List Int) (ks : List Int) (k : Int) : cellsS ns (ks ++ [k]) = cellsS ns ks ++ (cellS ns k ++ Str.ofString " ") := by
  unfold cellsS
  rw [List.foldl_append]
  rfl
theorem cells_turn1 {ns pre : List Int} {k : Int} {o : Str} (h : k < (ns.length : Int)) (e : o = cellsS ns pre) (l : o.length = 3 * pre.length) (lp : (pairS (ns.getD k.toNat 0)).length = 2) :
    o ++ (pairS (ns.getD k.toNat 0) ++ Str.ofString " ") = cellsS ns (pre ++ [k]) ∧ (o ++ (pairS (ns.getD k.toNat 0) ++ Str.ofString " ")).length = 3 * (pre ++ [k]).length := by
  refine ⟨?_, ?_⟩
  · rw [cellsS_append, cellS, if_pos h, e]
  · have e1 : (Str.ofString " ").length = 1 := by decide
    rw [PySem.Str.length_append, PySem.Str.length_append, List.length_append, lp, l, e1]
    simp only [List.length_cons, List.length_nil]
    omega
theorem cells_turn2 {ns pre : List Int} {k : Int} {o : Str} (h : ¬ k < (ns.length : Int)) (e : o = cellsS ns pre) (l : o.length = 3 * pre.length) :
    o ++ Str.ofString "   " = cellsS ns (pre ++ [k]) ∧ (o ++ Str.ofString "   ").length = 3 * (pre ++ [k]).length := by
  refine ⟨?_, ?_⟩
  · rw [cellsS_append, cellS, if_neg h, e]
    rfl
  · have e1 : (Str.ofString "   ").length = 3 := by decide
    rw [PySem.Str.length_append, List.length_append, l, e1]
    simp only [List.length_cons, List.length_nil]
    omega
theorem cells_claim (w : World) (l : Addr) (vs : List Value) (ns : List Int) (c : Nat) (first last : Int) (t1 t2 : Tok) (h0 : 0 ≤ first) (h1 : first ≤ last) (h2 : last ≤ 16) (hns : ∀ i, 0 ≤ ns.getD i 0 ∧ ns.getD i 0 < 256) (hlen : ns.length ≤ 64) (hi : IntsAre vs ns) :
    Claim w 4 84 (fun _ news => (l, listOf vs.toArray c) ∈ news) [.ref l, .int first t1, .int last t2] (fun t => .str (cellsS ns (rangeKs first (last - first).toNat)) t) := by
  unfold Claim
  k_fill
  intro p loose mean mg mb dp un gd cn cs a ccd cl outer A₀ base h₀ L m news s Q E B F X N T hk hneed hd hu hret
  have N2 := news_more N hneed
  walk_at "mine in"
  replace F' : Fr g' L' h' (fun y => List.lookup y [(Str.ofString "last", .int last t2), (Str.ofString "first", .int first t1), (Str.ofString "row", .ref l)]) := F'
  k_with "pyIter ref" => k_state (fun pre out => out = cellsS ns pre ∧ out.length = 3 * pre.length) "out"
  k_with "state" => first | with_reducible exact cells_start | with_reducible exact cells_turn1 (by assumption) (by assumption) (by assumption) (by assumption) | with_reducible exact cells_turn2 (by assumption) (by assumption) (by assumption)
  k_steps
  rename (_ = cellsS _ _) => he
  subst he
  exact hret _ _ _ (by k_asm) (news_less (by assumption))
theorem cellS_len {ns : List Int} (hns : ∀ i, 0 ≤ ns.getD i 0 ∧ ns.getD i 0 < 256) (k : Int) : (cellS ns k).length = 2 := by
  unfold cellS
  split
  · exact pairS_len (hns _).1 (hns _).2
  · decide
theorem cellsS_len {ns : List Int} (hns : ∀ i, 0 ≤ ns.getD i 0 ∧ ns.getD i 0 < 256) (ks : List Int) : (cellsS ns ks).length = 3 * ks.length := by
  have go : ∀ (ks : List Int) (o : Str), (ks.foldl (fun out k => out ++ (cellS ns k ++ Str.ofString " ")) o).length = o.length + 3 * ks.length := by
    intro ks
    induction ks with
    | nil => intro o; simp
    | cons k r ih =>
      intro o
      have e1 : (Str.ofString " ").length = 1 := by decide
      rw [List.foldl_cons, ih, PySem.Str.length_append, PySem.Str.length_append, cellS_len hns, e1, List.length_cons]
      omega
  have e := go ks (Str.ofString "")
  have e0 : (Str.ofString "").length = 0 := by decide
  rw [e0, Nat.zero_add] at e
  exact e
theorem slice_in {ns : List Int} (hns : ∀ i, 0 ≤ ns.getD i 0 ∧ ns.getD i 0 < 256) (a b : Nat) : ∀ i, 0 ≤ ((ns.drop a).take b).getD i 0 ∧ ((ns.drop a).take b).getD i 0 < 256 := by
  intro i
  rw [List.getD_eq_getElem?_getD, List.getElem?_take]
  split
  · rw [List.getElem?_drop, ← List.getD_eq_getElem?_getD]
    exact hns _
  · decide
section
variable {w : World} {p : Program} {loose : List Str} {mean : ExcName → Option Value} {mg mb : Str → Option Value} {dp un : Nat} {gd : Option (List Code)} {cn : Str} {cs : Scope} {a : Addr} {ccd : Value} {cl : List (Str × Addr)} {outer : List Env} {A₀ : Around} {base h₀ : Heap} {L : Addr} {m : Str → Option Value} {news : List (Addr × Obj)} {s : Shared} {Q E : Value → Shared → Prop}
theorem cells_use {l : Addr} {vs : List Value} {ns : List Int} {c : Nat} {first last : Int} {t1 t2 : Tok} (hi : IntsAre vs ns) (hns : ∀ i, 0 ≤ ns.getD i 0 ∧ ns.getD i 0 < 256) (hlen : ns.length ≤ 64) (h0 : 0 ≤ first) (h1 : first ≤ last) (h2 : last ≤ 16)
    (B : Below A₀ base outer h₀) (F : Fr h₀ L s.heap m) (X : (hd.heap_39 w.params).In h₀) (N : News h₀ L s.heap news) (T : Top p loose mean mg mb h₀) (hk : cs.kind = .function) (hn : (l, listOf vs.toArray c) ∈ news) (hd : dp + 4 < recursionLimit) (hu : un + 8 * 4 < cLine)
    (ret : ∀ t h' tk', (cellsS ns (rangeKs first (last - first).toNat)).length ≤ 48 → Fr h₀ L h' m → News h₀ L h' news → Q (.str (cellsS ns (rangeKs first (last - first).toNat)) t) { s with heap := h', toks := tk' }) :
    wpAny (model PySem.Challenge.rw_aa6002_01.row.prog w) (ktrTop dp un gd cn cs L a ccd cl outer) (call (.ref 84) [.ref l, .int first t1, .int last t2]) Q E s :=
  Claim.use (cells_claim w l vs ns c first last t1 t2 h0 h1 h2 hns hlen hi) B F X N T hk hn hd hu fun t h' tk' F N => ret t h' tk' (by rw [cellsS_len hns, rangeKs_length]; omega) F N
end
set_option hygiene false in
local macro_rules | `(tactic| walk_at "mine slice") => `(tactic| exact slice_in hns _ _)
local macro_rules | `(tactic| walk_at "call ref") => `(tactic| (k_here; (with_reducible show wpAny _ _ (call (Value.ref 84) [Value.ref _, Value.int _ _, Value.int _ _]) _ _ _); k_dflt (refine' cells_use ?pi ?pns ?plen ?p0 ?p1 ?p2 ?k1 ?k2 ?k3 ?k4 ?k5 ?kK ?pm ?kd ?ku ?_; (case k1 => k_asm); (case k2 => k_asm); (case k3 => k_asm); (case k4 => k_asm); (case k5 => k_asm); (case kK => first | exact rfl | assumption); (case kd => ktr_room); (case ku => ktr_units); (case pm => k_mem); (case pi => assumption); (case pns => walk_at "mine slice"); (case plen => omega); (case p0 => first | omega | (rw [Int.fdiv_eq_ediv_of_nonneg _ (by decide)]; omega)); (case p1 => first | omega | (rw [Int.fdiv_eq_ediv_of_nonneg _ (by decide)]; omega)); (case p2 => first | omega | (rw [Int.fdiv_eq_ediv_of_nonneg _ (by decide)]; omega))); intro t9 h9 tk9 hcl9 F9 N9; (try dsimp only); (try k_fold)))
section
set_option linter.unusedVariables false
set_option maxRecDepth 100000
set_option maxHeartbeats 1000000
/-- the mark of a walk whose texts are named one by one, each with a bound on its length -/
structure CapMark : Prop where
  mark :: (one : True)
theorem capMark : CapMark := ⟨trivial⟩
/-- a goal that the walk leaves to the prover -/
def Hold (P : Prop) : Prop := P
theorem Hold.out {P : Prop} (h : Hold P) : P := h
theorem comp_end2 {h₀ : Heap} {L I C D : Addr} {m : Str → Option Value} {s₁ : Shared} {oI oC oD : Obj} {S : List (Addr × Obj) → Prop} {rest : Value → List (Addr × Obj) → Prop} {y : Value} {h' : Heap} {tk : Nat} {news' : List (Addr × Obj)}
    (F : Fr h₀ L h' m) (N : News h₀ L h' ((I, oI) :: (C, oC) :: (D, oD) :: news')) (off : LCg.Off3 I C D news') (hS : S news') (r : rest y news') :
    LCg.CompEnd h₀ L m s₁ I oI C oC D oD S rest y { s₁ with heap := h', toks := tk } := LCg.CompEnd.intro F N news' (fun _ hp => hp) off hS r
def signS (x : Int) : Str := if 32 ≤ x then (if x < 128 then ⟨#[x.toNat]⟩ else Str.ofString ".") else Str.ofString "."
theorem lit_two {x : Str} (h : x.length ≤ 2) : x.length ≤ 2 := h
theorem signS_len (x : Int) : (signS x).length = 1 := by
  unfold signS
  split
  · split
    · rfl
    · decide
  · decide
theorem signs_carried {ys : List Value} {row : List Int} (h : CarriedAll ys (List.map (fun a => if 32 ≤ a then if a < 128 then PyData.str { cps := #[a.toNat] } else PyData.str (Str.ofString ".") else PyData.str (Str.ofString ".")) (List.filter (fun _ => true) row))) : StrsAre ys (row.map signS) := by
  refine StrsAre.of_carried ?_
  rw [List.filter_eq_self.mpr (fun _ _ => rfl)] at h
  rw [List.map_map]
  have e : (fun a : Int => if 32 ≤ a then if a < 128 then PyData.str { cps := #[a.toNat] } else PyData.str (Str.ofString ".") else PyData.str (Str.ofString ".")) = PyData.str ∘ signS := by
    funext a
    simp only [Function.comp, signS]
    split
    · split <;> rfl
    · rfl
  rw [← e]
  exact h
theorem signs_carried2 {ys : List Value} {row : List Int} {g : Int → Str} (h : CarriedAll ys (row.map fun k => PyData.str (g k))) : StrsAre ys (row.map g) := by
  refine StrsAre.of_carried ?_
  rw [List.map_map]
  exact h
section
variable {prog : Program} {w : World} {A : Around} {E : Value → Shared → Prop} {s : Shared} {h₀ : Heap} {L l : Addr} {m : Str → Option Value} {news : List (Addr × Obj)} {value slice : PySem.Expr} {vs : List Value} {xs : List Str} {n : Nat} {Q : Value → Shared → Prop}
theorem add_cap {x y : Str} {t u : Tok} {a b : Nat} (hx : x.length ≤ a) (hy : y.length ≤ b) (hs : a + b ≤ 16777216) (h : ∀ z t' k, z = x ++ y → z.length ≤ a + b → Q (.str z t') { s with toks := k }) :
    wpAny (model prog w) A (binaryOp .Add (.str x t) (.str y u)) Q E s :=
  add_str (fun t' tk => h _ t' tk rfl (by rw [PySem.Str.length_append]; omega)) (by rw [sizeLine_eq]; omega)

theorem txt_upto {y : Int} {u : Tok} (F : Fr h₀ L s.heap m) (N : News h₀ L s.heap news) (hm : (l, listOf vs.toArray n) ∈ news) (hi : StrsAre vs xs) (h0 : 0 ≤ y) (hz : xs.length ≤ 16777216)
    (h : ∀ D ws h', Fr h₀ L h' m → News h₀ L h' ((D, listOf (List.toArray ws) 0) :: news) → (∀ p ∈ news, p.1 < D) → StrsAre ws (xs.take y.toNat) → Q (.ref D) { s with heap := h' })
    (hs : subscripted slice false (.ref l) (.ref s.heap.objs.size) = operate [.ref s.heap.objs.size, .ref l] (getItem (.ref l) (.ref s.heap.objs.size))) (ht : ∀ r, letTemporaryGo value (.ref l) r = pure ()) :
    wpAny (model prog w) A (subscriptTail value slice (.ref l) (.ref s.heap.objs.size)) Q E { s with heap := s.heap.push { cls := .type "slice", data := .fields #[.none, .int y u, .none] } } := by
  refine kmk_slice F N (News.isList N hm) .none (.int _ _) (fun D h' F' N' l1 => ?_) hs ht (by rw [List.size_toArray, hi.length, sizeLine_eq]; exact hz)
  have e : sliceBounds none (some y) none vs.toArray.size = (((0 : Nat) : Int), ((min y.toNat vs.toArray.size : Nat) : Int), 1) := by
    simp only [sliceBounds, Option.getD_none, show (1 : Int) > 0 by decide, if_true, if_neg (show ¬ (y < 0) by omega)]
    congr 1
    congr 1
    omega
  rw [kmk_pick_nat _ e] at N'
  refine h D _ h' F' N' l1 ?_
  show StrsAre ((vs.drop 0).take (min y.toNat vs.toArray.size - 0)) _
  rw [List.drop_zero, Nat.sub_zero, List.size_toArray, kmk_take_min]
  exact hi.take' _
theorem txt_from {x : Int} {u : Tok} (F : Fr h₀ L s.heap m) (N : News h₀ L s.heap news) (hm : (l, listOf vs.toArray n) ∈ news) (hi : StrsAre vs xs) (h0 : 0 ≤ x) (hz : xs.length ≤ 16777216)
    (h : ∀ D ws h', Fr h₀ L h' m → News h₀ L h' ((D, listOf (List.toArray ws) 0) :: news) → (∀ p ∈ news, p.1 < D) → StrsAre ws (xs.drop x.toNat) → Q (.ref D) { s with heap := h' })
    (hs : subscripted slice false (.ref l) (.ref s.heap.objs.size) = operate [.ref s.heap.objs.size, .ref l] (getItem (.ref l) (.ref s.heap.objs.size))) (ht : ∀ r, letTemporaryGo value (.ref l) r = pure ()) :
    wpAny (model prog w) A (subscriptTail value slice (.ref l) (.ref s.heap.objs.size)) Q E { s with heap := s.heap.push { cls := .type "slice", data := .fields #[.int x u, .none, .none] } } := by
  refine kmk_slice F N (News.isList N hm) (.int _ _) .none (fun D h' F' N' l1 => ?_) hs ht (by rw [List.size_toArray, hi.length, sizeLine_eq]; exact hz)
  have e : sliceBounds (some x) none none vs.toArray.size = (((min x.toNat vs.toArray.size : Nat) : Int), ((vs.toArray.size : Nat) : Int), 1) := by
    simp only [sliceBounds, Option.getD_none, show (1 : Int) > 0 by decide, if_true, if_neg (show ¬ (x < 0) by omega)]
    congr 1
    omega
  rw [kmk_pick_nat _ e] at N'
  refine h D _ h' F' N' l1 ?_
  show StrsAre ((vs.drop (min x.toNat vs.toArray.size)).take (vs.toArray.size - min x.toNat vs.toArray.size)) _
  rw [List.size_toArray, kmk_drop_min, List.take_of_length_le (by rw [List.length_drop]; omega)]
  exact hi.drop' _
/-- a made list of texts, joined -/
theorem txt_join {x : Str} {t : Tok} {B K : Nat} (N : News h₀ L s.heap news) (hm : (l, listOf vs.toArray n) ∈ news) (hi : StrsAre vs xs) (hB : ∀ y ∈ xs, y.length ≤ B) (hK : xs.length ≤ K) (hx : x.length ≤ 1) (hk : K * B + K ≤ 1048576)
    (h : ∀ t' k, (PySem.Txt.join x xs).length ≤ K * B + K → Q (.str (PySem.Txt.join x xs) t') { s with toks := k }) : wpAny (model prog w) A (call (.builtin "str.join") [.str x t, .ref l]) Q E s := by
  have h1 : (xs.map (·.length)).sum ≤ xs.length * B := StrLaws.sumLen_le xs hB
  have h2 : xs.length * B ≤ K * B := Nat.mul_le_mul_right _ hK
  refine join_listW (News.isList N hm) (by simpa using hi) (by omega) (by omega) fun t' k => h t' k ?_
  show (Builtin.Str.glued x xs).length ≤ _
  rw [StrLaws.glued_eq_join]
  cases xs with
  | nil => simp [PySem.Str.join, PySem.Str.empty, PySem.Str.length]
  | cons a r =>
    rw [len_join_cons]
    have h3 : r.length * x.length ≤ r.length * 1 := Nat.mul_le_mul_left _ hx
    rw [List.length_cons] at hK
    omega
end
theorem ones_take {row : List Int} {k : Nat} : ∀ y ∈ (row.map signS).take k, y.length ≤ 1 := fun y hy => by
  obtain ⟨a, _, rfl⟩ := List.mem_map.mp (List.mem_of_mem_take hy)
  exact Nat.le_of_eq (signS_len a)
theorem ones_drop {row : List Int} {k : Nat} : ∀ y ∈ (row.map signS).drop k, y.length ≤ 1 := fun y hy => by
  obtain ⟨a, _, rfl⟩ := List.mem_map.mp (List.mem_of_mem_drop hy)
  exact Nat.le_of_eq (signS_len a)
/-- the row that begins at a place -/
def rowAt (ns : List Int) (width start : Int) : List Int := (ns.drop start.toNat).take (min (start + width).toNat ns.length - start.toNat)
def lineS (ns : List Int) (width left : Int) (head : Str) (start : Int) : Str :=
  head ++ (pairS (start.fdiv 256) ++ pairS (start.fmod 256)) ++ Str.ofString "  " ++ cellsS (rowAt ns width start) (rangeKs 0 (left - 0).toNat) ++ Str.ofString " " ++ cellsS (rowAt ns width start) (rangeKs left (width - left).toNat) ++ Str.ofString " " ++
    PySem.Txt.join (Str.ofString "") (((rowAt ns width start).map signS).take left.toNat) ++ Str.ofString " " ++ PySem.Txt.join (Str.ofString "") (((rowAt ns width start).map signS).drop left.toNat)
def linesS (ns : List Int) (width left : Int) (head : Str) (k : Nat) : List Str := (List.range k).map fun (i : Nat) => lineS ns width left head ((i : Int) * width)
theorem linesS_push {ns : List Int} {width left : Int} {head x : Str} {k : Nat} {vs : List Value} (h : StrsAre vs (linesS ns width left head k)) (t : Tok) (e : x = lineS ns width left head ((k : Int) * width)) : StrsAre (vs ++ [Value.str x t]) (linesS ns width left head (k + 1)) := by
  subst e
  unfold linesS
  rw [List.range_succ, List.map_append]
  exact h.append' (StrsAre.cons _ _ StrsAre.nil)
theorem join_ones_le {xs : List Str} (h : ∀ y ∈ xs, y.length ≤ 1) : (PySem.Txt.join (Str.ofString "") xs).length ≤ xs.length := by
  show (Builtin.Str.glued (Str.ofString "") xs).length ≤ _
  rw [StrLaws.glued_eq_join]
  have h1 : (xs.map (·.length)).sum ≤ xs.length * 1 := StrLaws.sumLen_le xs h
  cases xs with
  | nil => simp [PySem.Str.join, PySem.Str.empty, PySem.Str.length]
  | cons a r =>
    have z : (Str.ofString "").length = 0 := by decide
    rw [len_join_cons, z]
    omega
theorem lineS_le {ns : List Int} {width left : Int} {head : Str} {start : Int} (hns : ∀ i, 0 ≤ ns.getD i 0 ∧ ns.getD i 0 < 256) (hlen : ns.length ≤ 40) (h0 : 1 ≤ width) (h1 : width ≤ 16) (hl0 : 0 ≤ left) (hl1 : left ≤ width) (hh : head.length ≤ 2) (hs0 : 0 ≤ start) (hs1 : start < 65536) : (lineS ns width left head start).length ≤ 400 := by
  have r : ∀ i, 0 ≤ (rowAt ns width start).getD i 0 ∧ (rowAt ns width start).getD i 0 < 256 := slice_in hns _ _
  have rl : (rowAt ns width start).length ≤ 40 := by
    unfold rowAt
    rw [List.length_take, List.length_drop]
    omega
  have e1 : (Str.ofString " ").length = 1 := by decide
  have e2 : (Str.ofString "  ").length = 2 := by decide
  have p1 : (pairS (start.fdiv 256)).length = 2 := pairS_len (by rw [Int.fdiv_eq_ediv_of_nonneg _ (by decide)]; omega) (by rw [Int.fdiv_eq_ediv_of_nonneg _ (by decide)]; omega)
  have p2 : (pairS (start.fmod 256)).length = 2 := pairS_len (by rw [Int.fmod_eq_emod_of_nonneg _ (by decide)]; omega) (by rw [Int.fmod_eq_emod_of_nonneg _ (by decide)]; omega)
  have c1 := cellsS_len r (rangeKs 0 (left - 0).toNat)
  have c2 := cellsS_len r (rangeKs left (width - left).toNat)
  rw [rangeKs_length] at c1 c2
  have j1 : (PySem.Txt.join (Str.ofString "") (((rowAt ns width start).map signS).take left.toNat)).length ≤ 40 := by
    refine Nat.le_trans (join_ones_le ones_take) ?_
    rw [List.length_take, List.length_map]
    omega
  have j2 : (PySem.Txt.join (Str.ofString "") (((rowAt ns width start).map signS).drop left.toNat)).length ≤ 40 := by
    refine Nat.le_trans (join_ones_le ones_drop) ?_
    rw [List.length_drop, List.length_map]
    omega
  unfold lineS
  simp only [PySem.Str.length_append, e1, e2, p1, p2, c1, c2]
  omega
/-- how many rows there are -/
def rowsN (ns : List Int) (width : Int) : Nat := (ns.length + (width.toNat - 1)) / width.toNat
theorem rowsN_eq {ns : List Int} {width : Int} {k : Nat} (hw : 1 ≤ width) (h1 : (ns.length : Int) ≤ (k : Int) * width) (h2 : k = 0 ∨ (k : Int) * width - width < (ns.length : Int)) : k = rowsN ns width := by
  obtain ⟨w, rfl⟩ : ∃ w : Nat, width = (w : Int) := ⟨width.toNat, by omega⟩
  unfold rowsN
  rw [Int.toNat_natCast]
  have h1' : ns.length ≤ k * w := by exact_mod_cast h1
  have hw' : 1 ≤ w := by omega
  symm
  rcases h2 with h2 | h2
  · subst h2
    rw [Nat.zero_mul] at h1'
    exact Nat.div_eq_of_lt (by omega)
  · have h2' : k * w < ns.length + w := by
      have : (k : Int) * w < ns.length + w := by omega
      exact_mod_cast this
    refine Nat.div_eq_of_lt_le (by omega) ?_
    rw [Nat.add_mul, Nat.one_mul]
    omega
def dumpS (ns : List Int) (width : Int) (head : Str) : Str := PySem.Txt.join (Str.ofString "\n") (linesS ns width (width.fdiv 2) head (rowsN ns width))
theorem rows_le {n k width : Int} (hw : 1 ≤ width) (hk : 0 ≤ k) (h : k * width - width < n) (hn : 0 ≤ n) : k ≤ n := by
  by_cases q : k ≤ 1
  · by_cases q0 : k ≤ n
    · exact q0
    · have : k = 1 := by omega
      subst this
      omega
  · have h2 : (k - 1) * 1 ≤ (k - 1) * width := Int.mul_le_mul_of_nonneg_left hw (by omega)
    have h3 : (k - 1) * width = k * width - width := by rw [Int.sub_mul, Int.one_mul]
    omega
theorem linesS_le {ns : List Int} {width left : Int} {head : Str} {k : Nat} (hns : ∀ i, 0 ≤ ns.getD i 0 ∧ ns.getD i 0 < 256) (hlen : ns.length ≤ 40) (h0 : 1 ≤ width) (h1 : width ≤ 16) (hl0 : 0 ≤ left) (hl1 : left ≤ width) (hh : head.length ≤ 2) (hk : k ≤ 40) : ∀ y ∈ linesS ns width left head k, y.length ≤ 400 := by
  intro y hy
  obtain ⟨i, hi, rfl⟩ := List.mem_map.mp hy
  rw [List.mem_range] at hi
  have h2 : (i : Int) * width ≤ (i : Int) * 16 := Int.mul_le_mul_of_nonneg_left h1 (by omega)
  exact lineS_le hns hlen h0 h1 hl0 hl1 hh (Int.mul_nonneg (by omega) (by omega)) (by omega)
end
set_option linter.unusedVariables false
set_option maxRecDepth 100000
set_option maxHeartbeats 4000000
section
variable {prog : Program} {w : World} {A : Around} {E : Value → Shared → Prop} {Q : Flow → Shared → Prop} {s : Shared} {env : Env} {h₀ : Heap} {L : Addr}
theorem dump_loop {D l : Addr} {o : Obj} {tx : Tok} {test : Expr} {body : List Stmt} {pos : Pos} {m₀ : Str → Option Value} {news : List (Addr × Obj)} (stored : List Str) (P : List Value → Int → Prop) (μ : Int → Nat)
    (F : Fr h₀ L s.heap m₀) (N : News h₀ L s.heap ((D, o) :: (l, listOf #[] 0) :: news)) (hk : m₀ (Str.ofString "start") = some (Value.int 0 tx)) (hp : P [] 0)
    (turn : ∀ (vs : List Value) (c : Nat) (start : Int) (ts : Tok) (u : Str → Option Value) h tk, P vs start → Fr h₀ L h (kstB (fun z => if stored.contains z then u z else m₀ z) [(Str.ofString "start", Value.int start ts)]) → News h₀ L h ((D, o) :: (l, listOf vs.toArray c) :: news) →
      wpAny (model prog w) A (isTrue test env (eval test env)) (fun b s₂ =>
        if b = true then wpAny (model prog w) A (execs body env) (KswPost h₀ L s (fun (c : List Value × Nat × Int × Tok) => (D, o) :: (l, listOf c.1.toArray c.2.1) :: news) (fun c => [(Str.ofString "start", Value.int c.2.2.1 c.2.2.2)]) (fun _ => True) stored m₀ (fun c => P c.1 c.2.2.1) (fun c => μ c.2.2.1) Q (vs, c, start, ts)) E s₂ else Q .next s₂) E { s with heap := h, toks := tk })
    (hE : PassesOwn (model prog w) A env E := by passes_own) :
    wpAny (model prog w) A (exec (.While test body [] pos) env) Q E s := by
  refine ksw_while (σ := List Value × Nat × Int × Tok) (fun c => (D, o) :: (l, listOf c.1.toArray c.2.1) :: news) (fun c => [(Str.ofString "start", Value.int c.2.2.1 c.2.2.2)]) (fun _ => True) stored (fun c => P c.1 c.2.2.1) (fun c => μ c.2.2.1) ([], 0, 0, tx) F N trivial ?_ hp ?_ hE
  · intro p hp
    rcases List.mem_singleton.mp hp with rfl
    exact hk
  · rintro ⟨vs, c, start, ts⟩ u h tk _ hP F N
    exact turn vs c start ts u h tk hP F N
end

local macro_rules | `(tactic| walk_at "exec Assign cons ListComp") => `(tactic| ((rename CapMark => cap9); k_dflt (refine LCg.Assign_ListComp_U (F₀ := by k_asm) (by rfl) (by with_unfolding_all rfl) (by with_unfolding_all rfl) (by decide) (by rfl) (by decide) (by rfl) (by rfl) (by rfl) ?_)))
local macro_rules | `(tactic| walk_at "CompSrc") => `(tactic| ((rename CapMark => cap9); k_dflt (refine LCg.CompSrc.ledger (by rfl) (by k_asm) (by k_asm) (by k_mem) (by size_fits) ?_; intro g'; (refine' kct_list signS (by assumption) (fun k' t' I' oI' C' oC' D' m' ys' h' tk' E' hk' hC' hx' F' N' off' ne' hMark' => ?_) ?_); (all_goals (try (simp only [LCg.Off3, and_true] at off'))))))
local macro_rules | `(tactic| walk_at "CompEnd") => `(tactic| ((rename CapMark => cap9); k_dflt (refine' comp_end2 ?F ?N ?off ?S ?_; (case F => k_asm); (case N => k_asm); (case off => ((try simp only [LCg.Off3, and_true]); assumption)); (case S => exact .inr ⟨_, by k_mem, rfl, _, rfl⟩))))
local macro_rules | `(tactic| walk_at "KCtEl") => `(tactic| ((rename CapMark => cap9); refine kct_el ?kce (by with_unfolding_all rfl) (by with_unfolding_all rfl); (case kce => (unfold signS; (repeat' split) <;> first | (exfalso; omega) | rfl))))
local macro_rules | `(tactic| walk_at "binaryOp Add str str") => `(tactic| ((rename CapMark => cap9); (with_reducible show wpAny _ _ (binaryOp Operator.Add (Value.str _ _) (Value.str _ _)) _ _ _); k_dflt (refine' add_cap ?ca ?cb ?cs ?_; (case ca => first | with_reducible assumption | exact Nat.le_of_eq (by with_reducible assumption)); (case cb => first | with_reducible assumption | exact Nat.le_of_eq (by with_reducible assumption) | exact lit_two (by decide)); (case cs => decide)); intro z9 t9 k9 hz9 hzl9; (try dsimp only [List.cons_append, List.nil_append]); (try k_fold)))
local macro_rules | `(tactic| walk_at "subscriptTail Name Slice ref ref") => `(tactic| ((rename CapMark => cap9); (with_reducible show wpAny _ _ (subscriptTail _ (PySem.Expr.Slice none (some _) none _) (Value.ref _) (Value.ref _)) _ _ _); k_dflt (refine' txt_upto ?F ?N ?m ?i ?n0 ?z ?_ ?s ?t; (case F => k_asm); (case N => k_asm); (case m => k_mem); (case i => exact signs_carried2 (by assumption)); (case n0 => omega); (case z => (rw [List.length_map]; omega)); (case s => with_unfolding_all rfl); (case t => (intro _; with_unfolding_all rfl))); intro D' ws' h' F' N' l1 hS'; (try k_lt l1); (try k_sweep)))
local macro_rules | `(tactic| walk_at "subscriptTail Name Slice ref ref") => `(tactic| ((rename CapMark => cap9); (with_reducible show wpAny _ _ (subscriptTail _ (PySem.Expr.Slice (some _) none none _) (Value.ref _) (Value.ref _)) _ _ _); k_dflt (refine' txt_from ?F ?N ?m ?i ?n0 ?z ?_ ?s ?t; (case F => k_asm); (case N => k_asm); (case m => k_mem); (case i => exact signs_carried2 (by assumption)); (case n0 => omega); (case z => (rw [List.length_map]; omega)); (case s => with_unfolding_all rfl); (case t => (intro _; with_unfolding_all rfl))); intro D' ws' h' F' N' l1 hS'; (try k_lt l1); (try k_sweep)))
local macro_rules | `(tactic| walk_at "call builtin:str.join") => `(tactic| ((rename CapMark => cap9); (with_reducible show wpAny _ _ (call (Value.builtin "str.join") [Value.str _ _, Value.ref _]) _ _ _); k_dflt (refine' txt_join (B := 1) (K := 64) ?N ?m ?i ?B ?K ?x (by decide) ?_; (case N => k_asm); (case m => k_mem); (case i => with_reducible assumption); (case B => first | exact ones_take | exact ones_drop); (case K => (simp only [List.length_take, List.length_drop, List.length_map] at *; omega)); (case x => decide)); intro t9 k9 hj9; (try dsimp only); (try k_fold)))
set_option hygiene false in
local macro_rules | `(tactic| walk_at "mine lines") => `(tactic| exact linesS_le hns hlen h0 h1 hleft0 hleft1 hhead (by omega))
local macro_rules | `(tactic| walk_at "call builtin:str.join") => `(tactic| ((rename CapMark => cap9); (with_reducible show wpAny _ _ (call (Value.builtin "str.join") [Value.str _ _, Value.ref _]) _ _ _); k_dflt (refine' txt_join (B := 400) (K := 41) ?N ?m ?i ?B ?K ?x (by decide) ?_; (case N => k_asm); (case m => k_mem); (case i => with_reducible assumption); (case B => walk_at "mine lines"); (case K => (unfold linesS; rw [List.length_map, List.length_range]; omega)); (case x => decide)); intro t9 k9 hj9; (try dsimp only); (try k_fold)))
local macro_rules | `(tactic| walk_at "KswPost") => `(tactic| ((rename CapMark => cap9); dsimp only [KswPost]; refine Hold.out ?_))
local macro_rules | `(tactic| walk_at "callWith builtin:list.append") => `(tactic| ((rename CapMark => cap9); (with_reducible refine callWith_method1 ?_ ?he ?hp); (case he => k_dflt rfl); (case hp => k_dflt rfl)))
theorem dump_claim (w : World) (l : Addr) (vs : List Value) (ns : List Int) (c : Nat) (width : Int) (head : Str) (t1 t2 : Tok) (h0 : 1 ≤ width) (h1 : width ≤ 16) (hns : ∀ i, 0 ≤ ns.getD i 0 ∧ ns.getD i 0 < 256) (hlen : ns.length ≤ 40) (hi : IntsAre vs ns) (hhead : head.length ≤ 2) :
    Claim w 6 89 (fun _ news => (l, listOf vs.toArray c) ∈ news) [.ref l, .int width t1, .str head t2] (fun t => .str (dumpS ns width head) t) := by
  unfold Claim
  k_fill
  intro p loose mean mg mb dp un gd cn cs a ccd cl outer A₀ base h₀ L m news s Q E B F X N T hk hneed hd hu hret
  have N2 := news_more N hneed
  walk_at "mine in"
  replace F' : Fr g' L' h' (fun y => List.lookup y [(Str.ofString "head", .str head t2), (Str.ofString "width", .int width t1), (Str.ofString "octets", .ref l)]) := F'
  repeat ((fail_if_success (with_reducible show wpAny _ _ (exec (Stmt.While _ _ _ _) _) _ _ _)); (first | (k_unfold; try dsimp only) | walk1 | (dsimp only; walk1)))
  try (k_unfold; try dsimp only)
  have hleft0 : 0 ≤ width.fdiv 2 := by rw [Int.fdiv_eq_ediv_of_nonneg _ (by decide)]; omega
  have hleft1 : width.fdiv 2 ≤ width := by rw [Int.fdiv_eq_ediv_of_nonneg _ (by decide)]; omega
  generalize hleft : width.fdiv 2 = left at *
  rename Fr _ _ _ _ => lF'
  rename News _ _ _ _ => lN'

  refine dump_loop [Str.ofString "row", Str.ofString "signs", Str.ofString "place"] (fun vs start => ∃ k : Nat, start = (k : Int) * width ∧ StrsAre vs (linesS ns width left head k) ∧ (k = 0 ∨ (k : Int) * width - width < ns.length)) (fun start => (ns.length + 16 - start).toNat) lF' lN' (by rfl) ⟨0, by simp, StrsAre.nil, .inl rfl⟩ ?_
  try clear lF' lN'
  rintro us c' start ts u h tk ⟨k, hk1, hk2, hk3⟩ F N
  have kMark := kstMark
  have cMark := capMark
  have hs0 : 0 ≤ start := by rw [hk1]; exact Int.mul_nonneg (by omega) (by omega)
  have hk40 : (k : Int) ≤ ns.length := by
    rcases hk3 with e | e
    · omega
    · exact rows_le h0 (by omega) e (by omega)
  have hus : us.length = k := by have e := hk2.length; simpa [linesS] using e
  k_steps
  · show KswEnd _ _ _ _ _ _ _ _ _ _ _ _
    rename News _ _ _ _ => nE'
    simp only [List.push_toArray] at nE'
    refine' ksw_end ⟨us ++ [Value.str _ _], c' + 1, start + width, _⟩ (by assumption) nE' ?hn trivial ?hk ?hr ?hp ?hm
    case hn => kst_in
    case hk => 
      intro p hp
      rcases List.mem_singleton.mp hp with rfl
      rfl
    case hr =>
      intro z h2 h3
      have h4 : z ≠ Str.ofString "start" := h2 _ (List.mem_singleton.mpr rfl)
      simp only [List.contains_cons, List.contains_nil, Bool.or_false, Bool.or_eq_false_iff, beq_eq_false_iff_ne, ne_eq] at h3
      simp [h3, h4, kstB]
    case hp =>
      refine ⟨k + 1, ?_, linesS_push hk2 _ ?_, .inr ?_⟩
      · rw [Int.natCast_add, Int.add_mul, ← hk1]; simp
      · subst_vars; rfl
      · rw [Int.natCast_add, Int.add_mul, ← hk1]; simp; assumption
    case hm => (dsimp only; omega)
  · rename (¬ start < _) => hend
    have hk9 := rowsN_eq h0 (by rw [← hk1]; omega) hk3
    have e9 : dumpS ns width head = Txt.join (Str.ofString "\n") (linesS ns width left head k) := by rw [dumpS, hleft, ← hk9]
    rw [e9] at hret
    exact hret _ _ _ (by k_asm) (cb_drop (by assumption) (by kcj_all))
section
set_option linter.unusedVariables false
set_option maxRecDepth 100000
set_option maxHeartbeats 1000000
namespace BF
theorem owner : Manifest.owners.lookup (String.ofList ['y', 'a', 'r', 'r', 'a', 'e', 't', 'y', 'b'].reverse) = some Manifest.sig_bytearray := by kernel_rfl
theorem plainAttrs : PlainAttrs "bytearray" :=
  ⟨⟨"bytearray.__getattribute__", by rw [typeLookup_type, builtinLookup_eq_fast]; kernel_rfl, by decide +kernel⟩, by rw [typeLookup_type, builtinLookup_eq_fast]; kernel_rfl⟩
theorem slot_len : Slot "bytearray" "__len__" "bytearray.__len__" :=
  .of (owner := "bytearray") (n := "__len__") (by rw [typeLookup_type, builtinLookup_eq_fast]; kernel_rfl) (by decide +kernel) (by decide +kernel) (by decide +kernel)
    (by first | exact .inl (by decide +kernel) | exact .inr (by decide +kernel)) (by rw [isSubtype_type]; kernel_rfl)
theorem entry_len : entryFor table "bytearray.__len__" = some Builtin.«bytearray.__len__» := entryFor_of_tree (by kernel_rfl)
theorem args_len (a : Value) : argsOk "bytearray.__len__" ⟨[a], []⟩ := by
  unfold argsOk; rw [signature?_of (id := "bytearray.__len__") (n := ['_', '_', 'n', 'e', 'l', '_', '_']) (o := ['y', 'a', 'r', 'r', 'a', 'e', 't', 'y', 'b']) (by kernel_rfl) owner]; kernel_rfl
theorem slot_getitem : Slot "bytearray" "__getitem__" "bytearray.__getitem__" :=
  .of (owner := "bytearray") (n := "__getitem__") (by rw [typeLookup_type, builtinLookup_eq_fast]; kernel_rfl) (by decide +kernel) (by decide +kernel) (by decide +kernel)
    (by first | exact .inl (by decide +kernel) | exact .inr (by decide +kernel)) (by rw [isSubtype_type]; kernel_rfl)
theorem entry_getitem : entryFor table "bytearray.__getitem__" = some Builtin.«bytearray.__getitem__» := entryFor_of_tree (by kernel_rfl)
theorem args_getitem (a b : Value) : argsOk "bytearray.__getitem__" ⟨[a, b], []⟩ := by
  unfold argsOk; rw [signature?_of (id := "bytearray.__getitem__") (n := ['_', '_', 'm', 'e', 't', 'i', 't', 'e', 'g', '_', '_']) (o := ['y', 'a', 'r', 'r', 'a', 'e', 't', 'y', 'b']) (by kernel_rfl) owner]; kernel_rfl
theorem slot_iter : Slot "bytearray" "__iter__" "bytearray.__iter__" :=
  .of (owner := "bytearray") (n := "__iter__") (by rw [typeLookup_type, builtinLookup_eq_fast]; kernel_rfl) (by decide +kernel) (by decide +kernel) (by decide +kernel)
    (by first | exact .inl (by decide +kernel) | exact .inr (by decide +kernel)) (by rw [isSubtype_type]; kernel_rfl)
theorem entry_iter : entryFor table "bytearray.__iter__" = some Builtin.«bytearray.__iter__» := entryFor_of_tree (by kernel_rfl)
theorem args_iter (a : Value) : argsOk "bytearray.__iter__" ⟨[a], []⟩ := by
  unfold argsOk; rw [signature?_of (id := "bytearray.__iter__") (n := ['_', '_', 'r', 'e', 't', 'i', '_', '_']) (o := ['y', 'a', 'r', 'r', 'a', 'e', 't', 'y', 'b']) (by kernel_rfl) owner]; kernel_rfl
theorem slot_init : Slot "bytearray" "__init__" "bytearray.__init__" :=
  .of (owner := "bytearray") (n := "__init__") (by rw [typeLookup_type, builtinLookup_eq_fast]; kernel_rfl) (by decide +kernel) (by decide +kernel) (by decide +kernel)
    (by first | exact .inl (by decide +kernel) | exact .inr (by decide +kernel)) (by rw [isSubtype_type]; kernel_rfl)
theorem entry_init : entryFor table "bytearray.__init__" = some Builtin.«bytearray.__init__» := entryFor_of_tree (by kernel_rfl)
theorem args_init (a b : Value) : argsOk "bytearray.__init__" ⟨[a, b], []⟩ := by
  unfold argsOk; rw [signature?_of (id := "bytearray.__init__") (n := ['_', '_', 't', 'i', 'n', 'i', '_', '_']) (o := ['y', 'a', 'r', 'r', 'a', 'e', 't', 'y', 'b']) (by kernel_rfl) owner]; kernel_rfl
theorem slot_translate : Slot "bytearray" "translate" "bytearray.translate" :=
  .of (owner := "bytearray") (n := "translate") (by rw [typeLookup_type, builtinLookup_eq_fast]; kernel_rfl) (by decide +kernel) (by decide +kernel) (by decide +kernel)
    (by first | exact .inl (by decide +kernel) | exact .inr (by decide +kernel)) (by rw [isSubtype_type]; kernel_rfl)
theorem entry_translate : entryFor table "bytearray.translate" = some Builtin.«bytearray.translate» := entryFor_of_tree (by kernel_rfl)
theorem args_translate (a b : Value) : argsOk "bytearray.translate" ⟨[a, b], []⟩ := by
  unfold argsOk; rw [signature?_of (id := "bytearray.translate") (n := ['e', 't', 'a', 'l', 's', 'n', 'a', 'r', 't']) (o := ['y', 'a', 'r', 'r', 'a', 'e', 't', 'y', 'b']) (by kernel_rfl) owner]; kernel_rfl
theorem type_translate : typeOf (.builtin "bytearray.translate") = pure (.type "method_descriptor") := by show builtinType _ = _; rw [builtinType_eq_fast]; kernel_rfl
theorem slot_decode : Slot "bytearray" "decode" "bytearray.decode" :=
  .of (owner := "bytearray") (n := "decode") (by rw [typeLookup_type, builtinLookup_eq_fast]; kernel_rfl) (by decide +kernel) (by decide +kernel) (by decide +kernel)
    (by first | exact .inl (by decide +kernel) | exact .inr (by decide +kernel)) (by rw [isSubtype_type]; kernel_rfl)
theorem entry_decode : entryFor table "bytearray.decode" = some Builtin.«bytearray.decode» := entryFor_of_tree (by kernel_rfl)
theorem args_decode (a : Value) : argsOk "bytearray.decode" ⟨[a], []⟩ := by
  unfold argsOk; rw [signature?_of (id := "bytearray.decode") (n := ['e', 'd', 'o', 'c', 'e', 'd']) (o := ['y', 'a', 'r', 'r', 'a', 'e', 't', 'y', 'b']) (by kernel_rfl) owner]; kernel_rfl
theorem type_decode : typeOf (.builtin "bytearray.decode") = pure (.type "method_descriptor") := by show builtinType _ = _; rw [builtinType_eq_fast]; kernel_rfl
theorem look_buffer : typeLookup (.type "bytearray") "__buffer__" = pure (some (.builtin "bytearray.__buffer__")) := by rw [typeLookup_type, builtinLookup_eq_fast]; kernel_rfl
theorem look_release : typeLookup (.type "bytearray") "__release_buffer__" = pure (some (.builtin "bytearray.__release_buffer__")) := by rw [typeLookup_type, builtinLookup_eq_fast]; kernel_rfl
theorem noIndex : typeLookup (.type "bytearray") "__index__" = pure none := by rw [typeLookup_type, builtinLookup_eq_fast]; kernel_rfl
theorem noIndexBytes : typeLookup (.type "bytes") "__index__" = pure none := by rw [typeLookup_type, builtinLookup_eq_fast]; kernel_rfl
theorem noBool : typeLookup (.type "bytearray") "__bool__" = pure none := by rw [typeLookup_type, builtinLookup_eq_fast]; kernel_rfl
theorem sub_self : isSubtype (.type "bytearray") (.type "bytearray") = pure true := by rw [isSubtype_type]; kernel_rfl
theorem mro : mroOf (.type "bytearray") = pure [.type "bytearray", .type "object"] := by rw [mroOf_type]; kernel_rfl
theorem lookup_new : typeLookup (.type "bytearray") "__new__" = pure (some (.builtin "bytearray.__new__")) := by rw [typeLookup_type, builtinLookup_eq_fast]; kernel_rfl
theorem called : TypeCalled "bytearray" "bytearray.__new__" "bytearray.__init__" :=
  ⟨by decide +kernel, by decide +kernel, ⟨_, _, mro⟩, madeBy_type mro lookup_new (by decide +kernel), by decide +kernel, sub_self, slot_init⟩
theorem typeCall (a : Value) : checkTypeCall "bytearray" ⟨[a], []⟩ = pure () := by kernel_rfl
theorem newCall (a : Value) : checkBuiltinCall "bytearray.__new__" ⟨[.type "bytearray", a], []⟩ = pure () := by kernel_rfl
theorem entry_new : entryFor table "bytearray.__new__" = some Builtin.«list.__new__» :=
  entryFor_alias (id' := "list.__new__") (by kernel_rfl) (by first | rfl | decide +kernel) (by decide +kernel) (by kernel_rfl)
theorem plain_new : plainId "bytearray.__new__" = true := by decide +kernel
theorem next_look : typeLookup (.type "bytearray_iterator") "__next__" = pure (some (.builtin "bytearray_iterator.__next__")) := by rw [typeLookup_type, builtinLookup_eq_fast]; kernel_rfl
theorem entry_next : entryFor table "bytearray_iterator.__next__" = some Builtin.«bytearray_iterator.__next__» := entryFor_of_tree (by kernel_rfl)
end BF
end
section
set_option linter.unusedVariables false
set_option maxRecDepth 100000
set_option maxHeartbeats 1000000
section
variable {M : Model} {A : Around} {E : Value → Shared → Prop} {s : Shared} {env : Env}
theorem wpC_execs {st : Stmt} {rest : List Stmt} {Q : Flow → Shared → Prop} (h : wpC M A (exec st env) (fun f s' => match f with | .next => wpC M A (execs rest env) Q E s' | f => Q f s') E s) : wpC M A (execs (st :: rest) env) Q E s := by
  rw [execs_cons]
  refine wpC_bind (wpC_mono h (fun f s' h' => ?_) fun _ _ x => x)
  cases f <;> first | exact h' | exact wpC_pure h'
theorem wpC_nil {Q : Flow → Shared → Prop} (h : Q .next s) : wpC M A (execs [] env) Q E s := wpC_pure h
theorem wpC_Name {x pos' value pos} {Q : Flow → Shared → Prop} (h : wpC M A (eval value env) (fun v s₁ => wpAny M A (storeName env x v) (fun _ => Q .next) E s₁) E s)
    (hs : swapsWith value (some (.Name x pos')) pos.line env = pure false := by rfl) : wpC M A (exec (.Assign [.Name x pos'] value pos) env) Q E s := fun Γ p hΓ h1 h2 => by
  simp only [exec_Assign_Name env x pos' value pos hs, Sem.wp_bind', Sem.wp_cmd_standAt, Sem.wp_bindName, Sem.wp_pure']
  exact Sem.wp_mono M Γ _ (fun v _ s₁ h₁ => h₁ Γ _ hΓ) (fun _ _ _ h' => h') _ _ (h Γ _ hΓ h1 h2)
theorem wpC_If {test body orelse pos} {Q : Flow → Shared → Prop} (h : wpAny M A (isTrue test env (eval test env)) (fun b s₂ => if b then wpC M A (execs body env) Q E s₂ else wpC M A (execs orelse env) Q E s₂) E s) :
    wpC M A (exec (.If test body orelse pos) env) Q E s := by
  rw [exec_If]
  refine wpC_then (wpAny_standAt (wpC_then (wpAny_mono h (fun b s₂ h₂ => ?_) fun _ _ x => x)))
  cases b <;> simpa using h₂
theorem wpC_If_test {test body orelse pos} {Q : Flow → Shared → Prop} (h : wpC M A (isTrue test env (eval test env)) (fun b s₂ => if b then wpAny M A (execs body env) Q E s₂ else wpAny M A (execs orelse env) Q E s₂) E s) :
    wpC M A (exec (.If test body orelse pos) env) Q E s := by
  rw [exec_If]
  refine wpC_then (wpAny_standAt (wpC_front (wpC_mono h (fun b s₂ h₂ => ?_) fun _ _ x => x)))
  cases b <;> simpa using h₂
theorem wpC_AssignTuple {elts k tpos value pos} {Q : Flow → Shared → Prop} (h : wpC M A (eval value env) (fun v s₁ => wpAny M A (assign (.Tuple elts k tpos) env v) (fun _ => Q .next) E s₁) E s)
    (hs : swapsWithSole [.Tuple elts k tpos] value pos.line env = pure false := by rfl)
    (hw : swappedStores [.Tuple elts k tpos] value env = pure none := by rfl) : wpC M A (exec (.Assign [.Tuple elts k tpos] value pos) env) Q E s := by
  rw [exec_Assign]
  refine wpC_then (wpAny_standAt ?_)
  rw [hs]
  refine wpC_then (wpAny_pure ?_)
  rw [if_neg (by decide)]
  refine wpC_front (wpC_mono h (fun v s₁ h₁ => ?_) fun _ _ x => x)
  rw [hw]
  refine wpAny_bind (wpAny_pure ?_)
  show wpAny M A (do assignAll v [assign (.Tuple elts k tpos) env]; pure .next) Q E s₁
  exact wpAny_bind (wpAny_mono h₁ (fun _ _ x => wpAny_pure x) fun _ _ x => x)
theorem wpC_AssignSwap {elts k tpos value pos} {names : List Str} {Q : Flow → Shared → Prop}
    (h : wpC M A (eval value env) (fun v s₁ => wpAny M A (unpackItems v names.length none) (fun items s₂ => wpAny M A (assignInOrder (names.reverse.map fun n => bindName env n) items.reverse) (fun _ => Q .next) E s₂) E s₁) E s)
    (hs : swapsWithSole [.Tuple elts k tpos] value pos.line env = pure false := by rfl)
    (hw : swappedStores [.Tuple elts k tpos] value env = pure (some names) := by rfl) : wpC M A (exec (.Assign [.Tuple elts k tpos] value pos) env) Q E s := by
  rw [exec_Assign]
  refine wpC_then (wpAny_standAt ?_)
  rw [hs]
  refine wpC_then (wpAny_pure ?_)
  rw [if_neg (by decide)]
  refine wpC_front (wpC_mono h (fun v s₁ h₁ => ?_) fun _ _ x => x)
  rw [hw]
  refine wpAny_bind (wpAny_pure ?_)
  show wpAny M A (do rule "assign.swapped-stores"; let items ← unpackItems v names.length none; assignInOrder (names.reverse.map fun n => bindName env n) items.reverse; pure .next) Q E s₁
  exact wpAny_bind (wpAny_rule (wpAny_bind (wpAny_mono h₁ (fun items s₂ h₂ => wpAny_bind (wpAny_mono h₂ (fun _ _ x => wpAny_pure x) fun _ _ x => x)) fun _ _ x => x)))
theorem wpC_Tuple {elts : List Expr} {k : Nat} {pos : Pos} {Q : Value → Shared → Prop} (h : wpC M A (spliced (backTo pos (starEach elts env))) (fun vs s₁ => wpAny M A (newTuple vs) Q E s₁) E s) : wpC M A (eval (.Tuple elts k pos) env) Q E s := by
  show wpC M A (do standAt pos; newTuple (← spliced (backTo pos (starEach elts env)))) Q E s
  exact wpC_then (wpAny_standAt (wpC_front h))
theorem wpC_args {e : Expr} {rest : List Expr} {pos : Pos} {Q : List Value → Shared → Prop} (h : wpC M A (eval e env) (fun v s₁ => wpAny M A (spliced (backTo pos (starEach rest env))) (fun vs s₂ => Q (v :: vs) s₂) E s₁) E s)
    (he : starEach (e :: rest) env = (false, eval e env) :: starEach rest env := by rfl) : wpC M A (spliced (backTo pos (starEach (e :: rest) env))) Q E s := by
  rw [he]
  show wpC M A (spliced ((false, eval e env) :: backTo pos (starEach rest env))) Q E s
  rw [spliced]
  refine wpC_front (wpC_mono h (fun v s₁ h₁ => ?_) fun _ _ x => x)
  simp only [Bool.false_eq_true, if_false]
  exact wpAny_bind (wpAny_pure (wpAny_bind (wpAny_holding (wpAny_mono h₁ (fun vs s₂ h₂ => wpAny_pure h₂) fun _ _ x => x))))
theorem wpC_Call {func : Expr} {args : List Expr} {pos : Pos} {Q : Value → Shared → Prop} (h : wpAny M A (eval func env) (fun f s₁ => wpC M A (callWith pos f [] (backTo pos (starEach args env)) []) Q E s₁) E s)
    (he : eval (.Call func args [] pos) env = (do callWith pos (← eval func env) [] (backTo pos (starEach args env)) (backToKw pos (keywordEach [] env))) := by rfl) : wpC M A (eval (.Call func args [] pos) env) Q E s := by
  rw [he]; exact wpC_then h
theorem wpC_Compare1 {l op r pos whole} {Q : Bool → Shared → Prop}
    (h : wpC M A (eval l env) (fun a s₁ => wpAny M A (eval r env) (fun b s₂ => wpAny M A (compareOp op a b) (fun c s₃ => wpAny M A (truthy c) Q E s₃) E s₂) E s₁) E s)
    (hm : behindInMarks op r = false := by with_unfolding_all rfl) : wpC M A (isTrue (.Compare l [op] [r] pos) env whole) Q E s := fun Γ p hΓ h1 h2 => by
  simp only [isTrue_Compare1, markedBehindIn_of_false hm, Sem.wp_bind', Sem.wp_holding, Sem.wp_cmd_standAt, Sem.wp_operate]
  exact Sem.wp_mono M Γ _ (fun a p₁ s₁ h₁ => Sem.wp_mono M Γ _ (fun b _ s₂ h₂ => Sem.wp_mono M Γ _ (fun c p₃ s₃ h₃ => h₃ Γ p₃ hΓ)
    (fun _ _ _ h' => h') _ _ (h₂ Γ _ hΓ)) (fun _ _ _ h' => h') _ _ (h₁ Γ p₁ hΓ)) (fun _ _ _ h' => h') _ _ (h Γ p hΓ h1 h2)
theorem wpC_or {x rest pos whole} {Q : Bool → Shared → Prop} (h : wpC M A (isTrue x env (eval x env)) (fun c s' => if c then Q true s' else wpC M A (isTrue (.BoolOp .Or rest pos) env whole) Q E s') E s) :
    wpC M A (isTrue (.BoolOp .Or (x :: rest) pos) env whole) Q E s := by
  show wpC M A (do
    match BoolOp.Or, ← isTrue x env (eval x env) with
    | .And, false => pure false
    | .Or, true => pure true
    | _, _ => allTrue .Or rest env) Q E s
  refine wpC_bind (wpC_mono h (fun c s' h' => ?_) fun _ _ x => x)
  cases c with
  | true => exact wpC_pure h'
  | false => exact h'
theorem wpC_callWith {f : Value} {first : List Value} {pos : Pos} {Q : Value → Shared → Prop} {P : Heap → Prop} {args : List (Bool × Sem Value)} {keywords : List (Option Str × Sem Value)} (hplain : (args.any (·.1) || keywords.any (·.1.isNone)) = false)
    (hk : ∀ h, P h → ∃ k, (k = Keeper.frame ∨ k = Keeper.machine ∨ k = Keeper.boundFrame) ∧ Looks M h (keeperOf f) k)
    (h : wpAny M A (evalArgs f true args keywords) (fun a s₁ => P s₁.heap ∧ wpC M A (call f (first ++ a.pos) a.kw) Q E s₁) E s) : wpC M A (callWith pos f first args keywords) Q E s := by
  unfold callWith
  refine wpC_then (wpAny_holding (wpAny_mono h (fun a s₁ h₁ => wpC_then (wpAny_standAt ?_)) fun _ _ x => x))
  obtain ⟨k, hk', L⟩ := hk _ h₁.1
  simp only [hplain]
  refine wpC_then (L.here ?_)
  have tail : ∀ {t : Sem Value}, wpC M A t Q E s₁ → wpC M A (t >>= fun r => holding [r] point >>= fun _ => pure r) Q E s₁ :=
    fun ht => wpC_front (wpC_mono ht (fun r s₂ hr => wpAny_bind (wpAny_holding (wpAny_point (wpAny_pure hr)))) fun _ _ x => x)
  have marked (mk : Value) : wpC M A (callMarked mk f (first ++ a.pos) a.kw) Q E s₁ := by unfold callMarked; exact wpC_keep h₁.2
  rcases hk' with rfl | rfl | rfl <;> dsimp only <;> first | exact tail h₁.2 | (split <;> first | exact tail h₁.2 | exact tail (marked _))
theorem wpC_callK {K : Frag} {f : Value} {first : List Value} {pos : Pos} {h₀ : Heap} {e : Expr} {rest : List Expr} {Q : Value → Shared → Prop} (_X : K.In h₀) (hk : keepIn K f = true) (h : wpAny M A (spliced (backTo pos (starEach (e :: rest) env))) (fun vs s₁ => K.In s₁.heap ∧ wpC M A (call f (first ++ vs)) Q E s₁) E s)
    (he : starEach (e :: rest) env = (false, eval e env) :: starEach rest env := by rfl) (hplain : (backTo pos (starEach rest env)).any (·.1) = false := by rfl) :
    wpC M A (callWith pos f first (backTo pos (starEach (e :: rest) env)) []) Q E s := by
  rw [he] at h ⊢
  exact wpC_callWith (by show ((false || (backTo pos (starEach rest env)).any (·.1)) || false) = false; rw [hplain]; rfl) (keeps_K hk) (evalArgs_plain h)
end
section
variable {prog : Program} {w : World} {A A₀ : Around} {E : Value → Shared → Prop} {s : Shared} {R : Result → Shared → Prop} {base h₀ : Heap} {outer : List Env} {env : Env} {L f : Addr} {m : Str → Option Value} {news : List (Addr × Obj)} {K : Frag} {p : Program} {loose : List Str} {mean : ExcName → Option Value} {mg mb : Str → Option Value}
/-- the entry of a def without cells, its body in the judgement wpC -/
theorem codeC_def {name qual : Str} {params : Arguments} {body : List Stmt} {scope : Scope} {dV kV doc pm cdv ct oc : Value} {an od : Option Addr} {osl : Array (Option Value)} {args : Args} {binds : List (Str × Value)}
    (B : Below A₀ base outer h₀) (F : Fr h₀ L s.heap m) (X₀ : K.In h₀) (N : News h₀ L s.heap news) (T : Top p loose mean mg mb h₀) (hA : A.frames = some (env :: outer)) (hf : env.frame = some L) (hke : env.scope.kind = .function)
    (ho : K.lookup f = some ⟨oc, od, .func (fnOf name qual params body scope dV kV doc pm an cdv ct), osl⟩) (hcd : codeIn K cdv qual = true) (hroom : A.depth < recursionLimit)
    (hbind : BindsTo s (fnOf name qual params body scope dV kV doc pm an cdv ct) args binds) (hloc : ∀ y ∈ binds, scope.names.lookup y.1 = some .local)
    (h : ∀ g L' h₁, Fr h₀ L g m → Fr g L' h₁ (fun y => binds.reverse.lookup y) → News g L' h₁ news → Below A base (env :: outer) g → K.In g → Top p loose mean mg mb g →
      wpC (model prog w) (A.deeper (envOf qual scope L' f cdv)) (execs body (envOf qual scope L' f cdv))
        (fun fl s' => LeaveK h₀ L m g R (match fl with | .ret v => v | _ => .none) s')
        (fun e s' => wpAny (model prog w) (A.deeper (envOf qual scope L' f cdv)) (leaving (envOf qual scope L' f cdv) e) (fun _ s'' => R (.error e) s'') (fun e' s'' => R (.error e') s'') s')
        { s with heap := h₁, toks := s.toks + binds.length })
    (hco : scope.isCoroutine = false) (hgen : scope.isGenerator = false) (hk : scope.kind = .function) (hcell : ∀ x ∈ scope.names, x.2 ≠ .cell) : codeC (model prog w) A (.call (.ref f) args) R s := by
  obtain ⟨FG, BG, st, lv⟩ := groundX (R := R) B F N hA hf hke
  have hlim : s.heap.NoLimit := T.nolimit.keeps F.keep
  refine codeC_call_function hroom ((X₀.keeps F.keep) _ _ ho) rfl hco hgen rfl (codeRec_of (X₀.keeps F.keep) hcd) (hbind _ _ _ _ ?_)
  refine wpAny_newFunctionEnv hcell hloc (fun h₁ hns₀ hsb₀ => ⟨hlim.fresh _ hsb₀, codeC_func ?_⟩) hk
  have hk₁ : ∀ b o, s.heap.get? b = some o → h₁.get? b = some o := fun b o e => hsb₀.extBut b o (Nat.ne_of_lt (Heap.lt_size e)) (Heap.get?_push_of_some _ e)
  exact wpC_mono (h _ s.heap.objs.size h₁ FG ⟨hns₀, fun b o e => hk₁ b o (of_hideAll _ e), Nat.le_of_eq (hideAll_size _ _)⟩
    (fun p hp => ⟨hk₁ _ _ (N p hp).1, Nat.ne_of_lt (Heap.lt_size (N p hp).1), hideAll_none _ (List.mem_map_of_mem hp)⟩) BG (X₀.keeps st) (T.keeps st)) (fun fl s' hl => lv _ _ hl) fun _ _ y => y
/-- the entry of the law: a def with cells, called from the module's level -/
theorem codeC_cells {name : Str} {params : Arguments} {body : List Stmt} {scope : Scope} {pm cd doc : Value} {a : Addr} {o : Obj} {args : List Value} {binds : List (Str × Value)}
    (hroom : A.depth < recursionLimit) (ho : s.heap.get? a = some o) (hdata : o.data = .func (Calls.docDef name params body scope pm cd doc)) (hlim : s.heap.NoLimit) (hcd : s.heap.CodeRec cd name)
    (hbind : bindArgs (Calls.docDef name params body scope pm cd doc) ⟨args, []⟩ = pure binds)
    (hkind : ∀ x ∈ binds, scope.names.lookup x.1 = some .local ∨ (scope.names.lookup x.1 = some .cell ∧ ((cellsFrom (s.heap.objs.size + 1) scope.names []).lookup x.1).isSome = true))
    (hnd : ((cellsFrom 0 scope.names []).map (·.1)).Nodup)
    (h : ∀ h₁ tk cells, Fr s.heap s.heap.objs.size h₁ (bindL (envOfC name scope s.heap.objs.size a cd).kindOf binds fun _ => none) → News s.heap s.heap.objs.size h₁ cells →
      CellsAre (bindC (envOfC name scope s.heap.objs.size a cd).kindOf binds fun _ => none) (cellsFrom (s.heap.objs.size + 1) scope.names []) cells →
      wpC (model prog w) (A.deeper (envOfC name scope s.heap.objs.size a cd)) (execs body (envOfC name scope s.heap.objs.size a cd))
        (fun f s' => R (.ok (.ret (match f with | .ret v => v | _ => .none))) s')
        (fun e s' => wpAny (model prog w) (A.deeper (envOfC name scope s.heap.objs.size a cd)) (leaving (envOfC name scope s.heap.objs.size a cd) e)
          (fun _ s'' => R (.error e) s'') (fun e' s'' => R (.error e') s'') s')
        { s with heap := h₁, toks := tk })
    (hco : scope.isCoroutine = false := by rfl) (hgen : scope.isGenerator = false := by rfl) (hk : scope.kind = .function := by rfl) :
    codeC (model prog w) A (.call (.ref a) ⟨args, []⟩) R s := by
  refine codeC_call_function hroom ho hdata hco hgen rfl hcd ?_
  rw [hbind]
  refine wpAny_pure (wpAny_newFunctionEnv_cells hk hkind fun env he s' x => ?_)
  subst he
  refine ⟨hlim.keeps x.toInCall.keep, codeC_func ?_⟩
  obtain ⟨h₁, tk, rfl, _⟩ := x.done
  let ⟨cells, N, Y⟩ := Cl.news (h₀ := s.heap) (Nat.le_refl _) fun n c hm => ⟨x.cell n c (lookup_of_mem_nodup (cellsFrom_names scope.names 0 (s.heap.objs.size + 1) [] [] rfl ▸ hnd) hm), x.above n c hm⟩
  exact h h₁ tk cells ⟨x.toInCall.ns, x.toInCall.keep, x.toInCall.fresh⟩ N Y
end
end
section
set_option linter.unusedVariables false
set_option maxRecDepth 100000
set_option maxHeartbeats 1000000
abbrev baOf (b : Array UInt8) : Obj := { cls := .type "bytearray", data := .bytearray b }
set_option maxRecDepth 1000000 in
set_option maxHeartbeats 4000000 in
theorem owner_new : ("bytearray.__new__".splitOn ".__new__").headD "" = "bytearray" := by simp +decide [String.splitOn, String.splitOnAux]
section
variable {prog : Program} {w : World} {A : Around} {E : Value → Shared → Prop} {s : Shared}
theorem code_ba_new (a : Value) {Q₁ : Value → Shared → Prop} (h : Q₁ (.ref s.heap.objs.size) { s with heap := s.heap.push (baOf #[]) }) :
    codeAny (model prog w) A (.call (.builtin "bytearray.__new__") ⟨[.type "bytearray", a], []⟩) (wants Q₁ E) s := by
  refine codeAny_of_tree ?_
  show wpAny _ A.in1 (do checkBuiltinCall "bytearray.__new__" ⟨[.type "bytearray", a], []⟩; again (.builtin "bytearray.__new__" ⟨[.type "bytearray", a], []⟩)) _ _ s
  refine wpAny_bind (wpAny_of_eq (BF.newCall a) (wpAny_pure ⟨plainId_quiet BF.plain_new _, codeAny_builtin_stack BF.entry_new rfl fun p st => ?_⟩))
  rw [Around.under_plainId BF.plain_new _]
  have hsub := BF.sub_self
  have hown := owner_new
  obtain ⟨hp, g, d, tk, os⟩ := s
  simp only [hown]
  wp_walk
  exact h
end
section
variable {prog : Program} {w : World} {A : Around} {E : Value → Shared → Prop} {s : Shared} {R : Result → Shared → Prop}
theorem codeC_builtin {id : String} {args : Args} {b : Builtin} (hcl : Builtin.Bytes.decodersThatHold.contains id = false) (hb : entryFor table id = some b)
    (h : wpC (model prog w) (A.under (.builtin id args)) (b args)
      (fun fin s' => match fin with | .done f => R (.ok f) s' | .again c' => c'.quiet = true ∧ codeC (model prog w) A c' R s') (fun e s' => R (.error e) s') s) :
    codeC (model prog w) A (.builtin id args) R s := by
  refine codeC_tree (by show (!Builtin.Bytes.decodersThatHold.contains id) = true; rw [hcl]; rfl) ?_
  show wpC _ _ (match entryFor table id with | some b => b args | none => unsupported ((withoutEnding? id "#data").getD id)) _ _ s
  rw [hb]; exact h
theorem clean_call : Builtin.Bytes.decodersThatHold.contains "type.__call__" = false := by decide +kernel
theorem clean_init : Builtin.Bytes.decodersThatHold.contains "bytearray.__init__" = false := by decide +kernel
theorem quiet_type_call (args : Args) : (Code.builtin "type.__call__" args).quiet = true := Code.quiet_builtin _ (by decide +kernel)
theorem codeC_type {T : String} {args : List Value} (h : wpC (model prog w) A.in1 (Builtin.«type.__call__» ⟨.type T :: args, []⟩)
      (fun fin s' => match fin with | .done f => R (.ok f) s' | .again c' => c'.quiet = true ∧ codeC (model prog w) A c' R s') (fun e s' => R (.error e) s') s) :
    codeC (model prog w) A (.call (.type T) ⟨args, []⟩) R s := by
  refine codeC_tree rfl ?_
  show wpC _ _ (callAny (.type T) _) _ _ _
  refine wpC_pure ⟨quiet_type_call _, codeC_builtin clean_call F.entry_type_call ?_⟩
  rw [Around.under_plain (weight_type_call_type T args []) rfl]
  exact h
end
theorem clean_id {id : String} {args : Args} (h : (!Builtin.Bytes.decodersThatHold.contains id) = true) : cleanCode (.builtin id args) = true := h
end
section
set_option linter.unusedVariables false
set_option maxRecDepth 100000
set_option maxHeartbeats 1000000
section
variable {prog : Program} {w : World} {A : Around} {E : Value → Shared → Prop} {s : Shared} {R : Result → Shared → Prop}
theorem codeC_call_builtin {id : String} {args : Args} {b : Builtin} (hcl : Builtin.Bytes.decodersThatHold.contains id = false) (hq : plainId id = true) (hb : entryFor table id = some b)
    (h : wpAny (model prog w) A.in1 (checkBuiltinCall id args) (fun _ s₁ => wpC (model prog w) A.in1 (b args)
      (fun fin s' => match fin with | .done f => R (.ok f) s' | .again c' => c'.quiet = true ∧ codeC (model prog w) A c' R s') (fun e s' => R (.error e) s') s₁)
      (fun e s' => R (.error e) s') s) : codeC (model prog w) A (.call (.builtin id) args) R s := by
  refine codeC_tree rfl (wpC_any ?_)
  show wpAny _ A.in1 (do checkBuiltinCall id args; again (.builtin id args)) _ _ s
  refine wpAny_bind (wpAny_mono h (fun _ s₁ h₁ => wpAny_pure ⟨plainId_quiet hq args, codeC_builtin hcl hb ?_⟩) fun _ _ x => x)
  rw [Around.under_plainId hq args]
  exact h₁
theorem ba_type (s : Shared) {b : Array UInt8} {a : Addr} (h : s.heap.get? a = some (baOf b)) : s.TypeIs (.ref a) "bytearray" := ⟨_, h, rfl⟩
theorem wpC_ba {x : Value} {Q : Value → Shared → Prop}
    (h : wpC (model prog w) A.in1.in1 (Builtin.«bytearray.__init__» ⟨[.ref s.heap.objs.size, x], []⟩)
      (fun fin s' => fin = .done (.ret .none) ∧ Q (.ref s.heap.objs.size) s') E { s with heap := s.heap.push (baOf #[]) }) : wpC (model prog w) A (call (.type "bytearray") [x]) Q E s := by
  refine wpC_call (codeC_type ?_)
  unfold Builtin.«type.__call__»
  dsimp only
  rw [if_neg (by decide), if_neg (by rw [BF.called.canCreate]; decide)]
  refine wpC_then (wpAny_of_eq (BF.typeCall x) ?_)
  refine wpC_then (wpAny_of_eq BF.mro ?_)
  rw [if_neg (by decide)]
  refine wpC_then (wpAny_of_eq BF.called.made ?_)
  dsimp only
  refine wpC_then (wpAny_pure ?_)
  refine wpC_then (wpAny_holding (wpAny_call (codeAny_mono (code_ba_new x (E := fun e s' => False) (Q₁ := fun v s' => v = .ref s.heap.objs.size ∧ s' = { s with heap := s.heap.push (baOf #[]) }) ⟨rfl, rfl⟩) (fun r s' hr => ?_))))
  cases r with
  | error e => exact hr.elim
  | ok fl =>
    cases fl with
    | ret obj =>
      obtain ⟨rfl, rfl⟩ := hr
      have hS : (s.heap.push (baOf #[])).get? s.heap.objs.size = some (baOf #[]) := Heap.get?_push_size _ rfl
      have hT := ba_type { s with heap := s.heap.push (baOf #[]) } hS
      dsimp only
      refine wpC_then (wpAny_isInstance hT BF.sub_self ?_)
      rw [if_neg (by decide)]
      refine wpC_front (wpC_holding ?_)
      unfold callSpecial?
      refine wpC_then (wpAny_specialOf hT BF.slot_init.lookup ?_)
      dsimp only
      refine wpC_holding (wpC_then (wpAny_of_eq (BF.slot_init.bind _) ?_))
      dsimp only
      refine wpC_front (wpC_call (codeC_call_builtin clean_init BF.slot_init.plain BF.entry_init (BF.slot_init.check _ _ _ _ _ _ _ _ hT (BF.args_init _ _) (wpC_mono h (fun fin s' h' => ?_) fun e s' h' => h'))))
      obtain ⟨rfl, hq⟩ := h'
      exact wpAny_pure (by dsimp only; rw [if_neg (by decide)]; exact wpAny_pure hq)
    | _ => exact hr.elim
end
end
section
set_option linter.unusedVariables false
set_option maxRecDepth 100000
set_option maxHeartbeats 1000000
section
variable {M : Model} {prog : Program} {w : World} {A : Around} {E : Value → Shared → Prop} {s : Shared}
/-- the heap with one bytearray turned -/
def Turned (n : Addr) (b : Array UInt8) (h h' : Heap) : Prop := h'.get? n = some (baOf b) ∧ ∀ a o, a ≠ n → h.get? a = some o → h'.get? a = some o
theorem Turned.trans {n : Addr} {b c : Array UInt8} {h h' h'' : Heap} (x : Turned n b h h') (y : Turned n c h' h'') : Turned n c h h'' := ⟨y.1, fun a o ha e => y.2 a o ha (x.2 a o ha e)⟩
theorem ba_write {n : Addr} {b₀ : Array UInt8} {f : Array UInt8 → Array UInt8} {Q : Unit → Shared → Prop} (hS : s.heap.get? n = some (baOf b₀)) (hz : (f b₀).size ≤ sizeLine)
    (h : ∀ h', Turned n (f b₀) s.heap h' → Q () { s with heap := h' }) : wpAny M A (Builtin.Bytes.write (.ref n) f) Q E s := by
  show wpAny _ _ (updateBytearray n f) _ _ _
  unfold updateBytearray
  refine wpAny_bind (wpAny_load hS ?_)
  show wpAny _ _ (update n (Obj.mapBytearray f) >>= fun _ => lookBehind n) _ _ _
  refine wpAny_bind (wpAny_update hS ?_)
  have hS₂ : (s.heap.update n (Obj.mapBytearray f)).get? n = some (baOf (f b₀)) := Heap.get?_update_self (Obj.mapBytearray f) hS rfl
  refine wpAny_lookBehind hS₂ ?_ (h _ ⟨hS₂, fun a o ha e => (Heap.get?_update_other _ _ (Ne.symm ha)).trans e⟩)
  show (if (f b₀).size > sizeLine then some "bytearray:memory" else none) = none
  rw [if_neg (by omega)]
theorem ba_payload {n : Addr} {b : Array UInt8} {Q : Array UInt8 → Shared → Prop} (hS : s.heap.get? n = some (baOf b)) (h : Q b s) : wpAny M A (Builtin.Bytes.payload (.ref n)) Q E s := by
  unfold Builtin.Bytes.payload Builtin.Bytes.payload?
  exact wpAny_bind (wpAny_bind (wpAny_load hS (wpAny_pure (wpAny_pure h))))
theorem str_sub_ba : isInstance (.ref 0) (.type "bytearray") = isInstance (.ref 0) (.type "bytearray") := rfl
theorem ba_own {n : Addr} {b : Array UInt8} {name : String} {Q : Bool → Shared → Prop} (hS : s.heap.get? n = some (baOf b)) (hl : typeLookup (.type "bytearray") (Str.ofString name) = pure (some (.builtin ("bytearray." ++ name))))
    (he : ("bytearray." ++ name).endsWith ("." ++ name) = true) (hd : ("bytearray." ++ name).dropRight (name.length + 1) = "bytearray") (h : Q true s) : wpAny M A (Builtin.Bytes.slotIsOwn (.ref n) name) Q E s := by
  have hT := ba_type s hS
  unfold Builtin.Bytes.slotIsOwn
  refine wpAny_bind (wpAny_specialOf hT hl ?_)
  dsimp only
  rw [he]
  simp only [Bool.not_true, Bool.false_eq_true, if_false]
  rw [hd]
  exact wpAny_isInstance hT BF.sub_self h
theorem ba_release {n : Addr} {b : Array UInt8} {Q : Bool → Shared → Prop} (hS : s.heap.get? n = some (baOf b)) (h : Q false s) : wpAny M A (Builtin.Bytes.ownRelease (.ref n)) Q E s := by
  unfold Builtin.Bytes.ownRelease
  exact wpAny_bind (ba_own hS BF.look_release (by decide +kernel) (by decide +kernel) (wpAny_pure h))
theorem ba_buffer {n : Addr} {b : Array UInt8} {id : String} {full : Bool} {Q : Option (Array UInt8) → Shared → Prop} (hS : s.heap.get? n = some (baOf b)) (h : Q (some b) s) : wpAny M A (Builtin.Bytes.buffer? id (.ref n) full) Q E s := by
  have hT := ba_type s hS
  unfold Builtin.Bytes.buffer?
  refine wpAny_bind (wpAny_specialOf hT BF.look_buffer ?_)
  dsimp only
  refine wpAny_bind (ba_own hS BF.look_buffer (by decide +kernel) (by decide +kernel) ?_)
  simp only [Bool.not_true, Bool.false_eq_true, if_false]
  refine wpAny_bind (wpAny_specialOf hT BF.look_buffer ?_)
  refine wpAny_bind (ba_release hS ?_)
  simp only [Bool.false_eq_true, if_false]
  exact wpAny_bind (ba_payload hS (wpAny_pure h))
theorem bytes_buffer {b : Array UInt8} {t : Tok} {id : String} {full : Bool} {Q : Option (Array UInt8) → Shared → Prop} (h : Q (some b) s) : wpAny M A (Builtin.Bytes.buffer? id (.bytes b t) full) Q E s := by
  unfold Builtin.Bytes.buffer?
  refine wpAny_bind (wpAny_of_eq (KBy.special_eq KBy.look_buffer) ?_)
  dsimp only
  refine wpAny_bind (wpAny_of_eq KBy.own_buffer ?_)
  simp only [Bool.not_true, Bool.false_eq_true, if_false]
  refine wpAny_bind (wpAny_of_eq (KBy.special_eq KBy.look_buffer) ?_)
  refine wpAny_bind (wpAny_of_eq KBy.own_release ?_)
  simp only [Bool.false_eq_true, if_false]
  exact wpAny_bind (wpAny_of_eq (a := b) rfl (wpAny_pure h))
end
section
variable {prog : Program} {w : World} {A : Around} {E : Value → Shared → Prop} {s : Shared}
theorem ba_bind (v : Value) : Builtin.Bytes.bindOptional "bytearray.__init__" "bytearray" ["source", "encoding", "errors"] [v] [] = pure [some v, none, none] := by kernel_rfl
theorem init_bytes {n : Addr} {b : Array UInt8} {t : Tok} {P : Shared → Prop} (hS : s.heap.get? n = some (baOf #[])) (hg : A.guards = some []) (hz : b.size ≤ sizeLine) (h : ∀ h₁, Turned n b s.heap h₁ → P { s with heap := h₁ }) :
    wpC (model prog w) A (Builtin.«bytearray.__init__» ⟨[.ref n, .bytes b t], []⟩) (fun fin s' => fin = .done (.ret .none) ∧ P s') E s := by
  unfold Builtin.«bytearray.__init__»
  dsimp only
  refine wpC_then (ba_release hS ?_)
  simp only [Bool.false_eq_true, if_false]
  refine wpC_then (wpAny_of_eq (ba_bind _) ?_)
  dsimp only
  refine wpC_then (wpAny_of_eq (a := ()) rfl ?_)
  refine wpC_then (wpAny_of_eq (a := ()) rfl ?_)
  refine wpC_bind (wpC_bind (wpC_exported hg (wpC_any ?_)))
  show wpAny _ _ (Builtin.Bytes.exportsOf (.ref n) >>= fun x => pure (decide (x > 0))) _ _ _
  unfold Builtin.Bytes.exportsOf
  refine wpAny_bind (wpAny_bind (wpAny_load hS ?_))
  refine wpAny_pure (wpAny_pure ?_)
  rw [if_neg (by decide)]
  refine wpC_then (ba_write hS (by decide) fun h₁ X₁ => wpC_any ?_)
  refine wpAny_bind (wpAny_of_eq (a := none) rfl ?_)
  simp only [Option.isSome_none, Bool.false_eq_true, if_false]
  refine wpAny_bind (wpAny_pure ?_)
  refine wpAny_bind (wpAny_of_eq (KBy.special_eq BF.noIndexBytes) ?_)
  simp only [Option.isSome_none, Bool.false_eq_true, if_false]
  refine wpAny_bind (bytes_buffer ?_)
  dsimp only
  refine wpAny_bind (wpAny_rule ?_)
  exact wpAny_bind (ba_write X₁.1 hz fun h₂ X₂ => wpAny_pure ⟨rfl, h _ (X₁.trans X₂)⟩)
theorem init_ba {n l : Addr} {b : Array UInt8} {P : Shared → Prop} (hS : s.heap.get? n = some (baOf #[])) (hl : s.heap.get? l = some (baOf b)) (hln : l ≠ n) (hg : A.guards = some []) (hz : b.size ≤ sizeLine) (h : ∀ h₁, Turned n b s.heap h₁ → P { s with heap := h₁ }) :
    wpC (model prog w) A (Builtin.«bytearray.__init__» ⟨[.ref n, .ref l], []⟩) (fun fin s' => fin = .done (.ret .none) ∧ P s') E s := by
  unfold Builtin.«bytearray.__init__»
  dsimp only
  refine wpC_then (ba_release hS ?_)
  simp only [Bool.false_eq_true, if_false]
  refine wpC_then (wpAny_of_eq (ba_bind _) ?_)
  dsimp only
  refine wpC_then (wpAny_of_eq (a := ()) rfl ?_)
  refine wpC_then (wpAny_of_eq (a := ()) rfl ?_)
  refine wpC_bind (wpC_bind (wpC_exported hg (wpC_any ?_)))
  show wpAny _ _ (Builtin.Bytes.exportsOf (.ref n) >>= fun x => pure (decide (x > 0))) _ _ _
  unfold Builtin.Bytes.exportsOf
  refine wpAny_bind (wpAny_bind (wpAny_load hS ?_))
  refine wpAny_pure (wpAny_pure ?_)
  rw [if_neg (by decide)]
  refine wpC_then (ba_write hS (by decide) fun h₁ X₁ => wpC_any ?_)
  have hl₁ : h₁.get? l = some (baOf b) := X₁.2 l _ hln hl
  have hT := ba_type { s with heap := h₁ } hl₁
  refine wpAny_bind ?_
  show wpAny _ _ (load l >>= _) _ _ _
  refine wpAny_bind (wpAny_load hl₁ (wpAny_pure ?_))
  simp only [Option.isSome_none, Bool.false_eq_true, if_false]
  refine wpAny_bind (wpAny_pure ?_)
  refine wpAny_bind (wpAny_specialOf hT BF.noIndex ?_)
  simp only [Option.isSome_none, Bool.false_eq_true, if_false]
  refine wpAny_bind (ba_buffer hl₁ ?_)
  dsimp only
  refine wpAny_bind (wpAny_rule ?_)
  exact wpAny_bind (ba_write X₁.1 hz fun h₂ X₂ => wpAny_pure ⟨rfl, h _ (X₁.trans X₂)⟩)
theorem take_all {p : Value → Bool} (hp : ∀ i t, 0 ≤ i → i < 256 → p (.int i t) = true) : ∀ {vs : List Value} {ns : List Int}, IntsAre vs ns → (∀ n ∈ ns, 0 ≤ n ∧ n < 256) → vs.takeWhile p = vs := by
  intro vs ns hi
  induction hi with
  | nil => intro _; rfl
  | cons n t r ih =>
    intro hr
    rw [List.takeWhile_cons, if_pos (hp n t (hr n (List.mem_cons_self ..)).1 (hr n (List.mem_cons_self ..)).2), ih fun m hm => hr m (List.mem_cons_of_mem _ hm)]
theorem map_all {f : Value → Option UInt8} (hf : ∀ i t, f (.int i t) = some i.toNat.toUInt8) : ∀ {vs : List Value} {ns : List Int}, IntsAre vs ns → vs.filterMap f = ns.map fun n => n.toNat.toUInt8 := by
  intro vs ns hi
  induction hi with
  | nil => rfl
  | cons n t r ih => rw [List.filterMap_cons, hf, List.map_cons, ih]
theorem init_list {n l : Addr} {vs : List Value} {ns : List Int} {P : Shared → Prop} (hS : s.heap.get? n = some (baOf #[])) (hl : s.heap.IsList l vs.toArray) (hi : IntsAre vs ns) (hr : ∀ n ∈ ns, 0 ≤ n ∧ n < 256) (hg : A.guards = some []) (hz : ns.length ≤ sizeLine) (h : ∀ h₁, Turned n (byteArr ns) s.heap h₁ → P { s with heap := h₁ }) :
    wpC (model prog w) A (Builtin.«bytearray.__init__» ⟨[.ref n, .ref l], []⟩) (fun fin s' => fin = .done (.ret .none) ∧ P s') E s := by
  unfold Builtin.«bytearray.__init__»
  dsimp only
  refine wpC_then (ba_release hS ?_)
  simp only [Bool.false_eq_true, if_false]
  refine wpC_then (wpAny_of_eq (ba_bind _) ?_)
  dsimp only
  refine wpC_then (wpAny_of_eq (a := ()) rfl ?_)
  refine wpC_then (wpAny_of_eq (a := ()) rfl ?_)
  refine wpC_bind (wpC_bind (wpC_exported hg (wpC_any ?_)))
  show wpAny _ _ (Builtin.Bytes.exportsOf (.ref n) >>= fun x => pure (decide (x > 0))) _ _ _
  unfold Builtin.Bytes.exportsOf
  refine wpAny_bind (wpAny_bind (wpAny_load hS ?_))
  refine wpAny_pure (wpAny_pure ?_)
  rw [if_neg (by decide)]
  refine wpC_then (ba_write hS (by decide) fun h₁ X₁ => wpC_any ?_)
  obtain ⟨ol, hol, hoc, nl, hod⟩ := id hl
  have hln : l ≠ n := fun e => by
    rw [e, hS] at hol
    cases hol
    cases hod
  have hl₁ : h₁.IsList l vs.toArray := ⟨ol, X₁.2 l _ hln hol, hoc, nl, hod⟩
  have hol₁ := X₁.2 l _ hln hol
  have hT : ({ s with heap := h₁ } : Shared).TypeIs (.ref l) "list" := Heap.IsList.typeIs (s := { s with heap := h₁ }) hl₁
  refine wpAny_bind ?_
  show wpAny _ _ (load l >>= _) _ _ _
  refine wpAny_bind (wpAny_load hol₁ ?_)
  rw [hod]
  refine wpAny_pure ?_
  simp only [Option.isSome_none, Bool.false_eq_true, if_false]
  refine wpAny_bind (wpAny_pure ?_)
  refine wpAny_bind (wpAny_specialOf hT F.bm_no_index ?_)
  simp only [Option.isSome_none, Bool.false_eq_true, if_false]
  refine wpAny_bind ?_
  unfold Builtin.Bytes.buffer?
  refine wpAny_bind (wpAny_specialOf hT F.bm_no_buffer ?_)
  refine wpAny_bind (wpAny_specialOf hT F.bm_no_buffer ?_)
  refine wpAny_pure ?_
  dsimp only
  refine wpAny_bind (wpAny_typeOf hT ?_)
  rw [if_pos (by decide)]
  refine wpAny_bind (wpAny_seqItems hol₁ hod ?_)
  dsimp only
  rw [take_all (fun i t h0 h1 => by simp [h0, h1]) hi hr, map_all (fun i t => rfl) hi]
  rw [show vs.toArray[vs.length]? = none by simp]
  dsimp only
  refine wpAny_bind (wpAny_rule ?_)
  exact wpAny_bind (ba_write X₁.1 (by show (byteArr ns).size ≤ sizeLine; rw [byteArr_size]; exact hz) fun h₂ X₂ => wpAny_pure ⟨rfl, h _ (X₁.trans X₂)⟩)
theorem Turned.fresh {b : Array UInt8} {h h' : Heap} (x : Turned h.objs.size b (h.push (baOf #[])) h') : h'.get? h.objs.size = some (baOf b) ∧ ∀ a o, h.get? a = some o → h'.get? a = some o :=
  ⟨x.1, fun a o e => x.2 a o (Nat.ne_of_lt (Heap.lt_size e)) (Heap.get?_push_of_some _ e)⟩
section
variable {h₀ : Heap} {L l : Addr} {m : Str → Option Value} {news : List (Addr × Obj)} {Q : Value → Shared → Prop}
theorem ba_news {b : Array UInt8} {h' : Heap} (F : Fr h₀ L s.heap m) (N : News h₀ L s.heap news) (x : Turned s.heap.objs.size b (s.heap.push (baOf #[])) h') :
    Fr h₀ L h' m ∧ News h₀ L h' ((s.heap.objs.size, baOf b) :: news) ∧ ∀ p ∈ news, p.1 < s.heap.objs.size := by
  obtain ⟨x1, x2⟩ := x.fresh
  have F' : Fr h₀ L h' m := F.keeps x2
  have N₁ := N.push F (baOf b)
  refine ⟨F', fun p hp => ?_, fun p hp => Heap.lt_size (N p hp).1⟩
  rcases List.mem_cons.mp hp with rfl | hp
  · exact ⟨x1, (N₁ _ (List.mem_cons_self ..)).2⟩
  · exact ⟨x2 _ _ (N p hp).1, (N p hp).2⟩
/-- bytearray(bytes), on the ledger -/
theorem call_ba_bytes {b : Array UInt8} {t : Tok} (hg : A.guards = some []) (F : Fr h₀ L s.heap m) (N : News h₀ L s.heap news) (hz : b.size ≤ sizeLine)
    (h : ∀ n h', Fr h₀ L h' m → News h₀ L h' ((n, baOf b) :: news) → (∀ p ∈ news, p.1 < n) → Q (.ref n) { s with heap := h' }) : wpC (model prog w) A (call (.type "bytearray") [.bytes b t]) Q E s :=
  wpC_ba (init_bytes (Heap.get?_push_size _ rfl) hg hz fun h₁ x => let ⟨a, c, d⟩ := ba_news F N x; h _ _ a c d)
theorem call_ba_ba {b : Array UInt8} (hg : A.guards = some []) (F : Fr h₀ L s.heap m) (N : News h₀ L s.heap news) (hm : (l, baOf b) ∈ news) (hz : b.size ≤ sizeLine)
    (h : ∀ n h', Fr h₀ L h' m → News h₀ L h' ((n, baOf b) :: news) → (∀ p ∈ news, p.1 < n) → Q (.ref n) { s with heap := h' }) : wpC (model prog w) A (call (.type "bytearray") [.ref l]) Q E s :=
  wpC_ba (init_ba (Heap.get?_push_size _ rfl) (Heap.get?_push_of_some _ (N _ hm).1) (Nat.ne_of_lt (Heap.lt_size (N _ hm).1)) hg hz fun h₁ x => let ⟨a, c, d⟩ := ba_news F N x; h _ _ a c d)
theorem call_ba_list {vs : List Value} {ns : List Int} {c : Nat} (hg : A.guards = some []) (F : Fr h₀ L s.heap m) (N : News h₀ L s.heap news) (hm : (l, listOf vs.toArray c) ∈ news) (hi : IntsAre vs ns) (hr : ∀ n ∈ ns, 0 ≤ n ∧ n < 256) (hz : ns.length ≤ sizeLine)
    (h : ∀ n h', Fr h₀ L h' m → News h₀ L h' ((n, baOf (byteArr ns)) :: news) → (∀ p ∈ news, p.1 < n) → Q (.ref n) { s with heap := h' }) : wpC (model prog w) A (call (.type "bytearray") [.ref l]) Q E s :=
  wpC_ba (init_list (Heap.get?_push_size _ rfl) ((News.isList N hm).push _) hi hr hg hz fun h₁ x => let ⟨a, c, d⟩ := ba_news F N x; h _ _ a c d)
end
end
end
section
set_option linter.unusedVariables false
set_option maxRecDepth 100000
set_option maxHeartbeats 1000000
open Builtin
theorem picked_arr (ks : List Int) (lo hi : Option Int) : KBy.picked (byteArr ks) lo hi = byteArr ((ks.drop (lo.elim 0 (clipAt ks.length))).take (hi.elim ks.length (clipAt ks.length) - lo.elim 0 (clipAt ks.length))) := by
  rw [KBc.picked_eq, byteArr_size]
  simp [byteArr, List.map_drop, List.map_take]
theorem ba_new {prog : Program} {w : World} {A : Around} {E : Value → Shared → Prop} {s : Shared} {b : Array UInt8} {Q : Value → Shared → Prop} (hz : b.size ≤ sizeLine) (h : Q (.ref s.heap.objs.size) { s with heap := s.heap.push (baOf b) }) :
    wpAny (model prog w) A (Bytes.newBytearray b) Q E s := by
  show wpAny _ _ (if b.size > sizeLine then (unsupported "bytearray:memory" >>= fun _ => newObjAsIs (.type "bytearray") (.bytearray b)) else newObjAsIs (.type "bytearray") (.bytearray b)) _ _ _
  rw [if_neg (by omega)]
  exact wpAny_newObjAsIs_type h
theorem meets_ba_slice (b : Array UInt8) (n a : Addr) {l u : Value} {lo hi : Option Int} (hl : IsPart l lo) (hu : IsPart u hi) :
    Meets («bytearray.__getitem__» ⟨[.ref n, .ref a], []⟩) (fun _ R s => s.heap.get? n = some (baOf b) ∧ b.size ≤ sizeLine ∧ s.heap.IsSliceOf a l u .none ∧ R (.ok (.ret (.ref s.heap.objs.size))) { s with heap := s.heap.push (baOf (KBy.picked b lo hi)) }) := by
  refine .of_wp fun prog w A R s hS => ?_
  obtain ⟨hb, hz, ⟨o, ho, hc, hd⟩, h⟩ := hS
  have hT : s.TypeIs (.ref a) "slice" := ⟨o, ho, hc⟩
  show wpAny _ _ (Bytes.subscript? (.ref a) >>= fun r => _) _ _ s
  refine wpAny_bind ?_
  unfold Bytes.subscript?
  refine wpAny_bind (wpAny_specialOf hT slice_no_index (wpAny_pure ?_))
  refine wpAny_bind (wpAny_typeOf hT ?_)
  show wpAny _ _ (Bytes.sliceParts (.ref a) >>= fun r => _) _ _ s
  refine wpAny_bind ?_
  unfold Bytes.sliceParts
  refine wpAny_bind (wpAny_field (x := .none) ho hd rfl ?_)
  kby_none
  refine wpAny_ite (KBy.ite_no (show ¬ ((Value.none == rawInt 0) = true) from Bool.false_ne_true) ?_)
  refine wpAny_bind (wpAny_field (x := l) ho hd rfl ?_)
  have go : wpAny (model prog w) A.in1 (sliceIndices (rawPart lo) (rawPart hi) (rawPart none) b.size) (fun r s' => r = sliceBounds lo hi none b.size ∧ s' = s) (fun _ _ => False) s :=
    wpAny_of_eq (sliceIndices_raw lo hi none b.size (fun e => nomatch e)) ⟨rfl, rfl⟩
  have hz' : (KBy.picked b lo hi).size ≤ sizeLine := Nat.le_trans (KBc.size_picked_le b _ _) hz
  have fin : wpAny (model prog w) A.in1 (Bytes.newBytearray (KBy.picked b lo hi) >>= fun v => ret v) (fun fin s' => ∃ v, fin = Fin.done (Flow.ret v) ∧ R (Except.ok (Flow.ret v)) s') (fun e s' => R (Except.error e) s') s := wpAny_bind (ba_new hz' (wpAny_pure ⟨_, rfl, h⟩))
  cases hl <;> cases hu <;> (first
    | (kby_none; (refine wpAny_bind (wpAny_field (x := .none) ho hd rfl ?_)); kby_none)
    | (kby_none; (refine wpAny_bind (wpAny_field (x := .int _ _) ho hd rfl ?_)); kby_int)
    | (kby_int; (refine wpAny_bind (wpAny_field (x := .none) ho hd rfl ?_)); kby_none)
    | (kby_int; (refine wpAny_bind (wpAny_field (x := .int _ _) ho hd rfl ?_)); kby_int)) <;> refine wpAny_pure ?_
  all_goals
    refine wpAny_bind (ba_payload hb ?_)
    refine wpAny_bind (wpAny_mono go (fun r s' hr => ?_) fun _ _ e => e.elim)
    obtain ⟨hr1, hr2⟩ := hr
    rw [hr1, hr2]
    exact fin
section
variable {prog : Program} {w : World} {A : Around} {E : Value → Shared → Prop} {s : Shared} {value slice : PySem.Expr} {ks : List Int} {n : Addr} {h₀ : Heap} {L : Addr} {m : PySem.Str → Option Value} {news : List (Addr × Obj)} {l u : Value} {lo hi : Option Int} {Q : Value → Shared → Prop}
theorem ba_slice_K (hF : Fr h₀ L s.heap m) (hN : News h₀ L s.heap news) (hm : (n, baOf (byteArr ks)) ∈ news) (hl : IsPart l lo) (hu : IsPart u hi) (hz : ks.length ≤ sizeLine)
    (h : ∀ n' h', Fr h₀ L h' m → News h₀ L h' ((n', baOf (byteArr ((ks.drop (lo.elim 0 (clipAt ks.length))).take (hi.elim ks.length (clipAt ks.length) - lo.elim 0 (clipAt ks.length))))) :: news) → (∀ p ∈ news, p.1 < n') → Q (.ref n') { s with heap := h' })
    (hs : subscripted slice false (.ref n) (.ref s.heap.objs.size) = operate [.ref s.heap.objs.size, .ref n] (getItem (.ref n) (.ref s.heap.objs.size)) := by with_unfolding_all rfl)
    (ht : ∀ r, letTemporaryGo value (.ref n) r = pure () := by intro _; with_unfolding_all rfl) :
    wpAny (model prog w) A (subscriptTail value slice (.ref n) (.ref s.heap.objs.size)) Q E { s with heap := s.heap.push { cls := .type "slice", data := .fields #[l, u, .none] } } := by
  have hb := Heap.get?_push_of_some { cls := .type "slice", data := .fields #[l, u, .none] } (hN _ hm).1
  have hT := ba_type { s with heap := s.heap.push { cls := .type "slice", data := .fields #[l, u, .none] } } hb
  have F1 := hF.push (o := { cls := .type "slice", data := .fields #[l, u, .none] })
  have N1 := News.pushKeep hN (o := { cls := .type "slice", data := .fields #[l, u, .none] })
  refine tail_of_ItemOn ⟨"bytearray", _, BF.slot_getitem.lookup, hT, getItem_meets hT (by decide) BF.slot_getitem BF.entry_getitem (BF.args_getitem _ _) (meets_ba_slice _ _ _ hl hu)
    ⟨hb, by rw [byteArr_size]; exact hz, Heap.IsSliceOf.new _ _ _ _, ?_⟩⟩ hs ht
  rw [picked_arr]
  exact h _ _ (F1.push _) (N1.push F1 _) fun p hp => Heap.lt_size (N1 p hp).1
theorem ba_truthy {Q : Bool → Shared → Prop} {b : Array UInt8} (hb : s.heap.get? n = some (baOf b)) (hfit : (b.size : Int) < 2 ^ 63) (h : Q (!b.isEmpty) { s with toks := s.toks + 1 + 1 }) : wpAny (model prog w) A (truthy (.ref n)) Q E s := by
  have hT := ba_type s hb
  have hne : ((b.size : Int) != 0) = !b.isEmpty := by
    rcases Nat.eq_zero_or_pos b.size with e | e
    · rw [Array.isEmpty, e]; rfl
    · have h1 : ((b.size : Int) != 0) = true := bne_iff_ne.mpr (by omega)
      rw [h1, Array.isEmpty, decide_eq_false (by omega)]; rfl
  have key : wpAny (model prog w) A (runValue (.builtin "len" ⟨[.ref n], []⟩)) (fun r s' => r = .int b.size (s.toks + 1) ∧ Q (!b.isEmpty) s') E s := by
    refine wpAny_runValue (codeAny_builtin entry_len ?_)
    rw [Around.under_plainId plain_len _]
    unfold Builtin.«len»
    refine wpAny_bind (m := oneArg "len" _) (wpAny_pure ?_)
    refine wpAny_bind (m := callSpecial? (.ref n) (Str.ofString "__len__")) (wpAny_callSpecial?_slot (name := Str.ofString "__len__") hT BF.slot_len
      (wpAny_call_entry BF.slot_len hT BF.entry_len ?_ (BF.args_len _)))
    show wpAny _ _ (Bytes.payload (.ref n) >>= fun x => retInt x.size) _ _ s
    refine wpAny_bind (ba_payload hb ?_)
    refine wpAny_bind (wpAny_mkInt (wpAny_pure ⟨_, rfl, ?_⟩))
    refine wpAny_bind (wpAny_holding (wpAny_pure ?_))
    refine wpAny_bind (wpAny_letGo ?_)
    show wpAny _ _ (if ((b.size : Nat) : Int) < 0 then _ else _) _ _ _
    rw [if_neg (by omega)]
    show wpAny _ _ (if ((b.size : Nat) : Int) ≥ 2 ^ 63 then _ else _) _ _ _
    rw [if_neg (by omega)]
    exact wpAny_bind (wpAny_mkInt (wpAny_pure ⟨rfl, h⟩))
  unfold truthy
  refine wpAny_bind (wpAny_callSpecial?_none (name := Str.ofString "__bool__") hT BF.noBool ?_)
  refine wpAny_bind (wpAny_specialOf (name := Str.ofString "__len__") hT BF.slot_len.lookup ?_)
  exact wpAny_bind (wpAny_mono key (fun r s' h' => by obtain ⟨rfl, hq⟩ := h'; exact wpAny_pure (hne ▸ hq)) fun _ _ e => e)
end
end
section
set_option linter.unusedVariables false
set_option maxRecDepth 100000
set_option maxHeartbeats 1000000
open Builtin
theorem it_next : Slot "bytearray_iterator" "__next__" "bytearray_iterator.__next__" :=
  .of (owner := "bytearray_iterator") (n := "__next__") (by rw [typeLookup_type, builtinLookup_eq_fast]; kernel_rfl) (by decide +kernel) (by decide +kernel) (by decide +kernel)
    (by first | exact .inl (by decide +kernel) | exact .inr (by decide +kernel)) (by rw [isSubtype_type]; kernel_rfl)
theorem it_self : Slot "bytearray_iterator" "__iter__" "bytearray_iterator.__iter__" :=
  .of (owner := "bytearray_iterator") (n := "__iter__") (by rw [typeLookup_type, builtinLookup_eq_fast]; kernel_rfl) (by decide +kernel) (by decide +kernel) (by decide +kernel)
    (by first | exact .inl (by decide +kernel) | exact .inr (by decide +kernel)) (by rw [isSubtype_type]; kernel_rfl)
theorem it_entry_self : entryFor table "bytearray_iterator.__iter__" = some Builtin.«dict_keyiterator.__iter__» := entryFor_alias (id' := "dict_keyiterator.__iter__") (by kernel_rfl) rfl (by decide +kernel) (by kernel_rfl)
theorem it_args_next (a : Value) : argsOk "bytearray_iterator.__next__" ⟨[a], []⟩ := by unfold argsOk; kernel_rfl
theorem it_args_self (a : Value) : argsOk "bytearray_iterator.__iter__" ⟨[a], []⟩ := by unfold argsOk; kernel_rfl
def BaIter (h : Heap) (a l : Addr) (i : Nat) : Prop := ∃ o, h.get? a = some o ∧ o.cls = .type "bytearray_iterator" ∧ o.data = .fields #[.ref l, .int i 0]
theorem BaIter.typeIs {s : Shared} {a l : Addr} {i : Nat} (y : BaIter s.heap a l i) : s.TypeIs (.ref a) "bytearray_iterator" := let ⟨o, ho, hc, _⟩ := y; ⟨o, ho, hc⟩
section
variable {prog : Program} {w : World} {A : Around} {E : Value → Shared → Prop} {s : Shared} {b : Array UInt8} {l : Addr}
theorem iter_ba {Q : Value → Shared → Prop} (hb : s.heap.get? l = some (baOf b)) (hQ : Q (.ref s.heap.objs.size) { s with heap := s.heap.push { cls := .type "bytearray_iterator", data := .fields #[.ref l, .int 0 0] } }) : wpAny (model prog w) A (pyIter (.ref l)) Q E s := by
  refine wpAny_pyIter_slot (ba_type s hb) BF.slot_iter (wpAny_call_entry BF.slot_iter (ba_type s hb) BF.entry_iter ?_ (BF.args_iter _))
  show wpAny _ _ (do ret (← newFields "bytearray_iterator" [.ref l, rawInt 0])) _ _ s
  exact wpAny_bind (wpAny_newObj_type (wpAny_pure ⟨_, rfl, "bytearray_iterator", _, ⟨_, Heap.get?_push_size _ rfl, rfl⟩, it_next.lookup, hQ⟩))
theorem iter_self {it : Addr} {i : Nat} {Q : Value → Shared → Prop} (hit : BaIter s.heap it l i) (h : Q (.ref it) s) : wpAny (model prog w) A (pyIter (.ref it)) Q E s := by
  refine wpAny_pyIter_slot hit.typeIs it_self (wpAny_call_entry it_self hit.typeIs it_entry_self ?_ (it_args_self _))
  show wpAny _ _ (ret (.ref it)) _ _ s
  exact wpAny_pure ⟨_, rfl, "bytearray_iterator", _, hit.typeIs, it_next.lookup, h⟩
theorem ba_item {it : Addr} {i : Nat} {c : UInt8} {Q : Option Value → Shared → Prop} (hit : BaIter s.heap it l i) (hb : s.heap.get? l = some (baOf b)) (hx : b[i]? = some c)
    (hQ : ∀ h', BaIter h' it l (i + 1) → Heap.SameBut it s.heap h' → Q (some (.int (c.toNat : Int) s.toks)) { s with heap := h', toks := s.toks + 1 }) : wpAny (model prog w) A (pyNext (.ref it)) Q E s := by
  obtain ⟨o, ho, hc, hd⟩ := id hit
  unfold pyNext
  refine wpAny_bind (wpAny_attempt (wpAny_callSpecial?_slot (name := PySem.Str.ofString "__next__") hit.typeIs it_next
    (wpAny_call_entry it_next hit.typeIs BF.entry_next ?_ (it_args_next _))))
  show wpAny _ _ (field (.ref it) 0 >>= _) _ _ s
  refine wpAny_bind (wpAny_field ho hd (x := .ref l) rfl ?_)
  show wpAny _ _ (load l >>= _) _ _ s
  refine wpAny_bind (wpAny_load hb ?_)
  show wpAny _ _ (field (.ref it) 1 >>= _) _ _ s
  refine wpAny_bind (wpAny_field ho hd (x := .int i 0) rfl ?_)
  simp only [Int.toNat_natCast, hx]
  refine wpAny_bind (wpAny_setField ho hd (by simp) (wpAny_bind (wpAny_mkInt (wpAny_pure ⟨_, rfl, wpAny_pure (hQ _ ?_ (Heap.SameBut.update ..))⟩))))
  exact ⟨_, Heap.get?_update_self _ ho (Obj.isFreed_of_fields (Obj.data_mapFields hd _)), (Obj.cls_mapFields ..).trans hc, by
    rw [Obj.data_mapFields hd]; simp [rawInt]⟩
theorem ba_end {it : Addr} {i : Nat} {Q : Option Value → Shared → Prop} (hh : A.handled = none) (hit : BaIter s.heap it l i) (hb : s.heap.get? l = some (baOf b)) (hx : b[i]? = none)
    (hQ : ∀ h', Heap.ExtBut it s.heap h' → Q none { s with heap := h' }) : wpAny (model prog w) A (pyNext (.ref it)) Q E s := by
  obtain ⟨o, ho, hc, hd⟩ := id hit
  unfold pyNext
  refine wpAny_bind (wpAny_attempt (wpAny_callSpecial?_slot (name := PySem.Str.ofString "__next__") hit.typeIs it_next
    (wpAny_call_entry it_next hit.typeIs BF.entry_next ?_ (it_args_next _))))
  show wpAny _ _ (field (.ref it) 0 >>= _) _ _ s
  refine wpAny_bind (wpAny_field ho hd (x := .ref l) rfl ?_)
  show wpAny _ _ (load l >>= _) _ _ s
  refine wpAny_bind (wpAny_load hb ?_)
  show wpAny _ _ (field (.ref it) 1 >>= _) _ _ s
  refine wpAny_bind (wpAny_field ho hd (x := .int i 0) rfl ?_)
  simp only [Int.toNat_natCast, hx]
  refine wpAny_bind (wpAny_rule (wpAny_bind (wpAny_setField ho hd (by simp) (wpAny_bind (wpAny_letGo ?_)))))
  show wpAny _ _ (newExc (.type "StopIteration") [] >>= _) _ _ _
  refine wpAny_bind ?_
  simp only [newExc, newTuple]
  refine wpAny_bind (wpAny_newObj_type ?_ (by size_fits))
  refine wpAny_bind (m := firstArgMember _ _) (wpAny_of_eq (a := Value.none) (by first | rfl | (simp only [firstArgMember]; rfl)) ?_)
  refine wpAny_newObj_type ?_ (by size_fits)
  simp only [raiseNew]
  refine wpAny_bind (wpAny_handled ?_)
  rw [show A.in1.handled = none from hh]
  refine wpAny_bind (wpAny_pure (wpAny_throw ?_))
  refine wpAny_bind (wpAny_isInstance (T := "StopIteration") (b := true) ⟨_, Heap.get?_push_size _ rfl, rfl⟩ isSubtype_stop ?_)
  exact wpAny_pure (hQ _ (((Heap.SameBut.update ..).extBut.push _).push _))
end
theorem ba_walks {prog : Program} {w : World} {A : Around} (hh : A.handled = none) (I l : Addr) (hne : l ≠ I) (ks : List Int) (hr : ∀ k ∈ ks, 0 ≤ k ∧ k < 256) :
    Walks prog w A I [I, l] [I] ks.length (fun i v => ∃ k u, ks[i]? = some k ∧ v = .int k u) (fun i h => BaIter h I l i ∧ h.get? l = some (baOf (byteArr ks))) where
  sub := fun b hb => by simp at hb; simp [hb]
  frame := fun _ _ _ st hk => ⟨let ⟨o, ho, r⟩ := st.1; ⟨o, hk I (by simp) o ho, r⟩, hk l (by simp) _ st.2⟩
  item := fun i s Q E hi st hQ => by
    have hk := hr ks[i] (List.getElem_mem hi)
    have e : (byteArr ks)[i]? = some ks[i].toNat.toUInt8 := by simp [byteArr, hi]
    refine ba_item st.1 st.2 e fun h' hit' hs' => ?_
    have ek : (((ks[i].toNat.toUInt8).toNat : Nat) : Int) = ks[i] := by rw [Nat.toUInt8_eq, UInt8.toNat_ofNat']; omega
    rw [ek]
    exact hQ _ h' (s.toks + 1) ⟨ks[i], s.toks, by simp [hi], rfl⟩ ⟨hit', hs'.extBut l _ hne st.2⟩ fun b o hb e => hs'.extBut b o (fun h => hb (by simp [h])) e
  done := fun s Q E st hQ => ba_end hh st.1 st.2 (by simp [byteArr]) fun h' he' => hQ h' s.toks fun b o hb e => he' b o (fun h => hb (by simp [h])) e
  self := fun _ _ _ _ st hQ => iter_self st.1 hQ
end
section
set_option linter.unusedVariables false
set_option maxRecDepth 100000
set_option maxHeartbeats 1000000
/-- an iterable of `n` items by `P`, made at `s₁`: what a list comprehension needs of it -/
def Iters (prog : Program) (w : World) (A : Around) (h₀ : Heap) (L : Addr) (m : Str → Option Value) (xv : Value) (s₁ : Shared) (n : Nat) (P : Nat → Value → Prop) (S : List (Addr × Obj) → Prop) (news : List (Addr × Obj)) : Prop :=
  ∀ (Q E : Value → Shared → Prop), (∀ (I : Addr) (fp : List Addr) (St : Nat → Heap → Prop) (g : Heap), Walks prog w A I fp [I] n P St → (∀ i h, St i h → ∃ o, h.get? I = some o) →
      (∀ i h h' o nw, St i h → h.get? I = some o → h'.get? I = some o → (∀ b o, h₀.get? b = some o → h'.get? b = some o) → News h₀ L h' nw → S nw → St i h') → St 0 g → (∀ b ∈ fp, b < g.objs.size) →
      Fr h₀ L g m → News h₀ L g news → L ≠ I → h₀.get? I = none → (∀ p ∈ news, p.1 ≠ I) → Q (.ref I) { s₁ with heap := g }) → wpAny (model prog w) A (pyIter xv) Q E s₁
/-- the source of a comprehension, of any such iterable -/
def SrcG (prog : Program) (w : World) (A : Around) (h₀ : Heap) (L : Addr) (m : Str → Option Value) (env : Env) (elt : Expr) (x : Str) (scope : Scope) (cl : List (Str × Addr)) (Fin : Shared → List Value → List (Addr × Obj) → Prop) (xv : Value) (s₁ : Shared) : Prop :=
  ∃ n P S news, Iters prog w A h₀ L m xv s₁ n P S news ∧ n ≤ sizeLine ∧ S news ∧ ∀ g, LCg.CompRest prog w A h₀ L m env elt x scope cl { s₁ with heap := g } S P (Fin { s₁ with heap := g }) n 0 [] news
section
variable {prog : Program} {w : World} {A : Around} {E : Value → Shared → Prop} {s : Shared} {h₀ : Heap} {L : Addr} {m : Str → Option Value} {env : Env}
theorem ListComp_G {elt iter : Expr} {x : Str} {px : Pos} {scope : Scope} {cl : List (Str × Addr)} {pos : Pos} {Q : Value → Shared → Prop} (F₀ : Fr h₀ L s.heap m)
    (hclos : closureFor scope env = pure cl) (hcell : ∀ y ∈ scope.names, y.2 ≠ .cell) (hkind : scope.kind = .function)
    (hnames : ∀ y ∈ scope.names, y.2 = .local → scope.names.lookup y.1 = some .local) (hx : scope.names.lookup x = some .local)
    (h : wpAny (model prog w) A (eval iter env) (SrcG prog w A h₀ L m env elt x scope cl (fun s₂ => LCg.FinE h₀ L m s₂ Q)) E s)
    (hs : ∀ x, foldedSetIterable iter env x = pure x := by intro _; rfl) :
    wpAny (model prog w) A (eval (.ListComp elt [⟨.Name x px, iter, [], 0⟩] scope pos) env) Q E s := by
  rw [eval_ListComp]
  refine wpAny_comprehension_free (use := none) rfl hs hclos hkind hnames (wpAny_mono h (fun xv s₁ h₁ => ?_) fun _ _ e => e)
  obtain ⟨n, P, S, news, it, hsz, hS, R⟩ := h₁
  refine it _ _ fun I fp St g W hIo hSt st hfp F N hLI hI off => ?_
  refine LCg.block_U W hsz hIo hSt hcell hkind hx st hfp F N hLI hI off hS (R g) ?_
  intro D C h tk m' ys news' F' N' o1 hn hC₀ hD₀ hCL hDL hCD offC fin
  refine ⟨m', hn, fun h'' hs'' => fin D h'' tk (F'.change hs'' hCL hC₀) (fun p hp => ?_) o1⟩
  refine ⟨hs''.extBut _ _ ?_ (N' p hp).1, (N' p hp).2⟩
  rcases List.mem_cons.mp hp with rfl | hp
  · exact Ne.symm hCD
  · exact offC p hp
theorem Assign_ListComp_G {elt iter : Expr} {x y : Str} {px py : Pos} {scope : Scope} {cl : List (Str × Addr)} {pos spos : Pos} {Q : Flow → Shared → Prop} (F₀ : Fr h₀ L s.heap m) (hLe : env.locals = L)
    (hsw : swapsWith (.ListComp elt [⟨.Name x px, iter, [], 0⟩] scope pos) (some (.Name y py)) spos.line env = pure true)
    (hclos : closureFor scope env = pure cl) (hcell : ∀ z ∈ scope.names, z.2 ≠ .cell) (hkind : scope.kind = .function)
    (hnames : ∀ z ∈ scope.names, z.2 = .local → scope.names.lookup z.1 = some .local) (hx : scope.names.lookup x = some .local)
    (hy : env.kindOf y = some .local) (hp : (env.scope.kind == .class || (env.scope.kind == .module && env.locals != env.globals)) = false)
    (h : wpAny (model prog w) A (eval iter env) (SrcG prog w A h₀ L m env elt x scope cl (fun s₂ => LCg.FinA h₀ L m s₂ y Q)) E s)
    (hs : ∀ x, foldedSetIterable iter env x = pure x := by intro _; rfl) :
    wpAny (model prog w) A (exec (.Assign [.Name y py] (.ListComp elt [⟨.Name x px, iter, [], 0⟩] scope pos) spos) env) Q E s := by
  subst hLe
  rw [exec_Assign_Name_used _ _ _ _ hsw]
  refine wpAny_bind (wpAny_standAt (wpAny_bind ?_))
  show wpAny _ A (do let _ ← comprehension (.ListComp elt [⟨.Name x px, iter, [], 0⟩] scope pos) scope env _ (newList []) false (eval iter env) (some (assign (.Name y py) env))) _ _ s
  refine wpAny_bind (wpAny_mono (wpAny_comprehension_free (use := some (assign (.Name y py) env)) (Q := fun _ s' => Q .next s') rfl hs hclos hkind hnames
    (wpAny_mono h (fun xv s₁ h₁ => ?_) fun _ _ e => e)) (fun _ s' hq => wpAny_pure (wpAny_pure hq)) fun _ _ e => e)
  obtain ⟨n, P, S, news, it, hsz, hS, R⟩ := h₁
  refine it _ _ fun I fp St g W hIo hSt st hfp F N hLI hI off => ?_
  refine LCg.block_U W hsz hIo hSt hcell hkind hx st hfp F N hLI hI off hS (R g) ?_
  intro D C h' tk m' ys news' F' N' o1 hn hC₀ hD₀ hCL hDL hCD offC fin
  show wpAny _ A (assign (.Name y py) env (.ref D)) _ _ _
  refine wpAny_assign_Name (wpAny_storeName_local hy F'.ns (fun h₂ hn₂ hs₂ => ?_) hp)
  have hL₀ : h₀.get? env.locals = none := Heap.get?_none_of_le F'.above
  have F₂ : Fr h₀ env.locals h₂ (fun z => if z = y then some (.ref D) else m z) := ⟨hn₂, fun b o e => hs₂.extBut b o (fun q => by rw [q, hL₀] at e; cases e) (F'.keep b o e), F'.above⟩
  refine ⟨m', hn.sameBut hs₂ hCL, fun h'' hs'' => fin D h'' _ (F₂.change hs'' hCL hC₀) (fun p hp => ?_) o1⟩
  have z : h₂.get? p.1 = some p.2 := hs₂.extBut _ _ (N' p hp).2.1 (N' p hp).1
  refine ⟨hs''.extBut _ _ ?_ z, (N' p hp).2⟩
  rcases List.mem_cons.mp hp with rfl | hp
  · exact Ne.symm hCD
  · exact offC p hp
theorem iters_ba {l : Addr} {ks : List Int} {s₁ : Shared} {news : List (Addr × Obj)} (hh : A.handled = none) (F : Fr h₀ L s₁.heap m) (N : News h₀ L s₁.heap news) (hm : (l, baOf (byteArr ks)) ∈ news) (hr : ∀ k ∈ ks, 0 ≤ k ∧ k < 256) :
    Iters prog w A h₀ L m (.ref l) s₁ ks.length (fun i v => ∃ k u, ks[i]? = some k ∧ v = .int k u) (fun nw => (l, baOf (byteArr ks)) ∈ nw) news := by
  intro Q E k
  have hb := (N _ hm).1
  have hlt : l < s₁.heap.objs.size := Heap.lt_size hb
  refine iter_ba hb (k _ [s₁.heap.objs.size, l] _ _ (ba_walks hh s₁.heap.objs.size l (Nat.ne_of_lt hlt) ks hr) (fun i h st => by obtain ⟨o, e, _⟩ := st.1; exact ⟨o, e⟩) ?_ ⟨⟨_, Heap.get?_push_size _ rfl, rfl, rfl⟩, Heap.get?_push_of_some _ hb⟩ (fun b hb => ?_)
    (F.push _) (News.pushKeep N _) (Nat.ne_of_lt F.ns.lt) (next_is_new F) fun p hp => Nat.ne_of_lt (Heap.lt_size (N p hp).1))
  · intro i h h' o nw st e e' _ N' hS
    obtain ⟨o', q, r⟩ := st.1
    rw [e] at q
    cases q
    exact ⟨⟨o, e', r⟩, (N' _ hS).1⟩
  · show b < (s₁.heap.push _).objs.size
    rw [Heap.size_push]
    rcases List.mem_cons.mp hb with rfl | hb
    · exact Nat.lt_succ_self _
    · rw [List.mem_singleton.mp hb]; exact Nat.lt_succ_of_lt hlt
theorem iters_down {r : Addr} {a b c : Int} {t u v : Tok} {n : Nat} {s₁ : Shared} {news : List (Addr × Obj)} (hh : A.handled = none) (F : Fr h₀ L s₁.heap m) (N : News h₀ L s₁.heap news) (hr : IsRange s₁.heap r a b c t u v) (hsm : Builtin.Range.small a b c = true) (hn : Builtin.Range.rangeSize a b c = ((n : Nat) : Int)) :
    Iters prog w A h₀ L m (.ref r) s₁ n (fun i v => ∃ t, v = .int (a + i * c) t) (fun _ => True) news := by
  intro Q E k
  refine wpAny_pyIter_range hr hsm (k _ [s₁.heap.objs.size] _ _ (Walks.range hh s₁.heap.objs.size a c n) (fun i h st => ⟨_, st⟩) (fun i h h' o nw st e e' _ _ _ => ?_) (by show IsRangeIter _ _ _ _ _; rw [hn]; simpa using Heap.get?_push_size _ rfl) (fun b hb => ?_)
    (F.push _) (News.pushKeep N _) (Nat.ne_of_lt F.ns.lt) (next_is_new F) fun p hp => Nat.ne_of_lt (Heap.lt_size (N p hp).1))
  · have st' : h.get? s₁.heap.objs.size = some _ := st
    show h'.get? s₁.heap.objs.size = some _
    rw [e', ← e]; exact st'
  · rw [List.mem_singleton.mp hb]
    show s₁.heap.objs.size < (s₁.heap.push _).objs.size
    rw [Heap.size_push]; exact Nat.lt_succ_self _
end
/-- a comprehension of texts over such an iterable of ints -/
theorem src_texts {prog : Program} {w : World} {A : Around} {h₀ : Heap} {L : Addr} {m : Str → Option Value} {env : Env} {elt : Expr} {x : Str} {scope : Scope} {cl : List (Str × Addr)} {Fin : Shared → List Value → List (Addr × Obj) → Prop} {xv : Value} {s₁ : Shared}
    {P : Nat → Value → Prop} {S : List (Addr × Obj) → Prop} {news : List (Addr × Obj)} {ks : List Int} (g : Int → Str) (it : Iters prog w A h₀ L m xv s₁ ks.length P S news) (hsz : ks.length ≤ sizeLine) (hS : S news)
    (hP : ∀ i v, i < ks.length → P i v → ∃ k t, ks[i]? = some k ∧ v = .int k t)
    (turn : ∀ s' k t I oI C oC D m₂ ys h tk (E' : Value → Shared → Prop), k ∈ ks → LCg.NsObj oC m₂ → m₂ x = some (.int k t) → Fr h₀ L h m → News h₀ L h ((I, oI) :: (C, oC) :: (D, LCg.lst ys) :: news) → LCg.Off3 I C D news → ((@Ne Nat I C) ∧ (@Ne Nat I D) ∧ (@Ne Nat C D)) → KPfMark →
      wpAny (model prog w) A (eval elt (compEnvC scope cl C env)) (LCg.CompEnd h₀ L m { { s₁ with heap := s' } with heap := h, toks := tk } I oI C oC D (LCg.lst ys) S (fun y news' => KCtEl news (g k) y news')) E' { { s₁ with heap := s' } with heap := h, toks := tk })
    (fin : ∀ s' ys, CarriedAll ys (ks.map fun k => PyData.str (g k)) → Fin { s₁ with heap := s' } ys news) : SrcG prog w A h₀ L m env elt x scope cl Fin xv s₁ :=
  ⟨_, P, S, news, it, hsz, hS, fun s' => kct_rest (s := { s₁ with heap := s' }) g rfl hP (fun k t I oI C oC D m₂ ys h tk E' hk => turn s' k t I oI C oC D m₂ ys h tk E' hk) fun ys hc _ => fin s' ys hc⟩
end
section
set_option linter.unusedVariables false
set_option maxRecDepth 100000
set_option maxHeartbeats 1000000
open Builtin Builtin.Str
section
variable {M : Model} {A : Around} {E : Value → Shared → Prop} {s : Shared} {l : List Nat} {p : List Value} {r : List Nat}
  {f : Nat → List Value × Writer × List Nat → Sem (ForInStep (List Value × Writer × List Nat))} {Q : List Value × Writer × List Nat → Shared → Prop}
  {w : Writer} {T x y : Str} {N K : Nat} {o : Option Value}
theorem after_t (g : KPc.Good w T N) (hx : x = y) (hy : y.length ≤ K) (ho : KPc.Obj o x) (h : ∀ w', KPc.Good w' (T ++ y) (N + K) → wpAny M A (forIn l (p, w', r) f) Q E s) : wpAny M A (forIn l (p, w.add x o, r) f) Q E s := by
  subst hx
  exact h _ (KPc.good_mono (KPc.good_add g ho) (Nat.add_le_add_left hy _))
theorem after_t0 (g : KPc.Good w PySem.Str.empty N) (hx : x = y) (hy : y.length ≤ K) (ho : KPc.Obj o x) (h : ∀ w', KPc.Good w' y (N + K) → wpAny M A (forIn l (p, w', r) f) Q E s) : wpAny M A (forIn l (p, w.add x o, r) f) Q E s :=
  after_t g hx hy ho fun w' g' => h w' (by rw [KPc.empty_app] at g'; exact g')
end
theorem on_field {β : Type} {M : Model} {A : Around} {E : Value → Shared → Prop} {s : Shared} {Q : β → Shared → Prop} {o : Option (List Nat)} {a : Sem β} {b : List Nat → Sem β} (h1 : o = none → wpAny M A a Q E s) (h2 : ∀ l, o = some l → wpAny M A (b l) Q E s) : wpAny M A (match o with | none => a | some l => b l) Q E s := by
  cases o with
  | none => exact h1 rfl
  | some l => exact h2 l rfl
def laidOf (o : Option (List Nat)) (text : List Nat) : List Nat := match o with | none => text | some l => l
theorem str_of_list {l : List Nat} {x : Str} (h : l = x.cps.toList) : (⟨l.toArray⟩ : Str) = x := by rw [h]
abbrev P02 : Percent := { zero := true, width := some 2, type := 120 }
theorem field02_nat : ∀ i : Fin 256, laidOf (percentField P02 true (percentInt P02 false ((Nat.toDigits 16 i.1).map Char.toNat))) (percentInt P02 false ((Nat.toDigits 16 i.1).map Char.toNat)) = (pairS (i.1 : Int)).cps.toList := by decide +kernel
theorem field02 (i : Int) (h0 : 0 ≤ i) (h1 : i < 256) : laidOf (percentField P02 true (percentInt P02 (decide (i < 0)) ((Nat.toDigits 16 i.natAbs).map Char.toNat))) (percentInt P02 (decide (i < 0)) ((Nat.toDigits 16 i.natAbs).map Char.toNat)) = (pairS i).cps.toList := by
  have h := field02_nat ⟨i.natAbs, by omega⟩
  have e : ((i.natAbs : Nat) : Int) = i := by omega
  rw [decide_eq_false (by omega)]
  dsimp only at h
  rw [e] at h
  exact h
theorem meets02x (i : Int) (t u : Tok) (h0 : 0 ≤ i) (h1 : i < 256) : Meets («str.__mod__» ⟨[.str ⟨#[37, 48, 50, 120]⟩ t, .int i u], []⟩) (fun _ R s => ∀ t' k, R (.ok (.ret (.str (pairS i) t'))) { s with toks := k }) := by
  apply KPc.meets_of
  intro prog w A s Q E h
  rw [KPc.entry_is]
  unfold Builtin.Str.percentFormat
  refine wpAny_bind (wpAny_isInstance (typeIs_int _ _ _) F.sub_int_tuple ?_)
  refine wpAny_bind (wpAny_of_eq (a := none) rfl ?_)
  refine wpAny_bind (wpAny_of_eq (KPc.fills _ _) ?_)
  kpc_if
  refine wpAny_bind (wpAny_pure ?_)
  refine wpAny_bind ?_
  rw [KPc.range_list]
  refine KPc.start ?_
  intro w' g
  refine KPc.turn ?_
  kpc_check
  (repeat kpc_if)
  refine wpAny_bind ?_
  refine wpAny_holding ?_
  (repeat kpc_if)
  refine wpAny_bind (wpAny_of_eq (a := i) rfl ?_)
  (repeat kpc_if)
  refine wpAny_bind (wpAny_pure ?_)
  refine wpAny_pure ?_
  have hf := field02 i h0 h1
  have hl : (pairS i).length ≤ 2 := Nat.le_of_eq (pairS_len h0 h1)
  dsimp only
  refine on_field (o := percentField P02 true (percentInt P02 (decide (i < 0)) ((Nat.toDigits 16 i.natAbs).map Char.toNat))) (fun hpf => ?_) (fun laid hpf => ?_)
  · rw [hpf] at hf
    refine wpAny_pure ?_
    refine after_t0 g (str_of_list hf) hl (by kpc_obj) ?_
    intro w9 g9
    kpc_turns
  · rw [hpf] at hf
    refine wpAny_pure ?_
    refine after_t0 g (str_of_list hf) hl (by kpc_obj) ?_
    intro w9 g9
    kpc_turns
end
section
set_option linter.unusedVariables false
set_option maxRecDepth 100000
set_option maxHeartbeats 1000000
open Builtin Builtin.Str
/-- a text with blanks behind it, up to a width -/
def padR (x : Str) (n : Nat) : Str := ⟨(x.cps.toList ++ List.replicate (n - x.length) 32).toArray⟩
abbrev Ppad (n : Nat) : Percent := { ljust := true, width := some n, type := 115 }
theorem fieldPad (x : Str) (n : Nat) : laidOf (percentField (Ppad n) false x.cps.toList) x.cps.toList = (padR x n).cps.toList := by
  have hs : x.length = x.cps.size := rfl
  by_cases h : n ≤ x.cps.size
  · have e : n - x.cps.size = 0 := by omega
    simp [laidOf, percentField, padR, h, hs, e]
  · have ht : x.cps.toList.take x.cps.size = x.cps.toList := List.take_of_length_le (by simp)
    simp [laidOf, percentField, padR, h, hs, ht]
theorem padR_len (x : Str) (n : Nat) : (padR x n).length ≤ max n x.length := by
  simp only [padR, PySem.Str.length, List.size_toArray, List.length_append, List.length_replicate, Array.length_toList]
  omega
theorem meetsPad (n : Int) (x : Str) (t u v : Tok) (b : Addr) (h0 : 0 ≤ n) (h1 : n ≤ 1000) (hx : x.length ≤ 1000) : Meets («str.__mod__» ⟨[.str ⟨#[37, 45, 42, 115]⟩ t, .ref b], []⟩) (fun _ R s => IsTup s.heap b #[.int n u, .str x v] ∧ ∀ t' k, R (.ok (.ret (.str (padR x n.natAbs) t'))) { s with toks := k }) := by
  apply KPt.meets_tup
  intro _ _ _ _ _ _ kptH kH
  obtain ⟨kptO, kptG, kptC, kptN, kptD⟩ := kptH
  rw [KPt.entry_is_r]
  unfold Builtin.Str.percentFormat
  refine wpAny_bind (wpAny_isInstance (T := "tuple") ⟨kptO, kptG, kptC⟩ KPt.sub_tt ?_)
  refine wpAny_bind (KPt.asStr_ref kptG kptD ?_)
  refine wpAny_bind (KPt.fills_ref ⟨kptO, kptG, kptC⟩ ?_)
  intro _
  kpc_if
  refine wpAny_bind (wpAny_seqItems kptG kptD ?_)
  refine wpAny_bind (wpAny_pure ?_)
  refine wpAny_bind ?_
  rw [KPc.range_list]
  refine KPc.start ?_
  intro w' g
  refine KPc.turn ?_
  kpc_check
  (repeat kpc_if)
  refine wpAny_bind (wpAny_of_eq (a := n) rfl ?_)
  refine wpAny_ite (KPc.ite_no (by simp; omega) ?_)
  (repeat kpc_if)
  refine wpAny_ite (KPc.ite_no (KPc.short (by show n.natAbs ≤ _; omega)) ?_)
  refine wpAny_bind ?_
  refine wpAny_holding ?_
  (repeat kpc_if)
  kpt_conv
  refine wpAny_pure ?_
  have hf := fieldPad x n.natAbs
  have hl : (padR x n.natAbs).length ≤ 1000 := Nat.le_trans (padR_len x n.natAbs) (by omega)
  dsimp only
  refine on_field (o := percentField (Ppad n.natAbs) false x.cps.toList) (fun hpf => ?_) (fun laid hpf => ?_)
  · rw [hpf] at hf
    refine wpAny_pure ?_
    refine after_t0 g (str_of_list hf) hl ?_ ?_
    · have e : (⟨(x.cps.toList).toArray⟩ : Str) = x := congrArg PySem.Str.mk (Array.toArray_toList ..)
      exact KPc.obj_some (by rw [e]; rfl)
    intro w9 g9
    kpc_turns
  · rw [hpf] at hf
    refine wpAny_pure ?_
    refine after_t0 g (str_of_list hf) hl (by kpc_obj) ?_
    intro w9 g9
    kpc_turns
end
section
set_option linter.unusedVariables false
set_option maxRecDepth 100000
set_option maxHeartbeats 1000000
open Builtin Builtin.Str
def hex4 (n : Int) : Str := pairS (n.fdiv 256) ++ pairS (n.fmod 256)
abbrev P04 : Percent := { zero := true, width := some 4, type := 120 }
theorem field04_nat : ∀ i : Fin 64, laidOf (percentField P04 true (percentInt P04 false ((Nat.toDigits 16 i.1).map Char.toNat))) (percentInt P04 false ((Nat.toDigits 16 i.1).map Char.toNat)) = (hex4 (i.1 : Int)).cps.toList := by decide +kernel
theorem field04 (i : Int) (h0 : 0 ≤ i) (h1 : i < 64) : laidOf (percentField P04 true (percentInt P04 (decide (i < 0)) ((Nat.toDigits 16 i.natAbs).map Char.toNat))) (percentInt P04 (decide (i < 0)) ((Nat.toDigits 16 i.natAbs).map Char.toNat)) = (hex4 i).cps.toList := by
  have h := field04_nat ⟨i.natAbs, by omega⟩
  have e : ((i.natAbs : Nat) : Int) = i := by omega
  rw [decide_eq_false (by omega)]
  dsimp only at h
  rw [e] at h
  exact h
theorem hex4_len {i : Int} (h0 : 0 ≤ i) (h1 : i < 64) : (hex4 i).length = 4 := by
  have a : 0 ≤ i.fdiv 256 ∧ i.fdiv 256 < 256 := by rw [Int.fdiv_eq_ediv_of_nonneg _ (by decide)]; omega
  have b : 0 ≤ i.fmod 256 ∧ i.fmod 256 < 256 := by rw [Int.fmod_eq_emod_of_nonneg _ (by decide)]; omega
  rw [hex4, PySem.Str.length_append, pairS_len a.1 a.2, pairS_len b.1 b.2]
def rowS (p : Str) (n : Int) (a b c d : Str) : Str := p ++ hex4 n ++ Str.ofString "  " ++ a ++ Str.ofString " " ++ b ++ Str.ofString " " ++ c ++ Str.ofString " " ++ d
abbrev PSt := List Value × Writer × List Nat
/-- one turn of the format's loop -/
def Turn (M : Model) (A : Around) (f : Nat → PSt → Sem (ForInStep PSt)) (b b' : PSt) : Prop :=
  ∀ (x : Nat) (Q : ForInStep PSt → Shared → Prop) (E : Value → Shared → Prop) (s : Shared), Q (.yield b') s → wpAny M A (f x b) Q E s
theorem Turn.step {M : Model} {A : Around} {E : Value → Shared → Prop} {s : Shared} {f : Nat → PSt → Sem (ForInStep PSt)} {b b' : PSt} {x : Nat} {l : List Nat} {Q : PSt → Shared → Prop} (t : Turn M A f b b') (h : wpAny M A (forIn l b' f) Q E s) : wpAny M A (forIn (x :: l) b f) Q E s :=
  KPc.turn (t x _ _ _ h)
section
variable {M : Model} {A : Around} {E : Value → Shared → Prop} {s : Shared} {f : Nat → PSt → Sem (ForInStep PSt)} {Q : PSt → Shared → Prop}
theorem run_row {p a b c d : Str} {n : Int} {t1 t2 t3 t4 t5 t6 : Tok} {w0 : Writer} (g0 : KPc.Good w0 Str.empty 0) (h0 : 0 ≤ n) (h1 : n < 64) (hp : p.length ≤ 1000) (ha : a.length ≤ 1000) (hb : b.length ≤ 1000) (hc : c.length ≤ 1000) (hd : d.length ≤ 1000)
    (hs : ∀ (x : Str) u pd w rest T N, KPc.Good w T N → N ≤ 10000 → x.length ≤ 1000 → ∃ w', KPc.Good w' (T ++ x) (N + 1000) ∧ Turn M A f (.str x u :: pd, w, 37 :: 115 :: rest) (pd, w', rest))
    (hsp : ∀ pd w rest T N, KPc.Good w T N → N ≤ 10000 → ∃ w', KPc.Good w' (T ++ Str.ofString " ") (N + 1000) ∧ Turn M A f (pd, w, 32 :: 37 :: rest) (pd, w', 37 :: rest))
    (hsp2 : ∀ pd w rest T N, KPc.Good w T N → N ≤ 10000 → ∃ w', KPc.Good w' (T ++ Str.ofString "  ") (N + 1000) ∧ Turn M A f (pd, w, 32 :: 32 :: 37 :: rest) (pd, w', 37 :: rest))
    (hx : ∀ (i : Int) u pd w rest T N, KPc.Good w T N → N ≤ 10000 → 0 ≤ i → i < 64 → ∃ w', KPc.Good w' (T ++ hex4 i) (N + 1000) ∧ Turn M A f (.int i u :: pd, w, 37 :: 48 :: 52 :: 120 :: rest) (pd, w', rest))
    (hend : ∀ w N T, KPc.Good w T N → N ≤ 10000 → ∀ (x : Nat) (Q : ForInStep PSt → Shared → Prop) (E : Value → Shared → Prop) (s : Shared), Q (.done ([], w, [])) s → wpAny M A (f x ([], w, [])) Q E s)
    (fin : ∀ w', KPc.Good w' (rowS p n a b c d) 10000 → Q ([], w', []) s) :
    wpAny M A (forIn (List.range' 0 19 1) ([.str p t1, .int n t2, .str a t3, .str b t4, .str c t5, .str d t6], w0, [37, 115, 37, 48, 52, 120, 32, 32, 37, 115, 32, 37, 115, 32, 37, 115, 32, 37, 115]) f) Q E s := by
  obtain ⟨w1, g1, u1⟩ := hs p t1 [.int n t2, .str a t3, .str b t4, .str c t5, .str d t6] w0 [37, 48, 52, 120, 32, 32, 37, 115, 32, 37, 115, 32, 37, 115, 32, 37, 115] _ _ g0 (by decide) hp
  obtain ⟨w2, g2, u2⟩ := hx n t2 [.str a t3, .str b t4, .str c t5, .str d t6] w1 [32, 32, 37, 115, 32, 37, 115, 32, 37, 115, 32, 37, 115] _ _ g1 (by decide) h0 h1
  obtain ⟨w3, g3, u3⟩ := hsp2 [.str a t3, .str b t4, .str c t5, .str d t6] w2 [115, 32, 37, 115, 32, 37, 115, 32, 37, 115] _ _ g2 (by decide)
  obtain ⟨w4, g4, u4⟩ := hs a t3 [.str b t4, .str c t5, .str d t6] w3 [32, 37, 115, 32, 37, 115, 32, 37, 115] _ _ g3 (by decide) ha
  obtain ⟨w5, g5, u5⟩ := hsp [.str b t4, .str c t5, .str d t6] w4 [115, 32, 37, 115, 32, 37, 115] _ _ g4 (by decide)
  obtain ⟨w6, g6, u6⟩ := hs b t4 [.str c t5, .str d t6] w5 [32, 37, 115, 32, 37, 115] _ _ g5 (by decide) hb
  obtain ⟨w7, g7, u7⟩ := hsp [.str c t5, .str d t6] w6 [115, 32, 37, 115] _ _ g6 (by decide)
  obtain ⟨w8, g8, u8⟩ := hs c t5 [.str d t6] w7 [32, 37, 115] _ _ g7 (by decide) hc
  obtain ⟨w9, g9, u9⟩ := hsp [.str d t6] w8 [115] _ _ g8 (by decide)
  obtain ⟨w10, g10, u10⟩ := hs d t6 [] w9 [] _ _ g9 (by decide) hd
  rw [KPc.empty_app] at g10
  refine u1.step (u2.step (u3.step (u4.step (u5.step (u6.step (u7.step (u8.step (u9.step (u10.step (KPc.turn (hend w10 _ _ g10 (by decide) _ _ _ _ ?_)))))))))))
  exact fin w10 (KPc.good_mono g10 (by decide))
end
theorem whole_str (x : Str) : (⟨(x.cps.toList).toArray⟩ : Str) = x := congrArg PySem.Str.mk (Array.toArray_toList ..)
theorem meetsRow (p a b c d : Str) (n : Int) (t t1 t2 t3 t4 t5 t6 : Tok) (l : Addr) (h0 : 0 ≤ n) (h1 : n < 64) (hp : p.length ≤ 1000) (ha : a.length ≤ 1000) (hb : b.length ≤ 1000) (hc : c.length ≤ 1000) (hd : d.length ≤ 1000) :
    Meets («str.__mod__» ⟨[.str ⟨#[37, 115, 37, 48, 52, 120, 32, 32, 37, 115, 32, 37, 115, 32, 37, 115, 32, 37, 115]⟩ t, .ref l], []⟩) (fun _ R s => IsTup s.heap l #[.str p t1, .int n t2, .str a t3, .str b t4, .str c t5, .str d t6] ∧ ∀ t' k, R (.ok (.ret (.str (rowS p n a b c d) t'))) { s with toks := k }) := by
  apply KPt.meets_tup
  intro _ _ _ _ _ _ kptH kH
  obtain ⟨kptO, kptG, kptC, kptN, kptD⟩ := kptH
  rw [KPt.entry_is_r]
  unfold Builtin.Str.percentFormat
  refine wpAny_bind (wpAny_isInstance (T := "tuple") ⟨kptO, kptG, kptC⟩ KPt.sub_tt ?_)
  refine wpAny_bind (KPt.asStr_ref kptG kptD ?_)
  refine wpAny_bind (KPt.fills_ref ⟨kptO, kptG, kptC⟩ ?_)
  intro _
  kpc_if
  refine wpAny_bind (wpAny_seqItems kptG kptD ?_)
  refine wpAny_bind (wpAny_pure ?_)
  refine wpAny_bind ?_
  rw [KPc.range_list]
  refine KPc.start ?_
  intro w0 g0
  refine run_row g0 h0 h1 hp ha hb hc hd ?_ ?_ ?_ ?_ ?_ ?_
  · intro x u pd w rest T N g hN hx
    refine ⟨w.add ⟨(x.cps.toList).toArray⟩ (if rest.isEmpty = true then some (.str x u) else none), ?_, ?_⟩
    · have h := KPc.good_add (x := x) g (o := if rest.isEmpty = true then some (.str x u) else none) (by split; exact KPc.obj_some rfl; exact KPc.obj_none rfl)
      rw [whole_str]
      exact KPc.good_mono h (by omega)
    · intro y Q E s h
      refine wpAny_ite (KPc.ite_no (KPc.short_good g (by omega)) ?_)
      (repeat kpc_if)
      refine wpAny_bind ?_
      refine wpAny_holding ?_
      (repeat kpc_if)
      kpt_conv
      refine wpAny_pure ?_
      refine wpAny_pure ?_
      exact h
  · intro pd w rest T N g hN
    refine ⟨w.add ⟨#[32]⟩ none, KPc.good_mono (KPc.good_add (x := ⟨#[32]⟩) g (KPc.obj_none rfl)) (by show N + 1 ≤ _; omega), ?_⟩
    intro y Q E s h
    refine wpAny_ite (KPc.ite_no (KPc.short_good g (by omega)) ?_)
    (repeat kpc_if)
    refine wpAny_pure ?_
    exact h
  · intro pd w rest T N g hN
    refine ⟨w.add ⟨#[32, 32]⟩ none, KPc.good_mono (KPc.good_add (x := ⟨#[32, 32]⟩) g (KPc.obj_none rfl)) (by show N + 2 ≤ _; omega), ?_⟩
    intro y Q E s h
    refine wpAny_ite (KPc.ite_no (KPc.short_good g (by omega)) ?_)
    (repeat kpc_if)
    refine wpAny_pure ?_
    exact h
  · intro i u pd w rest T N g hN hi0 hi1
    have hf := field04 i hi0 hi1
    have hl : (hex4 i).length = 4 := hex4_len hi0 hi1
    refine ⟨w.add (hex4 i) none, KPc.good_mono (KPc.good_add g (KPc.obj_none rfl)) (by omega), ?_⟩
    intro y Q E s h
    refine wpAny_ite (KPc.ite_no (KPc.short_good g (by omega)) ?_)
    (repeat kpc_if)
    refine wpAny_bind ?_
    refine wpAny_holding ?_
    (repeat kpc_if)
    refine wpAny_bind (wpAny_of_eq (a := i) rfl ?_)
    (repeat kpc_if)
    refine wpAny_bind (wpAny_pure ?_)
    refine wpAny_pure ?_
    refine on_field (o := percentField P04 true (percentInt P04 (decide (i < 0)) ((Nat.toDigits 16 i.natAbs).map Char.toNat))) (fun hpf => ?_) (fun laid hpf => ?_)
    · rw [hpf] at hf
      refine wpAny_pure ?_
      have e := str_of_list hf
      have h' : Q (ForInStep.yield (pd, w.add ⟨(percentInt P04 (decide (i < 0)) ((Nat.toDigits 16 i.natAbs).map Char.toNat)).toArray⟩ none, rest)) s := by
        rw [show (⟨(percentInt P04 (decide (i < 0)) ((Nat.toDigits 16 i.natAbs).map Char.toNat)).toArray⟩ : Str) = hex4 i from e]
        exact h
      rw [ite_self]
      exact h'
    · rw [hpf] at hf
      refine wpAny_pure ?_
      rw [show (⟨laid.toArray⟩ : Str) = hex4 i from str_of_list hf]
      exact h
  · intro w N T g hN y Q E s h
    refine wpAny_ite (KPc.ite_no (KPc.short_good g (by omega)) ?_)
    (repeat kpc_if)
    refine wpAny_pure ?_
    exact h
  · intro w g
    kpc_if
    exact KPc.finish_ok g (by decide) rfl kH
end
section
set_option linter.unusedVariables false
set_option maxRecDepth 100000
set_option maxHeartbeats 1000000
open Builtin
/-- the table of signs, by its size and by what it says of a byte -/
def mapArr (T : Array UInt8) (ks : List Int) : List Int := ks.map fun k => ((T.getD k.toNat 0).toNat : Int)
theorem map_out (T : Array UInt8) (ks : List Int) (hT : T.size = 256) (hr : ∀ k ∈ ks, 0 ≤ k ∧ k < 256) : Array.map (fun c => T.getD c.toNat c) (Array.filter (fun x => !(#[] : Array UInt8).contains x) (byteArr ks)) = byteArr (mapArr T ks) := by
  have e : Array.filter (fun x => !(#[] : Array UInt8).contains x) (byteArr ks) = byteArr ks := by simp
  rw [e]
  unfold byteArr mapArr
  rw [List.map_toArray, List.map_map, List.map_map]
  congr 1
  refine List.map_congr_left fun k hk => ?_
  obtain ⟨h0, h1⟩ := hr k hk
  have e1 : (k.toNat.toUInt8).toNat = k.toNat := by rw [Nat.toUInt8_eq, UInt8.toNat_ofNat']; omega
  have e2 : k.toNat < T.size := by omega
  simp only [Function.comp, e1]
  simp [Array.getD, e2]
theorem meets_translate (n : Addr) (ks : List Int) (T : Array UInt8) (t : Tok) (hT : T.size = 256) (hr : ∀ k ∈ ks, 0 ≤ k ∧ k < 256) (hz : ks.length ≤ sizeLine) :
    Meets («bytearray.translate» ⟨[.ref n, .bytes T t], []⟩) (fun _ R s => s.heap.get? n = some (baOf (byteArr ks)) ∧ R (.ok (.ret (.ref s.heap.objs.size))) { s with heap := s.heap.push (baOf (byteArr (mapArr T ks))) }) := by
  refine .of_wp fun prog w A R s hS => ?_
  obtain ⟨hb, h⟩ := hS
  have hout := map_out T ks hT hr
  have hz' : (byteArr (mapArr T ks)).size ≤ sizeLine := by rw [byteArr_size, mapArr, List.length_map]; exact hz
  unfold Builtin.«bytearray.translate» Bytes.translateM
  dsimp only
  refine wpAny_ite (KPc.ite_no (by simp) ?_)
  refine wpAny_ite (KPc.ite_no (by decide) ?_)
  refine wpAny_ite (KPc.ite_no (show ¬ ((Value.bytes T t == Value.none) = true) from Bool.false_ne_true) ?_)
  refine wpAny_bind (wpAny_of_eq KBd.like_eq ?_)
  refine wpAny_ite (KPc.ite_no (by simp [hT]) ?_)
  refine wpAny_bind (wpAny_pure ?_)
  dsimp only [List.head?, Option.map]
  refine wpAny_bind (wpAny_pure ?_)
  refine wpAny_bind (ba_payload hb ?_)
  rw [hout]
  by_cases he : (byteArr (mapArr T ks) == byteArr ks) = true
  · rw [if_pos he]
    refine wpAny_bind (wpAny_rule ?_)
    refine wpAny_bind ?_
    show wpAny _ _ (Bytes.payload (.ref n) >>= fun b => Bytes.newBytearray b) _ _ s
    refine wpAny_bind (ba_payload hb (ba_new (by rw [← eq_of_beq he]; exact hz') (wpAny_pure ⟨_, rfl, ?_⟩)))
    rw [← eq_of_beq he]
    exact h
  · rw [if_neg he]
    refine wpAny_bind ?_
    show wpAny _ _ (Bytes.newBytearray (byteArr (mapArr T ks))) _ _ s
    exact ba_new hz' (wpAny_pure ⟨_, rfl, h⟩)
end
section
set_option linter.unusedVariables false
set_option maxRecDepth 100000
set_option maxHeartbeats 1000000
open Builtin
section
variable {M : Model} {A : Around} {E : Value → Shared → Prop} {s : Shared}
theorem ascii_loop {β : Type} {f : Nat → Nat × Array Nat × β → Sem (ForInStep (Nat × Array Nat × β))} {st : β} {cs : List Nat} {Q : Nat × Array Nat × β → Shared → Prop}
    (turn : ∀ (x i : Nat) (Q : ForInStep (Nat × Array Nat × β) → Shared → Prop), (hi : i < cs.length) → Q (.yield (i + 1, (cs.take (i + 1)).toArray, st)) s → wpAny M A (f x (i, (cs.take i).toArray, st)) Q E s)
    (h : Q (cs.length, cs.toArray, st) s) : ∀ (j i k : Nat), i + j = cs.length → wpAny M A (forIn (List.range' k j 1) (i, (cs.take i).toArray, st) f) Q E s
  | 0, i, k, e => by
    obtain rfl : i = cs.length := by omega
    rw [List.take_length]
    exact wpAny_pure h
  | j + 1, i, k, e => by
    rw [List.range'_succ]
    exact KPc.turn (turn _ _ _ (by omega) (ascii_loop turn h j (i + 1) (k + 1) (by omega)))
theorem find_ascii {ks : List Int} (hr : ∀ k ∈ ks, 0 ≤ k ∧ k < 128) {i : Nat} (hi : i < ks.length) : _codecs.utf8Decoder.find true (byteArr ks) i = .text [ks[i].toNat] (i + 1) := by
  obtain ⟨h0, h1⟩ := hr ks[i] (List.getElem_mem hi)
  have e : ((byteArr ks).getD i 0).toNat = ks[i].toNat := by
    have e1 : (byteArr ks).getD i 0 = ks[i].toNat.toUInt8 := by simp [byteArr, Array.getD, hi]
    rw [e1, Nat.toUInt8_eq, UInt8.toNat_ofNat']
    omega
  have e2 : Bytes.utf8At (byteArr ks) i = (.char ks[i].toNat, i + 1) := by
    unfold Bytes.utf8At
    simp only [e]
    rw [if_pos (by omega)]
  unfold _codecs.utf8Decoder
  dsimp only
  rw [e2]
  rfl
theorem run_ascii {ks : List Int} (hr : ∀ k ∈ ks, 0 ≤ k ∧ k < 128) (hz : ks.length ≤ sizeLine) {id : String} {held : List Value} {Q : Array Nat × Nat → Shared → Prop} (h : Q ((ks.map Int.toNat).toArray, ks.length) s) : wpAny M A (_codecs.runDecoder id _codecs.utf8Decoder none true (byteArr ks) 0 held) Q E s := by
  unfold _codecs.runDecoder
  refine wpAny_bind ?_
  rw [KPc.range_list, byteArr_size]
  refine ascii_loop (cs := ks.map Int.toNat) (fun x i Q hi hq => ?_) ?_ ks.length 0 0 (by simp)
  · rw [List.length_map] at hi
    dsimp only
    have hs : ¬ (((ks.map Int.toNat).take i).toArray.size > sizeLine) := by simp; omega
    rw [if_neg hs, if_neg (by omega), find_ascii hr hi]
    dsimp only
    refine wpAny_pure ?_
    have e : ((ks.map Int.toNat).take i).toArray ++ [ks[i].toNat].toArray = ((ks.map Int.toNat).take (i + 1)).toArray := by
      rw [List.take_add_one]
      simp [hi]
    rw [e]
    exact hq
  · dsimp only
    refine wpAny_pure ?_
    rw [List.length_map]
    exact h
end
end
section
set_option linter.unusedVariables false
set_option maxRecDepth 100000
set_option maxHeartbeats 1000000
open Builtin
def asciiS (ks : List Int) : Str := ⟨(ks.map Int.toNat).toArray⟩
theorem road_held {id : String} {b : Array UInt8} {held : List Value} : _codecs.decodeRoad id b (PySem.Str.ofString "utf-8") none held = (_codecs.runDecoder id _codecs.utf8Decoder none true b 0 held >>= fun r => mkStr ⟨r.1⟩) := by kernel_rfl
theorem meets_ba_text {n : Addr} {ks : List Int} {t1 t2 : Tok} {d : Str} (hr : ∀ k ∈ ks, 0 ≤ k ∧ k < 128) (hz : ks.length ≤ sizeLine) :
    Meets («_codecs.decode.text» ⟨[.ref n, .str (PySem.Str.ofString "utf-8") t1, .none, .str d t2], []⟩) (fun _ R s => s.heap.get? n = some (baOf (byteArr ks)) ∧ R (.ok (.ret (.str (asciiS ks) s.toks))) { s with toks := s.toks + 1 }) := by
  refine .of_wp fun prog w A R s hS => ?_
  obtain ⟨hb, h⟩ := hS
  have like : ∀ {id : String} {Q : Array UInt8 → Shared → Prop} {E : Value → Shared → Prop}, Q (byteArr ks) s → wpAny (model prog w) A.in1 (Bytes.bytesLike id (.ref n)) Q E s := fun hq => by
    unfold Bytes.bytesLike
    exact wpAny_bind (ba_buffer hb (wpAny_pure hq))
  show wpAny _ _ (Bytes.bytesLike _ (.ref n) >>= fun r => _) _ _ s
  refine wpAny_bind (like ?_)
  refine wpAny_bind ?_
  show wpAny _ _ (Bytes.bytesLike _ (.ref n) >>= fun r => _) _ _ s
  refine wpAny_bind (like (wpAny_pure ?_))
  show wpAny _ _ (_codecs.decodeRoad _ (byteArr ks) (PySem.Str.ofString "utf-8") none [.ref n] >>= fun v => _) _ _ s
  rw [road_held]
  refine wpAny_bind (wpAny_bind (run_ascii hr hz ?_))
  exact wpAny_mkStr (wpAny_pure ⟨_, rfl, h⟩) (by simp [PySem.Str.length]; exact hz)
theorem ba_bind_decode : Bytes.bindOptional "bytearray.decode" "decode" ["encoding", "errors"] [] [] = pure [none, none] := by kernel_rfl
theorem meets_ba_decode {n : Addr} {ks : List Int} (hr : ∀ k ∈ ks, 0 ≤ k ∧ k < 128) (hz : ks.length ≤ sizeLine) :
    Meets («bytearray.decode» ⟨[.ref n], []⟩) (fun _ R s => s.heap.get? n = some (baOf (byteArr ks)) ∧ ∀ t' k, R (.ok (.ret (.str (asciiS ks) t'))) { s with toks := k }) := by
  refine .of_wp fun prog w A R s hS => ?_
  obtain ⟨hb, h⟩ := hS
  have hT := ba_type s hb
  unfold Builtin.«bytearray.decode» Bytes.decodeM
  dsimp only
  refine wpAny_bind (wpAny_of_eq ba_bind_decode ?_)
  dsimp only
  refine wpAny_bind (wpAny_of_eq (a := ()) rfl ?_)
  refine wpAny_bind (wpAny_of_eq (a := ()) rfl ?_)
  refine wpAny_ite (KPc.ite_yes (by decide) ?_)
  refine wpAny_bind (ba_release hb ?_)
  refine wpAny_ite (KPc.ite_no Bool.false_ne_true ?_)
  refine wpAny_bind (wpAny_specialOf hT BF.look_buffer ?_)
  dsimp only
  refine wpAny_bind (ba_own hb BF.look_buffer (by decide +kernel) (by decide +kernel) ?_)
  refine wpAny_ite (KPc.ite_no (by decide) ?_)
  unfold Bytes.thenGiveBack
  dsimp only
  refine wpAny_bind (ba_payload hb ?_)
  by_cases he : (byteArr ks).isEmpty = true
  · rw [if_pos he]
    have e0 : ks = [] := by
      have hl : (byteArr ks).size = 0 := by simpa using he
      rw [byteArr_size] at hl
      exact List.length_eq_zero_iff.mp hl
    subst e0
    refine wpAny_bind (wpAny_rule ?_)
    exact wpAny_bind (wpAny_mkStr (wpAny_pure ⟨_, rfl, h _ _⟩) (by decide))
  · rw [if_neg he]
    refine wpAny_bind (wpAny_mkStr ?_ (by decide))
    refine wpAny_bind (wpAny_pure ?_)
    refine wpAny_bind (wpAny_pure ?_)
    refine wpAny_bind (wpAny_mkStr ?_ (by decide))
    exact wpAny_bind (call_function_meets KBd.kind_text KBd.plain_text KBd.entry_text (KBd.args_text _ _ _ _) (meets_ba_text hr hz) ⟨hb, wpAny_pure ⟨_, rfl, h _ _⟩⟩)
end
section
set_option linter.unusedVariables false
set_option maxRecDepth 100000
set_option maxHeartbeats 1000000
open Builtin
section
variable {prog : Program} {w : World} {A : Around} {E : Value → Shared → Prop} {s : Shared} {h₀ : Heap} {L n : Addr} {m : Str → Option Value} {news : List (Addr × Obj)} {ks : List Int} {Q : Value → Shared → Prop}
theorem ba_method {M : Model} {pl : Sem Bool} {Q : Value × List Value → Shared → Prop} {name : Str} {id : String} (N : News h₀ L s.heap news) (hm : (n, baOf (byteArr ks)) ∈ news) (slot : Slot "bytearray" name id) (ty : typeOf (.builtin id) = pure (.type "method_descriptor"))
    (h : Q (.builtin id, [.ref n]) s) : wpAny M A (getMethod (.ref n) name pl) Q E s :=
  getMethod_builtin (ba_type s (N _ hm).1) BF.plainAttrs slot ty (fun a e => by cases e; exact ⟨_, (N _ hm).1, rfl⟩) h
theorem call_translate {T : Array UInt8} {t : Tok} (F : Fr h₀ L s.heap m) (N : News h₀ L s.heap news) (hm : (n, baOf (byteArr ks)) ∈ news) (hT : T.size = 256) (hr : ∀ k ∈ ks, 0 ≤ k ∧ k < 256) (hz : ks.length ≤ sizeLine)
    (h : ∀ n' h', Fr h₀ L h' m → News h₀ L h' ((n', baOf (byteArr (mapArr T ks))) :: news) → (∀ p ∈ news, p.1 < n') → Q (.ref n') { s with heap := h' }) : wpAny (model prog w) A (call (.builtin "bytearray.translate") [.ref n, .bytes T t]) Q E s :=
  call_meets BF.slot_translate (ba_type s (N _ hm).1) BF.entry_translate (BF.args_translate _ _) (meets_translate n ks T t hT hr hz) ⟨(N _ hm).1, h _ _ (F.push _) (N.push F _) fun p hp => Heap.lt_size (N p hp).1⟩
theorem call_decode (N : News h₀ L s.heap news) (hm : (n, baOf (byteArr ks)) ∈ news) (hr : ∀ k ∈ ks, 0 ≤ k ∧ k < 128) (hz : ks.length ≤ sizeLine)
    (h : ∀ t' k, Q (.str (asciiS ks) t') { s with toks := k }) : wpAny (model prog w) A (call (.builtin "bytearray.decode") [.ref n]) Q E s :=
  call_meets BF.slot_decode (ba_type s (N _ hm).1) BF.entry_decode (BF.args_decode _) (meets_ba_decode hr hz) ⟨(N _ hm).1, h⟩
theorem mod02x {X : Str} {i : Int} {t u : Tok} (hX : X = ⟨#[37, 48, 50, 120]⟩) (h0 : 0 ≤ i) (h1 : i < 256) (h : ∀ t' k, Q (.str (pairS i) t') { s with toks := k }) : wpAny (model prog w) A (binaryOp .Mod (.str X t) (.int i u)) Q E s :=
  KPc.mod_lit hX (shown (N := 2 ^ 1920) (by omega) (by omega) (Int.le_refl _)) (fun _ _ => meets02x i t u h0 h1) h
theorem modPad {X x : Str} {i : Int} {t u v : Tok} {b : Addr} {c : Nat} (N : News h₀ L s.heap news) (hb : (b, ({ cls := .type "tuple", data := .seq #[.int i u, .str x v] c } : PySem.Obj)) ∈ news) (hX : X = ⟨#[37, 45, 42, 115]⟩) (h0 : 0 ≤ i) (h1 : i ≤ 1000) (hx : x.length ≤ 1000)
    (h : ∀ t' k, Q (.str (padR x i.natAbs) t') { s with toks := k }) : wpAny (model prog w) A (binaryOp .Mod (.str X t) (.ref b)) Q E s :=
  KPt.mod_tuple N hb hX (meetsPad i x t u v b h0 h1 hx) h
theorem modRow {X p a b c d : Str} {i : Int} {t t1 t2 t3 t4 t5 t6 : Tok} {l : Addr} {k : Nat} (N : News h₀ L s.heap news) (hb : (l, ({ cls := .type "tuple", data := .seq #[.str p t1, .int i t2, .str a t3, .str b t4, .str c t5, .str d t6] k } : PySem.Obj)) ∈ news)
    (hX : X = ⟨#[37, 115, 37, 48, 52, 120, 32, 32, 37, 115, 32, 37, 115, 32, 37, 115, 32, 37, 115]⟩) (h0 : 0 ≤ i) (h1 : i < 64) (hp : p.length ≤ 1000) (ha : a.length ≤ 1000) (hb' : b.length ≤ 1000) (hc : c.length ≤ 1000) (hd : d.length ≤ 1000)
    (h : ∀ t' k, Q (.str (rowS p i a b c d) t') { s with toks := k }) : wpAny (model prog w) A (binaryOp .Mod (.str X t) (.ref l)) Q E s :=
  KPt.mod_tuple N hb hX (meetsRow p a b c d i t t1 t2 t3 t4 t5 t6 l h0 h1 hp ha hb' hc hd) h
end
end
section
set_option linter.unusedVariables false
set_option maxRecDepth 100000
set_option maxHeartbeats 4000000
section
variable {M : Model} {A : Around} {E : Value → Shared → Prop} {s : Shared} {env : Env}
theorem wpC_callType1 {T : String} {pos : Pos} {e : Expr} {Q : Value → Shared → Prop} (h : wpAny M A (eval e env) (fun v s₁ => wpC M A (call (.type T) [v]) Q E s₁) E s)
    (he : starEach [e] env = [(false, eval e env)] := by rfl) : wpC M A (callWith pos (.type T) [] (backTo pos (starEach [e] env)) []) Q E s := by
  have hp : ((backTo pos (starEach [e] env)).any (·.1) || ([] : List (Option Str × Sem Value)).any (·.1.isNone)) = false := by rw [he]; rfl
  refine wpC_callWith (P := fun _ => True) hp (fun h _ => ⟨.machine, .inr (.inl rfl), ?_⟩) ?_
  · exact fun _ _ _ _ _ hq => wpAny_pure hq
  · rw [he]
    refine evalArgs_plain (rest := []) ?_
    rw [spliced]
    refine wpAny_bind (wpAny_mono h (fun v s₁ h₁ => ?_) fun _ _ x => x)
    simp only [Bool.false_eq_true, if_false]
    exact wpAny_bind (wpAny_pure (wpAny_bind (wpAny_holding (wpAny_pure (wpAny_pure ⟨trivial, h₁⟩)))))
end
theorem call_ba_src {prog : Program} {w : World} {A : Around} {E : Value → Shared → Prop} {s : Shared} {h₀ : Heap} {L : Addr} {m : Str → Option Value} {news : List (Addr × Obj)} {Q : Value → Shared → Prop} {src : Value} {b : Array UInt8} (hg : A.guards = some []) (hsrc : (∃ t, src = .bytes b t) ∨ ∃ l, src = .ref l) (hm : ∀ l, src = .ref l → (l, baOf b) ∈ news) (F : Fr h₀ L s.heap m) (N : News h₀ L s.heap news) (hz : b.size ≤ sizeLine)
    (h : ∀ n h', Fr h₀ L h' m → News h₀ L h' ((n, baOf b) :: news) → (∀ p ∈ news, p.1 < n) → Q (.ref n) { s with heap := h' }) : wpC (model prog w) A (call (.type "bytearray") [src]) Q E s := by
  rcases hsrc with ⟨t, rfl⟩ | ⟨l, rfl⟩
  · exact call_ba_bytes hg F N hz h
  · exact call_ba_ba hg F N (hm l rfl) hz h
/-- what a call of hexdump promises: in wpC, under no guard -/
def ClaimC (w : World) (r : Nat) (f : Addr) (need : Heap → List (Addr × Obj) → Prop) (vs : List Value) (R : Tok → Value) : Prop :=
  ∀ (p : Program) (loose : List Str) (mean : ExcName → Option Value) (mg mb : Str → Option Value) (dp un : Nat) (cn : Str) (cs : Scope) (a : Addr) (ccd : Value) (cl : List (Str × Addr)) (outer : List Env) (A₀ : Around) (base h₀ : Heap) (L : Addr) (m : Str → Option Value) (news : List (Addr × Obj)) (s : Shared) (Q E : Value → Shared → Prop),
    Below A₀ base outer h₀ → Fr h₀ L s.heap m → (hd.heap_39 w.params).In h₀ → News h₀ L s.heap news → Top p loose mean mg mb h₀ → cs.kind = .function → need base news → dp + r < recursionLimit → un + 8 * r < cLine →
    CbRet h₀ L m news s Q R →
    wpC (model PySem.Challenge.rw_aa6002_01.row.prog w) (ktrTop dp un (some []) cn cs L a ccd cl outer) (call (.ref f) vs) Q E s
/-- the arguments of hexdump, as they may be written -/
def HexArgs (w : World) (vs : List Value) (src : Value) (width : Int) (head : Str) : Prop :=
  ∃ t1 t2, ∀ fd oc od osl s, PySem.Challenge.rw_aa6002_01.row.prog = PySem.Challenge.rw_aa6002_01.row.prog → (hd.heap_39 w.params).lookup 20 = some ⟨oc, od, .func fd, osl⟩ → (hd.heap_39 w.params).In s.heap → BindsTo s fd ⟨vs, []⟩ [(Str.ofString "src", src), (Str.ofString "length", .int width t1), (Str.ofString "prefix", .str head t2)]
theorem hexargs3 (w : World) (src : Value) (width : Int) (head : Str) (t1 t2 : Tok) : HexArgs w [src, .int width t1, .str head t2] src width head := by
  unfold HexArgs
  k_fill
  refine ⟨t1, t2, fun fd oc od osl s _ hl X => ?_⟩
  cases (hl.symm.trans (by k_is) : some _ = some _)
  first | exact BindsTo.of_eq rfl | exact binds_K (by k_in) rfl (by k_is) rfl rfl rfl
theorem hexargs2 (w : World) (src : Value) (width : Int) (t1 : Tok) : HexArgs w [src, .int width t1] src width (Str.ofString "") := by
  unfold HexArgs
  k_fill
  refine Exists.intro t1 ?_
  apply Exists.intro
  intro fd oc od osl s _ hl X
  cases (hl.symm.trans (by k_is) : some _ = some _)
  first | exact BindsTo.of_eq rfl | exact binds_K (by k_in) rfl (by k_is) rfl rfl rfl
theorem hexargs1 (w : World) (src : Value) : HexArgs w [src] src 16 (Str.ofString "") := by
  unfold HexArgs
  k_fill
  apply Exists.intro
  apply Exists.intro
  intro fd oc od osl s _ hl X
  cases (hl.symm.trans (by k_is) : some _ = some _)
  first | exact BindsTo.of_eq rfl | exact binds_K (by k_in) rfl (by k_is) rfl rfl rfl
end
section
set_option linter.unusedVariables false
set_option maxRecDepth 100000
set_option maxHeartbeats 4000000
section
variable {prog : Program} {w : World} {A : Around} {E : Value → Shared → Prop} {Q : Flow → Shared → Prop} {s : Shared} {env : Env} {h₀ : Heap} {L : Addr}
/-- the loop of hexdump: the texts so far, the place, the bytearray that is left -/
theorem hex_loop {D a₀ : Addr} {tx : Tok} {test : Expr} {body : List Stmt} {pos : Pos} {m₀ : Str → Option Value} {news : List (Addr × Obj)} {ks₀ : List Int} (stored : List Str) (P : List Value → Int → List Int → Prop) (μ : List Int → Nat)
    (F : Fr h₀ L s.heap m₀) (N : News h₀ L s.heap ((a₀, baOf (byteArr ks₀)) :: (D, listOf #[] 0) :: news)) (hl : ∀ p ∈ (D, listOf #[] 0) :: news, p.1 < a₀) (hk : m₀ (Str.ofString "n") = some (Value.int 0 tx)) (hk2 : m₀ (Str.ofString "src") = some (.ref a₀)) (hp : P [] 0 ks₀)
    (turn : ∀ (vs : List Value) (c : Nat) (n : Int) (tn : Tok) (a : Addr) (ks : List Int) (u : Str → Option Value) h tk, P vs n ks → (∀ p ∈ news, p.1 < a) → D < a → Fr h₀ L h (kstB (fun z => if stored.contains z then u z else m₀ z) [(Str.ofString "n", Value.int n tn), (Str.ofString "src", .ref a)]) → News h₀ L h ((a, baOf (byteArr ks)) :: (D, listOf vs.toArray c) :: news) →
      wpAny (model prog w) A (isTrue test env (eval test env)) (fun b s₂ =>
        if b = true then wpAny (model prog w) A (execs body env) (KswPost h₀ L s (fun (c : List Value × Nat × Int × Tok × Addr × List Int) => (c.2.2.2.2.1, baOf (byteArr c.2.2.2.2.2)) :: (D, listOf c.1.toArray c.2.1) :: news) (fun c => [(Str.ofString "n", Value.int c.2.2.1 c.2.2.2.1), (Str.ofString "src", .ref c.2.2.2.2.1)]) (fun c => (∀ p ∈ news, p.1 < c.2.2.2.2.1) ∧ D < c.2.2.2.2.1) stored m₀ (fun c => P c.1 c.2.2.1 c.2.2.2.2.2) (fun c => μ c.2.2.2.2.2) Q (vs, c, n, tn, a, ks)) E s₂ else Q .next s₂) E { s with heap := h, toks := tk })
    (hE : PassesOwn (model prog w) A env E := by passes_own) :
    wpAny (model prog w) A (exec (.While test body [] pos) env) Q E s := by
  refine ksw_while (σ := List Value × Nat × Int × Tok × Addr × List Int) (fun c => (c.2.2.2.2.1, baOf (byteArr c.2.2.2.2.2)) :: (D, listOf c.1.toArray c.2.1) :: news) (fun c => [(Str.ofString "n", Value.int c.2.2.1 c.2.2.2.1), (Str.ofString "src", .ref c.2.2.2.2.1)]) (fun c => (∀ p ∈ news, p.1 < c.2.2.2.2.1) ∧ D < c.2.2.2.2.1) stored (fun c => P c.1 c.2.2.1 c.2.2.2.2.2) (fun c => μ c.2.2.2.2.2) ([], 0, 0, tx, a₀, ks₀) F N ⟨fun p hp => hl p (List.mem_cons_of_mem _ hp), hl _ (List.mem_cons_self ..)⟩ ?_ hp ?_ hE
  · intro p hp
    rcases List.mem_cons.mp hp with rfl | hp
    · exact hk
    · rcases List.mem_singleton.mp hp with rfl
      exact hk2
  · rintro ⟨vs, c, n, tn, a, ks⟩ u h tk hf hP F N
    exact turn vs c n tn a ks u h tk hP hf.1 hf.2 F N
end
end
section
set_option linter.unusedVariables false
set_option maxRecDepth 100000
set_option maxHeartbeats 4000000
/-- the mark of hexdump's own walk -/
structure HexMark : Prop where
  mark :: (one : True)
theorem hexMark : HexMark := ⟨trivial⟩
section
variable {prog : Program} {w : World} {A : Around} {E : Value → Shared → Prop} {s : Shared} {value slice : PySem.Expr} {ks : List Int} {n : Addr} {h₀ : Heap} {L : Addr} {m : PySem.Str → Option Value} {news : List (Addr × Obj)} {Q : Value → Shared → Prop}
theorem ba_true {Q : Bool → Shared → Prop} (N : News h₀ L s.heap news) (hm : (n, baOf (byteArr ks)) ∈ news) (hz : ks.length ≤ sizeLine) (h1 : ks ≠ [] → ∀ k, Q true { s with toks := k }) (h0 : ks = [] → ∀ k, Q false { s with toks := k }) : wpAny (model prog w) A (truthy (.ref n)) Q E s := by
  refine ba_truthy (N _ hm).1 (by rw [byteArr_size]; rw [sizeLine_eq] at hz; omega) ?_
  by_cases e : ks = []
  · subst e; exact h0 rfl _
  · have : (byteArr ks).isEmpty = false := by
      rw [Array.isEmpty, byteArr_size]
      exact decide_eq_false (fun h => e (List.length_eq_zero_iff.mp h))
    rw [this]
    exact h1 e _
theorem ba_upto {y : Int} {u : Tok} (hF : Fr h₀ L s.heap m) (hN : News h₀ L s.heap news) (hm : (n, baOf (byteArr ks)) ∈ news) (h0 : 0 ≤ y) (hz : ks.length ≤ sizeLine)
    (h : ∀ n' h', Fr h₀ L h' m → News h₀ L h' ((n', baOf (byteArr (ks.take y.toNat))) :: news) → (∀ p ∈ news, p.1 < n') → Q (.ref n') { s with heap := h' })
    (hs : subscripted slice false (.ref n) (.ref s.heap.objs.size) = operate [.ref s.heap.objs.size, .ref n] (getItem (.ref n) (.ref s.heap.objs.size))) (ht : ∀ r, letTemporaryGo value (.ref n) r = pure ()) :
    wpAny (model prog w) A (subscriptTail value slice (.ref n) (.ref s.heap.objs.size)) Q E { s with heap := s.heap.push { cls := .type "slice", data := .fields #[.none, .int y u, .none] } } := by
  refine ba_slice_K hF hN hm .none (.int _ _) hz (fun n' h' F' N' l' => ?_) hs ht
  have e : (ks.drop 0).take (clipAt ks.length y - 0) = ks.take y.toNat := by
    have e1 : y = ((y.toNat : Nat) : Int) := by omega
    rw [e1, clipAt_nat, List.drop_zero, Nat.sub_zero, ← e1]
    rw [← List.take_take]
    simp
  have N2 : News h₀ L h' ((n', baOf (byteArr ((ks.drop 0).take (clipAt ks.length y - 0)))) :: news) := N'
  rw [e] at N2
  exact h n' h' F' N2 l'
theorem ba_from {y : Int} {u : Tok} (hF : Fr h₀ L s.heap m) (hN : News h₀ L s.heap news) (hm : (n, baOf (byteArr ks)) ∈ news) (h0 : 0 ≤ y) (hz : ks.length ≤ sizeLine)
    (h : ∀ n' h', Fr h₀ L h' m → News h₀ L h' ((n', baOf (byteArr (ks.drop y.toNat))) :: news) → (∀ p ∈ news, p.1 < n') → Q (.ref n') { s with heap := h' })
    (hs : subscripted slice false (.ref n) (.ref s.heap.objs.size) = operate [.ref s.heap.objs.size, .ref n] (getItem (.ref n) (.ref s.heap.objs.size))) (ht : ∀ r, letTemporaryGo value (.ref n) r = pure ()) :
    wpAny (model prog w) A (subscriptTail value slice (.ref n) (.ref s.heap.objs.size)) Q E { s with heap := s.heap.push { cls := .type "slice", data := .fields #[.int y u, .none, .none] } } := by
  refine ba_slice_K hF hN hm (.int _ _) .none hz (fun n' h' F' N' l' => ?_) hs ht
  have e : (ks.drop (clipAt ks.length y)).take (ks.length - clipAt ks.length y) = ks.drop y.toNat := by
    have e1 : y = ((y.toNat : Nat) : Int) := by omega
    rw [e1, clipAt_nat, ← e1, List.take_of_length_le (by simp)]
    by_cases hc : y.toNat ≤ ks.length
    · rw [Nat.min_eq_left hc]
    · rw [Nat.min_eq_right (by omega), List.drop_length, List.drop_of_length_le (by omega)]
  have N2 : News h₀ L h' ((n', baOf (byteArr ((ks.drop (clipAt ks.length y)).take (ks.length - clipAt ks.length y)))) :: news) := N'
  rw [e] at N2
  exact h n' h' F' N2 l'
end
end
section
set_option linter.unusedVariables false
set_option maxRecDepth 100000
set_option maxHeartbeats 1000000
def BytesIn (ks : List Int) : Prop := ∀ k ∈ ks, 0 ≤ k ∧ k < 256
theorem BytesIn.take {ks : List Int} (h : BytesIn ks) (n : Nat) : BytesIn (ks.take n) := fun k hk => h k (List.mem_of_mem_take hk)
theorem BytesIn.drop {ks : List Int} (h : BytesIn ks) (n : Nat) : BytesIn (ks.drop n) := fun k hk => h k (List.mem_of_mem_drop hk)
theorem pairs_le {ks : List Int} (h : BytesIn ks) : ∀ y ∈ ks.map pairS, y.length ≤ 2 := fun y hy => by
  obtain ⟨a, ha, rfl⟩ := List.mem_map.mp hy
  exact Nat.le_of_eq (pairS_len (h a ha).1 (h a ha).2)
/-- the two hex signs of each byte of a bytearray on the ledger -/
theorem src_pairs {prog : Program} {w : World} {A : Around} {h₀ : Heap} {L : Addr} {m : Str → Option Value} {env : Env} {elt : Expr} {x : Str} {scope : Scope} {cl : List (Str × Addr)} {Fin : Shared → List Value → List (Addr × Obj) → Prop} {l : Addr} {s₁ : Shared} {news : List (Addr × Obj)} {ks : List Int}
    (hh : A.handled = none) (F : Fr h₀ L s₁.heap m) (N : News h₀ L s₁.heap news) (hm : (l, baOf (byteArr ks)) ∈ news) (hr : BytesIn ks) (hsz : ks.length ≤ sizeLine)
    (turn : ∀ s' k t I oI C oC D m₂ ys h tk (E' : Value → Shared → Prop), 0 ≤ k → k < 256 → LCg.NsObj oC m₂ → m₂ x = some (.int k t) → Fr h₀ L h m → News h₀ L h ((I, oI) :: (C, oC) :: (D, LCg.lst ys) :: news) → LCg.Off3 I C D news → ((@Ne Nat I C) ∧ (@Ne Nat I D) ∧ (@Ne Nat C D)) → KPfMark →
      wpAny (model prog w) A (eval elt (compEnvC scope cl C env)) (LCg.CompEnd h₀ L m { { s₁ with heap := s' } with heap := h, toks := tk } I oI C oC D (LCg.lst ys) (fun nw => (l, baOf (byteArr ks)) ∈ nw) (fun y news' => KCtEl news (pairS k) y news')) E' { { s₁ with heap := s' } with heap := h, toks := tk })
    (fin : ∀ s' ys, StrsAre ys (ks.map pairS) → Fin { s₁ with heap := s' } ys news) : SrcG prog w A h₀ L m env elt x scope cl Fin (.ref l) s₁ :=
  src_texts pairS (iters_ba hh F N hm hr) hsz hm (fun _ _ _ h => h) (fun s' k t I oI C oC D m₂ ys h tk E' hk => turn s' k t I oI C oC D m₂ ys h tk E' (hr k hk).1 (hr k hk).2) fun s' ys hc => fin s' ys (signs_carried2 hc)
/-- the sign of a byte, as its code -/
def sgn (k : Int) : Int := if 32 ≤ k then (if k < 128 then k else 46) else 46
def tableT : Array UInt8 := ((List.range 256).map fun k => if 32 ≤ k then (if k < 128 then k.toUInt8 else 46) else 46).toArray
theorem sgn_range (k : Int) : 0 ≤ sgn k ∧ sgn k < 128 := by
  unfold sgn
  split
  · split <;> omega
  · omega
theorem table_size : tableT.size = 256 := by decide +kernel
theorem table_at : ∀ i : Fin 256, ((tableT.getD i.1 0).toNat : Int) = sgn i.1 := by decide +kernel
theorem mapArr_table {ks : List Int} (h : BytesIn ks) : mapArr tableT ks = ks.map sgn := by
  unfold mapArr
  refine List.map_congr_left fun k hk => ?_
  obtain ⟨h0, h1⟩ := h k hk
  have e := table_at ⟨k.toNat, by omega⟩
  have e1 : ((k.toNat : Nat) : Int) = k := by omega
  dsimp only at e
  rw [e1] at e
  exact e
theorem sgns_range {ks : List Int} : ∀ k ∈ ks.map sgn, 0 ≤ k ∧ k < 128 := fun k hk => by
  obtain ⟨a, _, rfl⟩ := List.mem_map.mp hk
  exact sgn_range a
def signsS (ks : List Int) : Str := asciiS (ks.map sgn)
theorem signsS_len (ks : List Int) : (signsS ks).length = ks.length := by simp [signsS, asciiS, PySem.Str.length]
section
variable {prog : Program} {w : World} {A : Around} {E : Value → Shared → Prop} {s : Shared} {h₀ : Heap} {L n : Addr} {m : Str → Option Value} {news : List (Addr × Obj)} {ks : List Int} {Q : Value → Shared → Prop}
theorem call_signs {T : Array UInt8} {t : Tok} (F : Fr h₀ L s.heap m) (N : News h₀ L s.heap news) (hm : (n, baOf (byteArr ks)) ∈ news) (hT : T = tableT) (hr : BytesIn ks) (hz : ks.length ≤ sizeLine)
    (h : ∀ n' h', Fr h₀ L h' m → News h₀ L h' ((n', baOf (byteArr (ks.map sgn))) :: news) → (∀ p ∈ news, p.1 < n') → Q (.ref n') { s with heap := h' }) : wpAny (model prog w) A (call (.builtin "bytearray.translate") [.ref n, .bytes T t]) Q E s := by
  subst hT
  refine call_translate F N hm table_size hr hz ?_
  rw [mapArr_table hr]
  exact h
theorem call_text (N : News h₀ L s.heap news) (hm : (n, baOf (byteArr (ks.map sgn))) ∈ news) (hz : ks.length ≤ sizeLine)
    (h : ∀ t' k, Q (.str (signsS ks) t') { s with toks := k }) : wpAny (model prog w) A (call (.builtin "bytearray.decode") [.ref n]) Q E s :=
  call_decode N hm sgns_range (by rw [List.length_map]; exact hz) h
end
theorem place_lt {n k width : Int} {ks ns : List Int} (hk1 : n = k * width) (hk2 : ks = ns.drop (k * width).toNat) (hne : ks ≠ []) (hn0 : 0 ≤ n) : n < ns.length := by
  subst hk2
  rw [← hk1] at hne
  by_cases h : n < ns.length
  · exact h
  · exact absurd (List.drop_of_length_le (by omega)) hne
end
section
set_option linter.unusedVariables false
set_option maxRecDepth 100000
set_option maxHeartbeats 1000000
/-- a text's codes -/
def cs (x : Str) : List Nat := x.cps.toList
theorem cs_app (x y : Str) : cs (x ++ y) = cs x ++ cs y := by
  show (x.cps ++ y.cps).toList = _
  rw [Array.toList_append]; rfl
theorem cs_inj {x y : Str} (h : cs x = cs y) : x = y := by
  obtain ⟨a⟩ := x
  obtain ⟨b⟩ := y
  exact congrArg PySem.Str.mk (Array.toList_inj.mp h)
theorem cs_len (x : Str) : (cs x).length = x.length := rfl
theorem cs_blank : cs (Str.ofString " ") = [32] := by decide +kernel
theorem cs_blanks : cs (Str.ofString "  ") = [32, 32] := by decide +kernel
theorem cs_none : cs (Str.ofString "") = [] := by decide +kernel
theorem join_cons2 (y a b : Str) (l : List Str) : cs (Txt.join y (a :: b :: l)) = cs a ++ cs y ++ cs (Txt.join y (b :: l)) := by
  show cs (Builtin.Str.glued y (a :: b :: l)) = _ ++ cs (Builtin.Str.glued y (b :: l))
  rw [StrLaws.glued_eq_join, StrLaws.glued_eq_join]
  show cs (a ++ y ++ Str.join y (b :: l)) = _
  rw [cs_app, cs_app]
theorem join_one (y a : Str) : cs (Txt.join y [a]) = cs a := by
  show cs (Builtin.Str.glued y [a]) = _
  rw [StrLaws.glued_eq_join]; rfl
theorem join_nil (y : Str) : cs (Txt.join y []) = [] := rfl
theorem join_plain : ∀ (l : List Str), cs (Txt.join (Str.ofString "") l) = l.flatMap cs
  | [] => rfl
  | [a] => by rw [join_one]; simp
  | a :: b :: l => by rw [join_cons2, join_plain (b :: l), cs_none]; simp
def cellC (x : Int) : List Nat := cs (pairS x) ++ [32]
theorem join_pairs : ∀ (x : Int) (l : List Int), cs (Txt.join (Str.ofString " ") ((x :: l).map pairS)) ++ [32] = (x :: l).flatMap cellC
  | x, [] => by rw [List.map_cons, List.map_nil, join_one]; simp [cellC]
  | x, y :: l => by
    rw [List.map_cons, List.map_cons, join_cons2, cs_blank, List.append_assoc, ← List.map_cons, join_pairs y l, List.flatMap_cons (x := x)]
    rfl
theorem cellC_len {x : Int} (h0 : 0 ≤ x) (h1 : x < 256) : (cellC x).length = 3 := by
  rw [cellC, List.length_append, cs_len, pairS_len h0 h1]; rfl
theorem cells_len {l : List Int} (h : BytesIn l) : (l.flatMap cellC).length = 3 * l.length := by
  induction l with
  | nil => rfl
  | cons a r ih =>
    rw [List.flatMap_cons, List.length_append, cellC_len (h a (List.mem_cons_self ..)).1 (h a (List.mem_cons_self ..)).2, ih fun k hk => h k (List.mem_cons_of_mem _ hk), List.length_cons]
    omega
theorem cs_pad (x : Str) (n : Nat) : cs (padR x n) = cs x ++ List.replicate (n - x.length) 32 := by simp [cs, padR]
/-- the joined pairs, with blanks up to the places' width -/
theorem pad_cells {l : List Int} (h : BytesIn l) {n : Nat} (hn : l.length ≤ n) : cs (padR (Txt.join (Str.ofString " ") (l.map pairS)) (3 * n)) = l.flatMap cellC ++ List.replicate (3 * (n - l.length)) 32 := by
  rw [cs_pad]
  cases l with
  | nil =>
    have e : (Txt.join (Str.ofString " ") ([].map pairS)).length = 0 := rfl
    rw [e]; simp [join_nil]
  | cons a r =>
    have e := join_pairs a r
    have el := congrArg List.length e
    rw [List.length_append, cells_len h, cs_len] at el
    rw [← e, List.append_assoc]
    congr 1
    have e2 : 3 * n - (Txt.join (Str.ofString " ") ((a :: r).map pairS)).length = 3 * (n - (a :: r).length) + 1 := by
      simp only [List.length_cons, List.length_nil] at el hn ⊢
      omega
    rw [e2, List.replicate_succ]
    rfl
theorem rangeKs_succ (a : Int) (n : Nat) : rangeKs a (n + 1) = a :: rangeKs (a + 1) n := by
  unfold rangeKs
  rw [List.range_succ_eq_map, List.map_cons, List.map_map]
  congr 1
  · simp
  · refine List.map_congr_left fun i _ => ?_
    simp only [Function.comp]
    omega
theorem cellsS_cs (ns : List Int) : ∀ ks : List Int, cs (cellsS ns ks) = ks.flatMap fun k => cs (cellS ns k) ++ [32] := by
  intro ks
  have go : ∀ (ks : List Int) (o : Str), cs (ks.foldl (fun out k => out ++ (cellS ns k ++ Str.ofString " ")) o) = cs o ++ ks.flatMap fun k => cs (cellS ns k) ++ [32] := by
    intro ks
    induction ks with
    | nil => intro o; simp
    | cons k r ih =>
      intro o
      rw [List.foldl_cons, ih, cs_app, cs_app, cs_blank, List.flatMap_cons, List.append_assoc]
  rw [cellsS, go, cs_none]; rfl
/-- the cells of a row from a place on -/
theorem cells_from (row : List Int) : ∀ (n a : Nat), cs (cellsS row (rangeKs a n)) = ((row.drop a).take n).flatMap cellC ++ List.replicate (3 * (n - ((row.drop a).take n).length)) 32 := by
  intro n
  induction n with
  | zero => intro a; rw [cellsS_cs]; simp [rangeKs]
  | succ n ih =>
    intro a
    have i2 := ih (a + 1)
    rw [cellsS_cs] at i2 ⊢
    rw [rangeKs_succ, List.flatMap_cons]
    rw [show ((a : Nat) : Int) + 1 = ((a + 1 : Nat) : Int) by simp, i2]
    by_cases h : a < row.length
    · have e : row.drop a = row[a] :: row.drop (a + 1) := List.drop_eq_getElem_cons h
      have ec : cellS row a = pairS row[a] := by
        unfold cellS
        rw [if_pos (by omega), Int.toNat_natCast, List.getD_eq_getElem?_getD, List.getElem?_eq_getElem h]; rfl
      rw [e, List.take_succ_cons, List.flatMap_cons, List.length_cons, ec, Nat.add_sub_add_right]
      simp [cellC]
    · have e : row.drop a = [] := List.drop_of_length_le (by omega)
      have e1 : row.drop (a + 1) = [] := List.drop_of_length_le (by omega)
      have ec : cellS row a = Str.ofString "  " := by
        unfold cellS
        rw [if_neg (by omega)]
      rw [e, e1, ec, cs_blanks]
      simp only [List.take_nil, List.flatMap_nil, List.length_nil, List.nil_append, Nat.sub_zero, Nat.mul_succ]
      rw [show 3 * n + 3 = (3 * n + 2) + 1 by omega, List.replicate_succ, List.replicate_succ, List.replicate_succ]
      rfl
theorem cells_pad {row : List Int} (h : BytesIn row) (n a : Nat) : padR (Txt.join (Str.ofString " ") (((row.drop a).take n).map pairS)) (3 * n) = cellsS row (rangeKs a n) := by
  refine cs_inj ?_
  rw [cells_from, pad_cells ((h.drop _).take _) (by rw [List.length_take]; omega)]
theorem sign_one : ∀ i : Fin 256, cs (signS (i.1 : Int)) = [(sgn (i.1 : Int)).toNat] := by decide +kernel
theorem signs_join {l : List Int} (h : BytesIn l) : signsS l = Txt.join (Str.ofString "") (l.map signS) := by
  refine cs_inj ?_
  rw [join_plain]
  show ((l.map sgn).map Int.toNat).toArray.toList = _
  rw [List.map_map]
  induction l with
  | nil => rfl
  | cons a r ih =>
    have e := sign_one ⟨a.toNat, by have := h a (List.mem_cons_self ..); omega⟩
    have e1 : ((a.toNat : Nat) : Int) = a := by have := h a (List.mem_cons_self ..); omega
    dsimp only at e
    rw [e1] at e
    have ih := ih fun k hk => h k (List.mem_cons_of_mem _ hk)
    rw [List.map_cons, List.map_cons, List.flatMap_cons, e, ← ih]
    simp
theorem rowAt_eq (ns : List Int) {width n : Int} (h0 : 0 ≤ width) (hn : 0 ≤ n) : rowAt ns width n = (ns.drop n.toNat).take width.toNat := by
  unfold rowAt
  rw [List.take_eq_take_iff, List.length_drop]
  omega
theorem row_eq {ns ks : List Int} {width left n : Int} {head : Str} (h0 : 1 ≤ width) (hl0 : 0 ≤ left) (hl1 : left ≤ width) (hr : BytesIn ks) (hn0 : 0 ≤ n) (hks : ks = ns.drop n.toNat) :
    rowS head n (padR (Txt.join (Str.ofString " ") (((ks.take width.toNat).take left.toNat).map pairS)) (left * 3).natAbs) (padR (Txt.join (Str.ofString " ") (((ks.take width.toNat).drop left.toNat).map pairS)) ((width - left) * 3).natAbs)
      (signsS ((ks.take width.toNat).take left.toNat)) (signsS ((ks.take width.toNat).drop left.toNat)) = lineS ns width left head n := by
  have hrow : rowAt ns width n = ks.take width.toNat := by rw [rowAt_eq ns (by omega) hn0, hks]
  have hrr : BytesIn (ks.take width.toNat) := hr.take _
  unfold lineS rowS
  rw [hrow]
  generalize hrw : ks.take width.toNat = row at *
  have hlen : row.length ≤ width.toNat := by rw [← hrw, List.length_take]; omega
  have c1 := cells_pad hrr left.toNat 0
  rw [List.drop_zero] at c1
  have c2 := cells_pad hrr (width - left).toNat left.toNat
  have t2 : (row.drop left.toNat).take (width - left).toNat = row.drop left.toNat := List.take_of_length_le (by rw [List.length_drop]; omega)
  rw [t2] at c2
  have e1 : (left * 3).natAbs = 3 * left.toNat := by omega
  have e2 : ((width - left) * 3).natAbs = 3 * (width - left).toNat := by omega
  have e3 : ((left.toNat : Nat) : Int) = left := by omega
  rw [e1, e2, c1, c2, e3, signs_join (hrr.take _), signs_join (hrr.drop _), List.map_take, List.map_drop]
  rw [Int.sub_zero]
  rfl
end
set_option linter.unusedVariables false
set_option maxRecDepth 100000
set_option maxHeartbeats 4000000
local macro_rules | `(tactic| walk_at "mine range") => `(tactic| first | assumption | (intro k9 hk9; exact (by assumption : ∀ n ∈ _, 0 ≤ n ∧ n < 256) _ (List.mem_of_mem_take hk9)))
local macro_rules | `(tactic| walk_at "truthy ref") => `(tactic| ((rename HexMark => hex9); (try dsimp only); (with_reducible show wpAny _ _ (truthy (Value.ref _)) _ _ _); k_dflt (refine' ba_true ?N ?m ?z ?_ ?_; (case N => k_asm); (case m => k_mem); (case z => (rw [sizeLine_eq]; omega))); intro hne9 k9; (try dsimp only)))
local macro_rules | `(tactic| walk_at "subscriptTail") => `(tactic| ((rename HexMark => hex9); (try dsimp only); (with_reducible show wpAny _ _ (subscriptTail _ (PySem.Expr.Slice none (some _) none _) (Value.ref _) (Value.ref _)) _ _ _); k_dflt (refine' ba_upto (s := ⟨_, _, _, _, _⟩) ?F ?N ?m ?n0 ?z ?_ ?s ?t; (case F => k_asm); (case N => k_asm); (case m => k_mem); (case n0 => omega); (case z => (rw [sizeLine_eq]; (try simp only [List.length_take, List.length_drop]); omega)); (case s => with_unfolding_all rfl); (case t => (intro _; with_unfolding_all rfl))); intro D' h' F' N' l1; (try k_lt l1); (try k_sweep)))
local macro_rules | `(tactic| walk_at "subscriptTail") => `(tactic| ((rename HexMark => hex9); (try dsimp only); (with_reducible show wpAny _ _ (subscriptTail _ (PySem.Expr.Slice (some _) none none _) (Value.ref _) (Value.ref _)) _ _ _); k_dflt (refine' ba_from (s := ⟨_, _, _, _, _⟩) ?F ?N ?m ?n0 ?z ?_ ?s ?t; (case F => k_asm); (case N => k_asm); (case m => k_mem); (case n0 => omega); (case z => (rw [sizeLine_eq]; (try simp only [List.length_take, List.length_drop]); omega)); (case s => with_unfolding_all rfl); (case t => (intro _; with_unfolding_all rfl))); intro D' h' F' N' l1; (try k_lt l1); (try k_sweep)))
local macro_rules | `(tactic| walk_at "eval ListComp") => `(tactic| ((rename HexMark => hex9); (try dsimp only); k_dflt (refine ListComp_G (F₀ := by k_asm) (by with_unfolding_all rfl) (by decide) (by rfl) (by decide) (by rfl) ?_)))
local macro_rules | `(tactic| walk_at "mine bytes") => `(tactic| first | assumption | exact BytesIn.take (by assumption) _ | exact BytesIn.drop (by assumption) _ | exact BytesIn.take (BytesIn.take (by assumption) _) _ | exact BytesIn.drop (BytesIn.take (by assumption) _) _)
local macro_rules | `(tactic| walk_at "SrcG") => `(tactic| ((rename HexMark => hex9); k_dflt (refine' src_pairs (by rfl) ?F ?N ?m ?r ?z (fun s9 k9 t9 I' oI' C' oC' D' m' ys' h' tk' E' hlo' hhi' hC' hx' F' N' off' ne' mk' => ?_) (fun s9 ys9 hS9 => ?_); (case F => k_asm); (case N => k_asm); (case m => k_mem); (case r => walk_at "mine bytes"); (case z => (rw [sizeLine_eq]; (try simp only [List.length_take, List.length_drop]); omega)); (all_goals (try (simp only [LCg.Off3, and_true] at off'))))))
local macro_rules | `(tactic| walk_at "CompEnd") => `(tactic| ((rename HexMark => hex9); k_dflt (refine' comp_end2 ?F ?N ?off ?S ?_; (case F => k_asm); (case N => k_asm); (case off => ((try simp only [LCg.Off3, and_true]); assumption)); (case S => k_mem))))
local macro_rules | `(tactic| walk_at "KCtEl") => `(tactic| ((rename HexMark => hex9); refine kct_el ?kce (by with_unfolding_all rfl) (by with_unfolding_all rfl); (case kce => rfl)))
local macro_rules | `(tactic| walk_at "binaryOp Mod str int") => `(tactic| ((rename HexMark => hex9); k_dflt (refine' mod02x ?X ?h0 ?h1 ?_; (case X => rfl); (case h0 => omega); (case h1 => omega)); intro t9 k9; (try dsimp only); (try k_fold)))
local macro_rules | `(tactic| walk_at "call builtin:str.join") => `(tactic| ((rename HexMark => hex9); (with_reducible show wpAny _ _ (call (Value.builtin "str.join") [Value.str _ _, Value.ref _]) _ _ _); k_dflt (refine' txt_join (B := 2) (K := 16) ?N ?m ?i ?B ?K ?x (by decide) ?_; (case N => k_asm); (case m => k_mem); (case i => with_reducible assumption); (case B => exact pairs_le (by walk_at "mine bytes")); (case K => (simp only [List.length_map, List.length_take, List.length_drop]; omega)); (case x => decide)); intro t9 k9 hj9; (try dsimp only); (try k_fold)))
local macro_rules | `(tactic| walk_at "call builtin:bytearray.translate") => `(tactic| ((rename HexMark => hex9); k_dflt (refine' call_signs ?F ?N ?m ?T ?r ?z ?_; (case F => k_asm); (case N => k_asm); (case m => k_mem); (case T => decide +kernel); (case r => walk_at "mine bytes"); (case z => (rw [sizeLine_eq]; (try simp only [List.length_take, List.length_drop]); omega))); intro D' h' F' N' l1; (try k_lt l1); (try k_sweep)))
local macro_rules | `(tactic| walk_at "call builtin:bytearray.decode") => `(tactic| ((rename HexMark => hex9); k_dflt (refine' call_text ?N ?m ?z ?_; (case N => k_asm); (case m => k_mem); (case z => (rw [sizeLine_eq]; (try simp only [List.length_take, List.length_drop]); omega))); intro t9 k9; (try dsimp only); (try k_fold)))
set_option hygiene false in
local macro_rules | `(tactic| walk_at "mine place") => `(tactic| (have hpl9 := place_lt hk1 hk2 (by assumption) hn0; omega))
local macro_rules | `(tactic| walk_at "mine padded") => `(tactic| exact Nat.le_trans (padR_len _ _) (Nat.max_le.mpr ⟨by omega, by omega⟩))
local macro_rules | `(tactic| walk_at "mine signs") => `(tactic| (rw [signsS_len]; (try simp only [List.length_take, List.length_drop]); omega))
local macro_rules | `(tactic| walk_at "binaryOp Mod str ref") => `(tactic| ((rename HexMark => hex9); k_dflt (refine' modRow ?N ?m ?X ?h0 ?h1 ?hp ?ha ?hb ?hc ?hd ?_; (case N => k_asm); (case m => k_mem); (case X => rfl); (case h0 => omega); (case h1 => walk_at "mine place"); (case hp => omega); (case ha => walk_at "mine padded"); (case hb => walk_at "mine padded"); (case hc => walk_at "mine signs"); (case hd => walk_at "mine signs")); intro t9 k9; (try dsimp only); (try k_fold)))
local macro_rules | `(tactic| walk_at "binaryOp Mod str ref") => `(tactic| ((rename HexMark => hex9); k_dflt (refine' modPad ?N ?m ?X ?h0 ?h1 ?hx ?_; (case N => k_asm); (case m => k_mem); (case X => rfl); (case h0 => omega); (case h1 => omega); (case hx => omega)); intro t9 k9; (try dsimp only); (try k_fold)))
local macro_rules | `(tactic| walk_at "getMethod ref") => `(tactic| ((rename HexMark => hex9); k_dflt (refine' ba_method ?N ?m BF.slot_translate BF.type_translate ?_; (case N => k_asm); (case m => k_mem)); (try dsimp only)))
local macro_rules | `(tactic| walk_at "getMethod ref") => `(tactic| ((rename HexMark => hex9); k_dflt (refine' ba_method ?N ?m BF.slot_decode BF.type_decode ?_; (case N => k_asm); (case m => k_mem)); (try dsimp only)))
local macro_rules | `(tactic| walk_at "callWith builtin:bytearray.translate") => `(tactic| ((rename HexMark => hex9); (with_reducible refine callWith_method1 ?_ ?he ?hp); (case he => k_dflt rfl); (case hp => k_dflt rfl)))
local macro_rules | `(tactic| walk_at "callWith builtin:list.append") => `(tactic| ((rename HexMark => hex9); (with_reducible refine callWith_method1 ?_ ?he ?hp); (case he => k_dflt rfl); (case hp => k_dflt rfl)))
local macro_rules | `(tactic| walk_at "call builtin:list.append") => `(tactic| ((rename HexMark => hex9); (dsimp only [List.cons_append, List.nil_append]); walk_at "call builtin:list.append"))
local macro_rules | `(tactic| walk_at "KswPost") => `(tactic| ((rename HexMark => hex9); dsimp only [KswPost]; refine Hold.out ?_))
theorem next_drop (ns : List Int) {n width : Int} (hn0 : 0 ≤ n) (h0 : 1 ≤ width) : (ns.drop n.toNat).drop width.toNat = ns.drop (n + width).toNat := by
  rw [List.drop_drop]
  congr 1
  omega
theorem getD_in {ns : List Int} (h : BytesIn ns) : ∀ i, 0 ≤ ns.getD i 0 ∧ ns.getD i 0 < 256 := by
  intro i
  rw [List.getD_eq_getElem?_getD]
  by_cases hi : i < ns.length
  · rw [List.getElem?_eq_getElem hi]
    exact h _ (List.getElem_mem hi)
  · rw [List.getElem?_eq_none (by omega)]
    decide
section
variable {prog : Program} {w : World} {A : Around} {E : Value → Shared → Prop} {s : Shared} {h₀ : Heap} {L D a : Addr} {m : Str → Option Value} {big news : List (Addr × Obj)} {us : List Value} {c : Nat} {x : Value} {Q : Value → Shared → Prop}
theorem hex_append {b : Array UInt8} (F : Fr h₀ L s.heap m) (N : News h₀ L s.heap big) (m1 : (a, baOf b) ∈ big) (m2 : (D, listOf us.toArray c) ∈ big) (sub : ∀ p ∈ news, p ∈ big) (hne : @Ne Nat a D) (off : ∀ p ∈ news, p.1 < D) (hz : us.length ≤ sizeLine)
    (h : ∀ h', Fr h₀ L h' m → News h₀ L h' ((a, baOf b) :: (D, listOf (us ++ [x]).toArray (c + 1)) :: news) → Q .none { s with heap := h' }) : wpAny (model prog w) A (call (.builtin "list.append") [.ref D, x]) Q E s := by
  have N2 : News h₀ L s.heap ((a, baOf b) :: (D, listOf us.toArray c) :: news) := fun p hp => by
    rcases List.mem_cons.mp hp with rfl | hp
    · exact N _ m1
    · rcases List.mem_cons.mp hp with rfl | hp
      · exact N _ m2
      · exact N _ (sub p hp)
  refine append_K F N2 (Upd.tail hne (Upd.head fun p hp => Nat.ne_of_lt (off p hp))) (fun h' F' N' => ?_) (by rw [List.size_toArray]; exact hz)
  rw [List.push_toArray] at N'
  exact h h' F' N'
end
set_option hygiene false in
local macro_rules | `(tactic| walk_at "mine inC") => `(tactic| (
  w_top off
  refine wpC_call ?_
  k_dflt (refine' codeC_def (binds := hexBinds) ?k1 ?k2 ?k3 ?k4 ?k5 ?kA ?kF ?kK ?k6 ?k7 ?k8 ?k9 ?kB ?_ ?c2 ?c3 ?c4 ?c5; (case kA => exact rfl); (case kF => exact rfl); (case kK => first | exact rfl | assumption); (case k1 => k_asm); (case k2 => k_asm); (case k3 => k_asm); (case k4 => k_asm); (case k5 => k_asm); (case k6 => k_is); (case k7 => k_is); (case k8 => ktr_room); (case k9 => exact hexBind _ _ _ _ _ rfl (by k_is) (by k_in)); (case c5 => decide); (case kB => exact locs rfl); (case c2 => exact rfl); (case c3 => exact rfl); (case c4 => exact rfl); k_whole; intro g' L' h' FG' F' N' B' X' T'; (try dsimp only); (try k_lift B'))))
theorem hex_claim (w : World) (vs : List Value) (src : Value) (ns : List Int) (width : Int) (head : Str) (ha : HexArgs w vs src width head) (hsrc : (∃ t, src = .bytes (byteArr ns) t) ∨ ∃ l, src = .ref l) (h0 : 1 ≤ width) (h1 : width ≤ 16) (hns : ∀ n ∈ ns, 0 ≤ n ∧ n < 256) (hlen : ns.length ≤ 40) (hhead : head.length ≤ 2) :
    ClaimC w 6 20 (fun _ news => ∀ l, src = .ref l → (l, baOf (byteArr ns)) ∈ news) vs (fun t => .str (dumpS ns width head) t) := by
  unfold ClaimC
  k_fill
  intro p loose mean mg mb dp un cn cs a ccd cl outer A₀ base h₀ L m news s Q E B F X N T hk hneed hd hu hret
  obtain ⟨t1, t2, hexBind⟩ := ha
  let hexBinds : List (Str × Value) := [(Str.ofString "src", src), (Str.ofString "length", .int width t1), (Str.ofString "prefix", .str head t2)]
  walk_at "mine inC"
  replace F' : Fr g' L' h' (fun y => List.lookup y [(Str.ofString "prefix", .str head t2), (Str.ofString "length", .int width t1), (Str.ofString "src", src)]) := F'
  iterate 4 (refine wpC_execs (wpC_any ?_); k_steps; dsimp only)
  rename ∀ p ∈ news, Prod.fst p < _ => hDl
  refine wpC_execs (wpC_Name (wpC_Call ?_))
  k_steps
  refine wpC_callType1 ?_
  k_steps
  have hsz : (byteArr ns).size ≤ sizeLine := by rw [byteArr_size, sizeLine_eq]; omega
  rename Fr _ _ _ _ => lF
  rename News _ _ _ _ => lN
  refine call_ba_src rfl hsrc (fun l e => List.mem_cons_of_mem _ (hneed l e)) lF lN hsz ?_
  intro n' h2 F2 N2 l2
  have hleft0 : 0 ≤ width.fdiv 2 := by rw [Int.fdiv_eq_ediv_of_nonneg _ (by decide)]; omega
  have hleft1 : width.fdiv 2 ≤ width := by rw [Int.fdiv_eq_ediv_of_nonneg _ (by decide)]; omega
  generalize hleft : width.fdiv 2 = left at *
  have l3 := l2
  k_lt l3
  try (k_unfold; try dsimp only)
  first | walk1 | (dsimp only; walk1)
  dsimp only
  refine wpC_execs (wpC_any ?_)
  rename Fr _ _ _ _ => lF'
  rename News _ _ _ _ => lN'
  refine hex_loop [Str.ofString "s", Str.ofString "l", Str.ofString "r", Str.ofString "hexa", Str.ofString "hexb", Str.ofString "lf", Str.ofString "rf"] (fun vs n ks => ∃ k : Nat, n = (k : Int) * width ∧ ks = ns.drop ((k : Int) * width).toNat ∧ StrsAre vs (linesS ns width left head k) ∧ (k = 0 ∨ (k : Int) * width - width < ns.length)) (fun ks => ks.length) lF' lN' l2 (by rfl) (by rfl) ⟨0, by simp, by simp, StrsAre.nil, .inl rfl⟩ ?_
  try clear lF' lN'
  rintro us c' n tn b9 ks u h tk ⟨k, hk1, hk2, hk3, hk4⟩ hb1 hb2 F N
  have kMark := kstMark
  have hMark := hexMark
  have hn0 : 0 ≤ n := by rw [hk1]; exact Int.mul_nonneg (by omega) (by omega)
  have hks : ks.length ≤ 40 := by rw [hk2, List.length_drop]; omega
  have hkr : BytesIn ks := by intro x hx; rw [hk2] at hx; exact hns x (List.mem_of_mem_drop hx)
  have hk40 : (k : Int) ≤ ns.length := by
    rcases hk4 with e | e
    · omega
    · exact rows_le h0 (by omega) e (by omega)
  have hus : us.length = k := by have e := hk3.length; simpa [linesS] using e
  have hb3 := hb1
  have hb4 := allLt_of hb3
  k_steps
  · rename ks ≠ [] => hne9
    rename _ ∧ _ ∧ _ ∧ AllLt _ news => hla
    dsimp only [List.cons_append, List.nil_append]
    rename Fr _ _ _ _ => lF'
    rename News _ _ _ _ => lN'
    refine hex_append (b := byteArr (ks.drop width.toNat)) (us := us) (c := c') (news := news) lF' lN' (by k_mem) (by k_mem) (by intro p hp; kst_mem) (by omega) hDl (by rw [hus, sizeLine_eq]; omega) ?_
    clear lF' lN'
    intro h3 F3 N3
    k_steps
    show KswEnd _ _ _ _ _ _ _ _ _ _ _ _
    rename News _ _ _ _ => nE'
    refine' ksw_end ⟨us ++ [Value.str _ _], c' + 1, n + width, _, _, ks.drop width.toNat⟩ (by assumption) nE' (fun p hp => hp) ⟨fun p hp => kst_ltOf hla.2.2.2 p hp, hla.2.2.1⟩ ?hk ?hr ?hp ?hm
    case hk =>
      intro p hp
      rcases List.mem_cons.mp hp with rfl | hp
      · rfl
      · rcases List.mem_singleton.mp hp with rfl
        rfl
    case hr =>
      intro z h2 h3
      have h4 : z ≠ Str.ofString "n" := h2 _ (List.mem_cons_self ..)
      have h5 : z ≠ Str.ofString "src" := h2 _ (List.mem_cons_of_mem _ (List.mem_singleton.mpr rfl))
      simp only [List.contains_cons, List.contains_nil, Bool.or_false, Bool.or_eq_false_iff, beq_eq_false_iff_ne, ne_eq] at h3
      simp [h3, h4, h5, kstB]
    case hp =>
      refine ⟨k + 1, ?_, ?_, linesS_push hk3 _ ?_, .inr ?_⟩
      · rw [Int.natCast_add, Int.add_mul, ← hk1]; simp
      · have en : ((k + 1 : Nat) : Int) * width = n + width := by rw [Int.natCast_add, Int.add_mul, ← hk1]; simp
        rw [en]
        show List.drop width.toNat ks = _
        rw [hk2, ← hk1]
        exact next_drop ns hn0 h0
      · show _ = lineS ns width left head ((k : Int) * width)
        rw [← hk1]
        exact row_eq h0 hleft0 hleft1 hkr hn0 (by rw [hk2, hk1])
      · have hpl := place_lt hk1 hk2 hne9 hn0
        have en : ((k + 1 : Nat) : Int) * width = n + width := by rw [Int.natCast_add, Int.add_mul, ← hk1]; simp
        rw [en, Int.add_sub_cancel]
        exact hpl
    case hm =>
      have hpos : 0 < ks.length := List.length_pos_iff.mpr hne9
      dsimp only
      rw [List.length_drop]
      omega
  · refine wpC_any ?_
    k_steps
    have hnl : (ns.length : Int) ≤ (k : Int) * width := by
      have hz : (ns.drop ((k : Int) * width).toNat).length = 0 := by rw [← hk2]; rw [show ks = [] by assumption]; rfl
      rw [List.length_drop] at hz
      omega
    have hk9 := rowsN_eq h0 hnl hk4
    have e9 : dumpS ns width head = Txt.join (Str.ofString "\n") (linesS ns width left head k) := by rw [dumpS, hleft, ← hk9]
    rw [e9] at hret
    rename Fr _ _ _ _ => lF'
    rename News _ _ _ _ => lN'
    refine txt_join (B := 400) (K := 41) lN' (by k_mem) hk3 ?hB ?hK ?x (by decide) ?_
    case hB => exact linesS_le (getD_in hns) hlen h0 h1 hleft0 hleft1 hhead (by omega)
    case hK => unfold linesS; rw [List.length_map, List.length_range]; omega
    case x => decide
    intro t9 k9 hj9
    k_steps
    exact hret _ _ _ (by k_asm) (cb_drop (by assumption) (by kcj_all))
set_option linter.unusedVariables false
set_option maxRecDepth 100000
set_option maxHeartbeats 4000000
structure BinMark (n : Int) : Prop where
  mark :: (one : True)
theorem binMark (n : Int) : BinMark n := ⟨trivial⟩
def figS (n k : Int) : Str := Str.ofString (toString ((n.fdiv (2 ^ k.toNat)).fmod 2))
def downKs (c : Int) (n : Nat) : List Int := (List.range n).map fun (i : Nat) => c + (i : Int) * (-1)
theorem src_figs {prog : Program} {w : World} {A : Around} {h₀ : Heap} {L : Addr} {m : Str → Option Value} {env : Env} {elt : Expr} {x : Str} {scope : Scope} {cl : List (Str × Addr)} {Fin : Shared → List Value → List (Addr × Obj) → Prop} {r : Addr} {s₁ : Shared} {news : List (Addr × Obj)} {c n : Int} {nn : Nat} {t u v : Tok} (mk : BinMark n)
    (hh : A.handled = none) (F : Fr h₀ L s₁.heap m) (N : News h₀ L s₁.heap news) (hr : IsRange s₁.heap r c (-1) (-1) t u v) (hsm : Builtin.Range.small c (-1) (-1) = true) (hn : Builtin.Range.rangeSize c (-1) (-1) = ((nn : Nat) : Int)) (hcn : c + 1 = nn) (hsz : nn ≤ sizeLine)
    (turn : ∀ s' (k : Int) t I oI C oC D m₂ ys h tk (E' : Value → Shared → Prop), 0 ≤ k → k < nn → LCg.NsObj oC m₂ → m₂ x = some (.int k t) → Fr h₀ L h m → News h₀ L h ((I, oI) :: (C, oC) :: (D, LCg.lst ys) :: news) → LCg.Off3 I C D news → ((@Ne Nat I C) ∧ (@Ne Nat I D) ∧ (@Ne Nat C D)) → KPfMark →
      wpAny (model prog w) A (eval elt (compEnvC scope cl C env)) (LCg.CompEnd h₀ L m { { s₁ with heap := s' } with heap := h, toks := tk } I oI C oC D (LCg.lst ys) (fun _ => True) (fun y news' => KCtEl news (figS n k) y news')) E' { { s₁ with heap := s' } with heap := h, toks := tk })
    (fin : ∀ s' ys, StrsAre ys (figs n nn).reverse → Fin { s₁ with heap := s' } ys news) : SrcG prog w A h₀ L m env elt x scope cl Fin (.ref r) s₁ := by
  have hl : (downKs c nn).length = nn := by simp [downKs]
  have it : Iters prog w A h₀ L m (.ref r) s₁ (downKs c nn).length (fun i v => ∃ t, v = .int (c + i * (-1)) t) (fun _ => True) news := by
    rw [hl]; exact iters_down hh F N hr hsm hn
  refine src_texts (figS n) it (by rw [hl]; exact hsz) trivial (fun i v hi hv => ?_) (fun s' k t I oI C oC D m₂ ys h tk E' hk => ?_) fun s' ys hc => fin s' ys ?_
  · obtain ⟨t, rfl⟩ := hv
    rw [hl] at hi
    exact ⟨_, t, by simp [downKs, hi], rfl⟩
  · obtain ⟨i, hi, rfl⟩ := List.mem_map.mp hk
    rw [List.mem_range] at hi
    exact turn s' _ t I oI C oC D m₂ ys h tk E' (by omega) (by omega)
  · have e := signs_carried2 hc
    have e2 : (downKs c nn).map (figS n) = (figs n nn).reverse := by
      refine List.ext_getElem (by simp [downKs, figs]) fun i h1 h2 => ?_
      have hi : i < nn := by simpa [downKs] using h1
      have ek : (c + -(i : Int)).toNat = nn - 1 - i := by omega
      simp only [downKs, figs, figS, List.map_map, List.getElem_map, List.getElem_range, List.getElem_reverse, List.length_map, List.length_range, Function.comp, Int.mul_neg, Int.mul_one, ek]
    rw [e2] at e
    exact e
local macro_rules | `(tactic| walk_at "exec Assign cons ListComp") => `(tactic| ((rename BinMark _ => bin9); k_dflt (refine Assign_ListComp_G (F₀ := by k_asm) (by rfl) (by with_unfolding_all rfl) (by with_unfolding_all rfl) (by decide) (by rfl) (by decide) (by rfl) (by rfl) (by rfl) ?_)))
local macro_rules | `(tactic| walk_at "SrcG") => `(tactic| ((rename BinMark _ => bin9); (rename IsRange _ _ _ _ _ _ _ _ => rgX); k_dflt (refine' src_figs bin9 (by rfl) ?F ?N rgX (small_down (by omega) (by omega) (by omega) (by omega)) (rangeSize_downNat _ _) (by omega) ?z (fun s9 k9 t9 I' oI' C' oC' D' m' ys' h' tk' E' hlo' hhi' hC' hx' F' N' off' ne' mk' => ?_) (fun s9 ys9 hS9 => ?_); (case F => k_asm); (case N => k_asm); (case z => (rw [sizeLine_eq]; omega)); (all_goals (try (simp only [LCg.Off3, and_true] at off'))))))
local macro_rules | `(tactic| walk_at "CompEnd") => `(tactic| ((rename BinMark _ => bin9); k_dflt (refine' comp_end2 ?F ?N ?off ?S ?_; (case F => k_asm); (case N => k_asm); (case off => ((try simp only [LCg.Off3, and_true]); assumption)); (case S => exact trivial))))
local macro_rules | `(tactic| walk_at "KCtEl") => `(tactic| ((rename BinMark _ => bin9); refine kct_el ?kce (by with_unfolding_all rfl) (by with_unfolding_all rfl); (case kce => rfl)))
theorem bit_mod (x : Int) : Builtin.bitAnd x 1 = x.fmod 2 := by rw [bitAnd_m1, Int.fmod_eq_emod_of_nonneg _ (by decide)]
theorem fig_len (n k : Int) : (figS n k).length = 1 := by
  unfold figS
  have h : (n.fdiv (2 ^ k.toNat)).fmod 2 = 0 ∨ (n.fdiv (2 ^ k.toNat)).fmod 2 = 1 := by rw [Int.fmod_eq_emod_of_nonneg _ (by decide)]; omega
  rcases h with h | h <;> rw [h] <;> decide +kernel
theorem figs_one {n : Int} {k : Nat} : ∀ y ∈ figs n k, y.length ≤ 1 := fun y hy => by
  obtain ⟨i, _, rfl⟩ := List.mem_map.mp hy
  have e := fig_len n (i : Int)
  unfold figS at e
  rw [Int.toNat_natCast] at e
  exact Nat.le_of_eq e
theorem figs_one_rev {n : Int} {k : Nat} : ∀ y ∈ (figs n k).reverse, y.length ≤ 1 := fun y hy => figs_one y (List.mem_reverse.mp hy)
theorem figs_len (n : Int) (k : Nat) : (figs n k).length = k := by simp [figs]
theorem strs_reverse : ∀ {vs : List Value} {xs : List Str}, StrsAre vs xs → StrsAre vs.reverse xs.reverse
  | _, _, .nil => .nil
  | _, _, .cons y t r => by
    rw [List.reverse_cons, List.reverse_cons]
    exact (strs_reverse r).append' (.cons y t .nil)
theorem off1_mem {D : Addr} : ∀ {l : List (Addr × Obj)}, LCg.Off1 D l → ∀ p ∈ l, p.1 ≠ D
  | [], _, _, h => nomatch h
  | _ :: _, x, p, h => by
    rcases List.mem_cons.mp h with rfl | h
    · exact x.1
    · exact off1_mem x.2 p h
theorem bin_reverse {prog : Program} {w : World} {A : Around} {E : Value → Shared → Prop} {s : Shared} {h₀ : Heap} {L D : Addr} {m : Str → Option Value} {rest : List (Addr × Obj)} {ys : List Value} {xs : List Str} {Q : Value → Shared → Prop}
    (F : Fr h₀ L s.heap m) (N : News h₀ L s.heap ((D, LCg.lst ys) :: rest)) (off : LCg.Off1 D rest) (hS : StrsAre ys xs) (hz : xs.length ≤ sizeLine)
    (h : ∀ ws h', Fr h₀ L h' m → News h₀ L h' ((D, LCg.lst ws) :: rest) → StrsAre ws xs.reverse → Q .none { s with heap := h' }) : wpAny (model prog w) A (call (.builtin "list.reverse") [.ref D]) Q E s :=
  reverse_head F N (off1_mem off) (fun h' F' N' => h ys.reverse h' F' (by simpa [LCg.lst] using N') (strs_reverse hS)) (by rw [List.size_toArray, hS.length]; exact hz)
local macro_rules | `(tactic| walk_at "call type:str") => `(tactic| ((rename BinMark _ => bin9); rw [bit_mod]))
local macro_rules | `(tactic| walk_at "call builtin:list.reverse") => `(tactic| ((rename BinMark _ => bin9); dsimp only; (rename StrsAre _ _ => hS9); (rename _ ∧ LCg.Off1 _ _ => ho9); k_dflt (refine' bin_reverse ?F ?N ?o ?S ?z ?_; (case F => k_asm); (case N => k_asm); (case o => exact ho9); (case S => exact hS9); (case z => (rw [List.length_reverse, figs_len, sizeLine_eq]; omega))); intro ws9 h9 F9 N9 hS8; (try rw [List.reverse_reverse] at hS8); (try dsimp only)))
local macro_rules | `(tactic| walk_at "call builtin:str.join") => `(tactic| ((rename BinMark _ => bin9); (with_reducible show wpAny _ _ (call (Value.builtin "str.join") [Value.str _ _, Value.ref _]) _ _ _); (rename StrsAre _ _ => hS9); k_dflt (refine' txt_join (B := 1) (K := 64) ?N ?m hS9 ?B ?K ?x (by decide) ?_; (case N => k_asm); (case m => k_mem); (case B => first | exact figs_one | exact figs_one_rev); (case K => ((try rw [List.length_reverse]); rw [figs_len]; omega)); (case x => decide)); intro t9 k9 hj9; (try dsimp only); (try k_fold)))
theorem binary_claim (w : World) (n count : Int) (rv : Bool) (t1 t2 : Tok) (h0 : 0 ≤ count) (h1 : count < 40) :
    Claim w 4 42 (fun _ _ => True) [.int n t1, .int count t2, .bool rv] (fun t => .str (Txt.join (Str.ofString "") (if rv then figs n count.toNat else (figs n count.toNat).reverse)) t) := by
  unfold Claim
  k_fill
  intro p loose mean mg mb dp un gd cn cs a ccd cl outer A₀ base h₀ L m news s Q E B F X N T hk hneed hd hu hret
  have bMark := binMark n
  walk_at "mine in"
  replace F' : Fr g' L' h' (fun y => if y = Str.ofString "reverse" then some (.bool rv) else (fun y => if y = Str.ofString "count" then some (.int count t2) else none) y) := by with_unfolding_all exact F'
  k_steps
  · rename rv = true => hrv
    subst hrv
    rw [if_pos rfl] at hret
    rw [show count - 1 - -1 = count by omega]
    exact hret _ _ _ (by k_asm) (cb_drop (by assumption) (by kcj_all))
  · rename rv = false => hrv
    subst hrv
    rw [if_neg (by decide)] at hret
    rw [show count - 1 - -1 = count by omega]
    exact hret _ _ _ (by k_asm) (cb_drop (by assumption) (by kcj_all))
theorem binary_claim2 (w : World) (n count : Int) (t1 t2 : Tok) (h0 : 0 ≤ count) (h1 : count < 40) :
    Claim w 4 42 (fun _ _ => True) [.int n t1, .int count t2] (fun t => .str (Txt.join (Str.ofString "") (figs n count.toNat).reverse) t) := by
  unfold Claim
  k_fill
  intro p loose mean mg mb dp un gd cn cs a ccd cl outer A₀ base h₀ L m news s Q E B F X N T hk hneed hd hu hret
  have bMark := binMark n
  walk_at "mine in"
  replace F' : Fr g' L' h' (fun y => if y = Str.ofString "reverse" then some (.bool false) else (fun y => if y = Str.ofString "count" then some (.int count t2) else none) y) := by with_unfolding_all exact F'
  k_steps
  rw [show count - 1 - -1 = count by omega]
  exact hret _ _ _ (by k_asm) (cb_drop (by assumption) (by kcj_all))
theorem binary_claim1 (w : World) (n : Int) (t1 : Tok) :
    Claim w 4 42 (fun _ _ => True) [.int n t1] (fun t => .str (Txt.join (Str.ofString "") (figs n 16).reverse) t) := by
  unfold Claim
  k_fill
  intro p loose mean mg mb dp un gd cn cs a ccd cl outer A₀ base h₀ L m news s Q E B F X N T hk hneed hd hu hret
  have bMark := binMark n
  walk_at "mine in"
  k_steps
  exact hret _ _ _ (by k_asm) (cb_drop (by assumption) (by kcj_all))
section
set_option linter.unusedVariables false
set_option maxRecDepth 100000
set_option maxHeartbeats 1000000
open Builtin
theorem ints_of : ∀ {ks : List Int} {vs : List Value}, vs.length = ks.length → (∀ (j : Nat) (v : Value), vs[j]? = some v → ∃ k u, ks[j]? = some k ∧ v = .int k u) → IntsAre vs ks
  | [], [], _, _ => .nil
  | k :: ks, v :: vs, hl, h => by
    obtain ⟨k', u, e1, e2⟩ := h 0 v rfl
    have e : k = k' := by simpa using e1
    subst e
    rw [e2]
    exact .cons k u (ints_of (by simpa using hl) fun j x hx => h (j + 1) x (by simpa using hx))
section
variable {prog : Program} {w : World} {A : Around} {E : Value → Shared → Prop} {s : Shared} {l : Addr} {ks : List Int}
theorem hint_ba {b : Array UInt8} {Q : Bool → Shared → Prop} (hb : s.heap.get? l = some (baOf b)) (h : Q false s) : wpAny (model prog w) A (Builtin.List.listLengthHint (.ref l)) Q E s := by
  have hT := ba_type s hb
  unfold Builtin.List.listLengthHint
  refine wpAny_bind (wpAny_specialOf hT BF.slot_len.lookup ?_)
  generalize hid : ("bytearray.__len__" : String) = id0
  wp_delta
  rw [show splitId id0 = some ("bytearray", "__len__") from by subst hid; decide +kernel]
  subst hid
  refine wpAny_bind (wpAny_isInstance hT BF.sub_self ?_)
  refine wpAny_ite_split (fun hab => absurd hab (by decide)) (fun _ => ?_)
  refine wpAny_ite_split (fun _ => ?_) (fun hab => absurd (by decide +kernel) hab)
  refine wpAny_bind (wpAny_typeOf hT ?_)
  exact wpAny_pure h
theorem extend_ba {R : Result → Shared → Prop} (hh : A.handled = none) (hb : s.heap.get? l = some (baOf (byteArr ks))) (hr : BytesIn ks) (hlen : ks.length ≤ 1000) (S : Addr) (res : Value) (c₀ : Nat) (hS : s.heap.get? S = some { cls := .type "list", data := .seq #[] c₀ })
    (hR : ∀ h' tk acc' c', (∀ b o, b ≠ S → s.heap.get? b = some o → h'.get? b = some o) → h'.get? S = some { cls := .type "list", dict := none, data := .seq acc' c', slots := #[] } →
      ItemsOf (fun i v => ∃ k u, ks[i]? = some k ∧ v = .int k u) acc' ks.length → R (.ok (.ret res)) { s with heap := h', toks := tk }) :
    wpAny (model prog w) A.in1 (Builtin.List.listExtendWith (.ref S) (.ref l) res)
      (fun fin s' => match fin with | .done f => R (.ok f) s' | .again c' => c'.quiet = true ∧ codeAny (model prog w) A c' R s') (fun e s' => R (.error e) s') s := by
  have hT := ba_type s hb
  have hSl : S ≠ l := fun e => by rw [e, hb] at hS; simp at hS
  have hSlt : S < s.heap.objs.size := Heap.lt_size hS
  have hllt : l < s.heap.objs.size := Heap.lt_size hb
  have hSI : S ≠ s.heap.objs.size := Nat.ne_of_lt hSlt
  have hSf : S ∉ [s.heap.objs.size, l] := fun hm => by
    rcases List.mem_cons.mp hm with e | hm
    · exact hSI e
    · exact hSl (List.mem_singleton.mp hm)
  have W := (ba_walks (prog := prog) (w := w) (A := A.in1) hh s.heap.objs.size l (Nat.ne_of_lt hllt) ks hr).toS
  unfold Builtin.List.listExtendWith
  refine wpAny_bind (wpAny_typeOf hT ?_)
  have h1 : Builtin.List.listSameRef (.ref S) (.ref l) = false := by simp [Builtin.List.listSameRef, hSl]
  have h2 : (Value.type "bytearray" == Value.type "list") = false := by decide
  have h3 : (Value.type "bytearray" == Value.type "tuple") = false := by decide
  simp only [h1, h2, h3, Bool.or_false, Bool.false_eq_true, if_false]
  refine wpAny_bind (iter_ba hb ?_)
  have hb₁ := Heap.get?_push_of_some { cls := .type "bytearray_iterator", data := .fields #[.ref l, .int 0 0] } hb
  have hS₁ := Heap.get?_push_of_some { cls := .type "bytearray_iterator", data := .fields #[.ref l, .int 0 0] } hS
  refine wpAny_bind (wpAny_holding (hint_ba hb₁ ?_))
  refine wpAny_ite_split (fun hab => absurd hab (by decide +kernel)) (fun _ => ?_)
  refine wpAny_pure ⟨plainId_quiet F.plain_extend_loop _, ?_⟩
  refine codeAny_extend_loopS W (by rw [sizeLine_eq]; omega) S hSf res ks.length 0 _ #[] c₀ rfl (Nat.zero_le _) ⟨⟨_, Heap.get?_push_size _ rfl, rfl, rfl⟩, hb₁⟩ hS₁ (ItemsOf.nil _) fun s' acc' c' hm hS' hacc => ?_
  rw [Moved.eq_with hm]
  refine hR s'.heap s'.toks acc' c' (fun b o hb' e => hm.heap b o (fun hmem => ?_) (Heap.get?_push_of_some _ e)) hS' hacc
  rcases List.mem_cons.mp hmem with e' | hmem
  · exact hb' e'
  · exact absurd (Heap.lt_size e) (by rw [List.mem_singleton.mp hmem]; exact Nat.lt_irrefl _)
theorem list_init_ba {R : Result → Shared → Prop} (hh : A.handled = none) (hb : s.heap.get? l = some (baOf (byteArr ks))) (hr : BytesIn ks) (hlen : ks.length ≤ 1000) (S : Addr) (hS : s.heap.get? S = some { cls := .type "list", data := .seq #[] })
    (hR : ∀ h' tk acc' c', (∀ b o, b ≠ S → s.heap.get? b = some o → h'.get? b = some o) → h'.get? S = some { cls := .type "list", dict := none, data := .seq acc' c', slots := #[] } →
      ItemsOf (fun i v => ∃ k u, ks[i]? = some k ∧ v = .int k u) acc' ks.length → R (.ok (.ret .none)) { s with heap := h', toks := tk }) :
    wpAny (model prog w) A.in1 (Builtin.«list.__init__» ⟨[.ref S, .ref l], []⟩)
      (fun fin s' => match fin with | .done f => R (.ok f) s' | .again c' => c'.quiet = true ∧ codeAny (model prog w) A c' R s') (fun e s' => R (.error e) s') s := by
  have hSl : S ≠ l := fun e => by rw [e, hb] at hS; simp at hS
  unfold Builtin.«list.__init__»
  dsimp only
  refine wpAny_bind ?_
  unfold Builtin.List.listItems
  refine wpAny_bind (wpAny_seqItems hS rfl (wpAny_pure ?_))
  refine wpAny_bind ?_
  show wpAny _ _ (updateSeq S (fun _ => #[])) _ _ s
  refine wpAny_updateSeq hS rfl ?_
  have hS₂ := Heap.get?_update_self (Obj.mapSeq (fun _ => (#[] : Array Value))) hS rfl
  have oth : ∀ b o, b ≠ S → s.heap.get? b = some o → (s.heap.update S (Obj.mapSeq (fun _ => (#[] : Array Value)))).get? b = some o :=
    fun b o hb e => (Heap.get?_update_other _ _ (Ne.symm hb)).trans e
  refine wpAny_bind (wpAny_letGo ?_)
  refine extend_ba hh (oth l _ (Ne.symm hSl) hb) hr hlen S .none _ hS₂ fun h' tk acc' c' hk hS' hacc => ?_
  exact hR h' tk acc' c' (fun b o hb e => hk b o hb (oth b o hb e)) hS' hacc
/-- list(bytearray), on the ledger -/
theorem list_ba {h₀ : Heap} {L : Addr} {m : Str → Option Value} {news : List (Addr × Obj)} {Q : Value → Shared → Prop} (hh : A.handled = none) (F₀ : Fr h₀ L s.heap m) (N : News h₀ L s.heap news) (hm : (l, baOf (byteArr ks)) ∈ news) (hr : BytesIn ks) (hlen : ks.length ≤ 1000)
    (hQ : ∀ D ws c h' tk', Fr h₀ L h' m → News h₀ L h' ((D, listOf (List.toArray ws) c) :: news) → (∀ p ∈ news, p.1 < D) → IntsAre ws ks → Q (.ref D) { s with heap := h', toks := tk' }) :
    wpAny (model prog w) A (call (.type "list") [.ref l]) Q E s := by
  have hb := (N _ hm).1
  refine callType_codes (Q₁ := fun obj s₁ => obj = .ref s.heap.objs.size ∧ s₁ = { s with heap := s.heap.push { cls := .type "list", data := .seq #[] } }) F.called_list (F.typeCall_list_1 _) F.entry_list_init
    (code_list_new _ ⟨rfl, rfl⟩) fun obj s₁ h₁ => ?_
  obtain ⟨rfl, rfl⟩ := h₁
  have hS : (s.heap.push { cls := .type "list", data := .seq #[] }).get? s.heap.objs.size = some { cls := .type "list", data := .seq #[] } := Heap.get?_push_size _ rfl
  refine ⟨⟨_, hS, rfl⟩, F.args_list_init_2 _ _, list_init_ba (A := A.in1) hh (Heap.get?_push_of_some _ hb) hr hlen _ hS fun h' tk acc' c' hk hS' hacc => ?_⟩
  have keep : ∀ b o, s.heap.get? b = some o → h'.get? b = some o := fun b o e => hk b o (Nat.ne_of_lt (Heap.lt_size e)) (Heap.get?_push_of_some _ e)
  refine ⟨rfl, hQ s.heap.objs.size acc'.toList c' h' tk (F₀.keeps keep) (fun p hp => ?_) (fun p hp => Heap.lt_size (N p hp).1) (ints_of (by simpa using hacc.1) fun j v hv => hacc.2 j v (by simpa using hv))⟩
  have N₁ := N.push F₀ { cls := .type "list", data := .seq #[] }
  rcases List.mem_cons.mp hp with rfl | hp
  · exact ⟨by simpa using hS', (N₁ _ (List.mem_cons_self ..)).2⟩
  · exact ⟨keep _ _ (N p hp).1, (N p hp).2⟩
end
theorem ne_same {prog : Program} {w : World} {A : Around} {E : Value → Shared → Prop} {s : Shared} {x y : Str} {t u : Tok} {Q : Value → Shared → Prop} (e : x = y) (h : Q (.bool false) s) : wpAny (model prog w) A (compareOp .NotEq (.str x t) (.str y u)) Q E s := by
  subst e
  exact ne_str (by simpa using h)
theorem ne_int_same {prog : Program} {w : World} {A : Around} {E : Value → Shared → Prop} {s : Shared} {x y : Int} {t u : Tok} {Q : Value → Shared → Prop} (e : x = y) (h : Q (.bool false) s) : wpAny (model prog w) A (compareOp .NotEq (.int x t) (.int y u)) Q E s := by
  subst e
  exact ne_int (by simpa using h)
theorem eq_int_same {prog : Program} {w : World} {A : Around} {E : Value → Shared → Prop} {s : Shared} {x y : Int} {t u : Tok} {Q : Value → Shared → Prop} (e : x = y) (h : Q (.bool true) s) : wpAny (model prog w) A (compareOp .Eq (.int x t) (.int y u)) Q E s := by
  subst e
  exact eq_int (by simpa using h)
end
section
set_option linter.unusedVariables false
set_option maxRecDepth 100000
set_option maxHeartbeats 1000000
/-- what one code's contract says of another holds of the ends themselves -/
theorem ends_of (p : Program) (w : World) {R R' : Result → Shared → Prop} (h : ∀ (M : Model) (A : Around) (cd : Code) (s : Shared), codeAny M A cd R s → codeAny M A cd R' s) (r : Result) (s : Shared) (hr : R r s) : R' r s := by
  let M : Model := ⟨fun _ => match r with | .ok f => pure (.done f) | .error e => throw e, p, w⟩
  let cd : Code := .builtin "claim.caller" {}
  have k : codeAny M {} cd R s := by
    refine codeAny_of_tree ?_
    cases r with
    | ok f => exact wpAny_pure hr
    | error e => exact wpAny_throw hr
  have q := h M {} cd s k ⟨cd, none, none, [], none⟩ default rfl ⟨rfl, Nat.le_refl _, (fun l hl => by cases hl), (fun l hl => by cases hl), Nat.zero_le _⟩
  rw [wpCode_iff_wp] at q
  cases r with
  | ok f => exact q
  | error e => exact q
theorem kn_postC {M : Model} {A : Around} {cd : Code} {s s₁ : Shared} {cw : ClaimW} {cl : Str → Option Addr} {mean : ExcName → Option Value} {args : List WData} {tabs : List (Addr × Addr)} (hT : TabsAt tabs s₁.heap) (hr : ∀ a x, cw.raises a x = false)
    (h : codeC M A cd (fun r s' => GoodW cw cl mean args { s₁ with heap := ghostOf s₁.heap tabs } r s' ∧ GrownAll tabs s'.heap) s) : codeC M A cd (GoodWG cw cl mean args s₁) s :=
  codeC_mono h (ends_of M.prog M.w fun _ _ _ _ k => kn_post hT hr k)
theorem enterC {M : Model} {A : Around} {s : Shared} {f : Value} {pos : List Value} {kw : List (Str × Value)} {c : ClaimW} {cl : Str → Option Addr} {mean : ExcName → Option Value} {args : List WData} {s₁ : Shared}
    (h : codeC M A (.call f ⟨pos, kw⟩) (GoodWG c cl mean args s₁) s) : wpC M A (PySem.call f pos kw) (fun v s' => GoodWG c cl mean args s₁ (.ok (.ret v)) s') (fun e s' => GoodWG c cl mean args s₁ (.error e) s') s :=
  wpC_call (codeC_mono h fun res s' g => by rcases g.1 with ⟨v, _, _, rfl, _⟩ | ⟨e, _, _, rfl, _⟩ <;> exact g)
section
variable {M : Model} {A : Around} {E : Value → Shared → Prop} {s : Shared} {env : Env}
/-- one statement, then all that may follow it, by what holds between -/
theorem wpC_cut {st : Stmt} {rest : List Stmt} {Q : Flow → Shared → Prop} (P : Shared → Prop) (h1 : wpC M A (exec st env) (fun f s' => f = .next ∧ P s') E s) (h2 : ∀ s', P s' → wpC M A (execs rest env) Q E s') : wpC M A (execs (st :: rest) env) Q E s :=
  wpC_execs (wpC_mono h1 (fun f s' h => by obtain ⟨rfl, h⟩ := h; exact h2 s' h) fun _ _ x => x)
end
end
section
set_option linter.unusedVariables false
set_option maxRecDepth 100000
set_option maxHeartbeats 1000000
abbrev Big (d : Int) : Prop := Builtin.Int.intBits d ≤ 1048590
section
variable {w : World} {p : Program} {loose : List Str} {mean : ExcName → Option Value} {mg mb : Str → Option Value} {dp un : Nat} {gd : Option (List Code)} {cn : Str} {cs : Scope} {a : Addr} {ccd : Value} {cl : List (Str × Addr)} {outer : List Env} {A₀ : Around} {base h₀ : Heap} {L : Addr} {m : Str → Option Value} {news : List (Addr × Obj)} {s : Shared} {Q E : Value → Shared → Prop}
theorem number_big {ns : List Int} {place : Int} (hlay : PyData.layable0 (.list (ns.map .int)) = true) (h0 : 0 ≤ place) (h1 : place < 16) : Big ((if ns = [] then 0 else ns.getD (place.fmod ns.length).toNat 0) + 7 * place) := by
  have b1 : Builtin.Int.intBits (if ns = [] then (0 : Int) else ns.getD (place.fmod ns.length).toNat 0) ≤ 2 ^ 20 := by
    split
    · exact intBits_le_iff.mpr (by exact Nat.pow_pos (by decide))
    · exact bits_getD hlay
  have b2 : Builtin.Int.intBits (7 * place) ≤ 64 := intBits_le_iff.mpr (by omega)
  have b3 := bits_add b1 b2
  have e : (2 : Nat) ^ 20 = 1048576 := rfl
  show _ ≤ _
  omega
theorem number_use {l : Addr} {vs : List Value} {ns : List Int} {place : Int} {tk : Tok} (hl : base.IsList l vs.toArray) (hi : IntsAre vs ns) (hlen : ns.length < 2 ^ 62) (hlay : PyData.layable0 (.list (ns.map .int)) = true) (h0 : 0 ≤ place) (h1 : place < 16)
    (B : Below A₀ base outer h₀) (F : Fr h₀ L s.heap m) (X : (hd.heap_39 w.params).In h₀) (N : News h₀ L s.heap news) (T : Top p loose mean mg mb h₀) (hk : cs.kind = .function) (hd : dp + 2 < recursionLimit) (hu : un + 8 * 2 < cLine)
    (ret : ∀ t h' tk' d, Big d → Fr h₀ L h' m → News h₀ L h' news → Q (.int d t) { s with heap := h', toks := tk' }) :
    wpAny (model PySem.Challenge.rw_aa6002_01.row.prog w) (ktrTop dp un gd cn cs L a ccd cl outer) (call (.ref 70) [.ref l, .int place tk]) Q E s :=
  Claim.use (number_claim w l vs ns place tk h0 h1) B F X N T hk ⟨hl, hi, hlen⟩ hd hu fun t h' tk' F N => ret t h' tk' _ (number_big hlay h0 h1) F N
end
end
section
set_option linter.unusedVariables false
set_option maxRecDepth 100000
set_option maxHeartbeats 1000000
/-- the mark of the law's own walk -/
structure LawMark : Prop where
  mark :: (one : True)
theorem lawMark : LawMark := ⟨trivial⟩
section
variable {prog : Program} {w : World} {A : Around} {E : Value → Shared → Prop} {s : Shared} {h₀ : Heap} {L l : Addr} {m : Str → Option Value} {news : List (Addr × Obj)} {value slice : PySem.Expr} {vs : List Value} {xs : List Str} {ns : List Int} {c : Nat} {k : Int} {u : Tok} {Q : Value → Shared → Prop}
/-- an item of a made list of short texts, whichever it is -/
theorem txt_item (N : News h₀ L s.heap news) (hm : (l, listOf vs.toArray c) ∈ news) (hi : StrsAre vs xs) (hB : ∀ x ∈ xs, x.length ≤ 2) (h0 : 0 ≤ k) (h1 : k < xs.length) (hz : xs.length ≤ 1000) (h : ∀ x t, x.length ≤ 2 → Q (.str x t) s)
    (hs : subscripted slice false (.ref l) (.int k u) = operate [.ref l, .int k u] (getItem (.ref l) (.int k u))) : wpAny (model prog w) A (subscriptTail value slice (.ref l) (.int k u)) Q E s := by
  have hl : s.heap.IsList l vs.toArray := News.isList N hm
  have hk : k.toNat < xs.length := by omega
  obtain ⟨t, ht⟩ := hi.get k.toNat xs[k.toNat] (List.getElem?_eq_getElem hk)
  exact tail_any hl.typeIs slot_list_getitem.lookup (wpAny_getItem_list hl h0 (by omega) (by simpa using ht) (h _ _ (hB _ (List.getElem_mem hk)))) hs
/-- an item of a made list of ints, whichever it is -/
theorem int_item (lo hi' : Int) (N : News h₀ L s.heap news) (hm : (l, listOf vs.toArray c) ∈ news) (hi : IntsAre vs ns) (hB : ∀ n ∈ ns, lo ≤ n ∧ n ≤ hi') (h0 : 0 ≤ k) (h1 : k < ns.length) (hz : ns.length ≤ 1000) (h : ∀ n t, lo ≤ n → n ≤ hi' → Q (.int n t) s)
    (hs : subscripted slice false (.ref l) (.int k u) = operate [.ref l, .int k u] (getItem (.ref l) (.int k u))) : wpAny (model prog w) A (subscriptTail value slice (.ref l) (.int k u)) Q E s := by
  have hl : s.heap.IsList l vs.toArray := News.isList N hm
  have hk : k.toNat < vs.length := by rw [hi.length]; omega
  obtain ⟨n, t, e2, e1⟩ := IntsAre.at hi k.toNat vs[k.toNat] (List.getElem?_eq_getElem hk)
  have hn := hB n (List.mem_of_getElem? e1)
  exact tail_any hl.typeIs slot_list_getitem.lookup (wpAny_getItem_list hl h0 (by omega) (by simp [hk, e2]) (h n t hn.1 hn.2)) hs
end
/-- an element of the octets -/
def ByteEl (news : List (Addr × Obj)) (y : Value) (news' : List (Addr × Obj)) : Prop := news' = news ∧ ∃ k t, y = .int k t ∧ 0 ≤ k ∧ k < 256
theorem src_bytes {prog : Program} {w : World} {A : Around} {h₀ : Heap} {L : Addr} {m : Str → Option Value} {env : Env} {elt : Expr} {x : Str} {scope : Scope} {cl : List (Str × Addr)} {Fin : Shared → List Value → List (Addr × Obj) → Prop} {r : Addr} {s₁ : Shared} {news : List (Addr × Obj)} {b : Int} {n : Nat} {t u v : Tok}
    (hh : A.handled = none) (F : Fr h₀ L s₁.heap m) (N : News h₀ L s₁.heap news) (hr : IsRange s₁.heap r 0 b 1 t u v) (hsm : Builtin.Range.small 0 b 1 = true) (hn : Builtin.Range.rangeSize 0 b 1 = ((n : Nat) : Int)) (hsz : n ≤ 40)
    (turn : ∀ s' (k : Int) t I oI C oC D m₂ ys h tk (E' : Value → Shared → Prop), 0 ≤ k → k < 40 → LCg.NsObj oC m₂ → m₂ x = some (.int k t) → Fr h₀ L h m → News h₀ L h ((I, oI) :: (C, oC) :: (D, LCg.lst ys) :: news) → LCg.Off3 I C D news → ((@Ne Nat I C) ∧ (@Ne Nat I D) ∧ (@Ne Nat C D)) → KPfMark →
      wpAny (model prog w) A (eval elt (compEnvC scope cl C env)) (LCg.CompEnd h₀ L m { { s₁ with heap := s' } with heap := h, toks := tk } I oI C oC D (LCg.lst ys) (fun _ => True) (fun y news' => ByteEl news y news')) E' { { s₁ with heap := s' } with heap := h, toks := tk })
    (fin : ∀ s' ys ks, IntsAre ys ks → BytesIn ks → ks.length ≤ 40 → Fin { s₁ with heap := s' } ys news) : SrcG prog w A h₀ L m env elt x scope cl Fin (.ref r) s₁ := by
  refine ⟨_, _, _, news, iters_down hh F N hr hsm hn, (by rw [sizeLine_eq]; omega), trivial, fun g => ?_⟩
  have key : ∀ (j i : Nat) (ys : List Value) (ks : List Int), i + j = n → IntsAre ys ks → BytesIn ks → ks.length = i → LCg.CompRest prog w A h₀ L m env elt x scope cl { s₁ with heap := g } (fun _ => True) (fun i v => ∃ t, v = .int (0 + i * 1) t) (Fin { s₁ with heap := g }) j i ys news := by
    intro j
    induction j with
    | zero => intro i ys ks e hi hb hl; exact LCg.CompRest.zero (fin g ys ks hi hb (by omega))
    | succ j ih =>
      intro i ys ks e hi hb hl
      refine LCg.CompRest.succ ?_
      intro v I oI C oC D m₂ h tk E' hv hC hx F N off ne
      obtain ⟨t, rfl⟩ := hv
      refine wpAny_mono (turn g (0 + (i : Int) * 1) t I oI C oC D m₂ ys h tk E' (by omega) (by omega) hC hx F N off ne True.intro) (fun y s₂ hq => ?_) fun _ _ e => e
      obtain ⟨h', tk', nw, e1, F', N', off', hS, hn', k, t', hy, h0, h1⟩ := hq
      rw [hn'] at N' off'
      refine ⟨h', tk', news, e1, F', N', off', trivial, ?_⟩
      rw [hy]
      refine ih (i + 1) _ (ks ++ [k]) (by omega) (hi.append (.cons k t' .nil)) (fun z hz => ?_) (by rw [List.length_append, hl]; rfl)
      rcases List.mem_append.mp hz with hz | hz
      · exact hb z hz
      · rw [List.mem_singleton.mp hz]; exact ⟨h0, h1⟩
  exact key n 0 [] [] (by omega) .nil (fun _ h => nomatch h) rfl
theorem comp_byte {h₀ : Heap} {L I C D : Addr} {m : Str → Option Value} {s₁ : Shared} {oI oC oD : Obj} {y : Value} {h' : Heap} {tk : Nat} {all news : List (Addr × Obj)}
    (F : Fr h₀ L h' m) (N : News h₀ L h' all) (sub : ∀ p ∈ (I, oI) :: (C, oC) :: (D, oD) :: news, p ∈ all) (off : LCg.Off3 I C D news) (h : ∃ k t, y = .int k t ∧ 0 ≤ k ∧ k < 256) :
    LCg.CompEnd h₀ L m s₁ I oI C oC D oD (fun _ => True) (fun y news' => ByteEl news y news') y { s₁ with heap := h', toks := tk } := LCg.CompEnd.intro F N news sub off trivial ⟨rfl, h⟩
theorem mod40a (d : Int) : -(2 ^ 62) ≤ 1 + d.fmod 40 := by have := fmod_lo d (n := 40) (by decide); omega
theorem mod40b (d : Int) : 1 + d.fmod 40 < 2 ^ 62 := by have := fmod_hi d (n := 40) (by decide); omega
theorem mod40c (d : Int) : (1 + d.fmod 40 - 0).toNat ≤ 40 := by have := fmod_hi d (n := 40) (by decide); omega
end
section
set_option linter.unusedVariables false
set_option maxRecDepth 100000
set_option maxHeartbeats 1000000
section
variable {w : World} {p : Program} {loose : List Str} {mean : ExcName → Option Value} {mg mb : Str → Option Value} {dp un : Nat} {gd : Option (List Code)} {cn : Str} {cs : Scope} {a : Addr} {ccd : Value} {cl : List (Str × Addr)} {outer : List Env} {A₀ : Around} {base h₀ : Heap} {L : Addr} {m : Str → Option Value} {news : List (Addr × Obj)} {s : Shared} {Q E : Value → Shared → Prop}
theorem dump_use {l : Addr} {vs : List Value} {ns : List Int} {c : Nat} {width : Int} {head : Str} {t1 t2 : Tok} (hi : IntsAre vs ns) (hb : BytesIn ns) (hlen : ns.length ≤ 40) (h0 : 1 ≤ width) (h1 : width ≤ 16) (hh : head.length ≤ 2)
    (B : Below A₀ base outer h₀) (F : Fr h₀ L s.heap m) (X : (hd.heap_39 w.params).In h₀) (N : News h₀ L s.heap news) (T : Top p loose mean mg mb h₀) (hk : cs.kind = .function) (hn : (l, listOf vs.toArray c) ∈ news) (hd : dp + 6 < recursionLimit) (hu : un + 8 * 6 < cLine)
    (ret : ∀ t h' tk', Fr h₀ L h' m → News h₀ L h' news → Q (.str (dumpS ns width head) t) { s with heap := h', toks := tk' }) :
    wpAny (model PySem.Challenge.rw_aa6002_01.row.prog w) (ktrTop dp un gd cn cs L a ccd cl outer) (call (.ref 89) [.ref l, .int width t1, .str head t2]) Q E s :=
  Claim.use (dump_claim w l vs ns c width head t1 t2 h0 h1 (getD_in hb) hlen hi hh) B F X N T hk hn hd hu ret
theorem hex_use {vs : List Value} {src : Value} {ns : List Int} {width : Int} {head : Str} (ha : HexArgs w vs src width head) (hsrc : (∃ t, src = .bytes (byteArr ns) t) ∨ ∃ l, src = .ref l) (hb : BytesIn ns) (hlen : ns.length ≤ 40) (h0 : 1 ≤ width) (h1 : width ≤ 16) (hh : head.length ≤ 2)
    (B : Below A₀ base outer h₀) (F : Fr h₀ L s.heap m) (X : (hd.heap_39 w.params).In h₀) (N : News h₀ L s.heap news) (T : Top p loose mean mg mb h₀) (hk : cs.kind = .function) (hn : ∀ l, src = .ref l → (l, baOf (byteArr ns)) ∈ news) (hd : dp + 6 < recursionLimit) (hu : un + 8 * 6 < cLine)
    (ret : ∀ t h' tk', Fr h₀ L h' m → News h₀ L h' news → Q (.str (dumpS ns width head) t) { s with heap := h', toks := tk' }) :
    wpC (model PySem.Challenge.rw_aa6002_01.row.prog w) (ktrTop dp un (some []) cn cs L a ccd cl outer) (call (.ref 20) vs) Q E s :=
  hex_claim w vs src ns width head ha hsrc h0 h1 hb hlen hh _ _ _ _ _ _ _ _ _ _ _ _ _ _ _ _ _ _ _ _ _ _ B F X N T hk hn hd hu ret
/-- what holds behind the law's first choice: both texts are one -/
def LawTold (h₀ : Heap) (L : Addr) (m : Str → Option Value) (news : List (Addr × Obj)) (s : Shared) (s' : Shared) : Prop :=
  ∃ D t1 t2 h tk, s' = { s with heap := h, toks := tk } ∧ Fr h₀ L h (fun z => if z = Str.ofString "due" then some (.str D t2) else (fun z => if z = Str.ofString "told" then some (.str D t1) else m z) z) ∧ News h₀ L h news
theorem law_cut {M : Model} {A : Around} {E : Value → Shared → Prop} {env : Env} {st : Stmt} {rest : List Stmt} {Q : Flow → Shared → Prop} (F : Fr h₀ L s.heap m) (N : News h₀ L s.heap news)
    (h1 : wpC M A (exec st env) (fun f s' => f = .next ∧ LawTold h₀ L m news s s') E s)
    (h2 : ∀ D t1 t2 h tk, Fr h₀ L h (fun z => if z = Str.ofString "due" then some (.str D t2) else (fun z => if z = Str.ofString "told" then some (.str D t1) else m z) z) → News h₀ L h news → wpC M A (execs rest env) Q E { s with heap := h, toks := tk }) : wpC M A (execs (st :: rest) env) Q E s :=
  wpC_cut (LawTold h₀ L m news s) h1 fun s' ⟨D, t1, t2, h, tk, e, F', N'⟩ => by subst e; exact h2 D t1 t2 h tk F' N'
end
end
section
set_option linter.unusedVariables false
set_option maxRecDepth 100000
set_option maxHeartbeats 1000000
theorem wp_execs_append {M : Model} {Γ : PySem.Ctx} {env : Env} {rest : List Stmt} {Q : Flow → Pos → Shared → Prop} {E : Value → Pos → Shared → Prop} : ∀ (l : List Stmt) (p : Pos) (s : Shared),
    wp M Γ (execs l env) (fun f p' s' => f = .next ∧ wp M Γ (execs rest env) Q E p' s') E p s → wp M Γ (execs (l ++ rest) env) Q E p s
  | [], p, s, h => by
    have h' : wp M Γ (pure Flow.next) (fun f p' s' => f = .next ∧ wp M Γ (execs rest env) Q E p' s') E p s := h
    rw [Sem.wp_pure'] at h'
    exact h'.2
  | st :: l, p, s, h => by
    rw [List.cons_append, execs_cons, Sem.wp_bind']
    rw [execs_cons, Sem.wp_bind'] at h
    refine Sem.wp_mono M Γ _ (fun f p' s' h' => ?_) (fun _ _ _ x => x) p s h
    cases f with
    | next => exact wp_execs_append l p' s' h'
    | _ =>
      have h2 := h'
      simp only [Sem.wp_pure'] at h2
      exact nomatch h2.1
theorem wpC_cut3 {M : Model} {A : Around} {E : Value → Shared → Prop} {s : Shared} {env : Env} {s1 s2 s3 : Stmt} {rest : List Stmt} {Q : Flow → Shared → Prop} (P : Shared → Prop) (h1 : wpC M A (execs [s1, s2, s3] env) (fun f s' => f = .next ∧ P s') E s) (h2 : ∀ s', P s' → wpC M A (execs rest env) Q E s') :
    wpC M A (execs (s1 :: s2 :: s3 :: rest) env) Q E s := fun Γ p hΓ k1 k2 =>
  wp_execs_append [s1, s2, s3] p s (Sem.wp_mono M Γ _ (fun f p' s' h => ⟨h.1, h2 s' h.2 Γ p' hΓ k1 k2⟩) (fun _ _ _ x => x) p s (h1 Γ p hΓ k1 k2))
/-- what a call of draw promises, wherever `nw` stands on the ledger -/
def DrawOk (w : World) (env : Env) (G : Heap) (L f : Addr) (nw : List (Addr × Obj)) : Prop :=
  ∀ (m : Str → Option Value) (news : List (Addr × Obj)) (s : Shared) (Q E : Value → Shared → Prop) (place : Int) (pos cpos : Pos) (ck : Nat), 0 ≤ place → place < 16 → Fr G L s.heap m → News G L s.heap news → (∀ p ∈ nw, p ∈ news) →
    (∀ t h' tk' d, Big d → Fr G L h' m → News G L h' news → Q (.int d t) { s with heap := h', toks := tk' }) → wpAny (model PySem.Challenge.rw_aa6002_01.row.prog w) (callerA.deeper env) (callWith pos (.ref f) [] (backTo pos (starEach [.Constant (.int place) ck cpos] env)) []) Q E s
theorem DrawOk.use {w : World} {env : Env} {G : Heap} {L f : Addr} {nw news : List (Addr × Obj)} (d : DrawOk w env G L f nw) {m : Str → Option Value} {s : Shared} {Q E : Value → Shared → Prop} {place : Int} {pos cpos : Pos} {ck : Nat} (h0 : 0 ≤ place) (h1 : place < 16) (F : Fr G L s.heap m) (N : News G L s.heap news) (sub : ∀ p ∈ nw, p ∈ news)
    (ret : ∀ t h' tk' d, Big d → Fr G L h' m → News G L h' news → Q (.int d t) { s with heap := h', toks := tk' }) : wpAny (model PySem.Challenge.rw_aa6002_01.row.prog w) (callerA.deeper env) (callWith pos (.ref f) [] (backTo pos (starEach [.Constant (.int place) ck cpos] env)) []) Q E s :=
  d _ _ _ _ _ _ _ _ _ h0 h1 F N sub ret
def OctFrame (D f : Addr) : Str → Option Value := fun y => if y = Str.ofString "octets" then some (.ref D) else (fun y => if y = Str.ofString "draw" then some (.ref f) else none) y
/-- what holds behind the law's third statement -/
def LawDrawn (w : World) (env : Env) (G : Heap) (L : Addr) (s s' : Shared) : Prop :=
  ∃ h tk nw f D ys ns, s' = { s with heap := h, toks := tk } ∧ Fr G L h (OctFrame D f) ∧ News G L h ((D, LCg.lst ys) :: nw) ∧ DrawOk w env G L f nw ∧ IntsAre ys ns ∧ BytesIn ns ∧ ns.length ≤ 40 ∧ ∃ ps, (105, tabObj ps) ∈ nw
theorem clean_fr {h₀ h : Heap} {L : Addr} {m : Str → Option Value} (F : Fr h₀ L h m) (e : m = fun _ => none) : Fr h₀ L h (fun _ => none) := e ▸ F
theorem law_cut3 {w : World} {E : Value → Shared → Prop} {s : Shared} {env : Env} {s1 s2 s3 : Stmt} {rest : List Stmt} {Q : Flow → Shared → Prop} {G h : Heap} {L : Addr} {m : Str → Option Value} (_F : Fr G L h m)
    (h1 : wpC (model PySem.Challenge.rw_aa6002_01.row.prog w) (callerA.deeper env) (execs [s1, s2, s3] env) (fun f s' => f = .next ∧ LawDrawn w env G L s s') E s)
    (h2 : ∀ s', LawDrawn w env G L s s' → wpC (model PySem.Challenge.rw_aa6002_01.row.prog w) (callerA.deeper env) (execs rest env) Q E s') : wpC (model PySem.Challenge.rw_aa6002_01.row.prog w) (callerA.deeper env) (execs (s1 :: s2 :: s3 :: rest) env) Q E s :=
  wpC_cut3 (LawDrawn w env G L s) h1 h2
theorem news_sub {h₀ h : Heap} {L : Addr} {nw news : List (Addr × Obj)} (N : News h₀ L h news) (sub : ∀ p ∈ nw, p ∈ news) : News h₀ L h (nw ++ news) := fun p hp => by
  rcases List.mem_append.mp hp with hp | hp
  · exact N p (sub p hp)
  · exact N p hp
def DueFrame (X : Str) (t1 t2 : Tok) (H D f : Addr) (m0 : Str → Option Value) : Str → Option Value := fun y => if y = Str.ofString "due" then some (.str X t2) else (fun y => if y = Str.ofString "told" then some (.str X t1) else (fun y => if y = Str.ofString "handed" then some (.ref H) else (fun y => if y = Str.ofString "octets" then some (.ref D) else (fun y => if y = Str.ofString "draw" then some (.ref f) else m0 y) y) y) y) y
/-- what holds behind the law's sixth statement: both texts are one, the octets handed in stand unchanged -/
def LawDue (G : Heap) (L D f : Addr) (nw : List (Addr × Obj)) (ys : List Value) (ns : List Int) (s s' : Shared) : Prop :=
  ∃ h tk H X t1 t2 m0, s' = { s with heap := h, toks := tk } ∧ Fr G L h (DueFrame X t1 t2 H D f m0) ∧ News G L h ((H, baOf (byteArr ns)) :: (D, LCg.lst ys) :: nw)
theorem due_frame {X : Str} {t1 t2 : Tok} {H D f : Addr} {m : Str → Option Value} (h1 : m (Str.ofString "told") = some (.str X t1)) (h2 : m (Str.ofString "due") = some (.str X t2)) (h3 : m (Str.ofString "handed") = some (.ref H)) (h4 : m (Str.ofString "octets") = some (.ref D)) (h5 : m (Str.ofString "draw") = some (.ref f)) : DueFrame X t1 t2 H D f m = m := by
  funext y
  unfold DueFrame
  by_cases e : y = Str.ofString "due"
  · rw [if_pos e, e, h2]
  · rw [if_neg e]
    dsimp only
    by_cases e : y = Str.ofString "told"
    · rw [if_pos e, e, h1]
    · rw [if_neg e]
      by_cases e : y = Str.ofString "handed"
      · rw [if_pos e, e, h3]
      · rw [if_neg e]
        by_cases e : y = Str.ofString "octets"
        · rw [if_pos e, e, h4]
        · rw [if_neg e]
          by_cases e : y = Str.ofString "draw"
          · rw [if_pos e, e, h5]
          · rw [if_neg e]
theorem law_due {G h : Heap} {L D f H : Addr} {nw big : List (Addr × Obj)} {ys : List Value} {ns : List Int} {s : Shared} {tk : Nat} {X : Str} {t1 t2 : Tok} {m : Str → Option Value} (F : Fr G L h m) (N : News G L h big)
    (h1 : m (Str.ofString "told") = some (.str X t1)) (h2 : m (Str.ofString "due") = some (.str X t2)) (h3 : m (Str.ofString "handed") = some (.ref H)) (h4 : m (Str.ofString "octets") = some (.ref D)) (h5 : m (Str.ofString "draw") = some (.ref f))
    (m1 : (H, baOf (byteArr ns)) ∈ big) (m2 : (D, LCg.lst ys) ∈ big) (sub : ∀ p ∈ nw, p ∈ big) : LawDue G L D f nw ys ns s { s with heap := h, toks := tk } :=
  ⟨h, tk, H, X, t1, t2, m, rfl, by rw [due_frame h1 h2 h3 h4 h5]; exact F, fun p hp => by
    rcases List.mem_cons.mp hp with rfl | hp
    · exact N _ m1
    · rcases List.mem_cons.mp hp with rfl | hp
      · exact N _ m2
      · exact N _ (sub p hp)⟩
theorem law_cut6 {w : World} {E : Value → Shared → Prop} {s : Shared} {env : Env} {s1 s2 s3 : Stmt} {rest : List Stmt} {Q : Flow → Shared → Prop} {G : Heap} {L D f : Addr} {nw : List (Addr × Obj)} {ys : List Value} {ns : List Int} (_F : Fr G L s.heap (OctFrame D f)) (_N : News G L s.heap ((D, LCg.lst ys) :: nw)) (_hO : IntsAre ys ns)
    (h1 : wpC (model PySem.Challenge.rw_aa6002_01.row.prog w) (callerA.deeper env) (execs [s1, s2, s3] env) (fun fl s' => fl = .next ∧ LawDue G L D f nw ys ns s s') E s)
    (h2 : ∀ s', LawDue G L D f nw ys ns s s' → wpC (model PySem.Challenge.rw_aa6002_01.row.prog w) (callerA.deeper env) (execs rest env) Q E s') : wpC (model PySem.Challenge.rw_aa6002_01.row.prog w) (callerA.deeper env) (execs (s1 :: s2 :: s3 :: rest) env) Q E s :=
  wpC_cut3 (LawDue G L D f nw ys ns s) h1 h2
section
variable {w : World} {p : Program} {loose : List Str} {mean : ExcName → Option Value} {mg mb : Str → Option Value} {dp un : Nat} {cn : Str} {cs : Scope} {a : Addr} {ccd : Value} {cl : List (Str × Addr)} {outer : List Env} {A₀ : Around} {base h₀ : Heap} {L : Addr} {m : Str → Option Value} {news : List (Addr × Obj)} {s : Shared} {Q E : Value → Shared → Prop}
theorem hex_use1 {ns : List Int} {b : Array UInt8} {t : Tok} (e : b = byteArr ns) (hb : BytesIn ns) (hlen : ns.length ≤ 40)
    (B : Below A₀ base outer h₀) (F : Fr h₀ L s.heap m) (X : (hd.heap_39 w.params).In h₀) (N : News h₀ L s.heap news) (T : Top p loose mean mg mb h₀) (hk : cs.kind = .function) (hd : dp + 6 < recursionLimit) (hu : un + 8 * 6 < cLine)
    (ret : ∀ t h' tk', Fr h₀ L h' m → News h₀ L h' news → Q (.str (dumpS ns 16 (Str.ofString "")) t) { s with heap := h', toks := tk' }) :
    wpC (model PySem.Challenge.rw_aa6002_01.row.prog w) (ktrTop dp un (some []) cn cs L a ccd cl outer) (call (.ref 20) [.bytes b t]) Q E s := by
  subst e
  exact hex_use (hexargs1 w _) (.inl ⟨_, rfl⟩) hb hlen (by decide) (by decide) (by decide) B F X N T hk (fun _ e => nomatch e) hd hu ret
end
end
section
set_option linter.unusedVariables false
set_option maxRecDepth 100000
set_option maxHeartbeats 1000000
section
variable {w : World} {p : Program} {loose : List Str} {mean : ExcName → Option Value} {mg mb : Str → Option Value} {dp un : Nat} {gd : Option (List Code)} {cn : Str} {cs : Scope} {a : Addr} {ccd : Value} {cl : List (Str × Addr)} {outer : List Env} {A₀ : Around} {base h₀ : Heap} {L : Addr} {m : Str → Option Value} {news : List (Addr × Obj)} {s : Shared} {Q E : Value → Shared → Prop}
theorem figures_use {n c : Int} {t1 t2 : Tok} (h0 : 0 ≤ c) (h1 : c < 40) (B : Below A₀ base outer h₀) (F : Fr h₀ L s.heap m) (X : (hd.heap_39 w.params).In h₀) (N : News h₀ L s.heap news) (T : Top p loose mean mg mb h₀) (hk : cs.kind = .function) (hd : dp + 2 < recursionLimit) (hu : un + 8 * 2 < cLine)
    (ret : ∀ l us k h' tk', Fr h₀ L h' m → News h₀ L h' ((l, listOf (List.toArray us) k) :: news) → (∀ p ∈ news, p.1 < l) → StrsAre us (figs n c.toNat) → Q (.ref l) { s with heap := h', toks := tk' }) :
    wpAny (model PySem.Challenge.rw_aa6002_01.row.prog w) (ktrTop dp un gd cn cs L a ccd cl outer) (call (.ref 96) [.int n t1, .int c t2]) Q E s :=
  ClaimL.use (figures_claim w n c t1 t2 h0 h1) B F X N T hk trivial hd hu ret
theorem binary_use3 {n c : Int} {t1 t2 : Tok} (h0 : 0 ≤ c) (h1 : c < 40) (B : Below A₀ base outer h₀) (F : Fr h₀ L s.heap m) (X : (hd.heap_39 w.params).In h₀) (N : News h₀ L s.heap news) (T : Top p loose mean mg mb h₀) (hk : cs.kind = .function) (hd : dp + 4 < recursionLimit) (hu : un + 8 * 4 < cLine)
    (ret : ∀ t h' tk', Fr h₀ L h' m → News h₀ L h' news → Q (.str (Txt.join (Str.ofString "") (figs n c.toNat)) t) { s with heap := h', toks := tk' }) :
    wpAny (model PySem.Challenge.rw_aa6002_01.row.prog w) (ktrTop dp un gd cn cs L a ccd cl outer) (call (.ref 42) [.int n t1, .int c t2, .bool true]) Q E s :=
  Claim.use (binary_claim w n c true t1 t2 h0 h1) B F X N T hk trivial hd hu ret
theorem binary_use2 {n c : Int} {t1 t2 : Tok} (h0 : 0 ≤ c) (h1 : c < 40) (B : Below A₀ base outer h₀) (F : Fr h₀ L s.heap m) (X : (hd.heap_39 w.params).In h₀) (N : News h₀ L s.heap news) (T : Top p loose mean mg mb h₀) (hk : cs.kind = .function) (hd : dp + 4 < recursionLimit) (hu : un + 8 * 4 < cLine)
    (ret : ∀ t h' tk', Fr h₀ L h' m → News h₀ L h' news → Q (.str (Txt.join (Str.ofString "") (figs n c.toNat).reverse) t) { s with heap := h', toks := tk' }) :
    wpAny (model PySem.Challenge.rw_aa6002_01.row.prog w) (ktrTop dp un gd cn cs L a ccd cl outer) (call (.ref 42) [.int n t1, .int c t2]) Q E s :=
  Claim.use (binary_claim2 w n c t1 t2 h0 h1) B F X N T hk trivial hd hu ret
theorem binary_use1 {n : Int} {t1 : Tok} (B : Below A₀ base outer h₀) (F : Fr h₀ L s.heap m) (X : (hd.heap_39 w.params).In h₀) (N : News h₀ L s.heap news) (T : Top p loose mean mg mb h₀) (hk : cs.kind = .function) (hd : dp + 4 < recursionLimit) (hu : un + 8 * 4 < cLine)
    (ret : ∀ t h' tk', Fr h₀ L h' m → News h₀ L h' news → Q (.str (Txt.join (Str.ofString "") (figs n 16).reverse) t) { s with heap := h', toks := tk' }) :
    wpAny (model PySem.Challenge.rw_aa6002_01.row.prog w) (ktrTop dp un gd cn cs L a ccd cl outer) (call (.ref 42) [.int n t1]) Q E s :=
  Claim.use (binary_claim1 w n t1) B F X N T hk trivial hd hu ret
theorem get_use3 {d o b : Int} {t1 t2 t3 : Tok} (h0 : 0 ≤ o) (h1 : o < 40) (h2 : 0 ≤ b) (h3 : b ≤ 20) (B : Below A₀ base outer h₀) (F : Fr h₀ L s.heap m) (X : (hd.heap_39 w.params).In h₀) (N : News h₀ L s.heap news) (T : Top p loose mean mg mb h₀) (hk : cs.kind = .function) (hd : dp + 2 < recursionLimit) (hu : un + 8 * 2 < cLine)
    (ret : ∀ t h' tk', Fr h₀ L h' m → News h₀ L h' news → Q (.int ((d.fdiv (2 ^ o.toNat)).fmod (2 ^ b.toNat)) t) { s with heap := h', toks := tk' }) :
    wpAny (model PySem.Challenge.rw_aa6002_01.row.prog w) (ktrTop dp un gd cn cs L a ccd cl outer) (call (.ref 28) [.int d t1, .int o t2, .int b t3]) Q E s :=
  Claim.use (get_claim w d o b t1 t2 t3 h0 h1 h2 h3) B F X N T hk trivial hd hu ret
theorem get_use2 {d o : Int} {t1 t2 : Tok} (h0 : 0 ≤ o) (h1 : o < 40) (B : Below A₀ base outer h₀) (F : Fr h₀ L s.heap m) (X : (hd.heap_39 w.params).In h₀) (N : News h₀ L s.heap news) (T : Top p loose mean mg mb h₀) (hk : cs.kind = .function) (hd : dp + 2 < recursionLimit) (hu : un + 8 * 2 < cLine)
    (ret : ∀ t h' tk', Fr h₀ L h' m → News h₀ L h' news → Q (.int ((d.fdiv (2 ^ o.toNat)).fmod 2) t) { s with heap := h', toks := tk' }) :
    wpAny (model PySem.Challenge.rw_aa6002_01.row.prog w) (ktrTop dp un gd cn cs L a ccd cl outer) (call (.ref 28) [.int d t1, .int o t2]) Q E s :=
  Claim.use (get_claim1 w d o t1 t2 h0 h1) B F X N T hk trivial hd hu ret
theorem set_use4 {d v o b : Int} {t1 t2 t3 t4 : Tok} (h0 : 0 ≤ o) (h1 : o < 16) (h2 : 0 ≤ b) (h3 : o + b ≤ 16) (hd0 : 0 ≤ d) (hd1 : d < 65536) (hv : Big v) (B : Below A₀ base outer h₀) (F : Fr h₀ L s.heap m) (X : (hd.heap_39 w.params).In h₀) (N : News h₀ L s.heap news) (T : Top p loose mean mg mb h₀) (hk : cs.kind = .function) (hd : dp + 2 < recursionLimit) (hu : un + 8 * 2 < cLine)
    (ret : ∀ t h' tk', Fr h₀ L h' m → News h₀ L h' news → Q (.int ((rangeKs 0 16).foldl (setStep d v o b) 0) t) { s with heap := h', toks := tk' }) :
    wpAny (model PySem.Challenge.rw_aa6002_01.row.prog w) (ktrTop dp un gd cn cs L a ccd cl outer) (call (.ref 36) [.int d t1, .int v t4, .int o t2, .int b t3]) Q E s :=
  Claim.use (set_claim w d v o b t1 t2 t3 t4 h0 h1 h2 h3 hd0 hd1 (Nat.le_trans hv (by decide))) B F X N T hk trivial hd hu ret
theorem set_use3 {d v o : Int} {t1 t2 t4 : Tok} (h0 : 0 ≤ o) (h1 : o < 16) (hd0 : 0 ≤ d) (hd1 : d < 65536) (hv : Big v) (B : Below A₀ base outer h₀) (F : Fr h₀ L s.heap m) (X : (hd.heap_39 w.params).In h₀) (N : News h₀ L s.heap news) (T : Top p loose mean mg mb h₀) (hk : cs.kind = .function) (hd : dp + 2 < recursionLimit) (hu : un + 8 * 2 < cLine)
    (ret : ∀ t h' tk', Fr h₀ L h' m → News h₀ L h' news → Q (.int ((rangeKs 0 16).foldl (setStep d v o 1) 0) t) { s with heap := h', toks := tk' }) :
    wpAny (model PySem.Challenge.rw_aa6002_01.row.prog w) (ktrTop dp un gd cn cs L a ccd cl outer) (call (.ref 36) [.int d t1, .int v t4, .int o t2]) Q E s :=
  Claim.use (set_claim1 w d v o t1 t2 t4 h0 h1 hd0 hd1 (Nat.le_trans hv (by decide))) B F X N T hk trivial hd hu ret
theorem setlaw_use {d v o b : Int} {t1 t2 t3 t4 : Tok} (h0 : 0 ≤ o) (h1 : o < 16) (h2 : 1 ≤ b) (h3 : b ≤ 16) (B : Below A₀ base outer h₀) (F : Fr h₀ L s.heap m) (X : (hd.heap_39 w.params).In h₀) (N : News h₀ L s.heap news) (T : Top p loose mean mg mb h₀) (hk : cs.kind = .function) (hd : dp + 2 < recursionLimit) (hu : un + 8 * 2 < cLine)
    (ret : ∀ t h' tk', Fr h₀ L h' m → News h₀ L h' news → Q (.int ((rangeKs 0 16).foldl (setStep d v o b) 0) t) { s with heap := h', toks := tk' }) :
    wpAny (model PySem.Challenge.rw_aa6002_01.row.prog w) (ktrTop dp un gd cn cs L a ccd cl outer) (call (.ref 103) [.int d t1, .int v t4, .int o t2, .int b t3]) Q E s :=
  Claim.use (set_law_claim w d v o b t1 t2 t3 t4 h0 h1 h2 h3) B F X N T hk trivial hd hu ret
end
section
variable {prog : Program} {w : World} {A : Around} {E : Value → Shared → Prop} {s : Shared} {h₀ : Heap} {L l : Addr} {m : Str → Option Value} {news : List (Addr × Obj)} {value slice : PySem.Expr} {vs : List Value} {xs : List Str} {c : Nat} {vk : Value} {ops : List Value} {Q : Value → Shared → Prop}
theorem txt_rev (F : Fr h₀ L s.heap m) (N : News h₀ L s.heap news) (hm : (l, listOf vs.toArray c) ∈ news) (pk : IsPart vk (some (-1))) (hi : StrsAre vs xs) (hz : xs.length ≤ 1000)
    (h : ∀ D ws h', Fr h₀ L h' m → News h₀ L h' ((D, listOf (List.toArray ws) 0) :: news) → (∀ p ∈ news, p.1 < D) → StrsAre ws xs.reverse → Q (.ref D) { s with heap := h' })
    (hs : subscripted slice false (.ref l) (.ref s.heap.objs.size) = operate ops (getItem (.ref l) (.ref s.heap.objs.size))) (ht : ∀ r, letTemporaryGo value (.ref l) r = pure ()) :
    wpAny (model prog w) A (subscriptTail value slice (.ref l) (.ref s.heap.objs.size)) Q E { s with heap := s.heap.push { cls := .type "slice", data := .fields #[.none, .none, vk] } } :=
  krv_lit (its := vs.toArray) (zs := vs.reverse) F N (News.isList N hm) pk rfl (fun D h' F' N' l1 => h D vs.reverse h' F' N' l1 (strs_reverse hi)) hs ht (by rw [List.size_toArray, hi.length, sizeLine_eq]; omega)
end
theorem bd1 (d : Int) : 0 ≤ 1 + d.fmod 20 := by have := fmod_lo d (n := 20) (by decide); omega
theorem bd2 (d : Int) : 1 + d.fmod 20 ≤ 20 := by have := fmod_hi d (n := 20) (by decide); omega
theorem bd6 (x : Int) : 0 < 16 - x.fmod 16 := by have := fmod_hi x (n := 16) (by decide); omega
theorem bd6' (x : Int) : 16 - x.fmod 16 ≠ 0 := by have := bd6 x; omega
theorem bd3 (x y : Int) : 0 ≤ 1 + y.fmod (16 - x.fmod 16) := by have := fmod_lo y (bd6 x); omega
theorem bd3' (x y : Int) : 1 ≤ 1 + y.fmod (16 - x.fmod 16) := by have := fmod_lo y (bd6 x); omega
theorem bd4 (x y : Int) : x.fmod 16 + (1 + y.fmod (16 - x.fmod 16)) ≤ 16 := by have := fmod_hi y (bd6 x); omega
theorem bd5 (x y : Int) : 1 + y.fmod (16 - x.fmod 16) ≤ 16 := by have := fmod_hi y (bd6 x); have := fmod_lo x (n := 16) (by decide); omega
end
set_option linter.unusedVariables false
set_option maxRecDepth 100000
set_option maxHeartbeats 8000000
local macro_rules | `(tactic| walk_at "call ref") => `(tactic| (k_here; (with_reducible show wpAny _ _ (call (Value.ref 70) [Value.ref _, Value.int _ _]) _ _ _); k_dflt (refine' number_use ?l ?i ?len ?lay ?p0 ?p1 ?k1 ?k2 ?k3 ?k4 ?k5 ?kK ?kd ?ku ?_; (case k1 => k_asm); (case k2 => k_asm); (case k3 => k_asm); (case k4 => k_asm); (case k5 => k_asm); (case l => assumption); (case i => assumption); (case len => omega); (case lay => assumption); (case p0 => omega); (case p1 => omega); (case kK => first | exact rfl | assumption); (case kd => ktr_room); (case ku => ktr_units); skip); intro t9 h9 tk9 d9 hbig9 F9 N9; (try dsimp only); (try k_fold)))
local macro_rules | `(tactic| walk_at "subscriptTail") => `(tactic| ((rename LawMark => law9); (with_reducible show wpAny _ _ (subscriptTail _ _ (Value.ref _) (Value.int _ _)) _ _ _); k_dflt (refine' txt_item ?N ?m ?S ?B ?n0 ?n1 ?z ?_ ?s; (case N => k_asm); (case m => k_mem); (case S => exact (StrsAre.cons _ _ (StrsAre.cons _ _ (StrsAre.cons _ _ (StrsAre.cons _ _ StrsAre.nil))))); (case B => decide +kernel); (case n0 => exact fmod_lo _ (by decide)); (case n1 => exact fmod_hi _ (by decide)); (case z => decide); (case s => with_unfolding_all rfl)); intro x9 t9 hx9; (try dsimp only)))
local macro_rules | `(tactic| walk_at "subscriptTail") => `(tactic| ((rename LawMark => law9); (with_reducible show wpAny _ _ (subscriptTail _ _ (Value.ref _) (Value.int _ _)) _ _ _); k_dflt (refine' int_item 1 16 ?N ?m ?S ?B ?n0 ?n1 ?z ?_ ?s; (case N => k_asm); (case m => k_mem); (case S => exact (IntsAre.cons _ _ (IntsAre.cons _ _ (IntsAre.cons _ _ (IntsAre.cons _ _ (IntsAre.cons _ _ (IntsAre.cons _ _ (IntsAre.cons _ _ (IntsAre.cons _ _ (IntsAre.cons _ _ (IntsAre.cons _ _ IntsAre.nil))))))))))); (case B => decide); (case n0 => exact fmod_lo _ (by decide)); (case n1 => exact fmod_hi _ (by decide)); (case z => decide); (case s => with_unfolding_all rfl)); intro n9 t9 hlo9 hhi9; (try dsimp only)))
local macro_rules | `(tactic| walk_at "subscriptTail") => `(tactic| ((rename LawMark => law9); (with_reducible show wpAny _ _ (subscriptTail _ _ (Value.ref _) (Value.int _ _)) _ _ _); k_dflt (refine' int_item 0 255 ?N ?m ?S ?B ?n0 ?n1 ?z ?_ ?s; (case N => k_asm); (case m => k_mem); (case S => exact (IntsAre.cons _ _ (IntsAre.cons _ _ (IntsAre.cons _ _ (IntsAre.cons _ _ (IntsAre.cons _ _ (IntsAre.cons _ _ (IntsAre.cons _ _ (IntsAre.cons _ _ IntsAre.nil))))))))); (case B => decide); (case n0 => exact fmod_lo _ (by decide)); (case n1 => exact fmod_hi _ (by decide)); (case z => decide); (case s => with_unfolding_all rfl)); intro n9 t9 hlo9 hhi9; (try dsimp only)))
local macro_rules | `(tactic| walk_at "exec Assign cons ListComp") => `(tactic| ((rename LawMark => law9); k_dflt (refine Assign_ListComp_G (F₀ := by k_asm) (by rfl) (by with_unfolding_all rfl) (by with_unfolding_all rfl) (by decide) (by rfl) (by decide) (by rfl) (by rfl) (by rfl) ?_)))
local macro_rules | `(tactic| walk_at "SrcG") => `(tactic| ((rename LawMark => law9); (rename IsRange _ _ _ _ _ _ _ _ => rgX); k_dflt (refine' src_bytes (by rfl) ?F ?N rgX (small_one (by decide) (by decide) ?b0 ?b1) (rangeSize_nat _ _) ?z (fun s9 k9 t9 I' oI' C' oC' D' m' ys' h' tk' E' hlo' hhi' hC' hx' F' N' off' ne' mk' => ?_) (fun s9 ys9 ks9 hO9 hB9 hL9 => ?_); (case F => k_asm); (case N => k_asm); (case b0 => exact mod40a _); (case b1 => exact mod40b _); (case z => exact mod40c _); (all_goals (try (simp only [LCg.Off3, and_true] at off'))))))
local macro_rules | `(tactic| walk_at "CompEnd") => `(tactic| ((rename LawMark => law9); k_dflt (refine' comp_byte ?F ?N ?sub ?off ?h; (case F => k_asm); (case N => k_asm); (case sub => (intro p hp; kst_mem)); (case off => ((try simp only [LCg.Off3, and_true]); assumption)); (case h => exact ⟨_, _, rfl, by first | omega | exact fmod_lo _ (by decide), by first | omega | exact fmod_hi _ (by decide)⟩))))
local macro_rules | `(tactic| walk_at "callWith ref") => `(tactic| ((rename DrawOk _ _ _ _ _ _ => hd9); k_dflt (refine' DrawOk.use hd9 ?p0 ?p1 ?F ?N ?sub ?_; (case p0 => decide); (case p1 => decide); (case F => k_asm); (case N => k_asm); (case sub => (intro p hp; kst_mem))); intro t9 h9 tk9 d9 hbig9 F9 N9; (try dsimp only); (try k_fold)))
local macro_rules | `(tactic| walk_at "eval Name") => `(tactic| ((rename LawMark => law9); (with_reducible show wpAny _ _ (eval (Expr.Name (Str.ofString "bytearray") _) _) _ _ _); k_dflt (refine' nameX_B (x := Str.ofString "bytearray") ?bn1 ?bn2 ?bn3 ?bn4 PyProof.Rows.Boot.bytearray (by decide) ?_; (case bn1 => k_asm); (case bn2 => k_asm); (case bn3 => k_asm); (case bn4 => k_is))))
local macro_rules | `(tactic| walk_at "eval Name") => `(tactic| ((rename LawMark => law9); (with_reducible show wpAny _ _ (eval (Expr.Name (Str.ofString "bytes") _) _) _ _ _); k_dflt (refine' nameX_B (x := Str.ofString "bytes") ?bn1 ?bn2 ?bn3 ?bn4 PyProof.Rows.Boot.bytes (by decide) ?_; (case bn1 => k_asm); (case bn2 => k_asm); (case bn3 => k_asm); (case bn4 => k_is))))
local macro_rules | `(tactic| walk_at "eval Name") => `(tactic| ((rename LawMark => law9); (with_reducible show wpAny _ _ (eval (Expr.Name (Str.ofString "list") _) _) _ _ _); k_dflt (refine' nameX_B (x := Str.ofString "list") ?bn1 ?bn2 ?bn3 ?bn4 PyProof.Rows.Boot.list (by decide) ?_; (case bn1 => k_asm); (case bn2 => k_asm); (case bn3 => k_asm); (case bn4 => k_is))))
local macro_rules | `(tactic| walk_at "call ref") => `(tactic| ((rename LawMark => law9); (with_reducible show wpAny _ _ (call (Value.ref 89) [Value.ref _, Value.int _ _, Value.str _ _]) _ _ _); k_dflt (refine' dump_use ?du1 ?du2 ?du3 ?du4 ?du5 ?du6 ?du7 ?du8 ?du9 ?dua ?dub ?duc ?dud ?due ?duf ?_; (case du7 => k_asm); (case du8 => k_asm); (case du9 => k_asm); (case dua => k_asm); (case dub => k_asm); (case duc => first | exact rfl | assumption); (case dud => k_mem); (case due => ktr_room); (case duf => ktr_units); (case du1 => assumption); (case du2 => assumption); (case du3 => omega); (case du4 => omega); (case du5 => omega); (case du6 => first | assumption | decide)); intro t9 h9 tk9 F9 N9; (try dsimp only); (try k_fold)))
local macro_rules | `(tactic| walk_at "compareOp NotEq str str") => `(tactic| ((rename LawMark => law9); k_dflt (refine' ne_same ?ns1 ?_; (case ns1 => first | (with_reducible rfl) | walk_at "mine same")); (try dsimp only)))
local macro_rules | `(tactic| walk_at "call type:list") => `(tactic| ((rename LawMark => law9); (with_reducible show wpAny _ _ (call (Value.type "list") [Value.ref _]) _ _ _); k_dflt (refine' list_ba ?lb1 ?lb2 ?lb3 ?lb4 ?lb5 ?lb6 ?_; (case lb1 => exact rfl); (case lb2 => k_asm); (case lb3 => k_asm); (case lb4 => k_mem); (case lb5 => assumption); (case lb6 => omega)); intro D9 ws9 c9 h9 tk9 F9 N9 l9 hI9; (try k_lt l9); (try dsimp only)))
theorem cnt_le (d : Int) : (d.fmod 40).toNat ≤ 64 := by have := fmod_hi d (n := 40) (by decide); omega
theorem cnt_le' (d : Int) : (d.fmod 40).toNat ≤ 1000 := by have := fmod_hi d (n := 40) (by decide); omega
local macro_rules | `(tactic| walk_at "call ref") => `(tactic| ((rename LawMark => law9); (with_reducible show wpAny _ _ (call (Value.ref 96) [Value.int _ _, Value.int _ _]) _ _ _); k_dflt (refine' figures_use ?fg0 ?fg1 ?fgA ?fgB ?fgC ?fgD ?fgE ?fgF ?fgG ?fgH ?_; (case fgA => k_asm); (case fgB => k_asm); (case fgC => k_asm); (case fgD => k_asm); (case fgE => k_asm); (case fgF => first | exact rfl | assumption); (case fgG => ktr_room); (case fgH => ktr_units); (case fg0 => first | omega | exact fmod_lo _ (by decide)); (case fg1 => first | omega | exact fmod_hi _ (by decide))); intro l9 us9 k9 h9 tk9 F9 N9 l9' hS9; (try k_lt l9'); (try dsimp only)))
local macro_rules | `(tactic| walk_at "call ref") => `(tactic| ((rename LawMark => law9); (with_reducible show wpAny _ _ (call (Value.ref 42) [Value.int _ _, Value.int _ _, Value.bool true]) _ _ _); k_dflt (refine' binary_use3 ?bc0 ?bc1 ?bcA ?bcB ?bcC ?bcD ?bcE ?bcF ?bcG ?bcH ?_; (case bcA => k_asm); (case bcB => k_asm); (case bcC => k_asm); (case bcD => k_asm); (case bcE => k_asm); (case bcF => first | exact rfl | assumption); (case bcG => ktr_room); (case bcH => ktr_units); (case bc0 => first | omega | exact fmod_lo _ (by decide)); (case bc1 => first | omega | exact fmod_hi _ (by decide))); intro t9 h9 tk9 F9 N9; (try dsimp only); (try k_fold)))
local macro_rules | `(tactic| walk_at "call ref") => `(tactic| ((rename LawMark => law9); (with_reducible show wpAny _ _ (call (Value.ref 42) [Value.int _ _, Value.int _ _]) _ _ _); k_dflt (refine' binary_use2 ?bb0 ?bb1 ?bbA ?bbB ?bbC ?bbD ?bbE ?bbF ?bbG ?bbH ?_; (case bbA => k_asm); (case bbB => k_asm); (case bbC => k_asm); (case bbD => k_asm); (case bbE => k_asm); (case bbF => first | exact rfl | assumption); (case bbG => ktr_room); (case bbH => ktr_units); (case bb0 => first | omega | exact fmod_lo _ (by decide)); (case bb1 => first | omega | exact fmod_hi _ (by decide))); intro t9 h9 tk9 F9 N9; (try dsimp only); (try k_fold)))
local macro_rules | `(tactic| walk_at "call ref") => `(tactic| ((rename LawMark => law9); (with_reducible show wpAny _ _ (call (Value.ref 42) [Value.int _ _]) _ _ _); k_dflt (refine' binary_use1  ?baA ?baB ?baC ?baD ?baE ?baF ?baG ?baH ?_; (case baA => k_asm); (case baB => k_asm); (case baC => k_asm); (case baD => k_asm); (case baE => k_asm); (case baF => first | exact rfl | assumption); (case baG => ktr_room); (case baH => ktr_units)); intro t9 h9 tk9 F9 N9; (try dsimp only); (try k_fold)))
local macro_rules | `(tactic| walk_at "call ref") => `(tactic| ((rename LawMark => law9); (with_reducible show wpAny _ _ (call (Value.ref 28) [Value.int _ _, Value.int _ _, Value.int _ _]) _ _ _); k_dflt (refine' get_use3 ?gc0 ?gc1 ?gc2 ?gc3 ?gcA ?gcB ?gcC ?gcD ?gcE ?gcF ?gcG ?gcH ?_; (case gcA => k_asm); (case gcB => k_asm); (case gcC => k_asm); (case gcD => k_asm); (case gcE => k_asm); (case gcF => first | exact rfl | assumption); (case gcG => ktr_room); (case gcH => ktr_units); (case gc0 => first | omega | exact fmod_lo _ (by decide)); (case gc1 => first | omega | exact fmod_hi _ (by decide)); (case gc2 => first | exact bd1 _ | omega); (case gc3 => first | exact bd2 _ | omega)); intro t9 h9 tk9 F9 N9; (try dsimp only); (try k_fold)))
local macro_rules | `(tactic| walk_at "call ref") => `(tactic| ((rename LawMark => law9); (with_reducible show wpAny _ _ (call (Value.ref 28) [Value.int _ _, Value.int _ _]) _ _ _); k_dflt (refine' get_use2 ?gb0 ?gb1 ?gbA ?gbB ?gbC ?gbD ?gbE ?gbF ?gbG ?gbH ?_; (case gbA => k_asm); (case gbB => k_asm); (case gbC => k_asm); (case gbD => k_asm); (case gbE => k_asm); (case gbF => first | exact rfl | assumption); (case gbG => ktr_room); (case gbH => ktr_units); (case gb0 => first | omega | exact fmod_lo _ (by decide)); (case gb1 => first | omega | exact fmod_hi _ (by decide))); intro t9 h9 tk9 F9 N9; (try dsimp only); (try k_fold)))
local macro_rules | `(tactic| walk_at "call ref") => `(tactic| ((rename LawMark => law9); (with_reducible show wpAny _ _ (call (Value.ref 36) [Value.int _ _, Value.int _ _, Value.int _ _, Value.int _ _]) _ _ _); k_dflt (refine' set_use4 ?sd0 ?sd1 ?sd2 ?sd3 ?sd4 ?sd5 ?sd6 ?sdA ?sdB ?sdC ?sdD ?sdE ?sdF ?sdG ?sdH ?_; (case sdA => k_asm); (case sdB => k_asm); (case sdC => k_asm); (case sdD => k_asm); (case sdE => k_asm); (case sdF => first | exact rfl | assumption); (case sdG => ktr_room); (case sdH => ktr_units); (case sd0 => first | omega | exact fmod_lo _ (by decide)); (case sd1 => first | omega | exact fmod_hi _ (by decide)); (case sd2 => first | exact bd3 _ _ | omega); (case sd3 => first | exact bd4 _ _ | omega); (case sd4 => first | omega | exact fmod_lo _ (by decide)); (case sd5 => first | omega | exact fmod_hi _ (by decide)); (case sd6 => assumption)); intro t9 h9 tk9 F9 N9; (try dsimp only); (try k_fold)))
local macro_rules | `(tactic| walk_at "call ref") => `(tactic| ((rename LawMark => law9); (with_reducible show wpAny _ _ (call (Value.ref 36) [Value.int _ _, Value.int _ _, Value.int _ _]) _ _ _); k_dflt (refine' set_use3 ?sc0 ?sc1 ?sc2 ?sc3 ?sc4 ?scA ?scB ?scC ?scD ?scE ?scF ?scG ?scH ?_; (case scA => k_asm); (case scB => k_asm); (case scC => k_asm); (case scD => k_asm); (case scE => k_asm); (case scF => first | exact rfl | assumption); (case scG => ktr_room); (case scH => ktr_units); (case sc0 => first | omega | exact fmod_lo _ (by decide)); (case sc1 => first | omega | exact fmod_hi _ (by decide)); (case sc2 => first | omega | exact fmod_lo _ (by decide)); (case sc3 => first | omega | exact fmod_hi _ (by decide)); (case sc4 => assumption)); intro t9 h9 tk9 F9 N9; (try dsimp only); (try k_fold)))
local macro_rules | `(tactic| walk_at "call ref") => `(tactic| ((rename LawMark => law9); (with_reducible show wpAny _ _ (call (Value.ref 103) [Value.int _ _, Value.int _ _, Value.int _ _, Value.int _ _]) _ _ _); k_dflt (refine' setlaw_use ?sl0 ?sl1 ?sl2 ?sl3 ?slA ?slB ?slC ?slD ?slE ?slF ?slG ?slH ?_; (case slA => k_asm); (case slB => k_asm); (case slC => k_asm); (case slD => k_asm); (case slE => k_asm); (case slF => first | exact rfl | assumption); (case slG => ktr_room); (case slH => ktr_units); (case sl0 => first | omega | exact fmod_lo _ (by decide)); (case sl1 => first | omega | exact fmod_hi _ (by decide)); (case sl2 => first | exact bd3' _ _ | omega); (case sl3 => first | exact bd5 _ _ | omega)); intro t9 h9 tk9 F9 N9; (try dsimp only); (try k_fold)))
local macro_rules | `(tactic| walk_at "binaryOp Mod int int") => `(tactic| ((rename LawMark => law9); k_dflt (refine' mod_int' ?mi1 ?_; (case mi1 => exact bd6' _)); (try dsimp only)))
local macro_rules | `(tactic| walk_at "subscriptTail") => `(tactic| ((rename LawMark => law9); (with_reducible show wpAny _ _ (subscriptTail _ (PySem.Expr.Slice none none (some _) _) (Value.ref _) (Value.ref _)) _ _ _); k_dflt (refine' txt_rev ?tr1 ?tr2 ?tr3 ?tr4 ?tr5 ?tr6 ?_ ?tr7 ?tr8; (case tr1 => k_asm); (case tr2 => k_asm); (case tr3 => k_mem); (case tr4 => exact IsPart.int _ _); (case tr5 => assumption); (case tr6 => (rw [figs_len]; first | omega | exact cnt_le _ | exact cnt_le' _ | decide)); (case tr7 => with_unfolding_all rfl); (case tr8 => (intro _; with_unfolding_all rfl))); intro D9 ws9 h9 F9 N9 l9 hS9; (try k_lt l9); (try dsimp only)))
local macro_rules | `(tactic| walk_at "call builtin:str.join") => `(tactic| ((rename LawMark => law9); (with_reducible show wpAny _ _ (call (Value.builtin "str.join") [Value.str _ _, Value.ref _]) _ _ _); k_dflt (refine' txt_join (B := 1) (K := 64) ?tj1 ?tj2 ?tj3 ?tj4 ?tj5 ?tj6 (by decide) ?_; (case tj1 => k_asm); (case tj2 => k_mem); (case tj3 => assumption); (case tj4 => first | exact figs_one | exact figs_one_rev); (case tj5 => ((try rw [List.length_reverse]); rw [figs_len]; first | omega | exact cnt_le _ | exact cnt_le' _ | decide)); (case tj6 => decide)); intro t9 k9 hj9; (try dsimp only); (try k_fold)))
local macro_rules | `(tactic| walk_at "call builtin:str.join") => `(tactic| ((rename LawMark => law9); (dsimp only [List.cons_append, List.nil_append]); walk_at "call builtin:str.join"))
local macro_rules | `(tactic| walk_at "compareOp NotEq int int") => `(tactic| ((rename LawMark => law9); k_dflt (refine' ne_int_same ?ni1 ?_; (case ni1 => with_reducible rfl)); (try dsimp only)))
local macro_rules | `(tactic| walk_at "compareOp Eq int int") => `(tactic| ((rename LawMark => law9); k_dflt (refine' eq_int_same ?ni1 ?_; (case ni1 => with_reducible rfl)); (try dsimp only)))
theorem abcd_in : BytesIn (List.replicate 4 [97, 98, 99, 100]).flatten := by unfold BytesIn; decide
theorem figs16 (n : Int) (e : Str) : Txt.join e (figs n 16).reverse = Txt.join e (figs n (Int.toNat 16)).reverse := rfl
theorem dump_none : dumpS [] 16 (Str.ofString "") = Str.ofString "" := by decide +kernel
local macro_rules | `(tactic| walk_at "mine same") => `(tactic| first | (with_reducible exact dump_none) | (with_reducible exact figs16 _ _) | decide +kernel)
theorem lawX : PySem.Challenge.rw_aa6002_01.Holds := by
  refine Mine.hd ?_
  k_fill
  intro w s₀ s₁ mg mb G Y fa o pm cd doc dV kV ho hd hcd hD hmg hg args vals as hpre hlay hrd hwl hlo
  have KX := km_in_of Y
  km_tabs Y
  have X := (Ground.X G).1
  have V := (Ground.X G).2
  refine Ground.open G ?_
  intro T B D TE TW
  try (refine guard_noD D (by decide +kernel) ?_; clear D)
  km_lay T hmg ho hd cd
  clear hmg
  wrow_args hpre hlay hrd hwl hlo
  refine wpAny_gated ?_ ?_
  · refine enterC ?_
    w_top on
    (refine kn_postC hT9 (fun _ _ => rfl) ?_)
    (have he := Dflts.none hD rfl; subst he; have he := Dflts.noKw hD; subst he)
    refine codeC_cells (by decide) ho (fd_plain hd) (Top.nolimit T) hcd rfl (kinds_of (by kinds_ok)) (by decide) fun h₁ tk₁ cells F N0 X0 => ?_
    cells_open X0
    clear hd
    kn_ghosts F T
    k_drop
    have lMark := lawMark
    rename Fr _ _ _ _ => lF0
    replace lF0 := clean_fr lF0 (by with_unfolding_all rfl)
    refine law_cut3 lF0 ?_ ?_
    · refine wpC_execs (wpC_any ?_)
      k_steps
      dsimp only
      refine wpC_execs (wpC_any ?_)
      k_steps
      dsimp only
      refine wpC_execs (wpC_any ?_)
      k_steps
      refine wpC_nil ?_
      rename Fr _ _ _ _ => lF
      rename News _ _ _ _ => lN
      refine ⟨rfl, _, _, _, _, _, _, _, rfl, lF, lN, ?_, by assumption, by assumption, by assumption, ⟨_, by k_mem⟩⟩
      intro m news s' Q E place pos cpos ck h0 h1 F N sub ret
      have N2 := news_sub N sub
      simp only [List.cons_append, List.nil_append] at N2
      k_steps
      exact ret _ _ _ _ (by assumption) (by k_asm) (cb_drop (by assumption) (by kcj_all))
    · rintro s' ⟨h, tk, nw, f, D, ys, ns, rfl, F, N, hdraw, hO, hb, hl, ps, hps⟩
      refine law_cut6 F N hO ?_ ?_
      · refine wpC_execs (wpC_any ?_)
        k_steps
        dsimp only
        refine wpC_execs (wpC_Name (wpC_Call ?_))
        k_steps
        refine wpC_callType1 ?_
        k_steps
        rename Fr _ _ _ _ => lF
        rename News _ _ _ _ => lN
        refine call_ba_list rfl lF lN (by k_mem) hO hb (by rw [sizeLine_eq]; omega) ?_
        intro n' h2 F2 N2 l2
        have l3 := l2
        k_lt l3
        try (k_unfold; try dsimp only)
        first | walk1 | (dsimp only; walk1)
        dsimp only
        refine wpC_execs (wpC_If ?_)
        k_steps
        · refine wpC_execs (wpC_AssignSwap (wpC_Tuple (wpC_args (wpC_Call ?_))))
          k_steps
          refine wpC_callK (K := hd.heap_39 w.params) (by assumption) (by k_is) ?_
          k_steps
          try dsimp only [List.nil_append, List.cons_append]
          rename Fr _ _ _ _ => lF
          rename News _ _ _ _ => lN
          refine hex_use (hexargs1 w _) (.inl ⟨_, rfl⟩) hb hl (by decide) (by decide) (by decide) (by k_asm) lF (by k_asm) lN (by k_asm) rfl (fun _ e => nomatch e) (by ktr_room) (by ktr_units) ?_
          intro t9 h9 tk9 F9 N9
          k_steps
          try dsimp only
          repeat (refine wpC_nil ?_; try dsimp only)
          refine ⟨rfl, ?_⟩
          rename Fr _ _ _ _ => lF
          rename News _ _ _ _ => lN
          exact law_due lF lN (by with_unfolding_all rfl) (by with_unfolding_all rfl) (by with_unfolding_all rfl) (by with_unfolding_all rfl) (by with_unfolding_all rfl) (by k_mem) (by k_mem) (by intro p hp; kst_mem)
        · refine wpC_execs (wpC_If ?_)
          k_steps
          · refine wpC_execs (wpC_AssignSwap (wpC_Tuple (wpC_args (wpC_Call ?_))))
            k_steps
            refine wpC_callK (K := hd.heap_39 w.params) (by assumption) (by k_is) ?_
            k_steps
            try dsimp only [List.nil_append, List.cons_append]
            rename Fr _ _ _ _ => lF
            rename News _ _ _ _ => lN
            refine hex_use (hexargs2 w _ _ _) (.inr ⟨_, rfl⟩) hb hl (by omega) (by omega) (by decide) (by k_asm) lF (by k_asm) lN (by k_asm) rfl (fun _ e => by cases e; k_mem) (by ktr_room) (by ktr_units) ?_
            intro t9 h9 tk9 F9 N9
            k_steps
            try dsimp only
            repeat (refine wpC_nil ?_; try dsimp only)
            refine ⟨rfl, ?_⟩
            rename Fr _ _ _ _ => lF
            rename News _ _ _ _ => lN
            exact law_due lF lN (by with_unfolding_all rfl) (by with_unfolding_all rfl) (by with_unfolding_all rfl) (by with_unfolding_all rfl) (by with_unfolding_all rfl) (by k_mem) (by k_mem) (by intro p hp; kst_mem)
          · refine wpC_execs (wpC_AssignSwap (wpC_Tuple (wpC_args (wpC_Call ?_))))
            k_steps
            refine wpC_callK (K := hd.heap_39 w.params) (by assumption) (by k_is) ?_
            k_steps
            try dsimp only [List.nil_append, List.cons_append]
            rename Fr _ _ _ _ => lF
            rename News _ _ _ _ => lN
            refine hex_use (hexargs3 w _ _ _ _ _) (.inr ⟨_, rfl⟩) hb hl (by omega) (by omega) (by assumption) (by k_asm) lF (by k_asm) lN (by k_asm) rfl (fun _ e => by cases e; k_mem) (by ktr_room) (by ktr_units) ?_
            intro t9 h9 tk9 F9 N9
            k_steps
            try dsimp only
            repeat (refine wpC_nil ?_; try dsimp only)
            refine ⟨rfl, ?_⟩
            rename Fr _ _ _ _ => lF
            rename News _ _ _ _ => lN
            exact law_due lF lN (by with_unfolding_all rfl) (by with_unfolding_all rfl) (by with_unfolding_all rfl) (by with_unfolding_all rfl) (by with_unfolding_all rfl) (by k_mem) (by k_mem) (by intro p hp; kst_mem)
      · rintro s' ⟨h, tk, H, X, t1, t2, m0, rfl, F, N⟩
        refine wpC_execs (wpC_If_test (wpC_or (wpC_any ?_)))
        k_steps
        refine wpC_or (wpC_any ?_)
        k_steps
        refine wpC_or (wpC_Compare1 (wpC_Call ?_))
        k_steps
        refine wpC_callK (K := hd.heap_39 w.params) (by assumption) (by k_is) ?_
        k_steps
        try dsimp only [List.nil_append, List.cons_append]
        rename Fr _ _ _ _ => lF
        rename News _ _ _ _ => lN
        refine hex_use (ns := []) (hexargs1 w _) (.inl ⟨_, rfl⟩) (fun _ h => nomatch h) (by decide) (by decide) (by decide) (by decide) (by k_asm) lF (by k_asm) lN (by k_asm) rfl (fun _ e => nomatch e) (by ktr_room) (by ktr_units) ?_
        intro t9 h9 tk9 F9 N9
        k_steps
        refine wpC_any ?_
        k_steps
        try dsimp only
        refine wpC_execs (wpC_If_test (wpC_Compare1 (wpC_Call ?_)))
        k_steps
        refine wpC_callK (K := hd.heap_39 w.params) (by assumption) (by k_is) ?_
        k_steps
        try dsimp only [List.nil_append, List.cons_append]
        rename Fr _ _ _ _ => lF
        rename News _ _ _ _ => lN
        refine hex_use1 (ns := (List.replicate 4 [97, 98, 99, 100]).flatten) ?hb abcd_in (by decide) (by k_asm) lF (by k_asm) lN (by k_asm) rfl (by ktr_room) (by ktr_units) ?_
        case hb => decide +kernel
        intro t9 h9 tk9 F9 N9
        k_steps
        dsimp only
        refine wpC_any ?_
        repeat ((fail_if_success (with_reducible show GoodW _ _ _ _ _ _ _ ∧ _)); (first | (k_unfold; try dsimp only) | walk1 | (dsimp only; walk1)))
        rename Fr _ _ _ _ => lF
        rename News _ _ _ _ => lN
        refine ⟨goodW_bool lF hg (fun _ => rfl) ?_ rfl, GrownAt.of lN (by kst_mem), trivial⟩
        exact postW_of (by wrow_shape) (by wtm_val) (by str_meet; first | done | w_fin)
  · refine GoodW.toG ⟨.inl ⟨_, .bool true, [], rfl, fun _ => rfl, .bool true, ?_, unshared_nil⟩, fun _ _ e => e, rfl, hg⟩
    exact postW_of (by wrow_shape) (by wtm_val) (by str_meet; first | done | w_fin)
end Mine
theorem PySem.Challenge.cw_aa6002_01_holds : PySem.Challenge.rw_aa6002_01.Holds := by
  exact Mine.lawX
