import PyProof.Rows.All
import Wide.All
import OpenK.AllK
import Wide.FinOn
import PySem.Challenge.RW_gb0005_01
open PySem PySem.Calls PySem.W PyProof.Rows
set_option Elab.async false
set_option maxRecDepth 100000
set_option maxHeartbeats 8000000
namespace Mine
-- part Hd
open_top lawTop for PySem.Challenge.rw_gb0005_01

-- part W1

theorem div2n1n_spec {prog : Program} {w : World} {p : Program} {loose : List Str} {mean : ExcName → Option Value} {mg mb : Str → Option Value}
    (dp un : Nat) (gd : Option (List Code)) (cn : Str) (cs : Scope) (a : Addr) (ccd : Value) (cl : List (Str × Addr)) (outer : List Env) (A₀ : Around) (base h₀ : Heap) (L : Addr) (m : Str → Option Value) (s : Shared) (news : List (Addr × Obj)) (Q E : Value → Shared → Prop)
    (x y n : Int) (tx ty tn : Tok)
    (B : Below A₀ base outer h₀) (F : Fr h₀ L s.heap m) (X : (lawTop.heap_39 w.params).In h₀) (N : News h₀ L s.heap news) (T : Top p loose mean mg mb h₀) (hk : cs.kind = .function)
    (hx0 : 0 ≤ x) (hx1 : x < 2 ^ 40) (hy0 : 0 < y) (hy1 : y < 2 ^ 20) (hn0 : 0 ≤ n) (hn1 : n < 2 ^ 20)
    (hd : dp + 1 < recursionLimit) (hu : un + 8 < cLine)
    (hret : ∀ (r : Addr) (t1 t2 : Tok) (h' : Heap) (tk' : Nat), Fr h₀ L h' m → News h₀ L h' ((r, { cls := .type "tuple", data := .seq #[.int (x / y) t1, .int (x % y) t2] }) :: news) → (∀ q ∈ news, q.1 < r) → Q (.ref r) { s with heap := h', toks := tk' }) :
    wpAny (model prog w) (ktrTop dp un gd cn cs L a ccd cl outer) (call (.ref 48) [.int x tx, .int y ty, .int n tn]) Q E s := by
  have hf : PySem.Challenge.rw_gb0005_01 = PySem.Challenge.rw_gb0005_01 ∧ lawTop.heap_39 = lawTop.heap_39 := by
    k_fill
    exact ⟨rfl, rfl⟩
  clear hf
  w_top on
  have hbits : Builtin.Int.intBits x ≤ 64 := intBits_le_64 (by omega) (by omega)
  have hret' : ∀ (r : Addr) (t1 t2 : Tok) (h' : Heap) (tk' : Nat), Fr h₀ L h' m → News h₀ L h' ((r, { cls := .type "tuple", data := .seq #[.int (x.fdiv y) t1, .int (x.fmod y) t2] }) :: news) → (∀ q ∈ news, q.1 < r) → Q (.ref r) { s with heap := h', toks := tk' } := by
    rw [Int.fdiv_eq_ediv_of_nonneg _ (by omega), Int.fmod_eq_emod_of_nonneg _ (by omega)]
    exact hret
  refine wpAny_call ?_
  k_dflt cell_enter
  k_steps
  exact hret' _ _ _ _ _ (by k_asm) (by k_asm) (fun q hq => Heap.lt_size (by rename News _ _ _ news => N'; exact (N' q hq).1))
-- part W3
def Stop (P : Prop) : Prop := P
theorem stop_here {P : Prop} (h : Stop P) : P := h
theorem go_on {P : Prop} (h : P) : Stop P := h

def nestedIn (n : String) : List Stmt → Option (Arguments × List Stmt × Scope)
  | [] => none
  | .FunctionDef m ps b _ _ _ sc _ _ _ :: r => if m == Str.ofString n then some (ps, b, sc) else nestedIn n r
  | _ :: r => nestedIn n r
def defNamed (n : String) : List Stmt → List Stmt
  | [] => []
  | .FunctionDef m _ b _ _ _ _ _ _ _ :: r => if m == Str.ofString n then b else defNamed n r
  | _ :: r => defNamed n r
def i2dInner : Option (Arguments × List Stmt × Scope) := nestedIn "inner" (defNamed "_int2digits" PySem.Challenge.pw_gb0005_01.main.body)

/-- the digits of x, b bits each, laid from the place lo on -/
structure Laid (b : Nat) (x : Int) (lo k : Nat) (ds ds' : List Int) : Prop where
  len : ds'.length = ds.length
  inn : ∀ i, i < k → ds'.getD (lo + i) 0 = x / 2 ^ (b * i) % 2 ^ b
  low : ∀ i, i < lo → ds'.getD i 0 = ds.getD i 0
  high : ∀ i, lo + k ≤ i → ds'.getD i 0 = ds.getD i 0

theorem Laid.one {b : Nat} {x : Int} {lo : Nat} {ds : List Int} (h0 : 0 ≤ x) (h1 : x < 2 ^ b) (hl : lo < ds.length) : Laid b x lo 1 ds (ds.set lo x) := by
  refine ⟨List.length_set .., fun i hi => ?_, fun i hi => ?_, fun i hi => ?_⟩
  · obtain rfl : i = 0 := by omega
    rw [List.getD_eq_getElem?_getD, Nat.add_zero, List.getElem?_set_self hl]
    simp only [Option.getD_some, Nat.mul_zero, Int.pow_zero, Int.ediv_one]
    exact (Int.emod_eq_of_lt h0 h1).symm
  · rw [List.getD_eq_getElem?_getD, List.getElem?_set_ne (by omega), ← List.getD_eq_getElem?_getD]
  · rw [List.getD_eq_getElem?_getD, List.getElem?_set_ne (by omega), ← List.getD_eq_getElem?_getD]

theorem pow_pos2 (k : Nat) : (0 : Int) < 2 ^ k := Int.pow_pos (by decide)
theorem emod_three (x A B C : Int) (hA : A ≠ 0) : x % (A * (B * C)) / A % B = x / A % B := by
  have e : x % (A * (B * C)) = x + A * (B * -(C * (x / (A * (B * C))))) := by
    rw [Int.emod_def, Int.mul_neg, Int.mul_neg, ← Int.mul_assoc B C, ← Int.mul_assoc A (B * C)]
    rfl
  rw [e, Int.add_mul_ediv_left _ _ hA, Int.add_mul_emod_self_left]
theorem Laid.two {b : Nat} {x y z : Int} {lo k₁ k₂ : Nat} {ds ds₁ ds₂ : List Int} (h₁ : Laid b y lo k₁ ds ds₁) (h₂ : Laid b z (lo + k₁) k₂ ds₁ ds₂) (hy : y = x % 2 ^ (b * k₁)) (hz : z = x / 2 ^ (b * k₁)) :
    Laid b x lo (k₁ + k₂) ds ds₂ := by
  refine ⟨h₂.len.trans h₁.len, fun i hi => ?_, fun i hi => ?_, fun i hi => ?_⟩
  · by_cases c : i < k₁
    · rw [h₂.low _ (by omega), h₁.inn i c, hy]
      have e : (2 : Int) ^ (b * k₁) = 2 ^ (b * i) * (2 ^ b * 2 ^ (b * (k₁ - i - 1))) := by
        rw [← Int.pow_add, ← Int.pow_add]
        congr 1
        have : k₁ = i + 1 + (k₁ - i - 1) := by omega
        generalize k₁ - i - 1 = j at this
        subst this
        rw [Nat.mul_add, Nat.mul_add, Nat.mul_one, Nat.add_assoc]
      rw [e]
      exact emod_three _ _ _ _ (Int.ne_of_gt (pow_pos2 _))
    · obtain ⟨j, rfl⟩ : ∃ j, i = k₁ + j := ⟨i - k₁, by omega⟩
      have := h₂.inn j (by omega)
      rw [show lo + (k₁ + j) = lo + k₁ + j by omega, this, hz, Int.ediv_ediv_of_nonneg (by exact Int.le_of_lt (pow_pos2 _)), ← Int.pow_add, ← Nat.mul_add]
  · rw [h₂.low _ (by omega), h₁.low i hi]
  · rw [h₂.high _ (by omega), h₁.high i (by omega)]

theorem and_low (X S : Nat) : X &&& (X >>> S <<< S) = X >>> S <<< S := by
  apply Nat.eq_of_testBit_eq
  intro i
  rw [Nat.testBit_and, Nat.testBit_shiftLeft, Nat.testBit_shiftRight]
  by_cases h : S ≤ i
  · rw [show S + (i - S) = i by omega]; simp
  · simp [h]
theorem bitAnd_nat (X Y : Nat) : Builtin.bitAnd (X : Int) (Y : Int) = ((X &&& Y : Nat) : Int) := by
  unfold Builtin.bitAnd
  rw [decide_eq_true (Int.natCast_nonneg X), decide_eq_true (Int.natCast_nonneg Y)]
  rfl
theorem xor_low (x : Int) (S : Nat) (h : 0 ≤ x) : Builtin.bitXor x (x / 2 ^ S * 2 ^ S) = x % 2 ^ S := by
  obtain ⟨X, rfl⟩ := Int.eq_ofNat_of_zero_le h
  have e : ((X : Int) / 2 ^ S * 2 ^ S) = ((X >>> S <<< S : Nat) : Int) := by
    rw [Nat.shiftLeft_eq, Nat.shiftRight_eq_div_pow]
    push_cast
    rfl
  rw [bitXor_and, e]
  have a : Builtin.bitAnd (X : Int) ((X >>> S <<< S : Nat) : Int) = ((X >>> S <<< S : Nat) : Int) := by
    rw [bitAnd_nat, and_low]
  rw [a, ← e]
  have := Int.emod_def (X : Int) (2 ^ S)
  rw [this, Int.mul_comm (2 ^ S)]
  omega

def I2dSpec (prog : Program) (w : World) (p : Program) (loose : List Str) (mean : ExcName → Option Value) (mg mb : Str → Option Value) (params : Arguments) (body : List Stmt) (scope : Scope) (b k : Nat) : Prop :=
  ∀ (dp un : Nat) (gd : Option (List Code)) (cn : Str) (cs : Scope) (a : Addr) (ccd : Value) (cl : List (Str × Addr)) (outer : List Env) (A₀ : Around) (base h₀ : Heap) (L : Addr) (m : Str → Option Value) (s : Shared) (rest : List (Addr × Obj)) (Q E : Value → Shared → Prop)
    (x lo hi : Int) (tx tl th tn : Tok) (f dl ca cf c3 c' : Addr) (qual : Str) (oa of on oc : Obj) (doc pm ctv : Value) (vs : List Value) (ds : List Int) (fs : Array Value) (ep : Nat) (tq : Tok)
    (un_B : Below A₀ base outer h₀) (un_F : Fr h₀ L s.heap m) (un_X : (lawTop.heap_39 w.params).In h₀) (un_N : News h₀ L s.heap ((dl, W.listOf vs.toArray ep) :: rest)) (un_T : Top p loose mean mg mb h₀) (un_hk : cs.kind = .function)
    (un_C57 : CodeHd base 61 57) (un_hne : ∀ q ∈ rest, q.1 ≠ dl)
    (un_mf : (f, fnMade (Str.ofString "inner") qual params body scope [(Str.ofString "n", c3), (Str.ofString "inner", cf), (Str.ofString "a_digits", ca)] doc pm c' ctv) ∈ rest)
    (un_ma : (ca, oa) ∈ rest) (un_da : oa.data = .cell (some (.ref dl))) (un_mi : (cf, of) ∈ rest) (un_di : of.data = .cell (some (.ref f))) (un_mn : (c3, on) ∈ rest) (un_dn : on.data = .cell (some (.int (b : Nat) tn)))
    (un_mc : (c', oc) ∈ rest) (un_dc : oc.data = .fields fs) (un_dq : fs[1]? = some (.str qual tq)) (un_hi : IntsAre vs ds)
    (un_hx0 : 0 ≤ x) (un_hx1 : x < 2 ^ (b * k)) (un_hx2 : x < 2 ^ 40) (un_hlo : 0 ≤ lo) (un_hlh : hi = lo + k) (un_hhi : hi ≤ ds.length) (un_hds : ds.length ≤ 100)
    (un_hd : dp + k + 1 < recursionLimit) (un_hu : un + 8 * (k + 1) < cLine)
    (un_hret : ∀ vs' ds' h' tk', Fr h₀ L h' m → News h₀ L h' ((dl, W.listOf vs'.toArray ep) :: rest) → IntsAre vs' ds' → Laid b x lo.toNat k ds ds' → Q .none { s with heap := h', toks := tk' }),
    wpAny (model prog w) (ktrTop dp un gd cn cs L a ccd cl outer) (call (.ref f) [.int x tx, .int lo tl, .int hi th]) Q E s

local macro_rules | `(tactic| walk_at "call ref") => `(tactic| ((with_reducible show wpAny _ _ (PySem.call (Value.ref _) [_, _, _]) _ _ _); refine stop_here ?_))
local macro_rules | `(tactic| k_mem) => `(tactic| first | exact List.mem_cons_of_mem _ (by assumption) | assumption)
local macro_rules | `(tactic| k_enter) => `(tactic| (refine' code_nest ?k1 ?k2 ?k3 ?k4 ?k5 ?kA ?kF ?kK ?k6 ?k7 ?k8 ?k9 ?kB ?_ ?c2 ?c3 ?c4 ?c5; (case kA => exact rfl); (case kF => exact rfl); (case kK => assumption); (case k1 => k_asm); (case k2 => k_asm); (case k3 => k_asm); (case k4 => k_asm); (case k5 => k_asm); (case k6 => k_mem); (case k7 => exact codeRec_news (by k_asm) (by k_mem) (by assumption) (by assumption)); (case k8 => (dsimp only [ktrTop]; omega)); (case k9 => exact BindsTo.of_eq rfl); (case c5 => decide); (case kB => exact locs rfl); (case c2 => exact rfl); (case c3 => exact rfl); (case c4 => exact rfl); k_whole; intro g' L' h' FG' F' N' B' X' T'; (try dsimp only); (try k_lift B'); (try k_fold)))
section
local macro_rules | `(tactic| k_upd) => `(tactic| exact Upd.head (by assumption))

theorem i2d_inner {prog : Program} {w : World} {p : Program} {loose : List Str} {mean : ExcName → Option Value} {mg mb : Str → Option Value} 
    {params : Arguments} {body : List Stmt} {scope : Scope} (hb : i2dInner = some (params, body, scope)) (b : Nat) (hb0 : 0 < b) (hb1 : b ≤ 64) (k : Nat) (hk1 : 0 < k) (ih : ∀ j, 0 < j → j < k → I2dSpec prog w p loose mean mg mb params body scope b j) :
    I2dSpec prog w p loose mean mg mb params body scope b k := by
  have hf : PySem.Challenge.rw_gb0005_01 = PySem.Challenge.rw_gb0005_01 ∧ lawTop.heap_39 = lawTop.heap_39 := by
    k_fill
    exact ⟨rfl, rfl⟩
  clear hf
  w_top on
  conv at hb => lhs; whnf
  obtain ⟨rfl, rfl, rfl⟩ := hb
  unfold I2dSpec
  intro dp un gd cn cs a ccd cl outer A₀ base h₀ L m s rest Q E x lo hi tx tl th tn f dl ca cf c3 c' qual oa of on oc doc pm ctv vs ds fs ep tq B F X N T hk C57 hne mf ma da mi di mn dn mc dc dq hi' hx0 hx1 hx2 hlo hlh hhi hds hd hu hret
  have hM : lo + 1 ≠ hi → lo < (lo + hi).fdiv (2 ^ Int.toNat 1) ∧ (lo + hi).fdiv (2 ^ Int.toNat 1) < hi := fun c => by
    rw [show (2 : Int) ^ Int.toNat 1 = 2 from rfl, Int.fdiv_eq_ediv_of_nonneg _ (by omega)]
    omega
  have hS : lo + 1 ≠ hi → 0 ≤ ((lo + hi).fdiv (2 ^ Int.toNat 1) - lo) * (b : Nat) ∧ ((lo + hi).fdiv (2 ^ Int.toNat 1) - lo) * (b : Nat) ≤ 6400 := fun c => by
    have := hM c
    exact ⟨Int.mul_nonneg (by omega) (by omega), Int.le_trans (Int.mul_le_mul (c := 100) (d := 64) (by omega) (by omega) (by omega) (by omega)) (by omega)⟩
  have hU : ∀ j : Nat, (x.fdiv (2 ^ j)).natAbs < 2 ^ 64 := fun j => by
    rw [Int.fdiv_eq_ediv_of_nonneg _ (Int.le_of_lt (pow_pos2 j))]
    have h1 : 0 ≤ x / 2 ^ j := Int.ediv_nonneg hx0 (Int.le_of_lt (pow_pos2 j))
    have h2 : x / 2 ^ j ≤ x := Int.ediv_le_self _ hx0
    omega
  have hU' := hU (((lo + hi).fdiv (2 ^ Int.toNat 1) - lo) * (b : Nat)).toNat
  have hlen := hi'.length
  refine wpAny_call ?_
  k_dflt k_enter
  k_steps
  · obtain rfl : k = 1 := by omega
    exact hret _ _ _ _ (by k_asm) (by k_asm) (by assumption) (Laid.one hx0 (by rw [Nat.mul_one] at hx1; exact hx1) (by omega))
  · rename lo + 1 ≠ hi => c
    have c2 := hM c
    obtain ⟨k₁, e1⟩ : ∃ k₁ : Nat, (lo + hi).fdiv (2 ^ Int.toNat 1) = lo + k₁ := ⟨((lo + hi).fdiv (2 ^ Int.toNat 1) - lo).toNat, by omega⟩
    have e2 : (((lo + (k₁ : Int)) - lo) * (b : Nat)).toNat = b * k₁ := by
      rw [show lo + (k₁ : Int) - lo = k₁ by omega, ← Int.natCast_mul, Int.toNat_natCast, Nat.mul_comm]
    have e3 : x.fdiv (2 ^ (b * k₁)) = x / 2 ^ (b * k₁) := Int.fdiv_eq_ediv_of_nonneg _ (Int.le_of_lt (pow_pos2 _))
    have e4 := xor_low x (b * k₁) hx0
    have e5 := Int.emod_nonneg x (Int.ne_of_gt (pow_pos2 (b * k₁)))
    have e6 := Int.emod_lt_of_pos x (pow_pos2 (b * k₁))
    have e7 : x % 2 ^ (b * k₁) ≤ x := by have := Int.emod_add_mul_ediv x (2 ^ (b * k₁)); have := Int.mul_nonneg (Int.le_of_lt (pow_pos2 (b * k₁))) (Int.ediv_nonneg hx0 (Int.le_of_lt (pow_pos2 (b * k₁)))); omega
    have ih1 := ih k₁ (by omega) (by omega)
    unfold I2dSpec at ih1
    rw [e1, e2, e3, e4]
    refine go_on ?_
    refine ih1 _ _ _ _ _ _ _ _ _ _ _ _ _ _ _ _ _ _ _ _ _ _ _ _ _ _ _ _ _ _ _ _ _ _ _ _ _ _ _ _ _ _ _ _ (by k_asm) (by k_asm) (by k_asm) (by k_asm) (by k_asm) rfl C57 hne mf ma da mi di mn dn mc dc dq hi' e5 e6 (by omega) hlo rfl (by omega) hds (by (try dsimp only [ktrTop]); omega) (by (try dsimp only [ktrTop]); omega) ?_
    intro vs₁ ds₁ h₁ tk₁ F₁ N₁ hi₁ la₁
    k_steps
    have ih2 := ih (k - k₁) (by omega) (by omega)
    unfold I2dSpec at ih2
    rw [e1, e2, e3]
    refine go_on ?_
    have l₁ := la₁.len
    have p1 : (2 : Int) ^ (b * k) = 2 ^ (b * k₁) * 2 ^ (b * (k - k₁)) := by rw [← Int.pow_add, ← Nat.mul_add, show k₁ + (k - k₁) = k by omega]
    have p2 : 0 ≤ x / 2 ^ (b * k₁) := Int.ediv_nonneg hx0 (Int.le_of_lt (pow_pos2 _))
    have p3 : x / 2 ^ (b * k₁) < 2 ^ (b * (k - k₁)) := Int.ediv_lt_of_lt_mul (pow_pos2 _) (by rw [Int.mul_comm, ← p1]; exact hx1)
    have p4 : x / 2 ^ (b * k₁) ≤ x := Int.ediv_le_self _ hx0
    refine ih2 _ _ _ _ _ _ _ _ _ _ _ _ _ _ _ _ _ _ _ _ _ _ _ _ _ _ _ _ _ _ _ _ _ _ _ _ _ _ _ _ _ _ _ _ (by k_asm) (by k_asm) (by k_asm) (by k_asm) (by k_asm) rfl C57 hne mf ma da mi di mn dn mc dc dq hi₁ p2 p3 (by omega) (by omega) (by omega) (by omega) (by omega) (by (try dsimp only [ktrTop]); omega) (by (try dsimp only [ktrTop]); omega) ?_
    intro vs₂ ds₂ h₂ tk₂ F₂ N₂ hi₂ la₂
    k_steps
    refine hret _ _ _ _ (by k_asm) (by k_asm) hi₂ ?_
    rw [show (lo + (k₁ : Int)).toNat = lo.toNat + k₁ by omega] at la₂
    have := Laid.two la₁ la₂ rfl rfl
    rwa [show k₁ + (k - k₁) = k by omega] at this

theorem i2d_all {prog : Program} {w : World} {p : Program} {loose : List Str} {mean : ExcName → Option Value} {mg mb : Str → Option Value} 
    {params : Arguments} {body : List Stmt} {scope : Scope} (hb : i2dInner = some (params, body, scope)) (b : Nat) (hb0 : 0 < b) (hb1 : b ≤ 64) : ∀ k, 0 < k → I2dSpec prog w p loose mean mg mb params body scope b k := by
  intro k
  induction k using Nat.strongRecOn with
  | ind k ih => exact fun hk => i2d_inner hb b hb0 hb1 k hk fun j h0 hj => ih j hj h0
end
-- part W4

def dig (b : Nat) (x : Int) (i : Nat) : Int := x / 2 ^ (b * i) % 2 ^ b
def nd (b : Nat) (x : Int) : Nat := (Builtin.Int.intBits x + b - 1) / b
def digs (b : Nat) (x : Int) : List Int := (List.range (nd b x)).map (dig b x)
theorem lt_bits (x : Int) (h : 0 ≤ x) : x < 2 ^ Builtin.Int.intBits x := by
  unfold Builtin.Int.intBits
  obtain ⟨X, rfl⟩ := Int.eq_ofNat_of_zero_le h
  split
  · rename_i h; simp at h; omega
  · have := @Nat.lt_log2_self X
    have e : ((X : Int)).natAbs = X := Int.natAbs_natCast X
    rw [e]
    exact_mod_cast this
theorem nd_le (b : Nat) (hb : 0 < b) (x : Int) : nd b x ≤ Builtin.Int.intBits x := by
  unfold nd
  generalize Builtin.Int.intBits x = k
  apply Nat.le_of_lt_succ
  rw [Nat.div_lt_iff_lt_mul hb, Nat.succ_mul]
  have : k ≤ k * b := Nat.le_mul_of_pos_right k hb
  omega
theorem lt_nd (b : Nat) (hb : 0 < b) (x : Int) (h : 0 ≤ x) : x < 2 ^ (b * nd b x) := by
  refine Int.lt_of_lt_of_le (lt_bits x h) ?_
  unfold nd
  generalize Builtin.Int.intBits x = k
  have h1 : k ≤ b * ((k + b - 1) / b) := by
    have := Nat.div_add_mod (k + b - 1) b
    have := Nat.mod_lt (k + b - 1) hb
    omega
  exact_mod_cast Nat.pow_le_pow_right (by decide : 0 < 2) h1
theorem nd_zero (b : Nat) (hb : 0 < b) : nd b 0 = 0 := by
  unfold nd Builtin.Int.intBits
  simp
  omega
theorem nd_pos (b : Nat) (hb : 0 < b) (x : Int) (h : 0 < x) : 0 < nd b x := by
  rcases Nat.eq_zero_or_pos (nd b x) with e | e
  · have := lt_nd b hb x (by omega)
    rw [e, Nat.mul_zero, Int.pow_zero] at this
    omega
  · exact e
theorem digs_zero (b : Nat) (hb : 0 < b) : digs b 0 = [] := by
  unfold digs
  rw [nd_zero b hb]
  rfl
theorem laid_digs {b : Nat} {x : Int} {ds ds' : List Int} (h : Laid b x 0 (nd b x) ds ds') (hl : ds.length = nd b x) : ds' = digs b x := by
  have l' : ds'.length = nd b x := h.len.trans hl
  apply List.ext_getElem
  · rw [l', digs, List.length_map, List.length_range]
  · intro i h1 h2
    have := h.inn i (by omega)
    rw [Nat.zero_add, List.getD_eq_getElem?_getD, List.getElem?_eq_getElem h1] at this
    simp only [Option.getD_some] at this
    rw [this]
    simp only [digs, List.getElem_map, List.getElem_range]
    rfl
theorem news_front {h₀ h : Heap} {L : Addr} {x : Addr × Obj} {a b : List (Addr × Obj)} (N : News h₀ L h (a ++ x :: b)) : News h₀ L h (x :: (a ++ b)) := fun p hp => N p (by
  simp only [List.mem_cons, List.mem_append] at hp ⊢
  rcases hp with h | h | h
  · exact .inr (.inl h)
  · exact .inl h
  · exact .inr (.inr h))
theorem rest_ne {rest : List (Addr × Obj)} {L d : Nat} (h : ∀ p ∈ rest, p.1 < L) (hle : L ≤ d) : ∀ p ∈ rest, p.1 ≠ d := fun p hp => Nat.ne_of_lt (Nat.lt_of_lt_of_le (h p hp) hle)
theorem of_allLt {d : Addr} : ∀ {l : List (Addr × Obj)}, AllLt d l → ∀ p ∈ l, p.1 < d
  | [], _, _, h => nomatch h
  | _ :: _, x, p, h => by
    rcases List.mem_cons.mp h with rfl | h
    · exact x.1
    · exact of_allLt x.2 p h
abbrev tab57 (c : Addr) : Obj := tabObj #[rawInt 79, rawInt 4, .ref c]
abbrev qual57 : Str := (Str.ofString "_int2digits" ++ (".<locals>." : Str)) ++ Str.ofString "inner"

local macro_rules | `(tactic| k_enter) => `(tactic| (refine' code_defC ?k1 ?k2 ?k3 ?k4 ?k5 ?kA ?kF ?kK ?k6 ?k7 ?k8 ?k9 ?kB ?kD ?_ ?c2 ?c3 ?c4; (case kA => exact rfl); (case kF => exact rfl); (case kK => assumption); (case k1 => k_asm); (case k2 => k_asm); (case k3 => k_asm); (case k4 => k_asm); (case k5 => k_asm); (case k6 => k_is); (case k7 => k_is); (case k8 => ktr_room); (case k9 => exact BindsTo.of_eq rfl); (case kB => exact rfl); (case kD => decide +kernel); (case c2 => exact rfl); (case c3 => exact rfl); (case c4 => exact rfl); k_whole; intro g' L' h' tk' cells' FG' F' N' Y' B' X' T' l1; (try k_lt l1); k_cells Y'; (try simp only [List.cons_append, List.nil_append] at N'); (try dsimp only); (try k_lift B'); (try k_fold)))
local macro_rules | `(tactic| k_all) => `(tactic| first | assumption | exact rest_ne (by assumption) (by omega) | fail "k_all")
section
local macro_rules | `(tactic| k_mem) => `(tactic| assumption)

theorem int2digits_spec {prog : Program} {w : World} {p : Program} {loose : List Str} {mean : ExcName → Option Value} {mg mb : Str → Option Value}
    (dp un : Nat) (gd : Option (List Code)) (cn : Str) (cs : Scope) (a : Addr) (ccd : Value) (cl : List (Str × Addr)) (outer : List Env) (A₀ : Around) (base h₀ : Heap) (L : Addr) (m : Str → Option Value) (s : Shared) (rest : List (Addr × Obj)) (Q E : Value → Shared → Prop)
    (x : Int) (b : Nat) (tx tn : Tok) (pi : Obj)
    (B : Below A₀ base outer h₀) (F : Fr h₀ L s.heap m) (X : (lawTop.heap_39 w.params).In h₀) (N : News h₀ L s.heap ((57, pi) :: rest)) (T : Top p loose mean mg mb h₀) (hk : cs.kind = .function)
    (C57 : CodeHd base 61 57) (hne : ∀ q ∈ rest, q.1 ≠ 57)
    (ht : pi = tabObj #[] ∨ ∃ (c : Nat) (oc : Obj) (fs : Array Value) (tq : Tok), pi = tab57 c ∧ (c, oc) ∈ rest ∧ oc.data = .fields fs ∧ fs[1]? = some (.str qual57 tq) ∧ 57 < c)
    (hx0 : 0 ≤ x) (hx1 : x < 2 ^ 40) (hb0 : 0 < b) (hb1 : b ≤ 64)
    (hd : dp + 100 < recursionLimit) (hu : un + 1000 < cLine)
    (hret : ∀ (r : Nat) (vs : List Value) (c : Nat) (oc : Obj) (fs : Array Value) (tq : Tok) (h' : Heap) (tk' : Nat), Fr h₀ L h' m → News h₀ L h' ((r, W.listOf vs.toArray 0) :: (57, tab57 c) :: (c, oc) :: rest) → IntsAre vs (digs b x) →
      oc.data = .fields fs → fs[1]? = some (.str qual57 tq) → (∀ q ∈ rest, q.1 < r) → 57 < r → 57 < c → c ≠ r → (pi = tab57 c ∨ ∀ q ∈ rest, q.1 < c) → Q (.ref r) { s with heap := h', toks := tk' }) :
    wpAny (model prog w) (ktrTop dp un gd cn cs L a ccd cl outer) (call (.ref 62) [.int x tx, .int (b : Nat) tn]) Q E s := by
  have hf : PySem.Challenge.rw_gb0005_01 = PySem.Challenge.rw_gb0005_01 ∧ lawTop.heap_39 = lawTop.heap_39 := by
    k_fill
    exact ⟨rfl, rfl⟩
  clear hf
  w_top on
  have hbits : Builtin.Int.intBits x ≤ 64 := intBits_le_64 (by omega) (by omega)
  have hnd := nd_le b hb0 x
  have hD : ((Builtin.Int.intBits x : Int) + (b : Nat) - 1).fdiv (b : Nat) = (nd b x : Nat) := by
    rw [Int.fdiv_eq_ediv_of_nonneg _ (by omega)]
    unfold nd
    rw [Int.natCast_ediv]
    congr 1
    omega
  rcases ht with rfl | ⟨c₀, oc₀, fs₀, tq₀, rfl, mc₀, dc₀, dq₀, hc₀⟩
  · refine wpAny_call ?_
    k_dflt k_enter
    rename 57 < _ ∧ AllLt _ rest => l57
    have lr := of_allLt l57.2
    have l57 := l57.1
    k_steps
    · rename News _ _ _ ((_, fnMade _ _ _ _ _ _ _ _ _ _) :: _) => N8
      rename x ≠ 0 => hxn
      have hp := nd_pos b hb0 x (by omega)
      have N9 := news_front (a := [_, _]) N8
      simp only [List.cons_append, List.nil_append] at N9
      have i2 := i2d_all (prog := prog) (w := w) (p := p) (loose := loose) (mean := mean) (mg := mg) (mb := mb) (by rfl) b hb0 hb1 (nd b x) hp
      unfold I2dSpec at i2
      refine go_on ?_
      refine i2 _ _ _ _ _ _ _ _ _ _ _ _ _ _ _ _ _ _ _ _ _ _ _ _ _ _ _ _ _ _ _ _ _ _ _ _ _ _ _ _ _ _ _ _ (by k_asm) (by k_asm) (by k_asm) N9 (by k_asm) rfl C57 (by k_all) (by k_mem) (by k_mem) (by k_asm) (by k_mem) (by k_asm) (by k_mem) (by k_asm) (by k_mem) (by assumption) (by assumption) (by assumption) hx0 (lt_nd b hb0 x hx0) hx1 (by omega) (by omega) (by omega) (by omega) (by (try dsimp only [ktrTop]); omega) (by (try dsimp only [ktrTop]); omega) ?_
      intro vs₁ ds₁ h₁ tk₁ F₁ N₁ hi₁ la₁
      k_steps
      have e5 := laid_digs la₁ (by omega)
      subst e5
      exact hret _ _ _ _ _ _ _ _ (by k_asm) (cb_drop (by k_asm) (List.forall_mem_cons.mpr ⟨by k_mem, List.forall_mem_cons.mpr ⟨by k_mem, List.forall_mem_cons.mpr ⟨by k_mem, by intro p hp; repeat (first | exact hp | apply List.mem_cons_of_mem)⟩⟩⟩)) hi₁ (by assumption) (by assumption) (fun q hq => Nat.lt_of_lt_of_le (lr q hq) (by omega)) (by omega) (by omega) (by omega) (.inr fun q hq => Nat.lt_of_lt_of_le (lr q hq) (by omega))
    · rename x = 0 => hxn
      rename IntsAre _ (List.flatten _) => i1
      have e5 : (((Builtin.Int.intBits x : Int) + (b : Nat) - 1).fdiv (b : Nat)).toNat = 0 := by rw [hD, hxn, nd_zero b hb0]; rfl
      have e6 : digs b x = [] := by rw [hxn, digs_zero b hb0]
      exact hret _ _ _ _ _ _ _ _ (by k_asm) (cb_drop (by k_asm) (List.forall_mem_cons.mpr ⟨by k_mem, List.forall_mem_cons.mpr ⟨by k_mem, List.forall_mem_cons.mpr ⟨by k_mem, by intro p hp; repeat (first | exact hp | apply List.mem_cons_of_mem)⟩⟩⟩)) (by rw [e6]; rw [e5] at i1 ⊢; exact i1) (by assumption) (by assumption) (fun q hq => Nat.lt_of_lt_of_le (lr q hq) (by omega)) (by omega) (by omega) (by omega) (.inr fun q hq => Nat.lt_of_lt_of_le (lr q hq) (by omega))
  · refine wpAny_call ?_
    k_dflt k_enter
    rename 57 < _ ∧ AllLt _ rest => l57
    have lr := of_allLt l57.2
    have l57 := l57.1
    have lc : @LT.lt Nat _ c₀ _ := lr _ mc₀
    k_steps
    · rename News _ _ _ ((_, fnMade _ _ _ _ _ _ _ _ _ _) :: _) => N8
      rename x ≠ 0 => hxn
      have hp := nd_pos b hb0 x (by omega)
      have N9 := news_front (a := [_]) N8
      simp only [List.cons_append, List.nil_append] at N9
      have i2 := i2d_all (prog := prog) (w := w) (p := p) (loose := loose) (mean := mean) (mg := mg) (mb := mb) (by rfl) b hb0 hb1 (nd b x) hp
      unfold I2dSpec at i2
      refine go_on ?_
      refine i2 _ _ _ _ _ _ _ _ _ _ _ _ _ _ _ _ _ _ _ _ _ _ _ _ _ _ _ _ _ _ _ _ _ _ _ _ _ _ _ _ _ _ _ _ (by k_asm) (by k_asm) (by k_asm) N9 (by k_asm) rfl C57 (by k_all) (by k_mem) (by k_mem) (by k_asm) (by k_mem) (by k_asm) (by k_mem) (by k_asm) (by k_mem) (by assumption) (by assumption) (by assumption) hx0 (lt_nd b hb0 x hx0) hx1 (by omega) (by omega) (by omega) (by omega) (by (try dsimp only [ktrTop]); omega) (by (try dsimp only [ktrTop]); omega) ?_
      intro vs₁ ds₁ h₁ tk₁ F₁ N₁ hi₁ la₁
      k_steps
      have e5 := laid_digs la₁ (by omega)
      subst e5
      exact hret _ _ _ _ _ _ _ _ (by k_asm) (cb_drop (by k_asm) (List.forall_mem_cons.mpr ⟨by k_mem, List.forall_mem_cons.mpr ⟨by k_mem, List.forall_mem_cons.mpr ⟨by k_mem, by intro p hp; repeat (first | exact hp | apply List.mem_cons_of_mem)⟩⟩⟩)) hi₁ (by assumption) (by assumption) (fun q hq => Nat.lt_of_lt_of_le (lr q hq) (by omega)) (by omega) (by omega) (by omega) (.inl rfl)
    · rename x = 0 => hxn
      rename IntsAre _ (List.flatten _) => i1
      have e5 : (((Builtin.Int.intBits x : Int) + (b : Nat) - 1).fdiv (b : Nat)).toNat = 0 := by rw [hD, hxn, nd_zero b hb0]; rfl
      have e6 : digs b x = [] := by rw [hxn, digs_zero b hb0]
      exact hret _ _ _ _ _ _ _ _ (by k_asm) (cb_drop (by k_asm) (List.forall_mem_cons.mpr ⟨by k_mem, List.forall_mem_cons.mpr ⟨by k_mem, List.forall_mem_cons.mpr ⟨by k_mem, by intro p hp; repeat (first | exact hp | apply List.mem_cons_of_mem)⟩⟩⟩)) (by rw [e6]; rw [e5] at i1 ⊢; exact i1) (by assumption) (by assumption) (fun q hq => Nat.lt_of_lt_of_le (lr q hq) (by omega)) (by omega) (by omega) (by omega) (.inl rfl)
end
-- part W5

def d2iInner : Option (Arguments × List Stmt × Scope) := nestedIn "inner" (defNamed "_digits2int" PySem.Challenge.pw_gb0005_01.main.body)

/-- the number that the digits from the place lo on tell, k of them, b bits each -/
def val (b : Nat) (ds : List Int) : Nat → Nat → Int
  | _, 0 => 0
  | lo, k + 1 => ds.getD lo 0 + 2 ^ b * val b ds (lo + 1) k
theorem val_add (b : Nat) (ds : List Int) : ∀ (k₁ lo k₂ : Nat), val b ds lo (k₁ + k₂) = val b ds lo k₁ + 2 ^ (b * k₁) * val b ds (lo + k₁) k₂
  | 0, lo, k₂ => by simp [val]
  | k₁ + 1, lo, k₂ => by
    rw [show k₁ + 1 + k₂ = (k₁ + k₂) + 1 by omega]
    simp only [val]
    rw [val_add b ds k₁ (lo + 1) k₂, show lo + 1 + k₁ = lo + (k₁ + 1) by omega, Nat.mul_succ, Nat.add_comm (b * k₁) b, Int.pow_add, Int.mul_add, Int.mul_assoc, Int.add_assoc]
theorem val_nonneg (b : Nat) (ds : List Int) (h : ∀ i, 0 ≤ ds.getD i 0) : ∀ k lo, 0 ≤ val b ds lo k
  | 0, _ => Int.le_refl _
  | k + 1, lo => by
    have := Int.mul_nonneg (Int.le_of_lt (pow_pos2 b)) (val_nonneg b ds h k (lo + 1))
    have := h lo
    simp only [val]
    omega
theorem val_lt (b : Nat) (ds : List Int) (h : ∀ i, ds.getD i 0 < 2 ^ b) : ∀ k lo, val b ds lo k < 2 ^ (b * k)
  | 0, _ => by simp [val]
  | k + 1, lo => by
    have h1 := val_lt b ds h k (lo + 1)
    have h2 := h lo
    simp only [val]
    rw [Nat.mul_succ, Nat.add_comm (b * k) b, Int.pow_add]
    have h3 : (2 : Int) ^ b * (val b ds (lo + 1) k + 1) ≤ 2 ^ b * 2 ^ (b * k) := Int.mul_le_mul_of_nonneg_left (by omega) (Int.le_of_lt (pow_pos2 b))
    rw [Int.mul_add, Int.mul_one] at h3
    omega

def D2iSpec (prog : Program) (w : World) (p : Program) (loose : List Str) (mean : ExcName → Option Value) (mg mb : Str → Option Value) (params : Arguments) (body : List Stmt) (scope : Scope) (b k : Nat) : Prop :=
  ∀ (dp un : Nat) (gd : Option (List Code)) (cn : Str) (cs : Scope) (a : Addr) (ccd : Value) (cl : List (Str × Addr)) (outer : List Env) (A₀ : Around) (base h₀ : Heap) (L : Addr) (m : Str → Option Value) (s : Shared) (rest : List (Addr × Obj)) (Q E : Value → Shared → Prop)
    (lo hi : Int) (tl th tn : Tok) (f dl ca cf c3 c' : Addr) (qual : Str) (oa of on oc : Obj) (doc pm ctv : Value) (vs : List Value) (ds : List Int) (fs : Array Value) (ep : Nat) (tq : Tok)
    (un_B : Below A₀ base outer h₀) (un_F : Fr h₀ L s.heap m) (un_X : (lawTop.heap_39 w.params).In h₀) (un_N : News h₀ L s.heap rest) (un_T : Top p loose mean mg mb h₀) (un_hk : cs.kind = .function)
    (un_C57 : CodeHd base 61 57) (un_ml : (dl, W.listOf vs.toArray ep) ∈ rest)
    (un_mf : (f, fnMade (Str.ofString "inner") qual params body scope [(Str.ofString "n", c3), (Str.ofString "inner", cf), (Str.ofString "digits", ca)] doc pm c' ctv) ∈ rest)
    (un_ma : (ca, oa) ∈ rest) (un_da : oa.data = .cell (some (.ref dl))) (un_mi : (cf, of) ∈ rest) (un_di : of.data = .cell (some (.ref f))) (un_mn : (c3, on) ∈ rest) (un_dn : on.data = .cell (some (.int (b : Nat) tn)))
    (un_mc : (c', oc) ∈ rest) (un_dc : oc.data = .fields fs) (un_dq : fs[1]? = some (.str qual tq)) (un_hi : IntsAre vs ds)
    (un_hp : ∀ i, 0 ≤ ds.getD i 0) (un_hq : ∀ i, ds.getD i 0 < 2 ^ b) (un_hbk : b * k ≤ 62) (un_hlo : 0 ≤ lo) (un_hlh : hi = lo + k) (un_hhi : hi ≤ ds.length) (un_hds : ds.length ≤ 100)
    (un_hd : dp + k + 1 < recursionLimit) (un_hu : un + 8 * (k + 1) < cLine)
    (un_hret : ∀ t h' tk', Fr h₀ L h' m → News h₀ L h' rest → Q (.int (val b ds lo.toNat k) t) { s with heap := h', toks := tk' }),
    wpAny (model prog w) (ktrTop dp un gd cn cs L a ccd cl outer) (call (.ref f) [.int lo tl, .int hi th]) Q E s

local macro_rules | `(tactic| walk_at "call ref") => `(tactic| ((with_reducible show wpAny _ _ (PySem.call (Value.ref _) [_, _]) _ _ _); refine stop_here ?_))
section

theorem d2i_inner {prog : Program} {w : World} {p : Program} {loose : List Str} {mean : ExcName → Option Value} {mg mb : Str → Option Value} 
    {params : Arguments} {body : List Stmt} {scope : Scope} (hb : d2iInner = some (params, body, scope)) (b : Nat) (hb0 : 0 < b) (hb1 : b ≤ 64) (k : Nat) (hk1 : 0 < k) (ih : ∀ j, 0 < j → j < k → D2iSpec prog w p loose mean mg mb params body scope b j) :
    D2iSpec prog w p loose mean mg mb params body scope b k := by
  have hf : PySem.Challenge.rw_gb0005_01 = PySem.Challenge.rw_gb0005_01 ∧ lawTop.heap_39 = lawTop.heap_39 := by
    k_fill
    exact ⟨rfl, rfl⟩
  clear hf
  w_top on
  conv at hb => lhs; whnf
  obtain ⟨rfl, rfl, rfl⟩ := hb
  unfold D2iSpec
  intro dp un gd cn cs a ccd cl outer A₀ base h₀ L m s rest Q E lo hi tl th tn f dl ca cf c3 c' qual oa of on oc doc pm ctv vs ds fs ep tq B F X N T hk C57 ml mf ma da mi di mn dn mc dc dq hi' hp hq hbk hlo hlh hhi hds hd hu hret
  have hM : lo + 1 ≠ hi → lo < (lo + hi).fdiv (2 ^ Int.toNat 1) ∧ (lo + hi).fdiv (2 ^ Int.toNat 1) < hi := fun c => by
    rw [show (2 : Int) ^ Int.toNat 1 = 2 from rfl, Int.fdiv_eq_ediv_of_nonneg _ (by omega)]
    omega
  have hS : lo + 1 ≠ hi → 0 ≤ ((lo + hi).fdiv (2 ^ Int.toNat 1) - lo) * (b : Nat) ∧ ((lo + hi).fdiv (2 ^ Int.toNat 1) - lo) * (b : Nat) ≤ 6400 := fun c => by
    have := hM c
    exact ⟨Int.mul_nonneg (by omega) (by omega), Int.le_trans (Int.mul_le_mul (c := 100) (d := 64) (by omega) (by omega) (by omega) (by omega)) (by omega)⟩
  have hlen := hi'.length
  refine wpAny_call ?_
  k_dflt k_enter
  k_steps
  · obtain rfl : k = 1 := by omega
    simp only [val, Int.mul_zero, Int.add_zero] at hret
    exact hret _ _ _ (by k_asm) (by k_asm)
  · rename lo + 1 ≠ hi => c
    have c2 := hM c
    obtain ⟨k₁, e1⟩ : ∃ k₁ : Nat, (lo + hi).fdiv (2 ^ Int.toNat 1) = lo + k₁ := ⟨((lo + hi).fdiv (2 ^ Int.toNat 1) - lo).toNat, by omega⟩
    have e2 : (((lo + (k₁ : Int)) - lo) * (b : Nat)).toNat = b * k₁ := by
      rw [show lo + (k₁ : Int) - lo = k₁ by omega, ← Int.natCast_mul, Int.toNat_natCast, Nat.mul_comm]
    have b1 : b * (k - k₁) ≤ b * k := Nat.mul_le_mul_left b (by omega)
    have b2 : b * k₁ ≤ b * k := Nat.mul_le_mul_left b (by omega)
    have ih1 := ih (k - k₁) (by omega) (by omega)
    have ih2 := ih k₁ (by omega) (by omega)
    unfold D2iSpec at ih1 ih2
    rw [e1]
    refine go_on ?_
    refine ih1 _ _ _ _ _ _ _ _ _ _ _ _ _ _ _ _ _ _ _ _ _ _ _ _ _ _ _ _ _ _ _ _ _ _ _ _ _ _ _ _ _ _ (by k_asm) (by k_asm) (by k_asm) (by k_asm) (by k_asm) rfl C57 ml mf ma da mi di mn dn mc dc dq hi' hp hq (by omega) (by omega) (by omega) (by omega) (by omega) (by (try dsimp only [ktrTop]); omega) (by (try dsimp only [ktrTop]); omega) ?_
    intro t₁ h₁ tk₁ F₁ N₁
    have v0 := val_nonneg b ds hp (k - k₁) (lo + (k₁ : Int)).toNat
    have v1 := val_lt b ds hq (k - k₁) (lo + (k₁ : Int)).toNat
    have v2 : (2 : Int) ^ (b * (k - k₁)) ≤ 2 ^ 62 := by exact_mod_cast Nat.pow_le_pow_right (by decide : 0 < 2) (by omega)
    have v3 : (val b ds (lo + (k₁ : Int)).toNat (k - k₁)).natAbs < 2 ^ 64 := by omega
    k_steps
    rw [e1]
    refine go_on ?_
    refine ih2 _ _ _ _ _ _ _ _ _ _ _ _ _ _ _ _ _ _ _ _ _ _ _ _ _ _ _ _ _ _ _ _ _ _ _ _ _ _ _ _ _ _ (by k_asm) (by k_asm) (by k_asm) (by k_asm) (by k_asm) rfl C57 ml mf ma da mi di mn dn mc dc dq hi' hp hq (by omega) (by omega) (by omega) (by omega) (by omega) (by (try dsimp only [ktrTop]); omega) (by (try dsimp only [ktrTop]); omega) ?_
    intro t₂ h₂ tk₂ F₂ N₂
    k_steps
    have e3 : val b ds lo.toNat k = val b ds (lo + (k₁ : Int)).toNat (k - k₁) * 2 ^ ((lo + (k₁ : Int) - lo) * (b : Nat)).toNat + val b ds lo.toNat k₁ := by
      rw [e2, show (lo + (k₁ : Int)).toNat = lo.toNat + k₁ by omega]
      have := val_add b ds k₁ lo.toNat (k - k₁)
      rw [show k₁ + (k - k₁) = k by omega] at this
      rw [this, Int.mul_comm, Int.add_comm]
    rw [e3] at hret
    exact hret _ _ _ (by k_asm) (by k_asm)

theorem d2i_all {prog : Program} {w : World} {p : Program} {loose : List Str} {mean : ExcName → Option Value} {mg mb : Str → Option Value} 
    {params : Arguments} {body : List Stmt} {scope : Scope} (hb : d2iInner = some (params, body, scope)) (b : Nat) (hb0 : 0 < b) (hb1 : b ≤ 64) : ∀ k, 0 < k → D2iSpec prog w p loose mean mg mb params body scope b k := by
  intro k
  induction k using Nat.strongRecOn with
  | ind k ih => exact fun hk => d2i_inner hb b hb0 hb1 k hk fun j h0 hj => ih j hj h0
end
-- part W6

abbrev tab64 (c : Addr) : Obj := tabObj #[rawInt 94, rawInt 4, .ref c]
abbrev qual64 : Str := (Str.ofString "_digits2int" ++ (".<locals>." : Str)) ++ Str.ofString "inner"

section

local macro_rules | `(tactic| walk_at "truthy ref") => `(tactic| ((with_reducible show wpAny _ _ (truthy (Value.ref _)) _ _ _); refine wpAny_truthy_list (News.isList (by k_asm) (by k_mem)) (by simp only [List.size_toArray]; omega) ?_))

theorem digits2int_spec {prog : Program} {w : World} {p : Program} {loose : List Str} {mean : ExcName → Option Value} {mg mb : Str → Option Value}
    (dp un : Nat) (gd : Option (List Code)) (cn : Str) (cs : Scope) (a : Addr) (ccd : Value) (cl : List (Str × Addr)) (outer : List Env) (A₀ : Around) (base h₀ : Heap) (L : Addr) (m : Str → Option Value) (s : Shared) (rest : List (Addr × Obj)) (Q E : Value → Shared → Prop)
    (b : Nat) (tn : Tok) (pi : Obj) (dl : Addr) (vs : List Value) (ds : List Int) (ep : Nat)
    (B : Below A₀ base outer h₀) (F : Fr h₀ L s.heap m) (X : (lawTop.heap_39 w.params).In h₀) (N : News h₀ L s.heap ((64, pi) :: rest)) (T : Top p loose mean mg mb h₀) (hk : cs.kind = .function)
    (C57 : CodeHd base 61 57) (C64 : CodeHd base 68 64) (hne : ∀ q ∈ rest, q.1 ≠ 64) (ml : (dl, W.listOf vs.toArray ep) ∈ rest) (hi : IntsAre vs ds)
    (hp : ∀ i, 0 ≤ ds.getD i 0) (hq : ∀ i, ds.getD i 0 < 2 ^ b) (hbk : b * ds.length ≤ 62) (hds : ds.length ≤ 64)
    (ht : pi = tabObj #[] ∨ ∃ (c : Nat) (oc : Obj) (fs : Array Value) (tq : Tok), pi = tab64 c ∧ (c, oc) ∈ rest ∧ oc.data = .fields fs ∧ fs[1]? = some (.str qual64 tq) ∧ 64 < c)
    (hb0 : 0 < b) (hb1 : b ≤ 64)
    (hd : dp + 100 < recursionLimit) (hu : un + 1000 < cLine)
    (hret : ∀ (t : Tok) (c : Nat) (oc : Obj) (fs : Array Value) (tq : Tok) (h' : Heap) (tk' : Nat), Fr h₀ L h' m → News h₀ L h' ((64, tab64 c) :: (c, oc) :: rest) →
      oc.data = .fields fs → fs[1]? = some (.str qual64 tq) → 64 < c → (pi = tab64 c ∨ ∀ q ∈ rest, q.1 < c) → Q (.int (val b ds 0 ds.length) t) { s with heap := h', toks := tk' }) :
    wpAny (model prog w) (ktrTop dp un gd cn cs L a ccd cl outer) (call (.ref 69) [.ref dl, .int (b : Nat) tn]) Q E s := by
  have hf : PySem.Challenge.rw_gb0005_01 = PySem.Challenge.rw_gb0005_01 ∧ lawTop.heap_39 = lawTop.heap_39 := by
    k_fill
    exact ⟨rfl, rfl⟩
  clear hf
  w_top on
  have hlen := hi.length
  have hsz : vs.toArray.size = ds.length := by rw [List.size_toArray]; exact hlen
  rcases ht with rfl | ⟨c₀, oc₀, fs₀, tq₀, rfl, mc₀, dc₀, dq₀, hc₀⟩
  · refine wpAny_call ?_
    k_dflt k_enter
    rename 64 < _ ∧ AllLt _ rest => l57
    have lr := of_allLt l57.2
    have l57 := l57.1
    k_steps
    · rename News _ _ _ ((_, fnMade _ _ _ _ _ _ _ _ _ _) :: _) => N8
      rename vs.toArray.isEmpty = true => he
      have e0 : ds.length = 0 := by
        rw [← hsz]
        simpa using he
      rw [e0] at hret
      exact hret _ _ _ _ _ _ _ (by k_asm) (cb_drop (by k_asm) (List.forall_mem_cons.mpr ⟨by k_mem, List.forall_mem_cons.mpr ⟨by k_mem, by intro p hp; repeat (first | exact hp | apply List.mem_cons_of_mem)⟩⟩)) (by assumption) (by assumption) (by omega) (.inr fun q hq => Nat.lt_of_lt_of_le (lr q hq) (by omega))
    · rename News _ _ _ ((_, fnMade _ _ _ _ _ _ _ _ _ _) :: _) => N8
      rename vs.toArray.isEmpty = false => he
      have e0 : 0 < ds.length := by
        rcases Nat.eq_zero_or_pos ds.length with e | e
        · rw [← hsz] at e
          have : vs.toArray.isEmpty = true := by simpa using e
          rw [this] at he
          cases he
        · exact e
      have i2 := d2i_all (prog := prog) (w := w) (p := p) (loose := loose) (mean := mean) (mg := mg) (mb := mb) (by rfl) b hb0 hb1 ds.length e0
      unfold D2iSpec at i2
      refine go_on ?_
      refine i2 _ _ _ _ _ _ _ _ _ _ _ _ _ _ _ _ _ _ _ _ _ _ _ _ _ _ _ _ _ _ _ _ _ _ _ _ _ _ _ _ _ _ (by k_asm) (by k_asm) (by k_asm) N8 (by k_asm) rfl C57 ((by k_mem) : (dl, W.listOf vs.toArray ep) ∈ _) (by k_mem) (by k_mem) (by k_asm) (by k_mem) (by k_asm) (by k_mem) (by k_asm) (by k_mem) (by assumption) (by assumption) hi hp hq hbk (by omega) (by omega) (by omega) (by omega) (by (try dsimp only [ktrTop]); omega) (by (try dsimp only [ktrTop]); omega) ?_
      intro t₁ h₁ tk₁ F₁ N₁
      k_steps
      exact hret _ _ _ _ _ _ _ (by k_asm) (cb_drop (by k_asm) (List.forall_mem_cons.mpr ⟨by k_mem, List.forall_mem_cons.mpr ⟨by k_mem, by intro p hp; repeat (first | exact hp | apply List.mem_cons_of_mem)⟩⟩)) (by assumption) (by assumption) (by omega) (.inr fun q hq => Nat.lt_of_lt_of_le (lr q hq) (by omega))
  · refine wpAny_call ?_
    k_dflt k_enter
    rename 64 < _ ∧ AllLt _ rest => l57
    have lr := of_allLt l57.2
    have l57 := l57.1
    k_steps
    · rename News _ _ _ ((_, fnMade _ _ _ _ _ _ _ _ _ _) :: _) => N8
      rename vs.toArray.isEmpty = true => he
      have e0 : ds.length = 0 := by
        rw [← hsz]
        simpa using he
      rw [e0] at hret
      exact hret _ _ _ _ _ _ _ (by k_asm) (cb_drop (by k_asm) (List.forall_mem_cons.mpr ⟨by k_mem, List.forall_mem_cons.mpr ⟨by k_mem, by intro p hp; repeat (first | exact hp | apply List.mem_cons_of_mem)⟩⟩)) (by assumption) (by assumption) (by omega) (.inl rfl)
    · rename News _ _ _ ((_, fnMade _ _ _ _ _ _ _ _ _ _) :: _) => N8
      rename vs.toArray.isEmpty = false => he
      have e0 : 0 < ds.length := by
        rcases Nat.eq_zero_or_pos ds.length with e | e
        · rw [← hsz] at e
          have : vs.toArray.isEmpty = true := by simpa using e
          rw [this] at he
          cases he
        · exact e
      have i2 := d2i_all (prog := prog) (w := w) (p := p) (loose := loose) (mean := mean) (mg := mg) (mb := mb) (by rfl) b hb0 hb1 ds.length e0
      unfold D2iSpec at i2
      refine go_on ?_
      refine i2 _ _ _ _ _ _ _ _ _ _ _ _ _ _ _ _ _ _ _ _ _ _ _ _ _ _ _ _ _ _ _ _ _ _ _ _ _ _ _ _ _ _ (by k_asm) (by k_asm) (by k_asm) N8 (by k_asm) rfl C57 ((by k_mem) : (dl, W.listOf vs.toArray ep) ∈ _) (by k_mem) (by k_mem) (by k_asm) (by k_mem) (by k_asm) (by k_mem) (by k_asm) (by k_mem) (by assumption) (by assumption) hi hp hq hbk (by omega) (by omega) (by omega) (by omega) (by (try dsimp only [ktrTop]); omega) (by (try dsimp only [ktrTop]); omega) ?_
      intro t₁ h₁ tk₁ F₁ N₁
      k_steps
      exact hret _ _ _ _ _ _ _ (by k_asm) (cb_drop (by k_asm) (List.forall_mem_cons.mpr ⟨by k_mem, List.forall_mem_cons.mpr ⟨by k_mem, by intro p hp; repeat (first | exact hp | apply List.mem_cons_of_mem)⟩⟩)) (by assumption) (by assumption) (by omega) (.inl rfl)
end
-- part P1
def be (b : Nat) (acc : Int) (ds : List Int) : Int := ds.foldl (fun a d => a * 2 ^ b + d) acc
def dstep (b : Nat) (y : Int) (qr : List Int × Int) (d : Int) : List Int × Int := (qr.1 ++ [(qr.2 * 2 ^ b + d) / y], (qr.2 * 2 ^ b + d) % y)

theorem be_append (b : Nat) (acc : Int) (ds es : List Int) : be b acc (ds ++ es) = be b (be b acc ds) es := List.foldl_append
theorem val_cons (b : Nat) (d : Int) (ds : List Int) : ∀ k lo, val b (d :: ds) (lo + 1) k = val b ds lo k
  | 0, _ => rfl
  | k + 1, lo => by
    simp only [val]
    rw [val_cons b d ds k (lo + 1)]
    rfl
theorem val_be (b : Nat) : ∀ ds : List Int, val b ds 0 ds.length = be b 0 ds.reverse
  | [] => rfl
  | d :: ds => by
    rw [List.reverse_cons, be_append, List.length_cons]
    simp only [val]
    rw [val_cons, val_be b ds]
    show d + _ = be b 0 ds.reverse * 2 ^ b + d
    rw [Int.mul_comm, Int.add_comm]
theorem val_digs_aux (b : Nat) (x : Int) (ds : List Int) : ∀ k lo, (∀ i, i < k → ds.getD (lo + i) 0 = x / 2 ^ (b * i) % 2 ^ b) → val b ds lo k = x % 2 ^ (b * k) := by
  intro k
  induction k generalizing x with
  | zero => intro lo _; simp [val]
  | succ k ih =>
    intro lo h
    simp only [val]
    have h0 := h 0 (by omega)
    rw [Nat.add_zero, Nat.mul_zero, Int.pow_zero, Int.ediv_one] at h0
    rw [h0, ih (x / 2 ^ b) (lo + 1) fun i hi => by
      have := h (i + 1) (by omega)
      rw [show lo + 1 + i = lo + (i + 1) by omega, this, Nat.mul_succ, Nat.add_comm (b * i) b, Int.pow_add, Int.ediv_ediv_of_nonneg (Int.le_of_lt (pow_pos2 b))]]
    rw [Nat.mul_succ, Nat.add_comm (b * k) b, Int.pow_add]
    have e := Int.emod_def (x) (2 ^ b * 2 ^ (b * k))
    rw [e, Int.emod_def x (2 ^ b), Int.emod_def (x / 2 ^ b), Int.ediv_ediv_of_nonneg (Int.le_of_lt (pow_pos2 b)), Int.mul_sub, Int.mul_assoc]
    omega
theorem digs_length (b : Nat) (x : Int) : (digs b x).length = nd b x := by unfold digs; rw [List.length_map, List.length_range]
theorem digs_getD (b : Nat) (x : Int) (i : Nat) (h : i < nd b x) : (digs b x).getD i 0 = x / 2 ^ (b * i) % 2 ^ b := by
  unfold digs
  rw [List.getD_eq_getElem?_getD, List.getElem?_map, List.getElem?_range h]
  rfl
theorem be_digs (b : Nat) (hb : 0 < b) (x : Int) (hx : 0 ≤ x) : be b 0 (digs b x).reverse = x := by
  rw [← val_be, digs_length, val_digs_aux b x (digs b x) (nd b x) 0 fun i hi => by rw [Nat.zero_add]; exact digs_getD b x i hi]
  exact Int.emod_eq_of_lt hx (lt_nd b hb x hx)
theorem digs_mem (b : Nat) (x : Int) : ∀ d ∈ digs b x, 0 ≤ d ∧ d < 2 ^ b := by
  intro d hd
  unfold digs at hd
  obtain ⟨i, _, rfl⟩ := List.mem_map.mp hd
  exact ⟨Int.emod_nonneg _ (Int.ne_of_gt (pow_pos2 b)), Int.emod_lt_of_pos _ (pow_pos2 b)⟩

structure DInv (b : Nat) (y : Int) (P : Int) (qr : List Int × Int) : Prop where
  eq : P = be b 0 qr.1 * y + qr.2
  r0 : 0 ≤ qr.2
  r1 : qr.2 < y
  q : ∀ d ∈ qr.1, 0 ≤ d ∧ d < 2 ^ b
theorem DInv.step {b : Nat} {y P : Int} {qr : List Int × Int} (I : DInv b y P qr) (hy : 0 < y) {d : Int} (h0 : 0 ≤ d) (h1 : d < 2 ^ b) : DInv b y (P * 2 ^ b + d) (dstep b y qr d) := by
  have hz : 0 ≤ qr.2 * 2 ^ b + d := by have := Int.mul_nonneg I.r0 (Int.le_of_lt (pow_pos2 b)); omega
  have hw : qr.2 * 2 ^ b + d < 2 ^ b * y := by
    have h2 : (qr.2 + 1) * 2 ^ b ≤ y * 2 ^ b := Int.mul_le_mul_of_nonneg_right (by have := I.r1; omega) (Int.le_of_lt (pow_pos2 b))
    rw [Int.add_mul, Int.one_mul] at h2
    rw [Int.mul_comm (2 ^ b) y]
    omega
  refine ⟨?_, Int.emod_nonneg _ (Int.ne_of_gt hy), Int.emod_lt_of_pos _ hy, ?_⟩
  · show _ = be b 0 (qr.1 ++ [_]) * y + _
    rw [be_append]
    show _ = (be b 0 qr.1 * 2 ^ b + (qr.2 * 2 ^ b + d) / y) * y + (qr.2 * 2 ^ b + d) % y
    have e := Int.emod_add_mul_ediv (qr.2 * 2 ^ b + d) y
    rw [Int.add_mul, Int.add_assoc, Int.mul_comm ((qr.2 * 2 ^ b + d) / y) y, Int.add_comm (y * _), e, I.eq, Int.add_mul]
    rw [Int.mul_assoc, Int.mul_comm y (2 ^ b), ← Int.mul_assoc, Int.add_assoc]
  · intro e he
    rcases List.mem_append.mp he with he | he
    · exact I.q e he
    · rw [List.mem_singleton.mp he]
      exact ⟨Int.ediv_nonneg hz (Int.le_of_lt hy), Int.ediv_lt_of_lt_mul hy hw⟩
theorem DInv.fold {b : Nat} {y : Int} (hy : 0 < y) : ∀ (ds : List Int) {P : Int} {qr : List Int × Int}, DInv b y P qr → (∀ d ∈ ds, 0 ≤ d ∧ d < 2 ^ b) → DInv b y (be b P ds) (ds.foldl (dstep b y) qr)
  | [], _, _, I, _ => I
  | d :: ds, _, _, I, h => DInv.fold hy ds (I.step hy (h d (.head _)).1 (h d (.head _)).2) fun e he => h e (.tail _ he)
theorem dfold (b : Nat) (hb : 0 < b) (y : Int) (hy : 0 < y) (x : Int) (hx : 0 ≤ x) : DInv b y x ((digs b x).reverse.foldl (dstep b y) ([], 0)) := by
  have := DInv.fold (b := b) hy (digs b x).reverse (P := 0) (qr := ([], 0)) ⟨by simp [be], Int.le_refl _, hy, fun _ h => nomatch h⟩ fun d hd => digs_mem b x d (List.mem_reverse.mp hd)
  rwa [be_digs b hb x hx] at this
theorem DInv.quot {b : Nat} {y P : Int} {qr : List Int × Int} (I : DInv b y P qr) (hy : 0 < y) : be b 0 qr.1 = P / y ∧ qr.2 = P % y := by
  have e := I.eq
  constructor
  · rw [e, Int.add_comm, Int.add_mul_ediv_right _ _ (Int.ne_of_gt hy), Int.ediv_eq_zero_of_lt I.r0 I.r1, Int.zero_add]
  · rw [e, Int.add_comm, Int.add_mul_emod_self_right, Int.emod_eq_of_lt I.r0 I.r1]
theorem dfold_len (b : Nat) (y : Int) : ∀ (ds : List Int) (qr : List Int × Int), (ds.foldl (dstep b y) qr).1.length = qr.1.length + ds.length
  | [], _ => rfl
  | d :: ds, qr => by
    rw [List.foldl_cons, dfold_len b y ds, List.length_cons]
    simp only [dstep, List.length_append, List.length_singleton]
    omega
-- part W7

theorem bits_le (k : Nat) {y : Int} (h0 : 0 ≤ y) (h1 : y < 2 ^ k) : Builtin.Int.intBits y ≤ k := by
  obtain ⟨Y, rfl⟩ := Int.eq_ofNat_of_zero_le h0
  unfold Builtin.Int.intBits
  split
  · exact Nat.zero_le _
  · rename_i e
    have hY : Y ≠ 0 := fun q => e (by rw [q]; rfl)
    have h2 : Y < 2 ^ k := by exact_mod_cast h1
    rw [Int.natAbs_natCast]
    exact (Nat.log2_lt hY).mpr h2
theorem bits_small {y : Int} (h0 : 0 < y) (h1 : y < 1024) : 0 < Builtin.Int.intBits y ∧ Builtin.Int.intBits y ≤ 10 := by
  refine ⟨?_, bits_le 10 (by omega) (by omega)⟩
  unfold Builtin.Int.intBits
  have e : (y == 0) = false := by simp; omega
  rw [e]
  exact Nat.succ_pos _
theorem nd_mul (b : Nat) (x : Int) : b * nd b x ≤ Builtin.Int.intBits x + b := by
  unfold nd
  have := Nat.mul_div_le (Builtin.Int.intBits x + b - 1) b
  omega
theorem getD_all {P : Int → Prop} {ds : List Int} (h0 : P 0) (h : ∀ d ∈ ds, P d) (i : Nat) : P (ds.getD i 0) := by
  rw [List.getD_eq_getElem?_getD]
  cases e : ds[i]? with
  | none => exact h0
  | some d => exact h d (List.mem_of_getElem? e)

structure CodeOk (P : Nat) (q : Str) (c : Nat) (oc : Obj) : Prop where
  code : ∃ (fs : Array Value) (tq : Tok), oc.data = .fields fs ∧ fs[1]? = some (.str q tq)
  above : P < c
def TabOk (P : Nat) (q : Str) (tab : Addr → Obj) (pi : Obj) (rest : List (Addr × Obj)) : Prop := pi = tabObj #[] ∨ ∃ (c : Nat) (oc : Obj), pi = tab c ∧ (c, oc) ∈ rest ∧ CodeOk P q c oc
def Fresh (c : Nat) (oc : Obj) (rest : List (Addr × Obj)) : Prop := (c, oc) ∈ rest ∨ ∀ q ∈ rest, q.1 < c
theorem TabOk.ex57 {pi : Obj} {rest : List (Addr × Obj)} (h : TabOk 57 qual57 tab57 pi rest) : pi = tabObj #[] ∨ ∃ (c : Nat) (oc : Obj) (fs : Array Value) (tq : Tok), pi = tab57 c ∧ (c, oc) ∈ rest ∧ oc.data = .fields fs ∧ fs[1]? = some (.str qual57 tq) ∧ 57 < c := by
  rcases h with h | ⟨c, oc, h1, h2, ⟨fs, tq, h3, h4⟩, h5⟩
  · exact .inl h
  · exact .inr ⟨c, oc, fs, tq, h1, h2, h3, h4, h5⟩
theorem TabOk.ex64 {pi : Obj} {rest : List (Addr × Obj)} (h : TabOk 64 qual64 tab64 pi rest) : pi = tabObj #[] ∨ ∃ (c : Nat) (oc : Obj) (fs : Array Value) (tq : Tok), pi = tab64 c ∧ (c, oc) ∈ rest ∧ oc.data = .fields fs ∧ fs[1]? = some (.str qual64 tq) ∧ 64 < c := by
  rcases h with h | ⟨c, oc, h1, h2, ⟨fs, tq, h3, h4⟩, h5⟩
  · exact .inl h
  · exact .inr ⟨c, oc, fs, tq, h1, h2, h3, h4, h5⟩
theorem TabOk.sub {P : Nat} {q : Str} {tab : Addr → Obj} {pi : Obj} {rest rest' : List (Addr × Obj)} (h : TabOk P q tab pi rest) (hs : ∀ p ∈ rest, p ∈ rest') : TabOk P q tab pi rest' := by
  rcases h with h | ⟨c, oc, h1, h2, h3⟩
  · exact .inl h
  · exact .inr ⟨c, oc, h1, hs _ h2, h3⟩
theorem tab57_inj {a b : Nat} (h : tab57 a = tab57 b) : a = b := by
  have e := congrArg Obj.data h
  injection e with e
  have := congrArg (fun v : Array Value => v.toList) e
  simpa using this
theorem tab64_inj {a b : Nat} (h : tab64 a = tab64 b) : a = b := by
  have e := congrArg Obj.data h
  injection e with e
  have := congrArg (fun v : Array Value => v.toList) e
  simpa using this
theorem tab57_ne (a : Nat) : tabObj #[] ≠ tab57 a := fun h => by
  have e := congrArg Obj.data h
  injection e with e
  have := congrArg (fun v : Array Value => v.toList) e
  simp at this
theorem tab64_ne (a : Nat) : tabObj #[] ≠ tab64 a := fun h => by
  have e := congrArg Obj.data h
  injection e with e
  have := congrArg (fun v : Array Value => v.toList) e
  simp at this
theorem fresh_of {P : Nat} {q : Str} {tab : Addr → Obj} {pi : Obj} {rest rest' l : List (Addr × Obj)} {h₀ h : Heap} {L : Addr} {c : Nat} {oc : Obj} (hi : ∀ a b : Nat, tab a = tab b → a = b) (hn : ∀ a : Nat, tabObj #[] ≠ tab a)
    (ht : TabOk P q tab pi rest) (fr : pi = tab c ∨ ∀ q ∈ rest', q.1 < c) (h1 : ∀ p ∈ rest, p ∈ rest') (N : News h₀ L h l) (h2 : (c, oc) ∈ l) (h3 : ∀ p ∈ rest, p ∈ l) : Fresh c oc rest := by
  rcases fr with fr | fr
  · rcases ht with ht | ⟨c₀, oc₀, e, hm, _⟩
    · exact absurd (ht.symm.trans fr) (hn c)
    · have e2 := hi _ _ (e.symm.trans fr)
      subst e2
      have e3 := (N _ (h3 _ hm)).1
      rw [show h.get? c₀ = some oc from (N _ h2).1] at e3
      exact .inl (by rw [Option.some.inj e3]; exact hm)
  · exact .inr fun q hq => fr q (h1 q hq)
abbrev tup2 (a b : Int) (t u : Tok) : Obj := { cls := .type "tuple", data := .seq #[.int a t, .int b u] }

section
variable {prog : Program} {w : World} {A : Around} {E : Value → Shared → Prop} {s : Shared} {h₀ : Heap} {env : Env} {x : Str} {body : List Stmt} {Q : Flow → Shared → Prop} {I : Addr} {lp : Addr × Obj}
theorem revRest_of {J : List Value → (Str → Option Value) → List (Addr × Obj) → Prop}
    (step : ∀ v r m news (it : Obj) h tk, J (v :: r) m news → it.cls = .type "list_reverseiterator" → Fr h₀ env.locals h (fun y => if y = x then some v else m y) → News h₀ env.locals h ((I, it) :: news) →
      wpAny (model prog w) A (execs body env) (UnrPost h₀ env.locals { s with heap := h, toks := tk } I it (fun m' n' => lp ∈ n' ∧ J r m' n') Q) E { s with heap := h, toks := tk })
    (fin : ∀ m news h tk, J [] m news → Fr h₀ env.locals h m → News h₀ env.locals h news → Q .next { s with heap := h, toks := tk }) :
    ∀ r m news, J r m news → RevRest prog w A E h₀ env x body Q s I lp r m news
  | [], m, news, hJ => fun h tk F N => fin m news h tk hJ F N
  | v :: r, m, news, hJ => fun it h tk hc F N => wpAny_mono (step v r m news it h tk hJ hc F N) (fun f s' p => by
      cases f with
      | ret v => exact p
      | brk => exact p
      | next =>
        obtain ⟨h', tk', m', n', e, F', N', off, hl, hj⟩ := p
        exact ⟨h', tk', m', n', e, F', N', off, hl, revRest_of step fin r m' n' hj⟩
      | cont =>
        obtain ⟨h', tk', m', n', e, F', N', off, hl, hj⟩ := p
        exact ⟨h', tk', m', n', e, F', N', off, hl, revRest_of step fin r m' n' hj⟩) fun _ _ e => e
end

theorem ne_cls {h₀ h : Heap} {L : Addr} {l : List (Addr × Obj)} {a b : Nat} {o o' : Obj} (N : News h₀ L h l) (h1 : (a, o) ∈ l) (h2 : (b, o') ∈ l) (hc : o.cls ≠ o'.cls) : a ≠ b := fun e => by
  subst e
  have e1 := (N _ h1).1
  rw [show h.get? a = some o' from (N _ h2).1] at e1
  exact hc (by rw [Option.some.inj e1])
theorem offI_of {I : Addr} {it : Obj} : ∀ {l : List (Addr × Obj)}, (∀ p ∈ l, p.1 ≠ I) → OffI I it l
  | [], _ => trivial
  | p :: _, h => ⟨.inl (h p (.head _)), offI_of fun q hq => h q (.tail _ hq)⟩

local macro_rules | `(tactic| walk_at "call ref") => `(tactic| ((with_reducible show wpAny _ _ (PySem.call (Value.ref _) _) _ _ _); refine stop_here ?_))
local macro_rules | `(tactic| walk_at "eval Name") => `(tactic| (k_here; k_dflt (refine' nameX_L ?F ?v ?_ ?a ?b; (case F => k_asm); (case a => rfl); (case b => rfl); (case v => ((repeat (refine (if_neg (by decide)).trans ?_)); first | exact if_pos rfl | assumption)); k_whole)))
local macro_rules | `(tactic| walk_at "call builtin:list.append") => `(tactic| (k_here; (try dsimp only [List.nil_append, List.cons_append]); (with_reducible show wpAny _ _ (call (Value.builtin _) [Value.ref _, _]) _ _ _); k_dflt (refine' append_K ?k1 ?k2 ?k3 ?_ ?z; (case k1 => k_asm); (case k2 => k_asm); (case k3 => k_upd); (case z => (rw [sizeLine_eq]; omega)); k_whole); intro h' F' N'; (try k_sweep)))
local macro_rules | `(tactic| walk_at "pyIter ref") => `(tactic| ((with_reducible show wpAny _ _ (pyIter (Value.ref _)) _ _ _); refine stop_here ?_))
section

/-- the invariant of the loop over the digits -/
inductive DvInv (x y : Int) (r c : Nat) (oc pd : Obj) (vs : List Value) (rest : List (Addr × Obj)) (r' : List Value) (m' : Str → Option Value) (news' : List (Addr × Obj)) : Prop
  | mk (rs qs : List Int) (arr : Array Value) (rv : Int) (tr t1 t2 : Tok) (ep : Nat) (ql : Nat) (_ : IntsAre r' rs) (_ : IntsAre arr.toList qs) (_ : rs.foldl (dstep (Builtin.Int.intBits y) y) (qs, rv) = (digs (Builtin.Int.intBits y) x).reverse.foldl (dstep (Builtin.Int.intBits y) y) ([], 0))
    (_ : ∀ d ∈ rs, 0 ≤ d ∧ d < 2 ^ (Builtin.Int.intBits y)) (_ : 0 ≤ rv) (_ : rv < y) (_ : qs.length + rs.length ≤ 64) (_ : m' (Str.ofString "r") = some (.int rv tr)) (_ : m' (Str.ofString "b") = some (.int y t1)) (_ : m' (Str.ofString "n") = some (.int (Builtin.Int.intBits y : Nat) t2)) (_ : m' (Str.ofString "q_digits") = some (.ref ql))
    (_ : news' = (ql, W.listOf arr ep) :: (r, W.listOf vs.toArray 0) :: (57, tab57 c) :: (c, oc) :: (64, pd) :: rest) (_ : r < ql) (_ : 57 < ql) (_ : c < ql) (_ : 64 < ql) (_ : ∀ q ∈ rest, q.1 < ql)
theorem divmod_pos_spec {prog : Program} {w : World} {p : Program} {loose : List Str} {mean : ExcName → Option Value} {mg mb : Str → Option Value}
    (dp un : Nat) (gd : Option (List Code)) (cn : Str) (cs : Scope) (a : Addr) (ccd : Value) (cl : List (Str × Addr)) (outer : List Env) (A₀ : Around) (base h₀ : Heap) (L : Addr) (m : Str → Option Value) (s : Shared) (rest : List (Addr × Obj)) (Q E : Value → Shared → Prop)
    (x y : Int) (tx ty : Tok) (pi pd : Obj)
    (B : Below A₀ base outer h₀) (F : Fr h₀ L s.heap m) (X : (lawTop.heap_39 w.params).In h₀) (N : News h₀ L s.heap ((64, pd) :: (57, pi) :: rest)) (T : Top p loose mean mg mb h₀) (hk : cs.kind = .function)
    (C57 : CodeHd base 61 57) (C64 : CodeHd base 68 64) (hne : ∀ q ∈ rest, q.1 ≠ 57) (hne' : ∀ q ∈ rest, q.1 ≠ 64)
    (ht : TabOk 57 qual57 tab57 pi rest) (ht' : TabOk 64 qual64 tab64 pd rest)
    (hx0 : 0 ≤ x) (hx1 : x < 2 ^ 20) (hy0 : 0 < y) (hy1 : y < 1024)
    (hd : dp + 200 < recursionLimit) (hu : un + 2000 < cLine)
    (hret : ∀ (r : Nat) (t u : Tok) (c c' : Nat) (oc oc' : Obj) (h' : Heap) (tk' : Nat), Fr h₀ L h' m → News h₀ L h' ((r, tup2 (x / y) (x % y) t u) :: (64, tab64 c') :: (57, tab57 c) :: (c, oc) :: (c', oc') :: rest) →
      CodeOk 57 qual57 c oc → CodeOk 64 qual64 c' oc' → Fresh c oc rest → Fresh c' oc' rest → (∀ q ∈ rest, q.1 < r) → c < r → c' < r → 64 < r → Q (.ref r) { s with heap := h', toks := tk' }) :
    wpAny (model prog w) (ktrTop dp un gd cn cs L a ccd cl outer) (call (.ref 76) [.int x tx, .int y ty]) Q E s := by
  have hf : PySem.Challenge.rw_gb0005_01 = PySem.Challenge.rw_gb0005_01 ∧ lawTop.heap_39 = lawTop.heap_39 := by
    k_fill
    exact ⟨rfl, rfl⟩
  clear hf
  w_top on
  obtain ⟨hb0, hb1⟩ := bits_small hy0 hy1
  have hxb := bits_le 20 hx0 hx1
  have hnd := nd_le (Builtin.Int.intBits y) hb0 x
  have hnm := nd_mul (Builtin.Int.intBits y) x
  refine wpAny_call ?_
  k_dflt cell_enter
  k_steps
  rename News _ _ _ ((64, _) :: _) => N7
  have N8 := news_front (a := [_]) N7
  simp only [List.cons_append, List.nil_append] at N8
  refine go_on ?_
  refine int2digits_spec _ _ _ _ _ _ _ _ _ _ _ _ _ _ _ _ _ _ _ _ _ _ _ (by k_asm) (by k_asm) (by k_asm) N8 (by k_asm) rfl C57 (by k_all) (ht.sub fun p hp => List.mem_cons_of_mem _ hp).ex57 hx0 (by omega) hb0 (by omega) (by (try dsimp only [ktrTop]); omega) (by (try dsimp only [ktrTop]); omega) ?_
  intro r vs c oc fs tq h₁ tk₁ F₁ N₁ hi₁ dc₁ dq₁ l₁ l₂ l₃ l₄ fr₁
  have l₅ : @LT.lt Nat _ 64 r := l₁ (64, pd) (.head _)
  have lr : ∀ q ∈ rest, q.1 < r := fun q hq => l₁ q (.tail _ hq)
  k_steps
  rename News _ _ _ ((_, revObj _ _) :: _) => N9
  refine go_on ?_
  refine iter_revUnr (lo := W.listOf vs.toArray 0) (vs := vs) (n := 0) rfl (by k_asm) N9 (offI_of (by k_all)) (by k_mem) rfl rfl ?_
  refine revRest_of (J := DvInv x y r c oc pd vs rest) ?step ?fin _ _ _ ?start
  case start =>
    exact ⟨_, [], #[], 0, _, _, _, 0, _, hi₁.reverse, .nil, rfl, fun d hd => digs_mem _ x d (List.mem_reverse.mp hd), by omega, hy0, by rw [List.length_reverse, digs_length, List.length_nil]; omega, rfl, rfl, rfl, rfl, rfl, by omega, by omega, by omega, by omega, fun q hq => Nat.lt_trans (lr q hq) (by omega)⟩
  case step =>
    rintro v r' m' news' it h tk ⟨rs, qs, arr, rv, tr, t1, t2, ep, ql, hr', hq', hfold, hds, hr0, hr1, hlen, mr, mb', mn, mq, rfl, g1, g2, g3, g4, g5⟩ hcls F9 N10
    cases hr' with
    | @cons d td _ rs' hr' =>
    have hD := ne_cls N10 (.head _) (.tail _ (.head _)) (by rw [hcls]; exact fun e => absurd (Value.type.inj e) (by decide))
    have hd0 := hds d (.head _)
    have hz : arr.size ≤ 64 := by have := hq'.length; rw [List.length_cons] at hlen; have e : arr.toList.length = arr.size := rfl; omega
    have p0 : (2 : Int) ^ (Builtin.Int.intBits y) ≤ 1024 := by exact_mod_cast Nat.pow_le_pow_right (by decide : 0 < 2) hb1
    have p1 : 0 ≤ rv * 2 ^ (Builtin.Int.intBits y) := Int.mul_nonneg hr0 (Int.le_of_lt (pow_pos2 _))
    have p2 : rv * 2 ^ (Builtin.Int.intBits y) ≤ 1023 * 1024 := Int.mul_le_mul (by omega) p0 (Int.le_of_lt (pow_pos2 _)) (by omega)
    k_steps
    refine go_on ?_
    refine div2n1n_spec _ _ _ _ _ _ _ _ _ _ _ _ _ _ _ _ _ _ _ _ _ _ _ _ (by k_asm) (by k_asm) (by k_asm) (by k_asm) (by k_asm) rfl (by rw [Int.toNat_natCast]; omega) (by rw [Int.toNat_natCast]; omega) hy0 (by omega) (by omega) (by omega) (by (try dsimp only [ktrTop]); omega) (by (try dsimp only [ktrTop]); omega) ?_
    intro rt t3 t4 h4 tk4 F4 N4 l4
    k_lt l4
    k_steps
    rw [Int.toNat_natCast] at *
    have z0 : 0 ≤ rv * 2 ^ (Builtin.Int.intBits y) + d := by omega
    refine UnrEnd.intro (by k_asm) (by k_asm) ((ql, W.listOf (arr.push (.int ((rv * 2 ^ (Builtin.Int.intBits y) + d) / y) t3)) (ep + 1)) :: (r, W.listOf vs.toArray 0) :: (57, tab57 c) :: (c, oc) :: (64, pd) :: rest) ?sub ?off
      ⟨by k_mem, rs', qs ++ [(rv * 2 ^ (Builtin.Int.intBits y) + d) / y], arr.push (.int ((rv * 2 ^ (Builtin.Int.intBits y) + d) / y) t3), (rv * 2 ^ (Builtin.Int.intBits y) + d) % y, t4, t1, t2, ep + 1, ql, hr', ?ia, hfold, fun e he => hds e (.tail _ he), Int.emod_nonneg _ (by omega), Int.emod_lt_of_pos _ hy0, ?len, ?nr, ?nb, ?nn, ?nq, rfl, g1, g2, g3, g4, g5⟩
    case sub => exact fun p hp => List.mem_cons_of_mem _ hp
    case off => k_all
    case ia => rw [Array.toList_push]; exact IntsAre.append hq' (.cons _ _ .nil)
    case len => rw [List.length_append, List.length_singleton]; rw [List.length_cons] at hlen; omega
    case nr => exact if_pos rfl
    case nb => (repeat (refine (if_neg (by decide)).trans ?_)); exact mb'
    case nn => (repeat (refine (if_neg (by decide)).trans ?_)); exact mn
    case nq => (repeat (refine (if_neg (by decide)).trans ?_)); exact mq
  case fin =>
    rintro m' news' h tk ⟨rs, qs, arr, rv, tr, t1, t2, ep, ql, hr', hq', hfold, hds, hr0, hr1, hlen, mr, mb', mn, mq, rfl, g1, g2, g3, g4, g5⟩ F9 N10
    cases hr'
    have I := dfold (Builtin.Int.intBits y) hb0 y hy0 x hx0
    rw [← hfold] at I
    have l7 := dfold_len (Builtin.Int.intBits y) y (digs (Builtin.Int.intBits y) x).reverse ([], 0)
    rw [← hfold, List.length_reverse, digs_length] at l7
    simp only [List.foldl_nil, List.length_nil, Nat.zero_add] at I l7
    k_steps
    dsimp only [List.cons_append, List.nil_append]
    refine reverse_head_ints (by k_asm) N10 (by k_all) hq' ?_ (by rw [sizeLine_eq]; omega)
    intro h2 F2 N2 hi2
    k_steps
    have N3 := news_front (a := [_, _, _, _]) N2
    simp only [List.cons_append, List.nil_append] at N3
    have fc : Fresh c oc rest := fresh_of (fun _ _ => tab57_inj) tab57_ne ht fr₁ (fun p hp => List.mem_cons_of_mem _ hp) N3 (by k_mem) (fun p hp => by repeat (first | exact hp | apply List.mem_cons_of_mem))
    have c64 : @Ne Nat c 64 := by
      rcases fr₁ with e | e
      · rcases ht with e2 | ⟨c₀, oc₀, e2, hm, _⟩
        · exact absurd (e2.symm.trans e) (tab57_ne c)
        · have e3 := tab57_inj (e2.symm.trans e)
          subst e3
          exact hne' _ hm
      · exact Nat.ne_of_gt (e _ (.head _))
    refine go_on ?_
    refine digits2int_spec _ _ _ _ _ _ _ _ _ _ _ _ _ _ _ _ _ _ _ _ _ _ _ _ _ (by k_asm) (by k_asm) (by k_asm) N3 (by k_asm) rfl C57 C64 (by k_all) (by k_mem) hi2 (getD_all (P := fun d => 0 ≤ d) (Int.le_refl 0) fun d hd => (I.q d (List.mem_reverse.mp hd)).1) (getD_all (P := fun d => d < 2 ^ _) (pow_pos2 _) fun d hd => (I.q d (List.mem_reverse.mp hd)).2) (by rw [List.length_reverse, l7]; omega) (by rw [List.length_reverse, l7]; omega) (ht'.sub fun p hp => by repeat (first | exact hp | apply List.mem_cons_of_mem)).ex64 hb0 (by omega) (by (try dsimp only [ktrTop]); omega) (by (try dsimp only [ktrTop]); omega) ?_
    intro t c' oc' fs' tq' h3 tk3 F3 N4 dc' dq' hc' fr'
    have fc' : Fresh c' oc' rest := fresh_of (fun _ _ => tab64_inj) tab64_ne ht' fr' (fun p hp => by repeat (first | exact hp | apply List.mem_cons_of_mem)) N4 (by k_mem) (fun p hp => by repeat (first | exact hp | apply List.mem_cons_of_mem))
    k_steps
    have Iq := I.quot hy0
    have v1 : val (Builtin.Int.intBits y) qs.reverse 0 qs.reverse.length = x / y := by rw [val_be, List.reverse_reverse]; exact Iq.1
    have v2 : rv = x % y := Iq.2
    rw [← v1, ← v2] at hret
    rename 64 < _ ∧ _ => l8
    exact hret _ _ _ c c' oc oc' _ _ (by k_asm) (cb_drop (by k_asm) (List.forall_mem_cons.mpr ⟨by k_mem, List.forall_mem_cons.mpr ⟨by k_mem, List.forall_mem_cons.mpr ⟨by k_mem, List.forall_mem_cons.mpr ⟨by k_mem, List.forall_mem_cons.mpr ⟨by k_mem, by intro p hp; repeat (first | exact hp | apply List.mem_cons_of_mem)⟩⟩⟩⟩⟩)) ⟨⟨_, _, dc₁, dq₁⟩, l₃⟩ ⟨⟨_, _, dc', dq'⟩, hc'⟩ fc fc' (fun q hq => Nat.lt_trans (lr q hq) (by omega)) (by omega) (by omega) (by omega)
end
-- part W8

section

theorem int_divmod_spec {prog : Program} {w : World} {p : Program} {loose : List Str} {mean : ExcName → Option Value} {mg mb : Str → Option Value}
    (dp un : Nat) (gd : Option (List Code)) (cn : Str) (cs : Scope) (a : Addr) (ccd : Value) (cl : List (Str × Addr)) (outer : List Env) (A₀ : Around) (base h₀ : Heap) (L : Addr) (m : Str → Option Value) (s : Shared) (rest : List (Addr × Obj)) (Q E : Value → Shared → Prop)
    (x y : Int) (tx ty : Tok) (pi pd : Obj)
    (B : Below A₀ base outer h₀) (F : Fr h₀ L s.heap m) (X : (lawTop.heap_39 w.params).In h₀) (N : News h₀ L s.heap ((64, pd) :: (57, pi) :: rest)) (T : Top p loose mean mg mb h₀) (hk : cs.kind = .function)
    (C57 : CodeHd base 61 57) (C64 : CodeHd base 68 64) (hne : ∀ q ∈ rest, q.1 ≠ 57) (hne' : ∀ q ∈ rest, q.1 ≠ 64)
    (ht : TabOk 57 qual57 tab57 pi rest) (ht' : TabOk 64 qual64 tab64 pd rest)
    (hx0 : 0 ≤ x) (hx1 : x < 2 ^ 20) (hy0 : 0 < y) (hy1 : y < 1024)
    (hd : dp + 300 < recursionLimit) (hu : un + 2500 < cLine)
    (hret : ∀ (r : Nat) (t u : Tok) (c c' : Nat) (oc oc' : Obj) (h' : Heap) (tk' : Nat), Fr h₀ L h' m → News h₀ L h' ((r, tup2 (x / y) (x % y) t u) :: (64, tab64 c') :: (57, tab57 c) :: (c, oc) :: (c', oc') :: rest) →
      CodeOk 57 qual57 c oc → CodeOk 64 qual64 c' oc' → Fresh c oc rest → Fresh c' oc' rest → (∀ q ∈ rest, q.1 < r) → c < r → c' < r → 64 < r → Q (.ref r) { s with heap := h', toks := tk' }) :
    wpAny (model prog w) (ktrTop dp un gd cn cs L a ccd cl outer) (call (.ref 83) [.int x tx, .int y ty]) Q E s := by
  have hf : PySem.Challenge.rw_gb0005_01 = PySem.Challenge.rw_gb0005_01 ∧ lawTop.heap_39 = lawTop.heap_39 := by
    k_fill
    exact ⟨rfl, rfl⟩
  clear hf
  w_top on
  refine wpAny_call ?_
  k_dflt cell_enter
  k_steps
  · exfalso; omega
  · refine go_on ?_
    refine divmod_pos_spec _ _ _ _ _ _ _ _ _ _ _ _ _ _ _ _ _ _ _ _ _ _ _ _ (by k_asm) (by k_asm) (by k_asm) (by k_asm) (by k_asm) rfl C57 C64 hne hne' ht ht' hx0 hx1 hy0 hy1 (by (try dsimp only [ktrTop]); omega) (by (try dsimp only [ktrTop]); omega) ?_
    intro r t u c c' oc oc' h₁ tk₁ F₁ N₁ o₁ o₂ f₁ f₂ l₁ l₂ l₃ l₄
    k_steps
    exact hret _ _ _ c c' oc oc' _ _ (by k_asm) (by k_asm) o₁ o₂ f₁ f₂ l₁ l₂ l₃ l₄
end
-- part W9

/-- the ways to choose k of n -/
def ch : Nat → Nat → Nat
  | _, 0 => 1
  | 0, _ + 1 => 0
  | n + 1, k + 1 => ch n k + ch n (k + 1)

section
variable {prog : Program} {w : World} {A : Around} {E : Value → Shared → Prop} {s : Shared} {h₀ : Heap} {env : Env} {x : Str} {body : List Stmt} {Q : Flow → Shared → Prop} {I : Addr} {a : Int} {n : Nat}
theorem rangeRest_of {J : Nat → Nat → (Str → Option Value) → List (Addr × Obj) → Prop}
    (step : ∀ k i m news t h tk, J (k + 1) i m news → Fr h₀ env.locals h (fun y => if y = x then some (.int (a + (i : Int)) t) else m y) → News h₀ env.locals h ((I, itR (a + ((i + 1 : Nat) : Int)) ((n : Int) - ((i + 1 : Nat) : Int))) :: news) →
      wpAny (model prog w) A (execs body env) (UnrPost h₀ env.locals { s with heap := h, toks := tk } I (itR (a + ((i + 1 : Nat) : Int)) ((n : Int) - ((i + 1 : Nat) : Int))) (J k (i + 1)) Q) E { s with heap := h, toks := tk })
    (fin : ∀ i m news h tk, J 0 i m news → Fr h₀ env.locals h m → News h₀ env.locals h news → Q .next { s with heap := h, toks := tk }) :
    ∀ k i m news, J k i m news → RangeRest prog w A E h₀ env x body Q s I a n k i m news
  | 0, i, m, news, hJ => fun h tk F N => fin i m news h tk hJ F N
  | k + 1, i, m, news, hJ => fun t h tk F N => wpAny_mono (step k i m news t h tk hJ F N) (fun f s' p => by
      cases f with
      | ret v => exact p
      | brk => exact p
      | next =>
        obtain ⟨h', tk', m', n', e, F', N', off, hj⟩ := p
        exact ⟨h', tk', m', n', e, F', N', off, rangeRest_of step fin k (i + 1) m' n' hj⟩
      | cont =>
        obtain ⟨h', tk', m', n', e, F', N', off, hj⟩ := p
        exact ⟨h', tk', m', n', e, F', N', off, rangeRest_of step fin k (i + 1) m' n' hj⟩) fun _ _ e => e
end

theorem ch_zero (x : Nat) : ch x 0 = 1 := by cases x <;> rfl
theorem cons_ne {I b : Nat} {o : Obj} {l : List (Addr × Obj)} (h : I ≠ b) (hl : ∀ q ∈ l, q.1 ≠ b) : ∀ q ∈ (I, o) :: l, q.1 ≠ b := List.forall_mem_cons.mpr ⟨h, hl⟩
theorem CodeOk.ne_it {P : Nat} {q : Str} {c : Nat} {oc : Obj} (h : CodeOk P q c oc) (a b : Int) : oc.data ≠ (itR a b).data := fun e => by
  obtain ⟨fs, tq, h1, h2⟩ := h.code
  rw [h1] at e
  injection e with e
  subst e
  have : some (rawInt b) = some (Value.str q tq) := h2
  injection this with this
  cases this
theorem CodeOk.ne_tab {P : Nat} {q : Str} {c : Nat} {oc : Obj} (h : CodeOk P q c oc) (d : Nat) : oc.data ≠ (tab64 d).data := fun e => by
  obtain ⟨fs, tq, h1, h2⟩ := h.code
  rw [h1] at e
  cases e
  have : some (rawInt 4) = some (Value.str q tq) := h2
  injection this with this
  cases this
theorem range3 (c : Nat) (h0 : 0 < c) (h : c ≤ 3) : Builtin.Range.small 0 (c : Int) 1 = true ∧ Builtin.Range.rangeSize 0 (c : Int) 1 = (c : Int) := by
  rcases (by omega : c = 1 ∨ c = 2 ∨ c = 3) with rfl | rfl | rfl <;> exact ⟨by decide +kernel, by decide +kernel⟩
theorem ch_facts : ∀ x : Fin 41, ∀ i : Fin 3, ch x.1 i.1 * (x.1 - i.1) < 2 ^ 20 ∧ ch x.1 i.1 * (x.1 - i.1) / (i.1 + 1) = ch x.1 (i.1 + 1) ∧ ch x.1 i.1 * (x.1 - i.1) % (i.1 + 1) = 0 ∧ (x.1 < i.1 → ch x.1 i.1 = 0) := by decide +kernel
theorem ch_fact (x i : Nat) (hx : x ≤ 40) (hi : i < 3) : 0 ≤ ((ch x i : Nat) : Int) * ((x : Int) - (i : Int)) ∧ ((ch x i : Nat) : Int) * ((x : Int) - (i : Int)) < 2 ^ 20 ∧ ((ch x i : Nat) : Int) * ((x : Int) - (i : Int)) / ((i : Int) + 1) = (ch x (i + 1) : Nat) ∧ ((ch x i : Nat) : Int) * ((x : Int) - (i : Int)) % ((i : Int) + 1) = 0 := by
  obtain ⟨h1, h2, h3, h4⟩ := ch_facts ⟨x, by omega⟩ ⟨i, hi⟩
  dsimp only at h1 h2 h3 h4
  have e : ((ch x i : Nat) : Int) * ((x : Int) - (i : Int)) = ((ch x i * (x - i) : Nat) : Int) := by
    rcases Nat.lt_or_ge x i with hl | hl
    · rw [h4 hl, Nat.zero_mul]; exact Int.zero_mul _
    · rw [Int.natCast_mul, Int.ofNat_sub hl]
  rw [e]
  refine ⟨Int.natCast_nonneg _, by exact_mod_cast h1, ?_, ?_⟩
  · rw [← h2]; norm_cast
  · have := h3; exact_mod_cast this
theorem ne_data {h₀ h : Heap} {L : Addr} {l : List (Addr × Obj)} {a b : Nat} {o o' : Obj} (N : News h₀ L h l) (h1 : (a, o) ∈ l) (h2 : (b, o') ∈ l) (hc : o.data ≠ o'.data) : a ≠ b := fun e => by
  subst e
  have e1 := (N _ h1).1
  rw [show h.get? a = some o' from (N _ h2).1] at e1
  exact hc (by rw [Option.some.inj e1])
theorem Fresh.thru {c : Nat} {oc : Obj} {rest rest' : List (Addr × Obj)} (h : Fresh c oc rest') (hs : ∀ q ∈ rest, q ∈ rest') (hb : ∀ q ∈ rest', q ∈ rest ∨ Fresh q.1 q.2 rest) : Fresh c oc rest := by
  rcases h with h | h
  · rcases hb _ h with h | h
    · exact .inl h
    · exact h
  · exact .inr fun q hq => h q (hs q hq)

section

/-- the invariant of the loop over the places -/
inductive WyInv (x c : Nat) (rest : List (Addr × Obj)) (k i : Nat) (m' : Str → Option Value) (news' : List (Addr × Obj)) : Prop
  | mk (rest' : List (Addr × Obj)) (pi' pd' : Obj) (tf t1 : Tok) (_ : i + k = c) (_ : m' (Str.ofString "found") = some (.int (ch x i : Nat) tf)) (_ : m' (Str.ofString "place") = some (.int (x : Nat) t1))
    (_ : news' = (64, pd') :: (57, pi') :: rest') (_ : ∀ q ∈ rest, q ∈ rest') (_ : ∀ q ∈ rest', q ∈ rest ∨ Fresh q.1 q.2 rest) (_ : ∀ q ∈ rest', q.1 ≠ 57 ∧ q.1 ≠ 64) (_ : TabOk 57 qual57 tab57 pi' rest') (_ : TabOk 64 qual64 tab64 pd' rest')
    (_ : i = 0 ∨ ∃ (c₁ c₂ : Nat) (oc oc' : Obj), pi' = tab57 c₁ ∧ pd' = tab64 c₂ ∧ rest' = (c₁, oc) :: (c₂, oc') :: rest ∧ CodeOk 57 qual57 c₁ oc ∧ CodeOk 64 qual64 c₂ oc' ∧ Fresh c₁ oc rest ∧ Fresh c₂ oc' rest)
theorem law_ways_spec {prog : Program} {w : World} {p : Program} {loose : List Str} {mean : ExcName → Option Value} {mg mb : Str → Option Value}
    (dp un : Nat) (gd : Option (List Code)) (cn : Str) (cs : Scope) (a : Addr) (ccd : Value) (cl : List (Str × Addr)) (outer : List Env) (A₀ : Around) (base h₀ : Heap) (L : Addr) (m : Str → Option Value) (s : Shared) (rest : List (Addr × Obj)) (Q E : Value → Shared → Prop)
    (x c : Nat) (tx tc : Tok) (pi pd : Obj)
    (B : Below A₀ base outer h₀) (F : Fr h₀ L s.heap m) (X : (lawTop.heap_39 w.params).In h₀) (N : News h₀ L s.heap ((64, pd) :: (57, pi) :: rest)) (T : Top p loose mean mg mb h₀) (hk : cs.kind = .function)
    (C57 : CodeHd base 61 57) (C64 : CodeHd base 68 64) (hne : ∀ q ∈ rest, q.1 ≠ 57) (hne' : ∀ q ∈ rest, q.1 ≠ 64)
    (ht : TabOk 57 qual57 tab57 pi rest) (ht' : TabOk 64 qual64 tab64 pd rest)
    (hx : x ≤ 40) (hc0 : 0 < c) (hc : c ≤ 3)
    (hd : dp + 400 < recursionLimit) (hu : un + 3000 < cLine)
    (hret : ∀ (t : Tok) (c₁ c₂ : Nat) (oc oc' : Obj) (h' : Heap) (tk' : Nat), Fr h₀ L h' m → News h₀ L h' ((64, tab64 c₂) :: (57, tab57 c₁) :: (c₁, oc) :: (c₂, oc') :: rest) →
      CodeOk 57 qual57 c₁ oc → CodeOk 64 qual64 c₂ oc' → Fresh c₁ oc rest → Fresh c₂ oc' rest → Q (.int (ch x c : Nat) t) { s with heap := h', toks := tk' }) :
    wpAny (model prog w) (ktrTop dp un gd cn cs L a ccd cl outer) (call (.ref 90) [.int (x : Nat) tx, .int (c : Nat) tc]) Q E s := by
  have hf : PySem.Challenge.rw_gb0005_01 = PySem.Challenge.rw_gb0005_01 ∧ lawTop.heap_39 = lawTop.heap_39 := by
    k_fill
    exact ⟨rfl, rfl⟩
  clear hf
  w_top on
  refine wpAny_call ?_
  k_dflt cell_enter
  k_steps
  refine go_on ?_
  refine iter_rangeUnr (n := c) rfl (by assumption) (range3 c hc0 hc).1 (range3 c hc0 hc).2 (by k_asm) (by k_asm) fun I hI => rangeRest_of (J := WyInv x c rest) ?step ?fin _ _ _ _ ?start
  case start => exact ⟨rest, pi, pd, _, _, by omega, (by rw [ch_zero]; rfl), rfl, rfl, fun q h => h, fun q h => .inl h, fun q h => ⟨hne q h, hne' q h⟩, ht, ht', .inl rfl⟩
  case step =>
    rintro k i m' news' t h tk ⟨rest', pi', pd', tf, t1, hik, mf, mp, rfl, hs1, hs2, hs3, ht1, ht2, hcase⟩ F9 N9
    obtain ⟨q1, q2, q3, q4⟩ := ch_fact x i hx (by omega)
    have g64 : @LT.lt Nat _ 64 I := hI (64, pd) (.head _)
    have g57 : @Ne Nat I 57 := by omega
    have g64' : @Ne Nat I 64 := by omega
    have hs4 : ∀ q ∈ rest', q.1 ≠ 57 := fun q h => (hs3 q h).1
    have hs5 : ∀ q ∈ rest', q.1 ≠ 64 := fun q h => (hs3 q h).2
    k_steps
    have N10 := news_front (a := [_, _]) (news_front (a := [_]) N9)
    simp only [List.cons_append, List.nil_append] at N10
    have N10 := news_front (a := [_]) N10
    simp only [List.cons_append, List.nil_append] at N10
    refine go_on ?_
    refine int_divmod_spec _ _ _ _ _ _ _ _ _ _ _ _ _ _ _ _ _ _ _ _ _ _ _ _ (by k_asm) (by k_asm) (by k_asm) N10 (by k_asm) rfl C57 C64 (cons_ne g57 hs4) (cons_ne g64' hs5) (ht1.sub fun p hp => List.mem_cons_of_mem _ hp) (ht2.sub fun p hp => List.mem_cons_of_mem _ hp) (by rw [Int.zero_add]; exact q1) (by rw [Int.zero_add]; exact q2) (by omega) (by omega) (by (try dsimp only [ktrTop]); omega) (by (try dsimp only [ktrTop]); omega) ?_
    intro r t3 t4 d₁ d₂ od od' h4 tk4 F4 N4 o₁ o₂ f₁ f₂ l₁ l₂ l₃ l₄
    k_lt l₁
    rw [Int.zero_add (i : Int), q3, q4] at N4
    k_steps
    rename News _ _ _ ((r, tup2 _ _ _ _) :: _) => N11
    have fI : Fresh I (itR (0 + ((i + 1 : Nat) : Int)) ((c : Int) - ((i + 1 : Nat) : Int))) rest := .inr fun q h => hI q (.tail _ (.tail _ h))
    have e1 : Fresh d₁ od rest := f₁.thru (fun q h => .tail _ (hs1 q h)) (List.forall_mem_cons.mpr ⟨.inr fI, hs2⟩)
    have e2 : Fresh d₂ od' rest := f₂.thru (fun q h => .tail _ (hs1 q h)) (List.forall_mem_cons.mpr ⟨.inr fI, hs2⟩)
    have i1 : @Ne Nat d₁ I := ne_data N11 (by k_mem) (by k_mem) (o₁.ne_it _ _)
    have i2 : @Ne Nat d₂ I := ne_data N11 (by k_mem) (by k_mem) (o₂.ne_it _ _)
    have i3 : @Ne Nat d₁ 64 := ne_data N11 (o' := tab64 d₂) (by k_mem) (by k_mem) (o₁.ne_tab _)
    have i4 : @LT.lt Nat _ 57 d₁ := o₁.above
    have i5 : @LT.lt Nat _ 64 d₂ := o₂.above
    refine UnrEnd.intro (by k_asm) (by k_asm) ((64, tab64 d₂) :: (57, tab57 d₁) :: (d₁, od) :: (d₂, od') :: rest) ?sub ?off ⟨(d₁, od) :: (d₂, od') :: rest, tab57 d₁, tab64 d₂, t3, t1, by omega, ?nf, ?np, rfl, fun q h => .tail _ (.tail _ h), List.forall_mem_cons.mpr ⟨.inr e1, List.forall_mem_cons.mpr ⟨.inr e2, fun q h => .inl h⟩⟩, ?ne, .inr ⟨d₁, od, rfl, .head _, o₁⟩, .inr ⟨d₂, od', rfl, .tail _ (.head _), o₂⟩, .inr ⟨d₁, d₂, od, od', rfl, rfl, rfl, o₁, o₂, e1, e2⟩⟩
    case sub =>
      refine List.forall_mem_cons.mpr ⟨by k_mem, List.forall_mem_cons.mpr ⟨by k_mem, List.forall_mem_cons.mpr ⟨by k_mem, List.forall_mem_cons.mpr ⟨by k_mem, List.forall_mem_cons.mpr ⟨by k_mem, ?_⟩⟩⟩⟩⟩
      exact fun p hp => .tail _ (.tail _ (.tail _ (.tail _ (.tail _ (.tail _ (hs1 p hp))))))
    case off => exact cons_ne (by omega) (cons_ne (by omega) (cons_ne i1 (cons_ne i2 (fun q h => Nat.ne_of_lt (hI q (.tail _ (.tail _ h)))))))
    case nf => (repeat (refine (if_neg (by decide)).trans ?_)); exact if_pos rfl
    case np => (repeat (refine (if_neg (by decide)).trans ?_)); exact mp
    case ne => exact List.forall_mem_cons.mpr ⟨⟨Nat.ne_of_gt i4, i3⟩, List.forall_mem_cons.mpr ⟨⟨Nat.ne_of_gt (Nat.lt_trans (by decide) i5), Nat.ne_of_gt i5⟩, fun q h => ⟨hne q h, hne' q h⟩⟩⟩
  case fin =>
    rintro i m' news' h tk ⟨rest', pi', pd', tf, t1, hik, mf, mp, rfl, hs1, hs2, hs3, ht1, ht2, hcase⟩ F9 N9
    k_steps
    have hic : i = c := by omega
    rcases hcase with h | ⟨c₁, c₂, oc, oc', rfl, rfl, rfl, o₁, o₂, e1, e2⟩
    · omega
    · subst hic
      exact hret _ _ _ _ _ _ _ (by k_asm) (by k_asm) o₁ o₂ e1 e2
end
-- part W10
local macro_rules | `(tactic| walk_at "call builtin:len") => `(tactic| (k_here; k_dflt (refine' KM.len_K ?k1 ?k2 ?k3 ?k4 ?_; (case k1 => k_asm); (case k2 => k_mem); (case k3 => assumption); (case k4 => omega); k_whole)))
section
local macro_rules | `(tactic| k_enter) => `(tactic| (refine' code_def ?k1 ?k2 ?k3 ?k4 ?k5 ?kA ?kF ?kK ?k6 ?k7 ?k8 ?k9 ?kB ?_ ?c2 ?c3 ?c4 ?c5; (case kA => exact rfl); (case kF => exact rfl); (case kK => assumption); (case k1 => k_asm); (case k2 => k_asm); (case k3 => k_asm); (case k4 => k_asm); (case k5 => k_asm); (case k6 => k_is); (case k7 => k_is); (case k8 => ktr_room); (case k9 => (refine' kp_binds ?kx ?ke; (case kx => k_in); (case ke => exact fun _ => rfl))); (case c5 => decide); (case kB => exact locs rfl); (case c2 => exact rfl); (case c3 => exact rfl); (case c4 => exact rfl); k_whole; intro g' L' h' FG' F' N' B' X' T'; (try dsimp only); (try k_lift B'); (try k_fold)))

section
variable {prog : Program} {w : World} {A : Around} {E : Value → Shared → Prop} {s : Shared} {h₀ : Heap} {env : Env} {test : PySem.Expr} {body orelse : List Stmt} {Q : Flow → Shared → Prop}
theorem whl_of {J : Nat → (Str → Option Value) → List (Addr × Obj) → Prop}
    (step : ∀ k m news h tk, J k m news → Fr h₀ env.locals h m → News h₀ env.locals h news →
      (∀ j m' news' h' tk', j < k → J j m' news' → Fr h₀ env.locals h' m' → News h₀ env.locals h' news' → WhlRest prog w A E env test body orelse Q 0 { s with heap := h', toks := tk' }) →
      WhlRest prog w A E env test body orelse Q 1 { s with heap := h, toks := tk }) :
    ∀ k m news h tk, J k m news → Fr h₀ env.locals h m → News h₀ env.locals h news → WhlRest prog w A E env test body orelse Q 0 { s with heap := h, toks := tk } := by
  intro k
  induction k using Nat.strongRecOn with
  | ind k ih => exact fun m news h tk hJ F N => step k m news h tk hJ F N fun j m' news' h' tk' hj hJ' F' N' => ih j hj m' news' h' tk' hJ' F' N'
end

section
local macro_rules | `(tactic| walk_at "WhlRest") => `(tactic| (refine stop_here ?_))
local macro_rules | `(tactic| walk_at "exec While Compare") => `(tactic| (k_here; refine stop_here ?_))

/-- the invariant of both searches -/
inductive BsInv (l : List Int) (x : Int) (r : Nat) (news : List (Addr × Obj)) (A B : Int → Prop) (k : Nat) (m' : Str → Option Value) (news' : List (Addr × Obj)) : Prop
  | mk (lo hi : Int) (t1 t2 t3 : Tok) (_ : (hi - lo).toNat = k) (_ : 0 ≤ lo) (_ : lo ≤ hi) (_ : hi ≤ l.length) (_ : lo = 0 ∨ A (l.getD (lo - 1).toNat 0)) (_ : hi = l.length ∨ B (l.getD hi.toNat 0))
    (_ : m' (Str.ofString "lo") = some (.int lo t1)) (_ : m' (Str.ofString "hi") = some (.int hi t2)) (_ : m' (Str.ofString "x") = some (.int x t3)) (_ : m' (Str.ofString "a") = some (.ref r)) (_ : news' = news)
theorem bisect_right_spec {prog : Program} {w : World} {p : Program} {loose : List Str} {mean : ExcName → Option Value} {mg mb : Str → Option Value}
    (dp un : Nat) (gd : Option (List Code)) (cn : Str) (cs : Scope) (a : Addr) (ccd : Value) (cl : List (Str × Addr)) (outer : List Env) (A₀ : Around) (base h₀ : Heap) (L : Addr) (m : Str → Option Value) (s : Shared) (news : List (Addr × Obj)) (Q E : Value → Shared → Prop)
    (x : Int) (tx : Tok) (r : Nat) (l : List Int) (vs : List Value) (ep : Nat)
    (B : Below A₀ base outer h₀) (F : Fr h₀ L s.heap m) (X : (lawTop.heap_39 w.params).In h₀) (N : News h₀ L s.heap news) (T : Top p loose mean mg mb h₀) (hk : cs.kind = .function)
    (hr : (r, W.listOf vs.toArray ep) ∈ news) (hl : IntsAre vs l) (hlen : l.length ≤ 64)
    (hd : dp + 300 < recursionLimit) (hu : un + 2500 < cLine)
    (hret : ∀ (lo : Nat) (t : Tok) (h' : Heap) (tk' : Nat), Fr h₀ L h' m → News h₀ L h' news → lo ≤ l.length → (lo = 0 ∨ l.getD (lo - 1) 0 ≤ x) → (lo = l.length ∨ x < l.getD lo 0) → Q (.int (lo : Nat) t) { s with heap := h', toks := tk' }) :
    wpAny (model prog w) (ktrTop dp un gd cn cs L a ccd cl outer) (call (.ref 23) [.ref r, .int x tx]) Q E s := by
  have hf : PySem.Challenge.rw_gb0005_01 = PySem.Challenge.rw_gb0005_01 ∧ lawTop.heap_39 = lawTop.heap_39 := by
    k_fill
    exact ⟨rfl, rfl⟩
  clear hf
  w_top on
  refine wpAny_call ?_
  k_dflt k_enter
  have hsz : vs.toArray.size = l.length := by have := hl.length; rw [List.size_toArray]; exact this
  k_steps
  refine go_on ?_
  refine whl_start 0 ?_
  rename Fr _ _ _ _ => F9
  rename News _ _ _ _ => N9
  refine whl_of (J := BsInv l x r news (fun v => v ≤ x) (fun v => x < v)) ?step ((l.length : Int) - 0).toNat _ _ _ _ ?start F9 N9
  case start => exact ⟨0, l.length, _, _, _, rfl, by omega, by omega, by omega, .inl rfl, .inl rfl, rfl, rfl, rfl, rfl, rfl⟩
  case step =>
    rintro k m' news' h tk ⟨lo, hi, t1, t2, t3, hk, hlo, hlh, hhi, hp, hq, ml, mh, mx, ma, rfl⟩ F9 N9 ih
    have hM : lo < hi → lo ≤ (lo + hi).fdiv 2 ∧ (lo + hi).fdiv 2 < hi := fun c => by
      rw [Int.fdiv_eq_ediv_of_nonneg _ (by omega)]
      omega
    refine whl_turn (by first | passes_own | with_unfolding_all passes_own) ?_
    k_steps
    by_cases c : lo < hi
    · have hM' := hM c
      refine WhlIf.yes (decide_eq_true c) ?_
      k_steps
      · refine go_on ?_
        refine ih ((lo + hi).fdiv 2 - lo).toNat _ _ _ _ (by omega) ?_ (by k_asm) (by k_asm)
        exact ⟨lo, (lo + hi).fdiv 2, t1, _, t3, rfl, by omega, by omega, by omega, hp, .inr (by assumption), (by (repeat (refine (if_neg (by decide)).trans ?_)); first | exact if_pos rfl | assumption), (by (repeat (refine (if_neg (by decide)).trans ?_)); first | exact if_pos rfl | assumption), (by (repeat (refine (if_neg (by decide)).trans ?_)); first | exact if_pos rfl | assumption), (by (repeat (refine (if_neg (by decide)).trans ?_)); first | exact if_pos rfl | assumption), rfl⟩
      · refine go_on ?_
        refine ih (hi - ((lo + hi).fdiv 2 + 1)).toNat _ _ _ _ (by omega) ?_ (by k_asm) (by k_asm)
        exact ⟨(lo + hi).fdiv 2 + 1, hi, _, t2, t3, rfl, by omega, by omega, by omega, .inr (by rw [Int.add_sub_cancel]; omega), hq, (by (repeat (refine (if_neg (by decide)).trans ?_)); first | exact if_pos rfl | assumption), (by (repeat (refine (if_neg (by decide)).trans ?_)); first | exact if_pos rfl | assumption), (by (repeat (refine (if_neg (by decide)).trans ?_)); first | exact if_pos rfl | assumption), (by (repeat (refine (if_neg (by decide)).trans ?_)); first | exact if_pos rfl | assumption), rfl⟩
    · refine WhlIf.no (decide_eq_false c) ?_
      k_steps
      obtain ⟨i, rfl⟩ := Int.eq_ofNat_of_zero_le hlo
      have hih : hi = (i : Int) := by omega
      subst hih
      rw [Int.toNat_natCast] at hq
      rw [show ((i : Int) - 1).toNat = i - 1 by omega] at hp
      exact hret i _ _ _ (by k_asm) (by k_asm) (by omega) (hp.imp (fun h => by omega) fun h => h) (hq.imp (fun h => by omega) fun h => h)

theorem bisect_left_spec {prog : Program} {w : World} {p : Program} {loose : List Str} {mean : ExcName → Option Value} {mg mb : Str → Option Value}
    (dp un : Nat) (gd : Option (List Code)) (cn : Str) (cs : Scope) (a : Addr) (ccd : Value) (cl : List (Str × Addr)) (outer : List Env) (A₀ : Around) (base h₀ : Heap) (L : Addr) (m : Str → Option Value) (s : Shared) (news : List (Addr × Obj)) (Q E : Value → Shared → Prop)
    (x : Int) (tx t0 : Tok) (r : Nat) (l : List Int) (vs : List Value) (ep : Nat)
    (B : Below A₀ base outer h₀) (F : Fr h₀ L s.heap m) (X : (lawTop.heap_39 w.params).In h₀) (N : News h₀ L s.heap news) (T : Top p loose mean mg mb h₀) (hk : cs.kind = .function)
    (hr : (r, W.listOf vs.toArray ep) ∈ news) (hl : IntsAre vs l) (hlen : l.length ≤ 64)
    (hd : dp + 300 < recursionLimit) (hu : un + 2500 < cLine)
    (hret : ∀ (lo : Nat) (t : Tok) (h' : Heap) (tk' : Nat), Fr h₀ L h' m → News h₀ L h' news → lo ≤ l.length → (lo = 0 ∨ l.getD (lo - 1) 0 < x) → (lo = l.length ∨ x ≤ l.getD lo 0) → Q (.int (lo : Nat) t) { s with heap := h', toks := tk' }) :
    wpAny (model prog w) (ktrTop dp un gd cn cs L a ccd cl outer) (call (.ref 41) [.ref r, .int x tx, .int 0 t0, .none]) Q E s := by
  have hf : PySem.Challenge.rw_gb0005_01 = PySem.Challenge.rw_gb0005_01 ∧ lawTop.heap_39 = lawTop.heap_39 := by
    k_fill
    exact ⟨rfl, rfl⟩
  clear hf
  w_top on
  refine wpAny_call ?_
  k_dflt k_enter
  have hsz : vs.toArray.size = l.length := by have := hl.length; rw [List.size_toArray]; exact this
  k_steps
  refine go_on ?_
  refine whl_start 0 ?_
  rename Fr _ _ _ _ => F9
  rename News _ _ _ _ => N9
  refine whl_of (J := BsInv l x r news (fun v => v < x) (fun v => x ≤ v)) ?step ((l.length : Int) - 0).toNat _ _ _ _ ?start F9 N9
  case start => exact ⟨0, l.length, _, _, _, rfl, by omega, by omega, by omega, .inl rfl, .inl rfl, rfl, rfl, rfl, rfl, rfl⟩
  case step =>
    rintro k m' news' h tk ⟨lo, hi, t1, t2, t3, hk, hlo, hlh, hhi, hp, hq, ml, mh, mx, ma, rfl⟩ F9 N9 ih
    have hM : lo < hi → lo ≤ (lo + hi).fdiv 2 ∧ (lo + hi).fdiv 2 < hi := fun c => by
      rw [Int.fdiv_eq_ediv_of_nonneg _ (by omega)]
      omega
    refine whl_turn (by first | passes_own | with_unfolding_all passes_own) ?_
    k_steps
    by_cases c : lo < hi
    · have hM' := hM c
      refine WhlIf.yes (decide_eq_true c) ?_
      k_steps
      · refine go_on ?_
        refine ih (hi - ((lo + hi).fdiv 2 + 1)).toNat _ _ _ _ (by omega) ?_ (by k_asm) (by k_asm)
        exact ⟨(lo + hi).fdiv 2 + 1, hi, _, t2, t3, rfl, by omega, by omega, by omega, .inr (by rw [Int.add_sub_cancel]; assumption), hq, (by (repeat (refine (if_neg (by decide)).trans ?_)); first | exact if_pos rfl | assumption), (by (repeat (refine (if_neg (by decide)).trans ?_)); first | exact if_pos rfl | assumption), (by (repeat (refine (if_neg (by decide)).trans ?_)); first | exact if_pos rfl | assumption), (by (repeat (refine (if_neg (by decide)).trans ?_)); first | exact if_pos rfl | assumption), rfl⟩
      · refine go_on ?_
        refine ih ((lo + hi).fdiv 2 - lo).toNat _ _ _ _ (by omega) ?_ (by k_asm) (by k_asm)
        exact ⟨lo, (lo + hi).fdiv 2, t1, _, t3, rfl, by omega, by omega, by omega, hp, .inr (by omega), (by (repeat (refine (if_neg (by decide)).trans ?_)); first | exact if_pos rfl | assumption), (by (repeat (refine (if_neg (by decide)).trans ?_)); first | exact if_pos rfl | assumption), (by (repeat (refine (if_neg (by decide)).trans ?_)); first | exact if_pos rfl | assumption), (by (repeat (refine (if_neg (by decide)).trans ?_)); first | exact if_pos rfl | assumption), rfl⟩
    · refine WhlIf.no (decide_eq_false c) ?_
      k_steps
      obtain ⟨i, rfl⟩ := Int.eq_ofNat_of_zero_le hlo
      have hih : hi = (i : Int) := by omega
      subst hih
      rw [Int.toNat_natCast] at hq
      rw [show ((i : Int) - 1).toNat = i - 1 by omega] at hp
      exact hret i _ _ _ (by k_asm) (by k_asm) (by omega) (hp.imp (fun h => by omega) fun h => h) (hq.imp (fun h => by omega) fun h => h)
end
-- part W11

section
local macro_rules | `(tactic| walk_at "call builtin:list.insert") => `(tactic| (k_here; (try dsimp only [List.nil_append, List.cons_append]); (with_reducible show wpAny _ _ (call (Value.builtin _) [Value.ref _, Value.int _ _, _]) _ _ _); k_dflt (refine' kl_insert ?F ?N ?f ?e ?U ?z ?_; (case F => k_asm); (case N => k_asm); (case e => exact rfl); (case U => k_upd); (case f => assumption); (case z => assumption); k_whole); intro h' F' N'))

theorem insort_left_spec {prog : Program} {w : World} {p : Program} {loose : List Str} {mean : ExcName → Option Value} {mg mb : Str → Option Value}
    (dp un : Nat) (gd : Option (List Code)) (cn : Str) (cs : Scope) (a : Addr) (ccd : Value) (cl : List (Str × Addr)) (outer : List Env) (A₀ : Around) (base h₀ : Heap) (L : Addr) (m : Str → Option Value) (s : Shared) (rest : List (Addr × Obj)) (Q E : Value → Shared → Prop)
    (x : Int) (tx : Tok) (r : Nat) (l : List Int) (vs : List Value) (ep : Nat)
    (B : Below A₀ base outer h₀) (F : Fr h₀ L s.heap m) (X : (lawTop.heap_39 w.params).In h₀) (N : News h₀ L s.heap ((r, W.listOf vs.toArray ep) :: rest)) (T : Top p loose mean mg mb h₀) (hk : cs.kind = .function)
    (hne : ∀ q ∈ rest, q.1 ≠ r) (hl : IntsAre vs l) (hlen : l.length ≤ 64)
    (hd : dp + 400 < recursionLimit) (hu : un + 3000 < cLine)
    (hret : ∀ (lo : Nat) (vs' : List Value) (h' : Heap) (tk' : Nat), Fr h₀ L h' m → News h₀ L h' ((r, W.listOf vs'.toArray (ep + 1)) :: rest) → IntsAre vs' (l.take lo ++ x :: l.drop lo) → lo ≤ l.length → (lo = 0 ∨ l.getD (lo - 1) 0 < x) → (lo = l.length ∨ x ≤ l.getD lo 0) → Q .none { s with heap := h', toks := tk' }) :
    wpAny (model prog w) (ktrTop dp un gd cn cs L a ccd cl outer) (call (.ref 32) [.ref r, .int x tx]) Q E s := by
  have hf : PySem.Challenge.rw_gb0005_01 = PySem.Challenge.rw_gb0005_01 ∧ lawTop.heap_39 = lawTop.heap_39 := by
    k_fill
    exact ⟨rfl, rfl⟩
  clear hf
  w_top on
  refine wpAny_call ?_
  k_dflt k_enter
  k_steps
  refine go_on ?_
  refine bisect_left_spec _ _ _ _ _ _ _ _ _ _ _ _ _ _ _ _ _ _ _ _ _ _ _ _ _ (by k_asm) (by k_asm) (by k_asm) (by k_asm) (by k_asm) rfl (List.mem_cons_self ..) hl hlen (by (try dsimp only [ktrTop]); omega) (by (try dsimp only [ktrTop]); omega) ?_
  intro lo t h1 tk1 F1 N1 q1 q2 q3
  have hvl := hl.length
  have hfi : Builtin.List.listFitsIndex (lo : Int) = true := by
    unfold Builtin.List.listFitsIndex
    rw [Bool.and_eq_true]
    exact ⟨decide_eq_true (by omega), decide_eq_true (by omega)⟩
  have hvz : vs.toArray.toList.length ≤ sizeLine := by
    rw [sizeLine_eq]
    show vs.length ≤ _
    omega
  k_steps
  have hin : kl_ins vs.toArray.toList (lo : Int) (.int x tx) = vs.take lo ++ .int x tx :: vs.drop lo := by
    unfold kl_ins
    have e : (if (lo : Int) < 0 then ((lo : Int) + (vs.toArray.toList.length : Int)).toNat else min (lo : Int).toNat vs.toArray.toList.length) = lo := by
      rw [if_neg (by omega), Int.toNat_natCast]
      show min lo vs.length = lo
      omega
    rw [e]
  rename News _ _ _ ((r, _) :: _) => N9
  rw [hin] at N9
  exact hret lo _ _ _ (by k_asm) N9 (IntsAre.append (hl.take lo) (.cons _ _ (hl.drop lo))) q1 q2 q3
end
end
-- part W12

def wid (k : Nat) : Nat := if k = 1 then 41 else 13
def row (k : Nat) : List Int := (List.range (wid k)).map fun x => ((ch x k : Nat) : Int)
/-- the greatest place whose ways are no more than x -/
def pl (k x : Nat) : Nat := ((List.range (wid k)).filter fun p => decide (ch p k ≤ x)).length - 1
def tell : Nat → Nat → List Int
  | 0, _ => []
  | k + 1, x => (pl (k + 1) x : Nat) :: tell k (x - ch (pl (k + 1) x) (k + 1))

theorem row_len (k : Nat) : (row k).length = wid k := by unfold row; rw [List.length_map, List.length_range]
theorem row_get (k i : Nat) (h : i < wid k) : (row k).getD i 0 = (ch i k : Nat) := by
  unfold row
  rw [List.getD_eq_getElem?_getD, List.getElem?_map, List.getElem?_range h]
  rfl
theorem wid_pos (k : Nat) : 13 ≤ wid k := by unfold wid; split <;> omega
theorem wid_le (k : Nat) : wid k ≤ 41 := by unfold wid; split <;> omega
theorem ch_mono (k : Nat) : ∀ n, ch n k ≤ ch (n + 1) k := by
  cases k with
  | zero => intro n; rw [ch_zero, ch_zero]; exact Nat.le_refl _
  | succ k =>
    intro n
    show ch n (k + 1) ≤ ch n k + ch n (k + 1)
    omega
theorem ch_mono' (k : Nat) {a b : Nat} (h : a ≤ b) : ch a k ≤ ch b k := by
  induction h with
  | refl => exact Nat.le_refl _
  | step _ ih => exact Nat.le_trans ih (ch_mono k _)
theorem filter_lt (lo n : Nat) (h : lo ≤ n) (f : Nat → Bool) (h1 : ∀ i, i < lo → f i = true) (h2 : ∀ i, lo ≤ i → i < n → f i = false) : ((List.range n).filter f).length = lo := by
  induction n with
  | zero => have : lo = 0 := by omega
            subst this; rfl
  | succ n ih =>
    rw [List.range_succ, List.filter_append, List.length_append]
    rcases Nat.lt_or_ge n lo with hl | hl
    · have e : lo = n + 1 := by omega
      have h3 : (List.range n).filter f = List.range n := List.filter_eq_self.mpr fun a ha => h1 a (by have := List.mem_range.mp ha; omega)
      rw [h3, List.length_range, e]
      show n + ([n].filter f).length = _
      rw [List.filter_cons_of_pos (h1 n hl)]
      rfl
    · rw [ih hl fun i a b => h2 i a (by omega), List.filter_cons_of_neg (by rw [h2 n hl (by omega)]; exact Bool.false_ne_true)]
      rfl
theorem pl_of (k x lo : Nat) (hk : 0 < k) (hlo : lo ≤ wid k) (hp : lo = 0 ∨ (row k).getD (lo - 1) 0 ≤ (x : Nat)) (hq : lo = wid k ∨ (x : Int) < (row k).getD lo 0) : ((lo : Nat) : Int) - 1 = (pl k x : Nat) ∧ pl k x < wid k ∧ ch (pl k x) k ≤ x := by
  have w := wid_pos k
  have h0 : ch 0 k = 0 := by
    cases k with
    | zero => omega
    | succ k => rfl
  have hlo0 : lo ≠ 0 := fun e => by
    subst e
    rcases hq with h | h
    · omega
    · rw [row_get k 0 (by omega), h0] at h
      omega
  have hp' : ch (lo - 1) k ≤ x := by
    rcases hp with h | h
    · exact absurd h hlo0
    · rw [row_get k _ (by omega)] at h
      exact_mod_cast h
  have e : ((List.range (wid k)).filter fun p => decide (ch p k ≤ x)).length = lo := by
    refine filter_lt lo (wid k) hlo _ (fun i hi => decide_eq_true (Nat.le_trans (ch_mono' k (by omega)) hp')) fun i hi hn => decide_eq_false fun hle => ?_
    rcases hq with h | h
    · omega
    · rw [row_get k _ (by omega)] at h
      have h3 := ch_mono' k hi
      have h4 : x < ch lo k := by exact_mod_cast h
      omega
  have e2 : pl k x = lo - 1 := by unfold pl; rw [e]
  rw [e2]
  exact ⟨by omega, by omega, hp'⟩

structure TableOk (prog : Program) (w : World) (D : Nat) (od : Obj) (kvs : List (Int × Value)) (count : Nat) (news : List (Addr × Obj)) : Prop where
  mem : (D, od) ∈ news
  is : od.IsDictOf (PySem.intKind prog w) kvs
  rows : ∀ k : Nat, 0 < k → k ≤ count → ∃ (r : Nat) (vs : List Value) (ep : Nat), valueAt kvs (k : Int) = some (.ref r) ∧ (r, W.listOf vs.toArray ep) ∈ news ∧ IntsAre vs (row k)
  all : ∀ q ∈ kvs, ∃ (r : Nat) (vs : List Value) (ep : Nat) (l : List Int), q.2 = .ref r ∧ (r, W.listOf vs.toArray ep) ∈ news ∧ IntsAre vs l
  size : kvs.length ≤ 3
  low : (D == sysModules) = false
theorem TableOk.sub {prog : Program} {w : World} {D : Nat} {od : Obj} {kvs : List (Int × Value)} {count : Nat} {n1 n2 : List (Addr × Obj)} (h : TableOk prog w D od kvs count n1) (hs : ∀ p ∈ n1, p ∈ n2) : TableOk prog w D od kvs count n2 :=
  ⟨hs _ h.mem, h.is, fun k h0 h1 => let ⟨r, vs, ep, a, b, c⟩ := h.rows k h0 h1; ⟨r, vs, ep, a, hs _ b, c⟩, fun q hq => let ⟨r, vs, ep, l, a, b, c⟩ := h.all q hq; ⟨r, vs, ep, l, a, hs _ b, c⟩, h.size, h.low⟩

section
variable {prog : Program} {w : World} {A : Around} {E : Value → Shared → Prop} {s : Shared} {env : Env} {h₀ : Heap} {x : Str} {body : List Stmt} {Q : Flow → Shared → Prop}
theorem iter_downN {r : Addr} {a₀ b₀ : Int} {t₀ u₀ v₀ : Tok} {n : Nat} {m₀ : Str → Option Value} {news : List (Addr × Obj)} (J : Nat → (Str → Option Value) → List (Addr × Obj) → Prop)
    (hh : A.handled = none) (hr : IsRange s.heap r a₀ b₀ (-1) t₀ u₀ v₀) (hsmall : Builtin.Range.small a₀ b₀ (-1) = true) (hn : Builtin.Range.rangeSize a₀ b₀ (-1) = (n : Int)) (F : Fr h₀ env.locals s.heap m₀) (N : News h₀ env.locals s.heap news) (hj : J 0 m₀ news)
    (turn : ∀ i t m₁ news₁ h tk own, i < n → news₁.map (·.1) = news.map (·.1) → OwnOff own (news.map (·.1)) → J i m₁ news₁ → Fr h₀ env.locals h (fun y => if y = x then some (.int (a₀ - (i : Int)) t) else m₁ y) → News h₀ env.locals h (news₁ ++ own) →
      wpAny (model prog w) A (execs body env) (InvPostN h₀ env.locals (J (i + 1)) own (news.map (·.1)) { s with heap := h, toks := tk } Q) E { s with heap := h, toks := tk })
    (done : ∀ m₁ news₁ h tk, J n m₁ news₁ → Fr h₀ env.locals h m₁ → News h₀ env.locals h news₁ → Q .next { s with heap := h, toks := tk }) :
    wpAny (model prog w) A (pyIter (.ref r)) (fun it s₂ => LoopAtV prog w A h₀ env x body Q E it s₂) E s := by
  refine wpAny_pyIter_range hr hsmall ?_
  refine loop_invN J (Walks.range hh s.heap.objs.size a₀ (-1) n).bound ?a ?b ?c ?d (by show IsRangeIter _ _ _ _ _; rw [hn]; simpa using Heap.get?_push_size _ rfl) (F.push _) (fun p hp => ⟨Heap.get?_push_of_some _ (N p hp).1, (N p hp).2⟩) hj ?t done
  case a => exact fun hm => absurd F.ns.lt ((List.mem_singleton.mp hm) ▸ Nat.lt_irrefl _)
  case b => exact fun b hb => by rw [List.mem_singleton.mp hb]; exact next_is_new F
  case c => exact fun p hp hI => absurd (Heap.lt_size (N p hp).1) ((List.mem_singleton.mp hI) ▸ Nat.lt_irrefl _)
  case d => exact fun p hp hI => absurd (Heap.lt_size (N p hp).1) ((List.mem_singleton.mp hI) ▸ Nat.lt_irrefl _)
  case t =>
    rintro i v m₁ nx h tk own hi ⟨_, t, rfl⟩ hadr hoff hJ F₁ N₁
    rw [show a₀ + (i : Int) * (-1) = a₀ - (i : Int) by omega] at F₁
    exact turn i t m₁ nx h tk own hi hadr hoff hJ F₁ N₁
end

local macro_rules | `(tactic| walk_at "subscriptTail") => `(tactic| (k_here; (with_reducible show wpAny _ _ (subscriptTail _ _ (Value.ref _) (Value.int _ _)) _ _ _); k_dflt (refine' kda_item (knd := PySem.intKind _ _) ?F ?h ?d (intKind_is _ _ _ _) ?l ?_; (case F => k_asm); (case d => assumption); (case h => k_mem); (case l => assumption); k_whole)))
section
local macro_rules | `(tactic| walk_at "call type:range") => `(tactic| ((with_reducible show wpAny _ _ (call _ [_, _, _]) _ _ _); (rename Fr _ _ _ _ => F'); (rename News _ _ _ _ => N'); (with_unfolding_all refine range3_rows F' N' (by decide) ?_); intro _ _ _ _ _ _ _ _ _))
local macro_rules | `(tactic| walk_at "InvPostN") => `(tactic| (refine stop_here ?_))
local macro_rules | `(tactic| walk_at "subscriptTail") => `(tactic| (k_here; (with_reducible show wpAny _ _ (subscriptTail _ _ (Value.ref _) (Value.int _ _)) _ _ _); k_dflt (refine' item_anyK ?k1 ?k2 ?k3 ?k4 ?k5 ?_ ?k6; (case k1 => exact News.isList (by k_asm) (by k_mem)); (case k2 => assumption); (case k3 => assumption); (case k4 => assumption); (case k5 => omega); (case k6 => with_unfolding_all rfl); k_whole); intro _))

/-- the invariant of the loop over the places -/
inductive PlInv (x c D : Nat) (news : List (Addr × Obj)) (i : Nat) (m' : Str → Option Value) (news' : List (Addr × Obj)) : Prop
  | mk (f xi : Nat) (fs : List Value) (is : List Int) (ep : Nat) (t1 : Tok) (_ : i ≤ c) (_ : is.length = i) (_ : xi < 40) (_ : IntsAre fs is) (_ : is ++ tell (c - i) xi = tell c x) (_ : m' (Str.ofString "number") = some (.int (xi : Nat) t1)) (_ : m' (Str.ofString "table") = some (.ref D)) (_ : m' (Str.ofString "found") = some (.ref f))
    (_ : news' = (f, W.listOf fs.toArray ep) :: news) (_ : ∀ q ∈ news, q.1 < f)
theorem law_places_spec {prog : Program} {w : World} {p : Program} {loose : List Str} {mean : ExcName → Option Value} {mg mb : Str → Option Value}
    (dp un : Nat) (gd : Option (List Code)) (cn : Str) (cs : Scope) (a : Addr) (ccd : Value) (cl : List (Str × Addr)) (outer : List Env) (A₀ : Around) (base h₀ : Heap) (L : Addr) (m : Str → Option Value) (s : Shared) (news : List (Addr × Obj)) (Q E : Value → Shared → Prop)
    (x c : Nat) (tx tc : Tok) (D : Nat) (od : Obj) (kvs : List (Int × Value))
    (B : Below A₀ base outer h₀) (F : Fr h₀ L s.heap m) (X : (lawTop.heap_39 w.params).In h₀) (N : News h₀ L s.heap news) (T : Top p loose mean mg mb h₀) (hk : cs.kind = .function)
    (ht : TableOk prog w D od kvs c news) (hx : x < 40) (hc0 : 0 < c) (hc : c ≤ 3)
    (hd : dp + 400 < recursionLimit) (hu : un + 3000 < cLine)
    (hret : ∀ (r : Nat) (vs : List Value) (ep : Nat) (h' : Heap) (tk' : Nat), Fr h₀ L h' m → News h₀ L h' ((r, W.listOf vs.toArray ep) :: news) → IntsAre vs (tell c x) → (∀ q ∈ news, q.1 < r) → Q (.ref r) { s with heap := h', toks := tk' }) :
    wpAny (model prog w) (ktrTop dp un gd cn cs L a ccd cl outer) (call (.ref 97) [.int (x : Nat) tx, .int (c : Nat) tc, .ref D]) Q E s := by
  have hf : PySem.Challenge.rw_gb0005_01 = PySem.Challenge.rw_gb0005_01 ∧ lawTop.heap_39 = lawTop.heap_39 := by
    k_fill
    exact ⟨rfl, rfl⟩
  clear hf
  w_top on
  refine wpAny_call ?_
  k_dflt cell_enter
  k_steps
  rename ∀ p ∈ news, p.1 < _ => lf
  refine go_on ?_
  rename IsRange _ _ _ _ _ _ _ _ => hR
  refine iter_downN (n := c) (PlInv x c D news) rfl hR (small_down (by omega) (by omega) (by omega) (by omega)) (by rw [rangeSize_downNat]; omega) (by k_asm) (by k_asm) ?start ?turn ?done
  case start => exact ⟨_, x, [], [], 0, _, Nat.zero_le _, rfl, hx, .nil, rfl, rfl, rfl, rfl, rfl, lf⟩
  case turn =>
    rintro i t m' news' h tk own hi hadr hoff ⟨f, xi, fs, is, ep, t1, hic, hil, hxi, hfs, htl, mn, mt, mf, rfl, lf⟩ F9 N9
    rw [← hadr] at hoff
    obtain ⟨k, hk⟩ : ∃ k : Nat, c - i = k + 1 := ⟨c - i - 1, by omega⟩
    have hk2 : (c : Int) - (i : Int) = ((k + 1 : Nat) : Int) := by omega
    obtain ⟨rr, vr, er, hv, hm, hir⟩ := ht.rows (k + 1) (by omega) (by omega)
    have hD := ht.is
    have hDm : (D, od) ∈ news ++ own := List.mem_append_left _ ht.mem
    have hm' : (rr, W.listOf vr.toArray er) ∈ news ++ own := List.mem_append_left _ hm
    rw [List.cons_append] at N9
    have hoff' : ∀ q ∈ news ++ own, q.1 ≠ f := fun q hq => (List.mem_append.mp hq).elim (fun h => Nat.ne_of_lt (lf q h)) fun h => hoff q h f (by rw [List.map_cons]; exact .head _)
    rw [hk2] at F9
    rw [hk, tell] at htl
    k_steps
    refine go_on ?_
    refine bisect_right_spec _ _ _ _ _ _ _ _ _ _ _ _ _ _ _ _ _ _ _ _ _ _ _ _ (by k_asm) (by k_asm) (by k_asm) (by k_asm) (by k_asm) rfl (.tail _ hm') hir (by rw [row_len]; have := wid_le (k + 1); omega) (by (try dsimp only [ktrTop]); omega) (by (try dsimp only [ktrTop]); omega) ?_
    intro lo t h1 tk1 F1 N1 q1 q2 q3
    rw [row_len] at q1 q3
    have hz : fs.toArray.size ≤ 3 := by rw [List.size_toArray, hfs.length]; omega
    obtain ⟨e1, e2, e3⟩ := pl_of (k + 1) xi lo (by omega) q1 q2 q3
    have hw := wid_le (k + 1)
    have hl1 : (0 : Int) ≤ (lo : Int) - 1 := by omega
    have hl2 : (lo : Int) - 1 < ((row (k + 1)).length : Int) := by rw [row_len]; omega
    k_steps
    rename News _ _ _ ((f, W.listOf (fs.toArray.push _) _) :: _) => N10
    rename Fr _ _ _ _ => F10
    have e4 : (xi : Int) - (row (k + 1)).getD ((lo : Int) - 1).toNat 0 = ((xi - ch (pl (k + 1) xi) (k + 1) : Nat) : Int) := by
      rw [e1, Int.toNat_natCast, row_get _ _ e2, Int.ofNat_sub e3]
    rw [e4] at F10
    rw [e1] at N10
    rw [List.push_toArray] at N10
    refine go_on ?_
    refine InvEndN.intro F10 N10 (nx := (f, W.listOf (fs ++ [Value.int (pl (k + 1) xi : Nat) (tk1 + 1)]).toArray (ep + 1)) :: news)
      ⟨f, xi - ch (pl (k + 1) xi) (k + 1), fs ++ [Value.int (pl (k + 1) xi : Nat) (tk1 + 1)], is ++ [((pl (k + 1) xi : Nat) : Int)], ep + 1, _, by omega, by rw [List.length_append, hil]; rfl, by omega, IntsAre.append hfs (.cons _ _ .nil), ?htl, if_pos rfl, ?hmt, ?hmf, rfl, lf⟩ hadr
      (List.forall_mem_cons.mpr ⟨.head _, fun q h => .tail _ (List.mem_append_left _ h)⟩) (fun q h => .tail _ (List.mem_append_right _ h))
    case htl => rw [← htl, List.append_assoc, show c - (i + 1) = k by omega]; rfl
    case hmt => (repeat (refine (if_neg (by decide)).trans ?_)); exact mt
    case hmf => (repeat (refine (if_neg (by decide)).trans ?_)); exact mf
  case done =>
    rintro m' news' h tk ⟨f, xi, fs, is, ep, t1, hic, hil, hxi, hfs, htl, mn, mt, mf, rfl, lf⟩ F9 N9
    rw [Nat.sub_self, tell, List.append_nil] at htl
    k_steps
    rw [htl] at hfs
    exact hret f fs ep _ _ (by k_asm) (by k_asm) hfs lf
end
-- part C1

structure LiAt (o : Obj) (ax : Addr) (i : Nat) : Prop where
  cls : o.cls = .type "list_iterator"
  data : o.data = .fields #[.ref ax, .int i 0]

section
variable {prog : Program} {w : World} {A : Around} {E : Value → Shared → Prop} {s : Shared} {h₀ : Heap} {L I : Addr} {m : Str → Option Value} {rest : List (Addr × Obj)}

theorem next_range (hh : A.handled = none) {x : Int} {k : Nat} {Q : Option Value → Shared → Prop} (F : Fr h₀ L s.heap m) (N : News h₀ L s.heap ((I, itR x ((k + 1 : Nat) : Int)) :: rest)) (off : ∀ p ∈ rest, p.1 ≠ I)
    (h : ∀ t h' tk, Fr h₀ L h' m → News h₀ L h' ((I, itR (x + 1) (k : Int)) :: rest) → Q (some (.int x t)) { s with heap := h', toks := tk }) :
    wpAny (model prog w) A (pyNext (.ref I)) Q E s := by
  have z := N _ (.head _)
  have N' : News h₀ L s.heap rest := fun p hp => N p (.tail _ hp)
  refine (Walks.range (prog := prog) (w := w) hh I x 1 (k + 1)).item 0 s Q E (Nat.succ_pos _) (by show s.heap.get? I = some _; simpa [itR] using z.1) fun v h' tk hP hSt hk => ?_
  obtain ⟨t, rfl⟩ := hP
  have e0 : x + ((0 : Nat) : Int) * 1 = x := by omega
  rw [e0]
  refine h t h' tk (LCg.fr_but F hk (Ne.symm z.2.1) z.2.2) fun p hp => ?_
  rcases List.mem_cons.mp hp with rfl | hp
  · refine ⟨?_, z.2⟩
    have e : h'.get? I = some _ := hSt
    rw [e]
    have a1 : x + ((0 + 1 : Nat) : Int) * 1 = x + 1 := by omega
    have a2 : ((k + 1 : Nat) : Int) - ((0 + 1 : Nat) : Int) = (k : Int) := by omega
    rw [a1, a2]
    rfl
  · exact LCg.news_but N' hk off p hp
theorem next_range_end (hh : A.handled = none) {x : Int} {Q : Option Value → Shared → Prop} (F : Fr h₀ L s.heap m) (N : News h₀ L s.heap ((I, itR x ((0 : Nat) : Int)) :: rest)) (off : ∀ p ∈ rest, p.1 ≠ I)
    (h : ∀ h', Fr h₀ L h' m → News h₀ L h' rest → Q none { s with heap := h' }) :
    wpAny (model prog w) A (pyNext (.ref I)) Q E s := by
  have z := N _ (.head _)
  have N' : News h₀ L s.heap rest := fun p hp => N p (.tail _ hp)
  refine wpAny_pyNext_range_end hh (x := x) (left := 0) (step := 1) (by show s.heap.get? I = some _; exact z.1) (Int.le_refl _) fun h' hs => ?_
  have hk : ∀ b o, b ∉ [I] → s.heap.get? b = some o → h'.get? b = some o := fun b o hb e => hs b o (by simpa using hb) e
  exact h h' (LCg.fr_but F hk (Ne.symm z.2.1) z.2.2) (LCg.news_but N' hk off)
theorem next_list {ax : Addr} {its : Array Value} {n i : Nat} {o : Obj} {v : Value} {Q : Option Value → Shared → Prop} (F : Fr h₀ L s.heap m) (N : News h₀ L s.heap ((I, o) :: rest)) (off : ∀ p ∈ rest, p.1 ≠ I) (ho : LiAt o ax i) (hm : (ax, W.listOf its n) ∈ rest) (hv : its[i]? = some v)
    (h : ∀ h' o', LiAt o' ax (i + 1) → Fr h₀ L h' m → News h₀ L h' ((I, o') :: rest) → Q (some v) { s with heap := h' }) :
    wpAny (model prog w) A (pyNext (.ref I)) Q E s := by
  have z := N _ (.head _)
  have N' : News h₀ L s.heap rest := fun p hp => N p (.tail _ hp)
  refine wpAny_pyNext_list_item ⟨o, z.1, ho.cls, ho.data⟩ (News.isList N' hm) hv fun h' hit hs => ?_
  obtain ⟨o', e, hc, hd⟩ := hit
  have hk : ∀ b o, b ∉ [I] → s.heap.get? b = some o → h'.get? b = some o := fun b o hb e => hs.extBut b o (by simpa using hb) e
  refine h h' o' ⟨hc, hd⟩ (LCg.fr_but F hk (Ne.symm z.2.1) z.2.2) fun p hp => ?_
  rcases List.mem_cons.mp hp with rfl | hp
  · exact ⟨e, z.2⟩
  · exact LCg.news_but N' hk off p hp
theorem next_list_end (hh : A.handled = none) {ax : Addr} {its : Array Value} {n i : Nat} {o : Obj} {Q : Option Value → Shared → Prop} (F : Fr h₀ L s.heap m) (N : News h₀ L s.heap ((I, o) :: rest)) (off : ∀ p ∈ rest, p.1 ≠ I) (ho : LiAt o ax i) (hm : (ax, W.listOf its n) ∈ rest) (hv : its.size ≤ i)
    (h : ∀ h', Fr h₀ L h' m → News h₀ L h' rest → Q none { s with heap := h' }) :
    wpAny (model prog w) A (pyNext (.ref I)) Q E s := by
  have z := N _ (.head _)
  have N' : News h₀ L s.heap rest := fun p hp => N p (.tail _ hp)
  refine wpAny_pyNext_list_end hh ⟨o, z.1, ho.cls, ho.data⟩ (News.isList N' hm) (by simpa using hv) fun h' hs => ?_
  have hk : ∀ b o, b ∉ [I] → s.heap.get? b = some o → h'.get? b = some o := fun b o hb e => hs b o (by simpa using hb) e
  exact h h' (LCg.fr_but F hk (Ne.symm z.2.1) z.2.2) (LCg.news_but N' hk off)
theorem iter_listK {ax : Addr} {its : Array Value} {n : Nat} {Q : Value → Shared → Prop} (F : Fr h₀ L s.heap m) (N : News h₀ L s.heap rest) (hm : (ax, W.listOf its n) ∈ rest)
    (h : ∀ (I : Nat) o h', LiAt o ax 0 → (∀ p ∈ rest, p.1 < I) → Fr h₀ L h' m → News h₀ L h' ((I, o) :: rest) → Q (.ref I) { s with heap := h' }) :
    wpAny (model prog w) A (pyIter (.ref ax)) Q E s :=
  wpAny_pyIter_list (News.isList N hm) (h _ _ _ ⟨rfl, rfl⟩ (fun p hp => Heap.lt_size (N p hp).1) (F.push _) (News.push F N _ rfl))
theorem iter_rangeK {r : Addr} {a b : Int} {t u v : Tok} {n : Nat} {Q : Value → Shared → Prop} (F : Fr h₀ L s.heap m) (N : News h₀ L s.heap rest) (hr : IsRange s.heap r a b 1 t u v) (hsm : Builtin.Range.small a b 1 = true) (hn : Builtin.Range.rangeSize a b 1 = (n : Int))
    (h : ∀ (I : Nat) h', (∀ p ∈ rest, p.1 < I) → Fr h₀ L h' m → News h₀ L h' ((I, itR a (n : Int)) :: rest) → Q (.ref I) { s with heap := h' }) :
    wpAny (model prog w) A (pyIter (.ref r)) Q E s := by
  refine wpAny_pyIter_range hr hsm ?_
  rw [hn]
  exact h _ _ (fun p hp => Heap.lt_size (N p hp).1) (F.push _) (News.push F N _ rfl)
theorem iter_selfR (hh : A.handled = none) {x : Int} {k : Nat} {Q : Value → Shared → Prop} (N : News h₀ L s.heap ((I, itR x (k : Int)) :: rest)) (h : Q (.ref I) s) : wpAny (model prog w) A (pyIter (.ref I)) Q E s :=
  (Walks.range (prog := prog) (w := w) hh I x 1 k).self 0 s Q E (by have z := (N _ (.head _)).1; show s.heap.get? I = some _; simpa [itR] using z) h
theorem iter_selfL {ax : Addr} {i : Nat} {o : Obj} {Q : Value → Shared → Prop} (N : News h₀ L s.heap ((I, o) :: rest)) (ho : LiAt o ax i) (h : Q (.ref I) s) : wpAny (model prog w) A (pyIter (.ref I)) Q E s :=
  wpAny_pyIter_listiter ⟨o, (N _ (.head _)).1, ho.cls, ho.data⟩ h

/-- storing a name of the block's own -/
theorem store_own {env : Env} {C : Addr} {oC : Obj} {m₂ : Str → Option Value} {x : Str} {v : Value} {Q : Unit → Shared → Prop} (hC : env.locals = C) (hx : env.kindOf x = some .local) (hk : env.scope.kind = .function) (F : Fr h₀ L s.heap m) (N : News h₀ L s.heap ((C, oC) :: rest)) (off : ∀ p ∈ rest, p.1 ≠ C) (hn : LCg.NsObj oC m₂)
    (h : ∀ h' tk oC', LCg.NsObj oC' (fun y => if y = x then some v else m₂ y) → Fr h₀ L h' m → News h₀ L h' ((C, oC') :: rest) → Q () { s with heap := h', toks := tk }) :
    wpAny (model prog w) A (storeName env x v) Q E s := by
  subst hC
  have z := N _ (.head _)
  refine wpAny_storeName_local hx (hn.ns z.1) (fun h' hn' hs => ?_) (by rw [hk]; rfl)
  obtain ⟨oC', e, hn''⟩ := LCg.ns_obj hn'
  exact h h' _ oC' hn'' (F.change hs z.2.1 z.2.2) (N.setHead off hs e)
theorem assign_own {env : Env} {C : Addr} {oC : Obj} {m₂ : Str → Option Value} {x : Str} {px : Pos} {v : Value} {Q : Unit → Shared → Prop} (hC : env.locals = C) (hx : env.kindOf x = some .local) (hk : env.scope.kind = .function) (F : Fr h₀ L s.heap m) (N : News h₀ L s.heap ((C, oC) :: rest)) (off : ∀ p ∈ rest, p.1 ≠ C) (hn : LCg.NsObj oC m₂)
    (h : ∀ h' tk oC', LCg.NsObj oC' (fun y => if y = x then some v else m₂ y) → Fr h₀ L h' m → News h₀ L h' ((C, oC') :: rest) → Q () { s with heap := h', toks := tk }) :
    wpAny (model prog w) A (assign (.Name x px) env v) Q E s := wpAny_assign_Name (store_own hC hx hk F N off hn h)
theorem append_lst {D : Addr} {ys : List Value} {y : Value} {Q : Value → Shared → Prop} (F : Fr h₀ L s.heap m) (N : News h₀ L s.heap ((D, LCg.lst ys) :: rest)) (off : ∀ p ∈ rest, p.1 ≠ D) (hsz : ys.length ≤ sizeLine)
    (h : ∀ h', Fr h₀ L h' m → News h₀ L h' ((D, LCg.lst (ys ++ [y])) :: rest) → Q .none { s with heap := h' }) :
    wpAny (model prog w) A (call (.builtin "list.append") [.ref D, y]) Q E s := by
  have z := N _ (.head _)
  refine append_at (hsz := by rw [List.size_toArray]; exact hsz) z.1 fun h' hs e => ?_
  exact h h' (F.change hs z.2.1 z.2.2) (N.setHead off hs (e.trans (congrArg some (LCg.lst_snoc ys y))))

/-- what the block leaves -/
inductive CompEnd (h₀ : Heap) (L : Addr) (m : Str → Option Value) (s₂ : Shared) (C D : Addr) (Q : Value → Shared → Prop) (s' : Shared) : Prop
  | mk (h' : Heap) (tk : Nat) (oC : Obj) (m₂ : Str → Option Value) (o : Obj) (news : List (Addr × Obj)) (_ : s' = { s₂ with heap := h', toks := tk }) (_ : Fr h₀ L h' m) (_ : News h₀ L h' ((C, oC) :: (D, o) :: news)) (_ : LCg.NsObj oC m₂) (_ : C ≠ D) (_ : ∀ p ∈ news, p.1 ≠ C)
      (_ : ∀ h'' tk', Fr h₀ L h'' m → News h₀ L h'' ((D, o) :: news) → Q (.ref D) { s₂ with heap := h'', toks := tk' })
def CompDone (h₀ : Heap) (L : Addr) (m : Str → Option Value) (s₂ : Shared) (C D : Addr) (Q : Value → Shared → Prop) (r : Result) (s' : Shared) : Prop :=
  match r with
  | .ok _ => CompEnd h₀ L m s₂ C D Q s'
  | .error _ => False
def CompGo (prog : Program) (w : World) (A : Around) (h₀ : Heap) (L : Addr) (m : Str → Option Value) (e : Expr) (scope : Scope) (cl : List (Str × Addr)) (env : Env) (Q : Value → Shared → Prop) (it : Value) (s₂ : Shared) : Prop :=
  ∃ news, Fr h₀ L s₂.heap m ∧ News h₀ L s₂.heap news ∧ ∀ (C D : Nat) oC h' tk, Fr h₀ L h' m → News h₀ L h' ((C, oC) :: (D, LCg.lst []) :: news) → LCg.NsObj oC (fun _ => none) → C ≠ D → (∀ p ∈ news, p.1 < C) → (∀ p ∈ news, p.1 < D) →
      codeAny (model prog w) A (.compStart e 0 it (.ref D) (compEnvC scope cl C env)) (CompDone h₀ L m { s₂ with heap := h', toks := tk } C D Q) { s₂ with heap := h', toks := tk }
theorem comp_eval {elt t0 i0 : Expr} {ifs : List Expr} {gs : List Comprehension} {scope : Scope} {cl : List (Str × Addr)} {pos : Pos} {env : Env} {Q : Value → Shared → Prop} (F₀ : Fr h₀ L s.heap m)
    (hclos : closureFor scope env = pure cl) (hcell : ∀ y ∈ scope.names, y.2 ≠ .cell) (hkind : scope.kind = .function)
    (hnames : ∀ y ∈ scope.names, y.2 = .local → scope.names.lookup y.1 = some .local)
    (h : wpAny (model prog w) A (eval i0 env) (fun xv s₁ => wpAny (model prog w) A (pyIter xv) (fun it s₂ => CompGo prog w A h₀ L m (.ListComp elt (⟨t0, i0, ifs, 0⟩ :: gs) scope pos) scope cl env Q it s₂) E s₁) E s)
    (hs : ∀ x, foldedSetIterable i0 env x = pure x := by intro _; rfl) (hf : firstAsync (⟨t0, i0, ifs, 0⟩ :: gs) = false := by rfl) (hi : firstIter (⟨t0, i0, ifs, 0⟩ :: gs) env = eval i0 env := by rfl) :
    wpAny (model prog w) A (eval (.ListComp elt (⟨t0, i0, ifs, 0⟩ :: gs) scope pos) env) Q E s := by
  rw [eval_ListComp, hf, hi]
  refine wpAny_comprehension_free (use := none) rfl hs hclos hkind hnames (wpAny_mono h (fun xv s₁ h₁ => wpAny_mono h₁ (fun it s₂ h₂ => ?_) fun _ _ e => e) fun _ _ e => e)
  obtain ⟨news, F, N, go⟩ := h₂
  refine wpAny_newObj_type (wpAny_newFunctionEnv hcell (by intro y hy; simp at hy) (fun h₁ hns₁ hsb₁ => ?_) hkind)
  dsimp only at hns₁ hsb₁ ⊢
  generalize hH2 : s₂.heap.push { cls := .type "list", dict := none, data := .seq ([] : List Value).toArray } = H2 at hns₁ hsb₁ ⊢
  have hC : H2.objs.size = s₂.heap.objs.size + 1 := by rw [← hH2, Heap.size_push]
  obtain ⟨oC, heC, hoC⟩ := LCg.ns_obj hns₁
  have F2 : Fr h₀ L H2 m := by rw [← hH2]; exact F.push _
  have N2 : News h₀ L H2 ((s₂.heap.objs.size, LCg.lst []) :: news) := by rw [← hH2]; exact News.push F N _ rfl
  have old : ∀ b o, H2.get? b = some o → h₁.get? b = some o := fun b o e => hsb₁.extBut b o (Nat.ne_of_lt (Heap.lt_size e)) (Heap.get?_push_of_some _ e)
  have hLC : H2.objs.size ≠ L := Nat.ne_of_gt F2.ns.lt
  have hC0 : h₀.get? H2.objs.size = none := by
    cases e : h₀.get? H2.objs.size with
    | none => rfl
    | some o => exact absurd (Heap.lt_size (F2.keep _ _ e)) (Nat.lt_irrefl _)
  have N3 : News h₀ L h₁ ((H2.objs.size, oC) :: (s₂.heap.objs.size, LCg.lst []) :: news) := fun p hp => by
    rcases List.mem_cons.mp hp with rfl | hp
    · exact ⟨heC, hLC, hC0⟩
    · exact (N2.grown old) p hp
  refine codeAny_mono (go H2.objs.size s₂.heap.objs.size oC h₁ _ (F2.keeps old) N3 hoC (by rw [hC]; exact Nat.ne_of_gt (Nat.lt_succ_self _)) (fun p hp => by rw [hC]; exact Nat.lt_succ_of_lt (Heap.lt_size (N p hp).1)) (fun p hp => Heap.lt_size (N p hp).1)) fun r s' hr => ?_
  cases r with
  | error x => exact hr.elim
  | ok f =>
    obtain ⟨h', tk, oC', m₂, o, news', rfl, F', N', hn', hCD, off, fin⟩ := hr
    have zC := N' _ (.head _)
    refine ⟨m₂, hn'.ns zC.1, fun h'' hs'' => ?_⟩
    exact fin h'' tk (F'.change hs'' zC.2.1 zC.2.2) fun p hp => ⟨hs''.extBut _ _ (by
      rcases List.mem_cons.mp hp with rfl | hp
      · exact Ne.symm hCD
      · exact off p hp) (N' p (.tail _ hp)).1, (N' p (.tail _ hp)).2⟩
end
-- part C2

section
variable {prog : Program} {w : World} {A : Around} {R : Result → Shared → Prop} {s : Shared}

theorem compTurn20 (elt t0 i0 t1 i1 : Expr) (ifs : List Expr) (scope : Scope) (pos : Pos) (it acc : Value) (env : Env) :
    compTurn (.ListComp elt [⟨t0, i0, [], 0⟩, ⟨t1, i1, ifs, 0⟩] scope pos) 0 it acc env = (standAt i0.pos >>= fun _ => pyNext it >>= fun r => match r with
      | none => pure (.done .next)
      | some v => letOwnedTupleGo t0 it v >>= fun _ => assign t0 env v >>= fun _ =>
        eval i1 env >>= fun x => standAt i1.pos >>= fun _ => foldedSetIterable i1 env x >>= fun x => holding [x] (pyIter x) >>= fun it' => runOwn (.compStart (.ListComp elt [⟨t0, i0, [], 0⟩, ⟨t1, i1, ifs, 0⟩] scope pos) 1 it' acc env) env >>= fun _ =>
          again (.compLoop (.ListComp elt [⟨t0, i0, [], 0⟩, ⟨t1, i1, ifs, 0⟩] scope pos) 0 it acc env)) := by rfl
theorem compTurn21 (elt t0 i0 t1 i1 : Expr) (ifs : List Expr) (scope : Scope) (pos : Pos) (it acc : Value) (env : Env) :
    compTurn (.ListComp elt [⟨t0, i0, [], 0⟩, ⟨t1, i1, ifs, 0⟩] scope pos) 1 it acc env = (standAt i1.pos >>= fun _ => pyNext it >>= fun r => match r with
      | none => pure (.done .next)
      | some v => letOwnedTupleGo t1 it v >>= fun _ => assign t1 env v >>= fun _ =>
        (forIn ifs true fun c r => if r = true then do let ok ← isTrue c env (eval c env); pure (ForInStep.yield ok) else pure (ForInStep.yield r)) >>= fun ok =>
        (if ok = true then (eval elt env >>= fun x => call (.builtin "list.append") [acc, x] >>= fun _ => pure ()) >>= fun _ => again (.compLoop (.ListComp elt [⟨t0, i0, [], 0⟩, ⟨t1, i1, ifs, 0⟩] scope pos) 1 it acc env)
          else again (.compLoop (.ListComp elt [⟨t0, i0, [], 0⟩, ⟨t1, i1, ifs, 0⟩] scope pos) 1 it acc env))) := by rfl

theorem comp20 {elt t0 i0 t1 i1 : Expr} {ifs : List Expr} {scope : Scope} {pos : Pos} {it acc : Value} {env : Env} (I : Nat → Shared → Prop)
    (turn : ∀ n s (X : Value → Shared → Prop), I n s → wpAny (model prog w) A (pyNext it) (fun r s₁ => match r with
      | none => R (.ok .next) s₁
      | some v => wpAny (model prog w) A (letOwnedTupleGo t0 it v) (fun _ s₂ => wpAny (model prog w) A (assign t0 env v) (fun _ s₃ => wpAny (model prog w) A (eval i1 env) (fun x s₄ => wpAny (model prog w) A (pyIter x) (fun it' s₅ =>
          codeAny (model prog w) A (.compStart (.ListComp elt [⟨t0, i0, [], 0⟩, ⟨t1, i1, ifs, 0⟩] scope pos) 1 it' acc env) (fun r s₆ => match r with | .ok _ => ∃ m, m < n ∧ I m s₆ | .error _ => False) s₅) X s₄) X s₃) X s₂) X s₁) X s)
    (n : Nat) (h : I n s) (hs : ∀ x, foldedSetIterable i1 env x = pure x := by intro _; rfl) :
    codeAny (model prog w) A (.compLoop (.ListComp elt [⟨t0, i0, [], 0⟩, ⟨t1, i1, ifs, 0⟩] scope pos) 0 it acc env) R s := by
  refine codeAny_loop rfl I (fun n s hI => ?_) n h
  show wpAny _ A ((compTurn (.ListComp elt [⟨t0, i0, [], 0⟩, ⟨t1, i1, ifs, 0⟩] scope pos) 0 it acc env).onRaise (fun x => do noteFrame x env; theTreesLotGoes x)) _ _ s
  refine wpAny_noted ?_
  rw [compTurn20]
  refine wpAny_bind (wpAny_standAt (wpAny_bind (wpAny_mono (turn n s _ hI) (fun r s₁ h₁ => ?_) fun _ _ h' => h')))
  cases r with
  | none => exact wpAny_pure h₁
  | some v =>
    refine wpAny_bind (wpAny_mono h₁ (fun _ s₂ h₂ => wpAny_bind (wpAny_mono h₂ (fun _ s₃ h₃ => wpAny_bind (wpAny_mono h₃ (fun x s₄ h₄ => wpAny_bind (wpAny_standAt (wpAny_bind (wpAny_of_eq (hs x) (wpAny_bind (wpAny_holding (wpAny_mono h₄ (fun it' s₅ h₅ => ?_) fun _ _ h' => h'))))))) fun _ _ h' => h')) fun _ _ h' => h')) fun _ _ h' => h')
    refine wpAny_bind (wpAny_runOwn (codeAny_mono h₅ fun r s₆ h₆ => ?_))
    cases r with
    | error e => exact h₆.elim
    | ok f => exact wpAny_pure ⟨rfl, h₆⟩
theorem comp21 {elt t0 i0 t1 i1 : Expr} {ifs : List Expr} {scope : Scope} {pos : Pos} {it acc : Value} {env : Env} (I : Nat → Shared → Prop)
    (turn : ∀ n s (X : Value → Shared → Prop), I n s → wpAny (model prog w) A (pyNext it) (fun r s₁ => match r with
      | none => R (.ok .next) s₁
      | some v => wpAny (model prog w) A (letOwnedTupleGo t1 it v) (fun _ s₂ => wpAny (model prog w) A (assign t1 env v) (fun _ s₃ =>
          wpAny (model prog w) A (forIn ifs true fun c r => if r = true then do let ok ← isTrue c env (eval c env); pure (ForInStep.yield ok) else pure (ForInStep.yield r)) (fun ok s₄ =>
            if ok = true then wpAny (model prog w) A (eval elt env) (fun x s₅ => wpAny (model prog w) A (call (.builtin "list.append") [acc, x]) (fun _ s₆ => ∃ m, m < n ∧ I m s₆) X s₅) X s₄
            else ∃ m, m < n ∧ I m s₄) X s₃) X s₂) X s₁) X s)
    (n : Nat) (h : I n s) :
    codeAny (model prog w) A (.compLoop (.ListComp elt [⟨t0, i0, [], 0⟩, ⟨t1, i1, ifs, 0⟩] scope pos) 1 it acc env) R s := by
  refine codeAny_loop rfl I (fun n s hI => ?_) n h
  show wpAny _ A ((compTurn (.ListComp elt [⟨t0, i0, [], 0⟩, ⟨t1, i1, ifs, 0⟩] scope pos) 1 it acc env).onRaise (fun x => do noteFrame x env; theTreesLotGoes x)) _ _ s
  refine wpAny_noted ?_
  rw [compTurn21]
  refine wpAny_bind (wpAny_standAt (wpAny_bind (wpAny_mono (turn n s _ hI) (fun r s₁ h₁ => ?_) fun _ _ h' => h')))
  cases r with
  | none => exact wpAny_pure h₁
  | some v =>
    refine wpAny_bind (wpAny_mono h₁ (fun _ s₂ h₂ => wpAny_bind (wpAny_mono h₂ (fun _ s₃ h₃ => wpAny_bind (wpAny_mono h₃ (fun ok s₄ h₄ => ?_) fun _ _ h' => h')) fun _ _ h' => h')) fun _ _ h' => h')
    cases ok with
    | false => exact wpAny_pure ⟨rfl, h₄⟩
    | true => exact wpAny_bind (wpAny_bind (wpAny_mono h₄ (fun x s₅ h₅ => wpAny_bind (wpAny_mono h₅ (fun _ s₆ h₆ => wpAny_pure (wpAny_pure ⟨rfl, h₆⟩)) fun _ _ h' => h')) fun _ _ h' => h'))
theorem compStart1 {elt t0 i0 t1 i1 : Expr} {ifs : List Expr} {scope : Scope} {pos : Pos} {it acc : Value} {env : Env}
    (h0 : codeAny (model prog w) A (.compLoop (.ListComp elt [⟨t0, i0, [], 0⟩, ⟨t1, i1, ifs, 0⟩] scope pos) 1 it acc env) R s)
    (h : ∀ E Q, Q it s → wpAny (model prog w) A (pyIter it) Q E s) :
    codeAny (model prog w) A (.compStart (.ListComp elt [⟨t0, i0, [], 0⟩, ⟨t1, i1, ifs, 0⟩] scope pos) 1 it acc env) R s := by
  refine codeAny_of_tree ?_
  show wpAny _ _ ((compStart (.ListComp elt [⟨t0, i0, [], 0⟩, ⟨t1, i1, ifs, 0⟩] scope pos) 1 it acc env).onRaise (fun x => do noteFrame x env; standAt theWindowsPlace)) _ _ s
  refine wpAny_notedAt ?_
  unfold compStart
  show wpAny _ _ (ask >>= _) _ _ s
  refine wpAny_bind (wpAny_askSetting (wpAny_ite ?_))
  split
  · first
      | exact wpAny_bind (wpAny_pure (wpAny_pure (And.intro rfl h0)))
      | exact wpAny_pure (And.intro rfl h0)
  · first
      | exact wpAny_bind (wpAny_rule (wpAny_bind (wpAny_standAt (wpAny_bind (h _ _ (wpAny_pure (And.intro rfl h0)))))))
      | (refine wpAny_bind (wpAny_rule ?_); show wpAny _ _ (standAt i1.pos >>= _) _ _ s; exact wpAny_bind (wpAny_standAt (wpAny_bind (h _ _ (wpAny_pure (And.intro rfl h0))))))
theorem compStart0 {elt t0 i0 : Expr} {ifs : List Expr} {gs : List Comprehension} {scope : Scope} {pos : Pos} {it acc : Value} {env : Env}
    (h0 : codeAny (model prog w) A (.compLoop (.ListComp elt (⟨t0, i0, ifs, 0⟩ :: gs) scope pos) 0 it acc env) R s)
    (h : ∀ E Q, Q it s → wpAny (model prog w) A (pyIter it) Q E s) :
    codeAny (model prog w) A (.compStart (.ListComp elt (⟨t0, i0, ifs, 0⟩ :: gs) scope pos) 0 it acc env) R s := codeAny_compStart_list h0 (h _ _ h0)
end
-- part C3

theorem re3 {a b c : Addr × Obj} {l : List (Addr × Obj)} : ∀ p ∈ b :: a :: c :: l, p ∈ a :: b :: c :: l := by grind
theorem re3' {a b c : Addr × Obj} {l : List (Addr × Obj)} : ∀ p ∈ c :: a :: b :: l, p ∈ a :: b :: c :: l := by grind
theorem re4 {a b c d : Addr × Obj} {l : List (Addr × Obj)} : ∀ p ∈ c :: a :: b :: d :: l, p ∈ a :: b :: c :: d :: l := by grind
theorem re5 {a b c d : Addr × Obj} {l : List (Addr × Obj)} : ∀ p ∈ a :: b :: c :: d :: l, p ∈ d :: a :: b :: c :: l := by grind
theorem re4' {a b c d : Addr × Obj} {l : List (Addr × Obj)} : ∀ p ∈ d :: a :: b :: c :: l, p ∈ a :: b :: c :: d :: l := by grind

/-- an iterator of the ledger -/
structure IterK (prog : Program) (w : World) (A : Around) (h₀ : Heap) (L : Addr) (m : Str → Option Value) (I : Addr) (St : Nat → Obj → Prop) (n : Nat) (P : Nat → Value → Prop) (S : List (Addr × Obj) → Prop) : Prop where
  next : ∀ i (s : Shared) o rest (Q : Option Value → Shared → Prop) (E : Value → Shared → Prop), i < n → St i o → Fr h₀ L s.heap m → News h₀ L s.heap ((I, o) :: rest) → (∀ p ∈ rest, p.1 ≠ I) → S rest →
    (∀ v o' h' tk, P i v → St (i + 1) o' → Fr h₀ L h' m → News h₀ L h' ((I, o') :: rest) → Q (some v) { s with heap := h', toks := tk }) → wpAny (model prog w) A (pyNext (.ref I)) Q E s
  stop : ∀ (s : Shared) o rest (Q : Option Value → Shared → Prop) (E : Value → Shared → Prop), St n o → Fr h₀ L s.heap m → News h₀ L s.heap ((I, o) :: rest) → (∀ p ∈ rest, p.1 ≠ I) → S rest →
    (∀ h', Fr h₀ L h' m → News h₀ L h' rest → Q none { s with heap := h' }) → wpAny (model prog w) A (pyNext (.ref I)) Q E s
  self : ∀ (s : Shared) o rest (Q : Value → Shared → Prop) (E : Value → Shared → Prop), St 0 o → News h₀ L s.heap ((I, o) :: rest) → Q (.ref I) s → wpAny (model prog w) A (pyIter (.ref I)) Q E s
/-- a target that stores into the block's own names -/
def AsgK (prog : Program) (w : World) (A : Around) (h₀ : Heap) (L : Addr) (m : Str → Option Value) (cenv : Env) (C I : Addr) (t : Expr) (KI : Obj → Prop) (Pn : Value → (Str → Option Value) → (Str → Option Value) → Prop) (S : List (Addr × Obj) → Prop) : Prop :=
  ∀ v (s : Shared) oI oC m₂ rest (Q : Unit → Shared → Prop) (E : Value → Shared → Prop), KI oI → LCg.NsObj oC m₂ → Fr h₀ L s.heap m → News h₀ L s.heap ((I, oI) :: (C, oC) :: rest) → I ≠ C → (∀ p ∈ rest, p.1 ≠ C) → S rest → (∃ m', Pn v m₂ m') →
    (∀ oC' m₂' h' tk, LCg.NsObj oC' m₂' → Pn v m₂ m₂' → Fr h₀ L h' m → News h₀ L h' ((I, oI) :: (C, oC') :: rest) → Q () { s with heap := h', toks := tk }) →
    wpAny (model prog w) A (letOwnedTupleGo t (.ref I) v) (fun _ s₁ => wpAny (model prog w) A (assign t cenv v) Q E s₁) E s

section
variable {prog : Program} {w : World} {A : Around} {h₀ : Heap} {L I : Addr} {m : Str → Option Value}
theorem IterK.range (hh : A.handled = none) (a : Int) (n : Nat) : IterK prog w A h₀ L m I (fun i o => i ≤ n ∧ o = itR (a + (i : Int)) ((n - i : Nat) : Int)) n (fun i v => ∃ t, v = .int (a + (i : Int)) t) (fun _ => True) where
  next := fun i s o rest Q E hi ⟨_, ho⟩ F N off _ h => by
    subst ho
    rw [show n - i = (n - (i + 1)) + 1 by omega] at N
    refine next_range hh F N off fun t h' tk F' N' => h _ _ h' tk ⟨t, rfl⟩ ⟨hi, ?_⟩ F' N'
    rw [show a + (i : Int) + 1 = a + ((i + 1 : Nat) : Int) by omega]
  stop := fun s o rest Q E ⟨_, ho⟩ F N off _ h => by
    subst ho
    rw [Nat.sub_self] at N
    exact next_range_end hh F N off h
  self := fun s o rest Q E ⟨_, ho⟩ N h => by
    subst ho
    exact iter_selfR hh N h
theorem IterK.list (hh : A.handled = none) (ax : Addr) (vs : List Value) (ep : Nat) : IterK prog w A h₀ L m I (fun i o => LiAt o ax i) vs.length (fun i v => vs[i]? = some v) (fun rest => (ax, W.listOf vs.toArray ep) ∈ rest) where
  next := fun i s o rest Q E hi ho F N off hS h => by
    have e : vs.toArray[i]? = some vs[i] := by simp [hi]
    exact next_list F N off ho hS e fun h' o' ho' F' N' => h _ o' h' s.toks (by simp [hi]) ho' F' N'
  stop := fun s o rest Q E ho F N off hS h => next_list_end hh F N off ho hS (by rw [List.size_toArray]; exact Nat.le_refl _) h
  self := fun s o rest Q E ho N h => iter_selfL N ho h
theorem AsgK.name {cenv : Env} {C : Addr} {x : Str} {px : Pos} (hC : cenv.locals = C) (hx : cenv.kindOf x = some .local) (hk : cenv.scope.kind = .function) (KI : Obj → Prop) (S : List (Addr × Obj) → Prop) :
    AsgK prog w A h₀ L m cenv C I (.Name x px) KI (fun v m₂ m₂' => m₂' = fun y => if y = x then some v else m₂ y) S := by
  intro v s oI oC m₂ rest Q E _ hn F N hIC off _ _ h
  show wpAny (model prog w) A (pure ()) _ E s
  refine wpAny_pure ?_
  have N' := news_front (a := [(I, oI)]) N
  refine assign_own hC hx hk F N' (fun p hp => ?_) hn fun h' tk oC' hn' F' N'' => h oC' _ h' tk hn' rfl F' ?_
  · rcases List.mem_append.mp hp with hp | hp
    · rw [List.mem_singleton.mp hp]; exact hIC
    · exact off p hp
  · exact news_front (a := [(C, oC')]) N''
end

/-- where a turn of the inner clause ends -/
inductive TurnEnd (h₀ : Heap) (L : Addr) (m : Str → Option Value) (own : List (Addr × Obj)) (J : List (Addr × Obj) → Prop) (s₁ s₂ : Shared) : Prop
  | mk (h' : Heap) (tk : Nat) (news' : List (Addr × Obj)) (_ : s₂ = { s₁ with heap := h', toks := tk }) (_ : Fr h₀ L h' m) (_ : News h₀ L h' (own ++ news')) (_ : ∀ p ∈ news', ∀ q ∈ own, p.1 ≠ q.1) (_ : J news')
theorem TurnEnd.intro {h₀ : Heap} {L : Addr} {m : Str → Option Value} {own : List (Addr × Obj)} {J : List (Addr × Obj) → Prop} {s₁ : Shared} {h' : Heap} {tk : Nat} {all : List (Addr × Obj)} (F : Fr h₀ L h' m) (N : News h₀ L h' all) (news' : List (Addr × Obj))
    (sub : ∀ p ∈ own ++ news', p ∈ all) (off : ∀ p ∈ news', ∀ q ∈ own, p.1 ≠ q.1) (j : J news') : TurnEnd h₀ L m own J s₁ { s₁ with heap := h', toks := tk } := ⟨h', tk, news', rfl, F, fun p hp => N p (sub p hp), off, j⟩

section
variable {prog : Program} {w : World} {A : Around} {h₀ : Heap} {L : Addr} {m : Str → Option Value} {elt t0 i0 t1 i1 : Expr} {ifs : List Expr} {scope : Scope} {pos : Pos} {cl : List (Str × Addr)} {env : Env}

abbrev testsOf (cenv : Env) (ifs : List Expr) : Sem Bool := forIn ifs true fun c r => if r = true then do let ok ← isTrue c cenv (eval c cenv); pure (ForInStep.yield ok) else pure (ForInStep.yield r)

inductive InnerK (prog : Program) (w : World) (A : Around) (h₀ : Heap) (L : Addr) (m : Str → Option Value) (elt t1 : Expr) (ifs : List Expr) (cenv : Env) (C D I : Addr) (o : Obj) (M : (Str → Option Value) → Prop) (ys : List Value) (oC : Obj) (s : Shared) (Jn : List Value → List (Addr × Obj) → Prop) (it' : Value) (s₁ : Shared) : Prop
  | mk (I2 : Addr) (o2 : Obj) (h' : Heap) (tk : Nat) (news : List (Addr × Obj)) (St : Nat → Obj → Prop) (n : Nat) (P : Nat → Value → Prop) (S : List (Addr × Obj) → Prop) (KI : Obj → Prop) (Pn : Value → (Str → Option Value) → (Str → Option Value) → Prop) (J2 : Nat → List Value → List (Addr × Obj) → Prop)
    (_ : it' = .ref I2) (_ : s₁ = { s with heap := h', toks := tk }) (_ : Fr h₀ L h' m) (_ : News h₀ L h' ((I2, o2) :: (I, o) :: (C, oC) :: (D, LCg.lst ys) :: news)) (_ : ∀ p ∈ news, p.1 ≠ I2 ∧ p.1 ≠ I ∧ p.1 ≠ C ∧ p.1 ≠ D) (_ : I2 ≠ I) (_ : I2 ≠ C) (_ : I2 ≠ D)
    (_ : St 0 o2) (_ : IterK prog w A h₀ L m I2 St n P S) (_ : AsgK prog w A h₀ L m cenv C I2 t1 KI Pn S) (_ : ∀ j o, St j o → KI o) (_ : J2 0 ys news) (_ : ∀ j ys news l, J2 j ys news → (∀ p ∈ news, p ∈ l) → S l) (_ : ∀ v m₂ m₂', M m₂ → Pn v m₂ m₂' → M m₂') (_ : ∀ j v m₂, P j v → M m₂ → ∃ m', Pn v m₂ m') (_ : ∀ j ys news, J2 j ys news → ys.length ≤ sizeLine)
    (_ : ∀ j v ys o2 oC m₂ m₂' news h tk E', j < n → P j v → J2 j ys news → M m₂ → Pn v m₂ m₂' → LCg.NsObj oC m₂' → Fr h₀ L h m → News h₀ L h ((I2, o2) :: (I, o) :: (C, oC) :: (D, LCg.lst ys) :: news) → (∀ p ∈ news, p.1 ≠ I2 ∧ p.1 ≠ I ∧ p.1 ≠ C ∧ p.1 ≠ D) →
      wpAny (model prog w) A (testsOf cenv ifs) (fun ok s₂ => if ok = true then wpAny (model prog w) A (eval elt cenv) (fun y s₃ => TurnEnd h₀ L m [(I2, o2), (I, o), (C, oC), (D, LCg.lst ys)] (J2 (j + 1) (ys ++ [y])) { s with heap := h, toks := tk } s₃) E' s₂
        else TurnEnd h₀ L m [(I2, o2), (I, o), (C, oC), (D, LCg.lst ys)] (J2 (j + 1) ys) { s with heap := h, toks := tk } s₂) E' { s with heap := h, toks := tk })
    (_ : ∀ ys news, J2 n ys news → Jn ys news)
/-- the outer and the inner loop's invariants -/
inductive CmpO (h₀ : Heap) (L : Addr) (m : Str → Option Value) (I C D : Addr) (n : Nat) (St : Nat → Obj → Prop) (J : Nat → List Value → List (Addr × Obj) → Prop) (s : Shared) (k : Nat) (s' : Shared) : Prop
  | mk (i : Nat) (h' : Heap) (tk : Nat) (o oC : Obj) (m₂ : Str → Option Value) (ys : List Value) (news : List (Addr × Obj)) (_ : k = n - i) (_ : i ≤ n) (_ : s' = { s with heap := h', toks := tk }) (_ : Fr h₀ L h' m) (_ : News h₀ L h' ((I, o) :: (C, oC) :: (D, LCg.lst ys) :: news)) (_ : LCg.NsObj oC m₂) (_ : St i o) (_ : J i ys news) (_ : ∀ p ∈ news, p.1 ≠ I ∧ p.1 ≠ C ∧ p.1 ≠ D)
inductive CmpI (h₀ : Heap) (L : Addr) (m : Str → Option Value) (I2 I C D : Addr) (oI : Obj) (n : Nat) (St : Nat → Obj → Prop) (M : (Str → Option Value) → Prop) (J : Nat → List Value → List (Addr × Obj) → Prop) (s : Shared) (k : Nat) (s' : Shared) : Prop
  | mk (j : Nat) (h' : Heap) (tk : Nat) (o oC : Obj) (m₂ : Str → Option Value) (ys : List Value) (news : List (Addr × Obj)) (_ : k = n - j) (_ : j ≤ n) (_ : s' = { s with heap := h', toks := tk }) (_ : Fr h₀ L h' m) (_ : News h₀ L h' ((I2, o) :: (I, oI) :: (C, oC) :: (D, LCg.lst ys) :: news)) (_ : LCg.NsObj oC m₂) (_ : M m₂) (_ : St j o) (_ : J j ys news) (_ : ∀ p ∈ news, p.1 ≠ I2 ∧ p.1 ≠ I ∧ p.1 ≠ C ∧ p.1 ≠ D)

theorem comp2K {I C D : Addr} {n : Nat} {St : Nat → Obj → Prop} {P : Nat → Value → Prop} {S : List (Addr × Obj) → Prop} {KI : Obj → Prop} {Pn : Value → (Str → Option Value) → (Str → Option Value) → Prop} {s : Shared} {o : Obj} {oC : Obj} {m₂ : Str → Option Value} {news : List (Addr × Obj)} {Q : Value → Shared → Prop}
    (it0 : IterK prog w A h₀ L m I St n P S) (as0 : AsgK prog w A h₀ L m (compEnvC scope cl C env) C I t0 KI Pn S) (hKI : ∀ j o, St j o → KI o) (J : Nat → List Value → List (Addr × Obj) → Prop) (M : Value → (Str → Option Value) → Prop)
    (F : Fr h₀ L s.heap m) (N : News h₀ L s.heap ((I, o) :: (C, oC) :: (D, LCg.lst []) :: news)) (hn : LCg.NsObj oC m₂) (off : ∀ p ∈ news, p.1 ≠ I ∧ p.1 ≠ C ∧ p.1 ≠ D) (hIC : I ≠ C) (hID : I ≠ D) (hCD : C ≠ D) (hst : St 0 o) (hJ : J 0 [] news)
    (hS : ∀ j ys news l, J j ys news → (∀ p ∈ news, p ∈ l) → S l) (hP : ∀ i v m₂, P i v → ∃ m', Pn v m₂ m') (hM : ∀ v m₂ m₂', Pn v m₂ m₂' → M v m₂')
    (body : ∀ i v ys o oC m₂ m₂' news h tk E', i < n → P i v → J i ys news → Pn v m₂ m₂' → LCg.NsObj oC m₂' → Fr h₀ L h m → News h₀ L h ((I, o) :: (C, oC) :: (D, LCg.lst ys) :: news) → (∀ p ∈ news, p.1 ≠ I ∧ p.1 ≠ C ∧ p.1 ≠ D) →
      wpAny (model prog w) A (eval i1 (compEnvC scope cl C env)) (fun xv s₁ => wpAny (model prog w) A (pyIter xv) (InnerK prog w A h₀ L m elt t1 ifs (compEnvC scope cl C env) C D I o (M v) ys oC { s with heap := h, toks := tk } (J (i + 1))) E' s₁) E' { s with heap := h, toks := tk })
    (fin : ∀ ys news h tk, J n ys news → Fr h₀ L h m → News h₀ L h ((D, LCg.lst ys) :: news) → (∀ p ∈ news, p.1 ≠ D) → Q (.ref D) { s with heap := h, toks := tk })
    (hs : ∀ x, foldedSetIterable i1 (compEnvC scope cl C env) x = pure x := by intro _; rfl) :
    codeAny (model prog w) A (.compStart (.ListComp elt [⟨t0, i0, [], 0⟩, ⟨t1, i1, ifs, 0⟩] scope pos) 0 (.ref I) (.ref D) (compEnvC scope cl C env)) (CompDone h₀ L m s C D Q) s := by
  refine compStart0 (comp20 (CmpO h₀ L m I C D n St J s) ?turn n
    ⟨0, s.heap, s.toks, o, oC, m₂, [], news, rfl, Nat.zero_le _, rfl, F, N, hn, hst, hJ, off⟩ hs) fun E Q' h' => it0.self s o _ Q' E hst N h'
  rintro k s' X ⟨i, h', tk, o, oC, m₂, ys, news, rfl, hi, rfl, F', N', hn', hst', hJ', off'⟩
  have offI : ∀ p ∈ (C, oC) :: (D, LCg.lst ys) :: news, p.1 ≠ I := List.forall_mem_cons.mpr ⟨Ne.symm hIC, List.forall_mem_cons.mpr ⟨Ne.symm hID, fun p hp => (off' p hp).1⟩⟩
  have hS' : S ((C, oC) :: (D, LCg.lst ys) :: news) := hS _ _ _ _ hJ' fun p hp => .tail _ (.tail _ hp)
  by_cases hlt : i < n
  · refine it0.next i _ o _ _ _ hlt hst' F' N' offI hS' fun v o' h1 tk1 hPv hst1 F1 N1 => ?_
    refine as0 v _ o' oC m₂ ((D, LCg.lst ys) :: news) _ _ (hKI _ _ hst1) hn' F1 N1 hIC (List.forall_mem_cons.mpr ⟨Ne.symm hCD, fun p hp => (off' p hp).2.1⟩) (hS _ _ _ _ hJ' fun p hp => .tail _ hp) (hP i v m₂ hPv) fun oC2 m₃ h2 tk2 hn2 hPn F2 N2 => ?_
    refine wpAny_mono (body i v ys o' oC2 m₂ m₃ news h2 tk2 X hlt hPv hJ' hPn hn2 F2 N2 off') (fun xv s₁ h₁ => wpAny_mono h₁ (fun it' s₂ h₂ => ?_) fun _ _ e => e) fun _ _ e => e
    obtain ⟨I2, o2, h3, tk3, news3, St2, n2, P2, S2, KI2, Pn2, J2, rfl, rfl, F3, N3, off3, d1, d2, d3, hst2, it2, as2, hKI2, hJ2, hS2, hM2, hP2, hsz2, elt2, fin2⟩ := h₂
    refine compStart1 (comp21 (CmpI h₀ L m I2 I C D o' n2 St2 (M v) J2 s) ?turn2 n2
      ⟨0, h3, tk3, o2, oC2, m₃, ys, news3, rfl, Nat.zero_le _, rfl, F3, N3, hn2, hM _ _ _ hPn, hst2, hJ2, off3⟩) fun E Q' h' => it2.self _ o2 _ Q' E hst2 N3 h'
    rintro k s' X2 ⟨j, h4, tk4, o4, oC4, m₄, ys4, news4, rfl, hj, rfl, F4, N4, hn4, hM4, hst4, hJ4, off4⟩
    have offI2 : ∀ p ∈ (I, o') :: (C, oC4) :: (D, LCg.lst ys4) :: news4, p.1 ≠ I2 := List.forall_mem_cons.mpr ⟨Ne.symm d1, List.forall_mem_cons.mpr ⟨Ne.symm d2, List.forall_mem_cons.mpr ⟨Ne.symm d3, fun p hp => (off4 p hp).1⟩⟩⟩
    have hS4 : ∀ l, (∀ p ∈ news4, p ∈ l) → S2 l := fun l hl => hS2 _ _ _ _ hJ4 hl
    by_cases hlt2 : j < n2
    · refine it2.next j _ o4 _ _ _ hlt2 hst4 F4 N4 offI2 (hS4 _ fun p hp => .tail _ (.tail _ (.tail _ hp))) fun v2 o5 h5 tk5 hPv2 hst5 F5 N5 => ?_
      have N5' : News h₀ L h5 ((I2, o5) :: (C, oC4) :: (I, o') :: (D, LCg.lst ys4) :: news4) := fun p hp => N5 p (by
        rcases List.mem_cons.mp hp with rfl | hp
        · exact .head _
        · exact .tail _ (by
            rcases List.mem_cons.mp hp with rfl | hp
            · exact .tail _ (.head _)
            · rcases List.mem_cons.mp hp with rfl | hp
              · exact .head _
              · exact .tail _ (.tail _ hp)))
      refine as2 v2 _ o5 oC4 m₄ ((I, o') :: (D, LCg.lst ys4) :: news4) _ _ (hKI2 _ _ hst5) hn4 F5 N5' d2 (List.forall_mem_cons.mpr ⟨hIC, List.forall_mem_cons.mpr ⟨Ne.symm hCD, fun p hp => (off4 p hp).2.2.1⟩⟩) (hS4 _ fun p hp => .tail _ (.tail _ hp)) (hP2 j v2 m₄ hPv2 hM4) fun oC6 m₆ h6 tk6 hn6 hPn6 F6 N6 => ?_
      have N6' : News h₀ L h6 ((I2, o5) :: (I, o') :: (C, oC6) :: (D, LCg.lst ys4) :: news4) := fun p hp => N6 p (by
        rcases List.mem_cons.mp hp with rfl | hp
        · exact .head _
        · exact .tail _ (by
            rcases List.mem_cons.mp hp with rfl | hp
            · exact .tail _ (.head _)
            · rcases List.mem_cons.mp hp with rfl | hp
              · exact .head _
              · exact .tail _ (.tail _ hp)))
      refine wpAny_mono (elt2 j v2 ys4 o5 oC6 m₄ m₆ news4 h6 tk6 X2 hlt2 hPv2 hJ4 hM4 hPn6 hn6 F6 N6' off4) (fun ok s₃ h₃ => ?_) fun _ _ e => e
      have hM6 : M v m₆ := hM2 _ _ _ hM4 hPn6
      cases ok with
      | false =>
        rw [if_neg Bool.false_ne_true] at h₃ ⊢
        obtain ⟨h7, tk7, news7, rfl, F7, N7, off7, hJ7⟩ := h₃
        exact ⟨n2 - (j + 1), by omega, j + 1, h7, tk7, o5, oC6, m₆, ys4, news7, rfl, hlt2, rfl, F7, N7, hn6, hM6, hst5, hJ7, fun p hp => ⟨off7 p hp _ (.head _), off7 p hp _ (.tail _ (.head _)), off7 p hp _ (.tail _ (.tail _ (.head _))), off7 p hp _ (.tail _ (.tail _ (.tail _ (.head _))))⟩⟩
      | true =>
        rw [if_pos rfl] at h₃ ⊢
        refine wpAny_mono h₃ (fun y s₄ h₄ => ?_) fun _ _ e => e
        obtain ⟨h7, tk7, news7, rfl, F7, N7, off7, hJ7⟩ := h₄
        have N7' : News h₀ L h7 ((D, LCg.lst ys4) :: (I2, o5) :: (I, o') :: (C, oC6) :: news7) := fun p hp => N7 p (re4' p hp)
        refine append_lst F7 N7' ?_ (hsz2 _ _ _ hJ4) fun h8 F8 N8 => ?_
        · exact List.forall_mem_cons.mpr ⟨d3, List.forall_mem_cons.mpr ⟨hID, List.forall_mem_cons.mpr ⟨hCD, fun p hp => off7 p hp (D, LCg.lst ys4) (.tail _ (.tail _ (.tail _ (.head _))))⟩⟩⟩
        · have N8' : News h₀ L h8 ((I2, o5) :: (I, o') :: (C, oC6) :: (D, LCg.lst (ys4 ++ [y])) :: news7) := fun p hp => N8 p (re5 p hp)
          exact ⟨n2 - (j + 1), by omega, j + 1, h8, tk7, o5, oC6, m₆, ys4 ++ [y], news7, rfl, hlt2, rfl, F8, N8', hn6, hM6, hst5, hJ7, fun p hp => ⟨off7 p hp _ (.head _), off7 p hp _ (.tail _ (.head _)), off7 p hp _ (.tail _ (.tail _ (.head _))), off7 p hp (D, LCg.lst ys4) (.tail _ (.tail _ (.tail _ (.head _))))⟩⟩
    · obtain rfl : j = n2 := Nat.le_antisymm hj (Nat.not_lt.mp hlt2)
      refine it2.stop _ o4 _ _ _ hst4 F4 N4 offI2 (hS4 _ fun p hp => .tail _ (.tail _ (.tail _ hp))) fun h5 F5 N5 => ?_
      exact ⟨n - (i + 1), by omega, i + 1, h5, tk4, o', oC4, m₄, ys4, news4, rfl, hlt, rfl, F5, N5, hn4, hst1, fin2 _ _ hJ4, fun p hp => (off4 p hp).2⟩
  · obtain rfl : i = n := Nat.le_antisymm hi (Nat.not_lt.mp hlt)
    refine it0.stop _ o _ _ _ hst' F' N' offI hS' fun h1 F1 N1 => ?_
    exact ⟨h1, tk, oC, m₂, LCg.lst ys, news, rfl, F1, N1, hn', hCD, fun p hp => (off' p hp).2.1, fun h'' tk' F'' N'' => fin ys news h'' tk' hJ' F'' N'' fun p hp => (off' p hp).2.2⟩
end
-- part W13

def chosen : Nat → Nat → List (List Int)
  | _, 0 => [[]]
  | many, c + 1 => (List.range many).flatMap fun p => (chosen p c).map fun r => ((p : Nat) : Int) :: r

/-- the values are the addresses of these lists of numbers -/
inductive RefsAre (news : List (Addr × Obj)) : List Value → List (List Int) → Prop
  | nil : RefsAre news [] []
  | cons {a : Nat} {ws : List Value} {ep : Nat} {ns : List Int} {vs : List Value} {rows : List (List Int)} : (a, W.listOf ws.toArray ep) ∈ news → IntsAre ws ns → RefsAre news vs rows → RefsAre news (.ref a :: vs) (ns :: rows)
theorem RefsAre.sub {n1 n2 : List (Addr × Obj)} {vs : List Value} {rows : List (List Int)} (h : RefsAre n1 vs rows) (hs : ∀ p ∈ n1, p ∈ n2) : RefsAre n2 vs rows := by
  induction h with
  | nil => exact .nil
  | cons hm hi _ ih => exact .cons (hs _ hm) hi ih
theorem RefsAre.append {n1 : List (Addr × Obj)} {vs ws : List Value} {rows rows' : List (List Int)} (h : RefsAre n1 vs rows) (h' : RefsAre n1 ws rows') : RefsAre n1 (vs ++ ws) (rows ++ rows') := by
  induction h with
  | nil => exact h'
  | cons hm hi _ ih => exact .cons hm hi ih
theorem RefsAre.length {n1 : List (Addr × Obj)} {vs : List Value} {rows : List (List Int)} (h : RefsAre n1 vs rows) : vs.length = rows.length := by
  induction h with
  | nil => rfl
  | cons _ _ _ ih => rw [List.length_cons, List.length_cons, ih]
theorem RefsAre.at {n1 : List (Addr × Obj)} {vs : List Value} {rows : List (List Int)} (h : RefsAre n1 vs rows) : ∀ (i : Nat) (ns : List Int), rows[i]? = some ns → ∃ (a : Nat) (ws : List Value) (ep : Nat), vs[i]? = some (.ref a) ∧ (a, W.listOf ws.toArray ep) ∈ n1 ∧ IntsAre ws ns := by
  induction h with
  | nil => intro i ns e; simp at e
  | cons hm hi _ ih =>
    intro i ns e
    cases i with
    | zero => rw [List.getElem?_cons_zero] at e; obtain rfl := Option.some.inj e; exact ⟨_, _, _, rfl, hm, hi⟩
    | succ i => rw [List.getElem?_cons_succ] at e; rw [List.getElem?_cons_succ]; exact ih i ns e

theorem small_nat (n : Nat) (h : n ≤ 1000) : Builtin.Range.small 0 (n : Int) 1 = true := small_one (by omega) (by omega) (by omega) (by omega)
theorem size_nat (n : Nat) : Builtin.Range.rangeSize 0 (n : Int) 1 = (n : Int) := by
  rw [rangeSize_nat]
  omega
theorem chosen_row_len (c : Nat) : ∀ many, ∀ r ∈ chosen many c, r.length = c := by
  induction c with
  | zero => intro many r h; rw [chosen, List.mem_singleton] at h; rw [h]; rfl
  | succ c ih =>
    intro many r h
    rw [chosen, List.mem_flatMap] at h
    obtain ⟨p, _, h⟩ := h
    rw [List.mem_map] at h
    obtain ⟨q, h1, rfl⟩ := h
    rw [List.length_cons, ih p q h1]
theorem chosen_len (c : Nat) : ∀ many, many ≤ 6 → c ≤ 3 → (chosen many c).length ≤ 64 := by
  intro many h hc
  have : ∀ c : Fin 4, ∀ many : Fin 7, (chosen many.1 c.1).length ≤ 64 := by decide +kernel
  exact this ⟨c, by omega⟩ ⟨many, by omega⟩
theorem chosen_part (c many i : Nat) (hi : i ≤ many) (h : many ≤ 6) (hc : c ≤ 2) : ((List.range i).flatMap fun p => (chosen p c).map fun r => ((p : Nat) : Int) :: r).length ≤ 64 := chosen_len (c + 1) i (by omega) (by omega)
theorem mem4 {α : Type} {p a : α} {x y k : List α} (h : p ∈ x ++ (a :: (y ++ k))) : p ∈ x ∨ p = a ∨ p ∈ y ∨ p ∈ k := by
  simpa only [List.mem_append, List.mem_cons] using h
theorem re6 {a b c d r : Addr × Obj} {x y k : List (Addr × Obj)} : ∀ p ∈ a :: b :: c :: d :: (x ++ (r :: (y ++ k))), p ∈ a :: r :: (y ++ (b :: c :: d :: (x ++ k))) := by grind
theorem re7 {a b c d x y : Addr × Obj} {l : List (Addr × Obj)} : ∀ p ∈ [a, b, c, d] ++ (x :: l), p ∈ x :: y :: a :: b :: c :: d :: l := by grind
theorem off_of {I2 I C D : Addr} {o2 o oC oD : Obj} {news : List (Addr × Obj)} (h : ∀ p ∈ news, p.1 ≠ I2 ∧ p.1 ≠ I ∧ p.1 ≠ C ∧ p.1 ≠ D) : ∀ p ∈ news, ∀ q ∈ [(I2, o2), (I, o), (C, oC), (D, oD)], p.1 ≠ q.1 := fun p hp =>
  List.forall_mem_cons.mpr ⟨(h p hp).1, List.forall_mem_cons.mpr ⟨(h p hp).2.1, List.forall_mem_cons.mpr ⟨(h p hp).2.2.1, List.forall_mem_cons.mpr ⟨(h p hp).2.2.2, fun _ h => nomatch h⟩⟩⟩⟩
def ChosenSpec (prog : Program) (w : World) (p : Program) (loose : List Str) (mean : ExcName → Option Value) (mg mb : Str → Option Value) (c : Nat) : Prop :=
  ∀ (dp un : Nat) (gd : Option (List Code)) (cn : Str) (cs : Scope) (a : Addr) (ccd : Value) (cl : List (Str × Addr)) (outer : List Env) (A₀ : Around) (base h₀ : Heap) (L : Addr) (m : Str → Option Value) (s : Shared) (rest : List (Addr × Obj)) (Q E : Value → Shared → Prop)
    (many : Nat) (tm tc : Tok)
    (B : Below A₀ base outer h₀) (F : Fr h₀ L s.heap m) (X : (lawTop.heap_39 w.params).In h₀) (N : News h₀ L s.heap rest) (T : Top p loose mean mg mb h₀) (hk : cs.kind = .function)
    (hmany : many ≤ 6) (hd : dp + 10 * (c + 1) < recursionLimit) (hu : un + 100 * (c + 1) < cLine)
    (hret : ∀ (r : Nat) (vs : List Value) (ep : Nat) (ext : List (Addr × Obj)) (h' : Heap) (tk' : Nat), Fr h₀ L h' m → News h₀ L h' ((r, W.listOf vs.toArray ep) :: (ext ++ rest)) → RefsAre ext vs (chosen many c) →
      (∀ q ∈ rest, q.1 < r) → (∀ e ∈ ext, ∀ q ∈ rest, q.1 < e.1) → (∀ e ∈ ext, e.1 ≠ r) → Q (.ref r) { s with heap := h', toks := tk' }),
    wpAny (model prog w) (ktrTop dp un gd cn cs L a ccd cl outer) (call (.ref 102) [.int (many : Nat) tm, .int (c : Nat) tc]) Q E s

local macro_rules | `(tactic| walk_at "eval ListComp") => `(tactic| (refine stop_here ?_))
section

theorem chosen_step {prog : Program} {w : World} {p : Program} {loose : List Str} {mean : ExcName → Option Value} {mg mb : Str → Option Value} (c : Nat) (hc : c ≤ 3) (ih : ∀ j, c = j + 1 → ChosenSpec prog w p loose mean mg mb j) : ChosenSpec prog w p loose mean mg mb c := by
  have hf : PySem.Challenge.rw_gb0005_01 = PySem.Challenge.rw_gb0005_01 ∧ lawTop.heap_39 = lawTop.heap_39 := by
    k_fill
    exact ⟨rfl, rfl⟩
  clear hf
  w_top on
  unfold ChosenSpec
  intro dp un gd cn cs a ccd cl outer A₀ base h₀ L m s rest Q E many tm tc B F X N T hk hmany hd hu hret
  refine wpAny_call ?_
  k_dflt k_enter
  rename_i g₁ L₁ h₁ tk₁ FG₁ F₁ B₁ X₁ T₁ l₁ oc d₁ N₁
  k_steps
  · obtain rfl : c = 0 := by omega
    rename _ ∧ _ ∧ AllLt _ rest => l5
    rename _ ∧ AllLt _ rest => l6
    exact hret _ [.ref _] _ [(_, W.listOf #[] 0), (L₁ + 1, oc)] _ _ (by k_asm) (by k_asm) (.cons (ws := []) (.head _) .nil .nil) (of_allLt l5.2.2) (List.forall_mem_cons.mpr ⟨of_allLt l6.2, List.forall_mem_cons.mpr ⟨fun q hq => Nat.lt_succ_of_lt (l₁ q hq), fun _ h => nomatch h⟩⟩) (List.forall_mem_cons.mpr ⟨Nat.ne_of_lt l5.1, List.forall_mem_cons.mpr ⟨Nat.ne_of_lt l5.2.1, fun _ h => nomatch h⟩⟩)
  · refine go_on ?_
    obtain ⟨j, rfl⟩ : ∃ j, c = j + 1 := ⟨c - 1, by omega⟩
    have hj := ih j rfl
    unfold ChosenSpec at hj
    refine comp_eval (by k_asm) (by with_unfolding_all rfl) (by decide) rfl (by decide) ?_
    k_steps
    refine go_on ?_
    rename IsRange _ _ _ _ _ _ _ _ => hR
    refine iter_rangeK (n := many) (by k_asm) (by k_asm) hR (small_nat many (by omega)) (size_nat many) ?_
    intro I h2 lI F2 N2
    refine ⟨_, F2, N2, fun C D oC h3 tk3 F3 N3 hoC hCD lC lD => ?_⟩
    have hIC : I ≠ C := Nat.ne_of_lt (lC (I, _) (.head _))
    have hID : I ≠ D := Nat.ne_of_lt (lD (I, _) (.head _))
    refine comp2K (news := (L₁ + 1, oc) :: rest) (IterK.range rfl 0 many) (AsgK.name rfl rfl rfl (fun _ => True) _) (fun _ _ _ => trivial)
      (J := fun i ys news => ∃ ext, news = ext ++ ((L₁ + 1, oc) :: rest) ∧ RefsAre ext ys ((List.range i).flatMap fun p => (chosen p j).map fun r => ((p : Nat) : Int) :: r) ∧ (∀ e ∈ ext, ∀ q ∈ rest, q.1 < e.1))
      (M := fun v m => m (Str.ofString "place") = some v) F3 (fun p hp => N3 p (re3' p hp)) hoC ?off hIC hID hCD ?st ?j0 (fun _ _ _ _ _ _ => trivial) (fun i v m₂ _ => ⟨_, rfl⟩) (fun v m₂ m₂' e => by rw [e]; exact if_pos rfl) ?body ?fin
    case off => exact fun p hp => ⟨Nat.ne_of_lt (lI p hp), Nat.ne_of_lt (lC p (.tail _ hp)), Nat.ne_of_lt (lD p (.tail _ hp))⟩
    case st => exact ⟨Nat.zero_le _, by rw [Int.natCast_zero, Int.add_zero, Nat.sub_zero]⟩
    case j0 => exact ⟨[], rfl, .nil, fun _ h => nomatch h⟩
    case fin =>
      rintro ys news h4 tk4 ⟨ext, rfl, hR4, hE⟩ F4 N4 off4
      k_steps
      exact hret D ys ys.length (ext ++ [(L₁ + 1, oc)]) _ _ (by k_asm) (fun p hp => by
        refine (by assumption : News h₀ L h4 ((D, LCg.lst ys) :: (ext ++ ((L₁ + 1, oc) :: rest)))) p ?_
        rw [List.append_assoc] at hp
        exact hp) (hR4.sub fun p hp => List.mem_append_left _ hp) (fun q hq => lD q (.tail _ (.tail _ hq)))
        (fun e he => (List.mem_append.mp he).elim (hE e) fun h => by rw [List.mem_singleton.mp h]; exact fun q hq => Nat.lt_succ_of_lt (l₁ q hq)) (fun e he => off4 e ((List.mem_append.mp he).elim (fun h => List.mem_append_left _ h) fun h => List.mem_append_right _ (by rw [List.mem_singleton.mp h]; exact .head _)))
    case body =>
      rintro i v ys o oC₂ m₀ m₂ news h4 tk4 E' hi ⟨t, rfl⟩ ⟨ext, rfl, hR4, hE⟩ hm₂ hn F4 N4 off4
      have hx : m₂ (Str.ofString "place") = some (.int (0 + (i : Int)) t) := by rw [hm₂]; exact if_pos rfl
      have hcell : (L₁ + 1, oc) ∈ (I, o) :: (C, oC₂) :: (D, LCg.lst ys) :: (ext ++ ((L₁ + 1, oc) :: rest)) := .tail _ (.tail _ (.tail _ (List.mem_append_right _ (.head _))))
      k_steps
      rw [Int.zero_add, show ((j + 1 : Nat) : Int) - 1 = (j : Nat) by omega]
      refine go_on ?_
      refine hj _ _ _ _ _ _ _ _ _ _ _ _ _ _ _ _ _ _ _ _ _ (by k_asm) (by k_asm) (by k_asm) (by k_asm) (by k_asm) rfl (by omega) (by (try dsimp only [ktrTop]); omega) (by (try dsimp only [ktrTop]); omega) ?_
      intro r vs ep ext2 h5 tk5 F5 N5 hR5 lr le ne
      k_steps
      refine go_on ?_
      refine iter_listK F5 N5 (.head _) fun I2 o2 h6 ho2 l2 F6 N6 => ?_
      have hcl : ∀ p ∈ (L₁ + 1, oc) :: rest, p ∈ ext ++ ((L₁ + 1, oc) :: rest) := fun p hp => List.mem_append_right _ hp
      have off5 : ∀ p ∈ ext ++ ((r, W.listOf vs.toArray ep) :: (ext2 ++ ((L₁ + 1, oc) :: rest))), p.1 ≠ I2 ∧ p.1 ≠ I ∧ p.1 ≠ C ∧ p.1 ≠ D := fun p hp => by
        rcases mem4 hp with hp | rfl | hp | hp
        · exact ⟨Nat.ne_of_lt (l2 p (.tail _ (List.mem_append_right _ (.tail _ (.tail _ (.tail _ (List.mem_append_left _ hp))))))), off4 p (List.mem_append_left _ hp)⟩
        · exact ⟨Nat.ne_of_lt (l2 _ (.head _)), Nat.ne_of_gt (lr _ (.head _)), Nat.ne_of_gt (lr _ (.tail _ (.head _))), Nat.ne_of_gt (lr _ (.tail _ (.tail _ (.head _))))⟩
        · exact ⟨Nat.ne_of_lt (l2 p (.tail _ (List.mem_append_left _ hp))), Nat.ne_of_gt (le p hp _ (.head _)), Nat.ne_of_gt (le p hp _ (.tail _ (.head _))), Nat.ne_of_gt (le p hp _ (.tail _ (.tail _ (.head _))))⟩
        · exact ⟨Nat.ne_of_lt (l2 p (.tail _ (List.mem_append_right _ (.tail _ (.tail _ (.tail _ (List.mem_append_right _ hp))))))), off4 p (List.mem_append_right _ hp)⟩
      have d1 : I2 ≠ I := Nat.ne_of_gt (l2 (I, o) (.tail _ (List.mem_append_right _ (.head _))))
      have d2 : I2 ≠ C := Nat.ne_of_gt (l2 (C, oC₂) (.tail _ (List.mem_append_right _ (.tail _ (.head _)))))
      have d3 : I2 ≠ D := Nat.ne_of_gt (l2 (D, LCg.lst ys) (.tail _ (List.mem_append_right _ (.tail _ (.tail _ (.head _))))))
      refine ⟨I2, o2, h6, _, ext ++ ((r, W.listOf vs.toArray ep) :: (ext2 ++ ((L₁ + 1, oc) :: rest))), _, _, _, _, _, _,
        (fun jj ys' news' => ∃ ext3, news' = ext3 ++ ((r, W.listOf vs.toArray ep) :: (ext2 ++ ((L₁ + 1, oc) :: rest))) ∧ RefsAre ext3 ys' (((List.range i).flatMap fun p => (chosen p j).map fun r => ((p : Nat) : Int) :: r) ++ ((chosen i j).take jj).map fun r => ((i : Nat) : Int) :: r) ∧ (∀ e ∈ ext3, ∀ q ∈ rest, q.1 < e.1)),
        rfl, rfl, F6, fun p hp => N6 p (re6 p hp), off5, d1, d2, d3, ho2, IterK.list rfl r vs ep, AsgK.name rfl rfl rfl (fun _ => True) _, fun _ _ _ => trivial, ⟨ext, rfl, ?r0, hE⟩, ?s2, ?m2, fun _ _ _ _ _ => ⟨_, rfl⟩, ?z2, ?e2, ?f2⟩
      case r0 => rw [List.take_zero, List.map_nil, List.append_nil]; exact hR4
      case s2 =>
        rintro jj ys' news' l ⟨ext3, rfl, _, _⟩ hl
        exact hl _ (List.mem_append_right _ (.head _))
      case m2 =>
        rintro v m₅ m₆ hM5 rfl
        exact (if_neg (by decide)).trans hM5
      case z2 =>
        rintro jj ys' news' ⟨ext3, rfl, hR3, _⟩
        have z1 := hR3.length
        have z2 := chosen_part j many (i + 1) (by omega) hmany (by omega)
        rw [sizeLine_eq, z1, List.length_append, List.length_map, List.length_take]
        rw [List.range_succ, List.flatMap_append, List.length_append] at z2
        simp only [List.flatMap_cons, List.flatMap_nil, List.append_nil, List.length_map] at z2
        omega
      case f2 =>
        rintro ys' news' ⟨ext3, rfl, hR3, hE3⟩
        refine ⟨ext3 ++ ((r, W.listOf vs.toArray ep) :: ext2), by rw [List.append_assoc, List.cons_append], ?_, ?_⟩
        · rw [hR5.length, List.take_length] at hR3
          rw [List.range_succ, List.flatMap_append, List.flatMap_cons, List.flatMap_nil, List.append_nil]
          exact hR3.sub fun p hp => List.mem_append_left _ hp
        · intro e he q hq
          rcases List.mem_append.mp he with he | he
          · exact hE3 e he q hq
          · have hq' : q ∈ (I, o) :: (C, oC₂) :: (D, LCg.lst ys) :: (ext ++ ((L₁ + 1, oc) :: rest)) := .tail _ (.tail _ (.tail _ (List.mem_append_right _ (.tail _ hq))))
            rcases List.mem_cons.mp he with rfl | he
            · exact lr q hq'
            · exact le e he q hq'
      case e2 =>
        rintro jj v ys3 o3 oC3 m₅ m₆ news3 h7 tk7 E'' hjj hPv ⟨ext3, rfl, hR3, hE3⟩ hM5 hPn6 hn6 F7 N7 off7
        have hjj' : jj < (chosen i j).length := by rw [← hR5.length]; exact hjj
        obtain ⟨a, ws, ep', e, hma, hia⟩ := hR5.at jj _ (List.getElem?_eq_getElem hjj')
        obtain rfl : v = .ref a := by rw [hPv] at e; exact Option.some.inj e
        have hrl := chosen_row_len j i _ (List.getElem_mem hjj')
        have hx0 : m₆ (Str.ofString "place") = some (.int (0 + (i : Int)) t) := by rw [hPn6]; exact (if_neg (by decide)).trans hM5
        have hx1 : m₆ (Str.ofString "rest") = some (.ref a) := by rw [hPn6]; exact if_pos rfl
        have hma' : (a, W.listOf ws.toArray ep') ∈ (I2, o3) :: (I, o) :: (C, oC3) :: (D, LCg.lst ys3) :: (ext3 ++ ((r, W.listOf vs.toArray ep) :: (ext2 ++ ((L₁ + 1, oc) :: rest)))) := .tail _ (.tail _ (.tail _ (.tail _ (List.mem_append_right _ (.tail _ (List.mem_append_left _ hma))))))
        show wpAny _ _ (pure true) _ _ _
        refine wpAny_pure ?_
        rw [if_pos rfl]
        k_steps
        rename _ < _ ∧ _ ∧ _ ∧ _ ∧ _ ∧ AllLt _ _ => l9
        rename News _ _ _ ((_, W.listOf _ 0) :: (_, W.listOf #[_] 0) :: _) => N9
        rename IntsAre _ ([_] ++ _) => hI9
        rw [Int.zero_add] at hI9
        have l9' := of_allLt l9.2.2.2.2.2
        refine TurnEnd.intro (by k_asm) N9 (_ :: (ext3 ++ ((r, W.listOf vs.toArray ep) :: (ext2 ++ ((L₁ + 1, oc) :: rest))))) re7 (off_of (List.forall_mem_cons.mpr ⟨⟨Nat.ne_of_gt l9.2.1, Nat.ne_of_gt l9.2.2.1, Nat.ne_of_gt l9.2.2.2.1, Nat.ne_of_gt l9.2.2.2.2.1⟩, off7⟩)) ⟨_ :: ext3, rfl, ?ra, List.forall_mem_cons.mpr ⟨fun q hq => l9' q (List.mem_append_right _ (.tail _ (List.mem_append_right _ (.tail _ hq)))), hE3⟩⟩
        case ra =>
          have e9 : (List.take (jj + 1) (chosen i j)).map (fun r => ((i : Nat) : Int) :: r) = (List.take jj (chosen i j)).map (fun r => ((i : Nat) : Int) :: r) ++ [((i : Nat) : Int) :: (chosen i j)[jj]] := by
            rw [List.take_succ_eq_append_getElem hjj', List.map_append]
            rfl
          rw [e9, ← List.append_assoc]
          exact (hR3.sub fun p hp => .tail _ hp).append (.cons (.head _) hI9 .nil)

theorem law_chosen_spec {prog : Program} {w : World} {p : Program} {loose : List Str} {mean : ExcName → Option Value} {mg mb : Str → Option Value} : ∀ c : Nat, c ≤ 3 → ChosenSpec prog w p loose mean mg mb c
  | 0, h => chosen_step 0 h fun j e => nomatch e
  | c + 1, h => chosen_step (c + 1) h fun j e => by
    have : c = j := by omega
    subst this
    exact law_chosen_spec c (by omega)
end
-- part C4

theorem re3r {a b c : Addr × Obj} {l : List (Addr × Obj)} : ∀ p ∈ a :: b :: c :: l, p ∈ c :: a :: b :: l := by grind
abbrev tupO (a b : Value) (n : Nat) : Obj := { cls := .type "tuple", data := .seq #[a, b] n }
abbrev enumO (it : Addr) (i : Int) (old : Value) : Obj := { cls := .type "enumerate", dict := none, data := .fields #[.none, .bool false, .ref it, rawInt i, .none, old], slots := #[] }

section
variable {prog : Program} {w : World} {A : Around} {E : Value → Shared → Prop} {s : Shared} {h₀ : Heap} {L I : Addr} {m : Str → Option Value} {rest : List (Addr × Obj)}

theorem assign_two {cenv : Env} {C T : Addr} {oC ot : Obj} {m₂ : Str → Option Value} {x y : Str} {px py tp : Pos} {k n : Nat} {a b : Value} {Q : Unit → Shared → Prop} (hh : A.handled = none) (hC : cenv.locals = C) (hx : cenv.kindOf x = some .local) (hy : cenv.kindOf y = some .local) (hk : cenv.scope.kind = .function)
    (ht : s.heap.get? T = some ot) (htc : ot.cls = .type "tuple") (htd : ot.data = .seq #[a, b] n) (F : Fr h₀ L s.heap m) (N : News h₀ L s.heap ((C, oC) :: rest)) (off : ∀ p ∈ rest, p.1 ≠ C) (hn : LCg.NsObj oC m₂)
    (h : ∀ h' tk oC', LCg.NsObj oC' (fun z => if z = y then some b else if z = x then some a else m₂ z) → Fr h₀ L h' m → News h₀ L h' ((C, oC') :: rest) → Q () { s with heap := h', toks := tk }) :
    wpAny (model prog w) A (assign (.Tuple [.Name x px, .Name y py] k tp) cenv (.ref T)) Q E s := by
  have ht : IsTup s.heap T #[a, b] := ⟨ot, ht, htc, n, htd⟩
  refine assign_Tuple_tuple hh ht rfl rfl fun h₅ he => ?_
  have he' : ∀ b o, s.heap.get? b = some o → h₅.get? b = some o := fun b o e => he b o (Nat.ne_of_lt (Heap.lt_size e)) e
  refine assignInOrder_cons (assign_own hC hx hk (F.keeps he') (N.grown he') off hn fun h6 tk6 oC6 hn6 F6 N6 => ?_)
  refine assignInOrder_cons (assign_own hC hy hk F6 N6 off hn6 fun h7 tk7 oC7 hn7 F7 N7 => ?_)
  exact assignInOrder_nil (h h7 _ oC7 hn7 F7 N7)

/-- a target and its iterator together -/
structure TurnK (prog : Program) (w : World) (A : Around) (h₀ : Heap) (L : Addr) (m : Str → Option Value) (cenv : Env) (C I : Addr) (t : Expr) (St : Nat → List (Addr × Obj) → Prop) (n : Nat) (Pn : Nat → (Str → Option Value) → Prop) (S : List (Addr × Obj) → Prop) : Prop where
  next : ∀ i (s : Shared) own oC m₂ rest (Q : Shared → Prop) (E : Value → Shared → Prop), i < n → St i own → LCg.NsObj oC m₂ → Fr h₀ L s.heap m → News h₀ L s.heap (own ++ ((C, oC) :: rest)) → (∀ p ∈ own, p.1 ≠ C ∧ ∀ q ∈ rest, q.1 ≠ p.1) → (∀ q ∈ rest, q.1 ≠ C) → S rest →
    (∀ own' oC' m₂' h' tk, St (i + 1) own' → own'.map (·.1) = own.map (·.1) → LCg.NsObj oC' m₂' → Pn i m₂' → Fr h₀ L h' m → News h₀ L h' (own' ++ ((C, oC') :: rest)) → Q { s with heap := h', toks := tk }) →
    wpAny (model prog w) A (pyNext (.ref I)) (fun r s₁ => match r with
      | none => False
      | some v => wpAny (model prog w) A (letOwnedTupleGo t (.ref I) v) (fun _ s₂ => wpAny (model prog w) A (assign t cenv v) (fun _ s₃ => Q s₃) E s₂) E s₁) E s
  stop : ∀ (s : Shared) own rest (Q : Shared → Prop) (E : Value → Shared → Prop), St n own → Fr h₀ L s.heap m → News h₀ L s.heap (own ++ rest) → (∀ p ∈ own, ∀ q ∈ rest, q.1 ≠ p.1) → S rest → (∀ h' tk, Fr h₀ L h' m → News h₀ L h' rest → Q { s with heap := h', toks := tk }) →
    wpAny (model prog w) A (pyNext (.ref I)) (fun r s₁ => match r with
      | none => Q s₁
      | some _ => False) E s
  self : ∀ (s : Shared) own rest (Q : Value → Shared → Prop) (E : Value → Shared → Prop), St 0 own → News h₀ L s.heap (own ++ rest) → Q (.ref I) s → wpAny (model prog w) A (pyIter (.ref I)) Q E s

theorem TurnK.of {cenv : Env} {C : Addr} {t : Expr} {St : Nat → Obj → Prop} {n : Nat} {P : Nat → Value → Prop} {S : List (Addr × Obj) → Prop} {KI : Obj → Prop} {Pv : Value → (Str → Option Value) → (Str → Option Value) → Prop} {Pn : Nat → (Str → Option Value) → Prop}
    (it : IterK prog w A h₀ L m I St n P S) (as : AsgK prog w A h₀ L m cenv C I t KI Pv S) (hK : ∀ j o, St j o → KI o) (hP : ∀ i v m₂, P i v → ∃ m', Pv v m₂ m') (hPn : ∀ i v m₂ m₂', P i v → Pv v m₂ m₂' → Pn i m₂') (hmono : ∀ l l', S l → (∀ p ∈ l, p ∈ l') → S l') :
    TurnK prog w A h₀ L m cenv C I t (fun i own => ∃ o, own = [(I, o)] ∧ St i o) n Pn S where
  next := by
    rintro i s own oC m₂ rest Q E hi ⟨o, rfl, ho⟩ hn F N off offC hS h
    have hIC := (off (I, o) (.head _)).1
    refine it.next i s o ((C, oC) :: rest) _ E hi ho F N (List.forall_mem_cons.mpr ⟨Ne.symm hIC, (off (I, o) (.head _)).2⟩) (hmono _ _ hS fun p hp => .tail _ hp) fun v o' h' tk hPv ho' F' N' => ?_
    exact as v _ o' oC m₂ rest _ E (hK _ _ ho') hn F' N' hIC offC hS (hP i v m₂ hPv) fun oC' m₂' h'' tk'' hn' hv F'' N'' => h [(I, o')] oC' m₂' h'' tk'' ⟨o', rfl, ho'⟩ rfl hn' (hPn i v m₂ m₂' hPv hv) F'' N''
  stop := by
    rintro s own rest Q E ⟨o, rfl, ho⟩ F N off hS h
    exact it.stop s o rest _ E ho F N (off (I, o) (.head _)) hS fun h' F' N' => h h' s.toks F' N'
  self := by
    rintro s own rest Q E ⟨o, rfl, ho⟩ N h
    exact it.self s o rest Q E ho N h
theorem TurnK.range {cenv : Env} {C : Addr} {x : Str} {px : Pos} (hh : A.handled = none) (hC : cenv.locals = C) (hx : cenv.kindOf x = some .local) (hk : cenv.scope.kind = .function) (a : Int) (n : Nat) :
    TurnK prog w A h₀ L m cenv C I (.Name x px) (fun i own => ∃ o, own = [(I, o)] ∧ i ≤ n ∧ o = itR (a + (i : Int)) ((n - i : Nat) : Int)) n (fun i m₂ => ∃ t, m₂ x = some (.int (a + (i : Int)) t)) (fun _ => True) :=
  TurnK.of (IterK.range hh a n) (AsgK.name hC hx hk (fun _ => True) _) (fun _ _ _ => trivial) (fun _ _ _ _ => ⟨_, rfl⟩) (fun i v m₂ m₂' ⟨t, e⟩ e' => ⟨t, by rw [e', ← e]; exact if_pos rfl⟩) fun _ _ _ _ => trivial
theorem TurnK.list {cenv : Env} {C : Addr} {x : Str} {px : Pos} (hh : A.handled = none) (hC : cenv.locals = C) (hx : cenv.kindOf x = some .local) (hk : cenv.scope.kind = .function) (ax : Addr) (vs : List Value) (ep : Nat) :
    TurnK prog w A h₀ L m cenv C I (.Name x px) (fun i own => ∃ o, own = [(I, o)] ∧ LiAt o ax i) vs.length (fun i m₂ => ∃ v, vs[i]? = some v ∧ m₂ x = some v) (fun rest => (ax, W.listOf vs.toArray ep) ∈ rest) :=
  TurnK.of (IterK.list hh ax vs ep) (AsgK.name hC hx hk (fun _ => True) _) (fun _ _ _ => trivial) (fun _ _ _ _ => ⟨_, rfl⟩) (fun i v m₂ m₂' e e' => ⟨v, e, by rw [e']; exact if_pos rfl⟩) fun _ _ hm hs => hs _ hm

theorem TurnK.enum {cenv : Env} {C J : Addr} {x y : Str} {px py tp : Pos} {k : Nat} (hh : A.handled = none) (hC : cenv.locals = C) (hx : cenv.kindOf x = some .local) (hy : cenv.kindOf y = some .local) (hxy : x ≠ y) (hk : cenv.scope.kind = .function) (hIJ : I ≠ J) (ax : Addr) (vs : List Value) (ep : Nat) :
    TurnK prog w A h₀ L m cenv C I (.Tuple [.Name x px, .Name y py] k tp) (fun i own => ∃ o old, own = [(I, enumO J (i : Int) old), (J, o)] ∧ LiAt o ax i) vs.length (fun i m₂ => ∃ t v, vs[i]? = some v ∧ m₂ x = some (.int (i : Int) t) ∧ m₂ y = some v) (fun rest => (ax, W.listOf vs.toArray ep) ∈ rest) where
  next := by
    rintro i s own oC m₂ rest Q E hi ⟨o, old, rfl, ho⟩ hn F N off offC hS h
    have zI := N _ (.head _)
    have zJ := N _ (.tail _ (.head _))
    have offI := off (I, enumO J (i : Int) old) (.head _)
    have offJ := off (J, o) (.tail _ (.head _))
    have Nr : News h₀ L s.heap ((C, oC) :: rest) := fun p hp => N p (.tail _ (.tail _ hp))
    have e : vs.toArray[i]? = some vs[i] := by simp [hi]
    refine wpAny_pyNext_enum_item zI.1 ⟨o, zJ.1, ho.cls, ho.data⟩ (News.isList Nr (.tail _ hS)) e hIJ fun h' hout hit hT hsz hkeep => ?_
    refine wpAny_letOwnedTupleGo_enum hout fun h2 hen hs2 => ?_
    have kp : ∀ b o, b ≠ I → b ≠ J → s.heap.get? b = some o → h2.get? b = some o := fun b o h1 h3 e => (hs2.2 b h1).trans (hkeep b o h1 h3 e)
    have F2 : Fr h₀ L h2 m := ⟨F.ns.at' fun o e => kp L o (Ne.symm zI.2.1) (Ne.symm zJ.2.1) e, fun b o e => kp b o (fun q => by rw [q] at e; rw [zI.2.2] at e; cases e) (fun q => by rw [q] at e; rw [zJ.2.2] at e; cases e) (F.keep b o e), F.above⟩
    obtain ⟨o', e', hc', hd'⟩ := hit
    have N2r : News h₀ L h2 ((C, oC) :: rest) := fun p hp => ⟨kp _ _ (by
        rcases List.mem_cons.mp hp with rfl | hp
        · exact Ne.symm offI.1
        · exact offI.2 p hp) (by
        rcases List.mem_cons.mp hp with rfl | hp
        · exact Ne.symm offJ.1
        · exact offJ.2 p hp) (Nr p hp).1, (Nr p hp).2⟩
    have N2 : News h₀ L h2 ((C, oC) :: (I, enumO J (((i + 1 : Nat)) : Int) vs[i]) :: (J, o') :: rest) := fun p hp => by
      rcases List.mem_cons.mp hp with rfl | hp
      · exact N2r _ (.head _)
      · rcases List.mem_cons.mp hp with rfl | hp
        · exact ⟨hen, zI.2⟩
        · rcases List.mem_cons.mp hp with rfl | hp
          · exact ⟨(hs2.2 J (Ne.symm hIJ)).trans e', zJ.2⟩
          · exact N2r p (.tail _ hp)
    have hTI : s.heap.objs.size ≠ I := Nat.ne_of_gt (Heap.lt_size zI.1)
    refine assign_two (T := s.heap.objs.size) hh hC hx hy hk ((hs2.2 _ hTI).trans hT) rfl rfl F2 N2 (List.forall_mem_cons.mpr ⟨offI.1, List.forall_mem_cons.mpr ⟨offJ.1, offC⟩⟩) hn fun h3 tk3 oC3 hn3 F3 N3 => ?_
    refine h [(I, enumO J (((i + 1 : Nat)) : Int) vs[i]), (J, o')] oC3 _ h3 tk3 ⟨o', _, rfl, hc', hd'⟩ rfl hn3 ⟨_, vs[i], by simp [hi], (if_neg hxy).trans (if_pos rfl), if_pos rfl⟩ F3 fun p hp => N3 p (re3r p hp)
  stop := by
    rintro s own rest Q E ⟨o, old, rfl, ho⟩ F N off hS h
    have zI := N _ (.head _)
    have zJ := N _ (.tail _ (.head _))
    have Nr : News h₀ L s.heap rest := fun p hp => N p (.tail _ (.tail _ hp))
    refine wpAny_pyNext_enum_end hh zI.1 ⟨o, zJ.1, ho.cls, ho.data⟩ (News.isList Nr hS) (by simp) fun h' hs => ?_
    have hk : ∀ b o, b ∉ [J] → s.heap.get? b = some o → h'.get? b = some o := fun b o hb e => hs b o (by simpa using hb) e
    exact h h' s.toks (LCg.fr_but F hk (Ne.symm zJ.2.1) zJ.2.2) (LCg.news_but Nr hk (off (J, o) (.tail _ (.head _))))
  self := by
    rintro s own rest Q E ⟨o, old, rfl, ho⟩ N h
    exact wpAny_pyIter_enum (N _ (.head _)).1 h

theorem TurnK.cell {cenv : Env} {C Kc : Addr} {x : Str} {px : Pos} (hh : A.handled = none) (hx : cenv.kindOf x = some .cell) (hk : cenv.scope.kind = .function) (hc : cenv.cells.lookup x = some Kc) (hIK : I ≠ Kc) (a : Int) (n : Nat) :
    TurnK prog w A h₀ L m cenv C I (.Name x px) (fun i own => ∃ ok v, own = [(I, itR (a + (i : Int)) ((n - i : Nat) : Int)), (Kc, ok)] ∧ i ≤ n ∧ ok.data = .cell v ∧ (0 < i → ∃ t, v = some (.int (a + ((i - 1 : Nat) : Int)) t))) n (fun _ _ => True) (fun _ => True) where
  next := by
    rintro i s own oC m₂ rest Q E hi ⟨ok, v, rfl, hin, hd, _⟩ hn F N off offC hS h
    have offI := off (I, itR (a + (i : Int)) ((n - i : Nat) : Int)) (.head _)
    have offK := off (Kc, ok) (.tail _ (.head _))
    dsimp only [List.cons_append, List.nil_append] at N
    rw [show n - i = (n - (i + 1)) + 1 by omega] at N
    refine next_range hh F N (List.forall_mem_cons.mpr ⟨Ne.symm hIK, List.forall_mem_cons.mpr ⟨Ne.symm offI.1, offI.2⟩⟩) fun t h1 tk1 F1 N1 => ?_
    show wpAny (model prog w) A (pure ()) _ E _
    refine wpAny_pure (wpAny_assign_Name ?_)
    have zK := N1 _ (.tail _ (.head _))
    refine wpAny_storeName_cell hk hx hc ⟨ok, zK.1, hd⟩ fun h2 hc2 hs2 => ?_
    obtain ⟨ok2, e2, hd2⟩ := hc2
    have N1' := news_front (a := [(I, itR (a + (i : Int) + 1) ((n - (i + 1) : Nat) : Int))]) N1
    have N2 := N1'.setHead (fun p hp => by
      rcases List.mem_append.mp hp with hp | hp
      · rw [List.mem_singleton.mp hp]; exact hIK
      · rcases List.mem_cons.mp hp with rfl | hp
        · exact Ne.symm offK.1
        · exact offK.2 p hp) hs2 e2
    have N2' := news_front (a := [(Kc, ok2)]) N2
    rw [show a + (i : Int) + 1 = a + ((i + 1 : Nat) : Int) by omega] at N2'
    exact h [(I, itR (a + ((i + 1 : Nat) : Int)) ((n - (i + 1) : Nat) : Int)), (Kc, ok2)] oC m₂ h2 _ ⟨ok2, _, rfl, hi, hd2, fun _ => ⟨t, rfl⟩⟩ rfl hn trivial (F1.change hs2 zK.2.1 zK.2.2) N2'
  stop := by
    rintro s own rest Q E ⟨ok, v, rfl, hin, hd, _⟩ F N off hS h
    dsimp only [List.cons_append, List.nil_append] at N
    rw [Nat.sub_self] at N
    exact next_range_end hh F N (List.forall_mem_cons.mpr ⟨Ne.symm hIK, off (I, _) (.head _)⟩) fun h' F' N' => h h' s.toks F' fun p hp => N' p (.tail _ hp)
  self := by
    rintro s own rest Q E ⟨ok, v, rfl, hin, hd, _⟩ N h
    exact iter_selfR hh N h

theorem newEnv_cell {scope : Scope} {globals : Addr} {qual : Str} {code : Value} {builtins : Addr} {outer : Env} {kx : Str} {Q : Env → Shared → Prop} (hcf : ∀ n, cellsFrom n scope.names [] = [(kx, n)]) (hpc : ∀ h, pushCells h scope.names = h.push { cls := .type "cell", data := .cell none })
    (h : Q { scope := scope, locals := s.heap.objs.size, globals := globals, cells := [(kx, s.heap.objs.size + 1)], qual := qual, func := none, code := outer.code, frame := outer.frame, builtins := outer.builtins }
      { s with heap := (s.heap.push { cls := .type "dict", data := .dict #[] }).push { cls := .type "cell", data := .cell none } }) :
    wpAny (model prog w) A (newFunctionEnv scope globals [] [] qual none code (some outer) builtins) Q E s := by
  simp only [newFunctionEnv, Option.isSome_some, if_true]
  refine wpAny_bind (wpAny_alloc ?_)
  refine wpAny_bind (wpAny_layCells _ (fun name kind cells => by cases hkc : kind == NameKind.cell <;> simp [hkc]) _ _ _ _ ?_)
  rw [hcf, hpc, Heap.size_push]
  exact wpAny_bind (wpAny_pure (wpAny_pure h))

theorem enum_newK {l : Addr} {vs : List Value} {ep : Nat} {Q : Value → Shared → Prop} (F : Fr h₀ L s.heap m) (N : News h₀ L s.heap rest) (hm : (l, W.listOf vs.toArray ep) ∈ rest)
    (h : ∀ (I J : Nat) o h', LiAt o l 0 → I ≠ J → (∀ p ∈ rest, p.1 < I) → (∀ p ∈ rest, p.1 < J) → Fr h₀ L h' m → News h₀ L h' ((I, enumO J 0 .none) :: (J, o) :: rest) → Q (.ref I) { s with heap := h' }) :
    wpAny (model prog w) A (call (.type "enumerate") [.ref l]) Q E s := by
  refine call_enumerate_list (News.isList N hm) fun h' he hit hsz hk => ?_
  obtain ⟨o, e, hc, hd⟩ := hit
  have fresh : ∀ a, s.heap.objs.size ≤ a → a ≠ L ∧ h₀.get? a = none := fun a ha => ⟨fun q => absurd F.ns.lt (by rw [← q]; exact Nat.not_lt.mpr ha), by
    cases e : h₀.get? a with
    | none => rfl
    | some o => exact absurd (Heap.lt_size (F.keep _ _ e)) (Nat.not_lt.mpr ha)⟩
  refine h (s.heap.objs.size + 1) s.heap.objs.size o h' ⟨hc, hd⟩ (Nat.ne_of_gt (Nat.lt_succ_self _)) (fun p hp => Nat.lt_succ_of_lt (Heap.lt_size (N p hp).1)) (fun p hp => Heap.lt_size (N p hp).1) (F.keeps hk) fun p hp => ?_
  rcases List.mem_cons.mp hp with rfl | hp
  · exact ⟨he, fresh _ (Nat.le_succ _)⟩
  · rcases List.mem_cons.mp hp with rfl | hp
    · exact ⟨e, fresh _ (Nat.le_refl _)⟩
    · exact (N.grown hk) p hp

theorem AsgK.two {cenv : Env} {C : Addr} {x y : Str} {px py tp : Pos} {k : Nat} {Tup : Addr → Value → Value → Prop} (hh : A.handled = none) (hC : cenv.locals = C) (hx : cenv.kindOf x = some .local) (hy : cenv.kindOf y = some .local) (hk : cenv.scope.kind = .function) (S : List (Addr × Obj) → Prop)
    (hT : ∀ l T a b, S l → Tup T a b → ∃ n, (T, tupO a b n) ∈ l) (ax : Addr) :
    AsgK prog w A h₀ L m cenv C I (.Tuple [.Name x px, .Name y py] k tp) (fun o => ∃ i, LiAt o ax i) (fun v m₂ m₂' => ∃ T a b, v = .ref T ∧ Tup T a b ∧ m₂' = fun z => if z = y then some b else if z = x then some a else m₂ z) S := by
  rintro v s oI oC m₂ rest Q E ⟨i, ho⟩ hn F N hIC off hS ⟨m', T, a, b, rfl, ht, hm'⟩ h
  refine wpAny_letOwnedTupleGo_listiter ⟨oI, (N _ (.head _)).1, ho.cls, ho.data⟩ ?_
  obtain ⟨n, hm⟩ := hT rest T a b hS ht
  have N' := news_front (a := [(I, oI)]) N
  refine assign_two (T := T) hh hC hx hy hk (N _ (.tail _ (.tail _ hm))).1 rfl rfl F N' (List.forall_mem_cons.mpr ⟨hIC, off⟩) hn fun h' tk oC' hn' F' N'' => h oC' _ h' tk hn' ⟨T, a, b, rfl, ht, rfl⟩ F' (news_front (a := [(C, oC')]) N'')
end

section
variable {prog : Program} {w : World} {A : Around} {h₀ : Heap} {L : Addr} {m : Str → Option Value} {elt t0 i0 : Expr} {ifs : List Expr} {scope : Scope} {pos : Pos} {cl : List (Str × Addr)} {env : Env}

/-- the loop's invariant, and what a step of the target leaves -/
inductive Cmp1 (h₀ : Heap) (L : Addr) (m : Str → Option Value) (own : List (Addr × Obj)) (C D : Addr) (n : Nat) (St : Nat → List (Addr × Obj) → Prop) (J : Nat → List Value → List (Addr × Obj) → Prop) (s : Shared) (k : Nat) (s' : Shared) : Prop
  | mk (i : Nat) (h' : Heap) (tk : Nat) (own' : List (Addr × Obj)) (oC : Obj) (m₂ : Str → Option Value) (ys : List Value) (news : List (Addr × Obj)) (_ : k = n - i) (_ : i ≤ n) (_ : s' = { s with heap := h', toks := tk }) (_ : Fr h₀ L h' m) (_ : News h₀ L h' (own' ++ ((C, oC) :: (D, LCg.lst ys) :: news))) (_ : own'.map (·.1) = own.map (·.1)) (_ : LCg.NsObj oC m₂) (_ : St i own') (_ : J i ys news) (_ : ∀ p ∈ news, p.1 ≠ C ∧ p.1 ≠ D) (_ : ∀ a ∈ own.map (·.1), ∀ q ∈ news, q.1 ≠ a)
inductive Cmp1N (h₀ : Heap) (L : Addr) (m : Str → Option Value) (own' : List (Addr × Obj)) (C D : Addr) (i : Nat) (St : Nat → List (Addr × Obj) → Prop) (Pn : Nat → (Str → Option Value) → Prop) (ys : List Value) (news : List (Addr × Obj)) (s s₃ : Shared) : Prop
  | mk (own'' : List (Addr × Obj)) (oC' : Obj) (m₂' : Str → Option Value) (h'' : Heap) (tk'' : Nat) (_ : s₃ = { s with heap := h'', toks := tk'' }) (_ : St (i + 1) own'') (_ : own''.map (·.1) = own'.map (·.1)) (_ : LCg.NsObj oC' m₂') (_ : Pn i m₂') (_ : Fr h₀ L h'' m) (_ : News h₀ L h'' (own'' ++ ((C, oC') :: (D, LCg.lst ys) :: news)))
theorem comp1K {I C D : Addr} {n : Nat} {St : Nat → List (Addr × Obj) → Prop} {Pn : Nat → (Str → Option Value) → Prop} {S : List (Addr × Obj) → Prop} {s : Shared} {own : List (Addr × Obj)} {oC : Obj} {m₂ : Str → Option Value} {news : List (Addr × Obj)} {Q : Value → Shared → Prop}
    (tk : TurnK prog w A h₀ L m (compEnvC scope cl C env) C I t0 St n Pn S) (J : Nat → List Value → List (Addr × Obj) → Prop)
    (F : Fr h₀ L s.heap m) (N : News h₀ L s.heap (own ++ ((C, oC) :: (D, LCg.lst []) :: news))) (hn : LCg.NsObj oC m₂) (off : ∀ p ∈ news, p.1 ≠ C ∧ p.1 ≠ D) (hCD : C ≠ D) (offO : ∀ a ∈ own.map (·.1), a ≠ C ∧ a ≠ D ∧ ∀ q ∈ news, q.1 ≠ a) (hst : St 0 own) (hJ : J 0 [] news)
    (hS : ∀ j ys news l, J j ys news → (∀ p ∈ news, p ∈ l) → S l) (hsz : ∀ j ys news, J j ys news → ys.length ≤ sizeLine)
    (body : ∀ i ys own' oC m₂ news h tk E', i < n → J i ys news → Pn i m₂ → St (i + 1) own' → LCg.NsObj oC m₂ → own'.map (·.1) = own.map (·.1) → Fr h₀ L h m → News h₀ L h (own' ++ ((C, oC) :: (D, LCg.lst ys) :: news)) → (∀ p ∈ news, p.1 ≠ C ∧ p.1 ≠ D) → (∀ a ∈ own.map (·.1), ∀ q ∈ news, q.1 ≠ a) →
      wpAny (model prog w) A (testsOf (compEnvC scope cl C env) ifs) (fun ok s₂ => if ok = true then wpAny (model prog w) A (eval elt (compEnvC scope cl C env)) (fun y s₃ => TurnEnd h₀ L m (own' ++ [(C, oC), (D, LCg.lst ys)]) (J (i + 1) (ys ++ [y])) { s with heap := h, toks := tk } s₃) E' s₂
        else TurnEnd h₀ L m (own' ++ [(C, oC), (D, LCg.lst ys)]) (J (i + 1) ys) { s with heap := h, toks := tk } s₂) E' { s with heap := h, toks := tk })
    (fin : ∀ ys news h tk, J n ys news → Fr h₀ L h m → News h₀ L h ((D, LCg.lst ys) :: news) → (∀ p ∈ news, p.1 ≠ D) → Q (.ref D) { s with heap := h, toks := tk }) :
    codeAny (model prog w) A (.compStart (.ListComp elt [⟨t0, i0, ifs, 0⟩] scope pos) 0 (.ref I) (.ref D) (compEnvC scope cl C env)) (CompDone h₀ L m s C D Q) s := by
  refine compStart0 ?_ fun E Q' h' => tk.self s own _ Q' E hst N h'
  refine codeAny_loop rfl (Cmp1 h₀ L m own C D n St J s) ?turn n
    ⟨0, s.heap, s.toks, own, oC, m₂, [], news, rfl, Nat.zero_le _, rfl, F, N, rfl, hn, hst, hJ, off, fun a ha => (offO a ha).2.2⟩
  rintro k s' ⟨i, h', tk', own', oC, m₂, ys, news, rfl, hi, rfl, F', N', hadr, hn', hst', hJ', off', offA⟩
  show wpAny _ A ((compTurn (.ListComp elt [⟨t0, i0, ifs, 0⟩] scope pos) 0 (.ref I) (.ref D) (compEnvC scope cl C env)).onRaise (fun x => do noteFrame x (compEnvC scope cl C env); theTreesLotGoes x)) _ _ _
  refine wpAny_noted ?_
  rw [compTurn_list]
  refine wpAny_bind (wpAny_standAt (wpAny_bind ?_))
  have adr : ∀ p ∈ own', p.1 ∈ own.map (·.1) := fun p hp => by rw [← hadr]; exact List.mem_map_of_mem hp
  have offN : ∀ p ∈ own', p.1 ≠ C ∧ ∀ q ∈ (D, LCg.lst ys) :: news, q.1 ≠ p.1 := fun p hp => ⟨(offO _ (adr p hp)).1, List.forall_mem_cons.mpr ⟨Ne.symm (offO _ (adr p hp)).2.1, offA _ (adr p hp)⟩⟩
  by_cases hlt : i < n
  · refine wpAny_mono (tk.next i _ own' oC m₂ ((D, LCg.lst ys) :: news) (Cmp1N h₀ L m own' C D i St Pn ys news s) _ hlt hst' hn' F' N' offN (List.forall_mem_cons.mpr ⟨Ne.symm hCD, fun p hp => (off' p hp).1⟩) (hS _ _ _ _ hJ' fun p hp => .tail _ hp)
      fun own'' oC' m₂' h'' tk'' a b c d e f => ⟨own'', oC', m₂', h'', tk'', rfl, a, b, c, d, e, f⟩) (fun r s₁ h₁ => ?_) fun _ _ h' => h'
    cases r with
    | none => exact h₁.elim
    | some v =>
      refine wpAny_bind (wpAny_mono h₁ (fun _ s₂ h₂ => wpAny_bind (wpAny_mono h₂ (fun _ s₃ h₃ => ?_) fun _ _ h' => h')) fun _ _ h' => h')
      obtain ⟨own3, oC3, m₃, h3, tk3, rfl, hst3, hadr3, hn3, hPn3, F3, N3⟩ := h₃
      have hadr3' : own3.map (·.1) = own.map (·.1) := hadr3.trans hadr
      refine wpAny_bind (wpAny_mono (body i ys own3 oC3 m₃ news h3 tk3 _ hlt hJ' hPn3 hst3 hn3 hadr3' F3 N3 off' offA) (fun ok s₄ h₄ => ?_) fun _ _ h' => h')
      cases ok with
      | false =>
        rw [if_neg Bool.false_ne_true] at h₄
        obtain ⟨h5, tk5, news5, rfl, F5, N5, off5, hJ5⟩ := h₄
        refine wpAny_pure ⟨rfl, n - (i + 1), by omega, i + 1, h5, tk5, own3, oC3, m₃, ys, news5, rfl, hlt, rfl, F5, by rw [List.append_assoc] at N5; exact N5, hadr3', hn3, hst3, hJ5, fun p hp => ⟨off5 p hp (C, oC3) (List.mem_append_right _ (.head _)), off5 p hp (D, LCg.lst ys) (List.mem_append_right _ (.tail _ (.head _)))⟩, fun a ha q hq => ?_⟩
        rw [← hadr3'] at ha
        obtain ⟨z, hz, rfl⟩ := List.mem_map.mp ha
        exact off5 q hq z (List.mem_append_left _ hz)
      | true =>
        rw [if_pos rfl] at h₄
        refine wpAny_bind (wpAny_bind (wpAny_mono h₄ (fun y s₅ h₅ => ?_) fun _ _ h' => h'))
        obtain ⟨h5, tk5, news5, rfl, F5, N5, off5, hJ5⟩ := h₅
        have N6 : News h₀ L h5 ((D, LCg.lst ys) :: (own3 ++ ((C, oC3) :: news5))) := fun p hp => N5 p (by
          rw [List.append_assoc]
          rcases List.mem_cons.mp hp with rfl | hp
          · exact List.mem_append_right _ (.tail _ (.head _))
          · rcases List.mem_append.mp hp with hp | hp
            · exact List.mem_append_left _ hp
            · rcases List.mem_cons.mp hp with rfl | hp
              · exact List.mem_append_right _ (.head _)
              · exact List.mem_append_right _ (.tail _ (.tail _ hp)))
        refine wpAny_bind (append_lst F5 N6 (fun p hp => ?_) (hsz _ _ _ hJ') fun h6 F6 N7 => ?_)
        · rcases List.mem_append.mp hp with hp | hp
          · have : p.1 ∈ own.map (·.1) := by rw [← hadr3']; exact List.mem_map_of_mem hp
            exact (offO _ this).2.1
          · rcases List.mem_cons.mp hp with rfl | hp
            · exact hCD
            · exact off5 p hp (D, LCg.lst ys) (List.mem_append_right _ (.tail _ (.head _)))
        · have N8 : News h₀ L h6 (own3 ++ ((C, oC3) :: (D, LCg.lst (ys ++ [y])) :: news5)) := fun p hp => N7 p (by
            rcases List.mem_append.mp hp with hp | hp
            · exact .tail _ (List.mem_append_left _ hp)
            · rcases List.mem_cons.mp hp with rfl | hp
              · exact .tail _ (List.mem_append_right _ (.head _))
              · rcases List.mem_cons.mp hp with rfl | hp
                · exact .head _
                · exact .tail _ (List.mem_append_right _ (.tail _ hp)))
          refine wpAny_pure (wpAny_pure ⟨rfl, n - (i + 1), by omega, i + 1, h6, tk5, own3, oC3, m₃, ys ++ [y], news5, rfl, hlt, rfl, F6, N8, hadr3', hn3, hst3, hJ5, fun p hp => ⟨off5 p hp (C, oC3) (List.mem_append_right _ (.head _)), off5 p hp (D, LCg.lst ys) (List.mem_append_right _ (.tail _ (.head _)))⟩, fun a ha q hq => ?_⟩)
          rw [← hadr3'] at ha
          obtain ⟨z, hz, rfl⟩ := List.mem_map.mp ha
          exact off5 q hq z (List.mem_append_left _ hz)
  · obtain rfl : i = n := Nat.le_antisymm hi (Nat.not_lt.mp hlt)
    have offS : ∀ p ∈ own', ∀ q ∈ (C, oC) :: (D, LCg.lst ys) :: news, q.1 ≠ p.1 := fun p hp => List.forall_mem_cons.mpr ⟨Ne.symm (offN p hp).1, (offN p hp).2⟩
    refine wpAny_mono (tk.stop _ own' ((C, oC) :: (D, LCg.lst ys) :: news) (fun s₁ => ∃ h'' tk'', s₁ = { s with heap := h'', toks := tk'' } ∧ Fr h₀ L h'' m ∧ News h₀ L h'' ((C, oC) :: (D, LCg.lst ys) :: news)) _ hst' F' N' offS (hS _ _ _ _ hJ' fun p hp => .tail _ (.tail _ hp)) fun h'' tk'' a b => ⟨h'', tk'', rfl, a, b⟩) (fun r s₁ h₁ => ?_) fun _ _ h' => h'
    cases r with
    | some v => exact h₁.elim
    | none =>
      obtain ⟨h1, tk1, rfl, F1, N1⟩ := h₁
      exact wpAny_pure ⟨h1, tk1, oC, m₂, LCg.lst ys, news, rfl, F1, N1, hn', hCD, fun p hp => (off' p hp).1, fun h'' tk' F'' N'' => fin ys news h'' tk' hJ' F'' N'' fun p hp => (off' p hp).2⟩

def CompGoC (prog : Program) (w : World) (A : Around) (h₀ : Heap) (L : Addr) (m : Str → Option Value) (e : Expr) (scope : Scope) (kx : Str) (env : Env) (Q : Value → Shared → Prop) (it : Value) (s₂ : Shared) : Prop :=
  ∃ news, Fr h₀ L s₂.heap m ∧ News h₀ L s₂.heap news ∧ ∀ (C D Kc : Nat) oC ok h' tk, Fr h₀ L h' m → News h₀ L h' ((Kc, ok) :: (C, oC) :: (D, LCg.lst []) :: news) → LCg.NsObj oC (fun _ => none) → ok.data = .cell none → C ≠ D → Kc ≠ C → Kc ≠ D → (∀ p ∈ news, p.1 < C) → (∀ p ∈ news, p.1 < D) → (∀ p ∈ news, p.1 < Kc) →
      codeAny (model prog w) A (.compStart e 0 it (.ref D) (compEnvC scope [(kx, Kc)] C env)) (CompDone h₀ L m { s₂ with heap := h', toks := tk } C D Q) { s₂ with heap := h', toks := tk }
theorem comp_evalC {E : Value → Shared → Prop} {s : Shared} {gs : List Comprehension} {kx : Str} {Q : Value → Shared → Prop} (un_F₀ : Fr h₀ L s.heap m)
    (hclos : closureFor scope env = pure []) (hcf : ∀ n, cellsFrom n scope.names [] = [(kx, n)]) (hpc : ∀ h, pushCells h scope.names = h.push { cls := .type "cell", data := .cell none }) (hkind : scope.kind = .function)
    (hnames : ∀ y ∈ scope.names, y.2 = .local → scope.names.lookup y.1 = some .local)
    (h : wpAny (model prog w) A (eval i0 env) (fun xv s₁ => wpAny (model prog w) A (pyIter xv) (fun it s₂ => CompGoC prog w A h₀ L m (.ListComp elt (⟨t0, i0, ifs, 0⟩ :: gs) scope pos) scope kx env Q it s₂) E s₁) E s)
    (hs : ∀ x, foldedSetIterable i0 env x = pure x := by intro _; rfl) (hf : firstAsync (⟨t0, i0, ifs, 0⟩ :: gs) = false := by rfl) (hi : firstIter (⟨t0, i0, ifs, 0⟩ :: gs) env = eval i0 env := by rfl) :
    wpAny (model prog w) A (eval (.ListComp elt (⟨t0, i0, ifs, 0⟩ :: gs) scope pos) env) Q E s := by
  rw [eval_ListComp, hf, hi]
  refine wpAny_comprehension_free (use := none) rfl hs hclos hkind hnames (wpAny_mono h (fun xv s₁ h₁ => wpAny_mono h₁ (fun it s₂ h₂ => ?_) fun _ _ e => e) fun _ _ e => e)
  obtain ⟨news, F, N, go⟩ := h₂
  refine wpAny_newObj_type (newEnv_cell hcf hpc ?_)
  dsimp only
  have F2 : Fr h₀ L (s₂.heap.push { cls := .type "list", dict := none, data := .seq ([] : List Value).toArray }) m := F.push _
  have N2 : News h₀ L (s₂.heap.push { cls := .type "list", dict := none, data := .seq ([] : List Value).toArray }) ((s₂.heap.objs.size, LCg.lst []) :: news) := News.push F N _ rfl
  generalize hH2 : s₂.heap.push { cls := .type "list", dict := none, data := .seq ([] : List Value).toArray } = H2 at F2 N2 ⊢
  have hC : H2.objs.size = s₂.heap.objs.size + 1 := by rw [← hH2, Heap.size_push]
  have N3 := News.push F2 N2 { cls := .type "dict", data := .dict #[] } rfl
  have F3 : Fr h₀ L (H2.push { cls := .type "dict", data := .dict #[] }) m := F2.push _
  have N4 := News.push F3 N3 { cls := .type "cell", data := .cell none } rfl
  have hK : (H2.push { cls := .type "dict", data := .dict #[] }).objs.size = H2.objs.size + 1 := Heap.size_push ..
  rw [hK] at N4
  have hns : LCg.NsObj { cls := .type "dict", data := .dict #[] } (fun _ => none) := by
    have q := Heap.Ns.new H2 (.type "dict")
    obtain ⟨o, e, hn⟩ := LCg.ns_obj q
    rw [Heap.get?_push_size _ rfl] at e
    obtain rfl := Option.some.inj e
    exact hn
  refine codeAny_mono (go H2.objs.size s₂.heap.objs.size (H2.objs.size + 1) _ _ _ s₂.toks (F3.push _) N4 hns rfl (by rw [hC]; exact Nat.ne_of_gt (Nat.lt_succ_self _)) (Nat.ne_of_gt (Nat.lt_succ_self _)) (by rw [hC]; exact Nat.ne_of_gt (Nat.lt_succ_of_lt (Nat.lt_succ_self _))) (fun p hp => by rw [hC]; exact Nat.lt_succ_of_lt (Heap.lt_size (N p hp).1)) (fun p hp => Heap.lt_size (N p hp).1) (fun p hp => by rw [hC]; exact Nat.lt_succ_of_lt (Nat.lt_succ_of_lt (Heap.lt_size (N p hp).1)))) fun r s' hr => ?_
  cases r with
  | error x => exact hr.elim
  | ok f =>
    obtain ⟨h', tk, oC', m₂, o, news', rfl, F', N', hn', hCD, off, fin⟩ := hr
    have zC := N' _ (.head _)
    refine ⟨m₂, hn'.ns zC.1, fun h'' hs'' => ?_⟩
    exact fin h'' tk (F'.change hs'' zC.2.1 zC.2.2) fun p hp => ⟨hs''.extBut _ _ (by
      rcases List.mem_cons.mp hp with rfl | hp
      · exact Ne.symm hCD
      · exact off p hp) (N' p (.tail _ hp)).1, (N' p (.tail _ hp)).2⟩
end
-- part D1
open AutoSeq1 (wpAny_loadPart')
open MeetsSeq MeetsSeq3

/-- which of two lists of numbers comes ahead -/
def ahead : List Int → List Int → Bool
  | [], [] => false
  | [], _ :: _ => true
  | _ :: _, [] => false
  | a :: l, b :: r => if a == b then ahead l r else decide (a < b)

theorem lt_loop (l b : Addr) (vs ws : List Value) (n n2 : Nat) (ns ms : List Int) (hv : IntsAre vs ns) (hw : IntsAre ws ms) (hsz : ns.length = ms.length) (k : Nat) :
    ∀ i : Nat, ns.length - i = k → Meets (Builtin.«list.__eq__.loop» ⟨[.ref l, .ref b, rawInt i, rawInt 0], []⟩)
      (fun _ R s => s.heap.get? l = some { cls := .type "list", dict := none, data := .seq vs.toArray n, slots := #[] } ∧ s.heap.get? b = some { cls := .type "list", dict := none, data := .seq ws.toArray n2, slots := #[] } ∧
        R (.ok (.ret (.bool (ahead (ns.drop i) (ms.drop i))))) s) := by
  have hvl := hv.length
  have hwl := hw.length
  induction k with
  | zero =>
    intro i hk prog w A R s h
    obtain ⟨hp, g, d, tk, os⟩ := s; obtain ⟨hl, hb, h⟩ := h
    wp_walk using wpAny_loadPart' hl, wpAny_loadPart' hb
    have hi1 : vs.toArray[((i : Nat) : Int).toNat]? = none := by simp; omega
    have hi2 : ws.toArray[((i : Nat) : Int).toNat]? = none := by simp; omega
    have hd1 : ns.drop i = [] := by simp; omega
    have hd2 : ms.drop i = [] := by simp; omega
    rw [hd1, hd2] at h
    rw [hi1, hi2]
    wp_walk using wpAny_loadPart' hl, wpAny_loadPart' hb
    show R (.ok (.ret (.bool (decide (vs.toArray.size < ws.toArray.size))))) _
    have e : decide (vs.toArray.size < ws.toArray.size) = false := decide_eq_false (by rw [List.size_toArray, List.size_toArray]; omega)
    rw [e]
    exact h
  | succ k ih =>
    intro i hk prog w A R s h
    obtain ⟨hp, g, d, tk, os⟩ := s; obtain ⟨hl, hb, h⟩ := h
    wp_walk using wpAny_loadPart' hl, wpAny_loadPart' hb
    have hlt : i < ns.length := by omega
    have hlt2 : i < ms.length := by omega
    obtain ⟨t1, e1⟩ := hv.get i _ (List.getElem?_eq_getElem hlt)
    obtain ⟨t2, e2⟩ := hw.get i _ (List.getElem?_eq_getElem hlt2)
    have hi1 : vs.toArray[((i : Nat) : Int).toNat]? = some (.int ns[i] t1) := by simpa using e1
    have hi2 : ws.toArray[((i : Nat) : Int).toNat]? = some (.int ms[i] t2) := by simpa using e2
    have hd1 : ns.drop i = ns[i] :: ns.drop (i + 1) := List.drop_eq_getElem_cons hlt
    have hd2 : ms.drop i = ms[i] :: ms.drop (i + 1) := List.drop_eq_getElem_cons hlt2
    have hc : ((i : Int) + 1) = ((i + 1 : Nat) : Int) := by push_cast; rfl
    rw [hd1, hd2, ahead] at h
    rw [hi1, hi2]
    refine wpAny_bind (EqGives.int _ _ _ _ prog w _ _ _ _ ?_)
    cases hb' : ns[i] == ms[i] with
    | true =>
      rw [hb', if_pos rfl] at h
      wp_walk
      rw [hc]
      exact ⟨plainId_quiet plain_eq_loop _, codeAny_builtin entry_eq_loop (by
        rw [Around.under_plainId plain_eq_loop _]
        exact ih (i + 1) (by omega) prog w A R _ ⟨hl, hb, h⟩)⟩
    | false =>
      rw [hb', if_neg Bool.false_ne_true] at h
      wp_walk using wpAny_loadPart' hl, wpAny_loadPart' hb
      rw [hi1, hi2]
      refine wpAny_bind (show wpAny _ _ (richCompare .Lt (.int ns[i] t1) (.int ms[i] t2)) _ _ _ from wpAny_lt_int ?_)
      wp_walk
      exact h

theorem list_lt (l b : Addr) (vs ws : List Value) (n n2 : Nat) (ns ms : List Int) (hv : IntsAre vs ns) (hw : IntsAre ws ms) (hsz : ns.length = ms.length) :
    Meets (Builtin.«list.__lt__» ⟨[.ref l, .ref b], []⟩)
      (fun _ R s => s.heap.get? l = some { cls := .type "list", dict := none, data := .seq vs.toArray n, slots := #[] } ∧ s.heap.get? b = some { cls := .type "list", dict := none, data := .seq ws.toArray n2, slots := #[] } ∧
        R (.ok (.ret (.bool (ahead ns ms)))) s) := by
  intro prog w A R s h
  obtain ⟨hp, g, d, tk, os⟩ := s; obtain ⟨hl, hb, h⟩ := h
  have f3 := AutoSeq1.sub_list_list
  wp_walk using wpAny_loadPart' hl, wpAny_loadPart' hb
  exact ⟨plainId_quiet plain_eq_loop _, codeAny_builtin entry_eq_loop (by
    rw [Around.under_plainId plain_eq_loop _]
    exact lt_loop l b vs ws n n2 ns ms hv hw hsz _ 0 rfl prog w A R _ ⟨hl, hb, h⟩)⟩
theorem lt_lists {prog : Program} {w : World} {A : Around} {E : Value → Shared → Prop} {s : Shared} {h₀ : Heap} {L l b : Addr} {vs ws : List Value} {n n2 : Nat} {ns ms : List Int} {news : List (Addr × Obj)} {Q : Value → Shared → Prop} (N : News h₀ L s.heap news) (hl : (l, W.listOf vs.toArray n) ∈ news) (hb : (b, W.listOf ws.toArray n2) ∈ news)
    (hv : IntsAre vs ns) (hw : IntsAre ws ms) (hsz : ns.length = ms.length) (hu : A.units < cLine) (h : Q (.bool (ahead ns ms)) s) : wpAny (model prog w) A (compareOp .Lt (.ref l) (.ref b)) Q E s := by
  have z1 := (N _ hl).1
  have z2 := (N _ hb).1
  exact cmp_ofLt (richCompare_meets_room (op := .Lt) ⟨_, z1, rfl⟩ ⟨_, z2, rfl⟩ F.slot_list_lt F.entry_list_lt (F.args_list_lt_2 _ _) (list_lt l b vs ws n n2 ns ms hv hw hsz)
    ⟨z1, z2, show Value.bool (ahead ns ms) ≠ Value.notImplemented ∧ Q (.bool (ahead ns ms)) s from ⟨(fun x => nomatch x), h⟩⟩ hu)
-- part D2

theorem keys_miss {prog : Program} {w : World} {A : Around} {E : Value → Shared → Prop} {s : Shared} {a : Addr} {xs : Array Value} {k : Nat} {Q : Option Value → Shared → Prop}
    (hx : s.heap.get? a = some (W.listOf xs k)) (hA : A.handled = none)
    (h : ∀ h' tk, (∀ b o, s.heap.get? b = some o → h'.get? b = some o) → Q none { s with heap := h', toks := tk }) :
    wpAny (model prog w) A (getAttr? (.ref a) "keys") Q E s := by
  obtain ⟨hp, g, d, tk, os⟩ := s
  have hT : ∀ tk', (⟨hp, g, d, tk', os⟩ : Shared).TypeIs (.ref a) "list" := fun _ => ⟨_, hx, rfl⟩
  have f1 := sub_AttributeError
  have f3 := F.slot_list_getattribute.lookup
  have f4 := F.slot_list_getattribute.bind (.ref a)
  have f5 := am_list_getattr_none
  have hmiss : typeLookup (.type "list") "keys" = pure none := am_miss_of_fast (by kernel_rfl)
  unfold getAttr? getAttrBy? getAttrBy
  repeat (any_goals (first | assumption | exact hT _ | ((with_reducible show wpAny _ _ (call (Value.builtin "list.__getattribute__") _ _) _ _ _); refine call_meets F.slot_list_getattribute (hT _) am_entry_list_getattribute (F.args_list_getattribute_2 _ _) (meets_getattribute_miss_list a xs k _ _ _ hmiss (by decide +kernel)) ⟨hx, hA, fun h' tk' e hx' => ?_⟩) | wp_step))
  obtain ⟨t', u', he⟩ := hx'.there
  show wpAny _ _ (getattributeRaised _ _ _ _ _ _ _) _ _ _
  unfold getattributeRaised
  repeat (any_goals (first | assumption | wp_step))
  exact h _ _ hx'.keeps

theorem plain_update_loop : plainId "dict.update.loop" = true := by decide +kernel
theorem entry_update_loop : entryFor table "dict.update.loop" = some Builtin.«dict.update.loop» := entryFor_of_tree (by kernel_rfl)

section
variable {prog : Program} {w : World} {A : Around} {E : Value → Shared → Prop} {h₀ : Heap} {L I D : Addr} {m : Str → Option Value} {rest : List (Addr × Obj)} {R : Result → Shared → Prop}
theorem dict_loop (hh : A.handled = none) {l : Addr} {vs : List Value} {ep : Nat} {prs : List (Int × Value)} (hl : (l, W.listOf vs.toArray ep) ∈ rest) (hlen : prs.length = vs.length) (hsz : prs.length ≤ 16)
    (hp : ∀ (i : Nat) (q : Int × Value), prs[i]? = some q → ∃ (t : Addr) (tk : Tok) (n : Nat), vs[i]? = some (Value.ref t) ∧ (t, tupO (.int q.1 tk) q.2 n) ∈ rest)
    (hst : ∀ (i : Nat) (q : Int × Value), prs[i]? = some q → stored (prs.take i) q.1 q.2 = prs.take (i + 1)) (offI : ∀ p ∈ rest, p.1 ≠ I) (offD : ∀ p ∈ rest, p.1 ≠ D) (hID : I ≠ D) :
    ∀ (k i : Nat) (s : Shared) (o od : Obj), i + k = vs.length → Fr h₀ L s.heap m → News h₀ L s.heap ((I, o) :: (D, od) :: rest) → LiAt o l i → od.IsDictOf (PySem.intKind prog w) (prs.take i) →
      (∀ h' tk od', Fr h₀ L h' m → News h₀ L h' ((D, od') :: rest) → od'.IsDictOf (PySem.intKind prog w) prs → R (.ok (.ret .none)) { s with heap := h', toks := tk }) →
      codeAny (model prog w) A (.builtin "dict.update.loop" ⟨[.ref D, .ref I, rawInt i, .none], []⟩) R s := by
  intro k
  induction k with
  | zero =>
    intro i s o od hik F N ho hd fin
    refine codeAny_builtin entry_update_loop ?_
    rw [Around.under_plainId plain_update_loop _]
    unfold Builtin.«dict.update.loop»
    refine wpAny_bind (next_list_end (A := A.in1) hh F N (List.forall_mem_cons.mpr ⟨Ne.symm hID, offI⟩) ho (.tail _ hl) (by rw [List.size_toArray]; omega) fun h' F' N' => ?_)
    rw [List.take_of_length_le (by omega)] at hd
    exact wpAny_bind (wpAny_pure (wpAny_pure (fin h' s.toks od F' N' hd)))
  | succ k ih =>
    intro i s o od hik F N ho hd fin
    refine codeAny_builtin entry_update_loop ?_
    rw [Around.under_plainId plain_update_loop _]
    have hi : i < prs.length := by omega
    obtain ⟨t, tk, n, hv, ht⟩ := hp i _ (List.getElem?_eq_getElem hi)
    unfold Builtin.«dict.update.loop»
    refine wpAny_bind (next_list F N (List.forall_mem_cons.mpr ⟨Ne.symm hID, offI⟩) ho (.tail _ hl) (v := .ref t) (by simpa using hv) fun h1 o1 ho1 F1 N1 => ?_)
    have zt := (N1 _ (.tail _ (.tail _ ht))).1
    refine wpAny_bind (wpAny_holding ?_)
    refine wpAny_bind (wpAny_tryCatch ?_)
    unfold Builtin.Dict.pairItems
    refine wpAny_bind (wpAny_typeOf (T := "tuple") ⟨_, zt, rfl⟩ ?_)
    rw [if_pos (by decide)]
    refine wpAny_bind (wpAny_seqItems zt rfl (wpAny_pure ?_))
    have zD := N1 _ (.tail _ (.head _))
    refine wpAny_holding (wpAny_dictSet_pairs (knd := PySem.intKind prog w) (hsz := by rw [List.length_take, sizeLine_eq]; omega) (intKind_is _ _ _ _) (Heap.dictOf_iff.mpr ⟨od, zD.1, hd⟩) fun h2 hm2 hs2 => ?_)
    obtain ⟨od2, e2, hd2⟩ := Heap.dictOf_iff.mp hm2
    rw [hst i _ (List.getElem?_eq_getElem hi)] at hd2
    have N1' : News h₀ L h1 ((D, od) :: (I, o1) :: rest) := fun p hp => N1 p (by
      rcases List.mem_cons.mp hp with rfl | hp
      · exact .tail _ (.head _)
      · rcases List.mem_cons.mp hp with rfl | hp
        · exact .head _
        · exact .tail _ (.tail _ hp))
    have N2 := N1'.setHead (List.forall_mem_cons.mpr ⟨hID, offD⟩) hs2 e2
    have N2' : News h₀ L h2 ((I, o1) :: (D, od2) :: rest) := fun p hp => N2 p (by
      rcases List.mem_cons.mp hp with rfl | hp
      · exact .tail _ (.head _)
      · rcases List.mem_cons.mp hp with rfl | hp
        · exact .head _
        · exact .tail _ (.tail _ hp))
    have hc : ((i : Int) + 1) = ((i + 1 : Nat) : Int) := by push_cast; rfl
    refine wpAny_pure ⟨plainId_quiet plain_update_loop _, ?_⟩
    rw [hc]
    exact ih (i + 1) _ o1 od2 (by omega) (F1.change hs2 zD.2.1 zD.2.2) N2' ho1 hd2 fin

theorem call_dict_pairs {s : Shared} (hh : A.handled = none) {l : Addr} {vs : List Value} {ep : Nat} {prs : List (Int × Value)} {Q : Value → Shared → Prop} (F : Fr h₀ L s.heap m) (N : News h₀ L s.heap rest) (hl : (l, W.listOf vs.toArray ep) ∈ rest) (hlen : prs.length = vs.length) (hsz : prs.length ≤ 16)
    (hp : ∀ (i : Nat) (q : Int × Value), prs[i]? = some q → ∃ (t : Addr) (tk : Tok) (n : Nat), vs[i]? = some (Value.ref t) ∧ (t, tupO (.int q.1 tk) q.2 n) ∈ rest)
    (hst : ∀ (i : Nat) (q : Int × Value), prs[i]? = some q → stored (prs.take i) q.1 q.2 = prs.take (i + 1))
    (h : ∀ (D : Nat) od h' tk, (∀ p ∈ rest, p.1 < D) → Fr h₀ L h' m → News h₀ L h' ((D, od) :: rest) → od.IsDictOf (PySem.intKind prog w) prs → Q (.ref D) { s with heap := h', toks := tk }) :
    wpAny (model prog w) A (call (.type "dict") [.ref l]) Q E s := by
  refine callType_codes (Q₁ := fun obj s₁ => obj = .ref s.heap.objs.size ∧ s₁ = { s with heap := s.heap.push { cls := .type "dict", data := .dict #[] } }) PySem.F.kt_called_dict (PySem.F.kt_typeCall_dict_1 _) PySem.F.entry_dict_init (kt_code_dict_new _ ⟨rfl, rfl⟩) ?_
  rintro obj s₁ ⟨rfl, rfl⟩
  have hnew : (s.heap.push { cls := .type "dict", data := .dict #[] }).DictOf (PySem.intKind prog w) s.heap.objs.size [] := Heap.DictOf.new s.heap
  obtain ⟨od, hod, hdod⟩ := Heap.dictOf_iff.mp hnew
  have F1 : Fr h₀ L (s.heap.push { cls := .type "dict", data := .dict #[] }) m := F.push _
  have N0 := News.push F N { cls := .type "dict", data := .dict #[] } rfl
  have N1 : News h₀ L (s.heap.push { cls := .type "dict", data := .dict #[] }) ((s.heap.objs.size, od) :: rest) := fun p hp => by
    rcases List.mem_cons.mp hp with rfl | hp
    · exact ⟨hod, (N0 _ (.head _)).2⟩
    · exact N0 p (.tail _ hp)
  have lD : ∀ p ∈ rest, p.1 < s.heap.objs.size := fun p hp => Heap.lt_size (N p hp).1
  refine ⟨hnew.typeIs, PySem.F.args_dict_init_2 _ _, ?_⟩
  unfold Builtin.«dict.__init__»
  refine wpAny_bind ?_
  unfold Builtin.Dict.selfAndRest
  refine wpAny_bind (wpAny_notOrdered_dict hnew.typeIs ?_)
  show wpAny _ _ (pure (s.heap.objs.size, [Value.ref l])) _ _ _
  refine wpAny_pure ?_
  show wpAny _ _ (Builtin.Dict.updateFrom "dict.__init__" s.heap.objs.size (.ref l) [] .none) _ _ _
  unfold Builtin.Dict.updateFrom
  have zl := (N1 _ (.tail _ hl)).1
  refine wpAny_bind (wpAny_typeOf (T := "list") ⟨_, zl, rfl⟩ ?_)
  rw [if_pos (by decide)]
  refine wpAny_bind (keys_miss (A := A.in1.in1) zl hh fun h2 tk2 hk2 => ?_)
  rw [if_pos (show (none : Option Value).isNone = true from rfl)]
  refine wpAny_bind (wpAny_rule ?_)
  have F2 := F1.keeps hk2
  have N2 := N1.grown hk2
  refine wpAny_bind (iter_listK F2 N2 (.tail _ hl) fun I o h3 ho lI F3 N3 => ?_)
  refine wpAny_pure ⟨plainId_quiet plain_update_loop _, ?_⟩
  refine dict_loop (A := A.in1) (rest := rest) hh hl hlen hsz hp hst (fun p hp => Nat.ne_of_lt (lI p (.tail _ hp))) (fun p hp => Nat.ne_of_lt (lD p hp)) (Nat.ne_of_gt (lI _ (.head _))) vs.length 0 _ o od (Nat.zero_add _) F3 N3 ho hdod fun h' tk od' F' N' hd' => ?_
  exact ⟨rfl, h s.heap.objs.size od' h' tk lD F' N' hd'⟩
end
-- part L0

def lawDef : Option (Arguments × List Stmt × Scope) := nestedIn "law" PySem.Challenge.pw_gb0005_01.main.body
def lawScope : Option Scope := lawDef.map fun d => d.2.2
def lawStmt (n : Nat) : Option Stmt := lawDef.bind fun d => d.2.1[n]?
def c2 : Option PySem.Expr := match lawStmt 1 with
  | some (.Assign _ (.Call _ [e] _ _) _) => some e
  | _ => none
def cIf : Option Stmt → Option PySem.Expr
  | some (.If (.Compare e _ _ _) _ _ _) => some e
  | _ => none
def forBody : Option Stmt → List Stmt
  | some (.For _ _ b _ _) => b
  | _ => []
def nth (l : List Stmt) (n : Nat) : Option Stmt := l[n]?
def c3 : Option PySem.Expr := cIf (lawStmt 2)
def c4 : Option PySem.Expr := cIf (nth (forBody (lawStmt 3)) 0)
def c6 : Option PySem.Expr := match nth (forBody (lawStmt 5)) 2 with
  | some (.If (.BoolOp _ (.Compare e _ _ _ :: _) _) _ _ _) => some e
  | _ => none
def sumArg : Option PySem.Expr → Option PySem.Expr
  | some (.Call _ [e] _ _) => some e
  | _ => none
def cS : Option PySem.Expr := match nth (forBody (lawStmt 5)) 3 with
  | some (.If (.Compare e _ _ _) _ _ _) => sumArg (some e)
  | _ => none
def c7 : Option PySem.Expr := cIf (lawStmt 6)
def cT : Option PySem.Expr := match nth (forBody (lawStmt 9)) 0 with
  | some (.Expr (.Call _ [_, e] _ _) _) => sumArg (some e)
  | _ => none
-- part L3

theorem re4v {a b c d : Addr × Obj} {l : List (Addr × Obj)} : ∀ p ∈ c :: a :: b :: l, p ∈ a :: b :: c :: d :: l := by grind
structure VlAt (o : Obj) (d : Addr) (i n ep : Nat) : Prop where
  cls : o.cls = .type "dict_valueiterator"
  data : o.data = .fields #[.ref d, .int i 0, .int n 0, .int ep 0]
section
variable {prog : Program} {w : World} {A : Around} {E : Value → Shared → Prop} {s : Shared} {h₀ : Heap} {L I : Addr} {m : Str → Option Value} {rest : List (Addr × Obj)} {K : Type} [DecidableEq K] {knd : KeyKind prog w K}
theorem dict_ep {od : Obj} {kvs : List (K × Value)} (h : od.IsDictOf knd kvs) : ∃ ep, ∀ (g : Heap) (d : Addr), g.get? d = some od → g.DictAt knd d kvs ep :=
  let ⟨es, ep, r⟩ := h
  ⟨ep, fun _ _ e => ⟨od, es, e, r⟩⟩
theorem IterK.vals (hh : A.handled = none) {od : Obj} {kvs : List (K × Value)} {ep : Nat} (d : Addr) (hd : ∀ (g : Heap) (d : Addr), g.get? d = some od → g.DictAt knd d kvs ep) :
    IterK prog w A h₀ L m I (fun i o => VlAt o d i kvs.length ep) kvs.length (fun i v => ∃ k, kvs[i]? = some (k, v)) (fun rest => (d, od) ∈ rest) where
  next := fun i s o rest Q E hi ho F N off hS h => by
    have z := N _ (.head _)
    have N' : News h₀ L s.heap rest := fun p hp => N p (.tail _ hp)
    have e : kvs[i]? = some (kvs[i].1, kvs[i].2) := by simp [hi]
    refine wpAny_pyNext_values_item ⟨o, z.1, ho.cls, ho.data⟩ (hd _ _ (N' _ hS).1) e fun h' hit hs => ?_
    obtain ⟨o', e', hc, hd'⟩ := hit
    have hk : ∀ b o, b ∉ [I] → s.heap.get? b = some o → h'.get? b = some o := fun b o hb e => hs.extBut b o (by simpa using hb) e
    refine h _ o' h' s.toks ⟨_, e⟩ ⟨hc, hd'⟩ (LCg.fr_but F hk (Ne.symm z.2.1) z.2.2) fun p hp => ?_
    rcases List.mem_cons.mp hp with rfl | hp
    · exact ⟨e', z.2⟩
    · exact LCg.news_but N' hk off p hp
  stop := fun s o rest Q E ho F N off hS h => by
    have z := N _ (.head _)
    have N' : News h₀ L s.heap rest := fun p hp => N p (.tail _ hp)
    refine wpAny_pyNext_values_end hh ⟨o, z.1, ho.cls, ho.data⟩ (hd _ _ (N' _ hS).1) (by simp) fun h' hs => ?_
    have hk : ∀ b o, b ∉ [I] → s.heap.get? b = some o → h'.get? b = some o := fun b o hb e => hs b o (by simpa using hb) e
    exact h h' (LCg.fr_but F hk (Ne.symm z.2.1) z.2.2) (LCg.news_but N' hk off)
  self := fun s o rest Q E ho N h => wpAny_pyIter_valiter ⟨o, (N _ (.head _)).1, ho.cls, ho.data⟩ h
theorem TurnK.vals {cenv : Env} {C : Addr} {x : Str} {px : Pos} (hh : A.handled = none) (hC : cenv.locals = C) (hx : cenv.kindOf x = some .local) (hk : cenv.scope.kind = .function) {od : Obj} {kvs : List (K × Value)} {ep : Nat} (d : Addr) (hd : ∀ (g : Heap) (d : Addr), g.get? d = some od → g.DictAt knd d kvs ep) :
    TurnK prog w A h₀ L m cenv C I (.Name x px) (fun i own => ∃ o, own = [(I, o)] ∧ VlAt o d i kvs.length ep) kvs.length (fun i m₂ => ∃ k v, kvs[i]? = some (k, v) ∧ m₂ x = some v) (fun rest => (d, od) ∈ rest) :=
  TurnK.of (IterK.vals hh d hd) (AsgK.name hC hx hk (fun _ => True) _) (fun _ _ _ => trivial) (fun _ _ _ _ => ⟨_, rfl⟩) (fun i v m₂ m₂' ⟨k, e⟩ e' => ⟨k, v, e, by rw [e']; exact if_pos rfl⟩) fun _ _ hm hs => hs _ hm
theorem iter_valsK {v d : Addr} {od ov : Obj} {kvs : List (K × Value)} {ep : Nat} {Q : Value → Shared → Prop} (hd : ∀ (g : Heap) (d : Addr), g.get? d = some od → g.DictAt knd d kvs ep) (F : Fr h₀ L s.heap m) (N : News h₀ L s.heap rest) (hm : (d, od) ∈ rest) (hv : (v, ov) ∈ rest) (hvc : ov.cls = .type "dict_values") (hvd : ov.data = .fields #[.ref d])
    (h : ∀ (I : Nat) o h', VlAt o d 0 kvs.length ep → (∀ p ∈ rest, p.1 < I) → Fr h₀ L h' m → News h₀ L h' ((I, o) :: rest) → Q (.ref I) { s with heap := h' }) :
    wpAny (model prog w) A (pyIter (.ref v)) Q E s :=
  wpAny_pyIter_values ⟨ov, (N _ hv).1, hvc, hvd⟩ (hd _ _ (N _ hm).1) (h _ _ _ ⟨rfl, rfl⟩ (fun p hp => Heap.lt_size (N p hp).1) (F.push _) (News.push F N _ rfl))
end
theorem none_any {vs : List Value} : (vs.toArray.any fun _ => false) = false := by
  rw [← Array.any_toList]
  induction vs.toArray.toList with
  | nil => rfl
  | cons a l ih => rw [List.any_cons, ih]; rfl
theorem none_eq {A : Around} {s : Shared} {vs : List Value} {ns : List Int} (h : IntsAre vs ns) : ∀ y, y ∈ vs.toArray → SeqAt.EqAt A s y .none ((fun _ : Value => false) y) := fun y hy => by
  obtain ⟨n, t, rfl⟩ := h.all y (by simpa using hy)
  exact SeqAt.EqAt.int_none n t
theorem own_one {I : Addr} {oI₀ : Obj} {own' : List (Addr × Obj)} (hadr : own'.map (·.1) = [(I, oI₀)].map (·.1)) : ∃ oI, own' = [(I, oI)] := by
  cases own' with
  | nil => exact absurd hadr (by simp)
  | cons a l => cases l with
    | nil => obtain ⟨a1, a2⟩ := a; simp only [List.map_cons, List.map_nil, List.cons.injEq, and_true] at hadr; exact ⟨a2, by rw [hadr]⟩
    | cons b l => exact absurd hadr (by simp)

local macro_rules | `(tactic| walk_at "subscriptTail") => `(tactic| (k_here; (with_reducible show wpAny _ _ (subscriptTail _ _ (Value.ref _) (Value.int _ _)) _ _ _); k_dflt (refine' item_anyK ?k1 ?k2 ?k3 ?k4 ?k5 ?_ ?k6; (case k1 => exact News.isList (by k_asm) (by k_mem)); (case k2 => assumption); (case k3 => omega); (case k4 => (simp only [row_len]; omega)); (case k5 => omega); (case k6 => with_unfolding_all rfl); k_whole); intro _))
local macro_rules | `(tactic| k_mem) => `(tactic| first | exact List.mem_cons_of_mem _ (by assumption) | exact List.mem_cons_of_mem _ (List.mem_cons_of_mem _ (List.mem_cons_of_mem _ (by assumption))) | assumption)
section
local macro_rules | `(tactic| walk_at "getMethod ref") => `(tactic| (k_here; (with_reducible show wpAny _ _ (getMethod (Value.ref _) (Str.ofString "values") _) _ _ _); k_dflt (refine kdl_method (knd := PySem.intKind _ _) PySem.F.slot_dict_values PySem.F.type_dict_values (by k_asm) (by k_mem) (by assumption) ?_)))
local macro_rules | `(tactic| walk_at "call builtin:dict.values") => `(tactic| (k_here; (with_reducible show wpAny _ _ (call (Value.builtin "dict.values") [Value.ref _]) _ _ _); k_dflt (refine kdl_view_values (knd := PySem.intKind _ _) (by k_asm) (by k_asm) (by k_mem) (by assumption) (by assumption) ?_); intro D' h' F' N' l1))
local macro_rules | `(tactic| walk_at "compareOp In") => `(tactic| (refine stop_here ?_))

theorem c3_spec {prog : Program} {w : World} {p : Program} {loose : List Str} {mean : ExcName → Option Value} {mg mb : Str → Option Value} {scope : Scope} {e : PySem.Expr} (hsc : lawScope = some scope) (he : c3 = some e)
    (fa : Addr) (cd : Value) (base h₀ : Heap) (L : Addr) (m : Str → Option Value) (s : Shared) (news : List (Addr × Obj)) (Q E : Value → Shared → Prop)
    (c : Nat) (ot : Obj) (D0 : Nat) (od : Obj) (kvs : List (Int × Value))
    (B : Below callerA base [] h₀) (F : Fr h₀ L s.heap m) (X : (lawTop.heap_39 w.params).In h₀) (N : News h₀ L s.heap news) (T : Top p loose mean mg mb h₀)
    (mt : (L + 1 + 1 + 1, ot) ∈ news) (dt : ot.data = .cell (some (.ref D0))) (ht : TableOk prog w D0 od kvs c news)
    (hret : ∀ (r : Nat) (h' : Heap) (tk' : Nat), Fr h₀ L h' m → News h₀ L h' ((r, LCg.lst []) :: news) → (∀ q ∈ news, q.1 < r) → Q (.ref r) { s with heap := h', toks := tk' }) :
    wpAny (model prog w) (callerA.deeper (envOfC (Str.ofString "law") scope L fa cd)) (eval e (envOfC (Str.ofString "law") scope L fa cd)) Q E s := by
  have hf : PySem.Challenge.rw_gb0005_01 = PySem.Challenge.rw_gb0005_01 ∧ lawTop.heap_39 = lawTop.heap_39 := by
    k_fill
    exact ⟨rfl, rfl⟩
  clear hf
  w_top on
  conv at hsc => lhs; whnf
  conv at he => lhs; whnf
  obtain rfl := Option.some.inj hsc
  obtain rfl := Option.some.inj he
  have hd0 := ht.is
  have hd1 := ht.mem
  have hd2 := ht.low
  have hd3 := ht.size
  obtain ⟨dep, hdep⟩ := dict_ep ht.is
  refine comp_eval F (by with_unfolding_all rfl) (by decide) rfl (by decide) ?_
  k_steps
  refine go_on ?_
  rename News _ _ _ ((_, { cls := .type "dict_values", data := _ }) :: _) => NV
  rename ∀ q ∈ news, _ => lV
  refine iter_valsK (d := D0) (v := _) hdep (by k_asm) NV (.tail _ hd1) (.head _) rfl rfl fun I oI h2 hoI lI F2 N2 => ?_
  refine ⟨_, F2, N2, fun C D oC h3 tk3 F3 N3 hoC hCD lC lD => ?_⟩
  have hIC : I ≠ C := Nat.ne_of_lt (lC (I, _) (.head _))
  have hID : I ≠ D := Nat.ne_of_lt (lD (I, _) (.head _))
  refine comp1K (news := news) (TurnK.vals rfl rfl rfl rfl D0 hdep) (J := fun i ys news' => ys = [] ∧ news' = news) (own := [(I, oI)]) F3 (fun p hp => N3 p (re4v p hp)) hoC ?off hCD ?offO ⟨_, rfl, hoI⟩ ⟨rfl, rfl⟩ (fun j ys n l h hl => hl _ (by rw [h.2]; exact hd1)) (fun j ys n h => by rw [h.1]; exact Nat.zero_le _) ?body ?fin
  case off => exact fun p hp => ⟨Nat.ne_of_lt (lC p (.tail _ (.tail _ hp))), Nat.ne_of_lt (lD p (.tail _ (.tail _ hp)))⟩
  case offO => exact fun a ha => by rw [List.mem_singleton.mp ha]; exact ⟨hIC, hID, fun q hq => Nat.ne_of_lt (lI q (.tail _ hq))⟩
  case fin =>
    rintro ys news h4 tk4 ⟨rfl, rfl⟩ F4 N4 off4
    exact hret D _ _ F4 N4 fun q hq => lD q (.tail _ (.tail _ hq))
  case body =>
    rintro i ys own' oC₂ m₂ news' h4 tk4 E' hi ⟨rfl, rfl⟩ ⟨k, v, hkv, hx⟩ _ hn hadr F4 N4 off4 offA
    obtain ⟨r1, vs1, ep1, l1, hv1, hm1, hi1⟩ := ht.all _ (List.mem_of_getElem? hkv)
    dsimp only at hv1
    subst hv1
    obtain ⟨oI2, rfl⟩ := own_one hadr
    dsimp only [List.cons_append, List.nil_append] at N4
    refine wpAny_tests_one ?_
    k_steps
    refine go_on ?_
    refine SeqAt.in_listAt (fun _ => false) (News.isList N4 (.tail _ (.tail _ (.tail _ hm1)))) (none_eq hi1) ?_
    rw [none_any]
    k_steps
    refine TurnEnd.intro F4 N4 news' (fun p hp => hp) (fun p hp => List.forall_mem_cons.mpr ⟨offA I (by exact .head _) p hp, List.forall_mem_cons.mpr ⟨(off4 p hp).1, List.forall_mem_cons.mpr ⟨(off4 p hp).2, fun _ h => nomatch h⟩⟩⟩) ⟨rfl, rfl⟩
end
-- part L4

theorem row_pascal (k i : Nat) (hk : 2 ≤ k) (hi : i < 12) : (row k).getD (1 + (i : Int)).toNat 0 = (row k).getD (1 + (i : Int) - 1).toNat 0 + (row (k - 1)).getD (1 + (i : Int) - 1).toNat 0 := by
  have w1 := wid_pos k
  have w2 := wid_pos (k - 1)
  rw [show (1 + (i : Int)).toNat = i + 1 by omega, show (1 + (i : Int) - 1).toNat = i by omega, row_get _ _ (by omega), row_get _ _ (by omega), row_get _ _ (by omega)]
  obtain ⟨j, rfl⟩ : ∃ j, k = j + 1 := ⟨k - 1, by omega⟩
  show ((ch i j + ch i (j + 1) : Nat) : Int) = _
  rw [Nat.add_sub_cancel]
  omega

section

theorem c4_spec {prog : Program} {w : World} {p : Program} {loose : List Str} {mean : ExcName → Option Value} {mg mb : Str → Option Value} {scope : Scope} {e : PySem.Expr} (hsc : lawScope = some scope) (he : c4 = some e)
    (fa : Addr) (cd : Value) (base h₀ : Heap) (L : Addr) (m : Str → Option Value) (s : Shared) (news : List (Addr × Obj)) (Q E : Value → Shared → Prop)
    (c k : Nat) (tk : Tok) (ok ot : Obj) (D0 : Nat) (od : Obj) (kvs : List (Int × Value))
    (B : Below callerA base [] h₀) (F : Fr h₀ L s.heap m) (X : (lawTop.heap_39 w.params).In h₀) (N : News h₀ L s.heap news) (T : Top p loose mean mg mb h₀)
    (mk : (L + 1 + 1, ok) ∈ news) (dk : ok.data = .cell (some (.int (k : Nat) tk))) (mt : (L + 1 + 1 + 1, ot) ∈ news) (dt : ot.data = .cell (some (.ref D0)))
    (ht : TableOk prog w D0 od kvs c news) (hk : 2 ≤ k) (hkc : k ≤ c) (hc : c ≤ 3)
    (hret : ∀ (r : Nat) (h' : Heap) (tk' : Nat), Fr h₀ L h' m → News h₀ L h' ((r, LCg.lst []) :: news) → (∀ q ∈ news, q.1 < r) → Q (.ref r) { s with heap := h', toks := tk' }) :
    wpAny (model prog w) (callerA.deeper (envOfC (Str.ofString "law") scope L fa cd)) (eval e (envOfC (Str.ofString "law") scope L fa cd)) Q E s := by
  have hf : PySem.Challenge.rw_gb0005_01 = PySem.Challenge.rw_gb0005_01 ∧ lawTop.heap_39 = lawTop.heap_39 := by
    k_fill
    exact ⟨rfl, rfl⟩
  clear hf
  w_top on
  conv at hsc => lhs; whnf
  conv at he => lhs; whnf
  obtain rfl := Option.some.inj hsc
  obtain rfl := Option.some.inj he
  refine comp_eval F (by with_unfolding_all rfl) (by decide) rfl (by decide) ?_
  k_steps
  refine go_on ?_
  rename IsRange _ _ _ _ _ _ _ _ => hR
  refine iter_rangeK (n := 12) (by k_asm) (by k_asm) hR (by decide +kernel) (by decide +kernel) ?_
  intro I h2 lI F2 N2
  refine ⟨_, F2, N2, fun C D oC h3 tk3 F3 N3 hoC hCD lC lD => ?_⟩
  have hIC : I ≠ C := Nat.ne_of_lt (lC (I, _) (.head _))
  have hID : I ≠ D := Nat.ne_of_lt (lD (I, _) (.head _))
  refine comp1K (news := news) (TurnK.range rfl rfl rfl rfl 1 12) (J := fun i ys news' => ys = [] ∧ news' = news) (own := [(I, itR 1 ((12 : Nat) : Int))]) F3 (fun p hp => N3 p (re3' p hp)) hoC ?off hCD ?offO ⟨_, rfl, Nat.zero_le _, rfl⟩ ⟨rfl, rfl⟩ (fun _ _ _ _ _ _ => trivial) (fun j ys n h => by rw [h.1]; exact Nat.zero_le _) ?body ?fin
  case off => exact fun p hp => ⟨Nat.ne_of_lt (lC p (.tail _ hp)), Nat.ne_of_lt (lD p (.tail _ hp))⟩
  case offO => exact fun a ha => by rw [List.mem_singleton.mp ha]; exact ⟨hIC, hID, fun q hq => Nat.ne_of_lt (lI q hq)⟩
  case fin =>
    rintro ys news h4 tk4 ⟨rfl, rfl⟩ F4 N4 off4
    exact hret D _ _ F4 N4 fun q hq => lD q (.tail _ hq)
  case body =>
    rintro i ys own' oC₂ m₂ news' h4 tk4 E' hi ⟨rfl, rfl⟩ ⟨t, hx⟩ _ hn hadr F4 N4 off4 offA
    obtain ⟨r1, vs1, ep1, hv1, hm1, hi1⟩ := ht.rows k (by omega) hkc
    obtain ⟨r2, vs2, ep2, hv2, hm2, hi2⟩ := ht.rows (k - 1) (by omega) (by omega)
    have hd0 := ht.is
    have hd1 := ht.mem
    have w1 := wid_pos k
    have w2 := wid_pos (k - 1)
    have hkk : (k : Int) - 1 = ((k - 1 : Nat) : Int) := by omega
    rw [← hkk] at hv2
    obtain ⟨oI, rfl⟩ : ∃ oI, own' = [(I, oI)] := by
      cases own' with
      | nil => exact absurd hadr (by simp)
      | cons a l => cases l with
        | nil => obtain ⟨a1, a2⟩ := a; simp only [List.map_cons, List.map_nil, List.cons.injEq, and_true] at hadr; exact ⟨a2, by rw [hadr]⟩
        | cons b l => exact absurd hadr (by simp)
    dsimp only [List.cons_append, List.nil_append] at N4
    refine wpAny_tests_one ?_
    k_steps
    · rename _ ≠ _ => hne
      exact absurd (row_pascal k i hk hi) hne
    · refine TurnEnd.intro F4 N4 news' (fun p hp => hp) (fun p hp => List.forall_mem_cons.mpr ⟨offA I (by exact .head _) p hp, List.forall_mem_cons.mpr ⟨(off4 p hp).1, List.forall_mem_cons.mpr ⟨(off4 p hp).2, fun _ h => nomatch h⟩⟩⟩) ⟨rfl, rfl⟩
end
-- part L6

theorem tell_facts : ∀ c : Fin 4, ∀ x : Fin 40, (tell c.1 x.1).length = c.1 ∧ (∀ k : Fin 3, 0 < k.1 → k.1 < c.1 → (tell c.1 x.1).getD k.1 0 < (tell c.1 x.1).getD (k.1 - 1) 0) ∧ (∀ k : Fin 3, k.1 < c.1 → 0 ≤ (tell c.1 x.1).getD k.1 0 ∧ (tell c.1 x.1).getD k.1 0 < wid (c.1 - k.1)) := by decide +kernel
local macro_rules | `(tactic| walk_at "subscriptTail") => `(tactic| (k_here; (with_reducible show wpAny _ _ (subscriptTail _ _ (Value.ref _) (Value.int _ _)) _ _ _); k_dflt (refine' item_anyK ?k1 ?k2 ?k3 ?k4 ?k5 ?_ ?k6; (case k1 => exact News.isList (by k_asm) (by k_mem)); (case k2 => assumption); (case k3 => omega); (case k4 => first | omega | (simp only [row_len]; omega)); (case k5 => omega); (case k6 => with_unfolding_all rfl); k_whole); intro _))
section

theorem c6_spec {prog : Program} {w : World} {p : Program} {loose : List Str} {mean : ExcName → Option Value} {mg mb : Str → Option Value} {scope : Scope} {e : PySem.Expr} (hsc : lawScope = some scope) (he : c6 = some e)
    (fa : Addr) (cd : Value) (base h₀ : Heap) (L : Addr) (m : Str → Option Value) (s : Shared) (news : List (Addr × Obj)) (Q E : Value → Shared → Prop)
    (c x : Nat) (tc : Tok) (oc op : Obj) (pr : Nat) (ps : List Value) (ep : Nat)
    (B : Below callerA base [] h₀) (F : Fr h₀ L s.heap m) (X : (lawTop.heap_39 w.params).In h₀) (N : News h₀ L s.heap news) (T : Top p loose mean mg mb h₀)
    (mc : (L + 1, oc) ∈ news) (dc : oc.data = .cell (some (.int (c : Nat) tc))) (mp : (L + 1 + 1 + 1 + 1 + 1, op) ∈ news) (dp : op.data = .cell (some (.ref pr))) (mr : (pr, W.listOf ps.toArray ep) ∈ news) (hi : IntsAre ps (tell c x))
    (hx : x < 40) (hc0 : 0 < c) (hc : c ≤ 3)
    (hret : ∀ (r : Nat) (h' : Heap) (tk' : Nat), Fr h₀ L h' m → News h₀ L h' ((r, LCg.lst []) :: news) → (∀ q ∈ news, q.1 < r) → Q (.ref r) { s with heap := h', toks := tk' }) :
    wpAny (model prog w) (callerA.deeper (envOfC (Str.ofString "law") scope L fa cd)) (eval e (envOfC (Str.ofString "law") scope L fa cd)) Q E s := by
  have hf : PySem.Challenge.rw_gb0005_01 = PySem.Challenge.rw_gb0005_01 ∧ lawTop.heap_39 = lawTop.heap_39 := by
    k_fill
    exact ⟨rfl, rfl⟩
  clear hf
  w_top on
  conv at hsc => lhs; whnf
  conv at he => lhs; whnf
  obtain rfl := Option.some.inj hsc
  obtain rfl := Option.some.inj he
  refine comp_eval F (by with_unfolding_all rfl) (by decide) rfl (by decide) ?_
  have htf := tell_facts ⟨c, by omega⟩ ⟨x, hx⟩
  have htl : (tell c x).length = c := htf.1
  have hdec : ∀ i, i < c - 1 → (tell c x).getD (i + 1) 0 < (tell c x).getD i 0 := fun i hi => by
    have := htf.2.1 ⟨i + 1, by omega⟩ (by show 0 < i + 1; omega) (by show i + 1 < c; omega)
    exact this
  k_steps
  refine go_on ?_
  rename IsRange _ _ _ _ _ _ _ _ => hR
  refine iter_rangeK (n := c - 1) (by k_asm) (by k_asm) hR (small_one (by omega) (by omega) (by omega) (by omega)) (by rw [rangeSize_nat]; omega) ?_
  intro I h2 lI F2 N2
  refine ⟨_, F2, N2, fun C D oC h3 tk3 F3 N3 hoC hCD lC lD => ?_⟩
  have hIC : I ≠ C := Nat.ne_of_lt (lC (I, _) (.head _))
  have hID : I ≠ D := Nat.ne_of_lt (lD (I, _) (.head _))
  refine comp1K (news := news) (TurnK.range rfl rfl rfl rfl 1 (c - 1)) (J := fun i ys news' => ys = [] ∧ news' = news) (own := [(I, itR 1 ((c - 1 : Nat) : Int))]) F3 (fun p hp => N3 p (re3' p hp)) hoC ?off hCD ?offO ⟨_, rfl, Nat.zero_le _, rfl⟩ ⟨rfl, rfl⟩ (fun _ _ _ _ _ _ => trivial) (fun j ys n h => by rw [h.1]; exact Nat.zero_le _) ?body ?fin
  case off => exact fun p hp => ⟨Nat.ne_of_lt (lC p (.tail _ hp)), Nat.ne_of_lt (lD p (.tail _ hp))⟩
  case offO => exact fun a ha => by rw [List.mem_singleton.mp ha]; exact ⟨hIC, hID, fun q hq => Nat.ne_of_lt (lI q hq)⟩
  case fin =>
    rintro ys news h4 tk4 ⟨rfl, rfl⟩ F4 N4 off4
    exact hret D _ _ F4 N4 fun q hq => lD q (.tail _ hq)
  case body =>
    rintro i ys own' oC₂ m₂ news' h4 tk4 E' hi9 ⟨rfl, rfl⟩ ⟨t, hx9⟩ _ hn hadr F4 N4 off4 offA
    obtain ⟨oI, rfl⟩ := own_one hadr
    dsimp only [List.cons_append, List.nil_append] at N4
    refine wpAny_tests_one ?_
    k_steps
    · rename _ ≤ _ => hle
      have := hdec i hi9
      rw [show (1 + (i : Int) - 1).toNat = i by omega, show (1 + (i : Int)).toNat = i + 1 by omega] at hle
      omega
    · refine TurnEnd.intro F4 N4 news' (fun p hp => hp) (fun p hp => List.forall_mem_cons.mpr ⟨offA I (by exact .head _) p hp, List.forall_mem_cons.mpr ⟨(off4 p hp).1, List.forall_mem_cons.mpr ⟨(off4 p hp).2, fun _ h => nomatch h⟩⟩⟩) ⟨rfl, rfl⟩
end
-- part LS

theorem re4e {a b c d : Addr × Obj} {l : List (Addr × Obj)} : ∀ p ∈ a :: b :: c :: d :: l, p ∈ c :: d :: a :: b :: l := by grind
/-- what the places tell, one by one -/
def vals (c : Nat) (pls : List Int) : List Int := (List.range c).map fun i => (row (c - i)).getD (pls.getD i 0).toNat 0
theorem vals_len (c : Nat) (pls : List Int) : (vals c pls).length = c := by unfold vals; rw [List.length_map, List.length_range]
theorem vals_get (c : Nat) (pls : List Int) (i : Nat) (h : i < c) : (vals c pls)[i]'(by rw [vals_len]; exact h) = (row (c - i)).getD (pls.getD i 0).toNat 0 := by
  unfold vals
  rw [List.getElem_map, List.getElem_range]
theorem own_two {I J : Addr} {a b : Obj} {own' : List (Addr × Obj)} (hadr : own'.map (·.1) = [(I, a), (J, b)].map (·.1)) : ∃ oI oJ, own' = [(I, oI), (J, oJ)] := by
  match own', hadr with
  | [], h => exact absurd h (by simp)
  | [_], h => exact absurd h (by simp)
  | [(x, ox), (y, oy)], h =>
    simp only [List.map_cons, List.map_nil, List.cons.injEq, and_true] at h
    exact ⟨ox, oy, by rw [h.1, h.2]⟩
  | _ :: _ :: _ :: _, h => exact absurd h (by simp)

section
local macro_rules | `(tactic| walk_at "call type:enumerate") => `(tactic| (refine stop_here ?_))
local macro_rules | `(tactic| k_mem) => `(tactic| first | exact List.mem_cons_of_mem _ (by assumption) | exact List.mem_cons_of_mem _ (List.mem_cons_of_mem _ (List.mem_cons_of_mem _ (List.mem_cons_of_mem _ (by assumption)))) | assumption)

theorem cS_spec {prog : Program} {w : World} {p : Program} {loose : List Str} {mean : ExcName → Option Value} {mg mb : Str → Option Value} {scope : Scope} {e : PySem.Expr} (hsc : lawScope = some scope) (he : cS = some e)
    (fa : Addr) (cd : Value) (base h₀ : Heap) (L : Addr) (m : Str → Option Value) (s : Shared) (news : List (Addr × Obj)) (Q E : Value → Shared → Prop)
    (c : Nat) (tc : Tok) (oc op ot : Obj) (pr : Nat) (ps : List Value) (ep : Nat) (pls : List Int) (D0 : Nat) (od : Obj) (kvs : List (Int × Value))
    (B : Below callerA base [] h₀) (F : Fr h₀ L s.heap m) (X : (lawTop.heap_39 w.params).In h₀) (N : News h₀ L s.heap news) (T : Top p loose mean mg mb h₀)
    (mc : (L + 1, oc) ∈ news) (dc : oc.data = .cell (some (.int (c : Nat) tc))) (mt : (L + 1 + 1 + 1, ot) ∈ news) (dt : ot.data = .cell (some (.ref D0))) (mp : (L + 1 + 1 + 1 + 1 + 1, op) ∈ news) (dp : op.data = .cell (some (.ref pr)))
    (mr : (pr, W.listOf ps.toArray ep) ∈ news) (hi : IntsAre ps pls) (hlen : pls.length = c) (hpl : ∀ i, i < c → 0 ≤ pls.getD i 0 ∧ pls.getD i 0 < wid (c - i))
    (ht : TableOk prog w D0 od kvs c news) (hc0 : 0 < c) (hc : c ≤ 3)
    (hret : ∀ (r : Nat) (ys : List Value) (h' : Heap) (tk' : Nat), Fr h₀ L h' m → News h₀ L h' ((r, LCg.lst ys) :: news) → (∀ q ∈ news, q.1 < r) → IntsAre ys (vals c pls) → Q (.ref r) { s with heap := h', toks := tk' }) :
    wpAny (model prog w) (callerA.deeper (envOfC (Str.ofString "law") scope L fa cd)) (eval e (envOfC (Str.ofString "law") scope L fa cd)) Q E s := by
  have hf : PySem.Challenge.rw_gb0005_01 = PySem.Challenge.rw_gb0005_01 ∧ lawTop.heap_39 = lawTop.heap_39 := by
    k_fill
    exact ⟨rfl, rfl⟩
  clear hf
  w_top on
  conv at hsc => lhs; whnf
  conv at he => lhs; whnf
  obtain rfl := Option.some.inj hsc
  obtain rfl := Option.some.inj he
  have hpsl : ps.length = c := by rw [hi.length, hlen]
  refine comp_eval F (by with_unfolding_all rfl) (by decide) rfl (by decide) ?_
  k_steps
  refine go_on ?_
  refine enum_newK (by k_asm) (by k_asm) mr fun I J0 oJ h2 hJ hIJ lI lJ F2 N2 => ?_
  refine wpAny_pyIter_enum (N2 _ (.head _)).1 ?_
  refine ⟨_, F2, N2, fun C D oC h3 tk3 F3 N3 hoC hCD lC lD => ?_⟩
  have hIC : I ≠ C := Nat.ne_of_lt (lC (I, _) (.head _))
  have hID : I ≠ D := Nat.ne_of_lt (lD (I, _) (.head _))
  have hJC : J0 ≠ C := Nat.ne_of_lt (lC (J0, _) (.tail _ (.head _)))
  have hJD : J0 ≠ D := Nat.ne_of_lt (lD (J0, _) (.tail _ (.head _)))
  refine comp1K (news := news) (TurnK.enum rfl rfl rfl rfl (by decide) rfl hIJ pr ps ep) (J := fun i ys news' => IntsAre ys ((vals c pls).take i) ∧ news' = news) (own := [(I, enumO J0 0 .none), (J0, oJ)]) F3 (fun p hp => N3 p (re4e p hp)) hoC ?off hCD ?offO ⟨oJ, .none, rfl, hJ⟩ ⟨.nil, rfl⟩ ?hS ?hsz ?body ?fin
  case off => exact fun p hp => ⟨Nat.ne_of_lt (lC p (.tail _ (.tail _ hp))), Nat.ne_of_lt (lD p (.tail _ (.tail _ hp)))⟩
  case offO => exact List.forall_mem_cons.mpr ⟨⟨hIC, hID, fun q hq => Nat.ne_of_lt (lI q hq)⟩, List.forall_mem_cons.mpr ⟨⟨hJC, hJD, fun q hq => Nat.ne_of_lt (lJ q hq)⟩, fun _ h => nomatch h⟩⟩
  case hS =>
    rintro j ys news' l ⟨_, rfl⟩ hl
    exact hl _ mr
  case hsz =>
    rintro j ys news' ⟨h, _⟩
    rw [h.length, List.length_take, vals_len, sizeLine_eq]
    omega
  case fin =>
    rintro ys news h4 tk4 ⟨h, rfl⟩ F4 N4 off4
    rw [hpsl, List.take_of_length_le (by rw [vals_len]; exact Nat.le_refl _)] at h
    exact hret D ys _ _ F4 N4 (fun q hq => lD q (.tail _ (.tail _ hq))) h
  case body =>
    rintro i ys own' oC₂ m₂ news' h4 tk4 E' hi9 ⟨hys, rfl⟩ ⟨t, v, hv9, hx1, hx2⟩ _ hn hadr F4 N4 off4 offA
    obtain ⟨oI, oJ2, rfl⟩ := own_two hadr
    dsimp only [List.cons_append, List.nil_append] at N4
    obtain ⟨t2, rfl⟩ := hi.int_at i v hv9
    rw [hpsl] at hi9
    obtain ⟨r1, vs1, ep1, hv1, hm1, hi1⟩ := ht.rows (c - i) (by omega) (by omega)
    have hd0 := ht.is
    have hd1 := ht.mem
    have hp := hpl i hi9
    have w1 := wid_le (c - i)
    rw [show ((c - i : Nat) : Int) = (c : Int) - (i : Int) by omega] at hv1
    show wpAny _ _ (pure true) _ _ _
    refine wpAny_pure ?_
    rw [if_pos rfl]
    k_steps
    refine TurnEnd.intro F4 N4 news' (fun p hp => hp) (off_of fun p hp => ⟨offA I (by exact .head _) p hp, offA J0 (by exact .tail _ (.head _)) p hp, off4 p hp⟩) ⟨?_, rfl⟩
    rw [List.take_succ_eq_append_getElem (by rw [vals_len]; exact hi9), vals_get c pls i hi9]
    exact hys.append (.cons _ _ .nil)

theorem cT_spec {prog : Program} {w : World} {p : Program} {loose : List Str} {mean : ExcName → Option Value} {mg mb : Str → Option Value} {scope : Scope} {e : PySem.Expr} (hsc : lawScope = some scope) (he : cT = some e)
    (fa : Addr) (cd : Value) (base h₀ : Heap) (L : Addr) (m : Str → Option Value) (s : Shared) (news : List (Addr × Obj)) (Q E : Value → Shared → Prop)
    (c : Nat) (tc : Tok) (oc op ot : Obj) (pr : Nat) (ps : List Value) (ep : Nat) (pls : List Int) (D0 : Nat) (od : Obj) (kvs : List (Int × Value))
    (B : Below callerA base [] h₀) (F : Fr h₀ L s.heap m) (X : (lawTop.heap_39 w.params).In h₀) (N : News h₀ L s.heap news) (T : Top p loose mean mg mb h₀)
    (mc : (L + 1, oc) ∈ news) (dc : oc.data = .cell (some (.int (c : Nat) tc))) (mt : (L + 1 + 1 + 1, ot) ∈ news) (dt : ot.data = .cell (some (.ref D0))) (mp : (L + 1 + 1 + 1 + 1 + 1, op) ∈ news) (dp : op.data = .cell (some (.ref pr)))
    (mr : (pr, W.listOf ps.toArray ep) ∈ news) (hi : IntsAre ps pls) (hlen : pls.length = c) (hpl : ∀ i, i < c → 0 ≤ pls.getD i 0 ∧ pls.getD i 0 < wid (c - i))
    (ht : TableOk prog w D0 od kvs c news) (hc0 : 0 < c) (hc : c ≤ 3)
    (hret : ∀ (r : Nat) (ys : List Value) (h' : Heap) (tk' : Nat), Fr h₀ L h' m → News h₀ L h' ((r, LCg.lst ys) :: news) → (∀ q ∈ news, q.1 < r) → IntsAre ys (vals c pls) → Q (.ref r) { s with heap := h', toks := tk' }) :
    wpAny (model prog w) (callerA.deeper (envOfC (Str.ofString "law") scope L fa cd)) (eval e (envOfC (Str.ofString "law") scope L fa cd)) Q E s := by
  have hf : PySem.Challenge.rw_gb0005_01 = PySem.Challenge.rw_gb0005_01 ∧ lawTop.heap_39 = lawTop.heap_39 := by
    k_fill
    exact ⟨rfl, rfl⟩
  clear hf
  w_top on
  conv at hsc => lhs; whnf
  conv at he => lhs; whnf
  obtain rfl := Option.some.inj hsc
  obtain rfl := Option.some.inj he
  have hpsl : ps.length = c := by rw [hi.length, hlen]
  refine comp_eval F (by with_unfolding_all rfl) (by decide) rfl (by decide) ?_
  k_steps
  refine go_on ?_
  refine enum_newK (by k_asm) (by k_asm) mr fun I J0 oJ h2 hJ hIJ lI lJ F2 N2 => ?_
  refine wpAny_pyIter_enum (N2 _ (.head _)).1 ?_
  refine ⟨_, F2, N2, fun C D oC h3 tk3 F3 N3 hoC hCD lC lD => ?_⟩
  have hIC : I ≠ C := Nat.ne_of_lt (lC (I, _) (.head _))
  have hID : I ≠ D := Nat.ne_of_lt (lD (I, _) (.head _))
  have hJC : J0 ≠ C := Nat.ne_of_lt (lC (J0, _) (.tail _ (.head _)))
  have hJD : J0 ≠ D := Nat.ne_of_lt (lD (J0, _) (.tail _ (.head _)))
  refine comp1K (news := news) (TurnK.enum rfl rfl rfl rfl (by decide) rfl hIJ pr ps ep) (J := fun i ys news' => IntsAre ys ((vals c pls).take i) ∧ news' = news) (own := [(I, enumO J0 0 .none), (J0, oJ)]) F3 (fun p hp => N3 p (re4e p hp)) hoC ?off hCD ?offO ⟨oJ, .none, rfl, hJ⟩ ⟨.nil, rfl⟩ ?hS ?hsz ?body ?fin
  case off => exact fun p hp => ⟨Nat.ne_of_lt (lC p (.tail _ (.tail _ hp))), Nat.ne_of_lt (lD p (.tail _ (.tail _ hp)))⟩
  case offO => exact List.forall_mem_cons.mpr ⟨⟨hIC, hID, fun q hq => Nat.ne_of_lt (lI q hq)⟩, List.forall_mem_cons.mpr ⟨⟨hJC, hJD, fun q hq => Nat.ne_of_lt (lJ q hq)⟩, fun _ h => nomatch h⟩⟩
  case hS =>
    rintro j ys news' l ⟨_, rfl⟩ hl
    exact hl _ mr
  case hsz =>
    rintro j ys news' ⟨h, _⟩
    rw [h.length, List.length_take, vals_len, sizeLine_eq]
    omega
  case fin =>
    rintro ys news h4 tk4 ⟨h, rfl⟩ F4 N4 off4
    rw [hpsl, List.take_of_length_le (by rw [vals_len]; exact Nat.le_refl _)] at h
    exact hret D ys _ _ F4 N4 (fun q hq => lD q (.tail _ (.tail _ hq))) h
  case body =>
    rintro i ys own' oC₂ m₂ news' h4 tk4 E' hi9 ⟨hys, rfl⟩ ⟨t, v, hv9, hx1, hx2⟩ _ hn hadr F4 N4 off4 offA
    obtain ⟨oI, oJ2, rfl⟩ := own_two hadr
    dsimp only [List.cons_append, List.nil_append] at N4
    obtain ⟨t2, rfl⟩ := hi.int_at i v hv9
    rw [hpsl] at hi9
    obtain ⟨r1, vs1, ep1, hv1, hm1, hi1⟩ := ht.rows (c - i) (by omega) (by omega)
    have hd0 := ht.is
    have hd1 := ht.mem
    have hp := hpl i hi9
    have w1 := wid_le (c - i)
    rw [show ((c - i : Nat) : Int) = (c : Int) - (i : Int) by omega] at hv1
    show wpAny _ _ (pure true) _ _ _
    refine wpAny_pure ?_
    rw [if_pos rfl]
    k_steps
    refine TurnEnd.intro F4 N4 news' (fun p hp => hp) (off_of fun p hp => ⟨offA I (by exact .head _) p hp, offA J0 (by exact .tail _ (.head _)) p hp, off4 p hp⟩) ⟨?_, rfl⟩
    rw [List.take_succ_eq_append_getElem (by rw [vals_len]; exact hi9), vals_get c pls i hi9]
    exact hys.append (.cons _ _ .nil)
end
-- part L7

theorem ahead_trans : ∀ {a b c : List Int}, ahead a b = true → ahead b c = true → ahead a c = true
  | [], [], _, h, _ => by simp [ahead] at h
  | [], _ :: _, [], _, h => by simp [ahead] at h
  | [], _ :: _, _ :: _, _, _ => by simp [ahead]
  | _ :: _, [], _, h, _ => by simp [ahead] at h
  | _ :: _, _ :: _, [], _, h => by simp [ahead] at h
  | x :: a, y :: b, z :: c, h1, h2 => by
    rw [ahead] at h1 h2 ⊢
    by_cases e1 : x = y
    · subst e1
      rw [beq_self_eq_true, if_pos rfl] at h1
      by_cases e2 : x = z
      · subst e2
        rw [beq_self_eq_true, if_pos rfl] at h2 ⊢
        exact ahead_trans h1 h2
      · rw [beq_eq_false_iff_ne.mpr e2, if_neg Bool.false_ne_true] at h2 ⊢
        exact h2
    · rw [beq_eq_false_iff_ne.mpr e1, if_neg Bool.false_ne_true] at h1
      have h1 := of_decide_eq_true h1
      by_cases e2 : y = z
      · subst e2
        rw [beq_eq_false_iff_ne.mpr e1, if_neg Bool.false_ne_true]
        exact decide_eq_true h1
      · rw [beq_eq_false_iff_ne.mpr e2, if_neg Bool.false_ne_true] at h2
        have h2 := of_decide_eq_true h2
        rw [beq_eq_false_iff_ne.mpr (by omega), if_neg Bool.false_ne_true]
        exact decide_eq_true (by omega)
theorem ahead_irrefl : ∀ a : List Int, ahead a a = false
  | [] => rfl
  | x :: a => by rw [ahead, beq_self_eq_true, if_pos rfl]; exact ahead_irrefl a
theorem tell_next : ∀ c : Fin 3, ∀ x : Fin 39, ahead (tell (c.1 + 1) x.1) (tell (c.1 + 1) (x.1 + 1)) = true := by decide +kernel
theorem tell_lt (c : Nat) (h0 : 0 < c) (h3 : c ≤ 3) (a : Nat) : ∀ d, a + d + 1 < 40 → ahead (tell c a) (tell c (a + d + 1)) = true
  | 0, h => by
    have := tell_next ⟨c - 1, by omega⟩ ⟨a, by omega⟩
    rw [show (⟨c - 1, by omega⟩ : Fin 3).1 + 1 = c by show c - 1 + 1 = c; omega] at this
    exact this
  | d + 1, h => by
    refine ahead_trans (tell_lt c h0 h3 a d (by omega)) ?_
    have := tell_next ⟨c - 1, by omega⟩ ⟨a + d + 1, by omega⟩
    rw [show (⟨c - 1, by omega⟩ : Fin 3).1 + 1 = c by show c - 1 + 1 = c; omega] at this
    exact this
theorem tell_order (c : Nat) (h0 : 0 < c) (h3 : c ≤ 3) (a b : Nat) (ha : a < 40) (hb : b < 40) : ahead (tell c a) (tell c b) = decide (a < b) := by
  rcases Nat.lt_trichotomy a b with h | h | h
  · rw [decide_eq_true h]
    have := tell_lt c h0 h3 a (b - a - 1) (by omega)
    rw [show a + (b - a - 1) + 1 = b by omega] at this
    exact this
  · subst h
    rw [ahead_irrefl, decide_eq_false (Nat.lt_irrefl _)]
  · rw [decide_eq_false (by omega)]
    have := tell_lt c h0 h3 b (a - b - 1) (by omega)
    rw [show b + (a - b - 1) + 1 = a by omega] at this
    cases e : ahead (tell c a) (tell c b) with
    | false => rfl
    | true =>
      have q := ahead_trans this e
      rw [ahead_irrefl] at q
      cases q
theorem tell_len (c : Nat) : ∀ x, (tell c x).length = c := by
  induction c with
  | zero => intro x; rfl
  | succ c ih => intro x; rw [tell, List.length_cons, ih]

inductive ToldAre (c : Nat) (news : List (Addr × Obj)) : List Value → List Nat → Prop
  | nil : ToldAre c news [] []
  | cons {t p n nn ep : Nat} {tk : Tok} {ps vs : List Value} {ns : List Nat} : (t, tupO (.int (n : Nat) tk) (.ref p) nn) ∈ news → (p, W.listOf ps.toArray ep) ∈ news → IntsAre ps (tell c n) → n < 40 → ToldAre c news vs ns → ToldAre c news (.ref t :: vs) (n :: ns)
theorem ToldAre.sub {c : Nat} {n1 n2 : List (Addr × Obj)} {vs : List Value} {ns : List Nat} (h : ToldAre c n1 vs ns) (hs : ∀ p ∈ n1, p ∈ n2) : ToldAre c n2 vs ns := by
  induction h with
  | nil => exact .nil
  | cons h1 h2 h3 h4 _ ih => exact .cons (hs _ h1) (hs _ h2) h3 h4 ih
theorem ToldAre.append {c : Nat} {n1 : List (Addr × Obj)} {vs ws : List Value} {ns ms : List Nat} (h : ToldAre c n1 vs ns) (h' : ToldAre c n1 ws ms) : ToldAre c n1 (vs ++ ws) (ns ++ ms) := by
  induction h with
  | nil => exact h'
  | cons h1 h2 h3 h4 _ ih => exact .cons h1 h2 h3 h4 ih
theorem ToldAre.length {c : Nat} {n1 : List (Addr × Obj)} {vs : List Value} {ns : List Nat} (h : ToldAre c n1 vs ns) : vs.length = ns.length := by
  induction h with
  | nil => rfl
  | cons h1 h2 h3 h4 _ ih => rw [List.length_cons, List.length_cons, ih]
inductive ToldAt (c : Nat) (n1 : List (Addr × Obj)) (v : Value) : Prop
  | mk (t p n nn ep : Nat) (tk : Tok) (ps : List Value) (_ : v = .ref t) (_ : (t, tupO (.int (n : Nat) tk) (.ref p) nn) ∈ n1) (_ : (p, W.listOf ps.toArray ep) ∈ n1) (_ : IntsAre ps (tell c n)) (_ : n < 40)
inductive TupAt (c : Nat) (n1 : List (Addr × Obj)) (a b : Value) : Prop
  | mk (x p : Nat) (tk : Tok) (ps : List Value) (ep : Nat) (_ : a = .int (x : Nat) tk) (_ : b = .ref p) (_ : (p, W.listOf ps.toArray ep) ∈ n1) (_ : IntsAre ps (tell c x)) (_ : x < 40)
theorem ToldAre.at {c : Nat} {n1 : List (Addr × Obj)} {vs : List Value} {ns : List Nat} (h : ToldAre c n1 vs ns) : ∀ (i : Nat) (v : Value), vs[i]? = some v → ToldAt c n1 v := by
  induction h with
  | nil => intro i v e; simp at e
  | cons h1 h2 h3 h4 _ ih =>
    intro i v e
    cases i with
    | zero => rw [List.getElem?_cons_zero] at e; obtain rfl := Option.some.inj e; exact ⟨_, _, _, _, _, _, _, rfl, h1, h2, h3, h4⟩
    | succ i => rw [List.getElem?_cons_succ] at e; exact ih i v e
theorem ToldAre.tup {c : Nat} {n1 : List (Addr × Obj)} {vs : List Value} {ns : List Nat} {h₀ h : Heap} {L : Addr} (ht : ToldAre c n1 vs ns) (N : News h₀ L h n1) (i : Nat) (T : Addr) (a b : Value) (n : Nat) (hv : vs[i]? = some (.ref T)) (hm : (T, tupO a b n) ∈ n1) :
    TupAt c n1 a b := by
  obtain ⟨t, p, x, nn, ep, tk, ps, e, h1, h2, h3, h4⟩ := ht.at i _ hv
  obtain rfl := Value.ref.inj e
  have hval : tupO (.int (x : Nat) tk) (.ref p) nn = tupO a b n := by
    have z1 := (N _ h1).1
    have z2 := (N _ hm).1
    exact Option.some.inj (z1.symm.trans z2)
  have hdat := congrArg Obj.data hval
  injection hdat with hdat _
  have hdat := congrArg Array.toList hdat
  injection hdat with ha hdat
  injection hdat with hb _
  exact ⟨x, p, tk, ps, ep, ha.symm, hb.symm, h2, h3, h4⟩
theorem IterK.weak {prog : Program} {w : World} {A : Around} {h₀ : Heap} {L I : Addr} {m : Str → Option Value} {St : Nat → Obj → Prop} {n : Nat} {P : Nat → Value → Prop} {S S' : List (Addr × Obj) → Prop} (h : IterK prog w A h₀ L m I St n P S) (hs : ∀ l, S' l → S l) : IterK prog w A h₀ L m I St n P S' where
  next := fun i s o rest Q E hi ho F N off hS k => h.next i s o rest Q E hi ho F N off (hs _ hS) k
  stop := fun s o rest Q E ho F N off hS k => h.stop s o rest Q E ho F N off (hs _ hS) k
  self := h.self

section
local macro_rules | `(tactic| walk_at "compareOp Lt ref ref") => `(tactic| (refine stop_here ?_))

theorem c7_spec {prog : Program} {w : World} {p : Program} {loose : List Str} {mean : ExcName → Option Value} {mg mb : Str → Option Value} {scope : Scope} {e : PySem.Expr} (hsc : lawScope = some scope) (he : c7 = some e)
    (fa : Addr) (cd : Value) (base h₀ : Heap) (L : Addr) (m : Str → Option Value) (s : Shared) (news : List (Addr × Obj)) (Q E : Value → Shared → Prop)
    (c : Nat) (ot : Obj) (tr : Nat) (tvs : List Value) (tep : Nat) (ns : List Nat)
    (B : Below callerA base [] h₀) (F : Fr h₀ L s.heap m) (X : (lawTop.heap_39 w.params).In h₀) (N : News h₀ L s.heap news) (T : Top p loose mean mg mb h₀)
    (mt : (L + 1 + 1 + 1 + 1, ot) ∈ news) (dt : ot.data = .cell (some (.ref tr))) (mr : (tr, W.listOf tvs.toArray tep) ∈ news) (ht : ToldAre c news tvs ns) (hc0 : 0 < c) (hc : c ≤ 3)
    (hret : ∀ (r : Nat) (h' : Heap) (tk' : Nat), Fr h₀ L h' m → News h₀ L h' ((r, LCg.lst []) :: news) → (∀ q ∈ news, q.1 < r) → Q (.ref r) { s with heap := h', toks := tk' }) :
    wpAny (model prog w) (callerA.deeper (envOfC (Str.ofString "law") scope L fa cd)) (eval e (envOfC (Str.ofString "law") scope L fa cd)) Q E s := by
  have hf : PySem.Challenge.rw_gb0005_01 = PySem.Challenge.rw_gb0005_01 ∧ lawTop.heap_39 = lawTop.heap_39 := by
    k_fill
    exact ⟨rfl, rfl⟩
  clear hf
  w_top on
  conv at hsc => lhs; whnf
  conv at he => lhs; whnf
  obtain rfl := Option.some.inj hsc
  obtain rfl := Option.some.inj he
  have hT : ∀ (l : List (Addr × Obj)) (T : Addr) (a b : Value), (∀ p ∈ news, p ∈ l) → (∃ nn, (T, tupO a b nn) ∈ news) → ∃ nn, (T, tupO a b nn) ∈ l := fun l T a b hl ⟨nn, h⟩ => ⟨nn, hl _ h⟩
  refine comp_eval F (by with_unfolding_all rfl) (by decide) rfl (by decide) ?_
  k_steps
  refine go_on ?_
  refine iter_listK (by k_asm) (by k_asm) mr fun I oI h2 hoI lI F2 N2 => ?_
  refine ⟨_, F2, N2, fun C D oC h3 tk3 F3 N3 hoC hCD lC lD => ?_⟩
  have hIC : I ≠ C := Nat.ne_of_lt (lC (I, _) (.head _))
  have hID : I ≠ D := Nat.ne_of_lt (lD (I, _) (.head _))
  refine comp2K (news := news) ((IterK.list rfl tr tvs tep).weak (S' := fun l => ∀ p ∈ news, p ∈ l) fun l hl => hl _ mr) (AsgK.two (Tup := fun T a b => ∃ nn, (T, tupO a b nn) ∈ news) rfl rfl rfl rfl rfl (fun l => ∀ p ∈ news, p ∈ l) hT tr) (fun j o h => ⟨j, h⟩)
    (J := fun i ys news' => ys = [] ∧ news' = news) (M := fun v m => ∃ T a b, v = .ref T ∧ (∃ nn, (T, tupO a b nn) ∈ news) ∧ m (Str.ofString "one") = some a ∧ m (Str.ofString "left") = some b) F3 (fun p hp => N3 p (re3' p hp)) hoC ?off hIC hID hCD hoI ⟨rfl, rfl⟩ (fun j ys n l h hl => by rw [h.2] at hl; exact hl) ?hP ?hM ?body ?fin
  case off => exact fun p hp => ⟨Nat.ne_of_lt (lI p hp), Nat.ne_of_lt (lC p (.tail _ hp)), Nat.ne_of_lt (lD p (.tail _ hp))⟩
  case hP =>
    intro i v m₂ hv
    obtain ⟨t, p, n, nn, ep, tk, ps, rfl, h1, h2, h3, h4⟩ := ht.at i v hv
    exact ⟨_, t, _, _, rfl, ⟨nn, h1⟩, rfl⟩
  case hM =>
    rintro v m₂ m₂' ⟨T, a, b, rfl, h, rfl⟩
    exact ⟨T, a, b, rfl, h, (if_neg (by decide)).trans (if_pos rfl), if_pos rfl⟩
  case fin =>
    rintro ys news h4 tk4 ⟨rfl, rfl⟩ F4 N4 off4
    exact hret D _ _ F4 N4 fun q hq => lD q (.tail _ hq)
  case body =>
    rintro i v ys o oC₂ m₀ m₂ news' h4 tk4 E' hi hv ⟨rfl, rfl⟩ hPn hn F4 N4 off4
    obtain ⟨T1, a1, b1, rfl, ⟨n1, hm1⟩, rfl⟩ := hPn
    obtain ⟨x1, p1, tk1, ps1, ep1, ea, eb, hp1, hi1, hx1⟩ := ht.tup N i T1 a1 b1 n1 hv hm1
    subst ea eb
    k_steps
    refine go_on ?_
    refine iter_listK (by k_asm) N4 (.tail _ (.tail _ (.tail _ mr))) fun I2 o2 h6 ho2 l2 F6 N6 => ?_
    have d1 : I2 ≠ I := Nat.ne_of_gt (l2 (I, o) (.head _))
    have d2 : I2 ≠ C := Nat.ne_of_gt (l2 (C, oC₂) (.tail _ (.head _)))
    have d3 : I2 ≠ D := Nat.ne_of_gt (l2 (D, LCg.lst []) (.tail _ (.tail _ (.head _))))
    refine ⟨I2, o2, h6, _, news', _, _, _, _, _, _, (fun j ys n => ys = [] ∧ n = news'), rfl, rfl, F6, N6, fun p hp => ⟨Nat.ne_of_lt (l2 p (.tail _ (.tail _ (.tail _ hp)))), off4 p hp⟩, d1, d2, d3, ho2, ((IterK.list rfl tr tvs tep).weak (S' := fun l => ∀ p ∈ news', p ∈ l) fun l hl => hl _ mr), (AsgK.two (Tup := fun T a b => ∃ nn, (T, tupO a b nn) ∈ news') rfl rfl rfl rfl rfl (fun l => ∀ p ∈ news', p ∈ l) hT tr), (fun j o h => ⟨j, h⟩), ⟨rfl, rfl⟩, (fun j ys n l h hl => by rw [h.2] at hl; exact hl), ?hM2, ?hP2, (fun j ys n h => by rw [h.1]; exact Nat.zero_le _), ?e2, fun ys n h => h⟩
    case hM2 =>
      rintro v m₂ m₂' ⟨T, a, b, e, h, m1, m2⟩ ⟨T2, a2, b2, _, _, rfl⟩
      exact ⟨T, a, b, e, h, ((if_neg (by decide)).trans (if_neg (by decide))).trans m1, ((if_neg (by decide)).trans (if_neg (by decide))).trans m2⟩
    case hP2 =>
      intro j v m₂ hv _
      obtain ⟨t, p, n, nn, ep, tk, ps, rfl, h1, h2, h3, h4⟩ := ht.at j v hv
      exact ⟨_, t, _, _, rfl, ⟨nn, h1⟩, rfl⟩
    case e2 =>
      rintro j v ys o3 oC3 m₅ m₆ n3 h7 tk7 E'' hj hv2 ⟨rfl, rfl⟩ ⟨T3, a3, b3, e3, ⟨n3', hm3⟩, mm1, mm2⟩ ⟨T2, a2, b2, rfl, ⟨n2', hm2⟩, rfl⟩ hn6 F7 N7 off7
      obtain rfl := Value.ref.inj e3
      obtain ⟨x3, p3, tk3, ps3, ep3, ea3, eb3, hp3, hi3, hx3⟩ := ht.tup N i T1 a3 b3 n3' hv hm3
      obtain ⟨x2, p2, tk2, ps2, ep2, ea2, eb2, hp2, hi2, hx2⟩ := ht.tup N j T2 a2 b2 n2' hv2 hm2
      subst ea3 eb3 ea2 eb2
      have y1 : (fun z => if z = Str.ofString "right" then some (Value.ref p2) else if z = Str.ofString "other" then some (Value.int (x2 : Nat) tk2) else m₅ z) (Str.ofString "one") = some (.int (x3 : Nat) tk3) := ((if_neg (by decide)).trans (if_neg (by decide))).trans mm1
      have y2 : (fun z => if z = Str.ofString "right" then some (Value.ref p2) else if z = Str.ofString "other" then some (Value.int (x2 : Nat) tk2) else m₅ z) (Str.ofString "left") = some (.ref p3) := ((if_neg (by decide)).trans (if_neg (by decide))).trans mm2
      have y3 : (fun z => if z = Str.ofString "right" then some (Value.ref p2) else if z = Str.ofString "other" then some (Value.int (x2 : Nat) tk2) else m₅ z) (Str.ofString "other") = some (.int (x2 : Nat) tk2) := (if_neg (by decide)).trans (if_pos rfl)
      have y4 : (fun z => if z = Str.ofString "right" then some (Value.ref p2) else if z = Str.ofString "other" then some (Value.int (x2 : Nat) tk2) else m₅ z) (Str.ofString "right") = some (.ref p2) := if_pos rfl
      generalize (fun z => if z = Str.ofString "right" then some (Value.ref p2) else if z = Str.ofString "other" then some (Value.int (x2 : Nat) tk2) else m₅ z) = m₆ at hn6 y1 y2 y3 y4
      have ho := tell_order c hc0 hc x3 x2 hx3 hx2
      refine wpAny_tests_one ?_
      k_steps
      refine go_on ?_
      refine lt_lists N7 (.tail _ (.tail _ (.tail _ (.tail _ hp3)))) (.tail _ (.tail _ (.tail _ (.tail _ hp2)))) hi3 hi2 (by rw [tell_len, tell_len]) (show 4 + 3 < cLine by decide +kernel) ?_
      rw [ho]
      k_steps
      · rename (_ != _) = true => hne
        rw [show decide ((x3 : Int) < (x2 : Int)) = decide (x3 < x2) from decide_eq_decide.mpr (by omega), bne_self_eq_false] at hne
        cases hne
      · exact TurnEnd.intro F7 N7 n3 (fun p hp => hp) (off_of off7) ⟨rfl, rfl⟩
end
-- part L2

theorem CodeOk.off {P : Nat} {q : Str} {c b : Nat} {oc o : Obj} {h₀ h : Heap} {L : Addr} {l : List (Addr × Obj)} (hc : CodeOk P q c oc) (N : News h₀ L h l) (h1 : (c, oc) ∈ l) (h2 : (b, o) ∈ l) (hd : ∀ fs, o.data = .fields fs → ∃ n : Int, fs[1]? = some (Value.int n 0)) : c ≠ b := ne_data N h1 h2 fun e => by
  obtain ⟨fs, tq, e1, e2⟩ := hc.code
  rw [e1] at e
  obtain ⟨n, hn⟩ := hd fs e.symm
  rw [hn] at e2
  injection e2 with e2
  cases e2
theorem nc_it (a b : Int) : ∀ fs, (itR a b).data = .fields fs → ∃ n : Int, fs[1]? = some (Value.int n 0) := fun fs e => by
  injection e with e
  subst e
  exact ⟨b, rfl⟩
theorem nc_ns {oC : Obj} {m : Str → Option Value} (h : LCg.NsObj oC m) : ∀ fs, oC.data = .fields fs → ∃ n : Int, fs[1]? = some (Value.int n 0) := fun fs e => by
  obtain ⟨es, ep, hd, _⟩ := h
  rw [hd] at e
  cases e
theorem nc_lst (ys : List Value) : ∀ fs, (LCg.lst ys).data = .fields fs → ∃ n : Int, fs[1]? = some (Value.int n 0) := fun fs e => by cases e
theorem nc_cell {o : Obj} {v : Option Value} (h : o.data = .cell v) : ∀ fs, o.data = .fields fs → ∃ n : Int, fs[1]? = some (Value.int n 0) := fun fs e => by
  rw [h] at e
  cases e

structure TblAre (tb : List (Addr × Obj)) (ys : List Value) (n : Nat) : Prop where
  len : ys.length = n
  ats : ∀ i, i < n → ∃ (t : Nat) (tk : Tok) (nn r : Nat) (vs : List Value) (ep : Nat), ys[i]? = some (.ref t) ∧ (t, tupO (.int (1 + (i : Int)) tk) (.ref r) nn) ∈ tb ∧ (r, W.listOf vs.toArray ep) ∈ tb ∧ IntsAre vs (row (i + 1))

theorem rA {i k c d : Addr × Obj} {l : List (Addr × Obj)} : ∀ p ∈ i :: k :: c :: d :: l, p ∈ k :: c :: d :: i :: l := by
  intro p hp
  simp only [List.mem_cons, List.mem_append, List.not_mem_nil, or_false, or_assoc] at hp ⊢
  rcases hp with h | h | h | h | h <;> simp [h]
theorem rB {x y i k c d i2 : Addr × Obj} {l : List (Addr × Obj)} : ∀ p ∈ x :: y :: i :: k :: c :: d :: l, p ∈ i2 :: i :: k :: c :: d :: x :: y :: l := by
  intro p hp
  simp only [List.mem_cons, List.mem_append, List.not_mem_nil, or_false, or_assoc] at hp ⊢
  rcases hp with h | h | h | h | h | h | h <;> simp [h]
theorem rB' {x y i k c d : Addr × Obj} {l : List (Addr × Obj)} : ∀ p ∈ x :: y :: i :: k :: c :: d :: l, p ∈ i :: k :: c :: d :: x :: y :: l := by
  intro p hp
  simp only [List.mem_cons, List.mem_append, List.not_mem_nil, or_false, or_assoc] at hp ⊢
  rcases hp with h | h | h | h | h | h | h <;> simp [h]
theorem rC {x y i2 c2 d2 i k c d : Addr × Obj} {l : List (Addr × Obj)} : ∀ p ∈ i2 :: c2 :: d2 :: x :: y :: i :: k :: c :: d :: l, p ∈ c2 :: d2 :: i2 :: i :: k :: c :: d :: x :: y :: l := by
  intro p hp
  simp only [List.mem_cons, List.mem_append, List.not_mem_nil, or_false, or_assoc] at hp ⊢
  rcases hp with h | h | h | h | h | h | h | h | h | h <;> simp [h]
theorem rD {x y i2 c2 d2 : Addr × Obj} {l : List (Addr × Obj)} : ∀ p ∈ x :: y :: i2 :: c2 :: d2 :: l, p ∈ i2 :: c2 :: d2 :: x :: y :: l := by
  intro p hp
  simp only [List.mem_cons, List.mem_append, List.not_mem_nil, or_false, or_assoc] at hp ⊢
  rcases hp with h | h | h | h | h | h <;> simp [h]
theorem rE {x y u v a b c : Addr × Obj} {e k : List (Addr × Obj)} : ∀ p ∈ [a, b, c] ++ (x :: y :: ((u :: v :: e) ++ k)), p ∈ x :: y :: u :: v :: a :: b :: c :: (e ++ k) := by
  intro p hp
  simp only [List.mem_cons, List.mem_append, List.not_mem_nil, or_false, or_assoc] at hp ⊢
  rcases hp with h | h | h | h | h | h | h | h | h <;> simp [h]
theorem rF {i k c d x y t d2 : Addr × Obj} {e2 e tb r : List (Addr × Obj)} : ∀ p ∈ [i, k] ++ [c, d] ++ (x :: y :: ((e2 ++ e) ++ ((t :: d2 :: tb) ++ r))), p ∈ t :: d2 :: x :: y :: (e2 ++ (i :: k :: c :: d :: (e ++ (tb ++ r)))) := by
  intro p hp
  simp only [List.mem_cons, List.mem_append, List.not_mem_nil, or_false, or_assoc] at hp ⊢
  rcases hp with h | h | h | h | h | h | h | h | h | h | h | h <;> simp [h]
theorem rG {e2 e tb r : List (Addr × Obj)} {t d2 : Addr × Obj} : ∀ p ∈ e2 ++ (e ++ (tb ++ r)), p ∈ (e2 ++ e) ++ ((t :: d2 :: tb) ++ r) := by
  intro p hp
  simp only [List.mem_cons, List.mem_append, List.not_mem_nil, or_false, or_assoc] at hp ⊢
  rcases hp with h | h | h | h <;> simp [h]
theorem rH {d x y : Addr × Obj} {e tb r : List (Addr × Obj)} : ∀ p ∈ d :: (tb ++ (r ++ [x, y])), p ∈ d :: x :: y :: (e ++ (tb ++ r)) := by
  intro p hp
  simp only [List.mem_cons, List.mem_append, List.not_mem_nil, or_false, or_assoc] at hp ⊢
  rcases hp with h | h | h | h | h <;> simp [h]

theorem rJ {a b c i k cc d : Addr × Obj} {e l : List (Addr × Obj)} : ∀ p ∈ e ++ l, p ∈ a :: b :: c :: (e ++ (i :: k :: cc :: d :: l)) := by
  intro p hp
  simp only [List.mem_cons, List.mem_append, or_assoc] at hp ⊢
  rcases hp with h | h <;> simp [h]
theorem mem64 {α : Type} {p a b t d : α} {e2 e l : List α} {tb : List α} (h : p ∈ a :: b :: ((e2 ++ e) ++ ((t :: d :: tb) ++ l))) : p = a ∨ p = b ∨ p ∈ e2 ∨ p ∈ e ∨ p = t ∨ p = d ∨ p ∈ tb ++ l := by
  simpa only [List.mem_cons, List.mem_append, or_assoc] using h
theorem off3 {a b c : Addr} {o1 o2 o3 : Obj} {news : List (Addr × Obj)} (h : ∀ p ∈ news, p.1 ≠ a ∧ p.1 ≠ b ∧ p.1 ≠ c) : ∀ p ∈ news, ∀ q ∈ [(a, o1), (b, o2), (c, o3)], p.1 ≠ q.1 := fun p hp =>
  List.forall_mem_cons.mpr ⟨(h p hp).1, List.forall_mem_cons.mpr ⟨(h p hp).2.1, List.forall_mem_cons.mpr ⟨(h p hp).2.2, fun _ h => nomatch h⟩⟩⟩
theorem lt57 {a : Nat} (h : 64 < a) : 57 ≠ a := Nat.ne_of_lt (Nat.lt_trans (by decide) h)
theorem row_at (k j : Nat) (h : j < (row k).length) : (row k)[j] = ((ch j k : Nat) : Int) := by simp [row]
theorem gt64 {a : Nat} (h : 64 < a) : a ≠ 57 ∧ a ≠ 64 := ⟨Nat.ne_of_gt (Nat.lt_trans (by decide) h), Nat.ne_of_gt h⟩
theorem TblAre.snoc {tb : List (Addr × Obj)} {ys : List Value} {i T D2 nn ep : Nat} {tk : Tok} {zs : List Value} (ht : TblAre tb ys i) (hz : IntsAre zs (row (i + 1))) : TblAre ((T, tupO (.int (1 + (i : Int)) tk) (.ref D2) nn) :: (D2, W.listOf zs.toArray ep) :: tb) (ys ++ [.ref T]) (i + 1) where
  len := by rw [List.length_append, ht.len]; rfl
  ats := fun j hj => by
    by_cases h : j < i
    · obtain ⟨t, tk', nn', r, vs, ep', a, b, c, d⟩ := ht.ats j h
      exact ⟨t, tk', nn', r, vs, ep', by rw [List.getElem?_append_left (by rw [ht.len]; exact h)]; exact a, .tail _ (.tail _ b), .tail _ (.tail _ c), d⟩
    · obtain rfl : j = i := by omega
      exact ⟨T, tk, nn, D2, zs, ep, by rw [List.getElem?_append_right (by rw [ht.len]; exact Nat.le_refl _), ht.len, Nat.sub_self]; rfl, .head _, .tail _ (.head _), hz⟩

/-- the invariants of the outer and the inner comprehension -/
inductive TbInv (c : Nat) (rest : List (Addr × Obj)) (i : Nat) (ys : List Value) (news' : List (Addr × Obj)) : Prop
  | mk (pi pd : Obj) (ext tb : List (Addr × Obj)) (_ : i ≤ c) (_ : news' = (64, pd) :: (57, pi) :: (ext ++ (tb ++ rest))) (_ : ∀ q ∈ ext, q.1 ≠ 57 ∧ q.1 ≠ 64) (_ : ∀ e ∈ tb, @LT.lt Nat _ 64 e.1 ∧ ∀ q ∈ rest, q.1 < e.1) (_ : TabOk 57 qual57 tab57 pi (ext ++ (tb ++ rest))) (_ : TabOk 64 qual64 tab64 pd (ext ++ (tb ++ rest))) (_ : TblAre tb ys i)
inductive TbIn (i : Nat) (I Kc C D : Addr) (R0 R : List (Addr × Obj)) (j : Nat) (zs : List Value) (n2 : List (Addr × Obj)) : Prop
  | mk (pi2 pd2 : Obj) (ext2 : List (Addr × Obj)) (_ : n2 = (64, pd2) :: (57, pi2) :: (ext2 ++ R0))
    (_ : ∀ q ∈ ext2, q.1 ≠ 57 ∧ q.1 ≠ 64 ∧ q.1 ≠ I ∧ q.1 ≠ Kc ∧ q.1 ≠ C ∧ q.1 ≠ D) (_ : TabOk 57 qual57 tab57 pi2 (ext2 ++ R)) (_ : TabOk 64 qual64 tab64 pd2 (ext2 ++ R)) (_ : IntsAre zs ((row (i + 1)).take j))
section
local macro_rules | `(tactic| k_mem) => `(tactic| first | exact List.mem_cons_of_mem _ (by assumption) | exact List.mem_cons_of_mem _ (List.mem_cons_of_mem _ (by assumption)) | assumption)

theorem c2_spec {prog : Program} {w : World} {p : Program} {loose : List Str} {mean : ExcName → Option Value} {mg mb : Str → Option Value} {scope : Scope} {e : PySem.Expr} (hsc : lawScope = some scope) (he : c2 = some e)
    (fa : Addr) (cd : Value) (base h₀ : Heap) (L : Addr) (m : Str → Option Value) (s : Shared) (rest : List (Addr × Obj)) (Q E : Value → Shared → Prop)
    (c : Nat) (tc : Tok) (oc : Obj)
    (B : Below callerA base [] h₀) (F : Fr h₀ L s.heap m) (X : (lawTop.heap_39 w.params).In h₀) (N : News h₀ L s.heap ((64, tabObj #[]) :: (57, tabObj #[]) :: rest)) (T : Top p loose mean mg mb h₀)
    (C57 : CodeHd base 61 57) (C64 : CodeHd base 68 64) (hrest : ∀ q ∈ rest, @LT.lt Nat _ 64 q.1) (mc : (L + 1, oc) ∈ rest) (dc : oc.data = .cell (some (.int (c : Nat) tc))) (hc0 : 0 < c) (hc : c ≤ 3)
    (hret : ∀ (r : Nat) (ys : List Value) (tb : List (Addr × Obj)) (pt qt : Array Value) (h' : Heap) (tk' : Nat), Fr h₀ L h' m → News h₀ L h' ((r, LCg.lst ys) :: (tb ++ (rest ++ [(64, tabObj pt), (57, tabObj qt)]))) → TblAre tb ys c → (∀ e ∈ tb, ∀ q ∈ rest, q.1 < e.1) → (∀ q ∈ rest, q.1 < r) → (∀ e ∈ tb, e.1 ≠ r) → Q (.ref r) { s with heap := h', toks := tk' }) :
    wpAny (model prog w) (callerA.deeper (envOfC (Str.ofString "law") scope L fa cd)) (eval e (envOfC (Str.ofString "law") scope L fa cd)) Q E s := by
  have hf : PySem.Challenge.rw_gb0005_01 = PySem.Challenge.rw_gb0005_01 ∧ lawTop.heap_39 = lawTop.heap_39 := by
    k_fill
    exact ⟨rfl, rfl⟩
  clear hf
  w_top on
  conv at hsc => lhs; whnf
  dsimp only at hsc
  conv at he => lhs; whnf
  obtain rfl := Option.some.inj hsc
  obtain rfl := Option.some.inj he
  refine comp_evalC F (by with_unfolding_all rfl) (fun _ => rfl) (fun _ => rfl) rfl (by decide) ?_
  k_steps
  refine go_on ?_
  rename IsRange _ _ _ _ _ _ _ _ => hR
  refine iter_rangeK (n := c) (by k_asm) (by k_asm) hR (small_one (by omega) (by omega) (by omega) (by omega)) (by rw [rangeSize_nat]; omega) ?_
  intro I h2 lI F2 N2
  refine ⟨_, F2, N2, fun C D Kc oC ok h3 tk3 F3 N3 hoC hok hCD hKC hKD lC lD lK => ?_⟩
  have hIC : I ≠ C := Nat.ne_of_lt (lC (I, _) (.head _))
  have hID : I ≠ D := Nat.ne_of_lt (lD (I, _) (.head _))
  have hIK : I ≠ Kc := Nat.ne_of_lt (lK (I, _) (.head _))
  have gI : @LT.lt Nat _ 64 I := lI (64, _) (.head _)
  have gC : @LT.lt Nat _ 64 C := lC (64, _) (.tail _ (.head _))
  have gD : @LT.lt Nat _ 64 D := lD (64, _) (.tail _ (.head _))
  have gK : @LT.lt Nat _ 64 Kc := lK (64, _) (.tail _ (.head _))
  refine comp1K (news := (64, tabObj #[]) :: (57, tabObj #[]) :: rest) (TurnK.cell rfl rfl rfl rfl hIK 1 c) (J := TbInv c rest)
    (own := [(I, itR 1 ((c : Nat) : Int)), (Kc, ok)]) F3 (fun p hp => N3 p (rA p hp)) hoC ?off hCD ?offO ⟨ok, none, rfl, Nat.zero_le _, hok, fun h => absurd h (Nat.lt_irrefl _)⟩ ?j0 (fun _ _ _ _ _ _ => trivial) ?hsz ?body ?fin
  case off => exact fun p hp => ⟨Nat.ne_of_lt (lC p (.tail _ hp)), Nat.ne_of_lt (lD p (.tail _ hp))⟩
  case offO => exact List.forall_mem_cons.mpr ⟨⟨hIC, hID, fun q hq => Nat.ne_of_lt (lI q hq)⟩, List.forall_mem_cons.mpr ⟨⟨hKC, hKD, fun q hq => Nat.ne_of_lt (lK q (.tail _ hq))⟩, (fun _ h => nomatch h)⟩⟩
  case j0 => exact ⟨_, _, [], [], Nat.zero_le _, rfl, (fun _ h => nomatch h), (fun _ h => nomatch h), .inl rfl, .inl rfl, ⟨rfl, fun i hi => absurd hi (Nat.not_lt_zero i)⟩⟩
  case hsz =>
    rintro j ys news' ⟨pi, pd, ext, tb, hj, rfl, _, _, _, _, ht⟩
    rw [ht.len, sizeLine_eq]
    omega
  case fin =>
    rintro ys news' h4 tk4 ⟨pi, pd, ext, tb, hj, rfl, hx1, hx2, hp1, hp2, ht⟩ F4 N4 off4
    obtain ⟨pt, rfl⟩ : ∃ pt, pd = tabObj pt := hp2.elim (fun h => ⟨_, h⟩) fun ⟨_, _, h, _⟩ => ⟨_, h⟩
    obtain ⟨qt, rfl⟩ : ∃ qt, pi = tabObj qt := hp1.elim (fun h => ⟨_, h⟩) fun ⟨_, _, h, _⟩ => ⟨_, h⟩
    exact hret D ys tb pt qt h4 tk4 F4 (fun p hp => N4 p (rH p hp)) ht (fun e he => (hx2 e he).2) (fun q hq => lD q (.tail _ (.tail _ (.tail _ hq)))) (fun e he => off4 e (.tail _ (.tail _ (List.mem_append_right _ (List.mem_append_left _ he)))))
  case body =>
    rintro i ys own' oC₂ m₂ news' h4 tk4 E' hi ⟨pi, pd, ext, tb, hic, rfl, hx1, hx2, hp1, hp2, ht⟩ _ ⟨ok2, v2, hown, _, hd2, hv2⟩ hn hadr F4 N4 off4 offA
    obtain ⟨tk9, rfl⟩ := hv2 (Nat.succ_pos _)
    rw [Nat.add_sub_cancel] at hd2
    subst hown
    dsimp only [List.cons_append, List.nil_append] at N4
    show wpAny _ _ (pure true) _ _ _
    refine wpAny_pure ?_
    rw [if_pos rfl]
    have hlow : ∀ q ∈ ext ++ (tb ++ rest), q.1 ≠ 57 ∧ q.1 ≠ 64 := fun q hq => by
      rcases List.mem_append.mp hq with hq | hq
      · exact hx1 q hq
      · have g : @LT.lt Nat _ 64 q.1 := (List.mem_append.mp hq).elim (fun h => (hx2 q h).1) fun h => hrest q h
        exact ⟨Nat.ne_of_gt (Nat.lt_trans (by decide) g), Nat.ne_of_gt g⟩
    have hoffN : ∀ p ∈ (64, pd) :: (57, pi) :: (ext ++ (tb ++ rest)), p.1 ≠ I ∧ p.1 ≠ Kc ∧ p.1 ≠ C ∧ p.1 ≠ D := fun p hp => ⟨offA I (.head _) p hp, offA Kc (.tail _ (.head _)) p hp, (off4 p hp).1, (off4 p hp).2⟩
    k_steps
    refine go_on ?_
    refine comp_eval (by k_asm) (by with_unfolding_all rfl) (by decide) rfl (by decide) ?_
    have hcase : (1 + (i : Int) = 1 ∧ wid (i + 1) = 41) ∨ (1 + (i : Int) ≠ 1 ∧ wid (i + 1) = 13) := by
      unfold wid
      by_cases h : i = 0
      · subst h; exact .inl ⟨rfl, rfl⟩
      · exact .inr ⟨by omega, if_neg (by omega)⟩
    rcases hcase with ⟨hcs, hwd⟩ | ⟨hcs, hwd⟩
    · k_steps
      any_goals (exfalso; omega)
      refine go_on ?_
      rename IsRange _ _ _ _ _ _ _ _ => hR2
      refine iter_rangeK (n := 41) (by k_asm) (by k_asm) hR2 (by decide +kernel) (by decide +kernel) ?_
      intro I2 h5 lI2 F5 N5
      refine ⟨_, F5, N5, fun C2 D2 oC2 h6 tk6 F6 N6 hoC2 hCD2 lC2 lD2 => ?_⟩
      have hIC2 : I2 ≠ C2 := Nat.ne_of_lt (lC2 (I2, _) (.head _))
      have hID2 : I2 ≠ D2 := Nat.ne_of_lt (lD2 (I2, _) (.head _))
      have gI2 : @LT.lt Nat _ 64 I2 := lI2 (64, pd) (.tail _ (.tail _ (.tail _ (.tail _ (.head _)))))
      have gC2 : @LT.lt Nat _ 64 C2 := lC2 (64, pd) (.tail _ (.tail _ (.tail _ (.tail _ (.tail _ (.head _))))))
      have gD2 : @LT.lt Nat _ 64 D2 := lD2 (64, pd) (.tail _ (.tail _ (.tail _ (.tail _ (.tail _ (.head _))))))
      refine comp1K (news := (64, pd) :: (57, pi) :: (I, itR (1 + ((i + 1 : Nat) : Int)) ((c - (i + 1) : Nat) : Int)) :: (Kc, ok2) :: (C, oC₂) :: (D, LCg.lst ys) :: (ext ++ (tb ++ rest))) (TurnK.range rfl rfl rfl rfl 0 41)
        (J := TbIn i I Kc C D ((I, itR (1 + ((i + 1 : Nat) : Int)) ((c - (i + 1) : Nat) : Int)) :: (Kc, ok2) :: (C, oC₂) :: (D, LCg.lst ys) :: (ext ++ (tb ++ rest))) (ext ++ (tb ++ rest)))
        (own := [(I2, itR 0 ((41 : Nat) : Int))]) F6 (fun p hp => N6 p (rC p hp)) hoC2 ?off hCD2 ?offO ⟨_, rfl, Nat.zero_le _, rfl⟩ ?j0 (fun _ _ _ _ _ _ => trivial) ?hsz ?body ?fin
      case off => exact fun p hp => ⟨Nat.ne_of_lt (lC2 p (rB p hp)), Nat.ne_of_lt (lD2 p (rB p hp))⟩
      case offO => exact List.forall_mem_cons.mpr ⟨⟨hIC2, hID2, fun q hq => Nat.ne_of_lt (lI2 q (rB' q hq))⟩, (fun _ h => nomatch h)⟩
      case j0 => exact ⟨pi, pd, [], rfl, (fun _ h => nomatch h), hp1, hp2, .nil⟩
      case hsz =>
        rintro j zs n2 ⟨_, _, _, _, _, _, _, hzs⟩
        rw [hzs.length, List.length_take, row_len, sizeLine_eq]
        have := wid_le (i + 1)
        omega
      case fin =>
        rintro zs n2 h7 tk7 ⟨pi2, pd2, ext2, rfl, hy1, hy2, hy3, hzs⟩ F7 N7 off7
        rw [List.take_of_length_le (by rw [row_len, hwd]; exact Nat.le_refl _)] at hzs
        k_steps
        rename News _ _ _ ((_, { cls := .type "tuple", data := _ }) :: _) => N8
        rename _ < _ ∧ _ ∧ _ ∧ AllLt _ _ => l8
        have l8' := of_allLt l8.2.2.2
        refine TurnEnd.intro (by k_asm) N8 ((64, pd2) :: (57, pi2) :: ((ext2 ++ ext) ++ ((_ :: (D2, LCg.lst zs) :: tb) ++ rest))) rF (off_of fun p hp => ?off) ⟨pi2, pd2, ext2 ++ ext, _ :: (D2, LCg.lst zs) :: tb, by omega, rfl, ?h1, ?h2, hy2.sub rG, hy3.sub rG, ht.snoc hzs⟩
        case off =>
          rcases mem64 hp with rfl | rfl | hp | hp | rfl | rfl | hp
          · exact ⟨Nat.ne_of_lt gI, Nat.ne_of_lt gK, Nat.ne_of_lt gC, Nat.ne_of_lt gD⟩
          · exact ⟨lt57 gI, lt57 gK, lt57 gC, lt57 gD⟩
          · exact (hy1 p hp).2.2
          · exact hoffN p (.tail _ (.tail _ (List.mem_append_left _ hp)))
          · exact ⟨Nat.ne_of_gt (l8' _ (List.mem_append_right _ (.head _))), Nat.ne_of_gt (l8' _ (List.mem_append_right _ (.tail _ (.head _)))), Nat.ne_of_gt (l8' _ (List.mem_append_right _ (.tail _ (.tail _ (.head _))))), Nat.ne_of_gt (l8' _ (List.mem_append_right _ (.tail _ (.tail _ (.tail _ (.head _))))))⟩
          · exact ⟨Nat.ne_of_gt (lD2 _ (.tail _ (.head _))), Nat.ne_of_gt (lD2 _ (.tail _ (.tail _ (.head _)))), Nat.ne_of_gt (lD2 _ (.tail _ (.tail _ (.tail _ (.head _))))), Nat.ne_of_gt (lD2 _ (.tail _ (.tail _ (.tail _ (.tail _ (.head _))))))⟩
          · exact hoffN p (.tail _ (.tail _ (List.mem_append_right _ hp)))
        case h1 => exact fun q hq => (List.mem_append.mp hq).elim (fun h => ⟨(hy1 q h).1, (hy1 q h).2.1⟩) fun h => hx1 q h
        case h2 =>
          refine List.forall_mem_cons.mpr ⟨⟨l8.2.1, fun q hq => l8' q (List.mem_append_right _ (.tail _ (.tail _ (.tail _ (.tail _ (List.mem_append_right _ (List.mem_append_right _ hq)))))))⟩, List.forall_mem_cons.mpr ⟨⟨gD2, fun q hq => lD2 q (.tail _ (.tail _ (.tail _ (.tail _ (.tail _ (.tail _ (.tail _ (List.mem_append_right _ (List.mem_append_right _ hq)))))))))⟩, hx2⟩⟩
      case body =>
        rintro j zs own2 oC3 m3 n3 h7 tk7 E2 hj ⟨pi2, pd2, ext2, rfl, hy1, hy2, hy3, hzs⟩ ⟨t7, hx7⟩ ⟨oI3, hown9, _, hoI3e⟩ hn3 hadr3 F7 N7 off7 offA7
        subst hown9
        have hoI3 : ∀ fs, oI3.data = .fields fs → ∃ n : Int, fs[1]? = some (Value.int n 0) := by rw [hoI3e]; exact nc_it _ _
        clear hoI3e
        dsimp only [List.cons_append, List.nil_append] at N7
        show wpAny _ _ (pure true) _ _ _
        refine wpAny_pure ?_
        rw [if_pos rfl]
        have hmK : (Kc, ok2) ∈ (I2, oI3) :: (C2, oC3) :: (D2, LCg.lst zs) :: (64, pd2) :: (57, pi2) :: (ext2 ++ ((I, itR (1 + ((i + 1 : Nat) : Int)) ((c - (i + 1) : Nat) : Int)) :: (Kc, ok2) :: (C, oC₂) :: (D, LCg.lst ys) :: (ext ++ (tb ++ rest)))) := .tail _ (.tail _ (.tail _ (.tail _ (.tail _ (List.mem_append_right _ (.tail _ (.head _)))))))
        have hall : ∀ q ∈ (I2, oI3) :: (C2, oC3) :: (D2, LCg.lst zs) :: (ext2 ++ ((I, itR (1 + ((i + 1 : Nat) : Int)) ((c - (i + 1) : Nat) : Int)) :: (Kc, ok2) :: (C, oC₂) :: (D, LCg.lst ys) :: (ext ++ (tb ++ rest)))), q.1 ≠ 57 ∧ q.1 ≠ 64 := by
          refine List.forall_mem_cons.mpr ⟨gt64 gI2, List.forall_mem_cons.mpr ⟨gt64 gC2, List.forall_mem_cons.mpr ⟨gt64 gD2, fun q hq => ?_⟩⟩⟩
          rcases List.mem_append.mp hq with hq | hq
          · exact ⟨(hy1 q hq).1, (hy1 q hq).2.1⟩
          · exact (List.forall_mem_cons.mpr ⟨gt64 gI, List.forall_mem_cons.mpr ⟨gt64 gK, List.forall_mem_cons.mpr ⟨gt64 gC, List.forall_mem_cons.mpr ⟨gt64 gD, hlow⟩⟩⟩⟩ : ∀ q ∈ (I, itR (1 + ((i + 1 : Nat) : Int)) ((c - (i + 1) : Nat) : Int)) :: (Kc, ok2) :: (C, oC₂) :: (D, LCg.lst ys) :: (ext ++ (tb ++ rest)), q.1 ≠ 57 ∧ q.1 ≠ 64) q hq
        k_steps
        rw [Int.zero_add, show 1 + (i : Int) = ((i + 1 : Nat) : Int) by omega]
        refine go_on ?_
        refine law_ways_spec _ _ _ _ _ _ _ _ _ _ _ _ _ _ _ _ _ _ _ _ _ _ _ _ (by k_asm) (by k_asm) (by k_asm) (fun p hp => N7 p (rD p hp)) (by k_asm) rfl C57 C64 (fun q hq => (hall q hq).1) (fun q hq => (hall q hq).2) (hy2.sub rJ) (hy3.sub rJ) (by omega) (by omega) (by omega) (by decide +kernel) (by decide +kernel) ?_
        intro t c₁ c₂ oc₁ oc₂ h8 tk8 F8 N8 o₁ o₂ f₁ f₂
        have i1 : @LT.lt Nat _ 57 c₁ := o₁.above
        have i2 : @LT.lt Nat _ 64 c₂ := o₂.above
        have i3 : @Ne Nat c₁ 64 := ne_data N8 (o' := tab64 c₂) (.tail _ (.tail _ (.head _))) (.head _) (o₁.ne_tab _)
        have hm1 : (c₁, oc₁) ∈ (64, tab64 c₂) :: (57, tab57 c₁) :: (c₁, oc₁) :: (c₂, oc₂) :: (I2, oI3) :: (C2, oC3) :: (D2, LCg.lst zs) :: (ext2 ++ ((I, itR (1 + ((i + 1 : Nat) : Int)) ((c - (i + 1) : Nat) : Int)) :: (Kc, ok2) :: (C, oC₂) :: (D, LCg.lst ys) :: (ext ++ (tb ++ rest)))) := .tail _ (.tail _ (.head _))
        have hm2 : (c₂, oc₂) ∈ (64, tab64 c₂) :: (57, tab57 c₁) :: (c₁, oc₁) :: (c₂, oc₂) :: (I2, oI3) :: (C2, oC3) :: (D2, LCg.lst zs) :: (ext2 ++ ((I, itR (1 + ((i + 1 : Nat) : Int)) ((c - (i + 1) : Nat) : Int)) :: (Kc, ok2) :: (C, oC₂) :: (D, LCg.lst ys) :: (ext ++ (tb ++ rest)))) := .tail _ (.tail _ (.tail _ (.head _)))
        have ncI2 : ∀ fs, oI3.data = .fields fs → ∃ n : Int, fs[1]? = some (Value.int n 0) := hoI3
        have offc : ∀ (cc : Nat) (o : Obj), (∃ P q, CodeOk P q cc o) → (cc, o) ∈ (64, tab64 c₂) :: (57, tab57 c₁) :: (c₁, oc₁) :: (c₂, oc₂) :: (I2, oI3) :: (C2, oC3) :: (D2, LCg.lst zs) :: (ext2 ++ ((I, itR (1 + ((i + 1 : Nat) : Int)) ((c - (i + 1) : Nat) : Int)) :: (Kc, ok2) :: (C, oC₂) :: (D, LCg.lst ys) :: (ext ++ (tb ++ rest)))) → (cc ≠ I2 ∧ cc ≠ C2 ∧ cc ≠ D2) ∧ cc ≠ I ∧ cc ≠ Kc ∧ cc ≠ C ∧ cc ≠ D := fun cc o ⟨P, q, hc⟩ hm =>
          ⟨⟨hc.off N8 hm (.tail _ (.tail _ (.tail _ (.tail _ (.head _))))) ncI2, hc.off N8 hm (.tail _ (.tail _ (.tail _ (.tail _ (.tail _ (.head _)))))) (nc_ns hn3), hc.off N8 hm (.tail _ (.tail _ (.tail _ (.tail _ (.tail _ (.tail _ (.head _))))))) (nc_lst zs)⟩,
            hc.off N8 hm (.tail _ (.tail _ (.tail _ (.tail _ (.tail _ (.tail _ (.tail _ (List.mem_append_right _ (.head _))))))))) (nc_it _ _), hc.off N8 hm (.tail _ (.tail _ (.tail _ (.tail _ (.tail _ (.tail _ (.tail _ (List.mem_append_right _ (.tail _ (.head _)))))))))) (nc_cell hd2),
            hc.off N8 hm (.tail _ (.tail _ (.tail _ (.tail _ (.tail _ (.tail _ (.tail _ (List.mem_append_right _ (.tail _ (.tail _ (.head _))))))))))) (nc_ns hn), hc.off N8 hm (.tail _ (.tail _ (.tail _ (.tail _ (.tail _ (.tail _ (.tail _ (List.mem_append_right _ (.tail _ (.tail _ (.tail _ (.head _)))))))))))) (nc_lst ys)⟩
        have q1 := offc c₁ oc₁ ⟨_, _, o₁⟩ hm1
        have q2 := offc c₂ oc₂ ⟨_, _, o₂⟩ hm2
        refine TurnEnd.intro F8 N8 ((64, tab64 c₂) :: (57, tab57 c₁) :: (((c₁, oc₁) :: (c₂, oc₂) :: ext2) ++ ((I, itR (1 + ((i + 1 : Nat) : Int)) ((c - (i + 1) : Nat) : Int)) :: (Kc, ok2) :: (C, oC₂) :: (D, LCg.lst ys) :: (ext ++ (tb ++ rest))))) rE (off3 ?off) ⟨tab57 c₁, tab64 c₂, (c₁, oc₁) :: (c₂, oc₂) :: ext2, rfl, ?h1, .inr ⟨c₁, oc₁, rfl, .head _, o₁⟩, .inr ⟨c₂, oc₂, rfl, .tail _ (.head _), o₂⟩, ?ia⟩
        case off =>
          refine List.forall_mem_cons.mpr ⟨⟨Nat.ne_of_lt gI2, Nat.ne_of_lt gC2, Nat.ne_of_lt gD2⟩, List.forall_mem_cons.mpr ⟨⟨lt57 gI2, lt57 gC2, lt57 gD2⟩, List.forall_mem_cons.mpr ⟨q1.1, List.forall_mem_cons.mpr ⟨q2.1, fun p hp => ?_⟩⟩⟩⟩
          exact ⟨offA7 I2 (.head _) p (.tail _ (.tail _ hp)), off7 p (.tail _ (.tail _ hp))⟩
        case h1 => exact List.forall_mem_cons.mpr ⟨⟨Nat.ne_of_gt i1, i3, q1.2⟩, List.forall_mem_cons.mpr ⟨⟨Nat.ne_of_gt (Nat.lt_trans (by decide) i2), Nat.ne_of_gt i2, q2.2⟩, hy1⟩⟩
        case ia =>
          have hlj : j < (row (i + 1)).length := by rw [row_len, hwd]; exact hj
          rw [List.take_succ_eq_append_getElem hlj]
          rw [row_at _ _ hlj]
          exact hzs.append (.cons _ _ .nil)
    · k_steps
      any_goals (exfalso; omega)
      refine go_on ?_
      rename IsRange _ _ _ _ _ _ _ _ => hR2
      refine iter_rangeK (n := 13) (by k_asm) (by k_asm) hR2 (by decide +kernel) (by decide +kernel) ?_
      intro I2 h5 lI2 F5 N5
      refine ⟨_, F5, N5, fun C2 D2 oC2 h6 tk6 F6 N6 hoC2 hCD2 lC2 lD2 => ?_⟩
      have hIC2 : I2 ≠ C2 := Nat.ne_of_lt (lC2 (I2, _) (.head _))
      have hID2 : I2 ≠ D2 := Nat.ne_of_lt (lD2 (I2, _) (.head _))
      have gI2 : @LT.lt Nat _ 64 I2 := lI2 (64, pd) (.tail _ (.tail _ (.tail _ (.tail _ (.head _)))))
      have gC2 : @LT.lt Nat _ 64 C2 := lC2 (64, pd) (.tail _ (.tail _ (.tail _ (.tail _ (.tail _ (.head _))))))
      have gD2 : @LT.lt Nat _ 64 D2 := lD2 (64, pd) (.tail _ (.tail _ (.tail _ (.tail _ (.tail _ (.head _))))))
      refine comp1K (news := (64, pd) :: (57, pi) :: (I, itR (1 + ((i + 1 : Nat) : Int)) ((c - (i + 1) : Nat) : Int)) :: (Kc, ok2) :: (C, oC₂) :: (D, LCg.lst ys) :: (ext ++ (tb ++ rest))) (TurnK.range rfl rfl rfl rfl 0 13)
        (J := TbIn i I Kc C D ((I, itR (1 + ((i + 1 : Nat) : Int)) ((c - (i + 1) : Nat) : Int)) :: (Kc, ok2) :: (C, oC₂) :: (D, LCg.lst ys) :: (ext ++ (tb ++ rest))) (ext ++ (tb ++ rest)))
        (own := [(I2, itR 0 ((13 : Nat) : Int))]) F6 (fun p hp => N6 p (rC p hp)) hoC2 ?off hCD2 ?offO ⟨_, rfl, Nat.zero_le _, rfl⟩ ?j0 (fun _ _ _ _ _ _ => trivial) ?hsz ?body ?fin
      case off => exact fun p hp => ⟨Nat.ne_of_lt (lC2 p (rB p hp)), Nat.ne_of_lt (lD2 p (rB p hp))⟩
      case offO => exact List.forall_mem_cons.mpr ⟨⟨hIC2, hID2, fun q hq => Nat.ne_of_lt (lI2 q (rB' q hq))⟩, (fun _ h => nomatch h)⟩
      case j0 => exact ⟨pi, pd, [], rfl, (fun _ h => nomatch h), hp1, hp2, .nil⟩
      case hsz =>
        rintro j zs n2 ⟨_, _, _, _, _, _, _, hzs⟩
        rw [hzs.length, List.length_take, row_len, sizeLine_eq]
        have := wid_le (i + 1)
        omega
      case fin =>
        rintro zs n2 h7 tk7 ⟨pi2, pd2, ext2, rfl, hy1, hy2, hy3, hzs⟩ F7 N7 off7
        rw [List.take_of_length_le (by rw [row_len, hwd]; exact Nat.le_refl _)] at hzs
        k_steps
        rename News _ _ _ ((_, { cls := .type "tuple", data := _ }) :: _) => N8
        rename _ < _ ∧ _ ∧ _ ∧ AllLt _ _ => l8
        have l8' := of_allLt l8.2.2.2
        refine TurnEnd.intro (by k_asm) N8 ((64, pd2) :: (57, pi2) :: ((ext2 ++ ext) ++ ((_ :: (D2, LCg.lst zs) :: tb) ++ rest))) rF (off_of fun p hp => ?off) ⟨pi2, pd2, ext2 ++ ext, _ :: (D2, LCg.lst zs) :: tb, by omega, rfl, ?h1, ?h2, hy2.sub rG, hy3.sub rG, ht.snoc hzs⟩
        case off =>
          rcases mem64 hp with rfl | rfl | hp | hp | rfl | rfl | hp
          · exact ⟨Nat.ne_of_lt gI, Nat.ne_of_lt gK, Nat.ne_of_lt gC, Nat.ne_of_lt gD⟩
          · exact ⟨lt57 gI, lt57 gK, lt57 gC, lt57 gD⟩
          · exact (hy1 p hp).2.2
          · exact hoffN p (.tail _ (.tail _ (List.mem_append_left _ hp)))
          · exact ⟨Nat.ne_of_gt (l8' _ (List.mem_append_right _ (.head _))), Nat.ne_of_gt (l8' _ (List.mem_append_right _ (.tail _ (.head _)))), Nat.ne_of_gt (l8' _ (List.mem_append_right _ (.tail _ (.tail _ (.head _))))), Nat.ne_of_gt (l8' _ (List.mem_append_right _ (.tail _ (.tail _ (.tail _ (.head _))))))⟩
          · exact ⟨Nat.ne_of_gt (lD2 _ (.tail _ (.head _))), Nat.ne_of_gt (lD2 _ (.tail _ (.tail _ (.head _)))), Nat.ne_of_gt (lD2 _ (.tail _ (.tail _ (.tail _ (.head _))))), Nat.ne_of_gt (lD2 _ (.tail _ (.tail _ (.tail _ (.tail _ (.head _))))))⟩
          · exact hoffN p (.tail _ (.tail _ (List.mem_append_right _ hp)))
        case h1 => exact fun q hq => (List.mem_append.mp hq).elim (fun h => ⟨(hy1 q h).1, (hy1 q h).2.1⟩) fun h => hx1 q h
        case h2 =>
          refine List.forall_mem_cons.mpr ⟨⟨l8.2.1, fun q hq => l8' q (List.mem_append_right _ (.tail _ (.tail _ (.tail _ (.tail _ (List.mem_append_right _ (List.mem_append_right _ hq)))))))⟩, List.forall_mem_cons.mpr ⟨⟨gD2, fun q hq => lD2 q (.tail _ (.tail _ (.tail _ (.tail _ (.tail _ (.tail _ (.tail _ (List.mem_append_right _ (List.mem_append_right _ hq)))))))))⟩, hx2⟩⟩
      case body =>
        rintro j zs own2 oC3 m3 n3 h7 tk7 E2 hj ⟨pi2, pd2, ext2, rfl, hy1, hy2, hy3, hzs⟩ ⟨t7, hx7⟩ ⟨oI3, hown9, _, hoI3e⟩ hn3 hadr3 F7 N7 off7 offA7
        subst hown9
        have hoI3 : ∀ fs, oI3.data = .fields fs → ∃ n : Int, fs[1]? = some (Value.int n 0) := by rw [hoI3e]; exact nc_it _ _
        clear hoI3e
        dsimp only [List.cons_append, List.nil_append] at N7
        show wpAny _ _ (pure true) _ _ _
        refine wpAny_pure ?_
        rw [if_pos rfl]
        have hmK : (Kc, ok2) ∈ (I2, oI3) :: (C2, oC3) :: (D2, LCg.lst zs) :: (64, pd2) :: (57, pi2) :: (ext2 ++ ((I, itR (1 + ((i + 1 : Nat) : Int)) ((c - (i + 1) : Nat) : Int)) :: (Kc, ok2) :: (C, oC₂) :: (D, LCg.lst ys) :: (ext ++ (tb ++ rest)))) := .tail _ (.tail _ (.tail _ (.tail _ (.tail _ (List.mem_append_right _ (.tail _ (.head _)))))))
        have hall : ∀ q ∈ (I2, oI3) :: (C2, oC3) :: (D2, LCg.lst zs) :: (ext2 ++ ((I, itR (1 + ((i + 1 : Nat) : Int)) ((c - (i + 1) : Nat) : Int)) :: (Kc, ok2) :: (C, oC₂) :: (D, LCg.lst ys) :: (ext ++ (tb ++ rest)))), q.1 ≠ 57 ∧ q.1 ≠ 64 := by
          refine List.forall_mem_cons.mpr ⟨gt64 gI2, List.forall_mem_cons.mpr ⟨gt64 gC2, List.forall_mem_cons.mpr ⟨gt64 gD2, fun q hq => ?_⟩⟩⟩
          rcases List.mem_append.mp hq with hq | hq
          · exact ⟨(hy1 q hq).1, (hy1 q hq).2.1⟩
          · exact (List.forall_mem_cons.mpr ⟨gt64 gI, List.forall_mem_cons.mpr ⟨gt64 gK, List.forall_mem_cons.mpr ⟨gt64 gC, List.forall_mem_cons.mpr ⟨gt64 gD, hlow⟩⟩⟩⟩ : ∀ q ∈ (I, itR (1 + ((i + 1 : Nat) : Int)) ((c - (i + 1) : Nat) : Int)) :: (Kc, ok2) :: (C, oC₂) :: (D, LCg.lst ys) :: (ext ++ (tb ++ rest)), q.1 ≠ 57 ∧ q.1 ≠ 64) q hq
        k_steps
        rw [Int.zero_add, show 1 + (i : Int) = ((i + 1 : Nat) : Int) by omega]
        refine go_on ?_
        refine law_ways_spec _ _ _ _ _ _ _ _ _ _ _ _ _ _ _ _ _ _ _ _ _ _ _ _ (by k_asm) (by k_asm) (by k_asm) (fun p hp => N7 p (rD p hp)) (by k_asm) rfl C57 C64 (fun q hq => (hall q hq).1) (fun q hq => (hall q hq).2) (hy2.sub rJ) (hy3.sub rJ) (by omega) (by omega) (by omega) (by decide +kernel) (by decide +kernel) ?_
        intro t c₁ c₂ oc₁ oc₂ h8 tk8 F8 N8 o₁ o₂ f₁ f₂
        have i1 : @LT.lt Nat _ 57 c₁ := o₁.above
        have i2 : @LT.lt Nat _ 64 c₂ := o₂.above
        have i3 : @Ne Nat c₁ 64 := ne_data N8 (o' := tab64 c₂) (.tail _ (.tail _ (.head _))) (.head _) (o₁.ne_tab _)
        have hm1 : (c₁, oc₁) ∈ (64, tab64 c₂) :: (57, tab57 c₁) :: (c₁, oc₁) :: (c₂, oc₂) :: (I2, oI3) :: (C2, oC3) :: (D2, LCg.lst zs) :: (ext2 ++ ((I, itR (1 + ((i + 1 : Nat) : Int)) ((c - (i + 1) : Nat) : Int)) :: (Kc, ok2) :: (C, oC₂) :: (D, LCg.lst ys) :: (ext ++ (tb ++ rest)))) := .tail _ (.tail _ (.head _))
        have hm2 : (c₂, oc₂) ∈ (64, tab64 c₂) :: (57, tab57 c₁) :: (c₁, oc₁) :: (c₂, oc₂) :: (I2, oI3) :: (C2, oC3) :: (D2, LCg.lst zs) :: (ext2 ++ ((I, itR (1 + ((i + 1 : Nat) : Int)) ((c - (i + 1) : Nat) : Int)) :: (Kc, ok2) :: (C, oC₂) :: (D, LCg.lst ys) :: (ext ++ (tb ++ rest)))) := .tail _ (.tail _ (.tail _ (.head _)))
        have ncI2 : ∀ fs, oI3.data = .fields fs → ∃ n : Int, fs[1]? = some (Value.int n 0) := hoI3
        have offc : ∀ (cc : Nat) (o : Obj), (∃ P q, CodeOk P q cc o) → (cc, o) ∈ (64, tab64 c₂) :: (57, tab57 c₁) :: (c₁, oc₁) :: (c₂, oc₂) :: (I2, oI3) :: (C2, oC3) :: (D2, LCg.lst zs) :: (ext2 ++ ((I, itR (1 + ((i + 1 : Nat) : Int)) ((c - (i + 1) : Nat) : Int)) :: (Kc, ok2) :: (C, oC₂) :: (D, LCg.lst ys) :: (ext ++ (tb ++ rest)))) → (cc ≠ I2 ∧ cc ≠ C2 ∧ cc ≠ D2) ∧ cc ≠ I ∧ cc ≠ Kc ∧ cc ≠ C ∧ cc ≠ D := fun cc o ⟨P, q, hc⟩ hm =>
          ⟨⟨hc.off N8 hm (.tail _ (.tail _ (.tail _ (.tail _ (.head _))))) ncI2, hc.off N8 hm (.tail _ (.tail _ (.tail _ (.tail _ (.tail _ (.head _)))))) (nc_ns hn3), hc.off N8 hm (.tail _ (.tail _ (.tail _ (.tail _ (.tail _ (.tail _ (.head _))))))) (nc_lst zs)⟩,
            hc.off N8 hm (.tail _ (.tail _ (.tail _ (.tail _ (.tail _ (.tail _ (.tail _ (List.mem_append_right _ (.head _))))))))) (nc_it _ _), hc.off N8 hm (.tail _ (.tail _ (.tail _ (.tail _ (.tail _ (.tail _ (.tail _ (List.mem_append_right _ (.tail _ (.head _)))))))))) (nc_cell hd2),
            hc.off N8 hm (.tail _ (.tail _ (.tail _ (.tail _ (.tail _ (.tail _ (.tail _ (List.mem_append_right _ (.tail _ (.tail _ (.head _))))))))))) (nc_ns hn), hc.off N8 hm (.tail _ (.tail _ (.tail _ (.tail _ (.tail _ (.tail _ (.tail _ (List.mem_append_right _ (.tail _ (.tail _ (.tail _ (.head _)))))))))))) (nc_lst ys)⟩
        have q1 := offc c₁ oc₁ ⟨_, _, o₁⟩ hm1
        have q2 := offc c₂ oc₂ ⟨_, _, o₂⟩ hm2
        refine TurnEnd.intro F8 N8 ((64, tab64 c₂) :: (57, tab57 c₁) :: (((c₁, oc₁) :: (c₂, oc₂) :: ext2) ++ ((I, itR (1 + ((i + 1 : Nat) : Int)) ((c - (i + 1) : Nat) : Int)) :: (Kc, ok2) :: (C, oC₂) :: (D, LCg.lst ys) :: (ext ++ (tb ++ rest))))) rE (off3 ?off) ⟨tab57 c₁, tab64 c₂, (c₁, oc₁) :: (c₂, oc₂) :: ext2, rfl, ?h1, .inr ⟨c₁, oc₁, rfl, .head _, o₁⟩, .inr ⟨c₂, oc₂, rfl, .tail _ (.head _), o₂⟩, ?ia⟩
        case off =>
          refine List.forall_mem_cons.mpr ⟨⟨Nat.ne_of_lt gI2, Nat.ne_of_lt gC2, Nat.ne_of_lt gD2⟩, List.forall_mem_cons.mpr ⟨⟨lt57 gI2, lt57 gC2, lt57 gD2⟩, List.forall_mem_cons.mpr ⟨q1.1, List.forall_mem_cons.mpr ⟨q2.1, fun p hp => ?_⟩⟩⟩⟩
          exact ⟨offA7 I2 (.head _) p (.tail _ (.tail _ hp)), off7 p (.tail _ (.tail _ hp))⟩
        case h1 => exact List.forall_mem_cons.mpr ⟨⟨Nat.ne_of_gt i1, i3, q1.2⟩, List.forall_mem_cons.mpr ⟨⟨Nat.ne_of_gt (Nat.lt_trans (by decide) i2), Nat.ne_of_gt i2, q2.2⟩, hy1⟩⟩
        case ia =>
          have hlj : j < (row (i + 1)).length := by rw [row_len, hwd]; exact hj
          rw [List.take_succ_eq_append_getElem hlj]
          rw [row_at _ _ hlj]
          exact hzs.append (.cons _ _ .nil)
end
-- part M0
theorem tbl_dict {tb : List (Addr × Obj)} {ys : List Value} {c : Nat} (h0 : 0 < c) (h3 : c ≤ 3) (ht : TblAre tb ys c) : ∃ prs : List (Int × Value), prs.length = ys.length ∧ prs.length ≤ 3 ∧
    (∀ (i : Nat) (q : Int × Value), prs[i]? = some q → ∃ (t : Addr) (tk : Tok) (n : Nat), ys[i]? = some (Value.ref t) ∧ (t, tupO (.int q.1 tk) q.2 n) ∈ tb) ∧
    (∀ (i : Nat) (q : Int × Value), prs[i]? = some q → stored (prs.take i) q.1 q.2 = prs.take (i + 1)) ∧
    (∀ k : Nat, 0 < k → k ≤ c → ∃ (r : Nat) (vs : List Value) (ep : Nat), valueAt prs (k : Int) = some (.ref r) ∧ (r, W.listOf vs.toArray ep) ∈ tb ∧ IntsAre vs (row k)) ∧
    (∀ q ∈ prs, ∃ (r : Nat) (vs : List Value) (ep : Nat) (l : List Int), q.2 = .ref r ∧ (r, W.listOf vs.toArray ep) ∈ tb ∧ IntsAre vs l) := by
  have a := ht.ats
  have hl := ht.len
  rcases (by omega : c = 1 ∨ c = 2 ∨ c = 3) with rfl | rfl | rfl
  · obtain ⟨t0, k0, n0, r0, v0, e0, a0, b0, c0, d0⟩ := a 0 (by decide)
    refine ⟨[(1 + ((0 : Nat) : Int), .ref r0)], by rw [hl]; rfl, by simp, ?_, ?_, ?_, ?_⟩
    · rintro i q h
      match i, h with
      | 0, h => obtain rfl := Option.some.inj h; exact ⟨t0, k0, n0, a0, b0⟩
    · rintro i q h
      match i, h with
      | 0, h => obtain rfl := Option.some.inj h; rfl
    · intro k g0 g1
      obtain rfl : k = 1 := by omega
      exact ⟨r0, v0, e0, rfl, c0, d0⟩
    · intro q hq
      rw [List.mem_singleton.mp hq]
      exact ⟨r0, v0, e0, _, rfl, c0, d0⟩
  · obtain ⟨t0, k0, n0, r0, v0, e0, a0, b0, c0, d0⟩ := a 0 (by decide)
    obtain ⟨t1, k1, n1, r1, v1, e1, a1, b1, c1, d1⟩ := a 1 (by decide)
    refine ⟨[(1 + ((0 : Nat) : Int), .ref r0), (1 + ((1 : Nat) : Int), .ref r1)], by rw [hl]; rfl, by simp, ?_, ?_, ?_, ?_⟩
    · rintro i q h
      match i, h with
      | 0, h => obtain rfl := Option.some.inj h; exact ⟨t0, k0, n0, a0, b0⟩
      | 1, h => obtain rfl := Option.some.inj h; exact ⟨t1, k1, n1, a1, b1⟩
    · rintro i q h
      match i, h with
      | 0, h => obtain rfl := Option.some.inj h; rfl
      | 1, h => obtain rfl := Option.some.inj h; rfl
    · intro k g0 g1
      rcases (by omega : k = 1 ∨ k = 2) with rfl | rfl
      · exact ⟨r0, v0, e0, rfl, c0, d0⟩
      · exact ⟨r1, v1, e1, rfl, c1, d1⟩
    · exact List.forall_mem_cons.mpr ⟨⟨r0, v0, e0, _, rfl, c0, d0⟩, List.forall_mem_cons.mpr ⟨⟨r1, v1, e1, _, rfl, c1, d1⟩, fun _ h => nomatch h⟩⟩
  · obtain ⟨t0, k0, n0, r0, v0, e0, a0, b0, c0, d0⟩ := a 0 (by decide)
    obtain ⟨t1, k1, n1, r1, v1, e1, a1, b1, c1, d1⟩ := a 1 (by decide)
    obtain ⟨t2, k2, n2, r2, v2, e2, a2, b2, c2, d2⟩ := a 2 (by decide)
    refine ⟨[(1 + ((0 : Nat) : Int), .ref r0), (1 + ((1 : Nat) : Int), .ref r1), (1 + ((2 : Nat) : Int), .ref r2)], by rw [hl]; rfl, by simp, ?_, ?_, ?_, ?_⟩
    · rintro i q h
      match i, h with
      | 0, h => obtain rfl := Option.some.inj h; exact ⟨t0, k0, n0, a0, b0⟩
      | 1, h => obtain rfl := Option.some.inj h; exact ⟨t1, k1, n1, a1, b1⟩
      | 2, h => obtain rfl := Option.some.inj h; exact ⟨t2, k2, n2, a2, b2⟩
    · rintro i q h
      match i, h with
      | 0, h => obtain rfl := Option.some.inj h; rfl
      | 1, h => obtain rfl := Option.some.inj h; rfl
      | 2, h => obtain rfl := Option.some.inj h; rfl
    · intro k g0 g1
      rcases (by omega : k = 1 ∨ k = 2 ∨ k = 3) with rfl | rfl | rfl
      · exact ⟨r0, v0, e0, rfl, c0, d0⟩
      · exact ⟨r1, v1, e1, rfl, c1, d1⟩
      · exact ⟨r2, v2, e2, rfl, c2, d2⟩
    · exact List.forall_mem_cons.mpr ⟨⟨r0, v0, e0, _, rfl, c0, d0⟩, List.forall_mem_cons.mpr ⟨⟨r1, v1, e1, _, rfl, c1, d1⟩, List.forall_mem_cons.mpr ⟨⟨r2, v2, e2, _, rfl, c2, d2⟩, fun _ h => nomatch h⟩⟩⟩
-- part F1

/-- where a turn of a loop ends -/
inductive ForEnd (h₀ : Heap) (L : Addr) (s₁ : Shared) (I : Addr) (o : Obj) (J : (Str → Option Value) → List (Addr × Obj) → Prop) (s₂ : Shared) : Prop
  | mk (h' : Heap) (tk : Nat) (m' : Str → Option Value) (news' : List (Addr × Obj)) (_ : s₂ = { s₁ with heap := h', toks := tk }) (_ : Fr h₀ L h' m') (_ : News h₀ L h' ((I, o) :: news')) (_ : ∀ p ∈ news', p.1 ≠ I) (_ : J m' news')
def ForPost (h₀ : Heap) (L : Addr) (s₁ : Shared) (I : Addr) (o : Obj) (J : (Str → Option Value) → List (Addr × Obj) → Prop) (Q : Flow → Shared → Prop) (f : Flow) (s₂ : Shared) : Prop :=
  match f with
  | .ret v => Q (.ret v) s₂
  | .brk => Q .next s₂
  | _ => ForEnd h₀ L s₁ I o J s₂
theorem ForPost.intro {h₀ : Heap} {L : Addr} {s₁ : Shared} {I : Addr} {o : Obj} {J : (Str → Option Value) → List (Addr × Obj) → Prop} {Q : Flow → Shared → Prop} {h' : Heap} {tk : Nat} {m' : Str → Option Value} {all : List (Addr × Obj)} (F : Fr h₀ L h' m') (N : News h₀ L h' all) (news' : List (Addr × Obj))
    (sub : ∀ p ∈ (I, o) :: news', p ∈ all) (off : ∀ p ∈ news', p.1 ≠ I) (j : J m' news') : ForPost h₀ L s₁ I o J Q .next { s₁ with heap := h', toks := tk } := ⟨h', tk, m', news', rfl, F, fun p hp => N p (sub p hp), off, j⟩
section
variable {prog : Program} {w : World} {A : Around} {E : Value → Shared → Prop} {h₀ : Heap} {L : Addr} {Q : Flow → Shared → Prop} {target iter : Expr} {body : List Stmt} {env : Env} {pos : Pos}
inductive ForGo (prog : Program) (w : World) (A : Around) (E : Value → Shared → Prop) (h₀ : Heap) (L : Addr) (target : Expr) (body : List Stmt) (env : Env) (Q : Flow → Shared → Prop) (it : Value) (s : Shared) : Prop
  | mk (I : Addr) (o : Obj) (m : Str → Option Value) (news : List (Addr × Obj)) (St : Nat → Obj → Prop) (n : Nat) (P : Nat → Value → Prop) (S : List (Addr × Obj) → Prop) (J : Nat → (Str → Option Value) → List (Addr × Obj) → Prop)
    (_ : it = .ref I) (_ : ∀ m, IterK prog w A h₀ L m I St n P S) (_ : Fr h₀ L s.heap m) (_ : News h₀ L s.heap ((I, o) :: news)) (_ : ∀ p ∈ news, p.1 ≠ I) (_ : St 0 o) (_ : J 0 m news) (_ : ∀ i m news, J i m news → S news)
    (_ : ∀ i v o m news h tk, i < n → P i v → St (i + 1) o → J i m news → Fr h₀ L h m → News h₀ L h ((I, o) :: news) → (∀ p ∈ news, p.1 ≠ I) →
      wpAny (model prog w) A (assign target env v) (fun _ s₂ => wpAny (model prog w) A (execs body env) (ForPost h₀ L { s with heap := h, toks := tk } I o (J (i + 1)) Q) E s₂) E { s with heap := h, toks := tk })
    (_ : ∀ m news h tk, J n m news → Fr h₀ L h m → News h₀ L h news → Q .next { s with heap := h, toks := tk })
inductive ForInv (h₀ : Heap) (L I : Addr) (n : Nat) (St : Nat → Obj → Prop) (J : Nat → (Str → Option Value) → List (Addr × Obj) → Prop) (s₂ : Shared) (k : Nat) (s' : Shared) : Prop
  | mk (i : Nat) (h' : Heap) (tk : Nat) (o : Obj) (m : Str → Option Value) (news : List (Addr × Obj)) (_ : k = n - i) (_ : i ≤ n) (_ : s' = { s₂ with heap := h', toks := tk }) (_ : Fr h₀ L h' m) (_ : News h₀ L h' ((I, o) :: news)) (_ : ∀ p ∈ news, p.1 ≠ I) (_ : St i o) (_ : J i m news)
theorem forK {s : Shared} {x : Str} {px : Pos} (un_F : Fr h₀ L s.heap m₀) (h : wpAny (model prog w) A (eval iter env) (fun xv s₁ => wpAny (model prog w) A (pyIter xv) (ForGo prog w A E h₀ L (.Name x px) body env Q) E s₁) E s)
    (hs : ∀ x, foldedSetIterable iter env x = pure x := by intro _; rfl) (hE : PassesOwn (model prog w) A env E := by passes_own) :
    wpAny (model prog w) A (exec (.For (.Name x px) iter body [] pos) env) Q E s := by
  refine wpAny_For (wpAny_mono h (fun xv s₁ h₁ => wpAny_mono h₁ (fun it s₂ h₂ => ?_) fun _ _ e => e) fun _ _ e => e) hs
  obtain ⟨I, o, m, news, St, n, P, S, J, rfl, itk, F, N, off, hst, hJ, hS, turn, done⟩ := h₂
  refine codeAny_forLoop (ForInv h₀ L I n St J s₂) ?_ n
    ⟨0, s₂.heap, s₂.toks, o, m, news, rfl, Nat.zero_le _, rfl, F, N, off, hst, hJ⟩
  rintro k s' ⟨i, h', tk, o, m, news, rfl, hi, rfl, F', N', off', hst', hJ'⟩
  refine wpAny_passesOwn hE ?_
  by_cases hlt : i < n
  · refine (itk m).next i _ o news _ _ hlt hst' F' N' off' (hS _ _ _ hJ') fun v o' h1 tk1 hPv hst1 F1 N1 => ?_
    refine wpAny_passesOwn hE (wpAny_mono (turn i v o' m news h1 tk1 hlt hPv hst1 hJ' F1 N1 off') (fun _ s₂ h₂ => wpAny_passesOwn hE (wpAny_mono h₂ (fun f s₃ h₃ => ?_) fun _ _ e => e)) fun _ _ e => e)
    cases f with
    | ret v => exact h₃
    | brk => exact h₃
    | next =>
      obtain ⟨h4, tk4, m4, news4, rfl, F4, N4, off4, hJ4⟩ := h₃
      exact ⟨n - (i + 1), by omega, i + 1, h4, tk4, o', m4, news4, rfl, hlt, rfl, F4, N4, off4, hst1, hJ4⟩
    | cont =>
      obtain ⟨h4, tk4, m4, news4, rfl, F4, N4, off4, hJ4⟩ := h₃
      exact ⟨n - (i + 1), by omega, i + 1, h4, tk4, o', m4, news4, rfl, hlt, rfl, F4, N4, off4, hst1, hJ4⟩
  · obtain rfl : i = n := Nat.le_antisymm hi (Nat.not_lt.mp hlt)
    refine (itk m).stop _ o news _ _ hst' F' N' off' (hS _ _ _ hJ') fun h1 F1 N1 => ?_
    exact wpAny_execs_nil (done m news h1 tk hJ' F1 N1)
end
-- part M2
theorem tell_sum : ∀ c : Fin 3, ∀ x : Fin 40, (vals (c.1 + 1) (tell (c.1 + 1) x.1)).sum = (x.1 : Int) := by decide +kernel
theorem chosen_sum : ∀ c : Fin 3, ∀ i : Fin 20, i.1 < (chosen (c.1 + 4) (c.1 + 1)).length → (vals (c.1 + 1) ((chosen (c.1 + 4) (c.1 + 1)).getD i.1 [])).sum = (i.1 : Int) := by decide +kernel
theorem chosen_size : ∀ c : Fin 3, (chosen (c.1 + 4) (c.1 + 1)).length ≤ 20 := by decide +kernel
theorem chosen_in (c : Nat) : ∀ many, ∀ r ∈ chosen many c, ∀ x ∈ r, 0 ≤ x ∧ x < (many : Int) := by
  induction c with
  | zero => intro many r h x hx; rw [chosen, List.mem_singleton] at h; rw [h] at hx; cases hx
  | succ c ih =>
    intro many r h x hx
    rw [chosen, List.mem_flatMap] at h
    obtain ⟨p, hp, h⟩ := h
    rw [List.mem_map] at h
    obtain ⟨q, h1, rfl⟩ := h
    have hp := List.mem_range.mp hp
    rcases List.mem_cons.mp hx with rfl | hx
    · omega
    · have := ih p q h1 x hx
      omega
-- part M1

theorem ldEnv {M : Model} {A : Around} {E : Value → Shared → Prop} {s : Shared} {h₀ : Heap} {L : Addr} {m : Str → Option Value} {env : Env} {x : Str} {pos : Pos} {v : Value} {Q : Value → Shared → Prop} (F : Fr h₀ L s.heap m) (hL : env.locals = L) (hv : m x = some v) (h : Q v s)
    (hk : env.scope.kind = .function) (hl : env.kindOf x = some .local) (hd : (x == ("__debug__" : Str)) = false) : wpAny M A (eval (.Name x pos) env) Q E s := by
  subst hL
  exact wpAny_Name (wpAny_loadName_local hk hl F.ns hv h) hd
theorem low_of {D : Nat} (h : 64 < D) : (D == sysModules) = false := by
  rw [beq_eq_false_iff_ne]
  intro e
  rw [e] at h
  exact absurd h (by decide)
theorem ne_gt {a b c : Nat} (h : a < b) (h2 : c ≤ a) : b ≠ c := by omega
theorem rR {a b c d e x y u v : Addr × Obj} {tb : List (Addr × Obj)} : ∀ p ∈ a :: b :: c :: d :: e :: (x :: (tb ++ [u, v])), p ∈ x :: y :: (tb ++ ([a, b, c, d, e] ++ [u, v])) := by
  intro p hp
  simp only [List.mem_cons, List.mem_append, List.not_mem_nil, or_false, or_assoc] at hp ⊢
  rcases hp with h | h | h | h | h | h | h | h | h <;> simp [h]
theorem cons5 {I a b c d e : Nat} {oa ob oc od oe : Obj} {R : List (Addr × Obj)} (h1 : I ≠ a) (h2 : I ≠ b) (h3 : I ≠ c) (h4 : I ≠ d) (h5 : I ≠ e) (h : ∀ p ∈ R, p.1 ≠ I) : ∀ p ∈ (a, oa) :: (b, ob) :: (c, oc) :: (d, od) :: (e, oe) :: R, p.1 ≠ I :=
  List.forall_mem_cons.mpr ⟨Ne.symm h1, List.forall_mem_cons.mpr ⟨Ne.symm h2, List.forall_mem_cons.mpr ⟨Ne.symm h3, List.forall_mem_cons.mpr ⟨Ne.symm h4, List.forall_mem_cons.mpr ⟨Ne.symm h5, h⟩⟩⟩⟩⟩
theorem rS {a b c : Addr × Obj} {l : List (Addr × Obj)} : ∀ p ∈ a :: b :: c :: l, p ∈ a :: c :: b :: l := by
  intro p hp
  simp only [List.mem_cons] at hp ⊢
  rcases hp with h | h | h | h <;> simp [h]
theorem rS2 {b c : Addr × Obj} {l : List (Addr × Obj)} : ∀ p ∈ b :: c :: l, p ∈ c :: b :: l := by
  intro p hp
  simp only [List.mem_cons] at hp ⊢
  rcases hp with h | h | h <;> simp [h]
theorem rT {i t ss a b c d e x y r1 r2 r3 : Addr × Obj} {l : List (Addr × Obj)} : ∀ p ∈ i :: t :: ss :: a :: b :: c :: d :: e :: x :: y :: l, p ∈ x :: r1 :: r2 :: r3 :: y :: i :: t :: ss :: a :: b :: c :: d :: e :: l := by
  intro p hp
  simp only [List.mem_cons] at hp ⊢
  rcases hp with h | h | h | h | h | h | h | h | h | h | h <;> simp [h]
theorem rU {i k o a b c d e g1 g2 g3 g4 : Addr × Obj} {x r : List (Addr × Obj)} : ∀ p ∈ i :: o :: a :: b :: c :: d :: e :: k :: (x ++ r), p ∈ i :: k :: (x ++ (o :: g1 :: g2 :: g3 :: g4 :: a :: b :: c :: d :: e :: r)) := by
  intro p hp
  simp only [List.mem_cons, List.mem_append] at hp ⊢
  rcases hp with h | h | h | h | h | h | h | h | h | h <;> simp [h]
theorem rU2 {k o a b c d e g1 g2 g3 g4 : Addr × Obj} {x r : List (Addr × Obj)} : ∀ p ∈ o :: a :: b :: c :: d :: e :: k :: (x ++ r), p ∈ k :: (x ++ (o :: g1 :: g2 :: g3 :: g4 :: a :: b :: c :: d :: e :: r)) := by
  intro p hp
  simp only [List.mem_cons, List.mem_append] at hp ⊢
  rcases hp with h | h | h | h | h | h | h | h | h <;> simp [h]
theorem range_get (i lo : Nat) (h : lo < i) : ((List.range i).map fun k => ((k : Nat) : Int)).getD lo 0 = (lo : Int) := by
  rw [List.getD_eq_getElem?_getD, List.getElem?_map, List.getElem?_range h]
  rfl
theorem range_snoc (i : Nat) : ((List.range i).map fun k => ((k : Nat) : Int)).take i ++ (i : Int) :: ((List.range i).map fun k => ((k : Nat) : Int)).drop i = (List.range (i + 1)).map fun k => ((k : Nat) : Int) := by
  rw [List.take_of_length_le (by rw [List.length_map, List.length_range]; exact Nat.le_refl _), List.drop_of_length_le (by rw [List.length_map, List.length_range]; exact Nat.le_refl _), List.range_succ, List.map_append]
  rfl
theorem rV {o r i : Addr × Obj} {l : List (Addr × Obj)} : ∀ p ∈ o :: r :: i :: l, p ∈ r :: i :: o :: l := by
  intro p hp
  simp only [List.mem_cons] at hp ⊢
  rcases hp with h | h | h | h <;> simp [h]
theorem range_eq (n : Nat) : (List.range n).map (fun k => ((k : Nat) : Int)) = rangeKs 0 ((n : Int) - 0).toNat := by
  unfold rangeKs
  rw [Int.sub_zero, Int.toNat_natCast]
  exact List.map_congr_left fun k _ => (Int.zero_add _).symm
theorem rW {o r i : Addr × Obj} {l : List (Addr × Obj)} : ∀ p ∈ i :: o :: l, p ∈ o :: r :: i :: l := by
  intro p hp
  simp only [List.mem_cons] at hp ⊢
  rcases hp with h | h | h <;> simp [h]
theorem rQ {a b c d e x y : Addr × Obj} : ∀ p ∈ x :: y :: [a, b, c, d, e], p ∈ [a, b, c, d, e, x, y] := by
  intro p hp
  simp only [List.mem_cons, List.not_mem_nil, or_false] at hp ⊢
  rcases hp with h | h | h | h | h | h | h <;> simp [h]
/-- the invariants of the law's three loops -/
inductive Inv4 (la L D c : Nat) (R : List (Addr × Obj)) (m' : Str → Option Value) (news' : List (Addr × Obj)) : Prop
  | mk (_ : m' (Str.ofString "script") = some (.ref la)) (x5 x4 x3 x2 x1 : Obj) (tc : Tok) (v2 v4 v5 : Option Value) (_ : news' = (L + 1 + 1 + 1 + 1 + 1, x5) :: (L + 1 + 1 + 1 + 1, x4) :: (L + 1 + 1 + 1, x3) :: (L + 1 + 1, x2) :: (L + 1, x1) :: R)
    (_ : x1.data = .cell (some (.int (c : Nat) tc))) (_ : x2.data = .cell v2) (_ : x3.data = .cell (some (.ref D))) (_ : x4.data = .cell v4) (_ : x5.data = .cell v5)
inductive Inv5 (L D c Ds : Nat) (R : List (Addr × Obj)) (ws : List Value) (i : Nat) (news' : List (Addr × Obj)) : Prop
  | mk (x5 x4 x3 x2 x1 : Obj) (tc : Tok) (v2 v5 : Option Value) (tr tep : Nat) (tvs : List Value) (ns : List Nat) (R' : List (Addr × Obj)) (_ : news' = (tr, W.listOf tvs.toArray tep) :: (Ds, W.listOf ws.toArray 0) :: (L + 1 + 1 + 1 + 1 + 1, x5) :: (L + 1 + 1 + 1 + 1, x4) :: (L + 1 + 1 + 1, x3) :: (L + 1 + 1, x2) :: (L + 1, x1) :: R')
    (_ : x1.data = .cell (some (.int (c : Nat) tc))) (_ : x2.data = .cell v2) (_ : x3.data = .cell (some (.ref D))) (_ : x4.data = .cell (some (.ref tr))) (_ : x5.data = .cell v5) (_ : ∀ p ∈ R, p ∈ R') (_ : ToldAre c R' tvs ns) (_ : tvs.length = i) (_ : ∀ q ∈ R', @Ne Nat q.1 (L + 1 + 1 + 1 + 1 + 1)) (_ : ∀ q ∈ R', q.1 ≠ tr) (_ : @LT.lt Nat _ (L + 1 + 1 + 1 + 1 + 1) tr) (_ : @Ne Nat tr Ds)
inductive Inv6 (L D c ol rc cep : Nat) (R : List (Addr × Obj)) (cvs : List Value) (i : Nat) (m' : Str → Option Value) (news' : List (Addr × Obj)) : Prop
  | mk (_ : m' (Str.ofString "order") = some (.ref ol)) (_ : m' (Str.ofString "chosen") = some (.ref rc)) (x5 x4 x3 x2 x1 : Obj) (tc : Tok) (v2 v4 v5 : Option Value) (oep : Nat) (ocv : List Value) (_ : news' = (ol, W.listOf ocv.toArray oep) :: (L + 1 + 1 + 1 + 1 + 1, x5) :: (L + 1 + 1 + 1 + 1, x4) :: (L + 1 + 1 + 1, x3) :: (L + 1 + 1, x2) :: (L + 1, x1) :: (rc, W.listOf cvs.toArray cep) :: R)
    (_ : x1.data = .cell (some (.int (c : Nat) tc))) (_ : x2.data = .cell v2) (_ : x3.data = .cell (some (.ref D))) (_ : x4.data = .cell v4) (_ : x5.data = .cell v5) (_ : IntsAre ocv ((List.range i).map fun k => ((k : Nat) : Int)))
section
local macro_rules | `(tactic| walk_at "call type:dict") => `(tactic| (refine stop_here ?_))
local macro_rules | `(tactic| walk_at "exec For") => `(tactic| (refine stop_here ?_))
local macro_rules | `(tactic| walk_at "exec For Name Call cons nil") => `(tactic| (refine stop_here ?_))
local macro_rules | `(tactic| walk_at "exec For Name Name cons nil") => `(tactic| (refine stop_here ?_))
local macro_rules | `(tactic| walk_at "exec For Name Subscript cons nil") => `(tactic| (refine stop_here ?_))
local macro_rules | `(tactic| walk_at "eval Name") => `(tactic| (k_here; k_dflt (refine' ldEnv ?k1 ?z ?k2 ?_ ?a ?b ?c; (case k1 => k_asm); (case z => rfl); (case a => rfl); (case b => rfl); (case c => decide); (case k2 => ((repeat (refine (if_neg (by decide)).trans ?_)); first | exact if_pos rfl | assumption)); k_whole)))
local macro_rules | `(tactic| k_mem) => `(tactic| first | assumption | (repeat (first | exact List.mem_cons_self .. | apply List.mem_cons_of_mem | apply List.mem_append_right)))

theorem law_exec {prog : Program} {w : World} {p : Program} {loose : List Str} {mean : ExcName → Option Value} {mg mb : Str → Option Value} {params : Arguments} {body : List Stmt} {scope : Scope} (hb : lawDef = some (params, body, scope))
    (fa : Addr) (cd : Value) (h₀ : Heap) (L : Addr) (m : Str → Option Value) (s : Shared) (Q : Flow → Shared → Prop) (E : Value → Shared → Prop)
    (la : Addr) (vs : List Value) (script : List Int) (o1 o2 o3 o4 o5 : Obj)
    (B : Below callerA h₀ [] h₀) (F : Fr h₀ L s.heap m) (X : (lawTop.heap_39 w.params).In h₀) (N : News h₀ L s.heap [(L + 1 + 1 + 1 + 1 + 1, o5), (L + 1 + 1 + 1 + 1, o4), (L + 1 + 1 + 1, o3), (L + 1 + 1, o2), (L + 1, o1), (64, tabObj #[]), (57, tabObj #[])]) (T : Top p loose mean mg mb h₀)
    (d1 : o1.data = .cell none) (d2 : o2.data = .cell none) (d3 : o3.data = .cell none) (d4 : o4.data = .cell none) (d5 : o5.data = .cell none)
    (C57 : CodeHd h₀ 61 57) (C64 : CodeHd h₀ 68 64) (hm : m (Str.ofString "script") = some (.ref la)) (hl : h₀.IsList la vs.toArray) (hi : IntsAre vs script) (hlen : script.length ≤ 63) (hL : @LT.lt Nat _ 64 L)
    (hE : PassesOwn (model prog w) (callerA.deeper (envOfC (Str.ofString "law") scope L fa cd)) (envOfC (Str.ofString "law") scope L fa cd) E)
    (hret : ∀ m' h' tk', Fr h₀ L h' m' → GrownAt 64 h' → GrownAt 57 h' → Q (.ret (.bool true)) { s with heap := h', toks := tk' }) :
    wpAny (model prog w) (callerA.deeper (envOfC (Str.ofString "law") scope L fa cd)) (execs body (envOfC (Str.ofString "law") scope L fa cd)) Q E s := by
  have hf : PySem.Challenge.rw_gb0005_01 = PySem.Challenge.rw_gb0005_01 ∧ lawTop.heap_39 = lawTop.heap_39 := by
    k_fill
    exact ⟨rfl, rfl⟩
  clear hf
  w_top on
  conv at hb => lhs; whnf
  obtain ⟨rfl, rfl, rfl⟩ := hb
  k_steps
  obtain ⟨c, hce, hc0, hc3⟩ : ∃ c : Nat, 1 + script.sum.fmod 3 = (c : Int) ∧ 0 < c ∧ c ≤ 3 := by
    rw [Int.fmod_eq_emod_of_nonneg _ (by decide)]
    exact ⟨(1 + script.sum % 3).toNat, by omega, by omega, by omega⟩
  rename _ = Data.cell (some (Value.int (1 + _) _)) => dc
  rw [hce] at dc
  refine go_on ?_
  rename News _ _ _ _ => N1
  refine c2_spec rfl rfl fa cd h₀ h₀ L _ _ _ _ _ c _ _ B (by k_asm) X (fun p hp => N1 p (rQ p hp)) T C57 C64 ?g64 (by k_mem) dc hc0 hc3 ?_
  case g64 =>
    intro q hq
    simp only [List.mem_cons, List.not_mem_nil, or_false] at hq
    rcases hq with h | h | h | h | h <;> rw [h] <;> dsimp only <;> omega
  intro r ys tb pt qt h1 tk1 F1 N2 ht lt lr ne
  k_steps
  refine go_on ?_
  obtain ⟨prs, p1, p2, p3, p4, p5, p6⟩ := tbl_dict hc0 hc3 ht
  refine call_dict_pairs (prs := prs) rfl (by k_asm) N2 (.head _) p1 (by omega) (fun i q h => let ⟨t, tk, n, a, b⟩ := p3 i q h; ⟨t, tk, n, a, .tail _ (List.mem_append_left _ b)⟩) p4 ?_
  intro D od h2 tk2 lD F2 N3 hdo
  have gD5 : @LT.lt Nat _ (L + 1 + 1 + 1 + 1 + 1) D := lD (L + 1 + 1 + 1 + 1 + 1, o5) (.tail _ (List.mem_append_right _ (.head _)))
  have hRlt : ∀ q ∈ (D, od) :: (tb ++ [(64, tabObj pt), (57, tabObj qt)]), @LT.lt Nat _ (L + 1 + 1 + 1 + 1 + 1) q.1 ∨ @LT.lt Nat _ q.1 L := List.forall_mem_cons.mpr ⟨.inl gD5, fun q hq => (List.mem_append.mp hq).elim (fun h => .inl (lt q h (L + 1 + 1 + 1 + 1 + 1, o5) (.head _))) fun h => .inr (by
    simp only [List.mem_cons, List.not_mem_nil, or_false] at h
    rcases h with h | h <;> rw [h] <;> dsimp only <;> omega)⟩
  have hDm : (D == sysModules) = false := low_of (by omega)
  have htab : TableOk prog w D od prs c ((D, od) :: (tb ++ [(64, tabObj pt), (57, tabObj qt)])) := ⟨.head _, hdo, fun k a b => let ⟨r, vs, ep, x, y, z⟩ := p5 k a b; ⟨r, vs, ep, x, .tail _ (List.mem_append_left _ y), z⟩, fun q hq => let ⟨r, vs, ep, l, x, y, z⟩ := p6 q hq; ⟨r, vs, ep, l, x, .tail _ (List.mem_append_left _ y), z⟩, p2, hDm⟩
  have hG1 : (64, tabObj pt) ∈ (D, od) :: (tb ++ [(64, tabObj pt), (57, tabObj qt)]) := .tail _ (List.mem_append_right _ (.head _))
  have hG2 : (57, tabObj qt) ∈ (D, od) :: (tb ++ [(64, tabObj pt), (57, tabObj qt)]) := .tail _ (List.mem_append_right _ (.tail _ (.head _)))
  have N4 := fun p hp => N3 p (rR p hp)
  clear N3 N2 N1
  generalize hR : (D, od) :: (tb ++ [(64, tabObj pt), (57, tabObj qt)]) = R at hRlt htab N4 hG1 hG2
  have R1 : ∀ q ∈ R, q.1 ≠ L + 1 := fun q hq => by have := hRlt q hq; omega
  have R2 : ∀ q ∈ R, q.1 ≠ L + 1 + 1 := fun q hq => by have := hRlt q hq; omega
  have R3 : ∀ q ∈ R, q.1 ≠ L + 1 + 1 + 1 := fun q hq => by have := hRlt q hq; omega
  have R4 : ∀ q ∈ R, q.1 ≠ L + 1 + 1 + 1 + 1 := fun q hq => by have := hRlt q hq; omega
  have R5 : ∀ q ∈ R, q.1 ≠ L + 1 + 1 + 1 + 1 + 1 := fun q hq => by have := hRlt q hq; omega
  k_steps
  refine go_on ?_
  rename _ = Data.cell (some (Value.ref D)) => dtab
  refine c3_spec rfl rfl fa cd h₀ h₀ L _ _ _ _ _ c _ D od prs B (by k_asm) X (by k_asm) T (by k_mem) dtab (htab.sub fun p hp => .tail _ (.tail _ (.tail _ (.tail _ (.tail _ hp))))) ?_
  intro r3 h3 tk3 F3 N5 l3
  k_steps
  refine go_on ?_
  refine forK (by k_asm) ?_
  k_steps
  refine go_on ?_
  rename IsRange _ _ _ _ _ _ _ _ => hR2
  rename News _ _ _ _ => N6
  refine iter_rangeK (n := c - 1) (by k_asm) (fun p hp => N6 p (.tail _ (.tail _ hp))) hR2 (small_one (by omega) (by omega) (by omega) (by omega)) (by rw [rangeSize_nat]; omega) ?_
  intro I h4 lI F4 N7
  refine ⟨I, _, _, _, _, _, _, _, (fun _ m' news' => Inv4 la L D c R m' news'),
    rfl, fun m => IterK.range rfl 2 (c - 1), F4, N7, fun p hp => Nat.ne_of_lt (lI p hp), ⟨Nat.zero_le _, rfl⟩, ⟨hm, _, _, _, _, _, _, _, _, _, rfl, dc, d2, dtab, d4, d5⟩, fun _ _ _ _ => trivial, ?turn4, ?done4⟩
  case turn4 =>
    rintro i v o m' news' h5 tk5 hi9 ⟨t9, rfl⟩ ho ⟨hm', x5, x4, x3, x2, x1, tc, v2, v4, v5, rfl, y1, y2, y3, y4, y5⟩ F5 N8 off8
    have J1 : @Ne Nat I (L + 1) := Ne.symm (off8 (L + 1, x1) (by k_mem))
    have J2 : @Ne Nat I (L + 1 + 1) := Ne.symm (off8 (L + 1 + 1, x2) (by k_mem))
    have J3 : @Ne Nat I (L + 1 + 1 + 1) := Ne.symm (off8 (L + 1 + 1 + 1, x3) (by k_mem))
    have J4 : @Ne Nat I (L + 1 + 1 + 1 + 1) := Ne.symm (off8 (L + 1 + 1 + 1 + 1, x4) (by k_mem))
    have J5 : @Ne Nat I (L + 1 + 1 + 1 + 1 + 1) := Ne.symm (off8 (L + 1 + 1 + 1 + 1 + 1, x5) (by k_mem))
    k_steps
    rename _ = Data.cell (some (Value.int (2 + _) _)) => dk
    rw [show 2 + (i : Int) = ((i + 2 : Nat) : Int) by omega] at dk
    refine go_on ?_
    refine c4_spec rfl rfl fa cd h₀ h₀ L _ _ _ _ _ c (i + 2) _ _ _ D od prs B (by k_asm) X (by k_asm) T (by k_mem) dk (by k_mem) y3 (htab.sub fun p hp => .tail _ (.tail _ (.tail _ (.tail _ (.tail _ (.tail _ hp)))))) (by omega) (by omega) hc3 ?_
    intro r5 h6 tk6 F6 N9 l9
    k_steps
    rename News _ _ _ (_ :: (r5, _) :: _) => N10
    exact ForPost.intro (by k_asm) N10 _ (fun p hp => .tail _ (.tail _ hp)) (cons5 J5 J4 J3 J2 J1 fun p hp => off8 p (.tail _ (.tail _ (.tail _ (.tail _ (.tail _ hp)))))) ⟨hm', _, _, _, _, _, _, _, _, _, rfl, y1, dk, y3, y4, y5⟩
  case done4 =>
    rintro m' news' h5 tk5 ⟨hm', x5, x4, x3, x2, x1, tc, v2, v4, v5, rfl, y1, y2, y3, y4, y5⟩ F5 N8
    clear N7 N6
    k_steps
    refine go_on ?_
    refine forK (by k_asm) ?_
    k_steps
    rename_i tr0 hh9 l91 hh8 x4n d4n Ds ws hh7 F7 N10 hws hC7 hL7 l92
    refine go_on ?_
    refine iter_listK F7 N10 (.head _) fun I5 oI5 h6 hoI5 lI5 F8 N11 => ?_
    have hwl : ws.length ≤ 4 := by rw [hws.length]; omega
    have l93 := of_allLt l91.2.2.2.2.2
    have l94 := of_allLt l92.2.2.2.2.2.2
    refine ⟨I5, oI5, _, _, _, _, _, _, (fun i m' news' => Inv5 L D c Ds R ws i news'),
      rfl, fun m => IterK.list rfl Ds ws 0, F8, fun p hp => N11 p (rS p hp), ?off5, hoI5, ⟨_, _, _, _, _, _, _, _, _, _, [], [], R, rfl, y1, y2, y3, d4n, y5, fun p hp => hp, .nil, rfl, R5, fun q hq => Nat.ne_of_lt (l93 q hq), l91.1, Nat.ne_of_lt l92.1⟩, ?s5, ?turn5, ?done5⟩
    case off5 => exact fun p hp => Nat.ne_of_lt (lI5 p (rS2 p hp))
    case s5 =>
      rintro i m' news' ⟨x5, x4, x3, x2, x1, tc, v2, v5, tr, tep, tvs, ns, R', rfl, _⟩
      exact .tail _ (.head _)
    have gDs : @LT.lt Nat _ (L + 1 + 1 + 1 + 1 + 1) Ds := l92.2.1
    clear N11 N10 F7 F8 y1 y2 y3 y4 y5 d4n d1 d2 d3 d4 d5
    case turn5 =>
      rintro i v o m' news' h5 tk5 hi9 hv9 ho ⟨x5, x4, x3, x2, x1, tc, v2, v5, tr, tep, tvs, ns, R', rfl, y1, y2, y3, y4, y5, hRR, htold, htl, hR5, hRt, htr, htD⟩ F5 N8 off8
      obtain ⟨t9, rfl⟩ := hws.int_at i v hv9
      generalize (List.take 4 script).getD i 0 = z
      obtain ⟨x, hx, hx40⟩ : ∃ x : Nat, z.fmod 40 = (x : Int) ∧ x < 40 := by
        rw [Int.fmod_eq_emod_of_nonneg _ (by decide)]
        exact ⟨(z % 40).toNat, by omega, by omega⟩
      k_steps
      rename Fr _ _ _ _ => F9
      rw [hx] at F9 ⊢
      refine go_on ?_
      have htab' := htab.sub hRR
      refine law_places_spec _ _ _ _ _ _ _ _ _ _ _ _ _ _ _ _ _ _ x c _ _ D od prs (by k_asm) F9 (by k_asm) (by k_asm) (by k_asm) rfl (htab'.sub fun p hp => .tail _ (.tail _ (.tail _ (.tail _ (.tail _ (.tail _ (.tail _ (.tail _ hp)))))))) hx40 hc0 hc3 (by decide +kernel) (by decide +kernel) ?_
      intro pr ps pep h7 tk7 F10 N12 hps lps
      have K5 : @Ne Nat pr (L + 1 + 1 + 1 + 1 + 1) := Nat.ne_of_gt (lps (L + 1 + 1 + 1 + 1 + 1, x5) (by k_mem))
      have K6 : @Ne Nat I5 (L + 1 + 1 + 1 + 1 + 1) := Ne.symm (off8 (L + 1 + 1 + 1 + 1 + 1, x5) (by k_mem))
      have K7 : @Ne Nat I5 tr := Ne.symm (off8 (tr, W.listOf tvs.toArray tep) (by k_mem))
      have K8 : @Ne Nat pr tr := Nat.ne_of_gt (lps (tr, W.listOf tvs.toArray tep) (by k_mem))
      have K9 : ∀ q ∈ R', q.1 ≠ L + 1 + 1 + 1 + 1 + 1 := hR5
      k_steps
      rename _ = Data.cell (some (Value.ref pr)) => dpl
      refine go_on ?_
      refine c6_spec rfl rfl fa cd h₀ h₀ L _ _ _ _ _ c x _ _ _ pr ps pep B (by k_asm) X (by k_asm) T (by k_mem) y1 (by k_mem) dpl (by k_mem) hps hx40 hc0 hc3 ?_
      intro r8 h8 tk8 F11 N13 l13
      have htf := tell_facts ⟨c, by omega⟩ ⟨x, hx40⟩
      have htel : (tell c x).length = c := htf.1
      have hlast : 0 ≤ (tell c x).getD (-1 + ((tell c x).length : Int)).toNat 0 := by
        rw [htel, show (-1 + (c : Int)).toNat = c - 1 by omega]
        exact (htf.2.2 ⟨c - 1, by omega⟩ (by show c - 1 < c; omega)).1
      k_steps
      refine go_on ?_
      refine cS_spec rfl rfl fa cd h₀ h₀ L _ _ _ _ _ c _ _ _ _ pr ps pep (tell c x) D od prs B (by k_asm) X (by k_asm) T (by k_mem) y1 (by k_mem) y3 (by k_mem) dpl (by k_mem) hps htel (fun i hi => htf.2.2 ⟨i, by omega⟩ hi) (htab'.sub fun p hp => .tail _ (.tail _ (.tail _ (.tail _ (.tail _ (.tail _ (.tail _ (.tail _ (.tail _ (.tail _ (.tail _ hp))))))))))) hc0 hc3 ?_
      intro rs ysv h9 tk9 F12 N14 l14 hys
      have hsum : (vals c (tell c x)).sum = (x : Int) := by
        have := tell_sum ⟨c - 1, by omega⟩ ⟨x, hx40⟩
        rw [show (⟨c - 1, by omega⟩ : Fin 3).1 + 1 = c by show c - 1 + 1 = c; omega] at this
        exact this
      have hvl := vals_len c (tell c x)
      have K10 : @Ne Nat rs tr := Nat.ne_of_gt (l14 (tr, W.listOf tvs.toArray tep) (by k_mem))
      have K11 : @Ne Nat r8 tr := Nat.ne_of_gt (l13 (tr, W.listOf tvs.toArray tep) (by k_mem))
      have K12 : tvs.toArray.size ≤ 64 := by rw [List.size_toArray, htl]; omega
      k_steps
      · exfalso
        exact absurd hsum (by assumption)
      · rename News _ _ _ ((_, { cls := .type "tuple", data := _ }) :: _) => N15
        rename _ ∧ _ ∧ _ ∧ _ ∧ _ ∧ _ ∧ _ ∧ _ ∧ _ ∧ _ ∧ _ ∧ _ ∧ AllLt _ _ => l15
        rw [List.push_toArray] at N15
        refine ForPost.intro (by k_asm) N15 _ rT (List.forall_mem_cons.mpr ⟨Ne.symm K7, List.forall_mem_cons.mpr ⟨off8 (Ds, W.listOf ws.toArray 0) (by k_mem), cons5 K6 (Ne.symm (off8 (L + 1 + 1 + 1 + 1, x4) (by k_mem))) (Ne.symm (off8 (L + 1 + 1 + 1, x3) (by k_mem))) (Ne.symm (off8 (L + 1 + 1, x2) (by k_mem))) (Ne.symm (off8 (L + 1, x1) (by k_mem))) (List.forall_mem_cons.mpr ⟨Nat.ne_of_gt l15.2.2.2.2.1, List.forall_mem_cons.mpr ⟨Nat.ne_of_gt (lps (I5, o) (by k_mem)), fun p hp => off8 p (.tail _ (.tail _ (.tail _ (.tail _ (.tail _ (.tail _ (.tail _ hp)))))))⟩⟩)⟩⟩) ⟨_, x4, x3, x2, x1, tc, v2, _, tr, tep + 1, tvs ++ [_], ns ++ [x], _ :: _ :: R', rfl, y1, y2, y3, y4, dpl, fun p hp => .tail _ (.tail _ (hRR p hp)), (htold.sub fun p hp => .tail _ (.tail _ hp)).append (.cons (.head _) (.tail _ (.head _)) hps hx40 .nil), ?len, ?r5, ?rt, htr, htD⟩
        case len => rw [List.length_append, htl]; rfl
        case r5 => exact List.forall_mem_cons.mpr ⟨Nat.ne_of_gt l15.2.2.2.2.2.2.2.1, List.forall_mem_cons.mpr ⟨Nat.ne_of_gt (lps (L + 1 + 1 + 1 + 1 + 1, x5) (by k_mem)), hR5⟩⟩
        case rt => exact List.forall_mem_cons.mpr ⟨Nat.ne_of_gt l15.2.2.2.2.2.1, List.forall_mem_cons.mpr ⟨K8, hRt⟩⟩
    case done5 =>
      rintro m' news' h5 tk5 ⟨x5, x4, x3, x2, x1, tc, v2, v5, tr, tep, tvs, ns, R', rfl, y1, y2, y3, y4, y5, hRR, htold, htl, hR5, hRt, htr, htD⟩ F5 N8
      k_steps
      refine go_on ?_
      refine c7_spec rfl rfl fa cd h₀ h₀ L _ _ _ _ _ c _ tr tvs tep ns B (by k_asm) X (by k_asm) T (by k_mem) y4 (by k_mem) (htold.sub fun p hp => .tail _ (.tail _ (.tail _ (.tail _ (.tail _ (.tail _ (.tail _ hp))))))) hc0 hc3 ?_
      intro r7 h7 tk7 F9 N9 l9
      k_steps
      rw [show (c : Int) + 3 = ((c + 3 : Nat) : Int) by omega]
      refine go_on ?_
      have hch : ChosenSpec prog w p loose mean mg mb c := law_chosen_spec c hc3
      unfold ChosenSpec at hch
      refine hch _ _ _ _ _ _ _ _ _ _ _ _ _ _ _ _ _ _ (c + 3) _ _ (by k_asm) (by k_asm) (by k_asm) (by k_asm) (by k_asm) rfl (by omega) (Nat.lt_of_le_of_lt (Nat.add_le_add_left (by omega : 10 * (c + 1) ≤ 40) _) (by decide +kernel)) (Nat.lt_of_le_of_lt (Nat.add_le_add_left (by omega : 100 * (c + 1) ≤ 400) _) (by decide +kernel)) ?_
      intro rc cvs cep ext h8 tk8 F10 N10 hcv lcv lext next
      k_steps
      rename_i ld hq1 lq1 ol hq2 lq2 hq3 hq4 F11 N11
      have hcl := hcv.length
      refine go_on ?_
      refine forK (by k_asm) ?_
      k_steps
      refine go_on ?_
      refine iter_listK (by k_asm) N11 (.head _) fun I6 oI6 h9 hoI6 lI6 F12 N12 => ?_
      have gol : @LT.lt Nat _ (L + 1 + 1 + 1 + 1 + 1) ol := lq2.2.2.2.2.1
      have lolR := of_allLt lq2.2.2.2.2.2.2.2.2.2
      have hR6 : ∀ q ∈ (rc, W.listOf cvs.toArray cep) :: (ext ++ R'), @Ne Nat q.1 (L + 1 + 1 + 1 + 1 + 1) := List.forall_mem_cons.mpr ⟨Nat.ne_of_gt (lcv (L + 1 + 1 + 1 + 1 + 1, x5) (by k_mem)), fun q hq => (List.mem_append.mp hq).elim (fun h => Nat.ne_of_gt (lext q h (L + 1 + 1 + 1 + 1 + 1, x5) (by k_mem))) fun h => hR5 q h⟩
      have hRo : ∀ q ∈ (rc, W.listOf cvs.toArray cep) :: (ext ++ R'), q.1 ≠ ol := List.forall_mem_cons.mpr ⟨Nat.ne_of_gt (lcv (ol, W.listOf #[] 0) (by k_mem)), fun q hq => (List.mem_append.mp hq).elim (fun h => Nat.ne_of_gt (lext q h (ol, W.listOf #[] 0) (by k_mem))) fun h => Nat.ne_of_lt (lolR q h)⟩
      refine ⟨I6, oI6, _, _, _, _, _, _, (fun i m' news' => Inv6 L D c ol rc cep (ext ++ R') cvs i m' news'),
        rfl, fun m => IterK.list rfl rc cvs cep, F12, fun p hp => N12 p (rU p hp), ?off6, hoI6, ⟨(if_neg (by decide)).trans (if_pos rfl), if_pos rfl, x5, x4, x3, x2, x1, tc, v2, _, v5, 0, [], rfl, y1, y2, y3, y4, y5, .nil⟩, ?s6, ?turn6, ?done6⟩
      case off6 => exact fun p hp => Nat.ne_of_lt (lI6 p (rU2 p hp))
      case s6 =>
        rintro i m' news' ⟨_, _, x5, x4, x3, x2, x1, tc, v2, v4, v5, oep, ocv, rfl, _⟩
        exact .tail _ (.tail _ (.tail _ (.tail _ (.tail _ (.tail _ (.head _))))))
      clear N12 N11 F11 F12 y1 y2 y3 y4 y5
      case turn6 =>
        rintro i v o m' news' h5 tk5 hi9 hv9 ho ⟨ho1, ho2, x5, x4, x3, x2, x1, tc, v2, v4, v5, oep, ocv, rfl, y1, y2, y3, y4, y5, hoc⟩ F5 N8 off8
        have hi' : i < (chosen (c + 3) c).length := by rw [← hcl]; exact hi9
        obtain ⟨a, rw9, rep, e9, hma, hia⟩ := hcv.at i _ (List.getElem?_eq_getElem hi')
        obtain rfl : v = .ref a := by rw [hv9] at e9; exact Option.some.inj e9
        have K6 : @Ne Nat I6 (L + 1 + 1 + 1 + 1 + 1) := Ne.symm (off8 (L + 1 + 1 + 1 + 1 + 1, x5) (by k_mem))
        have K7 : @Ne Nat I6 ol := Ne.symm (off8 (ol, W.listOf ocv.toArray oep) (by k_mem))
        have K9 : ∀ q ∈ ext ++ R', q.1 ≠ L + 1 + 1 + 1 + 1 + 1 := fun q hq => hR6 q (.tail _ hq)
        have K10 : @Ne Nat rc (L + 1 + 1 + 1 + 1 + 1) := hR6 (rc, _) (.head _)
        k_steps
        rename _ = Data.cell (some (Value.ref a)) => dpl
        rename News _ _ _ ((I6, _) :: _) => N13
        refine go_on ?_
        have hszc := chosen_size ⟨c - 1, by omega⟩
        have hsmc := chosen_sum ⟨c - 1, by omega⟩
        simp only [show c - 1 + 4 = c + 3 by omega, show c - 1 + 1 = c by omega] at hszc hsmc
        have hi20 : i < 20 := by omega
        have hsum : (vals c (chosen (c + 3) c)[i]).sum = (i : Int) := by
          have := hsmc ⟨i, hi20⟩ hi'
          dsimp only at this
          rw [List.getD_eq_getElem?_getD, List.getElem?_eq_getElem hi'] at this
          exact this
        have hrl := chosen_row_len c (c + 3) _ (List.getElem_mem hi')
        refine cT_spec rfl rfl fa cd h₀ h₀ L _ _ _ _ _ c _ _ _ _ a rw9 rep (chosen (c + 3) c)[i] D od prs B (by k_asm) X N13 T (by k_mem) y1 (by k_mem) y3 (by k_mem) dpl (.tail _ (.tail _ (.tail _ (.tail _ (.tail _ (.tail _ (.tail _ (.tail _ (List.mem_append_left _ hma))))))))) hia hrl ?hpl (htab.sub fun p hp => .tail _ (.tail _ (.tail _ (.tail _ (.tail _ (.tail _ (.tail _ (.tail _ (List.mem_append_right _ (hRR p hp)))))))))) hc0 hc3 ?_
        case hpl =>
          intro j hj
          have hj' : j < ((chosen (c + 3) c)[i]).length := by rw [hrl]; exact hj
          rw [List.getD_eq_getElem?_getD, List.getElem?_eq_getElem hj']
          have := chosen_in c (c + 3) _ (List.getElem_mem hi') _ (List.getElem_mem hj')
          have w := wid_pos (c - j)
          simp only [Option.getD_some]
          omega
        intro rs ysv h10 tk10 F12 N14 l14 hys
        have hvl := vals_len c (chosen (c + 3) c)[i]
        k_steps
        rw [hsum]
        rename News _ _ _ ((rs, _) :: (I6, _) :: _) => N15
        have K11 : @Ne Nat rs ol := Nat.ne_of_gt (l14 (ol, W.listOf ocv.toArray oep) (by k_mem))
        refine go_on ?_
        refine insort_left_spec _ _ _ _ _ _ _ _ _ _ _ _ _ _ _ _ _ _ (i : Int) _ ol _ ocv oep (by k_asm) (by k_asm) (by k_asm) (fun p hp => N15 p (rV p hp)) (by k_asm) rfl (List.forall_mem_cons.mpr ⟨K11, List.forall_mem_cons.mpr ⟨K7, cons5 (by omega) (by omega) (by omega) (by omega) (by omega) hRo⟩⟩) hoc (by rw [List.length_map, List.length_range]; omega) (by decide +kernel) (by decide +kernel) ?_
        intro lo vs' h11 tk11 F13 N16 hvs hlo hp hq
        rw [List.length_map, List.length_range] at hlo hq
        have hloi : lo = i := by
          rcases hq with h | h
          · exact h
          · rcases Nat.lt_or_ge lo i with h2 | h2
            · rw [range_get i lo h2] at h
              omega
            · omega
        subst hloi
        rw [range_snoc] at hvs
        k_steps
        exact ForPost.intro (by k_asm) N16 _ rW (List.forall_mem_cons.mpr ⟨Ne.symm K7, cons5 K6 (Ne.symm (off8 (L + 1 + 1 + 1 + 1, x4) (by k_mem))) (Ne.symm (off8 (L + 1 + 1 + 1, x3) (by k_mem))) (Ne.symm (off8 (L + 1 + 1, x2) (by k_mem))) (Ne.symm (off8 (L + 1, x1) (by k_mem))) fun p hp => off8 p (.tail _ (.tail _ (.tail _ (.tail _ (.tail _ (.tail _ hp))))))⟩) ⟨ho1, ho2, _, x4, x3, x2, x1, tc, v2, v4, _, oep + 1, vs', rfl, y1, y2, y3, y4, dpl, hvs⟩
      case done6 =>
        rintro m' news' h5 tk5 ⟨ho1, ho2, x5, x4, x3, x2, x1, tc, v2, v4, v5, oep, ocv, rfl, y1, y2, y3, y4, y5, hoc⟩ F5 N8
        have hszc := chosen_size ⟨c - 1, by omega⟩
        simp only [show c - 1 + 4 = c + 3 by omega, show c - 1 + 1 = c by omega] at hszc
        have hcs : cvs.toArray.size = cvs.length := List.size_toArray ..
        have hcl20 : cvs.length ≤ 20 := by omega
        k_steps
        rw [decide_eq_true (range_eq cvs.length)]
        rename News _ _ _ ((_, W.listOf _ _) :: (ol, _) :: _) => N9z
        exact hret m' _ _ (by k_asm) (GrownAt.of N9z (.tail _ (.tail _ (.tail _ (.tail _ (.tail _ (.tail _ (.tail _ (.tail _ (List.mem_append_right _ (hRR _ hG1))))))))))) (GrownAt.of N9z (.tail _ (.tail _ (.tail _ (.tail _ (.tail _ (.tail _ (.tail _ (.tail _ (List.mem_append_right _ (hRR _ hG2)))))))))))
end
-- part L1
theorem zz : PySem.Challenge.rw_gb0005_01.Holds := lawTop (by
  k_go0
  refine law_exec (params := _) (body := _) (scope := _) (p := topProg) rfl _ _ _ _ _ _ _ _ _ _ _ _ _ _ _ _ (by k_asm) (by k_asm) (by k_asm) (by k_asm) (by k_asm) (by k_dflt assumption) (by k_dflt assumption) (by k_dflt assumption) (by k_dflt assumption) (by k_dflt assumption) (by assumption) (by assumption) rfl (by assumption) (by assumption) ?_ ?_ ?_ ?_
  · omega
  · rename 64 < _ ∧ _ => l0
    exact l0.1
  · exact PySem.PassesOwn.leaving
  · intro m' h' tk' F9 g1 g2
    dsimp only
    refine ⟨?good, g1, g2, trivial⟩
    refine goodW_bool F9 (by assumption) ?hn ?hp rfl
    case hn => first | (intro cls; rfl) | wrow_none_raised
    case hp => first | wrow_post | kc_post)
end Mine
theorem PySem.Challenge.cw_gb0005_01_holds : PySem.Challenge.rw_gb0005_01.Holds :=
  Mine.zz
