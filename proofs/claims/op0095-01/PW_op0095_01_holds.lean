import PyProof.Rows.All
import Wide.All
import OpenK.AllK
import Wide.FinOn
import PySem.Challenge.RW_op0095_01
open PySem PySem.W PyProof PyProof.Rows PySem.Calls
set_option Elab.async false
set_option maxRecDepth 100000
set_option maxHeartbeats 0
set_option rowWalk.seconds 0
set_option linter.all false
namespace Mine

-- part Hd
open_top hd for PySem.Challenge.rw_op0095_01


-- part Ru
theorem off_Ru : True := by
  w_top off
  k_with_none
  k_with "omega" => first | (kjx_bare; omega (config := {})) | ((fail_if_success (fail_if_success (omega (config := {})))); law_clear; lia)
  exact True.intro
abbrev tup2 (v1 v2 : Value) : Obj := { cls := .type "tuple", data := .seq #[v1, v2] }
theorem log2_of_bits {b : Int} {k : Nat} (h : Builtin.Int.intBits b ≤ k) (hk : 0 < k) : b.natAbs.log2 < k := by
  unfold Builtin.Int.intBits at h
  split at h
  · rename_i e
    rw [beq_iff_eq] at e
    subst e
    exact hk
  · omega
theorem divmod_K {prog : Program} {w : World} {A : Around} {E : Value → Shared → Prop} {s : Shared} {x b : Int} {t u : Tok} {Q : Value → Shared → Prop} {h₀ : Heap} {L : Addr} {m : Str → Option Value} {news : List (Addr × Obj)}
    (F : Fr h₀ L s.heap m) (N : News h₀ L s.heap news) (hb : b ≠ 0) (hz : Builtin.Int.intBits b ≤ 9000)
    (h : ∀ D h', Fr h₀ L h' m → News h₀ L h' ((D, tup2 (.int (x.fdiv b) s.toks) (.int (x.fmod b) (s.toks + 1))) :: news) → (∀ p ∈ news, p.1 < D) → Q (.ref D) { s with toks := s.toks + 1 + 1, heap := h' }) :
    wpAny (model prog w) A (call (.builtin "divmod") [.int x t, .int b u]) Q E s :=
  divmod_N F N hb (fun h' F' N' => h _ h' F' N' fun p hp => Heap.lt_size (N p hp).1) (.inl (noPylong_of_log2 (log2_of_bits hz (by decide))))
theorem shl_ok {x n : Int} (h : Builtin.Int.intBits x ≤ 60000) (hn : n ≤ 60000) : (Builtin.Int.intBits x : Int) + n ≤ 2 ^ 27 := by
  have : (2 : Int) ^ 27 = 134217728 := by decide
  omega
theorem mul_ok {x y : Int} (h : Builtin.Int.intBits x ≤ 60000) (h' : Builtin.Int.intBits y ≤ 60000) : IntMulOk x y := mulOk_of_bits h h' (by decide)
theorem bits_lt {x : Int} {k : Nat} (h0 : 0 ≤ x) (h : x < 2 ^ k) : Builtin.Int.intBits x ≤ k := by
  refine intBits_le_iff.mpr ?_
  have := kbt_cast k
  omega
theorem lt_bits {x : Int} {k : Nat} (h : Builtin.Int.intBits x ≤ k) : x < 2 ^ k := by
  have := intBits_le_iff.mp h
  have := kbt_cast k
  omega
theorem low_and (k : Nat) : ∀ (r y : Int), 0 ≤ y → y < 2 ^ k → Builtin.bitAnd (r * 2 ^ k) y = 0 := by
  induction k with
  | zero =>
    intro r y h0 h1
    have : y = 0 := by simp at h1; omega
    rw [this, bitAnd_zero]
  | succ k ih =>
    intro r y h0 h1
    rw [kbt_halves]
    have e1 : r * 2 ^ (k + 1) = 2 * (r * 2 ^ k) := by rw [Int.pow_succ, ← Int.mul_assoc, Int.mul_comm _ 2]
    rw [Int.pow_succ] at h1
    have e2 : 2 * (r * 2 ^ k) / 2 = r * 2 ^ k := by omega
    rw [e1, e2, ih r (y / 2) (by omega) (by omega), if_neg (by omega)]
    rfl
theorem or_low {r y : Int} {k : Nat} (h0 : 0 ≤ y) (h1 : y < 2 ^ k) : Builtin.bitOr (r * 2 ^ k) y = r * 2 ^ k + y := by
  rw [bitOr_and, low_and k r y h0 h1]; omega
theorem high_and (k : Nat) : ∀ (x : Int), Builtin.bitAnd x (x / 2 ^ k * 2 ^ k) = x / 2 ^ k * 2 ^ k := by
  induction k with
  | zero => intro x; simp [bitAnd_self]
  | succ k ih =>
    intro x
    rw [kbt_halves]
    have e0 : x / 2 ^ (k + 1) = x / 2 / 2 ^ k := by rw [Int.pow_succ, Int.mul_comm, Int.ediv_ediv_of_nonneg (by decide)]
    have e1 : x / 2 ^ (k + 1) * 2 ^ (k + 1) = 2 * (x / 2 / 2 ^ k * 2 ^ k) := by rw [e0, Int.pow_succ, ← Int.mul_assoc, Int.mul_comm _ 2]
    have e2 : 2 * (x / 2 / 2 ^ k * 2 ^ k) / 2 = x / 2 / 2 ^ k * 2 ^ k := by omega
    rw [e1, e2, ih (x / 2), if_neg (by omega)]
    omega
theorem xor_high (x : Int) (k : Nat) : Builtin.bitXor x (x / 2 ^ k * 2 ^ k) = x % 2 ^ k := by
  rw [bitXor_and, high_and]
  have := Int.emod_add_mul_ediv x (2 ^ k)
  have e := Int.mul_comm (2 ^ k) (x / 2 ^ k)
  omega
theorem allLt_mem {d : Nat} {l : List (Addr × Obj)} (h : AllLt d l) : ∀ p ∈ l, p.1 < d := by
  induction l with
  | nil => intro p hp; cases hp
  | cons q r ih =>
    intro p hp
    rcases List.mem_cons.mp hp with e | hp
    · rw [e]; exact h.1
    · exact ih h.2 p hp
theorem zeros_K {prog : Program} {w : World} {A : Around} {E : Value → Shared → Prop} {s : Shared} {h₀ : Heap} {L : Addr} {m : Str → Option Value} {news : List (Addr × Obj)} {l : Addr} {n0 : Nat} {t0 : Tok} {x : Int} {u : Tok} {Q : Value → Shared → Prop}
    (F : Fr h₀ L s.heap m) (N : News h₀ L s.heap news) (hm : (l, listOf #[.int 0 t0] n0) ∈ news) (hx0 : 0 ≤ x) (hx1 : x ≤ 1000)
    (h : ∀ D h' vs' (ns' : List Int), Fr h₀ L h' m → News h₀ L h' ((D, listOf (List.toArray vs') 0) :: news) → (∀ p ∈ news, p.1 < D) → (ns'.length : Int) = x → IntsAre vs' ns' → Q (.ref D) { s with heap := h' }) :
    wpAny (model prog w) A (binaryOp .Mult (.ref l) (.int x u)) Q E s := by
  refine KM.mul F N (vs := [.int 0 t0]) (ns := [0]) ⟨_, (N _ hm).1, rfl, n0, rfl⟩ (.cons _ _ .nil) (by omega) (by omega) (by simp; omega) fun D h' F' N' l1 hI n e1 e2 e3 e4 => h D h' _ _ F' N' l1 ?_ hI
  rw [krep_flat, List.length_replicate]; omega
theorem reverse_K {prog : Program} {w : World} {A : Around} {E : Value → Shared → Prop} {s : Shared} {h₀ : Heap} {L D : Addr} {m : Str → Option Value} {news news' : List (Addr × Obj)} {vs : List Value} {n : Nat} {Q : Value → Shared → Prop}
    (F : Fr h₀ L s.heap m) (N : News h₀ L s.heap news) (U : Upd D (listOf vs.toArray n) (listOf vs.reverse.toArray n) news news') (hz : vs.length ≤ 1000)
    (h : ∀ h', Fr h₀ L h' m → News h₀ L h' news' → Q .none { s with heap := h' }) : wpAny (model prog w) A (call (.builtin "list.reverse") [.ref D]) Q E s :=
  kl_reverse F N (by simp) U (by rw [PySem.sizeLine_eq]; simp; omega) h
theorem mod_gen {prog : Program} {w : World} {A : Around} {E : Value → Shared → Prop} {s : Shared} {x b : Int} {t u : Tok} {Q : Value → Shared → Prop} (hb : 0 < b) (hb' : b < 1000000)
    (h : ∀ r, 0 ≤ r → r < b → Q (.int r s.toks) { s with toks := s.toks + 1 }) : wpAny (model prog w) A (binaryOp .Mod (.int x t) (.int b u)) Q E s :=
  mod_int' (Int.ne_of_gt hb) (h _ (fmod_lo x hb) (fmod_hi x hb))
/-- one, or two to the 4100th -/
def UnitIs (U : Int) : Prop := U = 1 ∨ U = 2 ^ 4100
theorem UnitIs.bits {U : Int} (h : UnitIs U) : Builtin.Int.intBits U ≤ 8201 := by
  rcases h with h | h
  · rw [h]; decide
  · rw [h]; exact Nat.le_trans (intBits_pow_le (m := 2) (by decide) 4100) (by decide)
theorem pow_unit {prog : Program} {w : World} {A : Around} {E : Value → Shared → Prop} {s : Shared} {e : Int} {t u : Tok} {Q : Value → Shared → Prop} (h0 : 0 ≤ e) (h1 : e < 2)
    (h : ∀ U, UnitIs U → Builtin.Int.intBits U ≤ 8201 → Q (.int U s.toks) { s with toks := s.toks + 1 }) : wpAny (model prog w) A (binaryOp .Pow (.int 2 t) (.int (e * 4100) u)) Q E s := by
  have hu : UnitIs ((2 : Int) ^ (e * 4100).toNat) := by
    rcases (show e = 0 ∨ e = 1 by omega) with rfl | rfl
    · exact .inl rfl
    · exact .inr rfl
  refine pow_int (by omega) ?_ (h _ hu hu.bits)
  have : Builtin.Int.intBits 2 = 2 := by decide
  rw [this]
  have : (2 : Int) ^ 27 = 134217728 := by decide
  omega

local macro_rules | `(tactic| k_steps) => `(tactic| repeat' (first
  | (k_unfold; (try dsimp only))
  | ((fail_if_success k_extra "guard"); (first | walk1 | (dsimp only; walk1) | (leave1; try dsimp only)))
  | k_extra "my stop"))
local macro_rules | `(tactic| k_all) => `(tactic| assumption)
local macro_rules | `(tactic| k_mem) => `(tactic| k_extra "k_mem")
local macro_rules | `(tactic| omega) => `(tactic| k_extra "omega")
local macro_rules | `(tactic| walk_at $s:str) => `(tactic| k_extra $s)

-- part Sd
theorem off_Sd : True := by
  w_top off
  k_with_none
  k_with "omega" => first | (kjx_bare; omega (config := {})) | ((fail_if_success (fail_if_success (omega (config := {})))); law_clear; lia)
  exact True.intro
/-- bubbling up: x comes to rest on its way from pos to the root -/
def sdown (x : Int) (ns : List Int) (pos : Nat) : List Int :=
  if h : pos = 0 then ns.set pos x
  else if ns.getD ((pos - 1) / 2) 0 < x then sdown x (ns.set pos (ns.getD ((pos - 1) / 2) 0)) ((pos - 1) / 2)
  else ns.set pos x
termination_by pos
decreasing_by omega
theorem half_nat {z : Int} (h : 0 < z) : ((z - 1) / 2).toNat = (z.toNat - 1) / 2 := by omega
theorem sd_step {x z : Int} {ns r : List Int} (h0 : 0 < z) (h : ns.getD ((z - 1) / 2).toNat 0 < x) (e : sdown x ns z.toNat = r) : sdown x (ns.set z.toNat (ns.getD ((z - 1) / 2).toNat 0)) ((z - 1) / 2).toNat = r := by
  subst e
  rw [half_nat h0] at h ⊢
  conv => rhs; rw [sdown]
  rw [dif_neg (by omega), if_pos h]
theorem sd_stay {x z : Int} {ns r : List Int} (h0 : 0 < z) (h : ¬ ns.getD ((z - 1) / 2).toNat 0 < x) (e : sdown x ns z.toNat = r) : ns.set z.toNat x = r := by
  subst e
  rw [half_nat h0] at h
  rw [sdown, dif_neg (by omega), if_neg h]
theorem sd_top {x z : Int} {ns r : List Int} (h0 : ¬ 0 < z) (e : sdown x ns z.toNat = r) : ns.set z.toNat x = r := by
  subst e
  rw [sdown, dif_pos (by omega)]
theorem sdown_length (x : Int) (ns : List Int) (pos : Nat) : (sdown x ns pos).length = ns.length := by
  induction pos using Nat.strongRecOn generalizing ns with
  | ind pos ih =>
    rw [sdown]
    split
    · simp
    · split
      · rw [ih _ (by omega)]; simp
      · simp
theorem sd_call {w : World} {p : Program} {loose : List Str} {mean : ExcName → Option Value} {mg mb : Str → Option Value} : ∀ (dp un : Nat) (gd : Option (List Code)) (cn : Str) (cs : Scope) (a : Addr) (ccd : Value) (cl : List (Str × Addr)) (outer : List Env) (A₀ : Around) (base h₀ : Heap) (L : Addr) (m : Str → Option Value) (rest : List (Addr × Obj)) (s : Shared) (Q E : Value → Shared → Prop) (l : Addr) (vs : List Value) (ns : List Int) (n0 : Nat) (pos : Int) (t0 t1 : Tok),
    Below A₀ base outer h₀ → Fr h₀ L s.heap m → (Mine.hd.heap_39 w.params).In h₀ → News h₀ L s.heap ((l, listOf vs.toArray n0) :: rest) → Top p loose mean mg mb h₀ → cs.kind = .function → (∀ p ∈ rest, p.1 ≠ l) →
    IntsAre vs ns → 0 ≤ pos → pos < ns.length → ns.length ≤ 1000 →
    dp + 2 < recursionLimit → un + 8 * 2 < cLine →
    (∀ h' tk' vs', Fr h₀ L h' m → News h₀ L h' ((l, listOf vs'.toArray n0) :: rest) → IntsAre vs' (sdown (ns.getD pos.toNat 0) ns pos.toNat) → Q .none { s with heap := h', toks := tk' }) →
    wpAny (model (PySem.Challenge.rw_op0095_01.row.toRowW.prog) w) (ktrTop dp un gd cn cs L a ccd cl outer) (call (.ref 28) [.ref l, .int 0 t0, .int pos t1]) Q E s := by
  k_fill
  intro dp un gd cn cs a ccd cl outer A₀ base h₀ L m rest s Q E l vs ns n0 pos t0 t1 B F X N T hk hrest hI h0 h1 h2 hd hu hret
  k_with_none
  k_with "guard" =>
    (with_reducible first | show wpAny _ _ (exec (Stmt.While _ _ _ _) _) _ _ _ | show wpAny _ _ (call (Value.ref _) _ _) _ _ _ | show wpAny _ _ (pyIter (Value.ref _)) _ _ _ | show wpAny _ _ (exec (Stmt.If (PySem.Expr.Compare (PySem.Expr.Name (PySem.Str.ofString "least") _) _ _ _) _ _ _) _) _ _ _ | show UnrEnd _ _ _ _ _ _ _ | show KswEnd _ _ _ _ _ _ _ _ _ _ _ _ | show _ ∧ GrownAll _ _)
  k_with "omega" =>
    first | (kjx_bare; omega (config := {})) | ((fail_if_success (fail_if_success (omega (config := {})))); law_clear; lia)
  k_with "k_mem" =>
    first | assumption | (refine List.mem_cons_of_mem _ ?_; assumption) | (refine List.mem_cons_of_mem _ (List.mem_cons_of_mem _ ?_); assumption) | (refine List.mem_cons_of_mem _ (List.mem_cons_of_mem _ (List.mem_cons_of_mem _ ?_)); assumption)
  k_with "binaryOp RShift int int" =>
    (k_here; (with_reducible refine rshift_int ?_ ?_); omega)
  k_with "binaryOp RShift int int" =>
    (k_here; (with_reducible refine wpAny_rshift1_int ?_ ?_); omega)
  k_with "binaryOp LShift int int" =>
    (k_here; (with_reducible refine lshift_int ?_ (shl_ok ?_ ?_) ?_); omega; (first | with_reducible assumption | decide); omega)
  k_with "binaryOp Mult int int" =>
    (k_here; (with_reducible refine mul_int ?_ (mul_ok (by with_reducible assumption) (by with_reducible assumption))))
  k_with "binaryOp Mult ref int" =>
    (k_here; (with_reducible show wpAny _ _ (binaryOp Operator.Mult (Value.ref _) (Value.int _ _)) _ _ _); k_dflt (refine' zeros_K (by k_asm) (by k_asm) (by k_mem) (by first | assumption | omega) (by first | assumption | omega) ?_; k_whole); intro D9 h93 v9 n9 F' N' hlD hlen9 hI9; (try k_lt hlD))
  k_with "call builtin:sorted" =>
    (k_here; (with_reducible show wpAny _ _ (call (Value.builtin _) [Value.ref _]) _ _ _); (with_unfolding_all refine' kso_sorted (by k_asm) (by k_asm) (by is_list) (by l_ints) (by first | omega | (simp only [List.length_cons, List.length_nil]; omega)) ?_; k_whole); intro D' v' n' c' h' F' N' l1 i' e' p' o' b'; clear b'; (try k_lt l1))
  k_with "my stop" =>
    (rename Fr _ _ _ _ => lF'); (rename News _ _ _ _ => lN')
    (with_unfolding_all refine' ksw_while (σ := Int × Tok × List Value × List Int) (fun c => (l, listOf c.2.2.1.toArray n0) :: rest) (fun c => [(Str.ofString "pos", .int c.1 c.2.1)]) (fun c => IntsAre c.2.2.1 c.2.2.2) [Str.ofString "parentpos", Str.ofString "parent"] (fun c => 0 ≤ c.1 ∧ c.1 < c.2.2.2.length ∧ c.2.2.2.length = ns.length ∧ sdown (ns.getD pos.toNat 0) c.2.2.2 c.1.toNat = sdown (ns.getD pos.toNat 0) ns pos.toNat) (fun c => c.1.toNat) (pos, t1, vs, ns) lF' lN' (by assumption) ?kk ⟨h0, h1, rfl, rfl⟩ ?_ ?_)
    (case kk => kst_all)
    clear lF' lN'
    rintro ⟨pz, tz, vz, nz⟩ uz hz tkz hIz ⟨hz0, hz1, hz2, hz3⟩ Fz Nz
    dsimp only at *
    try k_fold
  refine wpAny_call ?_
  k_dflt ktr_enter
  k_steps
  · (rename News _ _ _ _ => nE'); (rename Fr _ _ _ _ => fE')
    (refine ksw_end (_, _, _, _) fE' nE' (fun p hp => hp) (by assumption) (by kst_all) (by intro z h2 h3; simp at h2 h3; simp [kstB, h2, h3]) ⟨?_, ?_, ?_, sd_step (by assumption) (by assumption) hz3⟩ ?_)
    all_goals (first | omega | (simp only [List.length_set]; omega))
  · have e := sd_stay (by assumption) (by assumption) hz3
    exact hret _ _ _ (by assumption) (by assumption) (by rw [← e]; assumption)
  · have e := sd_top (by assumption) hz3
    exact hret _ _ _ (by assumption) (by assumption) (by rw [← e]; assumption)


-- part Su
theorem off_Su : True := by
  w_top off
  k_with_none
  k_with "omega" => first | (kjx_bare; omega (config := {})) | ((fail_if_success (fail_if_success (omega (config := {})))); law_clear; lia)
  exact True.intro
/-- the hole goes down to a leaf -/
def sup (ns : List Int) (pos : Nat) : List Int × Nat :=
  if h : 2 * pos + 1 < ns.length then
    if 2 * pos + 2 < ns.length ∧ ¬ ns.getD (2 * pos + 2) 0 < ns.getD (2 * pos + 1) 0 then sup (ns.set pos (ns.getD (2 * pos + 2) 0)) (2 * pos + 2)
    else sup (ns.set pos (ns.getD (2 * pos + 1) 0)) (2 * pos + 1)
  else (ns, pos)
termination_by ns.length - pos
decreasing_by all_goals (simp only [List.length_set]; omega)
/-- what _siftup_max leaves -/
def sifted (ns : List Int) : List Int := sdown (ns.getD 0 0) ((sup ns 0).1.set (sup ns 0).2 (ns.getD 0 0)) (sup ns 0).2
theorem sup_right {z : Int} {ns : List Int} {r : List Int × Nat} (h0 : 0 ≤ z) (h1 : 2 * z + 1 + 1 < ns.length) (h2 : ¬ ns.getD (2 * z + 1 + 1).toNat 0 < ns.getD (2 * z + 1).toNat 0) (e : sup ns z.toNat = r) :
    sup (ns.set z.toNat (ns.getD (2 * z + 1 + 1).toNat 0)) (2 * z + 1 + 1).toNat = r := by
  subst e
  have e1 : (2 * z + 1 + 1).toNat = 2 * z.toNat + 2 := by omega
  have e2 : (2 * z + 1).toNat = 2 * z.toNat + 1 := by omega
  rw [e1, e2] at h2
  rw [e1]
  conv => rhs; rw [sup]
  rw [dif_pos (by omega), if_pos ⟨by omega, h2⟩]
theorem sup_left {z : Int} {ns : List Int} {r : List Int × Nat} (h0 : 0 ≤ z) (h1 : 2 * z + 1 < ns.length) (h2 : ¬ (2 * z + 1 + 1 < ns.length ∧ ¬ ns.getD (2 * z + 1 + 1).toNat 0 < ns.getD (2 * z + 1).toNat 0)) (e : sup ns z.toNat = r) :
    sup (ns.set z.toNat (ns.getD (2 * z + 1).toNat 0)) (2 * z + 1).toNat = r := by
  subst e
  have e1 : (2 * z + 1 + 1).toNat = 2 * z.toNat + 2 := by omega
  have e2 : (2 * z + 1).toNat = 2 * z.toNat + 1 := by omega
  rw [e1, e2] at h2
  rw [e2]
  conv => rhs; rw [sup]
  rw [dif_pos (by omega), if_neg (fun q => h2 ⟨by omega, q.2⟩)]
theorem sup_done {z : Int} {ns : List Int} {r : List Int × Nat} (h0 : 0 ≤ z) (h1 : ¬ 2 * z + 1 < ns.length) (e : sup ns z.toNat = r) : r = (ns, z.toNat) := by
  subst e
  rw [sup, dif_neg (by omega)]
theorem getD_set_self {ns : List Int} {i : Nat} {x d : Int} (h : i < ns.length) : (ns.set i x).getD i d = x := by
  simp [List.getD, h]
theorem su_call {w : World} {p : Program} {loose : List Str} {mean : ExcName → Option Value} {mg mb : Str → Option Value} : ∀ (dp un : Nat) (gd : Option (List Code)) (cn : Str) (cs : Scope) (a : Addr) (ccd : Value) (cl : List (Str × Addr)) (outer : List Env) (A₀ : Around) (base h₀ : Heap) (L : Addr) (m : Str → Option Value) (rest : List (Addr × Obj)) (s : Shared) (Q E : Value → Shared → Prop) (l : Addr) (vs : List Value) (ns : List Int) (n0 : Nat) (t0 : Tok),
    Below A₀ base outer h₀ → Fr h₀ L s.heap m → (Mine.hd.heap_39 w.params).In h₀ → News h₀ L s.heap ((l, listOf vs.toArray n0) :: rest) → Top p loose mean mg mb h₀ → cs.kind = .function → (∀ p ∈ rest, p.1 ≠ l) →
    IntsAre vs ns → 0 < ns.length → ns.length ≤ 1000 →
    dp + 3 < recursionLimit → un + 8 * 3 < cLine →
    (∀ h' tk' vs', Fr h₀ L h' m → News h₀ L h' ((l, listOf vs'.toArray n0) :: rest) → IntsAre vs' (sifted ns) → Q .none { s with heap := h', toks := tk' }) →
    wpAny (model (PySem.Challenge.rw_op0095_01.row.toRowW.prog) w) (ktrTop dp un gd cn cs L a ccd cl outer) (call (.ref 35) [.ref l, .int 0 t0]) Q E s := by
  k_fill
  intro dp un gd cn cs a ccd cl outer A₀ base h₀ L m rest s Q E l vs ns n0 t0 B F X N T hk hrest hI h1 h2 hd hu hret
  k_with_none
  k_with "guard" =>
    (with_reducible first | show wpAny _ _ (exec (Stmt.While _ _ _ _) _) _ _ _ | show wpAny _ _ (call (Value.ref _) _ _) _ _ _ | show wpAny _ _ (pyIter (Value.ref _)) _ _ _ | show wpAny _ _ (exec (Stmt.If (PySem.Expr.Compare (PySem.Expr.Name (PySem.Str.ofString "least") _) _ _ _) _ _ _) _) _ _ _ | show UnrEnd _ _ _ _ _ _ _ | show KswEnd _ _ _ _ _ _ _ _ _ _ _ _ | show _ ∧ GrownAll _ _)
  k_with "omega" =>
    first | (kjx_bare; omega (config := {})) | ((fail_if_success (fail_if_success (omega (config := {})))); law_clear; lia)
  k_with "k_mem" =>
    first | assumption | (refine List.mem_cons_of_mem _ ?_; assumption) | (refine List.mem_cons_of_mem _ (List.mem_cons_of_mem _ ?_); assumption) | (refine List.mem_cons_of_mem _ (List.mem_cons_of_mem _ (List.mem_cons_of_mem _ ?_)); assumption)
  k_with "binaryOp RShift int int" =>
    (k_here; (with_reducible refine rshift_int ?_ ?_); omega)
  k_with "binaryOp RShift int int" =>
    (k_here; (with_reducible refine wpAny_rshift1_int ?_ ?_); omega)
  k_with "binaryOp LShift int int" =>
    (k_here; (with_reducible refine lshift_int ?_ (shl_ok ?_ ?_) ?_); omega; (first | with_reducible assumption | decide); omega)
  k_with "binaryOp Mult int int" =>
    (k_here; (with_reducible refine mul_int ?_ (mul_ok (by with_reducible assumption) (by with_reducible assumption))))
  k_with "binaryOp Mult ref int" =>
    (k_here; (with_reducible show wpAny _ _ (binaryOp Operator.Mult (Value.ref _) (Value.int _ _)) _ _ _); k_dflt (refine' zeros_K (by k_asm) (by k_asm) (by k_mem) (by first | assumption | omega) (by first | assumption | omega) ?_; k_whole); intro D9 h93 v9 n9 F' N' hlD hlen9 hI9; (try k_lt hlD))
  k_with "call builtin:sorted" =>
    (k_here; (with_reducible show wpAny _ _ (call (Value.builtin _) [Value.ref _]) _ _ _); (with_unfolding_all refine' kso_sorted (by k_asm) (by k_asm) (by is_list) (by l_ints) (by first | omega | (simp only [List.length_cons, List.length_nil]; omega)) ?_; k_whole); intro D' v' n' c' h' F' N' l1 i' e' p' o' b'; clear b'; (try k_lt l1))
  k_with "my stop" =>
    refine sd_call _ _ _ _ _ _ _ _ _ _ _ _ _ _ _ _ _ _ _ _ _ _ _ _ _ (by k_asm) (by k_asm) (by k_asm) (by k_asm) (by k_asm) rfl (by assumption) (by assumption) (by omega) ?_ ?_ ?_ ?_ ?_
  refine wpAny_call ?_
  k_dflt ktr_enter
  k_steps
  (rename Fr _ _ _ _ => lF'); (rename News _ _ _ _ => lN')
  (with_unfolding_all refine ksw_while (σ := Int × Tok × Tok × List Value × List Int) (fun c => (l, listOf c.2.2.2.1.toArray n0) :: rest) (fun c => [(Str.ofString "pos", .int c.1 c.2.1), (Str.ofString "childpos", .int (2 * c.1 + 1) c.2.2.1)]) (fun c => IntsAre c.2.2.2.1 c.2.2.2.2) [Str.ofString "rightpos"] (fun c => 0 ≤ c.1 ∧ c.1 < c.2.2.2.2.length ∧ c.2.2.2.2.length = ns.length ∧ sup c.2.2.2.2 c.1.toNat = sup ns 0) (fun c => ns.length - c.1.toNat) (0, _, _, vs, ns) lF' lN' (by assumption) (List.forall_mem_cons.mpr ⟨rfl, List.forall_mem_cons.mpr ⟨rfl, List.forall_mem_nil _⟩⟩) ?kp ?_ ?_)
  (case kp => exact ⟨Int.le_refl 0, Int.ofNat_lt.mpr h1, rfl, rfl⟩)
  all_goals clear lF' lN'
  rotate_left
  · k_steps
  rintro ⟨pz, tz, tc, vz, nz⟩ uz hz tkz hIz ⟨hz0, hz1, hz2, hz3⟩ Fz Nz
  dsimp only at *
  try k_fold
  k_steps
  · (rename News _ _ _ _ => nE'); (rename Fr _ _ _ _ => fE')
    (with_unfolding_all refine ksw_end (_, _, _, _, _) fE' nE' (fun p hp => hp) (by assumption) (List.forall_mem_cons.mpr ⟨rfl, List.forall_mem_cons.mpr ⟨rfl, List.forall_mem_nil _⟩⟩) (by intro z h2 h3; simp at h2 h3; simp [kstB, h2, h3]) ⟨?_, ?_, ?_, sup_left hz0 (by omega) (fun q => q.2 (by assumption)) hz3⟩ ?_)
    all_goals (first | omega | (simp only [List.length_set]; omega))
  · (rename News _ _ _ _ => nE'); (rename Fr _ _ _ _ => fE')
    (with_unfolding_all refine ksw_end (_, _, _, _, _) fE' nE' (fun p hp => hp) (by assumption) (List.forall_mem_cons.mpr ⟨rfl, List.forall_mem_cons.mpr ⟨rfl, List.forall_mem_nil _⟩⟩) (by intro z h2 h3; simp at h2 h3; simp [kstB, h2, h3]) ⟨?_, ?_, ?_, sup_right hz0 (by omega) (by assumption) hz3⟩ ?_)
    all_goals (first | omega | (simp only [List.length_set]; omega))
  · (rename News _ _ _ _ => nE'); (rename Fr _ _ _ _ => fE')
    (with_unfolding_all refine ksw_end (_, _, _, _, _) fE' nE' (fun p hp => hp) (by assumption) (List.forall_mem_cons.mpr ⟨rfl, List.forall_mem_cons.mpr ⟨rfl, List.forall_mem_nil _⟩⟩) (by intro z h2 h3; simp at h2 h3; simp [kstB, h2, h3]) ⟨?_, ?_, ?_, sup_left hz0 (by omega) (fun q => absurd q.1 (by omega)) hz3⟩ ?_)
    all_goals (first | omega | (simp only [List.length_set]; omega))
  · refine hret _ _ _ (by assumption) (by assumption) ?_
    have e := sup_done hz0 (by omega) hz3
    unfold sifted
    rw [e]
    rename IntsAre _ _ => hq
    rw [getD_set_self (by omega : pz.toNat < nz.length)] at hq
    exact hq


-- part Hr
theorem off_Hr : True := by
  w_top off
  k_with_none
  k_with "omega" => first | (kjx_bare; omega (config := {})) | ((fail_if_success (fail_if_success (omega (config := {})))); law_clear; lia)
  exact True.intro
theorem hr_call {w : World} {p : Program} {loose : List Str} {mean : ExcName → Option Value} {mg mb : Str → Option Value} : ∀ (dp un : Nat) (gd : Option (List Code)) (cn : Str) (cs : Scope) (a : Addr) (ccd : Value) (cl : List (Str × Addr)) (outer : List Env) (A₀ : Around) (base h₀ : Heap) (L : Addr) (m : Str → Option Value) (rest : List (Addr × Obj)) (s : Shared) (Q E : Value → Shared → Prop) (l : Addr) (vs : List Value) (ns : List Int) (n0 : Nat) (x : Int) (tx : Tok),
    Below A₀ base outer h₀ → Fr h₀ L s.heap m → (Mine.hd.heap_39 w.params).In h₀ → News h₀ L s.heap ((l, listOf vs.toArray n0) :: rest) → Top p loose mean mg mb h₀ → cs.kind = .function → (∀ p ∈ rest, p.1 ≠ l) → IntsAre vs ns → 0 < ns.length → ns.length ≤ 1000 →
    dp + 4 < recursionLimit → un + 8 * 4 < cLine →
    (∀ h' tk' vs' t, Fr h₀ L h' m → News h₀ L h' ((l, listOf vs'.toArray n0) :: rest) → IntsAre vs' (sifted (ns.set 0 x)) → Q (.int (ns.getD 0 0) t) { s with heap := h', toks := tk' }) →
    wpAny (model (PySem.Challenge.rw_op0095_01.row.toRowW.prog) w) (ktrTop dp un gd cn cs L a ccd cl outer) (call (.ref 21) [.ref l, .int x tx]) Q E s := by
  k_fill
  intro dp un gd cn cs a ccd cl outer A₀ base h₀ L m rest s Q E l vs ns n0 x tx B F X N T hk hrest hI h1 h2 hd hu hret
  k_with_none
  k_with "guard" =>
    (with_reducible first | show wpAny _ _ (exec (Stmt.While _ _ _ _) _) _ _ _ | show wpAny _ _ (call (Value.ref _) _ _) _ _ _ | show wpAny _ _ (pyIter (Value.ref _)) _ _ _ | show wpAny _ _ (exec (Stmt.If (PySem.Expr.Compare (PySem.Expr.Name (PySem.Str.ofString "least") _) _ _ _) _ _ _) _) _ _ _ | show UnrEnd _ _ _ _ _ _ _ | show KswEnd _ _ _ _ _ _ _ _ _ _ _ _ | show _ ∧ GrownAll _ _)
  k_with "omega" =>
    first | (kjx_bare; omega (config := {})) | ((fail_if_success (fail_if_success (omega (config := {})))); law_clear; lia)
  k_with "k_mem" =>
    first | assumption | (refine List.mem_cons_of_mem _ ?_; assumption) | (refine List.mem_cons_of_mem _ (List.mem_cons_of_mem _ ?_); assumption) | (refine List.mem_cons_of_mem _ (List.mem_cons_of_mem _ (List.mem_cons_of_mem _ ?_)); assumption)
  k_with "binaryOp RShift int int" =>
    (k_here; (with_reducible refine rshift_int ?_ ?_); omega)
  k_with "binaryOp RShift int int" =>
    (k_here; (with_reducible refine wpAny_rshift1_int ?_ ?_); omega)
  k_with "binaryOp LShift int int" =>
    (k_here; (with_reducible refine lshift_int ?_ (shl_ok ?_ ?_) ?_); omega; (first | with_reducible assumption | decide); omega)
  k_with "binaryOp Mult int int" =>
    (k_here; (with_reducible refine mul_int ?_ (mul_ok (by with_reducible assumption) (by with_reducible assumption))))
  k_with "binaryOp Mult ref int" =>
    (k_here; (with_reducible show wpAny _ _ (binaryOp Operator.Mult (Value.ref _) (Value.int _ _)) _ _ _); k_dflt (refine' zeros_K (by k_asm) (by k_asm) (by k_mem) (by first | assumption | omega) (by first | assumption | omega) ?_; k_whole); intro D9 h93 v9 n9 F' N' hlD hlen9 hI9; (try k_lt hlD))
  k_with "call builtin:sorted" =>
    (k_here; (with_reducible show wpAny _ _ (call (Value.builtin _) [Value.ref _]) _ _ _); (with_unfolding_all refine' kso_sorted (by k_asm) (by k_asm) (by is_list) (by l_ints) (by first | omega | (simp only [List.length_cons, List.length_nil]; omega)) ?_; k_whole); intro D' v' n' c' h' F' N' l1 i' e' p' o' b'; clear b'; (try k_lt l1))
  k_with "my stop" =>
    refine su_call _ _ _ _ _ _ _ _ _ _ _ _ _ _ _ _ _ _ _ _ _ _ _ (by k_asm) (by k_asm) (by k_asm) (by k_asm) (by k_asm) rfl (by assumption) (by assumption) (by (try simp only [List.length_set]); omega) (by (try simp only [List.length_set]); omega) ?_ ?_ ?_
  refine wpAny_call ?_
  k_dflt ktr_enter
  k_steps
  exact hret _ _ _ _ (by assumption) (by assumption) (by assumption)


-- part Rm
theorem off_Rm : True := by
  w_top off
  k_with_none
  k_with "omega" => first | (kjx_bare; omega (config := {})) | ((fail_if_success (fail_if_success (omega (config := {})))); law_clear; lia)
  exact True.intro
theorem kf_ints_of {vs : List Value} {ns : List Int} (h : IntsAre vs ns) : kf_ints vs = true := by
  induction h with
  | nil => rfl
  | cons n t _ ih => exact ih
theorem isInt_int (k n : Int) (t : Tok) : isInt k (.int n t) = (n == k) := rfl
theorem kf_at_of {k : Int} {vs : List Value} {ns : List Int} (h : IntsAre vs ns) (hk : k ∈ ns) : ∃ j q, kf_at k vs = some j ∧ ki_delL vs j = some q ∧ IntsAre q (ns.erase k) := by
  induction h with
  | nil => cases hk
  | @cons n t vs ns h ih =>
    by_cases e : n = k
    · subst e
      refine ⟨0, vs, ?_, rfl, ?_⟩
      · unfold kf_at; rw [isInt_int]; simp
      · simpa using h
    · obtain ⟨j, q, h1, h2, h3⟩ := ih ((List.mem_cons.mp hk).resolve_left fun x => e x.symm)
      refine ⟨j + 1, .int n t :: q, ?_, ?_, ?_⟩
      · unfold kf_at; rw [isInt_int, h1, show (n == k) = false from by simpa using e]; rfl
      · unfold ki_delL; rw [h2]
      · rw [List.erase_cons_tail (by simpa using e)]; exact .cons n t h3
theorem no_at_of {k : Int} {vs : List Value} {ns : List Int} (h : IntsAre vs ns) (hk : k ∉ ns) : ∀ (i : Nat) (hi : i < vs.length), isInt k vs[i] = false := by
  induction h with
  | nil => intro i hi; exact absurd hi (Nat.not_lt_zero _)
  | @cons n t vs ns h ih =>
    intro i hi
    cases i with
    | zero => simp only [List.getElem_cons_zero, isInt_int]; simpa using fun e : n = k => hk (e ▸ List.mem_cons_self)
    | succ i => exact ih (fun x => hk (List.mem_cons_of_mem _ x)) i (Nat.lt_of_succ_lt_succ hi)
theorem remove_or {prog : Program} {w : World} {A : Around} {E : Value → Shared → Prop} {s : Shared} {h₀ : Heap} {L D : Addr} {m : Str → Option Value} {pre post : List (Addr × Obj)} {vs : List Value} {ns : List Int} {n : Nat} {k : Int} {t : Tok} {Q : Value → Shared → Prop}
    (hA : A.handled = none) (F : Fr h₀ L s.heap m) (N : News h₀ L s.heap (pre ++ (D, listOf vs.toArray n) :: post)) (h1 : ∀ p ∈ pre, p.1 ≠ D) (h2 : ∀ p ∈ post, p.1 ≠ D) (hi : IntsAre vs ns) (hz : ns.length ≤ 1000)
    (hyes : ∀ h' q, k ∈ ns → Fr h₀ L h' m → News h₀ L h' (pre ++ (D, listOf q.toArray (n + 1)) :: post) → IntsAre q (ns.erase k) → Q .none { s with heap := h' })
    (hno : ∀ h' tk e, k ∉ ns → Heap.NewExc s.heap h' e "ValueError" → E (.ref e) { s with heap := h', toks := tk }) :
    wpAny (model prog w) A (call (.builtin "list.remove") [.ref D, .int k t]) Q E s := by
  have hl : vs.length = ns.length := hi.length
  have z := N (D, listOf vs.toArray n) (List.mem_append.mpr (.inr (.head _)))
  by_cases hk : k ∈ ns
  · obtain ⟨j, q, e1, e2, e3⟩ := kf_at_of hi hk
    have U : Upd D (listOf vs.toArray n) (listOf q.toArray (n + 1)) (pre ++ (D, listOf vs.toArray n) :: post) (pre ++ (D, listOf q.toArray (n + 1)) :: post) := by
      clear N z hyes hno
      induction pre with
      | nil => exact .head h2
      | cons p pre ih => exact .tail (h1 p (.head _)) (ih fun x hx => h1 x (.tail _ hx))
    refine kf_remove F N (j := j) (q := q) ?_ ?_ ?_ U ?_ fun h' F' N' => hyes h' q hk F' N' e3
    · simpa using kf_ints_of hi
    · simpa using e1
    · simpa using e2
    · show vs.length ≤ sizeLine
      rw [PySem.sizeLine_eq, hl]; omega
  · exact call_meets PySem.F.slot_list_remove ⟨_, z.1, rfl⟩ PySem.F.entry_list_remove (PySem.F.args_list_remove_2 _ _)
      (MeetsSeq.list_remove_none D vs.toArray n (.int k t) (isInt k) (fun y hy => kf_eq (kf_ints_of hi) y (by simpa using hy)) (fun i hm => by
        have := no_at_of hi hk i (by simpa using hm); simpa using this))
      ⟨z.1, hA, fun h' tk e hx => hno h' tk e hk hx⟩


-- part Ul
theorem off_Ul : True := by
  w_top off
  k_with_none
  k_with "omega" => first | (kjx_bare; omega (config := {})) | ((fail_if_success (fail_if_success (omega (config := {})))); law_clear; lia)
  exact True.intro
/-- expected from its end on, against actual: what is missing, what is left -/
def uld : List Int → List Int → List Int × List Int
  | [], a => ([], a)
  | x :: r, a => if x ∈ a then uld r (a.erase x) else (x :: (uld r a).1, (uld r a).2)
abbrev lawTop (dp un : Nat) (gd : Option (List Code)) (cn : Str) (cs : Scope) (L a : Addr) (ccd : Value) : Around := { handled := none, depth := dp, frames := some [envOf cn cs L a ccd], guards := gd, units := un }
structure US where
  v1 : List Value
  v2 : List Value
  vm : List Value
  a1 : List Int
  a2 : List Int
  am : List Int
  k1 : Nat
  k2 : Nat
  km : Nat
  sl : Array (Option Value)
theorem allNe_app {rest : List (Addr × Obj)} {q : Addr × Obj} {l : Addr} (h : ∀ p ∈ rest, p.1 ≠ l) (h2 : q.1 ≠ l) : ∀ p ∈ rest ++ [q], p.1 ≠ l := fun p hp => by
  rcases List.mem_append.mp hp with x | x
  · exact h p x
  · rw [List.mem_singleton.mp x]; exact h2
theorem getLastD_app {b : List Int} (h : 0 < b.length) : b = b.dropLast ++ [b.getLastD 0] := by
  cases b with
  | nil => exact absurd h (Nat.lt_irrefl _)
  | cons x r => rw [List.getLastD_cons, ← List.getLast_eq_getLastD (a := x)]; exact (List.dropLast_concat_getLast (List.cons_ne_nil x r)).symm
theorem rev_last {b : List Int} (h : 0 < b.length) : b.reverse = b.getLastD 0 :: b.dropLast.reverse := by
  conv => lhs; rw [getLastD_app h]
  simp
theorem uld_hit {b c : List Int} (h : 0 < b.length) (hm : b.getLastD 0 ∈ c) : uld b.dropLast.reverse (c.erase (b.getLastD 0)) = uld b.reverse c := by
  rw [rev_last h, uld, if_pos hm]
theorem uld_miss {b c : List Int} (h : 0 < b.length) (hm : b.getLastD 0 ∉ c) : uld b.reverse c = (b.getLastD 0 :: (uld b.dropLast.reverse c).1, (uld b.dropLast.reverse c).2) := by
  rw [rev_last h, uld, if_neg hm]
theorem ul_call {w : World} {p : Program} {loose : List Str} {mean : ExcName → Option Value} {mg mb : Str → Option Value} : ∀ (dp un : Nat) (gd : Option (List Code)) (cn : Str) (cs : Scope) (a : Addr) (ccd : Value) (h₀ : Heap) (L : Addr) (m : Str → Option Value) (rest : List (Addr × Obj)) (s : Shared) (Q E : Value → Shared → Prop)
    (l1 l2 : Addr) (v1 v2 : List Value) (n1 n2 : List Int) (k1 k2 : Nat),
    Fr h₀ L s.heap m → (Mine.hd.heap_39 w.params).In h₀ → News h₀ L s.heap ((l1, listOf v1.toArray k1) :: (l2, listOf v2.toArray k2) :: rest) → Top p loose mean mg mb h₀ → cs.kind = .function →
    Str.ofString "ValueError" ∉ loose → Str.ofString "ValueError" ∉ (recsOf p).map (·.name) → Str.ofString "ValueError" ∉ (litsOf p).map (·.1) → Str.ofString "ValueError" ∉ (clssOf p loose).map (·.name) →
    l1 ≠ l2 → (∀ p ∈ rest, p.1 ≠ l1) → (∀ p ∈ rest, p.1 ≠ l2) → IntsAre v1 n1 → IntsAre v2 n2 → n1.length ≤ 1000 → n2.length ≤ 1000 →
    dp + 4 < recursionLimit → un + 8 * 4 < cLine →
    (∀ r ms h' tk' vm va km ka, Fr h₀ L h' m → News h₀ L h' ((r, { cls := .type "tuple", data := .seq #[.ref ms, .ref l2] }) :: (ms, listOf vm.toArray km) :: (l2, listOf va.toArray ka) :: rest) → ms < r → l2 < ms → (∀ p ∈ rest, p.1 < ms) →
      IntsAre vm (uld n1.reverse n2).1 → IntsAre va (uld n1.reverse n2).2 → Q (.ref r) { s with heap := h', toks := tk' }) →
    wpAny (model (PySem.Challenge.rw_op0095_01.row.toRowW.prog) w) (lawTop dp un gd cn cs L a ccd) (call (.ref 84) [.ref l1, .ref l2]) Q E s := by
  k_fill
  intro dp un gd cn cs a ccd h₀ L m rest s Q E l1 l2 v1 v2 n1 n2 k1 k2 F X N T hk t2 t3 t4 t5 h12 hr1 hr2 hI1 hI2 hz1 hz2 hd hu hret
  k_with_none
  k_with "guard" =>
    (with_reducible first | show wpAny _ _ (exec (Stmt.While _ _ _ _) _) _ _ _ | show wpAny _ _ (call (Value.ref _) _ _) _ _ _ | show wpAny _ _ (pyIter (Value.ref _)) _ _ _ | show wpAny _ _ (exec (Stmt.If (PySem.Expr.Compare (PySem.Expr.Name (PySem.Str.ofString "least") _) _ _ _) _ _ _) _) _ _ _ | show UnrEnd _ _ _ _ _ _ _ | show KswEnd _ _ _ _ _ _ _ _ _ _ _ _ | show _ ∧ GrownAll _ _)
  k_with "omega" =>
    first | (kjx_bare; omega (config := {})) | ((fail_if_success (fail_if_success (omega (config := {})))); law_clear; lia)
  k_with "k_mem" =>
    first | assumption | (refine List.mem_cons_of_mem _ ?_; assumption) | (refine List.mem_cons_of_mem _ (List.mem_cons_of_mem _ ?_); assumption) | (refine List.mem_cons_of_mem _ (List.mem_cons_of_mem _ (List.mem_cons_of_mem _ ?_)); assumption)
  k_with "binaryOp RShift int int" =>
    (k_here; (with_reducible refine rshift_int ?_ ?_); omega)
  k_with "binaryOp RShift int int" =>
    (k_here; (with_reducible refine wpAny_rshift1_int ?_ ?_); omega)
  k_with "binaryOp LShift int int" =>
    (k_here; (with_reducible refine lshift_int ?_ (shl_ok ?_ ?_) ?_); omega; (first | with_reducible assumption | decide); omega)
  k_with "binaryOp Mult int int" =>
    (k_here; (with_reducible refine mul_int ?_ (mul_ok (by with_reducible assumption) (by with_reducible assumption))))
  k_with "binaryOp Mult ref int" =>
    (k_here; (with_reducible show wpAny _ _ (binaryOp Operator.Mult (Value.ref _) (Value.int _ _)) _ _ _); k_dflt (refine' zeros_K (by k_asm) (by k_asm) (by k_mem) (by first | assumption | omega) (by first | assumption | omega) ?_; k_whole); intro D9 h93 v9 n9 F' N' hlD hlen9 hI9; (try k_lt hlD))
  k_with "call builtin:sorted" =>
    (k_here; (with_reducible show wpAny _ _ (call (Value.builtin _) [Value.ref _]) _ _ _); (with_unfolding_all refine' kso_sorted (by k_asm) (by k_asm) (by is_list) (by l_ints) (by first | omega | (simp only [List.length_cons, List.length_nil]; omega)) ?_; k_whole); intro D' v' n' c' h' F' N' l1 i' e' p' o' b'; clear b'; (try k_lt l1))
  refine wpAny_call ?_
  k_dflt (refine TLgL.code_def F X N T rfl (by k_is) (by k_is) (by ktr_room) (BindsTo.of_eq rfl) (locs rfl) ?_ hk)
  intro oL h' tiC tiF tiE F' N'
  try dsimp only
  try k_fold
  k_steps
  rename_i ms hq0 hms hq1 lF' lN'
  have q1 : @LT.lt Nat _ l1 ms := hms _ (List.mem_cons_self ..)
  have q2 : @LT.lt Nat _ l2 ms := hms _ (List.mem_cons_of_mem _ (List.mem_cons_self ..))
  have q3 : ∀ p ∈ rest, p.1 < ms := fun p hp => hms p (List.mem_append_left _ (List.mem_cons_of_mem _ (List.mem_cons_of_mem _ hp)))
  have q4 : L ≠ l1 := fun e => (N _ (List.mem_cons_self ..)).2.1 e.symm
  have q5 : L ≠ l2 := fun e => (N _ (List.mem_cons_of_mem _ (List.mem_cons_self ..))).2.1 e.symm
  have q6 : L < ms := hms (L, oL) (List.mem_append_right _ (List.mem_cons_self ..))
  have hn1 : @Ne Nat l1 l2 := h12
  clear hms
  have lN2 : News h₀ s.heap.objs.size hq1 ((ms, listOf ([] : List Value).toArray 0) :: (l1, listOf v1.toArray k1) :: (l2, listOf v2.toArray k2) :: (rest ++ [(L, { oL with slots := oL.slots })])) := lN'
  (with_unfolding_all refine ksw_while (σ := US) (fun c => (ms, listOf c.vm.toArray c.km) :: (l1, listOf c.v1.toArray c.k1) :: (l2, listOf c.v2.toArray c.k2) :: (rest ++ [(L, { oL with slots := c.sl })])) (fun c => []) (fun c => IntsAre c.v1 c.a1 ∧ IntsAre c.v2 c.a2 ∧ IntsAre c.vm c.am ∧ TI.Frs [envOf cn cs L a ccd] [(L, { oL with slots := c.sl })]) [Str.ofString "item"] (fun c => c.a1.length ≤ 1000 ∧ c.a2.length ≤ 1000 ∧ c.am.length + c.a1.length ≤ 1000 ∧ c.am ++ (uld c.a1.reverse c.a2).1 = (uld n1.reverse n2).1 ∧ (uld c.a1.reverse c.a2).2 = (uld n1.reverse n2).2) (fun c => c.a1.length) ⟨v1, v2, [], n1, n2, [], k1, k2, 0, oL.slots⟩ lF' lN2 ⟨hI1, hI2, .nil, tiF⟩ (List.forall_mem_nil _) ?kp ?_ ?_)
  (case kp => exact ⟨hz1, hz2, by simpa using hz1, rfl, rfl⟩)
  all_goals clear lF' lN' lN2
  rotate_left
  · k_steps
  rintro ⟨y1, y2, ym, b1, b2, bm, j1, j2, jm, sl⟩ uz hz tkz ⟨hy1, hy2, hym, hyF⟩ ⟨hb1, hb2, hb3, hb4, hb5⟩ Fz Nz
  dsimp only at *
  have hlen1 : y1.length = b1.length := hy1.length
  have w1 : ∀ p ∈ rest ++ [(L, { oL with slots := sl })], p.1 ≠ l1 := allNe_app hr1 q4
  have w2 : ∀ p ∈ rest ++ [(L, { oL with slots := sl })], p.1 ≠ l2 := allNe_app hr2 q5
  have w3 : ∀ p ∈ rest ++ [(L, { oL with slots := sl })], p.1 ≠ ms := allNe_app (fun p hp => Nat.ne_of_lt (q3 p hp)) (Nat.ne_of_lt q6)
  k_with "call builtin:list.remove" =>
    refine remove_or (pre := [_, _]) rfl (by k_asm) (by k_asm) (by k_all) (by k_asm) (by with_reducible assumption) (by omega) ?_ ?_
  k_steps
  · have e := uld_hit (by assumption) (by assumption : b1.getLastD 0 ∈ b2)
    (rename News _ _ _ _ => nE'); (rename Fr _ _ _ _ => fE')
    (with_unfolding_all refine ksw_end ⟨_, _, _, _, _, _, _, _, _, _⟩ fE' nE' (fun p hp => hp) ⟨by assumption, by assumption, hym, hyF⟩ (List.forall_mem_nil _) (by intro z h2 h3; simp at h2 h3; simp [kstB, h3]) ?_ ?_)
    · refine ⟨?_, ?_, ?_, ?_, ?_⟩
      all_goals dsimp only
      · rw [List.length_dropLast]; omega
      · have := List.length_erase_le (a := b1.getLastD 0) (l := b2); omega
      · rw [List.length_dropLast]; omega
      · rw [e]; exact hb4
      · rw [e]; exact hb5
    · dsimp only; rw [List.length_dropLast]; omega
  · rename_i hx
    have wn : ∀ p ∈ (ms, listOf ym.toArray jm) :: (l1, listOf y1.dropLast.toArray (j1 + 1)) :: (l2, listOf y2.toArray j2) :: rest, p.1 ≠ L := fun p hp => by
      rcases List.mem_cons.mp hp with rfl | hp
      · exact Nat.ne_of_gt q6
      rcases List.mem_cons.mp hp with rfl | hp
      · exact fun e => q4 e.symm
      rcases List.mem_cons.mp hp with rfl | hp
      · exact fun e => q5 e.symm
      exact (N p (List.mem_cons_of_mem _ (List.mem_cons_of_mem _ hp))).2.1
    (rename News _ _ _ _ => nE'); (rename Fr _ _ _ _ => fE')
    refine TLg.noted_new1 (new := (ms, listOf ym.toArray jm) :: (l1, listOf y1.dropLast.toArray (j1 + 1)) :: (l2, listOf y2.toArray j2) :: rest) rfl hyF hx fE' nE' (TLgL.allNe_of wn) ?_
    intro hx' sl' Fs' Hn
    have Hh := TT.HeldNA.held Hn
    clear hx
    k_steps
    (with_reducible rename TT.HeldNA _ _ _ _ _ _ _ _ => ttN)
    with_unfolding_all refine TT.clause_hitTN ttN T (t2 := t2) (t3 := t3) (t4 := t4) (t5 := t5) (k := ?_) (hv := by boot_by_name)
    intro hy' Fy Ny
    clear ttN
    have hlenm : ym.length = bm.length := hym.length
    replace Ny : News h₀ s.heap.objs.size hy' ((ms, listOf ym.toArray jm) :: (l1, listOf y1.dropLast.toArray (j1 + 1)) :: (l2, listOf y2.toArray j2) :: (rest ++ [(L, { oL with slots := sl' })])) := Ny
    have w3' : ∀ p ∈ rest ++ [(L, { oL with slots := sl' })], p.1 ≠ ms := allNe_app (fun p hp => Nat.ne_of_lt (q3 p hp)) (Nat.ne_of_lt q6)
    k_steps
    have e := uld_miss (by assumption) (by assumption : ¬ b1.getLastD 0 ∈ b2)
    (rename News _ _ _ _ => nE'); (rename Fr _ _ _ _ => fE')
    simp only [List.push_toArray] at nE'
    (with_unfolding_all refine ksw_end ⟨_, _, _, _, _, _, _, _, _, _⟩ fE' nE' (fun p hp => hp) ⟨by assumption, hy2, IntsAre.append hym (.cons _ _ .nil), Fs'⟩ (List.forall_mem_nil _) (by intro z h2 h3; simp at h2 h3; simp [kstB, h3]) ?_ ?_)
    · rw [e] at hb4 hb5
      refine ⟨?_, ?_, ?_, ?_, ?_⟩
      all_goals dsimp only
      · rw [List.length_dropLast]; omega
      · omega
      · rw [List.length_dropLast, List.length_append, List.length_singleton]; omega
      · rw [← hb4]; simp
      · exact hb5
    · dsimp only; rw [List.length_dropLast]; omega
  · rename_i hlt
    have hb0 : b1 = [] := List.eq_nil_of_length_eq_zero (by omega)
    subst hb0
    (rename News _ _ _ _ => nE'); (rename Fr _ _ _ _ => fE')
    show TI.LeaveI _ (Q (.ref _) _)
    refine TLg.leave_back (new := _ :: (ms, listOf ym.toArray jm) :: (l1, listOf y1.toArray j1) :: (l2, listOf y2.toArray j2) :: rest) tiC fE' nE' (TLgL.allNe_of ?_) ?_
    · intro p hp
      rcases List.mem_cons.mp hp with rfl | hp
      · exact Nat.ne_of_gt (allLt_mem hlt.2.2.2 (L, { oL with slots := sl }) (List.mem_append_right _ (List.mem_cons_self ..)))
      rcases List.mem_cons.mp hp with rfl | hp
      · exact Nat.ne_of_gt q6
      rcases List.mem_cons.mp hp with rfl | hp
      · exact fun e => q4 e.symm
      rcases List.mem_cons.mp hp with rfl | hp
      · exact fun e => q5 e.symm
      exact (N p (List.mem_cons_of_mem _ (List.mem_cons_of_mem _ hp))).2.1
    · intro F9 N9
      refine hret _ ms _ _ ym y2 jm j2 F9 (fun p hp => N9 p ?_) hlt.1 q2 q3 ?_ ?_
      · rcases List.mem_cons.mp hp with rfl | hp
        · exact List.mem_cons_self ..
        rcases List.mem_cons.mp hp with rfl | hp
        · exact List.mem_cons_of_mem _ (List.mem_cons_self ..)
        exact List.mem_cons_of_mem _ (List.mem_cons_of_mem _ (List.mem_cons_of_mem _ hp))
      · have : bm = (uld n1.reverse n2).1 := by simpa [uld] using hb4
        rw [← this]; exact hym
      · have : b2 = (uld n1.reverse n2).2 := by simpa [uld] using hb5
        rw [← this]; exact hy2


-- part Dv
theorem off_Dv : True := by
  w_top off
  k_with_none
  k_with "omega" => first | (kjx_bare; omega (config := {})) | ((fail_if_success (fail_if_success (omega (config := {})))); law_clear; lia)
  exact True.intro
theorem d2b_call {w : World} {p : Program} {loose : List Str} {mean : ExcName → Option Value} {mg mb : Str → Option Value} : ∀ (dp un : Nat) (gd : Option (List Code)) (cn : Str) (cs : Scope) (a : Addr) (ccd : Value) (cl : List (Str × Addr)) (outer : List Env) (A₀ : Around) (base h₀ : Heap) (L : Addr) (m : Str → Option Value) (rest : List (Addr × Obj)) (s : Shared) (Q E : Value → Shared → Prop) (x b n : Int) (t1 t2 t3 : Tok),
    Below A₀ base outer h₀ → Fr h₀ L s.heap m → (Mine.hd.heap_39 w.params).In h₀ → News h₀ L s.heap (rest) → Top p loose mean mg mb h₀ → cs.kind = .function → (Builtin.Int.intBits x : Int) - n ≤ 4000 → 0 < b → Builtin.Int.intBits b ≤ 9000 →
    dp + 4 < recursionLimit → un + 8 * 4 < cLine →
    (∀ r h' tk' u1 u2, Fr h₀ L h' m → News h₀ L h' ((r, tup2 (.int (x.fdiv b) u1) (.int (x.fmod b) u2)) :: rest) → (∀ p ∈ rest, p.1 < r) → Q (.ref r) { s with heap := h', toks := tk' }) →
    wpAny (model (PySem.Challenge.rw_op0095_01.row.toRowW.prog) w) (ktrTop dp un gd cn cs L a ccd cl outer) (call (.ref 42) [.int x t1, .int b t2, .int n t3]) Q E s := by
  k_fill
  intro dp un gd cn cs a ccd cl outer A₀ base h₀ L m rest s Q E x b n t1 t2 t3 B F X N T hk h1 h2 h3 hd hu hret
  k_with_none
  k_with "guard" =>
    (with_reducible first | show wpAny _ _ (exec (Stmt.While _ _ _ _) _) _ _ _ | show wpAny _ _ (call (Value.ref _) _ _) _ _ _ | show wpAny _ _ (pyIter (Value.ref _)) _ _ _ | show wpAny _ _ (exec (Stmt.If (PySem.Expr.Compare (PySem.Expr.Name (PySem.Str.ofString "least") _) _ _ _) _ _ _) _) _ _ _ | show UnrEnd _ _ _ _ _ _ _ | show KswEnd _ _ _ _ _ _ _ _ _ _ _ _ | show _ ∧ GrownAll _ _)
  k_with "omega" =>
    first | (kjx_bare; omega (config := {})) | ((fail_if_success (fail_if_success (omega (config := {})))); law_clear; lia)
  k_with "k_mem" =>
    first | assumption | (refine List.mem_cons_of_mem _ ?_; assumption) | (refine List.mem_cons_of_mem _ (List.mem_cons_of_mem _ ?_); assumption) | (refine List.mem_cons_of_mem _ (List.mem_cons_of_mem _ (List.mem_cons_of_mem _ ?_)); assumption)
  k_with "binaryOp RShift int int" =>
    (k_here; (with_reducible refine rshift_int ?_ ?_); omega)
  k_with "binaryOp RShift int int" =>
    (k_here; (with_reducible refine wpAny_rshift1_int ?_ ?_); omega)
  k_with "binaryOp LShift int int" =>
    (k_here; (with_reducible refine lshift_int ?_ (shl_ok ?_ ?_) ?_); omega; (first | with_reducible assumption | decide); omega)
  k_with "binaryOp Mult int int" =>
    (k_here; (with_reducible refine mul_int ?_ (mul_ok (by with_reducible assumption) (by with_reducible assumption))))
  k_with "binaryOp Mult ref int" =>
    (k_here; (with_reducible show wpAny _ _ (binaryOp Operator.Mult (Value.ref _) (Value.int _ _)) _ _ _); k_dflt (refine' zeros_K (by k_asm) (by k_asm) (by k_mem) (by first | assumption | omega) (by first | assumption | omega) ?_; k_whole); intro D9 h93 v9 n9 F' N' hlD hlen9 hI9; (try k_lt hlD))
  k_with "call builtin:sorted" =>
    (k_here; (with_reducible show wpAny _ _ (call (Value.builtin _) [Value.ref _]) _ _ _); (with_unfolding_all refine' kso_sorted (by k_asm) (by k_asm) (by is_list) (by l_ints) (by first | omega | (simp only [List.length_cons, List.length_nil]; omega)) ?_; k_whole); intro D' v' n' c' h' F' N' l1 i' e' p' o' b'; clear b'; (try k_lt l1))
  k_with "call builtin:divmod" =>
    (k_here; (with_reducible show wpAny _ _ (call (Value.builtin _) [Value.int _ _, Value.int _ _]) _ _ _); k_dflt (refine divmod_K (by k_asm) (by k_asm) (by omega) (by assumption) ?_); intro D' h' F' N' l1; (try k_lt l1))
  refine wpAny_call ?_
  k_dflt ktr_enter
  k_steps
  exact hret _ _ _ _ _ (by assumption) (by assumption) (by assumption)

theorem d3_initA {c a3 b b1 b2 : Int} {k : Nat} (hb : b = b1 * 2 ^ k + b2) (h30 : 0 ≤ a3) (h31 : a3 < 2 ^ k) (hcb : c < b) :
    (1 * 2 ^ k - 1) * b + (Builtin.bitOr ((c - b1 * 2 ^ k + b1) * 2 ^ k) a3 - (1 * 2 ^ k - 1) * b2) = c * 2 ^ k + a3 ∧
    Builtin.bitOr ((c - b1 * 2 ^ k + b1) * 2 ^ k) a3 - (1 * 2 ^ k - 1) * b2 < b := by
  rw [or_low h30 h31]
  have hp := kbt_pos k
  generalize (2 : Int) ^ k = H at *
  have e : (1 * H - 1) * b + ((c - b1 * H + b1) * H + a3 - (1 * H - 1) * b2) = c * H + a3 := by subst hb; grind
  refine ⟨e, ?_⟩
  have h1 : c * H ≤ (b - 1) * H := Int.mul_le_mul_of_nonneg_right (by omega) (by omega)
  have h2 : (b - 1) * H = b * H - H := by rw [Int.sub_mul, Int.one_mul]
  have h3 : (1 * H - 1) * b = b * H - b := by rw [Int.one_mul, Int.sub_mul, Int.one_mul, Int.mul_comm]
  omega
theorem d3_initB {c a3 b b1 b2 : Int} {k : Nat} (hb : b = b1 * 2 ^ k + b2) (h1 : 0 < b1) (h20 : 0 ≤ b2) (h30 : 0 ≤ a3) (h31 : a3 < 2 ^ k) (hc0 : 0 ≤ c) :
    c.fdiv b1 * b + (Builtin.bitOr (c.fmod b1 * 2 ^ k) a3 - c.fdiv b1 * b2) = c * 2 ^ k + a3 ∧
    Builtin.bitOr (c.fmod b1 * 2 ^ k) a3 - c.fdiv b1 * b2 < b := by
  rw [or_low h30 h31, Int.fdiv_eq_ediv_of_nonneg _ (Int.le_of_lt h1), Int.fmod_eq_emod_of_nonneg _ (Int.le_of_lt h1)]
  have hp := kbt_pos k
  have e0 := Int.emod_add_mul_ediv c b1
  have e1 := Int.emod_nonneg c (Int.ne_of_gt h1)
  have e2 := Int.emod_lt_of_pos c h1
  have e3 : 0 ≤ c / b1 := Int.ediv_nonneg hc0 (Int.le_of_lt h1)
  generalize (2 : Int) ^ k = H at *
  generalize c % b1 = mm at *
  generalize c / b1 = q at *
  constructor
  · subst hb; subst e0; grind
  · have h2 : mm * H ≤ (b1 - 1) * H := Int.mul_le_mul_of_nonneg_right (by omega) (by omega)
    have h3 : (b1 - 1) * H = b1 * H - H := by rw [Int.sub_mul, Int.one_mul]
    have h4 : 0 ≤ q * b2 := Int.mul_nonneg e3 h20
    omega
theorem d3_bits {c b b1 b2 : Int} {k : Nat} (hb : b = b1 * 2 ^ k + b2) (h1' : b1 < 2 ^ k) (h21 : b2 < 2 ^ k) (hc0 : 0 ≤ c) (hcb : c < b) : Builtin.Int.intBits c ≤ 2 * k := by
  refine bits_lt hc0 ?_
  have hp := kbt_pos k
  have e : (2 : Int) ^ (2 * k) = 2 ^ k * 2 ^ k := by rw [Nat.two_mul, Int.pow_add]
  rw [e]
  generalize (2 : Int) ^ k = H at *
  have h2 : b1 * H ≤ (H - 1) * H := Int.mul_le_mul_of_nonneg_right (by omega) (by omega)
  have h3 : (H - 1) * H = H * H - H := by rw [Int.sub_mul, Int.one_mul]
  omega
theorem d3_step {q r b W : Int} (h : q * b + r = W) : (q - 1) * b + (r + b) = W := by
  rw [Int.sub_mul, Int.one_mul]; omega
theorem d3_end {q r b W : Int} (hb : 0 < b) (h : q * b + r = W) (h0 : ¬ r < 0) (h1 : r < b) : q = W / b ∧ r = W % b := by
  have := kbt_unique hb (show r + b * q = W by rw [Int.mul_comm]; omega) (by omega) h1
  exact ⟨this.1.symm, this.2.symm⟩
/-- one step of the loop's word: q * b + r is the whole, r below b -/
theorem d3_call {w : World} {p : Program} {loose : List Str} {mean : ExcName → Option Value} {mg mb : Str → Option Value} : ∀ (dp un : Nat) (gd : Option (List Code)) (cn : Str) (cs : Scope) (a : Addr) (ccd : Value) (cl : List (Str × Addr)) (outer : List Env) (A₀ : Around) (base h₀ : Heap) (L : Addr) (m : Str → Option Value) (rest : List (Addr × Obj)) (s : Shared) (Q E : Value → Shared → Prop) (c a3 b b1 b2 n : Int) (t1 t2 t3 t4 t5 t6 : Tok),
    Below A₀ base outer h₀ → Fr h₀ L s.heap m → (Mine.hd.heap_39 w.params).In h₀ → News h₀ L s.heap (rest) → Top p loose mean mg mb h₀ → cs.kind = .function → 1 ≤ n → n ≤ 4000 → b = b1 * 2 ^ n.toNat + b2 → 0 < b1 → b1 < 2 ^ n.toNat → 0 ≤ b2 → b2 < 2 ^ n.toNat → 0 ≤ a3 → a3 < 2 ^ n.toNat → 0 ≤ c → c < b →
    dp + 8 < recursionLimit → un + 8 * 8 < cLine →
    (∀ r h' tk' u1 u2, Fr h₀ L h' m → News h₀ L h' ((r, tup2 (.int ((c * 2 ^ n.toNat + a3) / b) u1) (.int ((c * 2 ^ n.toNat + a3) % b) u2)) :: rest) → (∀ p ∈ rest, p.1 < r) → Q (.ref r) { s with heap := h', toks := tk' }) →
    wpAny (model (PySem.Challenge.rw_op0095_01.row.toRowW.prog) w) (ktrTop dp un gd cn cs L a ccd cl outer) (call (.ref 49) [.int c t1, .int a3 t2, .int b t3, .int b1 t4, .int b2 t5, .int n t6]) Q E s := by
  k_fill
  intro dp un gd cn cs a ccd cl outer A₀ base h₀ L m rest s Q E c a3 b b1 b2 n t1 t2 t3 t4 t5 t6 B F X N T hk hn1 hn2 hb h1 h1' h20 h21 h30 h31 hc0 hcb hd hu hret
  k_with_none
  k_with "guard" =>
    (with_reducible first | show wpAny _ _ (exec (Stmt.While _ _ _ _) _) _ _ _ | show wpAny _ _ (call (Value.ref _) _ _) _ _ _ | show wpAny _ _ (pyIter (Value.ref _)) _ _ _ | show wpAny _ _ (exec (Stmt.If (PySem.Expr.Compare (PySem.Expr.Name (PySem.Str.ofString "least") _) _ _ _) _ _ _) _) _ _ _ | show UnrEnd _ _ _ _ _ _ _ | show KswEnd _ _ _ _ _ _ _ _ _ _ _ _ | show _ ∧ GrownAll _ _)
  k_with "omega" =>
    first | (kjx_bare; omega (config := {})) | ((fail_if_success (fail_if_success (omega (config := {})))); law_clear; lia)
  k_with "k_mem" =>
    first | assumption | (refine List.mem_cons_of_mem _ ?_; assumption) | (refine List.mem_cons_of_mem _ (List.mem_cons_of_mem _ ?_); assumption) | (refine List.mem_cons_of_mem _ (List.mem_cons_of_mem _ (List.mem_cons_of_mem _ ?_)); assumption)
  k_with "binaryOp RShift int int" =>
    (k_here; (with_reducible refine rshift_int ?_ ?_); omega)
  k_with "binaryOp RShift int int" =>
    (k_here; (with_reducible refine wpAny_rshift1_int ?_ ?_); omega)
  k_with "binaryOp LShift int int" =>
    (k_here; (with_reducible refine lshift_int ?_ (shl_ok ?_ ?_) ?_); omega; (first | with_reducible assumption | decide); omega)
  k_with "binaryOp Mult int int" =>
    (k_here; (with_reducible refine mul_int ?_ (mul_ok (by with_reducible assumption) (by with_reducible assumption))))
  k_with "binaryOp Mult ref int" =>
    (k_here; (with_reducible show wpAny _ _ (binaryOp Operator.Mult (Value.ref _) (Value.int _ _)) _ _ _); k_dflt (refine' zeros_K (by k_asm) (by k_asm) (by k_mem) (by first | assumption | omega) (by first | assumption | omega) ?_; k_whole); intro D9 h93 v9 n9 F' N' hlD hlen9 hI9; (try k_lt hlD))
  k_with "call builtin:sorted" =>
    (k_here; (with_reducible show wpAny _ _ (call (Value.builtin _) [Value.ref _]) _ _ _); (with_unfolding_all refine' kso_sorted (by k_asm) (by k_asm) (by is_list) (by l_ints) (by first | omega | (simp only [List.length_cons, List.length_nil]; omega)) ?_; k_whole); intro D' v' n' c' h' F' N' l1 i' e' p' o' b'; clear b'; (try k_lt l1))
  have hN : n.toNat ≤ 4000 := by omega
  have hb0 : 0 < b := by omega
  have zc := d3_bits hb h1' h21 hc0 hcb
  have z1 : Builtin.Int.intBits b1 ≤ 60000 := Nat.le_trans (bits_lt (Int.le_of_lt h1) h1') (by omega)
  have z19 : Builtin.Int.intBits b1 ≤ 9000 := Nat.le_trans (bits_lt (Int.le_of_lt h1) h1') (by omega)
  have z2 : Builtin.Int.intBits b2 ≤ 60000 := Nat.le_trans (bits_lt h20 h21) (by omega)
  have zq : Builtin.Int.intBits (c.fdiv b1) ≤ 60000 := Nat.le_trans (intBits_fdiv_le zc) (by omega)
  have zr : Builtin.Int.intBits (c.fmod b1) ≤ 60000 := Nat.le_trans (intBits_fmod_le zc z19) (by omega)
  have zp : Builtin.Int.intBits ((2 : Int) ^ n.toNat) ≤ 8001 := Nat.le_trans (intBits_pow_le (m := 2) (by decide) n.toNat) (by omega)
  have zq' : Builtin.Int.intBits (1 * 2 ^ n.toNat - 1) ≤ 60000 := by
    rw [Int.one_mul]; exact Nat.le_trans (intBits_sub_le zp (n := 1) (by decide)) (by omega)
  have zr' : Builtin.Int.intBits (c - b1 * 2 ^ n.toNat + b1) ≤ 60000 :=
    Nat.le_trans (intBits_add_le (intBits_sub_le zc (intBits_mul_le z19 zp)) z19) (by omega)
  k_with "my stop" =>
    refine d2b_call _ _ _ _ _ _ _ _ _ _ _ _ _ _ _ _ _ _ _ _ _ _ _ _ (by k_asm) (by k_asm) (by k_asm) (by k_asm) (by k_asm) rfl (by omega) (by omega) (by assumption) ?_ ?_ ?_
  k_with "my stop" =>
    (rename Fr _ _ _ _ => lF'); (rename News _ _ _ _ => lN')
    have lN2 := fun p hp => lN' p (List.mem_cons_of_mem _ hp)
    (with_unfolding_all refine ksw_while (σ := Int × Tok × Int × Tok) (fun _ => rest) (fun z => [(Str.ofString "q", .int z.1 z.2.1), (Str.ofString "r", .int z.2.2.1 z.2.2.2)]) (fun _ => True) [] (fun z => z.1 * b + z.2.2.1 = c * 2 ^ n.toNat + a3 ∧ z.2.2.1 < b) (fun z => (-z.2.2.1).toNat) (_, _, _, _) lF' lN2 trivial (List.forall_mem_cons.mpr ⟨rfl, List.forall_mem_cons.mpr ⟨rfl, List.forall_mem_nil _⟩⟩) ?kp ?_ ?_)
    (case kp => first | exact d3_initA hb h30 h31 hcb | exact d3_initB hb h1 h20 h30 h31 hc0)
    all_goals clear lF' lN' lN2
    rotate_left
    · k_steps
    rintro ⟨qz, tq, rz, tr⟩ uz hz tkz - ⟨hz0, hz1⟩ Fz Nz
    dsimp only at *
    try k_fold
  refine wpAny_call ?_
  k_dflt ktr_enter
  k_steps
  all_goals first
    | ((rename News _ _ _ _ => nE'); (rename Fr _ _ _ _ => fE')
       (with_unfolding_all refine ksw_end (_, _, _, _) fE' nE' (fun p hp => hp) trivial (List.forall_mem_cons.mpr ⟨rfl, List.forall_mem_cons.mpr ⟨rfl, List.forall_mem_nil _⟩⟩) (by intro z h2 h3; simp at h2; simp [kstB, h2]) ⟨d3_step hz0, by dsimp only; omega⟩ (by dsimp only; omega)))
    | (obtain ⟨e1, e2⟩ := d3_end hb0 hz0 (by assumption) hz1
       subst e1 e2
       exact hret _ _ _ _ _ (by assumption) (by assumption) (by assumption))


-- part D2
theorem off_D2 : True := by
  w_top off
  k_with_none
  k_with "omega" => first | (kjx_bare; omega (config := {})) | ((fail_if_success (fail_if_success (omega (config := {})))); law_clear; lia)
  exact True.intro
theorem pow_le_pow2 {i j : Nat} (h : i ≤ j) : (2 : Int) ^ i ≤ 2 ^ j := by
  have := Int.ofNat_le.mpr (Nat.pow_le_pow_right (n := 2) (by decide) h)
  rw [kbt_cast, kbt_cast] at this
  exact this
theorem and_mask (y : Int) (k : Nat) : Builtin.bitAnd y (1 * 2 ^ k - 1) = y % 2 ^ k := by rw [Int.one_mul, kbt_mask]
theorem mask_lo (y : Int) (k : Nat) : 0 ≤ Builtin.bitAnd y (1 * 2 ^ k - 1) ∧ Builtin.bitAnd y (1 * 2 ^ k - 1) < 2 ^ k := by
  rw [and_mask]; exact ⟨Int.emod_nonneg _ (Int.ne_of_gt (kbt_pos k)), Int.emod_lt_of_pos _ (kbt_pos k)⟩
theorem fdiv_pow (y : Int) (k : Nat) : y.fdiv (2 ^ k) = y / 2 ^ k := Int.fdiv_eq_ediv_of_nonneg _ (Int.le_of_lt (kbt_pos k))
theorem d2_facts {X B N h : Int} (hh : N.toNat = h.toNat + h.toNat) (h0 : 1 ≤ h.toNat) (hB1 : 2 ^ (N.toNat - 1) ≤ B) (hB2 : B < 2 ^ N.toNat) (hX0 : 0 ≤ X) (hX1 : X < B * 2 ^ N.toNat) :
    B = B.fdiv (2 ^ h.toNat) * 2 ^ h.toNat + Builtin.bitAnd B (1 * 2 ^ h.toNat - 1) ∧ 0 < B.fdiv (2 ^ h.toNat) ∧ B.fdiv (2 ^ h.toNat) < 2 ^ h.toNat ∧ 0 ≤ X.fdiv (2 ^ N.toNat) ∧ X.fdiv (2 ^ N.toNat) < B ∧ 0 < B := by
  have hB0 : 0 < B := by have := kbt_pos (N.toNat - 1); omega
  simp only [and_mask, fdiv_pow]
  rw [hh] at *
  have hp := kbt_pos h.toNat
  have e1 := Int.emod_add_mul_ediv B (2 ^ h.toNat)
  have e2 := Int.emod_lt_of_pos B hp
  have e3 := Int.emod_nonneg B (Int.ne_of_gt hp)
  have e4 : (2 : Int) ^ h.toNat ≤ 2 ^ (h.toNat + h.toNat - 1) := pow_le_pow2 (by omega)
  have e5 : (2 : Int) ^ (h.toNat + h.toNat) = 2 ^ h.toNat * 2 ^ h.toNat := Int.pow_add ..
  refine ⟨by rw [Int.mul_comm]; omega, ?_, ?_, Int.ediv_nonneg hX0 (Int.le_of_lt (kbt_pos _)), Int.ediv_lt_of_lt_mul (kbt_pos _) hX1, hB0⟩
  · have := Int.le_ediv_of_mul_le hp (show 1 * 2 ^ h.toNat ≤ B by omega); omega
  · exact Int.ediv_lt_of_lt_mul hp (by omega)
theorem d2_fin {X B N h : Int} (hh : N.toNat = h.toNat + h.toNat) (hB0 : 0 < B) :
    Builtin.bitOr ((X.fdiv (2 ^ N.toNat) * 2 ^ h.toNat + Builtin.bitAnd (X.fdiv (2 ^ h.toNat)) (1 * 2 ^ h.toNat - 1)) / B * 2 ^ h.toNat)
      (((X.fdiv (2 ^ N.toNat) * 2 ^ h.toNat + Builtin.bitAnd (X.fdiv (2 ^ h.toNat)) (1 * 2 ^ h.toNat - 1)) % B * 2 ^ h.toNat + Builtin.bitAnd X (1 * 2 ^ h.toNat - 1)) / B) = X / B ∧
    ((X.fdiv (2 ^ N.toNat) * 2 ^ h.toNat + Builtin.bitAnd (X.fdiv (2 ^ h.toNat)) (1 * 2 ^ h.toNat - 1)) % B * 2 ^ h.toNat + Builtin.bitAnd X (1 * 2 ^ h.toNat - 1)) % B = X % B := by
  simp only [and_mask, fdiv_pow]
  rw [hh, Int.pow_add]
  generalize h.toNat = k
  have hp := kbt_pos k
  have ea : X / (2 ^ k * 2 ^ k) * 2 ^ k + X / 2 ^ k % 2 ^ k = X / 2 ^ k := by
    rw [← Int.ediv_ediv_of_nonneg (Int.le_of_lt hp)]
    have := Int.emod_add_mul_ediv (X / 2 ^ k) (2 ^ k)
    rw [Int.mul_comm]; omega
  rw [ea]
  have e1 := Int.emod_add_mul_ediv (X / 2 ^ k) B
  have e2 := Int.emod_nonneg (X / 2 ^ k) (Int.ne_of_gt hB0)
  have e3 := Int.emod_lt_of_pos (X / 2 ^ k) hB0
  have e4 := Int.emod_add_mul_ediv X (2 ^ k)
  have e5 := Int.emod_nonneg X (Int.ne_of_gt hp)
  have e6 := Int.emod_lt_of_pos X hp
  generalize X / 2 ^ k / B = q1 at *
  generalize X / 2 ^ k % B = r1 at *
  generalize X / 2 ^ k = Y at *
  generalize X % 2 ^ k = y at *
  have f0 : 0 ≤ r1 * 2 ^ k + y := by have := Int.mul_nonneg e2 (Int.le_of_lt hp); omega
  have f1 := Int.emod_add_mul_ediv (r1 * 2 ^ k + y) B
  have f2 := Int.emod_nonneg (r1 * 2 ^ k + y) (Int.ne_of_gt hB0)
  have f3 := Int.emod_lt_of_pos (r1 * 2 ^ k + y) hB0
  have f4 : 0 ≤ (r1 * 2 ^ k + y) / B := Int.ediv_nonneg f0 (Int.le_of_lt hB0)
  have f5 : (r1 * 2 ^ k + y) / B < 2 ^ k := by
    refine Int.ediv_lt_of_lt_mul hB0 ?_
    have g1 : r1 * 2 ^ k ≤ (B - 1) * 2 ^ k := Int.mul_le_mul_of_nonneg_right (by omega) (Int.le_of_lt hp)
    have g2 : (B - 1) * 2 ^ k = 2 ^ k * B - 2 ^ k := by rw [Int.sub_mul, Int.one_mul, Int.mul_comm]
    omega
  rw [or_low f4 f5]
  generalize (r1 * 2 ^ k + y) / B = q2 at *
  generalize hr2 : (r1 * 2 ^ k + y) % B = r2 at *
  generalize (2 : Int) ^ k = H at *
  have key : r2 + B * (q1 * H + q2) = X := by subst e4; subst e1; grind
  have := kbt_unique hB0 key f2 f3
  exact ⟨this.1.symm, this.2.symm⟩
theorem pad_div (x : Int) {b : Int} (hb : 0 < b) : x * 2 ^ Int.toNat 1 / (b * 2 ^ Int.toNat 1) = x / b := by
  have e : (2 : Int) ^ Int.toNat 1 = 2 := rfl
  rw [e]; exact Int.mul_ediv_mul_of_pos_left x b (by decide)
theorem pad_mod (x : Int) {b : Int} (hb : 0 < b) : (x * 2 ^ Int.toNat 1 % (b * 2 ^ Int.toNat 1)).fdiv (2 ^ Int.toNat 1) = x % b := by
  have e : (2 : Int) ^ Int.toNat 1 = 2 := rfl
  rw [e, Int.mul_comm x, Int.mul_comm b, Int.mul_emod_mul_of_pos _ _ (by decide), Int.fdiv_eq_ediv_of_nonneg _ (by decide), Int.mul_ediv_cancel_left _ (by decide)]
theorem d2_q1 {X B N h : Int} (hX : Builtin.Int.intBits X ≤ 30000) (hh : h.toNat ≤ 4000) (hB0 : 0 < B) :
    Builtin.Int.intBits ((X.fdiv (2 ^ N.toNat) * 2 ^ h.toNat + Builtin.bitAnd (X.fdiv (2 ^ h.toNat)) (1 * 2 ^ h.toNat - 1)) / B) ≤ 60000 := by
  rw [← Int.fdiv_eq_ediv_of_nonneg _ (Int.le_of_lt hB0)]
  have zp : Builtin.Int.intBits ((2 : Int) ^ h.toNat) ≤ 8001 := Nat.le_trans (intBits_pow_le (m := 2) (by decide) h.toNat) (by omega)
  have z1 : Builtin.Int.intBits (Builtin.bitAnd (X.fdiv (2 ^ h.toNat)) (1 * 2 ^ h.toNat - 1)) ≤ 8001 := by
    obtain ⟨h0, h1⟩ := mask_lo (X.fdiv (2 ^ h.toNat)) h.toNat
    exact Nat.le_trans (bits_lt h0 h1) (by omega)
  exact Nat.le_trans (intBits_fdiv_le (intBits_add_le (intBits_mul_le (intBits_fdiv_le hX) zp) z1)) (by omega)
theorem d2_call {w : World} {p : Program} {loose : List Str} {mean : ExcName → Option Value} {mg mb : Str → Option Value} : ∀ (dp un : Nat) (gd : Option (List Code)) (cn : Str) (cs : Scope) (a : Addr) (ccd : Value) (cl : List (Str × Addr)) (outer : List Env) (A₀ : Around) (base h₀ : Heap) (L : Addr) (m : Str → Option Value) (rest : List (Addr × Obj)) (s : Shared) (Q E : Value → Shared → Prop) (x b n : Int) (t1 t2 t3 : Tok),
    Below A₀ base outer h₀ → Fr h₀ L s.heap m → (Mine.hd.heap_39 w.params).In h₀ → News h₀ L s.heap (rest) → Top p loose mean mg mb h₀ → cs.kind = .function → 1 ≤ n → n ≤ 7000 → 2 ^ (n.toNat - 1) ≤ b → b < 2 ^ n.toNat → 0 ≤ x → x < b * 2 ^ n.toNat →
    dp + 12 < recursionLimit → un + 8 * 12 < cLine →
    (∀ r h' tk' u1 u2, Fr h₀ L h' m → News h₀ L h' ((r, tup2 (.int (x / b) u1) (.int (x % b) u2)) :: rest) → (∀ p ∈ rest, p.1 < r) → Q (.ref r) { s with heap := h', toks := tk' }) →
    wpAny (model (PySem.Challenge.rw_op0095_01.row.toRowW.prog) w) (ktrTop dp un gd cn cs L a ccd cl outer) (call (.ref 42) [.int x t1, .int b t2, .int n t3]) Q E s := by
  k_fill
  intro dp un gd cn cs a ccd cl outer A₀ base h₀ L m rest s Q E x b n t1 t2 t3 B F X N T hk hn1 hn2 hb1 hb2 hx0 hx1 hd hu hret
  k_with_none
  k_with "guard" =>
    (with_reducible first | show wpAny _ _ (exec (Stmt.While _ _ _ _) _) _ _ _ | show wpAny _ _ (call (Value.ref _) _ _) _ _ _ | show wpAny _ _ (pyIter (Value.ref _)) _ _ _ | show wpAny _ _ (exec (Stmt.If (PySem.Expr.Compare (PySem.Expr.Name (PySem.Str.ofString "least") _) _ _ _) _ _ _) _) _ _ _ | show UnrEnd _ _ _ _ _ _ _ | show KswEnd _ _ _ _ _ _ _ _ _ _ _ _ | show _ ∧ GrownAll _ _)
  k_with "omega" =>
    first | (kjx_bare; omega (config := {})) | ((fail_if_success (fail_if_success (omega (config := {})))); law_clear; lia)
  k_with "k_mem" =>
    first | assumption | (refine List.mem_cons_of_mem _ ?_; assumption) | (refine List.mem_cons_of_mem _ (List.mem_cons_of_mem _ ?_); assumption) | (refine List.mem_cons_of_mem _ (List.mem_cons_of_mem _ (List.mem_cons_of_mem _ ?_)); assumption)
  k_with "binaryOp RShift int int" =>
    (k_here; (with_reducible refine rshift_int ?_ ?_); omega)
  k_with "binaryOp RShift int int" =>
    (k_here; (with_reducible refine wpAny_rshift1_int ?_ ?_); omega)
  k_with "binaryOp LShift int int" =>
    (k_here; (with_reducible refine lshift_int ?_ (shl_ok ?_ ?_) ?_); omega; (first | with_reducible assumption | decide); omega)
  k_with "binaryOp Mult int int" =>
    (k_here; (with_reducible refine mul_int ?_ (mul_ok (by with_reducible assumption) (by with_reducible assumption))))
  k_with "binaryOp Mult ref int" =>
    (k_here; (with_reducible show wpAny _ _ (binaryOp Operator.Mult (Value.ref _) (Value.int _ _)) _ _ _); k_dflt (refine' zeros_K (by k_asm) (by k_asm) (by k_mem) (by first | assumption | omega) (by first | assumption | omega) ?_; k_whole); intro D9 h93 v9 n9 F' N' hlD hlen9 hI9; (try k_lt hlD))
  k_with "call builtin:sorted" =>
    (k_here; (with_reducible show wpAny _ _ (call (Value.builtin _) [Value.ref _]) _ _ _); (with_unfolding_all refine' kso_sorted (by k_asm) (by k_asm) (by is_list) (by l_ints) (by first | omega | (simp only [List.length_cons, List.length_nil]; omega)) ?_; k_whole); intro D' v' n' c' h' F' N' l1 i' e' p' o' b'; clear b'; (try k_lt l1))
  k_with "call builtin:divmod" =>
    (k_here; (with_reducible show wpAny _ _ (call (Value.builtin _) [Value.int _ _, Value.int _ _]) _ _ _); k_dflt (refine divmod_K (by k_asm) (by k_asm) (by omega) (by assumption) ?_); intro D' h' F' N' l1; (try k_lt l1))
  k_with "inplaceOp LShift int int" =>
    k_here
    with_reducible refine ilshift_int ?_ (shl_ok ?_ ?_) ?_
    · omega
    · first | with_reducible assumption | decide
    · omega
  have hN : n.toNat ≤ 7000 := by omega
  have hb0 : 0 < b := by have := kbt_pos (n.toNat - 1); omega
  have zb : Builtin.Int.intBits b ≤ 60000 := Nat.le_trans (bits_lt (Int.le_of_lt hb0) hb2) (by omega)
  have zb9 : Builtin.Int.intBits b ≤ 9000 := Nat.le_trans (bits_lt (Int.le_of_lt hb0) hb2) (by omega)
  have zx3 : Builtin.Int.intBits x ≤ 20000 := by
    refine Nat.le_trans (bits_lt (k := n.toNat + n.toNat) hx0 ?_) (by omega)
    rw [Int.pow_add]
    exact Int.lt_trans hx1 (Int.mul_lt_mul_of_pos_right hb2 (kbt_pos _))
  have zx : Builtin.Int.intBits x ≤ 60000 := Nat.le_trans zx3 (by decide)
  have hpar := bitAnd_m1 n
  refine wpAny_call ?_
  k_dflt ktr_enter
  k_steps
  · rw [Int.fdiv_eq_ediv_of_nonneg _ (Int.le_of_lt hb0), Int.fmod_eq_emod_of_nonneg _ (Int.le_of_lt hb0)] at *
    exact hret _ _ _ _ _ (by assumption) (by assumption) (by assumption)
  · have hh : (n + 1).toNat = ((n + 1) / 2).toNat + ((n + 1) / 2).toNat := by omega
    have hn0 : (n + 1).toNat = n.toNat + 1 := by omega
    have hB1 : 2 ^ ((n + 1).toNat - 1) ≤ b * 2 ^ Int.toNat 1 := by
      rw [hn0, show n.toNat + 1 - 1 = (n.toNat - 1) + 1 by omega, Int.pow_succ]
      exact Int.mul_le_mul_of_nonneg_right hb1 (by decide)
    have hB2 : b * 2 ^ Int.toNat 1 < 2 ^ (n + 1).toNat := by
      rw [hn0, Int.pow_succ]
      exact Int.mul_lt_mul_of_pos_right hb2 (by decide)
    have hX1 : x * 2 ^ Int.toNat 1 < b * 2 ^ Int.toNat 1 * 2 ^ (n + 1).toNat := by
      have e : (2 : Int) ^ Int.toNat 1 = 2 := rfl
      rw [hn0, Int.pow_succ, e]
      generalize (2 : Int) ^ n.toNat = H at *
      have : b * 2 * (H * 2) = 4 * (b * H) := by grind
      omega
    obtain ⟨P1, P2, P3, P4, P5, P6⟩ := d2_facts hh (by omega) hB1 hB2 (Int.mul_nonneg hx0 (by decide)) hX1
    refine d3_call _ _ _ _ _ _ _ _ _ _ _ _ _ _ _ _ _ _ _ _ _ _ _ _ _ _ _ _ _ _ (by k_asm) (by k_asm) (by k_asm) (by k_asm) (by k_asm) rfl (by omega) (by omega) P1 P2 P3 (mask_lo _ _).1 (mask_lo _ _).2 (mask_lo _ _).1 (mask_lo _ _).2  P4 P5 ?_ ?_ ?_
    · ktr_room
    · ktr_units
    intro r h' tk' u1 u2 F9 N9 l9
    have zq1 := d2_q1 (X := x * 2 ^ Int.toNat 1) (N := n + 1) (h := (n + 1) / 2) (Nat.le_trans (intBits_mul_le zx3 (n := 2) (by decide)) (by decide)) (by omega) P6
    k_steps
    refine d3_call _ _ _ _ _ _ _ _ _ _ _ _ _ _ _ _ _ _ _ _ _ _ _ _ _ _ _ _ _ _ (by k_asm) (by k_asm) (by k_asm) (by k_asm) (by k_asm) rfl (by omega) (by omega) P1 P2 P3 (mask_lo _ _).1 (mask_lo _ _).2 (mask_lo _ _).1 (mask_lo _ _).2  (Int.emod_nonneg _ (Int.ne_of_gt P6)) (Int.emod_lt_of_pos _ P6) ?_ ?_ ?_
    · ktr_room
    · ktr_units
    intro r h' tk' u1 u2 F9 N9 l9
    k_steps
    · have e := d2_fin (X := x * 2 ^ Int.toNat 1) hh P6
      (rename News h₀ L _ _ => kN); (rename _ < _ ∧ _ => hl)
      rw [e.1, e.2, pad_div x hb0, pad_mod x hb0] at kN
      exact hret _ _ _ _ _ (by assumption) (fun p hp => kN p (by rcases List.mem_cons.mp hp with rfl | hp; exact List.mem_cons_self ..; exact List.mem_cons_of_mem _ (List.mem_cons_of_mem _ (List.mem_cons_of_mem _ (List.mem_cons_of_mem _ hp))))) (allLt_mem hl.2.2.2)
    · exfalso; omega
  · have hh : n.toNat = (n / 2).toNat + (n / 2).toNat := by omega
    obtain ⟨P1, P2, P3, P4, P5, P6⟩ := d2_facts hh (by omega) hb1 hb2 hx0 hx1
    refine d3_call _ _ _ _ _ _ _ _ _ _ _ _ _ _ _ _ _ _ _ _ _ _ _ _ _ _ _ _ _ _ (by k_asm) (by k_asm) (by k_asm) (by k_asm) (by k_asm) rfl (by omega) (by omega) P1 P2 P3 (mask_lo _ _).1 (mask_lo _ _).2 (mask_lo _ _).1 (mask_lo _ _).2  P4 P5 ?_ ?_ ?_
    · ktr_room
    · ktr_units
    intro r h' tk' u1 u2 F9 N9 l9
    have zq1 := d2_q1 (X := x) (B := b) (N := n) (h := n / 2) (Nat.le_trans zx3 (by decide)) (by omega) hb0
    k_steps
    refine d3_call _ _ _ _ _ _ _ _ _ _ _ _ _ _ _ _ _ _ _ _ _ _ _ _ _ _ _ _ _ _ (by k_asm) (by k_asm) (by k_asm) (by k_asm) (by k_asm) rfl (by omega) (by omega) P1 P2 P3 (mask_lo _ _).1 (mask_lo _ _).2 (mask_lo _ _).1 (mask_lo _ _).2  (Int.emod_nonneg _ (Int.ne_of_gt hb0)) (Int.emod_lt_of_pos _ hb0) ?_ ?_ ?_
    · ktr_room
    · ktr_units
    intro r h' tk' u1 u2 F9 N9 l9
    k_steps
    · exfalso; omega
    · have e := d2_fin (X := x) hh P6
      (rename News h₀ L _ _ => kN); (rename _ < _ ∧ _ => hl)
      rw [e.1, e.2] at kN
      exact hret _ _ _ _ _ (by assumption) (fun p hp => kN p (by rcases List.mem_cons.mp hp with rfl | hp; exact List.mem_cons_self ..; exact List.mem_cons_of_mem _ (List.mem_cons_of_mem _ (List.mem_cons_of_mem _ (List.mem_cons_of_mem _ hp))))) (allLt_mem hl.2.2.2)


-- part Di
theorem off_Di : True := by
  w_top off
  k_with_none
  k_with "omega" => first | (kjx_bare; omega (config := {})) | ((fail_if_success (fail_if_success (omega (config := {})))); law_clear; lia)
  exact True.intro
/-- digits to a base of 2 ^ n, the lowest first -/
def dval (n : Nat) : List Int → Int
  | [] => 0
  | d :: r => d + 2 ^ n * dval n r
theorem dval_append (n : Nat) (xs ys : List Int) : dval n (xs ++ ys) = dval n xs + 2 ^ (n * xs.length) * dval n ys := by
  induction xs with
  | nil => simp [dval]
  | cons d r ih =>
    rw [List.cons_append, dval, ih, dval, List.length_cons, Nat.mul_add, Nat.mul_one, Int.pow_add]
    grind
theorem dval_lt (n : Nat) (xs : List Int) (h : ∀ d ∈ xs, 0 ≤ d ∧ d < 2 ^ n) : 0 ≤ dval n xs ∧ dval n xs < 2 ^ (n * xs.length) := by
  induction xs with
  | nil => simp [dval]
  | cons d r ih =>
    have h1 := h d (List.mem_cons_self ..)
    have h2 := ih fun x hx => h x (List.mem_cons_of_mem _ hx)
    rw [dval, List.length_cons, Nat.mul_add, Nat.mul_one, Int.pow_add]
    have hp := kbt_pos n
    have h3 := Int.mul_nonneg (Int.le_of_lt hp) h2.1
    have h4 : 2 ^ n * dval n r ≤ 2 ^ n * (2 ^ (n * r.length) - 1) := Int.mul_le_mul_of_nonneg_left (by omega) (Int.le_of_lt hp)
    rw [Int.mul_sub, Int.mul_one] at h4
    rw [Int.mul_comm (2 ^ (n * r.length))]
    omega
def innerOf : Option Obj → Option (Arguments × List Stmt × Scope)
  | some ⟨_, _, .func fd, _⟩ => match fd.body with
    | .stmts b => b.findSome? fun st => match st with
      | .FunctionDef _ ps bd _ _ _ sc _ _ _ => some (ps, bd, sc)
      | _ => none
    | _ => none
  | _ => none
theorem inner_inj {o : Obj} {ps ps' : Arguments} {bd bd' : List Stmt} {sc sc' : Scope} (h : innerOf (some o) = some (ps, bd, sc)) (e : innerOf (some o) = some (ps', bd', sc')) : ps = ps' ∧ bd = bd' ∧ sc = sc' := by
  rw [h] at e
  cases e
  exact ⟨rfl, rfl, rfl⟩
theorem with_lookup {K : Frag} {a : Addr} {o : Obj} {P : Prop} (h : K.lookup a = some o) (k : K.lookup a = some o → P) : P := k h
theorem di_one {n : Nat} {ns P M S : List Int} {lo hi : Int} (hns : ns = P ++ M ++ S) (hlo : lo = P.length) (hhi : hi = P.length + M.length) (h1 : lo + 1 = hi) : ns.getD lo.toNat 0 = dval n M := by
  have hM : M.length = 1 := by omega
  obtain ⟨d, rfl⟩ := List.length_eq_one_iff.mp hM
  subst hns
  have e : lo.toNat = P.length := by omega
  rw [e]
  simp [dval, List.getD]
theorem di_two {n : Nat} {M : List Int} {lo hi : Int} {q : Nat} (hlo : lo = q) (hhi : hi = q + M.length) :
    dval n (M.drop (M.length / 2)) * 2 ^ (((lo + hi) / 2 - lo) * (n : Int)).toNat + dval n (M.take (M.length / 2)) = dval n M := by
  have e : (lo + hi) / 2 - lo = ((M.length / 2 : Nat) : Int) := by omega
  have e2 : (((M.length / 2 : Nat) : Int) * (n : Int)).toNat = n * (M.take (M.length / 2)).length := by
    rw [← Int.natCast_mul, Int.toNat_natCast, List.length_take, Nat.min_eq_left (by omega), Nat.mul_comm]
  rw [e, e2]
  conv => rhs; rw [← List.take_append_drop (M.length / 2) M, dval_append]
  rw [Int.mul_comm]; omega
theorem di_call {w : World} {p : Program} {loose : List Str} {mean : ExcName → Option Value} {mg mb : Str → Option Value} {ps : Arguments} {bd : List Stmt} {sc : Scope} (hin : innerOf ((Mine.hd.heap_39 w.params).lookup 63) = some (ps, bd, sc)) :
    ∀ (k dp un : Nat) (gd : Option (List Code)) (cn : Str) (cs : Scope) (a : Addr) (ccd : Value) (cl : List (Str × Addr)) (outer : List Env) (A₀ : Around) (base h₀ : Heap) (L : Addr) (m : Str → Option Value) (rest : List (Addr × Obj)) (s : Shared) (Q E : Value → Shared → Prop)
    (l f c' cN cI cD : Addr) (oc oN oI oD : Obj) (cvs : Array Value) (qual : Str) (tq : Tok) (doc pm ctv : Value) (vs : List Value) (ns P M S : List Int) (k0 n : Nat) (tn t1 t2 : Tok) (lo hi : Int),
    Below A₀ base outer h₀ → Fr h₀ L s.heap m → (Mine.hd.heap_39 w.params).In h₀ → News h₀ L s.heap ((l, listOf vs.toArray k0) :: rest) → Top p loose mean mg mb h₀ → cs.kind = .function → CodeHd base 62 58 →
    (f, fnMade (Str.ofString "inner") qual ps bd sc [(Str.ofString "n", cN), (Str.ofString "inner", cI), (Str.ofString "digits", cD)] doc pm c' ctv) ∈ rest → (c', oc) ∈ rest → oc.data = .fields cvs → cvs[1]? = some (.str qual tq) →
    (cN, oN) ∈ rest → oN.data = .cell (some (.int n tn)) → (cI, oI) ∈ rest → oI.data = .cell (some (.ref f)) → (cD, oD) ∈ rest → oD.data = .cell (some (.ref l)) →
    IntsAre vs ns → ns = P ++ M ++ S → M.length = k → 0 < k → lo = P.length → hi = P.length + M.length → ns.length ≤ 1000 → (∀ d ∈ M, 0 ≤ d ∧ d < 2 ^ n) → n * k ≤ 50000 → n ≤ 50000 →
    dp + k + 2 < recursionLimit → un + 8 * (k + 2) < cLine →
    (∀ h' tk' t, Fr h₀ L h' m → News h₀ L h' ((l, listOf vs.toArray k0) :: rest) → Q (.int (dval n M) t) { s with heap := h', toks := tk' }) →
    wpAny (model (PySem.Challenge.rw_op0095_01.row.toRowW.prog) w) (ktrTop dp un gd cn cs L a ccd cl outer) (call (.ref f) [.int lo t1, .int hi t2]) Q E s := by
  k_fill
  refine' with_lookup (K := Mine.hd.heap_39 w.params) (a := 63) ?k6 ?_
  (case k6 => k_dflt k_is)
  intro hlk
  rw [hlk] at hin
  obtain ⟨e1, e2, e3⟩ := inner_inj hin rfl
  clear hin hlk
  intro k
  induction k using Nat.strongRecOn with
  | ind k ih =>
  intro dp un gd cn cs a ccd cl outer A₀ base h₀ L m rest s Q E l f c' cN cI cD oc oN oI oD cvs qual tq doc pm ctv vs ns P M S k0 n tn t1 t2 lo hi B F X N T hk hcode hf hc hcd hcv hmN hdN hmI hdI hmD hdD hI hns hM hk0 hlo hhi hz hdig hnk hn5 hd hu hret
  k_with_none
  k_with "guard" =>
    (with_reducible first | show wpAny _ _ (exec (Stmt.While _ _ _ _) _) _ _ _ | show wpAny _ _ (call (Value.ref _) _ _) _ _ _ | show wpAny _ _ (pyIter (Value.ref _)) _ _ _ | show wpAny _ _ (exec (Stmt.If (PySem.Expr.Compare (PySem.Expr.Name (PySem.Str.ofString "least") _) _ _ _) _ _ _) _) _ _ _ | show UnrEnd _ _ _ _ _ _ _ | show KswEnd _ _ _ _ _ _ _ _ _ _ _ _ | show _ ∧ GrownAll _ _)
  k_with "omega" =>
    first | (kjx_bare; omega (config := {})) | ((fail_if_success (fail_if_success (omega (config := {})))); law_clear; lia)
  k_with "k_mem" =>
    first | assumption | (refine List.mem_cons_of_mem _ ?_; assumption) | (refine List.mem_cons_of_mem _ (List.mem_cons_of_mem _ ?_); assumption) | (refine List.mem_cons_of_mem _ (List.mem_cons_of_mem _ (List.mem_cons_of_mem _ ?_)); assumption)
  k_with "binaryOp RShift int int" =>
    (k_here; (with_reducible refine rshift_int ?_ ?_); omega)
  k_with "binaryOp RShift int int" =>
    (k_here; (with_reducible refine wpAny_rshift1_int ?_ ?_); omega)
  k_with "binaryOp LShift int int" =>
    (k_here; (with_reducible refine lshift_int ?_ (shl_ok ?_ ?_) ?_); omega; (first | with_reducible assumption | decide); omega)
  k_with "binaryOp Mult int int" =>
    (k_here; (with_reducible refine mul_int ?_ (mul_ok (by with_reducible assumption) (by with_reducible assumption))))
  k_with "binaryOp Mult ref int" =>
    (k_here; (with_reducible show wpAny _ _ (binaryOp Operator.Mult (Value.ref _) (Value.int _ _)) _ _ _); k_dflt (refine' zeros_K (by k_asm) (by k_asm) (by k_mem) (by first | assumption | omega) (by first | assumption | omega) ?_; k_whole); intro D9 h93 v9 n9 F' N' hlD hlen9 hI9; (try k_lt hlD))
  k_with "call builtin:sorted" =>
    (k_here; (with_reducible show wpAny _ _ (call (Value.builtin _) [Value.ref _]) _ _ _); (with_unfolding_all refine' kso_sorted (by k_asm) (by k_asm) (by is_list) (by l_ints) (by first | omega | (simp only [List.length_cons, List.length_nil]; omega)) ?_; k_whole); intro D' v' n' c' h' F' N' l1 i' e' p' o' b'; clear b'; (try k_lt l1))
  subst e1 e2 e3
  have hlen : ns.length = P.length + M.length + S.length := by rw [hns]; simp [Nat.add_assoc]
  have hjk : M.length / 2 ≤ M.length := Nat.div_le_self ..
  have zv : Builtin.Int.intBits (dval n (M.drop (M.length / 2))) ≤ 60000 := by
    obtain ⟨q1, q2⟩ := dval_lt n (M.drop (M.length / 2)) fun d hd => hdig d (List.mem_of_mem_drop hd)
    refine Nat.le_trans (bits_lt q1 q2) ?_
    rw [List.length_drop]
    have : n * (M.length - M.length / 2) ≤ n * k := Nat.mul_le_mul_left n (by omega)
    omega
  have zn : Builtin.Int.intBits ((n : Nat) : Int) ≤ 60000 := Nat.le_trans (intBits_cast_le (by rw [sizeLine_eq]; omega)) (by decide)
  have zm : Builtin.Int.intBits ((lo + hi) / 2 - lo) ≤ 60000 := Nat.le_trans (intBits_le_64 (by omega) (by omega)) (by decide)
  have zs : 0 ≤ ((lo + hi) / 2 - lo) * (n : Int) ∧ ((lo + hi) / 2 - lo) * (n : Int) ≤ 60000 := by
    have e : (lo + hi) / 2 - lo = ((M.length / 2 : Nat) : Int) := by omega
    rw [e, ← Int.natCast_mul]
    have : M.length / 2 * n ≤ n * k := by rw [Nat.mul_comm]; exact Nat.mul_le_mul_left n (by omega)
    omega
  refine wpAny_call ?_
  k_dflt (refine' code_nest ?k1 ?k2 ?k3 ?k4 ?k5 ?kA ?kF ?kK ?k6 ?k7 ?k8 ?k9 ?kB ?_ ?c2 ?c3 ?c4 ?c5; (case kA => exact rfl); (case kF => exact rfl); (case kK => assumption); (case k1 => k_asm); (case k2 => k_asm); (case k3 => k_asm); (case k4 => k_asm); (case k5 => k_asm); (case k6 => k_mem); (case k7 => exact codeRec_news (by k_asm) (by k_mem) (by assumption) (by assumption)); (case k8 => ktr_room); (case k9 => exact BindsTo.of_eq rfl); (case c5 => decide); (case kB => exact locs rfl); (case c2 => exact rfl); (case c3 => exact rfl); (case c4 => exact rfl); k_whole; intro g' L' h' FG' F' N' B' X' T'; (try dsimp only); (try k_fold))
  k_steps
  · rw [di_one (n := n) hns hlo hhi (by assumption)] at *
    exact hret _ _ _ (by assumption) (by assumption)
  have hj1 : (M.drop (M.length / 2)).length = k - k / 2 := by rw [List.length_drop, hM]
  have hj2 : (M.take (M.length / 2)).length = k / 2 := by rw [List.length_take, hM]; omega
  have hq1 : n * (k - k / 2) ≤ n * k := Nat.mul_le_mul_left n (by omega)
  have hq2 : n * (k / 2) ≤ n * k := Nat.mul_le_mul_left n (by omega)
  refine ih (k - k / 2) (by omega) _ _ _ _ _ _ _ _ _ _ _ _ _ _ _ _ _ _ _ _ _ _ _ _ _ _ _ _ _ _ _ _ _ _ _ _ (P ++ M.take (M.length / 2)) (M.drop (M.length / 2)) S _ _ _ _ _ _ _ (by k_asm) (by k_asm) (by k_asm) (by k_asm) (by k_asm) rfl hcode hf hc hcd hcv hmN hdN hmI hdI hmD hdD hI ?_ hj1 (by omega) ?_ ?_ hz (fun d hd => hdig d (List.mem_of_mem_drop hd)) (by omega) hn5 ?_ ?_ ?_
  · rw [hns]; simp
  · rw [List.length_append, hj2]; omega
  · rw [List.length_append, hj2, hj1]; omega
  · ktr_room
  · ktr_units
  intro h' tk' t F9 N9
  k_steps
  refine ih (k / 2) (by omega) _ _ _ _ _ _ _ _ _ _ _ _ _ _ _ _ _ _ _ _ _ _ _ _ _ _ _ _ _ _ _ _ _ _ _ _ P (M.take (M.length / 2)) (M.drop (M.length / 2) ++ S) _ _ _ _ _ _ _ (by k_asm) (by k_asm) (by k_asm) (by k_asm) (by k_asm) rfl hcode hf hc hcd hcv hmN hdN hmI hdI hmD hdD hI ?_ hj2 (by omega) ?_ ?_ hz (fun d hd => hdig d (List.mem_of_mem_take hd)) (by omega) hn5 ?_ ?_ ?_
  · rw [hns, List.append_assoc P M S, List.append_assoc P, ← List.append_assoc (M.take _) (M.drop _) S, List.take_append_drop]
  · omega
  · rw [hj2]; omega
  · ktr_room
  · ktr_units
  intro h' tk' t F9 N9
  k_steps
  rw [di_two (n := n) hlo hhi] at *
  exact hret _ _ _ (by assumption) (by assumption)


-- part Dg
theorem off_Dg : True := by
  w_top off
  k_with_none
  k_with "omega" => first | (kjx_bare; omega (config := {})) | ((fail_if_success (fail_if_success (omega (config := {})))); law_clear; lia)
  exact True.intro
/-- the table of a def's inner code: empty as yet, or with the one code that the first run made -/
inductive TabIs (P : Addr) (ln co : Int) (qual : Str) : List (Addr × Obj) → Prop
  | no : TabIs P ln co qual [(P, tabObj #[])]
  | yes {c' : Addr} {oc : Obj} {cvs : Array Value} {tq : Tok} : oc.data = .fields cvs → cvs[1]? = some (.str qual tq) → TabIs P ln co qual [(P, tabObj #[rawInt ln, rawInt co, .ref c']), (c', oc)]
def qualD : Str := Str.ofString "_digits2int" ++ ".<locals>." ++ Str.ofString "inner"
theorem news_front {h₀ h : Heap} {L : Addr} {pre post : List (Addr × Obj)} {x : Addr × Obj} (N : News h₀ L h (pre ++ x :: post)) : News h₀ L h (x :: (pre ++ post)) := fun p hp => N p (by
  rcases List.mem_cons.mp hp with rfl | hp
  · exact List.mem_append_right _ (List.mem_cons_self ..)
  · rcases List.mem_append.mp hp with hp | hp
    · exact List.mem_append_left _ hp
    · exact List.mem_append_right _ (List.mem_cons_of_mem _ hp))
theorem mem_skip {α : Type} {x : α} {xs ys : List α} (h : x ∈ ys) : x ∈ xs ++ ys := List.mem_append_right _ h
theorem dg_call {w : World} {p : Program} {loose : List Str} {mean : ExcName → Option Value} {mg mb : Str → Option Value} : ∀ (dp un : Nat) (gd : Option (List Code)) (cn : Str) (cs : Scope) (a : Addr) (ccd : Value) (cl : List (Str × Addr)) (outer : List Env) (A₀ : Around) (base h₀ : Heap) (L : Addr) (m : Str → Option Value) (rest : List (Addr × Obj)) (s : Shared) (Q E : Value → Shared → Prop) (l : Addr) (vs : List Value) (ns : List Int) (k0 n : Nat) (tn : Tok) (ts : List (Addr × Obj)),
    Below A₀ base outer h₀ → Fr h₀ L s.heap m → (Mine.hd.heap_39 w.params).In h₀ → News h₀ L s.heap ((l, listOf vs.toArray k0) :: (ts ++ rest)) → Top p loose mean mg mb h₀ → cs.kind = .function → TabIs 58 78 4 qualD ts → (∀ p ∈ rest, p.1 ≠ l) → (∀ p ∈ ts, p.1 ≠ l) → (∀ p ∈ rest, ∀ q ∈ ts, q.1 ≠ p.1) → CodeHd base 62 58 →
    IntsAre vs ns → ns.length ≤ 200 → (∀ d ∈ ns, 0 ≤ d ∧ d < 2 ^ n) → n * ns.length ≤ 50000 → n ≤ 50000 →
    dp + 210 < recursionLimit → un + 8 * 210 < cLine →
    (∀ h' tk' t ts', Fr h₀ L h' m → News h₀ L h' ((l, listOf vs.toArray k0) :: (ts' ++ rest)) → TabIs 58 78 4 qualD ts' → (∀ p ∈ ts', p.1 ≠ l) → (∀ p ∈ rest, ∀ q ∈ ts', q.1 ≠ p.1) → Q (.int (dval n ns) t) { s with heap := h', toks := tk' }) →
    wpAny (model (PySem.Challenge.rw_op0095_01.row.toRowW.prog) w) (ktrTop dp un gd cn cs L a ccd cl outer) (call (.ref 63) [.ref l, .int n tn]) Q E s := by
  k_fill
  intro dp un gd cn cs a ccd cl outer A₀ base h₀ L m rest s Q E l vs ns k0 n tn ts B F X N T hk htab hr1 hr2 hr3 hcode hI hz hdig hnk hn5 hd hu hret
  have hlen := hI.length
  k_with_none
  k_with "guard" =>
    (with_reducible first | show wpAny _ _ (exec (Stmt.While _ _ _ _) _) _ _ _ | show wpAny _ _ (call (Value.ref _) _ _) _ _ _ | show wpAny _ _ (pyIter (Value.ref _)) _ _ _ | show wpAny _ _ (exec (Stmt.If (PySem.Expr.Compare (PySem.Expr.Name (PySem.Str.ofString "least") _) _ _ _) _ _ _) _) _ _ _ | show UnrEnd _ _ _ _ _ _ _ | show KswEnd _ _ _ _ _ _ _ _ _ _ _ _ | show _ ∧ GrownAll _ _)
  k_with "omega" =>
    first | (kjx_bare; omega (config := {})) | ((fail_if_success (fail_if_success (omega (config := {})))); law_clear; lia)
  k_with "k_mem" =>
    first | assumption | (refine List.mem_cons_of_mem _ ?_; assumption) | (refine List.mem_cons_of_mem _ (List.mem_cons_of_mem _ ?_); assumption) | (refine List.mem_cons_of_mem _ (List.mem_cons_of_mem _ (List.mem_cons_of_mem _ ?_)); assumption)
  k_with "binaryOp RShift int int" =>
    (k_here; (with_reducible refine rshift_int ?_ ?_); omega)
  k_with "binaryOp RShift int int" =>
    (k_here; (with_reducible refine wpAny_rshift1_int ?_ ?_); omega)
  k_with "binaryOp LShift int int" =>
    (k_here; (with_reducible refine lshift_int ?_ (shl_ok ?_ ?_) ?_); omega; (first | with_reducible assumption | decide); omega)
  k_with "binaryOp Mult int int" =>
    (k_here; (with_reducible refine mul_int ?_ (mul_ok (by with_reducible assumption) (by with_reducible assumption))))
  k_with "binaryOp Mult ref int" =>
    (k_here; (with_reducible show wpAny _ _ (binaryOp Operator.Mult (Value.ref _) (Value.int _ _)) _ _ _); k_dflt (refine' zeros_K (by k_asm) (by k_asm) (by k_mem) (by first | assumption | omega) (by first | assumption | omega) ?_; k_whole); intro D9 h93 v9 n9 F' N' hlD hlen9 hI9; (try k_lt hlD))
  k_with "call builtin:sorted" =>
    (k_here; (with_reducible show wpAny _ _ (call (Value.builtin _) [Value.ref _]) _ _ _); (with_unfolding_all refine' kso_sorted (by k_asm) (by k_asm) (by is_list) (by l_ints) (by first | omega | (simp only [List.length_cons, List.length_nil]; omega)) ?_; k_whole); intro D' v' n' c' h' F' N' l1 i' e' p' o' b'; clear b'; (try k_lt l1))
  cases htab with
  | no =>
    simp only [List.cons_append, List.nil_append] at N
    have hne : @Ne Nat l 58 := fun e => hr2 (58, tabObj #[]) (List.mem_cons_self ..) e.symm
    have hr58 : ∀ p ∈ rest, p.1 ≠ 58 := fun p hp e => hr3 p hp (58, tabObj #[]) (List.mem_cons_self ..) e.symm
    refine wpAny_call ?_
    k_dflt (refine' code_defC ?k1 ?k2 ?k3 ?k4 ?k5 ?kA ?kF ?kK ?k6 ?k7 ?k8 ?k9 ?kB ?kD ?_ ?c2 ?c3 ?c4; (case kA => exact rfl); (case kF => exact rfl); (case kK => assumption); (case k1 => k_asm); (case k2 => k_asm); (case k3 => k_asm); (case k4 => k_asm); (case k5 => k_asm); (case k6 => k_is); (case k7 => k_is); (case k8 => ktr_room); (case k9 => exact BindsTo.of_eq rfl); (case kB => exact rfl); (case kD => decide +kernel); (case c2 => exact rfl); (case c3 => exact rfl); (case c4 => exact rfl); k_whole; intro g' L' h' tk' cells' FG' F' N' Y' B' X' T' l1; (try k_lt l1); k_cells Y'; (try simp only [List.cons_append, List.nil_append] at N'); (try dsimp only); (try k_fold))
    have hL1 : ∀ p ∈ rest, p.1 ≠ L' + 1 := fun p hp => Nat.ne_of_lt (Nat.lt_add_right 1 (allLt_mem l1.2.2 p hp))
    have hL2 : ∀ p ∈ rest, p.1 ≠ L' + 1 + 1 := fun p hp => Nat.ne_of_lt (Nat.lt_add_right 2 (allLt_mem l1.2.2 p hp))
    have hL3 : ∀ p ∈ rest, p.1 ≠ L' + 1 + 1 + 1 := fun p hp => Nat.ne_of_lt (Nat.lt_add_right 3 (allLt_mem l1.2.2 p hp))
    k_steps
    · (rename News _ _ _ _ => nE')
      refine' di_call (P := []) (M := ns) (S := []) ?hin ns.length _ _ _ _ _ _ _ _ _ _ _ _ _ _ _ _ _ _ _ _ _ _ _ _ _ _ _ _ _ _ _ _ _ _ vs ns k0 n _ _ _ _ _ (by k_asm) (by k_asm) (by k_asm) (news_front (pre := [_, _, _, _, _]) nE') (by k_asm) rfl hcode (.head _) (.tail _ (.head _)) (by assumption) (by assumption) (.tail _ (.tail _ (.tail _ (.head _)))) (by assumption) (.tail _ (.tail _ (.head _))) (by assumption) (.tail _ (.tail _ (.tail _ (.tail _ (.head _))))) (by assumption) hI (by simp) rfl (by assumption) (by simp) (by simp) (by omega) hdig (by omega) hn5 ?hr ?hu ?_
      (case hin => (refine' with_lookup (K := Mine.hd.heap_39 w.params) (a := 63) ?k6 ?_; (case k6 => k_dflt k_is); intro e; rw [e]; rfl))
      (case hr => ktr_room)
      (case hu => ktr_units)
      intro h9 tk9 t9 F9 N9
      k_steps
      (rename News h₀ L _ _ => kN); (rename _ < _ ∧ _ => hl)
      refine' hret _ _ _ [(58, tabObj #[rawInt 78, rawInt 4, .ref ?c]), (?c, ?oc)] (by assumption) ?N (TabIs.yes ?h1 ?h2) ?a ?b
      (case h1 => assumption)
      (case h2 => assumption)
      (case N =>
        intro p hp
        refine kN p ?_
        rcases List.mem_cons.mp hp with rfl | hp
        · exact (.head _)
        rcases List.mem_cons.mp hp with rfl | hp
        · exact (.tail _ (.tail _ (.tail _ (.tail _ (.tail _ (.tail _ (.head _)))))))
        rcases List.mem_cons.mp hp with rfl | hp
        · exact (.tail _ (.tail _ (.head _)))
        exact List.mem_cons_of_mem _ (List.mem_cons_of_mem _ (List.mem_cons_of_mem _ (List.mem_cons_of_mem _ (List.mem_cons_of_mem _ (List.mem_cons_of_mem _ (List.mem_cons_of_mem _ (hp))))))))
      (case a => exact List.forall_mem_cons.mpr ⟨fun e => hne e.symm, List.forall_mem_cons.mpr ⟨Nat.ne_of_gt hl.2.2.2.1, List.forall_mem_nil _⟩⟩)
      (case b => exact fun p hp => List.forall_mem_cons.mpr ⟨fun e => hr58 p hp e.symm, List.forall_mem_cons.mpr ⟨Nat.ne_of_gt (allLt_mem hl.2.2.2.2.2 p hp), List.forall_mem_nil _⟩⟩)
    · (rename News h₀ L _ _ => kN); (rename _ < _ ∧ _ => hl)
      have hn0 : ns = [] := List.eq_nil_of_length_eq_zero (by omega)
      subst hn0
      refine' hret _ _ _ [(58, tabObj #[rawInt 78, rawInt 4, .ref ?c]), (?c, ?oc)] (by assumption) ?N (TabIs.yes ?h1 ?h2) ?a ?b
      (case h1 => assumption)
      (case h2 => assumption)
      (case N =>
        intro p hp
        refine kN p ?_
        rcases List.mem_cons.mp hp with rfl | hp
        · exact (.tail _ (.tail _ (.tail _ (.tail _ (.tail _ (.head _))))))
        rcases List.mem_cons.mp hp with rfl | hp
        · exact (.tail _ (.tail _ (.tail _ (.tail _ (.tail _ (.tail _ (.head _)))))))
        rcases List.mem_cons.mp hp with rfl | hp
        · exact (.tail _ (.head _))
        exact List.mem_cons_of_mem _ (List.mem_cons_of_mem _ (List.mem_cons_of_mem _ (List.mem_cons_of_mem _ (List.mem_cons_of_mem _ (List.mem_cons_of_mem _ (List.mem_cons_of_mem _ (hp))))))))
      (case a => exact List.forall_mem_cons.mpr ⟨fun e => hne e.symm, List.forall_mem_cons.mpr ⟨Nat.ne_of_gt hl.2.2.2.1, List.forall_mem_nil _⟩⟩)
      (case b => exact fun p hp => List.forall_mem_cons.mpr ⟨fun e => hr58 p hp e.symm, List.forall_mem_cons.mpr ⟨Nat.ne_of_gt (allLt_mem hl.2.2.2.2.2 p hp), List.forall_mem_nil _⟩⟩)
  | @yes c0 oc cvs tq hoc hcv =>
    simp only [List.cons_append, List.nil_append] at N
    have hne : @Ne Nat l 58 := fun e => hr2 (58, tabObj #[rawInt 78, rawInt 4, .ref c0]) (List.mem_cons_self ..) e.symm
    have hr58 : ∀ p ∈ rest, p.1 ≠ 58 := fun p hp e => hr3 p hp (58, tabObj #[rawInt 78, rawInt 4, .ref c0]) (List.mem_cons_self ..) e.symm
    have hne2 : @Ne Nat l c0 := fun e => hr2 (c0, oc) (List.mem_cons_of_mem _ (List.mem_cons_self ..)) e.symm
    have hr0 : ∀ p ∈ rest, p.1 ≠ c0 := fun p hp e => hr3 p hp (c0, oc) (List.mem_cons_of_mem _ (List.mem_cons_self ..)) e.symm
    refine wpAny_call ?_
    k_dflt (refine' code_defC ?k1 ?k2 ?k3 ?k4 ?k5 ?kA ?kF ?kK ?k6 ?k7 ?k8 ?k9 ?kB ?kD ?_ ?c2 ?c3 ?c4; (case kA => exact rfl); (case kF => exact rfl); (case kK => assumption); (case k1 => k_asm); (case k2 => k_asm); (case k3 => k_asm); (case k4 => k_asm); (case k5 => k_asm); (case k6 => k_is); (case k7 => k_is); (case k8 => ktr_room); (case k9 => exact BindsTo.of_eq rfl); (case kB => exact rfl); (case kD => decide +kernel); (case c2 => exact rfl); (case c3 => exact rfl); (case c4 => exact rfl); k_whole; intro g' L' h' tk' cells' FG' F' N' Y' B' X' T' l1; (try k_lt l1); k_cells Y'; (try simp only [List.cons_append, List.nil_append] at N'); (try dsimp only); (try k_fold))
    have hL1 : ∀ p ∈ rest, p.1 ≠ L' + 1 := fun p hp => Nat.ne_of_lt (Nat.lt_add_right 1 (allLt_mem l1.2.2.2 p hp))
    have hL2 : ∀ p ∈ rest, p.1 ≠ L' + 1 + 1 := fun p hp => Nat.ne_of_lt (Nat.lt_add_right 2 (allLt_mem l1.2.2.2 p hp))
    have hL3 : ∀ p ∈ rest, p.1 ≠ L' + 1 + 1 + 1 := fun p hp => Nat.ne_of_lt (Nat.lt_add_right 3 (allLt_mem l1.2.2.2 p hp))
    k_steps
    · (rename News _ _ _ _ => nE')
      refine' di_call (P := []) (M := ns) (S := []) ?hin ns.length _ _ _ _ _ _ _ _ _ _ _ _ _ _ _ _ _ _ _ _ _ _ _ _ _ _ _ _ _ _ _ _ _ _ vs ns k0 n _ _ _ _ _ (by k_asm) (by k_asm) (by k_asm) (news_front (pre := [_, _, _, _]) nE') (by k_asm) rfl hcode (.head _) (.tail _ (.tail _ (.tail _ (.tail _ (.tail _ (.head _)))))) hoc hcv (.tail _ (.tail _ (.head _))) (by assumption) (.tail _ (.head _)) (by assumption) (.tail _ (.tail _ (.tail _ (.head _)))) (by assumption) hI (by simp) rfl (by assumption) (by simp) (by simp) (by omega) hdig (by omega) hn5 ?hr ?hu ?_
      (case hin => (refine' with_lookup (K := Mine.hd.heap_39 w.params) (a := 63) ?k6 ?_; (case k6 => k_dflt k_is); intro e; rw [e]; rfl))
      (case hr => ktr_room)
      (case hu => ktr_units)
      intro h9 tk9 t9 F9 N9
      k_steps
      (rename News h₀ L _ _ => kN)
      refine hret _ _ _ _ (by assumption) ?_ (TabIs.yes hoc hcv) hr2 hr3
      intro p hp
      refine kN p ?_
      rcases List.mem_cons.mp hp with rfl | hp
      · exact (.head _)
      exact List.mem_cons_of_mem _ (List.mem_cons_of_mem _ (List.mem_cons_of_mem _ (List.mem_cons_of_mem _ (List.mem_cons_of_mem _ (hp)))))
    · (rename News h₀ L _ _ => kN)
      have hn0 : ns = [] := List.eq_nil_of_length_eq_zero (by omega)
      subst hn0
      refine hret _ _ _ _ (by assumption) ?_ (TabIs.yes hoc hcv) hr2 hr3
      intro p hp
      refine kN p ?_
      rcases List.mem_cons.mp hp with rfl | hp
      · exact (.tail _ (.tail _ (.tail _ (.tail _ (.head _)))))
      exact List.mem_cons_of_mem _ (List.mem_cons_of_mem _ (List.mem_cons_of_mem _ (List.mem_cons_of_mem _ (List.mem_cons_of_mem _ (hp)))))


-- part Ii
theorem off_Ii : True := by
  w_top off
  k_with_none
  k_with "omega" => first | (kjx_bare; omega (config := {})) | ((fail_if_success (fail_if_success (omega (config := {})))); law_clear; lia)
  exact True.intro
theorem xor_highF (x : Int) (k : Nat) : Builtin.bitXor x (x.fdiv (2 ^ k) * 2 ^ k) = x % 2 ^ k := by rw [fdiv_pow, xor_high]
theorem ii_base {n : Nat} {x lo hi : Int} {ns P M S : List Int} {k : Nat} (hns : ns = P ++ M ++ S) (hM : M.length = k) (hlo : lo = P.length) (hhi : hi = P.length + M.length) (h1 : lo + 1 = hi) (hx0 : 0 ≤ x) (hx1 : x < 2 ^ (n * k)) :
    ∃ M' : List Int, ns.set lo.toNat x = P ++ M' ++ S ∧ M'.length = k ∧ dval n M' = x ∧ ∀ d ∈ M', 0 ≤ d ∧ d < 2 ^ n := by
  have hk : k = 1 := by omega
  subst hk
  obtain ⟨d, rfl⟩ := List.length_eq_one_iff.mp hM
  subst hns
  have e : lo.toNat = P.length := by omega
  rw [Nat.mul_one] at hx1
  refine ⟨[x], ?_, rfl, by simp [dval], ?_⟩
  · rw [e]; simp
  · intro y hy; rw [List.mem_singleton.mp hy]; exact ⟨hx0, hx1⟩
theorem ii_call {w : World} {p : Program} {loose : List Str} {mean : ExcName → Option Value} {mg mb : Str → Option Value} {ps : Arguments} {bd : List Stmt} {sc : Scope} (hin : innerOf ((Mine.hd.heap_39 w.params).lookup 56) = some (ps, bd, sc)) :
    ∀ (k dp un : Nat) (gd : Option (List Code)) (cn : Str) (cs : Scope) (a : Addr) (ccd : Value) (cl : List (Str × Addr)) (outer : List Env) (A₀ : Around) (base h₀ : Heap) (L : Addr) (m : Str → Option Value) (rest : List (Addr × Obj)) (s : Shared) (Q E : Value → Shared → Prop)
    (l f c' cN cI cA : Addr) (oc oN oI oA : Obj) (cvs : Array Value) (qual : Str) (tq : Tok) (doc pm ctv : Value) (vs : List Value) (ns P M S : List Int) (k0 n : Nat) (tn t0 t1 t2 : Tok) (x lo hi : Int),
    Below A₀ base outer h₀ → Fr h₀ L s.heap m → (Mine.hd.heap_39 w.params).In h₀ → News h₀ L s.heap ((l, listOf vs.toArray k0) :: rest) → Top p loose mean mg mb h₀ → cs.kind = .function → (∀ p ∈ rest, p.1 ≠ l) → CodeHd base 55 51 →
    (f, fnMade (Str.ofString "inner") qual ps bd sc [(Str.ofString "n", cN), (Str.ofString "inner", cI), (Str.ofString "a_digits", cA)] doc pm c' ctv) ∈ rest → (c', oc) ∈ rest → oc.data = .fields cvs → cvs[1]? = some (.str qual tq) →
    (cN, oN) ∈ rest → oN.data = .cell (some (.int n tn)) → (cI, oI) ∈ rest → oI.data = .cell (some (.ref f)) → (cA, oA) ∈ rest → oA.data = .cell (some (.ref l)) →
    IntsAre vs ns → ns = P ++ M ++ S → M.length = k → 0 < k → lo = P.length → hi = P.length + M.length → ns.length ≤ 1000 → 0 ≤ x → x < 2 ^ (n * k) → n * k ≤ 50000 → n ≤ 50000 →
    dp + k + 2 < recursionLimit → un + 8 * (k + 2) < cLine →
    (∀ h' tk' vs' M', Fr h₀ L h' m → News h₀ L h' ((l, listOf (List.toArray vs') k0) :: rest) → IntsAre vs' (P ++ M' ++ S) → M'.length = k → dval n M' = x → (∀ d ∈ M', 0 ≤ d ∧ d < 2 ^ n) → Q .none { s with heap := h', toks := tk' }) →
    wpAny (model (PySem.Challenge.rw_op0095_01.row.toRowW.prog) w) (ktrTop dp un gd cn cs L a ccd cl outer) (call (.ref f) [.int x t0, .int lo t1, .int hi t2]) Q E s := by
  k_fill
  refine' with_lookup (K := Mine.hd.heap_39 w.params) (a := 56) ?k6 ?_
  (case k6 => k_dflt k_is)
  intro hlk
  rw [hlk] at hin
  obtain ⟨e1, e2, e3⟩ := inner_inj hin rfl
  clear hin hlk
  intro k
  induction k using Nat.strongRecOn with
  | ind k ih =>
  intro dp un gd cn cs a ccd cl outer A₀ base h₀ L m rest s Q E l f c' cN cI cA oc oN oI oA cvs qual tq doc pm ctv vs ns P M S k0 n tn t0 t1 t2 x lo hi B F X N T hk hrest hcode hf hc hcd hcv hmN hdN hmI hdI hmA hdA hI hns hM hk0 hlo hhi hz hx0 hx1 hnk hn5 hdep hu hret
  k_with_none
  k_with "guard" =>
    (with_reducible first | show wpAny _ _ (exec (Stmt.While _ _ _ _) _) _ _ _ | show wpAny _ _ (call (Value.ref _) _ _) _ _ _ | show wpAny _ _ (pyIter (Value.ref _)) _ _ _ | show wpAny _ _ (exec (Stmt.If (PySem.Expr.Compare (PySem.Expr.Name (PySem.Str.ofString "least") _) _ _ _) _ _ _) _) _ _ _ | show UnrEnd _ _ _ _ _ _ _ | show KswEnd _ _ _ _ _ _ _ _ _ _ _ _ | show _ ∧ GrownAll _ _)
  k_with "omega" =>
    first | (kjx_bare; omega (config := {})) | ((fail_if_success (fail_if_success (omega (config := {})))); law_clear; lia)
  k_with "k_mem" =>
    first | assumption | (refine List.mem_cons_of_mem _ ?_; assumption) | (refine List.mem_cons_of_mem _ (List.mem_cons_of_mem _ ?_); assumption) | (refine List.mem_cons_of_mem _ (List.mem_cons_of_mem _ (List.mem_cons_of_mem _ ?_)); assumption)
  k_with "binaryOp RShift int int" =>
    (k_here; (with_reducible refine rshift_int ?_ ?_); omega)
  k_with "binaryOp RShift int int" =>
    (k_here; (with_reducible refine wpAny_rshift1_int ?_ ?_); omega)
  k_with "binaryOp LShift int int" =>
    (k_here; (with_reducible refine lshift_int ?_ (shl_ok ?_ ?_) ?_); omega; (first | with_reducible assumption | decide); omega)
  k_with "binaryOp Mult int int" =>
    (k_here; (with_reducible refine mul_int ?_ (mul_ok (by with_reducible assumption) (by with_reducible assumption))))
  k_with "binaryOp Mult ref int" =>
    (k_here; (with_reducible show wpAny _ _ (binaryOp Operator.Mult (Value.ref _) (Value.int _ _)) _ _ _); k_dflt (refine' zeros_K (by k_asm) (by k_asm) (by k_mem) (by first | assumption | omega) (by first | assumption | omega) ?_; k_whole); intro D9 h93 v9 n9 F' N' hlD hlen9 hI9; (try k_lt hlD))
  k_with "call builtin:sorted" =>
    (k_here; (with_reducible show wpAny _ _ (call (Value.builtin _) [Value.ref _]) _ _ _); (with_unfolding_all refine' kso_sorted (by k_asm) (by k_asm) (by is_list) (by l_ints) (by first | omega | (simp only [List.length_cons, List.length_nil]; omega)) ?_; k_whole); intro D' v' n' c' h' F' N' l1 i' e' p' o' b'; clear b'; (try k_lt l1))
  subst e1 e2 e3
  have hlen : ns.length = P.length + M.length + S.length := by rw [hns]; simp [Nat.add_assoc]
  have zx : Builtin.Int.intBits x ≤ 50000 := Nat.le_trans (bits_lt hx0 hx1) (by omega)
  have zu : Builtin.Int.intBits (x.fdiv (2 ^ (((lo + hi) / 2 - lo) * (n : Int)).toNat)) ≤ 60000 := Nat.le_trans (intBits_fdiv_le zx) (by decide)
  have zn : Builtin.Int.intBits ((n : Nat) : Int) ≤ 60000 := Nat.le_trans (intBits_cast_le (by rw [sizeLine_eq]; omega)) (by decide)
  have zm : Builtin.Int.intBits ((lo + hi) / 2 - lo) ≤ 60000 := Nat.le_trans (intBits_le_64 (by omega) (by omega)) (by decide)
  have em : (lo + hi) / 2 - lo = ((k / 2 : Nat) : Int) := by omega
  have es : (((lo + hi) / 2 - lo) * (n : Int)).toNat = n * (k / 2) := by rw [em, ← Int.natCast_mul, Int.toNat_natCast, Nat.mul_comm]
  have zs : 0 ≤ ((lo + hi) / 2 - lo) * (n : Int) ∧ ((lo + hi) / 2 - lo) * (n : Int) ≤ 60000 := by
    rw [em, ← Int.natCast_mul]
    have : k / 2 * n ≤ n * k := by rw [Nat.mul_comm]; exact Nat.mul_le_mul_left n (by omega)
    omega
  refine wpAny_call ?_
  k_dflt (refine' code_nest ?k1 ?k2 ?k3 ?k4 ?k5 ?kA ?kF ?kK ?k6 ?k7 ?k8 ?k9 ?kB ?_ ?c2 ?c3 ?c4 ?c5; (case kA => exact rfl); (case kF => exact rfl); (case kK => assumption); (case k1 => k_asm); (case k2 => k_asm); (case k3 => k_asm); (case k4 => k_asm); (case k5 => k_asm); (case k6 => k_mem); (case k7 => exact codeRec_news (by k_asm) (by k_mem) (by assumption) (by assumption)); (case k8 => ktr_room); (case k9 => exact BindsTo.of_eq rfl); (case c5 => decide); (case kB => exact locs rfl); (case c2 => exact rfl); (case c3 => exact rfl); (case c4 => exact rfl); k_whole; intro g' L' h' FG' F' N' B' X' T'; (try dsimp only); (try k_fold))
  k_steps
  · obtain ⟨M', e, q1, q2, q3⟩ := ii_base (n := n) hns hM hlo hhi (by assumption) hx0 hx1
    exact hret _ _ _ M' (by assumption) (by assumption) (by rw [← e]; assumption) q1 q2 q3
  have hj1 : (M.drop (k / 2)).length = k - k / 2 := by rw [List.length_drop, hM]
  have hj2 : (M.take (k / 2)).length = k / 2 := by rw [List.length_take, hM]; omega
  have hq1 : n * (k - k / 2) ≤ n * k := Nat.mul_le_mul_left n (by omega)
  have hq2 : n * (k / 2) ≤ n * k := Nat.mul_le_mul_left n (by omega)
  have hp := kbt_pos (n * (k / 2))
  refine ih (k / 2) (by omega) _ _ _ _ _ _ _ _ _ _ _ _ _ _ _ _ _ _ _ _ _ _ _ _ _ _ _ _ _ _ _ _ _ _ vs ns P (M.take (k / 2)) (M.drop (k / 2) ++ S) _ _ _ _ _ _ _ _ _ (by k_asm) (by k_asm) (by k_asm) (by k_asm) (by k_asm) rfl hrest hcode hf hc hcd hcv hmN hdN hmI hdI hmA hdA hI ?_ hj2 (by omega) (by omega) ?_ hz ?_ ?_ (by omega) hn5 ?_ ?_ ?_
  · rw [hns, List.append_assoc P M S, List.append_assoc P, ← List.append_assoc (M.take _) (M.drop _) S, List.take_append_drop]
  · rw [hj2]; omega
  · rw [xor_highF, es]; exact Int.emod_nonneg _ (Int.ne_of_gt hp)
  · rw [xor_highF, es]; exact Int.emod_lt_of_pos _ hp
  · ktr_room
  · ktr_units
  intro h' tk' v1 M1 F9 N9 I9 hM1 hd1 hb1
  rw [xor_highF, es] at hd1
  k_steps
  refine ih (k - k / 2) (by omega) _ _ _ _ _ _ _ _ _ _ _ _ _ _ _ _ _ _ _ _ _ _ _ _ _ _ _ _ _ _ _ _ _ _ v1 (P ++ M1 ++ (M.drop (k / 2) ++ S)) (P ++ M1) (M.drop (k / 2)) S _ _ _ _ _ _ _ _ _ (by k_asm) (by k_asm) (by k_asm) (by k_asm) (by k_asm) rfl hrest hcode hf hc hcd hcv hmN hdN hmI hdI hmA hdA I9 ?_ hj1 (by omega) ?_ ?_ ?_ ?_ ?_ (by omega) hn5 ?_ ?_ ?_
  · rw [List.append_assoc (P ++ M1)]
  · rw [List.length_append, hM1]; omega
  · rw [List.length_append, hM1, hj1]; omega
  · simp only [List.length_append, hM1, hj1]; omega
  · rw [fdiv_pow]; exact Int.ediv_nonneg hx0 (Int.le_of_lt (kbt_pos _))
  · rw [fdiv_pow, es]
    refine Int.ediv_lt_of_lt_mul hp ?_
    rw [← Int.pow_add, ← Nat.mul_add, Nat.sub_add_cancel (Nat.div_le_self ..)]
    exact hx1
  · ktr_room
  · ktr_units
  intro h' tk' v2 M2 F9 N9 I9 hM2 hd2 hb2
  rw [fdiv_pow, es] at hd2
  k_steps
  refine hret _ _ v2 (M1 ++ M2) (by assumption) (by assumption) ?_ ?_ ?_ ?_
  · rw [← List.append_assoc P M1 M2]; exact I9
  · rw [List.length_append, hM1, hM2]; omega
  · rw [dval_append, hM1, hd1, hd2]; exact Int.emod_add_mul_ediv ..
  · intro d hd
    rcases List.mem_append.mp hd with h | h
    · exact hb1 d h
    · exact hb2 d h


-- part Ig
theorem off_Ig : True := by
  w_top off
  k_with_none
  k_with "omega" => first | (kjx_bare; omega (config := {})) | ((fail_if_success (fail_if_success (omega (config := {})))); law_clear; lia)
  exact True.intro
def qualI : Str := Str.ofString "_int2digits" ++ ".<locals>." ++ Str.ofString "inner"
theorem ig_len {x : Int} {n : Nat} (hx0 : 0 ≤ x) (h1 : 1 ≤ n) (h2 : n ≤ 7000) (h3 : Builtin.Int.intBits x ≤ 20000) :
    ∃ k : Nat, ((Builtin.Int.intBits x : Int) + (n : Int) - 1).fdiv (n : Int) = (k : Int) ∧ (n * k ≤ 27000 ∧ n * k + 1 ≤ Builtin.Int.intBits x + n) ∧ Builtin.Int.intBits x ≤ n * k ∧ x < 2 ^ (n * k) ∧ (x = 0 → k = 0) ∧ (x ≠ 0 → 0 < k) := by
  have e : ((Builtin.Int.intBits x : Int) + (n : Int) - 1).fdiv (n : Int) = (((Builtin.Int.intBits x + n - 1) / n : Nat) : Int) := by
    rw [Int.fdiv_eq_ediv_of_nonneg _ (by omega), Int.natCast_ediv]
    congr 1
    omega
  have a1 := Nat.div_mul_le_self (Builtin.Int.intBits x + n - 1) n
  have a2 := Nat.lt_div_mul_add (a := Builtin.Int.intBits x + n - 1) (b := n) (by omega)
  rw [Nat.mul_comm] at a1 a2
  refine ⟨_, e, ⟨by omega, by omega⟩, by omega, ?_, ?_, ?_⟩
  · exact Int.lt_of_lt_of_le (lt_bits (Nat.le_refl _)) (pow_le_pow2 (by omega))
  · intro h
    subst h
    have : Builtin.Int.intBits 0 = 0 := rfl
    rw [this]
    exact Nat.div_eq_of_lt (by omega)
  · intro h
    refine Nat.pos_of_ne_zero fun h0 => ?_
    rw [h0] at a2
    have : Builtin.Int.intBits x ≤ 0 := by omega
    have := lt_bits this
    simp at this
    omega
theorem ig_call {w : World} {p : Program} {loose : List Str} {mean : ExcName → Option Value} {mg mb : Str → Option Value} : ∀ (dp un : Nat) (gd : Option (List Code)) (cn : Str) (cs : Scope) (a : Addr) (ccd : Value) (cl : List (Str × Addr)) (outer : List Env) (A₀ : Around) (base h₀ : Heap) (L : Addr) (m : Str → Option Value) (rest : List (Addr × Obj)) (s : Shared) (Q E : Value → Shared → Prop) (x : Int) (n : Nat) (t1 t2 : Tok) (ts : List (Addr × Obj)),
    Below A₀ base outer h₀ → Fr h₀ L s.heap m → (Mine.hd.heap_39 w.params).In h₀ → News h₀ L s.heap (ts ++ rest) → Top p loose mean mg mb h₀ → cs.kind = .function → TabIs 51 63 4 qualI ts → (∀ p ∈ rest, ∀ q ∈ ts, q.1 ≠ p.1) → CodeHd base 55 51 → 0 ≤ x → 1 ≤ n → n ≤ 7000 → Builtin.Int.intBits x ≤ 20000 → Builtin.Int.intBits x ≤ 100 * n →
    dp + 210 < recursionLimit → un + 8 * 210 < cLine →
    (∀ D h' tk' vs' ds ts', Fr h₀ L h' m → News h₀ L h' ((D, listOf (List.toArray vs') 0) :: (ts' ++ rest)) → TabIs 51 63 4 qualI ts' → (∀ p ∈ ts', p.1 ≠ D) → (∀ p ∈ rest, p.1 < D) → (∀ p ∈ rest, ∀ q ∈ ts', q.1 ≠ p.1) →
      IntsAre vs' ds → dval n ds = x → (∀ d ∈ ds, 0 ≤ d ∧ d < 2 ^ n) → ds.length ≤ 200 → n * ds.length ≤ 27000 → Q (.ref D) { s with heap := h', toks := tk' }) →
    wpAny (model (PySem.Challenge.rw_op0095_01.row.toRowW.prog) w) (ktrTop dp un gd cn cs L a ccd cl outer) (call (.ref 56) [.int x t1, .int n t2]) Q E s := by
  k_fill
  intro dp un gd cn cs a ccd cl outer A₀ base h₀ L m rest s Q E x n t1 t2 ts B F X N T hk htab hr3 hcode hx0 h1 h2 h3 h4 hdep hu hret
  k_with_none
  k_with "guard" =>
    (with_reducible first | show wpAny _ _ (exec (Stmt.While _ _ _ _) _) _ _ _ | show wpAny _ _ (call (Value.ref _) _ _) _ _ _ | show wpAny _ _ (pyIter (Value.ref _)) _ _ _ | show wpAny _ _ (exec (Stmt.If (PySem.Expr.Compare (PySem.Expr.Name (PySem.Str.ofString "least") _) _ _ _) _ _ _) _) _ _ _ | show UnrEnd _ _ _ _ _ _ _ | show KswEnd _ _ _ _ _ _ _ _ _ _ _ _ | show _ ∧ GrownAll _ _)
  k_with "omega" =>
    first | (kjx_bare; omega (config := {})) | ((fail_if_success (fail_if_success (omega (config := {})))); law_clear; lia)
  k_with "k_mem" =>
    first | assumption | (refine List.mem_cons_of_mem _ ?_; assumption) | (refine List.mem_cons_of_mem _ (List.mem_cons_of_mem _ ?_); assumption) | (refine List.mem_cons_of_mem _ (List.mem_cons_of_mem _ (List.mem_cons_of_mem _ ?_)); assumption)
  k_with "binaryOp RShift int int" =>
    (k_here; (with_reducible refine rshift_int ?_ ?_); omega)
  k_with "binaryOp RShift int int" =>
    (k_here; (with_reducible refine wpAny_rshift1_int ?_ ?_); omega)
  k_with "binaryOp LShift int int" =>
    (k_here; (with_reducible refine lshift_int ?_ (shl_ok ?_ ?_) ?_); omega; (first | with_reducible assumption | decide); omega)
  k_with "binaryOp Mult int int" =>
    (k_here; (with_reducible refine mul_int ?_ (mul_ok (by with_reducible assumption) (by with_reducible assumption))))
  k_with "binaryOp Mult ref int" =>
    (k_here; (with_reducible show wpAny _ _ (binaryOp Operator.Mult (Value.ref _) (Value.int _ _)) _ _ _); k_dflt (refine' zeros_K (by k_asm) (by k_asm) (by k_mem) (by first | assumption | omega) (by first | assumption | omega) ?_; k_whole); intro D9 h93 v9 n9 F' N' hlD hlen9 hI9; (try k_lt hlD))
  k_with "call builtin:sorted" =>
    (k_here; (with_reducible show wpAny _ _ (call (Value.builtin _) [Value.ref _]) _ _ _); (with_unfolding_all refine' kso_sorted (by k_asm) (by k_asm) (by is_list) (by l_ints) (by first | omega | (simp only [List.length_cons, List.length_nil]; omega)) ?_; k_whole); intro D' v' n' c' h' F' N' l1 i' e' p' o' b'; clear b'; (try k_lt l1))
  obtain ⟨k, ek, ⟨hk1, hk1'⟩, hk2, hk3, hk4, hk5⟩ := ig_len hx0 h1 h2 h3
  have hk6 : k ≤ 101 := by
    refine Nat.le_of_not_lt fun h => ?_
    have a1 : n * 102 ≤ n * k := Nat.mul_le_mul_left n h
    omega
  have hq0 : 0 ≤ ((Builtin.Int.intBits x : Int) + (n : Int) - 1).fdiv (n : Int) := by omega
  have hq1 : ((Builtin.Int.intBits x : Int) + (n : Int) - 1).fdiv (n : Int) ≤ 1000 := by omega
  cases htab with
  | no =>
    simp only [List.cons_append, List.nil_append] at N
    have hr51 : ∀ p ∈ rest, p.1 ≠ 51 := fun p hp e => hr3 p hp (51, tabObj #[]) (List.mem_cons_self ..) e.symm
    refine wpAny_call ?_
    k_dflt (refine' code_defC ?k1 ?k2 ?k3 ?k4 ?k5 ?kA ?kF ?kK ?k6 ?k7 ?k8 ?k9 ?kB ?kD ?_ ?c2 ?c3 ?c4; (case kA => exact rfl); (case kF => exact rfl); (case kK => assumption); (case k1 => k_asm); (case k2 => k_asm); (case k3 => k_asm); (case k4 => k_asm); (case k5 => k_asm); (case k6 => k_is); (case k7 => k_is); (case k8 => ktr_room); (case k9 => exact BindsTo.of_eq rfl); (case kB => exact rfl); (case kD => decide +kernel); (case c2 => exact rfl); (case c3 => exact rfl); (case c4 => exact rfl); k_whole; intro g' L' h' tk' cells' FG' F' N' Y' B' X' T' l1; (try k_lt l1); k_cells Y'; (try simp only [List.cons_append, List.nil_append] at N'); (try dsimp only); (try k_fold))
    have hL1 : ∀ p ∈ rest, p.1 ≠ L' + 1 := fun p hp => Nat.ne_of_lt (Nat.lt_add_right 1 (allLt_mem l1.2 p hp))
    have hL2 : ∀ p ∈ rest, p.1 ≠ L' + 1 + 1 := fun p hp => Nat.ne_of_lt (Nat.lt_add_right 2 (allLt_mem l1.2 p hp))
    have hL3 : ∀ p ∈ rest, p.1 ≠ L' + 1 + 1 + 1 := fun p hp => Nat.ne_of_lt (Nat.lt_add_right 3 (allLt_mem l1.2 p hp))
    k_steps
    · rename_i l9 h94 hlL h92 oA9 dA9 f9 c9 oc9 cv9 t9 ct9 dc9 h91 tk9 dc1 dc2 hlc hcf h90 oI9 F9 N9 dI9 a9
      have hn9 : n9.length = k := by omega
      have hk9 := hk5 a9
      have hx9 : x < 2 ^ (n * n9.length) := by rw [hn9]; exact hk3
      have hz9 : n * n9.length ≤ 27000 := by rw [hn9]; exact hk1
      refine' ii_call (P := []) (M := n9) (S := []) ?hin n9.length _ _ _ _ _ _ _ _ _ _ _ _ _ _ _ _ _ _ _ _ _ _ _ _ _ _ _ _ _ _ _ _ _ _ v9 n9 _ _ _ _ _ _ _ _ _ (by k_asm) (by k_asm) (by k_asm) (news_front (pre := [_, _]) N9) (by k_asm) rfl (List.forall_mem_cons.mpr ⟨Nat.ne_of_gt (Nat.lt_trans hlc.1 hcf), List.forall_mem_cons.mpr ⟨Nat.ne_of_gt hlc.1, List.forall_mem_cons.mpr ⟨Nat.ne_of_lt hlD.1, List.forall_mem_cons.mpr ⟨Nat.ne_of_lt hlD.2.1, List.forall_mem_cons.mpr ⟨Nat.ne_of_lt hlD.2.2.1, List.forall_mem_cons.mpr ⟨Nat.ne_of_lt hlD.2.2.2.1, List.forall_mem_cons.mpr ⟨Nat.ne_of_lt hlD.2.2.2.2.1, fun p hp => Nat.ne_of_lt (allLt_mem hlD.2.2.2.2.2 p hp)⟩⟩⟩⟩⟩⟩⟩) hcode (.head _) (.tail _ (.head _)) dc1 dc2 (.tail _ (.tail _ (.tail _ (.tail _ (.tail _ (.head _)))))) (by assumption) (.tail _ (.tail _ (.tail _ (.head _)))) dI9 (.tail _ (.tail _ (.tail _ (.tail _ (.head _))))) dA9 hI9 (by simp) rfl (by omega) (by simp) (by simp) (by omega) hx0 hx9 (by omega) (by omega) ?hr ?hu ?_
      (case hin => (refine' with_lookup (K := Mine.hd.heap_39 w.params) (a := 56) ?k6 ?_; (case k6 => k_dflt k_is); intro e; rw [e]; rfl))
      (case hr => ktr_room)
      (case hu => ktr_units)
      intro h8 tk8 v8 M8 F8 N8 I8 hM8 hd8 hb8
      k_steps
      (rename News h₀ L _ _ => kN)
      refine hret D9 _ _ v8 M8 [(51, tabObj #[rawInt 63, rawInt 4, .ref c9]), (c9, oc9)] (by assumption) ?_ (TabIs.yes dc1 dc2) ?_ ?_ ?_ (by simpa using I8) hd8 hb8 (by rw [hM8]; omega) (by rw [hM8]; omega)
      ·
        intro p hp
        refine kN p ?_
        rcases List.mem_cons.mp hp with rfl | hp
        · exact (.head _)
        rcases List.mem_cons.mp hp with rfl | hp
        · exact (.tail _ (.tail _ (.tail _ (.tail _ (.tail _ (.tail _ (.tail _ (.head _))))))))
        rcases List.mem_cons.mp hp with rfl | hp
        · exact (.tail _ (.tail _ (.head _)))
        exact List.mem_cons_of_mem _ (List.mem_cons_of_mem _ (List.mem_cons_of_mem _ (List.mem_cons_of_mem _ (List.mem_cons_of_mem _ (List.mem_cons_of_mem _ (List.mem_cons_of_mem _ (List.mem_cons_of_mem _ (hp))))))))
      · exact List.forall_mem_cons.mpr ⟨Nat.ne_of_lt hlD.2.2.2.2.1, List.forall_mem_cons.mpr ⟨Nat.ne_of_gt hlc.1, List.forall_mem_nil _⟩⟩
      · exact allLt_mem hlD.2.2.2.2.2
      · exact fun p hp => List.forall_mem_cons.mpr ⟨fun e => hr51 p hp e.symm, List.forall_mem_cons.mpr ⟨Nat.ne_of_gt (Nat.lt_trans (allLt_mem hlD.2.2.2.2.2 p hp) hlc.1), List.forall_mem_nil _⟩⟩
    · rename_i l9 h94 hlL h92 oA9 dA9 f9 c9 oc9 cv9 t9 ct9 dc9 h91 tk9 dc1 dc2 hlc hcf h90 oI9 F9 N9 dI9 a9 kF9 kN9 T9 X9
      have hk9 := hk4 a9
      have hn9 : n9 = [] := List.eq_nil_of_length_eq_zero (by omega)
      subst hn9
      have hz9 : n * ([] : List Int).length ≤ 27000 := by simp
      (rename News h₀ L _ _ => kN)
      refine hret D9 _ _ v9 [] [(51, tabObj #[rawInt 63, rawInt 4, .ref c9]), (c9, oc9)] (by assumption) ?_ (TabIs.yes dc1 dc2) ?_ ?_ ?_ hI9 (by rw [a9]; rfl) (fun d hd => nomatch hd) (by simp) hz9
      ·
        intro p hp
        refine kN p ?_
        rcases List.mem_cons.mp hp with rfl | hp
        · exact (.tail _ (.tail _ (.head _)))
        rcases List.mem_cons.mp hp with rfl | hp
        · exact (.tail _ (.tail _ (.tail _ (.tail _ (.tail _ (.tail _ (.tail _ (.head _))))))))
        rcases List.mem_cons.mp hp with rfl | hp
        · exact (.tail _ (.head _))
        exact List.mem_cons_of_mem _ (List.mem_cons_of_mem _ (List.mem_cons_of_mem _ (List.mem_cons_of_mem _ (List.mem_cons_of_mem _ (List.mem_cons_of_mem _ (List.mem_cons_of_mem _ (List.mem_cons_of_mem _ (hp))))))))
      · exact List.forall_mem_cons.mpr ⟨Nat.ne_of_lt hlD.2.2.2.2.1, List.forall_mem_cons.mpr ⟨Nat.ne_of_gt hlc.1, List.forall_mem_nil _⟩⟩
      · exact allLt_mem hlD.2.2.2.2.2
      · exact fun p hp => List.forall_mem_cons.mpr ⟨fun e => hr51 p hp e.symm, List.forall_mem_cons.mpr ⟨Nat.ne_of_gt (Nat.lt_trans (allLt_mem hlD.2.2.2.2.2 p hp) hlc.1), List.forall_mem_nil _⟩⟩
  | @yes c0 oc cvs tq hoc hcv =>
    simp only [List.cons_append, List.nil_append] at N
    have hr51 : ∀ p ∈ rest, p.1 ≠ 51 := fun p hp e => hr3 p hp (51, tabObj #[rawInt 63, rawInt 4, .ref c0]) (List.mem_cons_self ..) e.symm
    have hr0 : ∀ p ∈ rest, p.1 ≠ c0 := fun p hp e => hr3 p hp (c0, oc) (List.mem_cons_of_mem _ (List.mem_cons_self ..)) e.symm
    refine wpAny_call ?_
    k_dflt (refine' code_defC ?k1 ?k2 ?k3 ?k4 ?k5 ?kA ?kF ?kK ?k6 ?k7 ?k8 ?k9 ?kB ?kD ?_ ?c2 ?c3 ?c4; (case kA => exact rfl); (case kF => exact rfl); (case kK => assumption); (case k1 => k_asm); (case k2 => k_asm); (case k3 => k_asm); (case k4 => k_asm); (case k5 => k_asm); (case k6 => k_is); (case k7 => k_is); (case k8 => ktr_room); (case k9 => exact BindsTo.of_eq rfl); (case kB => exact rfl); (case kD => decide +kernel); (case c2 => exact rfl); (case c3 => exact rfl); (case c4 => exact rfl); k_whole; intro g' L' h' tk' cells' FG' F' N' Y' B' X' T' l1; (try k_lt l1); k_cells Y'; (try simp only [List.cons_append, List.nil_append] at N'); (try dsimp only); (try k_fold))
    have hL1 : ∀ p ∈ rest, p.1 ≠ L' + 1 := fun p hp => Nat.ne_of_lt (Nat.lt_add_right 1 (allLt_mem l1.2.2 p hp))
    have hL2 : ∀ p ∈ rest, p.1 ≠ L' + 1 + 1 := fun p hp => Nat.ne_of_lt (Nat.lt_add_right 2 (allLt_mem l1.2.2 p hp))
    have hL3 : ∀ p ∈ rest, p.1 ≠ L' + 1 + 1 + 1 := fun p hp => Nat.ne_of_lt (Nat.lt_add_right 3 (allLt_mem l1.2.2 p hp))
    k_steps
    · rename_i l9 h94 hlL h92 oA9 dA9 f9 ct9 dc9 h91 tk9 hlf h90 oI9 F9 N9 dI9 a9
      have hn9 : n9.length = k := by omega
      have hk9 := hk5 a9
      have hx9 : x < 2 ^ (n * n9.length) := by rw [hn9]; exact hk3
      have hz9 : n * n9.length ≤ 27000 := by rw [hn9]; exact hk1
      refine' ii_call (P := []) (M := n9) (S := []) ?hin n9.length _ _ _ _ _ _ _ _ _ _ _ _ _ _ _ _ _ _ _ _ _ _ _ _ _ _ _ _ _ _ _ _ _ _ v9 n9 _ _ _ _ _ _ _ _ _ (by k_asm) (by k_asm) (by k_asm) (news_front (pre := [_]) N9) (by k_asm) rfl (List.forall_mem_cons.mpr ⟨Nat.ne_of_gt hlf.1, List.forall_mem_cons.mpr ⟨Nat.ne_of_lt hlD.1, List.forall_mem_cons.mpr ⟨Nat.ne_of_lt hlD.2.1, List.forall_mem_cons.mpr ⟨Nat.ne_of_lt hlD.2.2.1, List.forall_mem_cons.mpr ⟨Nat.ne_of_lt hlD.2.2.2.1, List.forall_mem_cons.mpr ⟨Nat.ne_of_lt hlD.2.2.2.2.1, List.forall_mem_cons.mpr ⟨Nat.ne_of_lt hlD.2.2.2.2.2.1, fun p hp => Nat.ne_of_lt (allLt_mem hlD.2.2.2.2.2.2 p hp)⟩⟩⟩⟩⟩⟩⟩) hcode (.head _) (.tail _ (.tail _ (.tail _ (.tail _ (.tail _ (.tail _ (.head _))))))) hoc hcv (.tail _ (.tail _ (.tail _ (.tail _ (.head _))))) (by assumption) (.tail _ (.tail _ (.head _))) dI9 (.tail _ (.tail _ (.tail _ (.head _)))) dA9 hI9 (by simp) rfl (by omega) (by simp) (by simp) (by omega) hx0 hx9 (by omega) (by omega) ?hr ?hu ?_
      (case hin => (refine' with_lookup (K := Mine.hd.heap_39 w.params) (a := 56) ?k6 ?_; (case k6 => k_dflt k_is); intro e; rw [e]; rfl))
      (case hr => ktr_room)
      (case hu => ktr_units)
      intro h8 tk8 v8 M8 F8 N8 I8 hM8 hd8 hb8
      k_steps
      (rename News h₀ L _ _ => kN)
      refine hret D9 _ _ v8 M8 [(51, tabObj #[rawInt 63, rawInt 4, .ref c0]), (c0, oc)] (by assumption) ?_ (TabIs.yes hoc hcv) ?_ ?_ ?_ (by simpa using I8) hd8 hb8 (by rw [hM8]; omega) (by rw [hM8]; omega)
      ·
        intro p hp
        refine kN p ?_
        rcases List.mem_cons.mp hp with rfl | hp
        · exact (.head _)
        rcases List.mem_cons.mp hp with rfl | hp
        · exact (.tail _ (.tail _ (.tail _ (.tail _ (.tail _ (.tail _ (.head _)))))))
        rcases List.mem_cons.mp hp with rfl | hp
        · exact (.tail _ (.tail _ (.tail _ (.tail _ (.tail _ (.tail _ (.tail _ (.head _))))))))
        exact List.mem_cons_of_mem _ (List.mem_cons_of_mem _ (List.mem_cons_of_mem _ (List.mem_cons_of_mem _ (List.mem_cons_of_mem _ (List.mem_cons_of_mem _ (List.mem_cons_of_mem _ (List.mem_cons_of_mem _ (hp))))))))
      · exact List.forall_mem_cons.mpr ⟨Nat.ne_of_lt hlD.2.2.2.2.1, List.forall_mem_cons.mpr ⟨Nat.ne_of_lt hlD.2.2.2.2.2.1, List.forall_mem_nil _⟩⟩
      · exact allLt_mem hlD.2.2.2.2.2.2
      · exact hr3
    · rename_i l9 h94 hlL h92 oA9 dA9 f9 ct9 dc9 h91 tk9 hlf h90 oI9 F9 N9 dI9 a9 kF9 kN9 T9 X9
      have hk9 := hk4 a9
      have hn9 : n9 = [] := List.eq_nil_of_length_eq_zero (by omega)
      subst hn9
      have hz9 : n * ([] : List Int).length ≤ 27000 := by simp
      (rename News h₀ L _ _ => kN)
      refine hret D9 _ _ v9 [] [(51, tabObj #[rawInt 63, rawInt 4, .ref c0]), (c0, oc)] (by assumption) ?_ (TabIs.yes hoc hcv) ?_ ?_ ?_ hI9 (by rw [a9]; rfl) (fun d hd => nomatch hd) (by simp) hz9
      ·
        intro p hp
        refine kN p ?_
        rcases List.mem_cons.mp hp with rfl | hp
        · exact (.tail _ (.head _))
        rcases List.mem_cons.mp hp with rfl | hp
        · exact (.tail _ (.tail _ (.tail _ (.tail _ (.tail _ (.tail _ (.head _)))))))
        rcases List.mem_cons.mp hp with rfl | hp
        · exact (.tail _ (.tail _ (.tail _ (.tail _ (.tail _ (.tail _ (.tail _ (.head _))))))))
        exact List.mem_cons_of_mem _ (List.mem_cons_of_mem _ (List.mem_cons_of_mem _ (List.mem_cons_of_mem _ (List.mem_cons_of_mem _ (List.mem_cons_of_mem _ (List.mem_cons_of_mem _ (List.mem_cons_of_mem _ (hp))))))))
      · exact List.forall_mem_cons.mpr ⟨Nat.ne_of_lt hlD.2.2.2.2.1, List.forall_mem_cons.mpr ⟨Nat.ne_of_lt hlD.2.2.2.2.2.1, List.forall_mem_nil _⟩⟩
      · exact allLt_mem hlD.2.2.2.2.2.2
      · exact hr3


-- part Lp
theorem off_Lp : True := by
  w_top off
  k_with_none
  k_with "omega" => first | (kjx_bare; omega (config := {})) | ((fail_if_success (fail_if_success (omega (config := {})))); law_clear; lia)
  exact True.intro
theorem turn_fr {h₀ h : Heap} {L : Addr} {m m₀ : Str → Option Value} {x : Str} {v : Value} {ps : List (Str × Value)} {stored : List Str} (F : Fr h₀ L h (fun y => if y = x then some v else m y)) (h1 : ∀ p ∈ ps, m p.1 = some p.2) (hx : ∀ p ∈ ps, p.1 ≠ x)
    (h2 : ∀ z, (∀ p ∈ ps, z ≠ p.1) → stored.contains z = false → m z = m₀ z) : Fr h₀ L h (kstB (fun z => if stored.contains z then (if z = x then some v else m z) else m₀ z) ((x, v) :: ps)) := by
  refine ksw_fr (ps := (x, v) :: ps) (m₁ := fun y => if y = x then some v else m y) ?_ ?_ F
  · refine List.forall_mem_cons.mpr ⟨if_pos rfl, fun p hp => ?_⟩
    show (if p.1 = x then some v else m p.1) = some p.2
    rw [if_neg (hx p hp)]; exact h1 p hp
  · intro z hz hs
    have hzx : z ≠ x := hz _ (List.mem_cons_self ..)
    show (if z = x then some v else m z) = m₀ z
    rw [if_neg hzx]
    exact h2 z (fun p hp => hz p (List.mem_cons_of_mem _ hp)) hs
def RvEnd {σ : Type} (h₀ : Heap) (L : Addr) (s₁ : Shared) (I : Addr) (it : Obj) (Led : σ → List (Addr × Obj)) (ps : σ → List (Str × Value)) (stored : List Str) (m₀ : Str → Option Value) (P : σ → Prop) (s₂ : Shared) : Prop :=
  ∃ (c' : σ) (h' : Heap) (tk : Nat) (m' : Str → Option Value) (all : List (Addr × Obj)), s₂ = { s₁ with heap := h', toks := tk } ∧ Fr h₀ L h' m' ∧ News h₀ L h' all ∧ (I, it) ∈ all ∧ (∀ p ∈ Led c', p ∈ all) ∧ (∀ p ∈ Led c', p.1 ≠ I) ∧ (∀ p ∈ ps c', m' p.1 = some p.2) ∧ (∀ z, (∀ p ∈ ps c', z ≠ p.1) → stored.contains z = false → m' z = m₀ z) ∧ P c'
def RvPost {σ : Type} (h₀ : Heap) (L : Addr) (s₁ : Shared) (I : Addr) (it : Obj) (Led : σ → List (Addr × Obj)) (ps : σ → List (Str × Value)) (stored : List Str) (m₀ : Str → Option Value) (P : σ → Prop) (Q : Flow → Shared → Prop) (f : Flow) (s₂ : Shared) : Prop :=
  match f with
  | .ret v => Q (.ret v) s₂
  | .brk => Q .next s₂
  | _ => RvEnd h₀ L s₁ I it Led ps stored m₀ P s₂
theorem rv_end {σ : Type} {h₀ : Heap} {L : Addr} {s₁ : Shared} {I : Addr} {it : Obj} {Led : σ → List (Addr × Obj)} {ps : σ → List (Str × Value)} {stored : List Str} {m₀ m' : Str → Option Value} {P : σ → Prop} {h' : Heap} {tk : Nat} {all : List (Addr × Obj)} (c' : σ)
    (F : Fr h₀ L h' m') (N : News h₀ L h' all) (hi : (I, it) ∈ all) (hl : ∀ p ∈ Led c', p ∈ all) (ho : ∀ p ∈ Led c', p.1 ≠ I) (hk : ∀ p ∈ ps c', m' p.1 = some p.2) (hr : ∀ z, (∀ p ∈ ps c', z ≠ p.1) → stored.contains z = false → m' z = m₀ z) (hp : P c') :
    RvEnd h₀ L s₁ I it Led ps stored m₀ P { s₁ with heap := h', toks := tk } := ⟨c', h', tk, m', all, rfl, F, N, hi, hl, ho, hk, hr, hp⟩
theorem rv_unr {σ : Type} {h₀ : Heap} {L : Addr} {s₁ : Shared} {I : Addr} {it : Obj} {Led : σ → List (Addr × Obj)} {ps : σ → List (Str × Value)} {stored : List Str} {m₀ : Str → Option Value} {P : σ → Prop} {Q : Flow → Shared → Prop} {J : (Str → Option Value) → List (Addr × Obj) → Prop} {f : Flow} {s₂ : Shared}
    (hJ : ∀ c m', (∀ p ∈ ps c, m' p.1 = some p.2) → (∀ z, (∀ p ∈ ps c, z ≠ p.1) → stored.contains z = false → m' z = m₀ z) → P c → J m' (Led c)) (h : RvPost h₀ L s₁ I it Led ps stored m₀ P Q f s₂) : UnrPost h₀ L s₁ I it J Q f s₂ := by
  have fin : RvEnd h₀ L s₁ I it Led ps stored m₀ P s₂ → UnrEnd h₀ L s₁ I it J s₂ := by
    rintro ⟨c', h', tk, m', all, e, F, N, hi, hl, ho, hk, hr, hp⟩
    exact ⟨h', tk, m', Led c', e, F, fun p hp => N p ((List.mem_cons.mp hp).elim (fun q => q ▸ hi) (hl p)), ho, hJ c' m' hk hr hp⟩
  cases f with
  | ret v => exact h
  | brk => exact h
  | next => exact fin h
  | cont => exact fin h
theorem rev_state {σ : Type} {prog : Program} {w : World} {A : Around} {E : Value → Shared → Prop} {h₀ : Heap} {env : Env} {x : Str} {body : List Stmt} {Q : Flow → Shared → Prop} {s : Shared} {I : Addr} {lp : Addr × Obj} {m₀ : Str → Option Value}
    (Led : σ → List (Addr × Obj)) (ps : σ → List (Str × Value)) (stored : List Str) (P : List Int → σ → Prop) (hled : ∀ c, lp ∈ Led c) (hx : ∀ c, ∀ p ∈ ps c, p.1 ≠ x)
    (turn : ∀ d t rs c (u : Str → Option Value) it h tk, P (d :: rs) c → Fr h₀ env.locals h (kstB (fun z => if stored.contains z then u z else m₀ z) ((x, .int d t) :: ps c)) → News h₀ env.locals h ((I, it) :: Led c) →
      wpAny (model prog w) A (execs body env) (RvPost h₀ env.locals { s with heap := h, toks := tk } I it Led ps stored m₀ (P rs) Q) E { s with heap := h, toks := tk })
    (done : ∀ c (u : Str → Option Value) h tk, P [] c → Fr h₀ env.locals h (kstB (fun z => if stored.contains z then u z else m₀ z) (ps c)) → News h₀ env.locals h (Led c) → Q .next { s with heap := h, toks := tk }) {r : List Value} {rs : List Int} (hI : IntsAre r rs) :
    ∀ c m, (∀ p ∈ ps c, m p.1 = some p.2) → (∀ z, (∀ p ∈ ps c, z ≠ p.1) → stored.contains z = false → m z = m₀ z) → P rs c → RevRest prog w A E h₀ env x body Q s I lp r m (Led c) := by
  induction hI with
  | nil => intro c m h1 h2 hp; exact RevRest.zero fun h tk F N => done c m h tk hp (ksw_fr h1 h2 F) N
  | @cons d t vs ns hr ih =>
    intro c m h1 h2 hp
    refine RevRest.succ fun it h tk _ F N => wpAny_mono (turn d t ns c _ it h tk hp (turn_fr F h1 (hx c) h2) N) (fun f s₂ p => rv_unr (fun c m' k1 k2 k3 => ⟨hled c, ih c m' k1 k2 k3⟩) p) fun _ _ e => e
theorem ints_reverse {vs : List Value} {ns : List Int} (h : IntsAre vs ns) : IntsAre vs.reverse ns.reverse := by
  induction h with
  | nil => exact .nil
  | cons n t _ ih => rw [List.reverse_cons, List.reverse_cons]; exact IntsAre.append ih (.cons n t .nil)
theorem offI_of {I : Addr} {it : Obj} {l : List (Addr × Obj)} (h : ∀ p ∈ l, p.1 ≠ I) : OffI I it l := by
  induction l with
  | nil => exact trivial
  | cons p r ih => exact ⟨.inl (h p (List.mem_cons_self ..)), ih fun q hq => h q (List.mem_cons_of_mem _ hq)⟩


-- part Dp
theorem off_Dp : True := by
  w_top off
  k_with_none
  k_with "omega" => first | (kjx_bare; omega (config := {})) | ((fail_if_success (fail_if_success (omega (config := {})))); law_clear; lia)
  exact True.intro
theorem bits_ge {b : Int} (h : 0 < b) : 1 ≤ Builtin.Int.intBits b ∧ 2 ^ (Builtin.Int.intBits b - 1) ≤ b := by
  have h1 : 1 ≤ Builtin.Int.intBits b := by
    refine Nat.pos_of_ne_zero fun h0 => ?_
    have := lt_bits (x := b) (k := 0) (by omega)
    simp at this; omega
  refine ⟨h1, ?_⟩
  refine Int.not_lt.mp fun hlt => ?_
  have := bits_lt (Int.le_of_lt h) hlt
  omega
/-- the digits' loop: what is done so far -/
def DpInv (n : Nat) (b : Int) (ds rs qs : List Int) (r : Int) : Prop :=
  ∃ up, rs.reverse ++ up = ds ∧ dval n qs.reverse * b + r = dval n up ∧ 0 ≤ r ∧ r < b ∧ qs.length = up.length ∧ ∀ d ∈ qs, 0 ≤ d ∧ d < 2 ^ n
theorem dp_step {n : Nat} {b d r : Int} {ds rs qs : List Int} (hb : 0 < b) (hds : ∀ d ∈ ds, 0 ≤ d ∧ d < 2 ^ n) (h : DpInv n b ds (d :: rs) qs r) :
    0 ≤ r * 2 ^ n + d ∧ r * 2 ^ n + d < b * 2 ^ n ∧ DpInv n b ds rs (qs ++ [(r * 2 ^ n + d) / b]) ((r * 2 ^ n + d) % b) := by
  obtain ⟨up, h1, h2, h3, h4, h5, h6⟩ := h
  rw [List.reverse_cons, List.append_assoc, List.singleton_append] at h1
  have hd := hds d (h1 ▸ List.mem_append_right _ (List.mem_cons_self ..))
  have hp := kbt_pos n
  have g0 : 0 ≤ r * 2 ^ n + d := by have := Int.mul_nonneg h3 (Int.le_of_lt hp); omega
  have g1 : r * 2 ^ n + d < b * 2 ^ n := by
    have a1 : r * 2 ^ n ≤ (b - 1) * 2 ^ n := Int.mul_le_mul_of_nonneg_right (by omega) (Int.le_of_lt hp)
    rw [Int.sub_mul, Int.one_mul] at a1
    omega
  have e := Int.emod_add_mul_ediv (r * 2 ^ n + d) b
  refine ⟨g0, g1, d :: up, h1, ?_, Int.emod_nonneg _ (Int.ne_of_gt hb), Int.emod_lt_of_pos _ hb, by simp [h5], ?_⟩
  · rw [List.reverse_append, List.reverse_singleton, List.singleton_append, dval, dval, ← h2]
    generalize (r * 2 ^ n + d) / b = q at *
    generalize (r * 2 ^ n + d) % b = r' at *
    generalize dval n qs.reverse = Q at *
    generalize (2 : Int) ^ n = H at *
    grind
  · intro y hy
    rcases List.mem_append.mp hy with hy | hy
    · exact h6 y hy
    · rw [List.mem_singleton.mp hy]
      exact ⟨Int.ediv_nonneg g0 (Int.le_of_lt hb), Int.ediv_lt_of_lt_mul hb (by rw [Int.mul_comm (2 ^ n)]; exact g1)⟩
theorem dp_call {w : World} {p : Program} {loose : List Str} {mean : ExcName → Option Value} {mg mb : Str → Option Value} : ∀ (dp un : Nat) (gd : Option (List Code)) (cn : Str) (cs : Scope) (a : Addr) (ccd : Value) (cl : List (Str × Addr)) (outer : List Env) (A₀ : Around) (base h₀ : Heap) (L : Addr) (m : Str → Option Value) (rest : List (Addr × Obj)) (s : Shared) (Q E : Value → Shared → Prop) (x b : Int) (t1 t2 : Tok) (ts1 ts2 : List (Addr × Obj)),
    Below A₀ base outer h₀ → Fr h₀ L s.heap m → (Mine.hd.heap_39 w.params).In h₀ → News h₀ L s.heap (ts1 ++ (ts2 ++ rest)) → Top p loose mean mg mb h₀ → cs.kind = .function → TabIs 51 63 4 qualI ts1 → TabIs 58 78 4 qualD ts2 → (∀ p ∈ ts2 ++ rest, ∀ q ∈ ts1, q.1 ≠ p.1) → (∀ p ∈ rest, ∀ q ∈ ts2, q.1 ≠ p.1) → CodeHd base 55 51 → CodeHd base 62 58 →
    0 ≤ x → 0 < b → Builtin.Int.intBits x ≤ 20000 → Builtin.Int.intBits b ≤ 7000 → Builtin.Int.intBits x ≤ 100 * Builtin.Int.intBits b →
    dp + 220 < recursionLimit → un + 8 * 220 < cLine →
    (∀ D h' tk' u1 u2 ts1' ts2', Fr h₀ L h' m → News h₀ L h' ((D, tup2 (.int (x / b) u1) (.int (x % b) u2)) :: (ts1' ++ (ts2' ++ rest))) → TabIs 51 63 4 qualI ts1' → TabIs 58 78 4 qualD ts2' →
      (∀ p ∈ ts2' ++ rest, ∀ q ∈ ts1', q.1 ≠ p.1) → (∀ p ∈ rest, ∀ q ∈ ts2', q.1 ≠ p.1) → (∀ p ∈ ts1' ++ (ts2' ++ rest), p.1 < D) → Q (.ref D) { s with heap := h', toks := tk' }) →
    wpAny (model (PySem.Challenge.rw_op0095_01.row.toRowW.prog) w) (ktrTop dp un gd cn cs L a ccd cl outer) (call (.ref 70) [.int x t1, .int b t2]) Q E s := by
  k_fill
  intro dp un gd cn cs a ccd cl outer A₀ base h₀ L m rest s Q E x b t1 t2 ts1 ts2 B F X N T hk ht1 ht2 ha1 ha2 hc1 hc2 hx0 hb0 hz1 hz2 hz3 hdep hu hret
  k_with_none
  k_with "guard" =>
    (with_reducible first | show wpAny _ _ (exec (Stmt.While _ _ _ _) _) _ _ _ | show wpAny _ _ (call (Value.ref _) _ _) _ _ _ | show wpAny _ _ (pyIter (Value.ref _)) _ _ _ | show wpAny _ _ (exec (Stmt.If (PySem.Expr.Compare (PySem.Expr.Name (PySem.Str.ofString "least") _) _ _ _) _ _ _) _) _ _ _ | show UnrEnd _ _ _ _ _ _ _ | show KswEnd _ _ _ _ _ _ _ _ _ _ _ _ | show _ ∧ GrownAll _ _)
  k_with "omega" =>
    first | (kjx_bare; omega (config := {})) | ((fail_if_success (fail_if_success (omega (config := {})))); law_clear; lia)
  k_with "k_mem" =>
    first | assumption | (refine List.mem_cons_of_mem _ ?_; assumption) | (refine List.mem_cons_of_mem _ (List.mem_cons_of_mem _ ?_); assumption) | (refine List.mem_cons_of_mem _ (List.mem_cons_of_mem _ (List.mem_cons_of_mem _ ?_)); assumption)
  k_with "binaryOp RShift int int" =>
    (k_here; (with_reducible refine rshift_int ?_ ?_); omega)
  k_with "binaryOp RShift int int" =>
    (k_here; (with_reducible refine wpAny_rshift1_int ?_ ?_); omega)
  k_with "binaryOp LShift int int" =>
    (k_here; (with_reducible refine lshift_int ?_ (shl_ok ?_ ?_) ?_); omega; (first | with_reducible assumption | decide); omega)
  k_with "binaryOp Mult int int" =>
    (k_here; (with_reducible refine mul_int ?_ (mul_ok (by with_reducible assumption) (by with_reducible assumption))))
  k_with "binaryOp Mult ref int" =>
    (k_here; (with_reducible show wpAny _ _ (binaryOp Operator.Mult (Value.ref _) (Value.int _ _)) _ _ _); k_dflt (refine' zeros_K (by k_asm) (by k_asm) (by k_mem) (by first | assumption | omega) (by first | assumption | omega) ?_; k_whole); intro D9 h93 v9 n9 F' N' hlD hlen9 hI9; (try k_lt hlD))
  k_with "call builtin:sorted" =>
    (k_here; (with_reducible show wpAny _ _ (call (Value.builtin _) [Value.ref _]) _ _ _); (with_unfolding_all refine' kso_sorted (by k_asm) (by k_asm) (by is_list) (by l_ints) (by first | omega | (simp only [List.length_cons, List.length_nil]; omega)) ?_; k_whole); intro D' v' n' c' h' F' N' l1 i' e' p' o' b'; clear b'; (try k_lt l1))
  k_with "call builtin:list.reverse" =>
    (k_here; (with_reducible show wpAny _ _ (call (Value.builtin _) [Value.ref _]) _ _ _); k_dflt (refine' reverse_K ?F ?N ?U ?z ?_; (case F => k_asm); (case N => k_asm); (case U => k_upd); (case z => omega); k_whole); intro h' F' N')
  obtain ⟨hb1, hb2⟩ := bits_ge hb0
  refine wpAny_call ?_
  k_dflt ktr_enter
  k_steps
  refine ig_call _ _ _ _ _ _ _ _ _ _ _ _ _ _ _ _ _ _ x (Builtin.Int.intBits b) _ _ ts1 (by k_asm) (by k_asm) (by k_asm) (by k_asm) (by k_asm) rfl ht1 ha1 hc1 hx0 hb1 hz2 hz1 hz3 ?_ ?_ ?_
  · ktr_room
  · ktr_units
  intro D9 h9 tk9 v9 ds ts1' F9 N9 ht1' hD1 hD2 ha1' hI9 hds1 hds2 hds3 hds4
  k_steps
  rename_i qd hq0 hlq hq1 I9 hq2 lF lN hlI
  have hn : ((Builtin.Int.intBits b : Nat) : Int).toNat = Builtin.Int.intBits b := Int.toNat_natCast _
  refine iter_revUnr (ax := D9) (I := I9) (lo := listOf v9.toArray 0) (vs := v9) (n := 0) rfl lF lN (offI_of ?_) (List.mem_cons_of_mem _ (List.mem_cons_self ..)) rfl rfl ?_
  · exact List.forall_mem_cons.mpr ⟨Nat.ne_of_lt hlI.1, List.forall_mem_cons.mpr ⟨Nat.ne_of_lt hlI.2.1, fun p hp => Nat.ne_of_lt (allLt_mem hlI.2.2 p hp)⟩⟩
  have hqne : ∀ p ∈ ts1' ++ (ts2 ++ rest), p.1 ≠ qd := fun p hp => Nat.ne_of_lt (allLt_mem hlq.2 p hp)
  (with_unfolding_all refine rev_state (σ := Int × Tok × List Value × List Int × Nat) (fun c => (qd, listOf c.2.2.1.toArray c.2.2.2.2) :: (D9, listOf v9.toArray 0) :: (ts1' ++ (ts2 ++ rest))) (fun c => [(Str.ofString "r", Value.int c.1 c.2.1)]) [Str.ofString "a_digit", Str.ofString "q_digit"] (fun rs c => IntsAre c.2.2.1 c.2.2.2.1 ∧ DpInv (Builtin.Int.intBits b) b ds rs c.2.2.2.1 c.1) (fun c => List.mem_cons_of_mem _ (List.mem_cons_self ..)) (fun c => List.forall_mem_cons.mpr ⟨(by decide : Str.ofString "r" ≠ Str.ofString "a_digit"), List.forall_mem_nil _⟩) ?_ ?_ (ints_reverse hI9) (0, _, [], [], 0) _ (List.forall_mem_cons.mpr ⟨rfl, List.forall_mem_nil _⟩) (fun _ _ _ => rfl) ⟨.nil, ⟨[], by simp, by simp [dval], Int.le_refl 0, hb0, rfl, fun d hd => nomatch hd⟩⟩)
  all_goals clear lF lN
  · rintro d t rs ⟨rz, tr, qv, qs, kq⟩ u it h tk ⟨hqI, hinv⟩ Fz Nz
    dsimp only at *
    obtain ⟨g0, g1, hinv'⟩ := dp_step hb0 hds2 hinv
    obtain ⟨up, i1, i2, i3, i4, i5, i6⟩ := hinv
    have hql : qv.length = qs.length := hqI.length
    have hul : up.length ≤ ds.length := by rw [← i1]; simp; omega
    have zr : Builtin.Int.intBits rz ≤ 60000 := Nat.le_trans (bits_lt i3 (Int.lt_trans i4 (lt_bits (Nat.le_refl _)))) (by omega)
    rw [← hn] at g0 g1
    try k_fold
    k_steps
    refine d2_call _ _ _ _ _ _ _ _ _ _ _ _ _ _ _ _ _ _ (rz * 2 ^ ((Builtin.Int.intBits b : Nat) : Int).toNat + d) b _ _ _ _ (by k_asm) (by k_asm) (by k_asm) (by k_asm) (by k_asm) rfl (by omega) (by omega) (by rw [hn]; exact hb2) (by rw [hn]; exact lt_bits (Nat.le_refl _)) g0 g1 ?_ ?_ ?_
    · ktr_room
    · ktr_units
    intro r8 h8 tk8 u1 u2 F8 N8 l8
    k_lt l8
    k_steps
    rw [hn] at *
    (rename News _ _ _ _ => nE'); (rename Fr _ _ _ _ => fE')
    simp only [List.push_toArray] at nE'
    (with_unfolding_all refine rv_end (_, _, _, _, _) fE' nE' (List.mem_cons_of_mem _ (List.mem_cons_self ..)) (fun p hp => List.mem_cons_of_mem _ (List.mem_cons_of_mem _ hp)) (List.forall_mem_cons.mpr ⟨Nat.ne_of_lt hlI.1, List.forall_mem_cons.mpr ⟨Nat.ne_of_lt hlI.2.1, fun p hp => Nat.ne_of_lt (allLt_mem hlI.2.2 p hp)⟩⟩) (List.forall_mem_cons.mpr ⟨rfl, List.forall_mem_nil _⟩) ?_ ⟨IntsAre.append hqI (.cons _ _ .nil), hinv'⟩)
    intro z h2 h3
    simp at h2 h3
    simp [kstB, h2, h3]
  · rintro ⟨rz, tr, qv, qs, kq⟩ u h tk ⟨hqI, up, i1, i2, i3, i4, i5, i6⟩ Fz Nz
    dsimp only at *
    have hql : qv.length = qs.length := hqI.length
    rw [List.reverse_nil, List.nil_append] at i1
    subst i1
    have hlq2 : qs.reverse.length = up.length := by rw [List.length_reverse, i5]
    try k_fold
    k_steps
    (rename News _ _ _ _ => nE')
    refine dg_call _ _ _ _ _ _ _ _ _ _ _ _ _ _ (ts1' ++ rest) _ _ _ qd qv.reverse qs.reverse kq (Builtin.Int.intBits b) _ ts2 (by k_asm) (by k_asm) (by k_asm) (fun p hp => nE' p ?_) (by k_asm) rfl ht2 ?_ ?_ ?_ hc2 (ints_reverse hqI) (by omega) ?_ ?_ (by omega) ?_ ?_ ?_
    · rcases List.mem_cons.mp hp with rfl | hp
      · exact List.mem_cons_self ..
      · refine List.mem_cons_of_mem _ (List.mem_cons_of_mem _ ?_)
        rcases List.mem_append.mp hp with hp | hp
        · exact List.mem_append_right _ (List.mem_append_left _ hp)
        · rcases List.mem_append.mp hp with hp | hp
          · exact List.mem_append_left _ hp
          · exact List.mem_append_right _ (List.mem_append_right _ hp)
    · intro p hp
      rcases List.mem_append.mp hp with hp | hp
      · exact hqne p (List.mem_append_left _ hp)
      · exact hqne p (List.mem_append_right _ (List.mem_append_right _ hp))
    · exact fun p hp => hqne p (List.mem_append_right _ (List.mem_append_left _ hp))
    · intro p hp q hq
      rcases List.mem_append.mp hp with hp | hp
      · exact fun e => ha1' q (List.mem_append_left _ hq) p hp e.symm
      · exact ha2 p hp q hq
    · exact fun d hd => i6 d (List.mem_reverse.mp hd)
    · rw [hlq2]; omega
    · ktr_room
    · ktr_units
    intro h7 tk7 t7 ts2' F7 N7 ht2' hn1 hn2
    k_steps
    (rename News h₀ L _ _ => kN); (rename _ < _ ∧ _ => hl)
    have key := kbt_unique hb0 (show rz + b * dval (Builtin.Int.intBits b) qs.reverse = x by rw [Int.mul_comm, ← hds1, ← i2]; omega) i3 i4
    rw [key.1, key.2] at hret
    refine hret _ _ _ t7 tr ts1' ts2' (by assumption) (fun p hp => kN p ?_) ht1' ht2' ?_ ?_ ?_
    · rcases List.mem_cons.mp hp with rfl | hp
      · exact List.mem_cons_self ..
      · refine List.mem_cons_of_mem _ (List.mem_cons_of_mem _ ?_)
        rcases List.mem_append.mp hp with hp | hp
        · exact List.mem_append_right _ (List.mem_append_left _ hp)
        · rcases List.mem_append.mp hp with hp | hp
          · exact List.mem_append_left _ hp
          · exact List.mem_append_right _ (List.mem_append_right _ hp)
    · intro p hp q hq
      rcases List.mem_append.mp hp with hp | hp
      · exact fun e => hn2 q (List.mem_append_left _ hq) p hp e.symm
      · exact ha1' p (List.mem_append_right _ hp) q hq
    · exact fun p hp q hq => hn2 p (List.mem_append_right _ hp) q hq
    · intro p hp
      refine allLt_mem hl.2 p ?_
      rcases List.mem_append.mp hp with hp | hp
      · exact List.mem_append_right _ (List.mem_append_left _ hp)
      · rcases List.mem_append.mp hp with hp | hp
        · exact List.mem_append_left _ hp
        · exact List.mem_append_right _ (List.mem_append_right _ hp)


-- part Id
theorem off_Id : True := by
  w_top off
  k_with_none
  k_with "omega" => first | (kjx_bare; omega (config := {})) | ((fail_if_success (fail_if_success (omega (config := {})))); law_clear; lia)
  exact True.intro
def idFuel (x b : Int) : Nat := if b < 0 then 2 else if x < 0 then 1 else 0
theorem id_neg (x : Int) {b : Int} : (-x).fdiv (-b) = x.fdiv b ∧ -((-x).fmod (-b)) = x.fmod b := by
  have e : (-x).fdiv (-b) = x.fdiv b := Int.neg_fdiv_neg ..
  refine ⟨e, ?_⟩
  rw [Int.fmod_def, Int.fmod_def, e, Int.neg_mul]
  omega
theorem id_not (x : Int) {b : Int} (hb : 0 < b) : Builtin.bitNot ((Builtin.bitNot x).fdiv b) = x.fdiv b ∧ b + Builtin.bitNot ((Builtin.bitNot x).fmod b) = x.fmod b := by
  rw [kbt_not, kbt_not, kbt_not]
  simp only [Int.fdiv_eq_ediv_of_nonneg _ (Int.le_of_lt hb), Int.fmod_eq_emod_of_nonneg _ (Int.le_of_lt hb)]
  have := kbt_below x hb
  omega
theorem id_call {w : World} {p : Program} {loose : List Str} {mean : ExcName → Option Value} {mg mb : Str → Option Value} : ∀ (k dp un : Nat) (gd : Option (List Code)) (cn : Str) (cs : Scope) (a : Addr) (ccd : Value) (cl : List (Str × Addr)) (outer : List Env) (A₀ : Around) (base h₀ : Heap) (L : Addr) (m : Str → Option Value) (rest : List (Addr × Obj)) (s : Shared) (Q E : Value → Shared → Prop)
    (x b : Int) (t1 t2 : Tok) (ts1 ts2 : List (Addr × Obj)),
    Below A₀ base outer h₀ → Fr h₀ L s.heap m → (Mine.hd.heap_39 w.params).In h₀ → News h₀ L s.heap (ts1 ++ (ts2 ++ rest)) → Top p loose mean mg mb h₀ → cs.kind = .function → TabIs 51 63 4 qualI ts1 → TabIs 58 78 4 qualD ts2 → (∀ p ∈ ts2 ++ rest, ∀ q ∈ ts1, q.1 ≠ p.1) → (∀ p ∈ rest, ∀ q ∈ ts2, q.1 ≠ p.1) → CodeHd base 55 51 → CodeHd base 62 58 →
    idFuel x b ≤ k → b ≠ 0 → Builtin.Int.intBits x ≤ 20000 → Builtin.Int.intBits b ≤ 7000 → Builtin.Int.intBits x ≤ 100 * Builtin.Int.intBits b →
    dp + 221 + k < recursionLimit → un + 8 * (221 + k) < cLine →
    (∀ D h' tk' u1 u2 ts1' ts2', Fr h₀ L h' m → News h₀ L h' ((D, tup2 (.int (x.fdiv b) u1) (.int (x.fmod b) u2)) :: (ts1' ++ (ts2' ++ rest))) → TabIs 51 63 4 qualI ts1' → TabIs 58 78 4 qualD ts2' →
      (∀ p ∈ ts2' ++ rest, ∀ q ∈ ts1', q.1 ≠ p.1) → (∀ p ∈ rest, ∀ q ∈ ts2', q.1 ≠ p.1) → (∀ p ∈ ts1' ++ (ts2' ++ rest), p.1 < D) → Q (.ref D) { s with heap := h', toks := tk' }) →
    wpAny (model (PySem.Challenge.rw_op0095_01.row.toRowW.prog) w) (ktrTop dp un gd cn cs L a ccd cl outer) (call (.ref 77) [.int x t1, .int b t2]) Q E s := by
  k_fill
  intro k
  induction k using Nat.strongRecOn with
  | ind k ih =>
  intro dp un gd cn cs a ccd cl outer A₀ base h₀ L m rest s Q E x b t1 t2 ts1 ts2 B F X N T hk ht1 ht2 ha1 ha2 hc1 hc2 hfu hb0 hz1 hz2 hz3 hdep hu hret
  k_with_none
  k_with "guard" =>
    (with_reducible first | show wpAny _ _ (exec (Stmt.While _ _ _ _) _) _ _ _ | show wpAny _ _ (call (Value.ref _) _ _) _ _ _ | show wpAny _ _ (pyIter (Value.ref _)) _ _ _ | show wpAny _ _ (exec (Stmt.If (PySem.Expr.Compare (PySem.Expr.Name (PySem.Str.ofString "least") _) _ _ _) _ _ _) _) _ _ _ | show UnrEnd _ _ _ _ _ _ _ | show KswEnd _ _ _ _ _ _ _ _ _ _ _ _ | show _ ∧ GrownAll _ _)
  k_with "omega" =>
    first | (kjx_bare; omega (config := {})) | ((fail_if_success (fail_if_success (omega (config := {})))); law_clear; lia)
  k_with "k_mem" =>
    first | assumption | (refine List.mem_cons_of_mem _ ?_; assumption) | (refine List.mem_cons_of_mem _ (List.mem_cons_of_mem _ ?_); assumption) | (refine List.mem_cons_of_mem _ (List.mem_cons_of_mem _ (List.mem_cons_of_mem _ ?_)); assumption)
  k_with "binaryOp RShift int int" =>
    (k_here; (with_reducible refine rshift_int ?_ ?_); omega)
  k_with "binaryOp RShift int int" =>
    (k_here; (with_reducible refine wpAny_rshift1_int ?_ ?_); omega)
  k_with "binaryOp LShift int int" =>
    (k_here; (with_reducible refine lshift_int ?_ (shl_ok ?_ ?_) ?_); omega; (first | with_reducible assumption | decide); omega)
  k_with "binaryOp Mult int int" =>
    (k_here; (with_reducible refine mul_int ?_ (mul_ok (by with_reducible assumption) (by with_reducible assumption))))
  k_with "binaryOp Mult ref int" =>
    (k_here; (with_reducible show wpAny _ _ (binaryOp Operator.Mult (Value.ref _) (Value.int _ _)) _ _ _); k_dflt (refine' zeros_K (by k_asm) (by k_asm) (by k_mem) (by first | assumption | omega) (by first | assumption | omega) ?_; k_whole); intro D9 h93 v9 n9 F' N' hlD hlen9 hI9; (try k_lt hlD))
  k_with "call builtin:sorted" =>
    (k_here; (with_reducible show wpAny _ _ (call (Value.builtin _) [Value.ref _]) _ _ _); (with_unfolding_all refine' kso_sorted (by k_asm) (by k_asm) (by is_list) (by l_ints) (by first | omega | (simp only [List.length_cons, List.length_nil]; omega)) ?_; k_whole); intro D' v' n' c' h' F' N' l1 i' e' p' o' b'; clear b'; (try k_lt l1))
  unfold idFuel at hfu
  refine wpAny_call ?_
  k_dflt ktr_enter
  k_steps
  · exact absurd (by assumption) hb0
  · rw [if_pos (by assumption)] at hfu
    refine ih 1 (by omega) _ _ _ _ _ _ _ _ _ _ _ _ _ _ _ _ _ _ (-x) (-b) _ _ ts1 ts2 (by k_asm) (by k_asm) (by k_asm) (by k_asm) (by k_asm) rfl ht1 ht2 ha1 ha2 hc1 hc2 ?_ (by omega) (intBits_neg_le hz1) (intBits_neg_le hz2) ?_ ?_ ?_ ?_
    · unfold idFuel; rw [if_neg (by omega)]; split <;> omega
    · have e : Builtin.Int.intBits (-b) = Builtin.Int.intBits b := Nat.le_antisymm (intBits_neg_le (Nat.le_refl _)) (by have := intBits_neg_le (x := -b) (Nat.le_refl _); rwa [Int.neg_neg] at this)
      rw [e]; exact intBits_neg_le hz3
    · ktr_room
    · ktr_units
    intro D8 h8 tk8 u1 u2 s1 s2 F8 N8 q1 q2 q3 q4 q5
    k_steps
    (rename News h₀ L _ _ => kN); (rename _ < _ ∧ _ => hl)
    rw [← (id_neg x (b := b)).1, ← (id_neg x (b := b)).2] at hret
    exact hret _ _ _ _ _ s1 s2 (by assumption) (fun p hp => kN p (by rcases List.mem_cons.mp hp with rfl | hp; exact List.mem_cons_self ..; exact List.mem_cons_of_mem _ (List.mem_cons_of_mem _ hp))) q1 q2 q3 q4 (allLt_mem hl.2)
  · rw [if_neg (by assumption), if_pos (by assumption)] at hfu
    have hbp : 0 < b := by omega
    have hle : (Builtin.bitNot x).natAbs ≤ x.natAbs := by rw [kbt_not]; omega
    refine ih 0 (by omega) _ _ _ _ _ _ _ _ _ _ _ _ _ _ _ _ _ _ (Builtin.bitNot x) b _ _ ts1 ts2 (by k_asm) (by k_asm) (by k_asm) (by k_asm) (by k_asm) rfl ht1 ht2 ha1 ha2 hc1 hc2 ?_ hb0 (intBits_le_of_natAbs hle hz1) hz2 (intBits_le_of_natAbs hle hz3) ?_ ?_ ?_
    · unfold idFuel; rw [kbt_not, if_neg (by omega), if_neg (by omega)]; omega
    · ktr_room
    · ktr_units
    intro D8 h8 tk8 u1 u2 s1 s2 F8 N8 q1 q2 q3 q4 q5
    k_steps
    (rename News h₀ L _ _ => kN); (rename _ < _ ∧ _ => hl)
    rw [← (id_not x hbp).1, ← (id_not x hbp).2] at hret
    exact hret _ _ _ _ _ s1 s2 (by assumption) (fun p hp => kN p (by rcases List.mem_cons.mp hp with rfl | hp; exact List.mem_cons_self ..; exact List.mem_cons_of_mem _ (List.mem_cons_of_mem _ hp))) q1 q2 q3 q4 (allLt_mem hl.2)
  · have hbp : 0 < b := by omega
    refine dp_call _ _ _ _ _ _ _ _ _ _ _ _ _ _ _ _ _ _ x b _ _ ts1 ts2 (by k_asm) (by k_asm) (by k_asm) (by k_asm) (by k_asm) rfl ht1 ht2 ha1 ha2 hc1 hc2 (by omega) hbp hz1 hz2 hz3 ?_ ?_ ?_
    · ktr_room
    · ktr_units
    intro D8 h8 tk8 u1 u2 s1 s2 F8 N8 q1 q2 q3 q4 q5
    k_steps
    (rename News h₀ L _ _ => kN)
    rw [Int.fdiv_eq_ediv_of_nonneg _ (Int.le_of_lt hbp), Int.fmod_eq_emod_of_nonneg _ (Int.le_of_lt hbp)] at hret
    exact hret _ _ _ _ _ s1 s2 (by assumption) kN q1 q2 q3 q4 q5


-- part Gp
theorem off_Gp : True := by
  w_top off
  k_with_none
  k_with "omega" => first | (kjx_bare; omega (config := {})) | ((fail_if_success (fail_if_success (omega (config := {})))); law_clear; lia)
  exact True.intro
/-- the gaps of a row on a wheel of length sz -/
def gapsOf (row : List Int) (sz : Int) : List Int := (List.range (row.length - 1)).map (fun i => row.getD (i + 1) 0 - row.getD i 0) ++ [row.getD 0 0 + sz - row.getD (row.length - 1) 0]
theorem gp_val (row : List Int) (sz : Int) (h : 0 < row.length) :
    List.map (fun k' => row.getD k'.toNat 0 - row.getD (k' - 1).toNat 0) (rangeKs 1 ((row.length : Int) - 1).toNat) ++ [row.getD (Int.toNat 0) 0 + sz - row.getD (-1 + (row.length : Int)).toNat 0] = gapsOf row sz := by
  unfold gapsOf rangeKs
  rw [List.map_map]
  have e1 : ((row.length : Int) - 1).toNat = row.length - 1 := by omega
  have e2 : (-1 + (row.length : Int)).toNat = row.length - 1 := by omega
  rw [e1, e2]
  congr 1
  refine List.map_congr_left fun i hi => ?_
  have a1 : (1 + (i : Int)).toNat = i + 1 := by omega
  have a2 : (1 + (i : Int) - 1).toNat = i := by omega
  show row.getD (1 + (i : Int)).toNat 0 - row.getD (1 + (i : Int) - 1).toNat 0 = _
  rw [a1, a2]
theorem gp_call {w : World} {p : Program} {loose : List Str} {mean : ExcName → Option Value} {mg mb : Str → Option Value} : ∀ (dp un : Nat) (gd : Option (List Code)) (cn : Str) (cs : Scope) (a : Addr) (ccd : Value) (cl : List (Str × Addr)) (outer : List Env) (A₀ : Around) (base h₀ : Heap) (L : Addr) (m : Str → Option Value) (rest : List (Addr × Obj)) (s : Shared) (Q E : Value → Shared → Prop) (l : Addr) (vs : List Value) (ns : List Int) (k0 : Nat) (sz : Int) (t1 : Tok),
    Below A₀ base outer h₀ → Fr h₀ L s.heap m → (Mine.hd.heap_39 w.params).In h₀ → News h₀ L s.heap ((l, listOf vs.toArray k0) :: rest) → Top p loose mean mg mb h₀ → cs.kind = .function → (∀ p ∈ rest, p.1 ≠ l) → IntsAre vs ns → 0 < ns.length → ns.length < 64 →
    dp + 8 < recursionLimit → un + 8 * 8 < cLine →
    (∀ D h' tk' ws row, Fr h₀ L h' m → News h₀ L h' ((D, listOf (List.toArray ws) 0) :: (l, listOf vs.toArray k0) :: rest) → l < D → (∀ p ∈ rest, p.1 < D) → IntsAre ws (gapsOf row sz) → row.Perm ns → row.Pairwise (· ≤ ·) → Q (.ref D) { s with heap := h', toks := tk' }) →
    wpAny (model (PySem.Challenge.rw_op0095_01.row.toRowW.prog) w) (ktrTop dp un gd cn cs L a ccd cl outer) (call (.ref 96) [.ref l, .int sz t1]) Q E s := by
  k_fill
  intro dp un gd cn cs a ccd cl outer A₀ base h₀ L m rest s Q E l vs ns k0 sz t1 B F X N T hk hrest hI h1 h2 hdep hu hret
  k_with_none
  k_with "guard" =>
    (with_reducible first | show wpAny _ _ (exec (Stmt.While _ _ _ _) _) _ _ _ | show wpAny _ _ (call (Value.ref _) _ _) _ _ _ | show wpAny _ _ (pyIter (Value.ref _)) _ _ _ | show wpAny _ _ (exec (Stmt.If (PySem.Expr.Compare (PySem.Expr.Name (PySem.Str.ofString "least") _) _ _ _) _ _ _) _) _ _ _ | show UnrEnd _ _ _ _ _ _ _ | show KswEnd _ _ _ _ _ _ _ _ _ _ _ _ | show _ ∧ GrownAll _ _)
  k_with "omega" =>
    first | (kjx_bare; omega (config := {})) | ((fail_if_success (fail_if_success (omega (config := {})))); law_clear; lia)
  k_with "k_mem" =>
    first | assumption | (refine List.mem_cons_of_mem _ ?_; assumption) | (refine List.mem_cons_of_mem _ (List.mem_cons_of_mem _ ?_); assumption) | (refine List.mem_cons_of_mem _ (List.mem_cons_of_mem _ (List.mem_cons_of_mem _ ?_)); assumption)
  k_with "binaryOp RShift int int" =>
    (k_here; (with_reducible refine rshift_int ?_ ?_); omega)
  k_with "binaryOp RShift int int" =>
    (k_here; (with_reducible refine wpAny_rshift1_int ?_ ?_); omega)
  k_with "binaryOp LShift int int" =>
    (k_here; (with_reducible refine lshift_int ?_ (shl_ok ?_ ?_) ?_); omega; (first | with_reducible assumption | decide); omega)
  k_with "binaryOp Mult int int" =>
    (k_here; (with_reducible refine mul_int ?_ (mul_ok (by with_reducible assumption) (by with_reducible assumption))))
  k_with "binaryOp Mult ref int" =>
    (k_here; (with_reducible show wpAny _ _ (binaryOp Operator.Mult (Value.ref _) (Value.int _ _)) _ _ _); k_dflt (refine' zeros_K (by k_asm) (by k_asm) (by k_mem) (by first | assumption | omega) (by first | assumption | omega) ?_; k_whole); intro D9 h93 v9 n9 F' N' hlD hlen9 hI9; (try k_lt hlD))
  k_with "call builtin:sorted" =>
    (k_here; (with_reducible show wpAny _ _ (call (Value.builtin _) [Value.ref _]) _ _ _); (with_unfolding_all refine' kso_sorted (by k_asm) (by k_asm) (by is_list) (by l_ints) (by first | omega | (simp only [List.length_cons, List.length_nil]; omega)) ?_; k_whole); intro D' v' n' c' h' F' N' l1 i' e' p' o' b'; clear b'; (try k_lt l1))
  refine wpAny_call ?_
  k_dflt (refine' code_defC ?k1 ?k2 ?k3 ?k4 ?k5 ?kA ?kF ?kK ?k6 ?k7 ?k8 ?k9 ?kB ?kD ?_ ?c2 ?c3 ?c4; (case kA => exact rfl); (case kF => exact rfl); (case kK => assumption); (case k1 => k_asm); (case k2 => k_asm); (case k3 => k_asm); (case k4 => k_asm); (case k5 => k_asm); (case k6 => k_is); (case k7 => k_is); (case k8 => ktr_room); (case k9 => exact BindsTo.of_eq rfl); (case kB => exact rfl); (case kD => decide +kernel); (case c2 => exact rfl); (case c3 => exact rfl); (case c4 => exact rfl); k_whole; intro g' L' h' tk' cells' FG' F' N' Y' B' X' T' l1; (try k_lt l1); k_cells Y'; (try simp only [List.cons_append, List.nil_append] at N'); (try dsimp only); (try k_fold))
  have hL1 : ∀ p ∈ rest, p.1 ≠ L' + 1 := fun p hp => Nat.ne_of_lt (Nat.lt_add_right 1 (allLt_mem l1.2 p hp))
  k_steps
  (rename _ < _ ∧ _ => hl)
  (rename News h₀ L _ _ => kN)
  (rename List.Perm _ _ => hp)
  have hlen := hp.length_eq
  rw [gp_val _ _ (by omega)] at *
  refine hret _ _ _ _ _ (by assumption) (fun p hp => kN p ?_) hl.2.2.2.2.1 (allLt_mem hl.2.2.2.2.2) (by assumption) hp (by assumption)
  rcases List.mem_cons.mp hp with rfl | hp
  · exact List.mem_cons_self ..
  · exact List.mem_cons_of_mem _ (List.mem_cons_of_mem _ (List.mem_cons_of_mem _ (List.mem_cons_of_mem _ (List.mem_cons_of_mem _ hp))))


-- part Wh
theorem off_Wh : True := by
  w_top off
  k_with_none
  k_with "omega" => first | (kjx_bare; omega (config := {})) | ((fail_if_success (fail_if_success (omega (config := {})))); law_clear; lia)
  exact True.intro
abbrev tup3 (v1 v2 v3 : Value) : Obj := { cls := .type "tuple", data := .seq #[v1, v2, v3] }
def WheelOk (W S T : Int) : Prop := ∃ U α β γ δ : Int, UnitIs U ∧ (0 ≤ α ∧ α < 40) ∧ (0 ≤ β ∧ β < 1000) ∧ (0 ≤ γ ∧ γ < 1009) ∧ (0 ≤ δ ∧ δ < 1009) ∧ (W = (α + 2) * U + β ∨ W = -((α + 2) * U + β)) ∧ S = (γ - 504) * U ∧ T = (δ - 504) * U * U
theorem wh_call {w : World} {p : Program} {loose : List Str} {mean : ExcName → Option Value} {mg mb : Str → Option Value} : ∀ (dp un : Nat) (gd : Option (List Code)) (cn : Str) (cs : Scope) (a : Addr) (ccd : Value) (cl : List (Str × Addr)) (outer : List Env) (A₀ : Around) (base h₀ : Heap) (L : Addr) (m : Str → Option Value) (rest : List (Addr × Obj)) (s : Shared) (Q E : Value → Shared → Prop) (l : Addr) (vs : List Value) (ns : List Int) (k0 : Nat),
    Below A₀ base outer h₀ → Fr h₀ L s.heap m → (Mine.hd.heap_39 w.params).In h₀ → News h₀ L s.heap (rest) → Top p loose mean mg mb h₀ → cs.kind = .function → base.IsList l vs.toArray → IntsAre vs ns → ns.length ≤ 63 →
    dp + 8 < recursionLimit → un + 8 * 8 < cLine →
    (∀ D h' tk' W S' T' u1 u2 u3, Fr h₀ L h' m → News h₀ L h' ((D, tup3 (.int W u1) (.int S' u2) (.int T' u3)) :: rest) → (∀ p ∈ rest, p.1 < D) → WheelOk W S' T' → Q (.ref D) { s with heap := h', toks := tk' }) →
    wpAny (model (PySem.Challenge.rw_op0095_01.row.toRowW.prog) w) (ktrTop dp un gd cn cs L a ccd cl outer) (call (.ref 91) [.ref l]) Q E s := by
  k_fill
  intro dp un gd cn cs a ccd cl outer A₀ base h₀ L m rest s Q E l vs ns k0 B F X N T hk hl hI h2 hdep hu hret
  k_with_none
  k_with "guard" =>
    (with_reducible first | show wpAny _ _ (exec (Stmt.While _ _ _ _) _) _ _ _ | show wpAny _ _ (call (Value.ref _) _ _) _ _ _ | show wpAny _ _ (pyIter (Value.ref _)) _ _ _ | show wpAny _ _ (exec (Stmt.If (PySem.Expr.Compare (PySem.Expr.Name (PySem.Str.ofString "least") _) _ _ _) _ _ _) _) _ _ _ | show UnrEnd _ _ _ _ _ _ _ | show KswEnd _ _ _ _ _ _ _ _ _ _ _ _ | show _ ∧ GrownAll _ _)
  k_with "omega" =>
    first | (kjx_bare; omega (config := {})) | ((fail_if_success (fail_if_success (omega (config := {})))); law_clear; lia)
  k_with "k_mem" =>
    first | assumption | (refine List.mem_cons_of_mem _ ?_; assumption) | (refine List.mem_cons_of_mem _ (List.mem_cons_of_mem _ ?_); assumption) | (refine List.mem_cons_of_mem _ (List.mem_cons_of_mem _ (List.mem_cons_of_mem _ ?_)); assumption)
  k_with "binaryOp RShift int int" =>
    (k_here; (with_reducible refine rshift_int ?_ ?_); omega)
  k_with "binaryOp RShift int int" =>
    (k_here; (with_reducible refine wpAny_rshift1_int ?_ ?_); omega)
  k_with "binaryOp LShift int int" =>
    (k_here; (with_reducible refine lshift_int ?_ (shl_ok ?_ ?_) ?_); omega; (first | with_reducible assumption | decide); omega)
  k_with "binaryOp Mult int int" =>
    (k_here; (with_reducible refine mul_int ?_ (mul_ok (by with_reducible assumption) (by with_reducible assumption))))
  k_with "binaryOp Mult ref int" =>
    (k_here; (with_reducible show wpAny _ _ (binaryOp Operator.Mult (Value.ref _) (Value.int _ _)) _ _ _); k_dflt (refine' zeros_K (by k_asm) (by k_asm) (by k_mem) (by first | assumption | omega) (by first | assumption | omega) ?_; k_whole); intro D9 h93 v9 n9 F' N' hlD hlen9 hI9; (try k_lt hlD))
  k_with "call builtin:sorted" =>
    (k_here; (with_reducible show wpAny _ _ (call (Value.builtin _) [Value.ref _]) _ _ _); (with_unfolding_all refine' kso_sorted (by k_asm) (by k_asm) (by is_list) (by l_ints) (by first | omega | (simp only [List.length_cons, List.length_nil]; omega)) ?_; k_whole); intro D' v' n' c' h' F' N' l1 i' e' p' o' b'; clear b'; (try k_lt l1))
  k_with "subscriptTail Name Slice ref ref" =>
    (k_here; (with_reducible show wpAny _ _ (subscriptTail _ (PySem.Expr.Slice _ _ none _) (Value.ref _) (Value.ref _)) _ _ _); k_dflt (refine' kmk_slice_ints (by k_asm) (by k_asm) (by kmk_list) (by kmk_part) (by kmk_part) (by l_ints) (by first | exact kmk_upto (by l_ints) (by decide) | exact kmk_from (by l_ints) (by omega)) (by kmk_len) ?_ (by with_unfolding_all rfl) (by kmk_pure) (by exact kmk_sz (by l_ints) (by rw [sizeLine_eq]; first | omega | (simp only [List.length_cons, List.length_nil]; omega)))); intro D' ws' h' F' N' l1 hI' hC' hL'; (try simp only [Int.reduceToNat] at hI' hC' hL'); (try k_lt l1))
  k_with "binaryOp Mod int int" =>
    refine mod_gen (by decide) (by decide) ?_
    intro r9 r0 r1
  k_with "binaryOp Pow int int" =>
    (with_reducible refine pow_unit ?h0 ?h1 ?_)
    (case h0 => assumption)
    (case h1 => assumption)
    intro U hU zU
  k_with "binaryOp Mult int int" =>
    (with_reducible refine mul_int ?_ (mulOk_of_bits (m := 20000) (n := 20000) ?b1 ?b2 (by decide)))
    (case b1 => first | exact Nat.le_trans (by assumption) (by decide : 8201 ≤ 20000) | exact Nat.le_trans (intBits_le_64 (by omega) (by omega)) (by decide) | exact Nat.le_trans (intBits_mul_le (intBits_le_64 (by omega) (by omega)) (by assumption)) (by decide))
    (case b2 => first | exact Nat.le_trans (by assumption) (by decide : 8201 ≤ 20000) | exact Nat.le_trans (intBits_le_64 (by omega) (by omega)) (by decide))
  k_with "execs nil" =>
    (with_reducible refine wpAny_execs_nil ?_)
  k_with "execs cons" =>
    first
      | (with_reducible refine wpAny_execs_nil ?_)
      | ((with_reducible refine wpAny_execs_cons ?_); try dsimp only)
  refine wpAny_call ?_
  k_dflt ktr_enter
  (rename Below _ _ _ _ => B9)
  have hl9 := stays_list B9.stays hl
  k_steps
  all_goals (
    (rename _ < _ ∧ _ => hl'); (rename News h₀ L _ _ => kN)
    refine hret _ _ _ _ _ _ _ _ _ (by assumption) (fun p hp => kN p (by rcases List.mem_cons.mp hp with rfl | hp; exact List.mem_cons_self ..; exact List.mem_cons_of_mem _ (List.mem_cons_of_mem _ (List.mem_cons_of_mem _ (List.mem_cons_of_mem _ (List.mem_cons_of_mem _ (List.mem_cons_of_mem _ hp))))))) (allLt_mem hl'.2.2.2.2.2) ?_)
  · exact ⟨_, _, _, _, _, hU, ⟨by assumption, by assumption⟩, ⟨by assumption, by assumption⟩, ⟨by assumption, by assumption⟩, ⟨by assumption, by assumption⟩, .inr rfl, rfl, rfl⟩
  · exact ⟨_, _, _, _, _, hU, ⟨by assumption, by assumption⟩, ⟨by assumption, by assumption⟩, ⟨by assumption, by assumption⟩, ⟨by assumption, by assumption⟩, .inl rfl, rfl, rfl⟩


-- part Mh
theorem off_Mh : True := by
  w_top off
  k_with_none
  k_with "omega" => first | (kjx_bare; omega (config := {})) | ((fail_if_success (fail_if_success (omega (config := {})))); law_clear; lia)
  exact True.intro
theorem getD_set (ns : List Int) (i j : Nat) (x : Int) : (ns.set i x).getD j 0 = if i = j ∧ i < ns.length then x else ns.getD j 0 := by
  simp only [List.getD_eq_getElem?_getD, List.getElem?_set]
  by_cases h : i = j
  · subst h
    by_cases h2 : i < ns.length
    · simp [h2]
    · simp [h2]
  · simp [h]
def IsHeap (ns : List Int) : Prop := ∀ i, 0 < i → i < ns.length → ns.getD i 0 ≤ ns.getD ((i - 1) / 2) 0
/-- a heap but for the place pos and its children -/
def HeapBut (ns : List Int) (pos : Nat) : Prop := ∀ i, 0 < i → i < ns.length → i ≠ pos → (i - 1) / 2 ≠ pos → ns.getD i 0 ≤ ns.getD ((i - 1) / 2) 0
def KidsUnder (ns : List Int) (pos : Nat) : Prop := ∀ i, 0 < i → i < ns.length → (i - 1) / 2 = pos → 0 < pos → ns.getD i 0 ≤ ns.getD ((pos - 1) / 2) 0
theorem sdown_heap (x : Int) : ∀ (pos : Nat) (ns : List Int), pos < ns.length → HeapBut ns pos → KidsUnder ns pos → (∀ i, 0 < i → i < ns.length → (i - 1) / 2 = pos → ns.getD i 0 ≤ x) → IsHeap (sdown x ns pos) := by
  intro pos
  induction pos using Nat.strongRecOn with
  | ind pos ih =>
    intro ns hpos ha hc hb
    have fin : (pos = 0 ∨ ¬ ns.getD ((pos - 1) / 2) 0 < x) → IsHeap (ns.set pos x) := by
      intro h i h0 h1
      rw [List.length_set] at h1
      rw [getD_set, getD_set]
      by_cases e1 : pos = i
      · subst e1
        rw [if_pos ⟨rfl, hpos⟩, if_neg (by omega)]
        rcases h with h | h
        · omega
        · omega
      · rw [if_neg (by omega)]
        by_cases e2 : pos = (i - 1) / 2
        · rw [if_pos ⟨e2, hpos⟩]; exact hb i h0 h1 e2.symm
        · rw [if_neg (by omega)]; exact ha i h0 h1 (fun e => e1 e.symm) (fun e => e2 e.symm)
    rw [sdown]
    split
    · exact fin (.inl (by assumption))
    · rename_i hp0
      split
      · rename_i hlt
        have hpp : (pos - 1) / 2 < pos := by omega
        refine ih ((pos - 1) / 2) hpp _ (by rw [List.length_set]; omega) ?_ ?_ ?_
        · intro i h0 h1 h2 h3
          rw [List.length_set] at h1
          rw [getD_set, getD_set]
          have e1 : pos ≠ i := fun e => h3 (by rw [e])
          rw [if_neg (by omega)]
          by_cases e2 : pos = (i - 1) / 2
          · rw [if_pos ⟨e2, hpos⟩]; exact hc i h0 h1 e2.symm (by omega)
          · rw [if_neg (by omega)]; exact ha i h0 h1 (fun e => e1 e.symm) (fun e => e2 e.symm)
        · intro i h0 h1 h2 h3
          rw [List.length_set] at h1
          rw [getD_set, getD_set, if_neg (show ¬ (pos = ((pos - 1) / 2 - 1) / 2 ∧ _) by omega)]
          have q := ha ((pos - 1) / 2) h3 (by omega) (by omega) (by omega)
          by_cases e1 : pos = i
          · rw [if_pos ⟨e1, hpos⟩]; exact q
          · rw [if_neg (by omega)]
            have := ha i h0 h1 (fun e => e1 e.symm) (by omega)
            rw [h2] at this
            omega
        · intro i h0 h1 h2
          rw [List.length_set] at h1
          rw [getD_set]
          by_cases e1 : pos = i
          · rw [if_pos ⟨e1, hpos⟩]; omega
          · rw [if_neg (by omega)]
            have := ha i h0 h1 (fun e => e1 e.symm) (by omega)
            rw [h2] at this
            omega
      · exact fin (.inr (by assumption))
theorem set_swap_perm (ns : List Int) (i j : Nat) (x : Int) (hi : i < ns.length) (hj : j < ns.length) (hij : i ≠ j) : ((ns.set i (ns.getD j 0)).set j x).Perm (ns.set i x) := by
  refine List.perm_iff_count.mpr fun a => ?_
  have e1 : ns.getD j 0 = ns[j] := by simp [hj]
  rw [List.count_set (by simpa using hj), List.count_set hi, List.count_set hi]
  have e2 : (ns.set i (ns.getD j 0))[j]'(by simpa using hj) = ns[j] := by rw [List.getElem_set_ne hij]
  rw [e2, e1]
  have hc : (if ns[i] == a then 1 else 0) ≤ List.count a ns := by
    split
    · rename_i h; rw [← (beq_iff_eq.mp h)]; exact List.count_pos_iff.mpr (List.getElem_mem hi)
    · omega
  have : (if ns[j] == a then 1 else 0) ≤ List.count a ns - (if ns[i] == a then 1 else 0) + if ns[j] == a then 1 else 0 := by omega
  omega
theorem sdown_perm (x : Int) : ∀ (pos : Nat) (ns : List Int), pos < ns.length → (sdown x ns pos).Perm (ns.set pos x) := by
  intro pos
  induction pos using Nat.strongRecOn with
  | ind pos ih =>
    intro ns hpos
    rw [sdown]
    split
    · exact .refl _
    · split
      · refine (ih ((pos - 1) / 2) (by omega) _ (by rw [List.length_set]; omega)).trans ?_
        exact set_swap_perm ns pos ((pos - 1) / 2) x hpos (by omega) (by omega)
      · exact .refl _
theorem sup_len (ns : List Int) (pos : Nat) : (sup ns pos).1.length = ns.length := by
  fun_induction sup ns pos <;> simp_all
theorem sup_spec (ns : List Int) (pos : Nat) (x : Int) (hpos : pos < ns.length) (ha : HeapBut ns pos) (hc : KidsUnder ns pos) :
    (sup ns pos).2 < ns.length ∧ HeapBut (sup ns pos).1 (sup ns pos).2 ∧ ¬ 2 * (sup ns pos).2 + 1 < ns.length ∧ ((sup ns pos).1.set (sup ns pos).2 x).Perm (ns.set pos x) := by
  have step : ∀ (ns : List Int) (pos c : Nat), pos < ns.length → HeapBut ns pos → KidsUnder ns pos → c < ns.length → (c - 1) / 2 = pos → 0 < c → (∀ i, 0 < i → i < ns.length → (i - 1) / 2 = pos → ns.getD i 0 ≤ ns.getD c 0) →
      HeapBut (ns.set pos (ns.getD c 0)) c ∧ KidsUnder (ns.set pos (ns.getD c 0)) c := by
    intro ns pos c hpos ha hc hcl hcp hc0 hbig
    constructor
    · intro i h0 h1 h2 h3
      rw [List.length_set] at h1
      rw [getD_set, getD_set]
      by_cases e1 : pos = i
      · rw [if_pos ⟨e1, hpos⟩, if_neg (by omega)]
        have := hc c hc0 hcl hcp (by omega)
        rw [← e1]; exact this
      · rw [if_neg (by omega)]
        by_cases e2 : pos = (i - 1) / 2
        · rw [if_pos ⟨e2, hpos⟩]; exact hbig i h0 h1 e2.symm
        · rw [if_neg (by omega)]; exact ha i h0 h1 (fun e => e1 e.symm) (fun e => e2 e.symm)
    · intro i h0 h1 h2 h3
      rw [List.length_set] at h1
      rw [getD_set, getD_set, if_neg (by omega), if_pos ⟨by omega, hpos⟩]
      have := ha i h0 h1 (by omega) (by omega)
      rw [h2] at this
      exact this
  fun_induction sup ns pos with
  | case1 ns pos h hlt ih =>
    obtain ⟨p1, p2⟩ := step ns pos (2 * pos + 2) hpos ha hc hlt.1 (by omega) (by omega) (fun i h0 h1 h2 => by
      rcases (show i = 2 * pos + 1 ∨ i = 2 * pos + 2 by omega) with e | e
      · rw [e]; have := hlt.2; omega
      · rw [e]; exact Int.le_refl _)
    have := ih (by rw [List.length_set]; omega) p1 p2
    rw [List.length_set] at this
    refine ⟨this.1, this.2.1, this.2.2.1, this.2.2.2.trans ?_⟩
    exact set_swap_perm ns pos (2 * pos + 2) x hpos hlt.1 (by omega)
  | case2 ns pos h hlt ih =>
    obtain ⟨p1, p2⟩ := step ns pos (2 * pos + 1) hpos ha hc h (by omega) (by omega) (fun i h0 h1 h2 => by
      rcases (show i = 2 * pos + 1 ∨ i = 2 * pos + 2 by omega) with e | e
      · rw [e]; exact Int.le_refl _
      · rw [e]
        refine Int.le_of_lt (Decidable.of_not_not fun hn => hlt ⟨by omega, hn⟩))
    have := ih (by rw [List.length_set]; omega) p1 p2
    rw [List.length_set] at this
    refine ⟨this.1, this.2.1, this.2.2.1, this.2.2.2.trans ?_⟩
    exact set_swap_perm ns pos (2 * pos + 1) x hpos h (by omega)
  | case3 ns pos h => exact ⟨hpos, ha, h, .refl _⟩
/-- what _heapreplace_max leaves of a heap -/
theorem replaced_heap {ns : List Int} (h : IsHeap ns) (hl : 0 < ns.length) (x : Int) : IsHeap (sifted (ns.set 0 x)) ∧ (sifted (ns.set 0 x)).Perm (ns.set 0 x) := by
  have e : (ns.set 0 x).getD 0 0 = x := by rw [getD_set, if_pos ⟨rfl, hl⟩]
  have ha : HeapBut (ns.set 0 x) 0 := by
    intro i h0 h1 h2 h3
    rw [List.length_set] at h1
    rw [getD_set, getD_set, if_neg (by omega), if_neg (by omega)]
    exact h i h0 h1
  have hc : KidsUnder (ns.set 0 x) 0 := fun i _ _ _ h => absurd h (Nat.lt_irrefl _)
  obtain ⟨s1, s2, s3, s4⟩ := sup_spec (ns.set 0 x) 0 x (by rw [List.length_set]; exact hl) ha hc
  unfold sifted
  rw [e]
  generalize hp : sup (ns.set 0 x) 0 = r at *
  have hrl : r.1.length = (ns.set 0 x).length := by rw [← hp]; exact sup_len ..
  have hpos : r.2 < (r.1.set r.2 x).length := by rw [List.length_set, hrl]; exact s1
  have nokid : ∀ i, 0 < i → i < (r.1.set r.2 x).length → (i - 1) / 2 ≠ r.2 := by
    intro i h0 h1 h2
    rw [List.length_set, hrl] at h1
    omega
  constructor
  · refine sdown_heap x _ _ hpos ?_ (fun i h0 h1 h2 => absurd h2 (nokid i h0 h1)) (fun i h0 h1 h2 => absurd h2 (nokid i h0 h1))
    intro i h0 h1 h2 h3
    have h1' := h1
    rw [List.length_set] at h1'
    rw [getD_set, getD_set, if_neg (by omega), if_neg (by omega)]
    exact s2 i h0 h1' h2 h3
  · refine (sdown_perm x _ _ hpos).trans ?_
    rw [List.set_set]
    have : (ns.set 0 x).set 0 x = ns.set 0 x := by rw [List.set_set]
    rw [this] at s4
    exact s4
/-- one more at the end, and bubbled up -/
theorem pushed_heap {ns : List Int} (h : IsHeap ns) (x : Int) : IsHeap (sdown x (ns ++ [x]) ns.length) ∧ (sdown x (ns ++ [x]) ns.length).Perm (ns ++ [x]) := by
  have g1 : ∀ i, i < ns.length → (ns ++ [x]).getD i 0 = ns.getD i 0 := fun i hi => by rw [List.getD_eq_getElem?_getD, List.getElem?_append_left hi, List.getD_eq_getElem?_getD]
  have hlen : (ns ++ [x]).length = ns.length + 1 := by simp
  constructor
  · refine sdown_heap x _ _ (by omega) ?_ (fun i h0 h1 h2 => by omega) (fun i h0 h1 h2 => by omega)
    intro i h0 h1 h2 h3
    rw [g1 i (by omega), g1 _ (by omega)]
    exact h i h0 (by omega)
  · refine (sdown_perm x _ _ (by omega)).trans ?_
    have : (ns ++ [x]).set ns.length x = ns ++ [x] := by simp
    rw [this]
theorem heap_max {ns : List Int} (h : IsHeap ns) : ∀ x ∈ ns, x ≤ ns.getD 0 0 := by
  have key : ∀ i, i < ns.length → ns.getD i 0 ≤ ns.getD 0 0 := by
    intro i
    induction i using Nat.strongRecOn with
    | ind i ih =>
      intro hi
      by_cases h0 : i = 0
      · rw [h0]; exact Int.le_refl _
      · exact Int.le_trans (h i (by omega) hi) (ih _ (by omega) (by omega))
  intro x hx
  obtain ⟨i, hi, e⟩ := List.getElem_of_mem hx
  have := key i hi
  rw [← e]
  simpa [hi] using this


-- part Mu
theorem off_Mu : True := by
  w_top off
  k_with_none
  k_with "omega" => first | (kjx_bare; omega (config := {})) | ((fail_if_success (fail_if_success (omega (config := {})))); law_clear; lia)
  exact True.intro
theorem uld_count (xs : List Int) : ∀ (ys : List Int) (a : Int), List.count a (uld xs ys).1 = List.count a xs - List.count a ys ∧ List.count a (uld xs ys).2 = List.count a ys - List.count a xs := by
  induction xs with
  | nil => intro ys a; simp [uld]
  | cons x r ih =>
    intro ys a
    rw [uld]
    split
    · rename_i hm
      obtain ⟨h1, h2⟩ := ih (ys.erase x) a
      rw [h1, h2, List.count_erase, List.count_cons]
      have hp : 0 < List.count x ys := List.count_pos_iff.mpr hm
      by_cases e : x = a
      · subst e; simp; omega
      · have e' : (x == a) = false := by simpa using e
        simp [e', e]
    · rename_i hm
      obtain ⟨h1, h2⟩ := ih ys a
      have hz : List.count x ys = 0 := List.count_eq_zero.mpr hm
      constructor
      · show List.count a (x :: (uld r ys).1) = _
        rw [List.count_cons, List.count_cons, h1]
        by_cases e : x = a
        · subst e; simp; omega
        · have e' : (x == a) = false := by simpa using e
          simp [e']
      · show List.count a (uld r ys).2 = _
        rw [h2, List.count_cons]
        by_cases e : x = a
        · subst e; simp; omega
        · have e' : (x == a) = false := by simpa using e
          simp [e']
/-- like lists leave nothing -/
theorem uld_same {xs ys : List Int} (h : xs.Perm ys) : uld xs.reverse ys = ([], []) := by
  have h1 : (uld xs.reverse ys).1 = [] := by
    refine List.eq_nil_iff_forall_not_mem.mpr fun a ha => ?_
    have := (uld_count xs.reverse ys a).1
    rw [List.count_reverse, h.count_eq a] at this
    have := List.count_pos_iff.mpr ha
    omega
  have h2 : (uld xs.reverse ys).2 = [] := by
    refine List.eq_nil_iff_forall_not_mem.mpr fun a ha => ?_
    have := (uld_count xs.reverse ys a).2
    rw [List.count_reverse, h.count_eq a] at this
    have := List.count_pos_iff.mpr ha
    omega
  exact Prod.ext h1 h2
/-- one out, two in -/
theorem uld_cut {xs ys r : List Int} {g c d : Int} (hx : xs.Perm (g :: r)) (hy : ys.Perm (c :: d :: r)) (hc : c ≠ g) (hd : d ≠ g) : (uld xs.reverse ys).1 = [g] ∧ (uld xs.reverse ys).2.Perm [c, d] := by
  have k1 : (uld xs.reverse ys).1.Perm [g] := by
    refine List.perm_iff_count.mpr fun a => ?_
    rw [(uld_count xs.reverse ys a).1, List.count_reverse, hx.count_eq a, hy.count_eq a]
    simp only [List.count_cons, List.count_nil, beq_iff_eq]
    (repeat' split) <;> omega
  have k2 : (uld xs.reverse ys).2.Perm [c, d] := by
    refine List.perm_iff_count.mpr fun a => ?_
    rw [(uld_count xs.reverse ys a).2, List.count_reverse, hx.count_eq a, hy.count_eq a]
    simp only [List.count_cons, List.count_nil, beq_iff_eq]
    (repeat' split) <;> omega
  exact ⟨List.perm_singleton.mp k1, k2⟩


-- part Mt
theorem off_Mt : True := by
  w_top off
  k_with_none
  k_with "omega" => first | (kjx_bare; omega (config := {})) | ((fail_if_success (fail_if_success (omega (config := {})))); law_clear; lia)
  exact True.intro
theorem dvd_small {W x : Int} (hW : 0 < W) (h : W ∣ x) (h1 : -(2 * W) < x) (h2 : x < W) : x = 0 ∨ x = -W := by
  obtain ⟨t, rfl⟩ := h
  have a1 : t < 1 := by
    refine Int.not_le.mp fun h => ?_
    have := Int.mul_le_mul_of_nonneg_left h (Int.le_of_lt hW)
    omega
  have a2 : -2 < t := by
    refine Int.not_le.mp fun h => ?_
    have := Int.mul_le_mul_of_nonneg_left h (Int.le_of_lt hW)
    omega
  rcases (show t = 0 ∨ t = -1 by omega) with rfl | rfl
  · exact .inl (by simp)
  · exact .inr (by simp)
/-- points on a wheel of length W, in the window that begins at lo, each by s behind the one before -/
structure Pts (W lo s : Int) (p : Nat → Int) : Prop where
  pos : 0 < W
  win : ∀ i, lo ≤ p i ∧ p i < lo + W
  cong : ∀ i j : Nat, W ∣ p (i + j) - p i - j * s
/-- the gap behind x among the first N points is g -/
def IsGap (W : Int) (p : Nat → Int) (N : Nat) (x g : Int) : Prop :=
  0 < g ∧ (∃ j, j < N ∧ (p j = x + g ∨ p j = x + g - W)) ∧ ∀ j, j < N → ¬ (x < p j ∧ p j < x + g) ∧ ¬ (x < p j + W ∧ p j + W < x + g)
def gapAt (N u v : Nat) (a b : Int) (i : Nat) : Int := if i + u < N then a else if i < v then a + b else b
structure Grow (W s : Int) (p : Nat → Int) (N u v : Nat) (a b : Int) : Prop where
  u1 : 1 ≤ u
  uN : u ≤ N
  v1 : 1 ≤ v
  vN : v ≤ N
  uv : N ≤ u + v
  a0 : 0 < a
  b0 : 0 < b
  us : W ∣ u * s - a
  vs : W ∣ v * s + b
  inj : ∀ i j, i < N → j < N → p i = p j → i = j
  gap : ∀ i, i < N → IsGap W p N (p i) (gapAt N u v a b i)
section
variable {W lo s : Int} {p : Nat → Int}
theorem grow_one (P : Pts W lo s p) {a : Int} (h0 : 0 < a) (h1 : a < W) (h : W ∣ s - a) : Grow W s p 1 1 1 a (W - a) where
  u1 := Nat.le_refl 1
  uN := Nat.le_refl 1
  v1 := Nat.le_refl 1
  vN := Nat.le_refl 1
  uv := by omega
  a0 := h0
  b0 := by omega
  us := by rw [Int.natCast_one, Int.one_mul]; exact h
  vs := by
    rw [Int.natCast_one, Int.one_mul, show s + (W - a) = (s - a) + W by omega]
    exact Int.dvd_add h (Int.dvd_refl W)
  inj := fun i j hi hj _ => by omega
  gap := fun i hi => by
    have : i = 0 := by omega
    subst this
    have e : gapAt 1 1 1 a (W - a) 0 = W := by simp [gapAt]; omega
    rw [e]
    have hp := P.pos
    refine ⟨hp, ⟨0, by omega, .inr (by omega)⟩, fun j hj => ?_⟩
    have : j = 0 := by omega
    subst this
    omega
/-- new letters where the two gaps are all there is -/
theorem grow_left {N u v : Nat} {a b : Int} (g : Grow W s p N u v a b) (h : N = u + v) (hab : b < a) : Grow W s p N (u + v) v (a - b) b ∧ ∀ i, i < N → gapAt N (u + v) v (a - b) b i = gapAt N u v a b i := by
  have e : ∀ i, i < N → gapAt N (u + v) v (a - b) b i = gapAt N u v a b i := by
    intro i hi
    unfold gapAt
    rw [if_neg (by omega)]
    by_cases h1 : i < v
    · rw [if_pos h1, if_pos (by omega)]; omega
    · rw [if_neg h1, if_neg (by omega), if_neg h1]
  have hu := g.u1
  have hv := g.v1
  refine ⟨⟨by omega, by omega, g.v1, g.vN, by omega, by omega, g.b0, ?_, g.vs, g.inj, fun i hi => ?_⟩, e⟩
  · rw [show ((u + v : Nat) : Int) * s - (a - b) = (u * s - a) + (v * s + b) by rw [Int.natCast_add, Int.add_mul]; omega]
    exact Int.dvd_add g.us g.vs
  · rw [e i hi]; exact g.gap i hi
theorem grow_right {N u v : Nat} {a b : Int} (g : Grow W s p N u v a b) (h : N = u + v) (hab : a < b) : Grow W s p N u (u + v) a (b - a) ∧ ∀ i, i < N → gapAt N u (u + v) a (b - a) i = gapAt N u v a b i := by
  have e : ∀ i, i < N → gapAt N u (u + v) a (b - a) i = gapAt N u v a b i := by
    intro i hi
    unfold gapAt
    by_cases h1 : i < v
    · rw [if_pos (by omega), if_pos (by omega)]
    · rw [if_neg (by omega), if_pos (by omega), if_neg (by omega), if_neg h1]; omega
  have hu := g.u1
  have hv := g.v1
  refine ⟨⟨g.u1, g.uN, by omega, by omega, by omega, g.a0, by omega, g.us, ?_, g.inj, fun i hi => ?_⟩, e⟩
  · rw [show ((u + v : Nat) : Int) * s + (b - a) = (u * s - a) + (v * s + b) by rw [Int.natCast_add, Int.add_mul]; omega]
    exact Int.dvd_add g.us g.vs
  · rw [e i hi]; exact g.gap i hi
/-- the next point cuts the gap behind the one of number N - u -/
theorem grow_step (P : Pts W lo s p) {N u v : Nat} {a b : Int} (g : Grow W s p N u v a b) (h : N < u + v) : Grow W s p (N + 1) u v a b := by
  have hW := P.pos
  have hu := g.u1
  have huN := g.uN
  have hv := g.v1
  have hvN := g.vN
  have ha := g.a0
  have hb := g.b0
  have e0 : gapAt N u v a b (N - u) = a + b := by unfold gapAt; rw [if_neg (by omega), if_pos (by omega)]
  have g0 := g.gap (N - u) (by omega)
  rw [e0] at g0
  obtain ⟨_, ⟨j0, hj0, hj1⟩, hno⟩ := g0
  have hself := hno (N - u) (by omega)
  have w0 := P.win (N - u)
  have wN := P.win N
  have wj := P.win j0
  have hX : p N = p (N - u) + a ∨ p N = p (N - u) + a - W := by
    have c := P.cong (N - u) u
    rw [show N - u + u = N by omega] at c
    have d := Int.dvd_add c g.us
    rw [show p N - p (N - u) - u * s + (u * s - a) = p N - p (N - u) - a by omega] at d
    have := dvd_small hW d (by omega) (by omega)
    omega
  have fresh : ∀ j, j < N → p j ≠ p N := by
    intro j hj e
    have := hno j hj
    rw [e] at this
    omega
  refine ⟨hu, by omega, hv, by omega, by omega, ha, hb, g.us, g.vs, ?_, ?_⟩
  · intro i j hi hj e
    by_cases h1 : i = N
    · by_cases h2 : j = N
      · omega
      · subst h1; exact absurd e.symm (fresh j (by omega))
    · by_cases h2 : j = N
      · subst h2; exact absurd e (fresh i (by omega))
      · exact g.inj i j (by omega) (by omega) e
  · intro i hi
    by_cases h1 : i = N
    · subst h1
      have e1 : gapAt (i + 1) u v a b i = b := by unfold gapAt; rw [if_neg (by omega), if_neg (by omega)]
      rw [e1]
      refine ⟨hb, ⟨j0, by omega, by omega⟩, fun j hj => ?_⟩
      by_cases h2 : j = i
      · subst h2; omega
      · have := hno j (by omega)
        have := P.win j
        omega
    · by_cases h2 : i = N - u
      · have e1 : gapAt (N + 1) u v a b i = a := by unfold gapAt; rw [if_pos (by omega)]
        rw [e1, h2]
        refine ⟨ha, ⟨N, by omega, by omega⟩, fun j hj => ?_⟩
        by_cases h3 : j = N
        · subst h3; omega
        · have := hno j (by omega)
          omega
      · have e1 : gapAt (N + 1) u v a b i = gapAt N u v a b i := by
          unfold gapAt
          by_cases h3 : i + u < N
          · rw [if_pos (by omega), if_pos h3]
          · rw [if_neg (by omega), if_neg h3]
        rw [e1]
        obtain ⟨q1, ⟨j1, q2, q3⟩, q4⟩ := g.gap i (by omega)
        refine ⟨q1, ⟨j1, by omega, q3⟩, fun j hj => ?_⟩
        by_cases h3 : j = N
        · subst h3
          have r1 := q4 (j - u) (by omega)
          have r2 := hno i (by omega)
          have r3 : p i ≠ p (j - u) := fun e => h2 (g.inj i (j - u) (by omega) (by omega) e)
          have r4 := P.win i
          have r5 := q4 i (by omega)
          omega
        · exact q4 j (by omega)
end


-- part Mg
theorem off_Mg : True := by
  w_top off
  k_with_none
  k_with "omega" => first | (kjx_bare; omega (config := {})) | ((fail_if_success (fail_if_success (omega (config := {})))); law_clear; lia)
  exact True.intro
section
variable {W lo s : Int} {p : Nat → Int}
theorem gapsOf_mid {row : List Int} {W : Int} {j : Nat} (h : j + 1 < row.length) : (gapsOf row W)[j]? = some (row[j + 1] - row[j]) := by
  unfold gapsOf
  rw [List.getElem?_append_left (by simp; omega), List.getElem?_map, List.getElem?_range (by omega)]
  have h' : j < row.length := by omega
  simp [h, h']
theorem gapsOf_last {row : List Int} {W : Int} (h : 0 < row.length) : (gapsOf row W)[row.length - 1]? = some (row[0] + W - row[row.length - 1]) := by
  unfold gapsOf
  rw [List.getElem?_append_right (by simp)]
  have h' : row.length - 1 < row.length := by omega
  simp [h, h']
theorem gaps_row (P : Pts W lo s p) {N : Nat} {row : List Int} {γ : Int → Int} (hN : 1 ≤ N) (hr : row.Perm ((List.range N).map p)) (ho : row.Pairwise (· ≤ ·)) (hnd : row.Nodup) (hg : ∀ x ∈ row, IsGap W p N x (γ x)) : gapsOf row W = row.map γ := by
  have hlen : row.length = N := by rw [hr.length_eq]; simp
  have hmem : ∀ j, j < N → p j ∈ row := fun j hj => hr.mem_iff.mpr (List.mem_map.mpr ⟨j, List.mem_range.mpr hj, rfl⟩)
  have hback : ∀ x ∈ row, ∃ j, j < N ∧ p j = x := fun x hx => by
    obtain ⟨j, hj, e⟩ := List.mem_map.mp (hr.mem_iff.mp hx)
    exact ⟨j, List.mem_range.mp hj, e⟩
  have hle : ∀ i j (hi : i < row.length) (hj : j < row.length), i < j → row[i] < row[j] := fun i j hi hj h => by
    have h1 := List.pairwise_iff_getElem.mp ho i j hi hj h
    have h2 := List.pairwise_iff_getElem.mp hnd i j hi hj h
    omega
  have hle' : ∀ i j (hi : i < row.length) (hj : j < row.length), row[i] < row[j] → i < j := fun i j hi hj h => by
    refine Nat.lt_of_not_le fun h1 => ?_
    rcases Nat.lt_or_ge j i with h2 | h2
    · have := hle j i hj hi h2; omega
    · have : i = j := by omega
      subst this; omega
  have hW := P.pos
  have hl1 : (gapsOf row W).length = row.length := by unfold gapsOf; simp; omega
  refine List.ext_getElem (by simp [hl1]) fun j h1 h2 => ?_
  have hj : j < row.length := by omega
  rw [List.getElem_map]
  obtain ⟨q0, ⟨j1, q1, q2⟩, q3⟩ := hg row[j] (List.getElem_mem hj)
  obtain ⟨m, hm, em⟩ := List.getElem_of_mem (hmem j1 q1)
  have wj1 := P.win j1
  obtain ⟨i0, hi0, ei0⟩ := hback row[j] (List.getElem_mem hj)
  have wi0 := P.win i0
  by_cases hlast : j + 1 < row.length
  · have e : (gapsOf row W)[j] = row[j + 1] - row[j] := by
      have := gapsOf_mid (W := W) hlast
      rw [List.getElem?_eq_getElem h1] at this
      exact Option.some.inj this
    rw [e]
    obtain ⟨i1, hi1, ei1⟩ := hback row[j + 1] (List.getElem_mem hlast)
    have wi1 := P.win i1
    have r1 := (q3 i1 hi1).1
    have r2 := hle j (j + 1) hj hlast (by omega)
    rw [ei1] at r1 wi1
    have r3 : γ row[j] ≤ row[j + 1] - row[j] := by omega
    rcases q2 with q2 | q2
    · have r4 := hle' j m hj hm (by omega)
      rcases Nat.lt_or_ge (j + 1) m with r5 | r5
      · have := hle (j + 1) m hlast hm r5; omega
      · have : m = j + 1 := by omega
        subst this; omega
    · omega
  · have hj' : j = row.length - 1 := by omega
    subst hj'
    have e : (gapsOf row W)[row.length - 1] = row[0]'(by omega) + W - row[row.length - 1] := by
      have := gapsOf_last (W := W) (row := row) (by omega)
      rw [List.getElem?_eq_getElem h1] at this
      exact Option.some.inj this
    rw [e]
    obtain ⟨i1, hi1, ei1⟩ := hback (row[0]'(by omega)) (List.getElem_mem _)
    have wi1 := P.win i1
    have r1 := (q3 i1 hi1).2
    rw [ei1] at r1 wi1
    have r3 : row[0]'(by omega) ≤ row[m] := by
      rcases Nat.lt_or_ge 0 m with r5 | r5
      · have := hle 0 m (by omega) hm r5; omega
      · have : m = 0 := by omega
        subst this; exact Int.le_refl _
    rcases q2 with q2 | q2
    · have r4 := hle' _ m hj hm (by omega)
      omega
    · omega
theorem gaps_perm (P : Pts W lo s p) {N u v : Nat} {a b : Int} (g : Grow W s p N u v a b) {row : List Int} (hr : row.Perm ((List.range N).map p)) (ho : row.Pairwise (· ≤ ·)) : (gapsOf row W).Perm ((List.range N).map (gapAt N u v a b)) := by
  have hN : 1 ≤ N := Nat.le_trans g.u1 g.uN
  have hnd : row.Nodup := by
    refine hr.nodup_iff.mpr ?_
    refine List.pairwise_map.mpr (List.Pairwise.imp_of_mem ?_ (List.nodup_range (n := N)))
    intro i j hi hj hne e
    exact hne (g.inj i j (List.mem_range.mp hi) (List.mem_range.mp hj) e)
  let γ : Int → Int := fun x => match (List.range N).find? (fun i => p i == x) with
    | some i => gapAt N u v a b i
    | none => 0
  have hγ : ∀ i, i < N → γ (p i) = gapAt N u v a b i := by
    intro i hi
    have : (List.range N).find? (fun j => p j == p i) = some i := by
      cases hf : (List.range N).find? (fun j => p j == p i) with
      | none =>
        have := List.find?_eq_none.mp hf i (List.mem_range.mpr hi)
        simp at this
      | some j =>
        have h1 := List.find?_some hf
        have h2 := List.mem_of_find?_eq_some hf
        rw [beq_iff_eq] at h1
        rw [g.inj j i (List.mem_range.mp h2) hi h1]
    show (match (List.range N).find? (fun j => p j == p i) with | some i => gapAt N u v a b i | none => 0) = _
    rw [this]
  have e := gaps_row P (γ := γ) hN hr ho hnd (fun x hx => by
    obtain ⟨i, hi, rfl⟩ := List.mem_map.mp (hr.mem_iff.mp hx)
    rw [hγ i (List.mem_range.mp hi)]
    exact g.gap i (List.mem_range.mp hi))
  rw [e]
  refine (hr.map γ).trans ?_
  rw [List.map_map]
  refine List.Perm.of_eq (List.map_congr_left fun i hi => ?_)
  exact hγ i (List.mem_range.mp hi)
/-- the one gap that goes, the two that come -/
theorem cut_perm {N u v : Nat} {a b : Int} (hu : 1 ≤ u) (huN : u ≤ N) (hvN : v ≤ N) (h : N < u + v) : ∃ R : List Int, ((List.range N).map (gapAt N u v a b)).Perm ((a + b) :: R) ∧ ((List.range (N + 1)).map (gapAt (N + 1) u v a b)).Perm (a :: b :: R) := by
  have hi0 : N - u ∈ List.range N := List.mem_range.mpr (by omega)
  have hp := List.perm_cons_erase hi0
  have e0 : gapAt N u v a b (N - u) = a + b := by unfold gapAt; rw [if_neg (by omega), if_pos (by omega)]
  have e1 : gapAt (N + 1) u v a b (N - u) = a := by unfold gapAt; rw [if_pos (by omega)]
  have e2 : gapAt (N + 1) u v a b N = b := by unfold gapAt; rw [if_neg (by omega), if_neg (by omega)]
  refine ⟨((List.range N).erase (N - u)).map (gapAt N u v a b), ?_, ?_⟩
  · have := hp.map (gapAt N u v a b)
    rw [List.map_cons, e0] at this
    exact this
  · rw [List.range_succ, List.map_append, List.map_singleton, e2]
    have h1 := hp.map (gapAt (N + 1) u v a b)
    rw [List.map_cons, e1] at h1
    have h2 : ((List.range N).erase (N - u)).map (gapAt (N + 1) u v a b) = ((List.range N).erase (N - u)).map (gapAt N u v a b) := by
      refine List.map_congr_left fun i hi => ?_
      have hne : i ≠ N - u := fun e => by
        have := (List.nodup_range (n := N)).not_mem_erase (a := N - u)
        rw [← e] at this
        exact this (e ▸ hi)
      unfold gapAt
      by_cases h3 : i + u < N
      · rw [if_pos (by omega), if_pos h3]
      · rw [if_neg (by omega), if_neg h3]
    rw [h2] at h1
    refine (h1.append_right [b]).trans ?_
    rw [List.cons_append]
    exact List.Perm.cons a (List.perm_append_singleton b _)
end


-- part Ms
theorem off_Ms : True := by
  w_top off
  k_with_none
  k_with "omega" => first | (kjx_bare; omega (config := {})) | ((fail_if_success (fail_if_success (omega (config := {})))); law_clear; lia)
  exact True.intro
/-- what the law holds ahead of its turn k -/
def LawSt (W s : Int) (p : Nat → Int) (L0 : Int) (k : Nat) (P gl hp : List Int) (ℓ : Int) : Prop :=
  hp.Perm gl ∧ IsHeap hp ∧ (0 < hp.length ∧ hp.length ≤ k + 1 ∧ P.length ≤ k) ∧
  ((k = 0 ∧ P = [] ∧ gl = [W] ∧ hp = [W] ∧ ℓ = L0) ∨
   (1 ≤ k ∧ P = (List.range k).map p ∧ ∃ u v a b, Grow W s p k u v a b ∧ gl.Perm ((List.range k).map (gapAt k u v a b)) ∧ (ℓ = a ∨ ℓ = b) ∧ (k = u + v → ℓ ≤ a ∧ ℓ ≤ b)) ∨
   (∃ N, 1 ≤ N ∧ N ≤ k ∧ P = (List.range N).map p ∧ W ∣ N * s ∧ hp.getD 0 0 = ℓ))
section
variable {W lo s L0 : Int} {p : Nat → Int}
theorem law_init (hW : 0 < W) : LawSt W s p L0 0 [] [W] [W] L0 := by
  refine ⟨.refl _, ?_, ⟨by simp, by simp, by simp⟩, .inl ⟨rfl, rfl, rfl, rfl, rfl⟩⟩
  intro i h0 h1
  simp at h1; omega
theorem law_t0 (Pt : Pts W lo s p) (h0 : 0 < L0) (h1 : L0 ≤ W) (h2 : L0 = W → W ∣ s) (h3 : L0 < W → W ∣ s - L0 ∨ W ∣ s + L0) {P gl hp : List Int} {ℓ : Int} (h : LawSt W s p L0 0 P gl hp ℓ) : P = [] ∧ LawSt W s p L0 1 [p 0] gl hp ℓ := by
  obtain ⟨k1, k2, k3, h⟩ := h
  have hz : P = [] ∧ gl = [W] ∧ hp = [W] ∧ ℓ = L0 := by
    rcases h with h | h | h
    · exact h.2
    · exact absurd h.1 (by omega)
    · obtain ⟨N, a1, a2, _⟩ := h; omega
  obtain ⟨rfl, rfl, rfl, rfl⟩ := hz
  refine ⟨rfl, k1, k2, ⟨by simp, by simp, by simp⟩, ?_⟩
  by_cases hl : ℓ < W
  · right; left
    rcases h3 hl with h | h
    · refine ⟨Nat.le_refl _, by simp, 1, 1, ℓ, W - ℓ, grow_one Pt h0 hl h, ?_, .inl rfl, fun h => by omega⟩
      have : gapAt 1 1 1 ℓ (W - ℓ) 0 = W := by simp [gapAt]; omega
      simp [this]
    · have hd : W ∣ s - (W - ℓ) := by
        rw [show s - (W - ℓ) = s + ℓ - W by omega]
        exact Int.dvd_sub h (Int.dvd_refl W)
      refine ⟨Nat.le_refl _, by simp, 1, 1, W - ℓ, W - (W - ℓ), grow_one Pt (by omega) (by omega) hd, ?_, .inr (by omega), fun h => by omega⟩
      have : gapAt 1 1 1 (W - ℓ) (W - (W - ℓ)) 0 = W := by simp [gapAt]; omega
      simp [this]
  · right; right
    have e : ℓ = W := by omega
    refine ⟨1, Nat.le_refl _, Nat.le_refl _, by simp, by rw [Int.natCast_one, Int.one_mul]; exact h2 e, by simp [e]⟩
/-- the root of the heap, while there is more to come -/
theorem root_of {k u v : Nat} {a b : Int} {gl hp : List Int} (g : Grow W s p k u v a b) (hg : gl.Perm ((List.range k).map (gapAt k u v a b))) (k1 : hp.Perm gl) (k2 : IsHeap hp) (hl : 0 < hp.length) :
    (k < u + v → hp.getD 0 0 = a + b) ∧ (k = u + v → (a ≤ hp.getD 0 0 ∧ b ≤ hp.getD 0 0) ∧ (hp.getD 0 0 = a ∨ hp.getD 0 0 = b)) := by
  have hpm := k1.trans hg
  have hu := g.u1
  have huN := g.uN
  have hv := g.v1
  have hvN := g.vN
  have ha := g.a0
  have hb := g.b0
  have hmax := heap_max k2
  have hin : hp.getD 0 0 ∈ (List.range k).map (gapAt k u v a b) := hpm.mem_iff.mp (by
    have : hp.getD 0 0 = hp[0] := by simp [hl]
    rw [this]; exact List.getElem_mem hl)
  obtain ⟨i, hi, ei⟩ := List.mem_map.mp hin
  have hi := List.mem_range.mp hi
  have hge : ∀ j, j < k → gapAt k u v a b j ≤ hp.getD 0 0 := fun j hj => hmax _ (hpm.mem_iff.mpr (List.mem_map.mpr ⟨j, List.mem_range.mpr hj, rfl⟩))
  constructor
  · intro h
    have e0 : gapAt k u v a b (k - u) = a + b := by unfold gapAt; rw [if_neg (by omega), if_pos (by omega)]
    have := hge (k - u) (by omega)
    rw [e0] at this
    unfold gapAt at ei
    split at ei
    · omega
    · split at ei <;> omega
  · intro h
    have e0 : gapAt k u v a b 0 = a := by unfold gapAt; rw [if_pos (by omega)]
    have e1 : gapAt k u v a b v = b := by unfold gapAt; rw [if_neg (by omega), if_neg (by omega)]
    have r0 := hge 0 (by omega)
    have r1 := hge v (by omega)
    rw [e0] at r0
    rw [e1] at r1
    refine ⟨⟨r0, r1⟩, ?_⟩
    unfold gapAt at ei
    split at ei
    · exact .inl ei.symm
    · split at ei
      · omega
      · exact .inr ei.symm
theorem pts_eq (Pt : Pts W lo s p) {i j : Nat} (h : W ∣ j * s) : p (i + j) = p i := by
  have c := Int.dvd_add (Pt.cong i j) h
  rw [show p (i + j) - p i - j * s + j * s = p (i + j) - p i by omega] at c
  have w1 := Pt.win i
  have w2 := Pt.win (i + j)
  have hW := Pt.pos
  have := dvd_small hW c (by omega) (by omega)
  omega
theorem law_t1 (Pt : Pts W lo s p) {k : Nat} (hk : 1 ≤ k) {P gl hp : List Int} {ℓ : Int} (h : LawSt W s p L0 k P gl hp ℓ) (he : hp.getD 0 0 = ℓ) : 0 < P.length ∧ p k = P.getD (k % P.length) 0 ∧ LawSt W s p L0 (k + 1) P gl hp ℓ := by
  obtain ⟨k1, k2, k3, h⟩ := h
  have key : ∃ N, 1 ≤ N ∧ N ≤ k ∧ P = (List.range N).map p ∧ W ∣ N * s ∧ hp.getD 0 0 = ℓ := by
    rcases h with h | h | h
    · omega
    · obtain ⟨_, hP, u, v, a, b, g, hg, hl, hm⟩ := h
      obtain ⟨r1, r2⟩ := root_of g hg k1 k2 k3.1
      have ha := g.a0
      have hb := g.b0
      have huv := g.uv
      have hkk : k = u + v := by
        refine Nat.le_antisymm huv (Nat.le_of_not_lt fun hlt => ?_)
        have := r1 hlt
        omega
      obtain ⟨⟨q1, q2⟩, q3⟩ := r2 hkk
      obtain ⟨q4, q5⟩ := hm hkk
      refine ⟨k, hk, Nat.le_refl _, hP, ?_, he⟩
      have d := Int.dvd_add g.us g.vs
      rw [show u * s - a + (v * s + b) = (k : Int) * s + (b - a) by rw [hkk, Int.natCast_add, Int.add_mul]; omega, show b - a = 0 by omega, Int.add_zero] at d
      exact d
    · exact h
  obtain ⟨N, n1, n2, n3, n4, n5⟩ := key
  have hlen : P.length = N := by rw [n3]; simp
  refine ⟨by omega, ?_, k1, k2, ⟨k3.1, by omega, by omega⟩, .inr (.inr ⟨N, n1, by omega, n3, n4, n5⟩)⟩
  have hmod : k % N < N := Nat.mod_lt _ (by omega)
  have e : p k = p (k % N) := by
    have hd : W ∣ ((N * (k / N) : Nat) : Int) * s := by
      rw [Int.natCast_mul, Int.mul_right_comm]
      exact Int.dvd_mul_of_dvd_left n4
    have := pts_eq Pt (i := k % N) hd
    rw [Nat.mod_add_div] at this
    exact this
  rw [hlen, n3, e]
  simp [hmod]
theorem law_t2 (Pt : Pts W lo s p) {k : Nat} (hk : 1 ≤ k) {P gl hp : List Int} {ℓ : Int} (h : LawSt W s p L0 k P gl hp ℓ) (he : hp.getD 0 0 ≠ ℓ) {row : List Int} (hr : row.Perm (P ++ [p k])) (ho : row.Pairwise (· ≤ ·)) :
    (uld gl.reverse (gapsOf row W)).1 = [hp.getD 0 0] ∧ (uld gl.reverse (gapsOf row W)).2.Perm [ℓ, hp.getD 0 0 - ℓ] ∧
    LawSt W s p L0 (k + 1) (P ++ [p k]) (gapsOf row W) (sdown ℓ (sifted (hp.set 0 (hp.getD 0 0 - ℓ)) ++ [ℓ]) (sifted (hp.set 0 (hp.getD 0 0 - ℓ))).length) (min ℓ (hp.getD 0 0 - ℓ)) := by
  obtain ⟨k1, k2, k3, h⟩ := h
  have key : P = (List.range k).map p ∧ ∃ u v a b, Grow W s p k u v a b ∧ k < u + v ∧ gl.Perm ((List.range k).map (gapAt k u v a b)) ∧ (ℓ = a ∨ ℓ = b) := by
    rcases h with h | h | h
    · omega
    · obtain ⟨_, hP, u, v, a, b, g, hg, hl, hm⟩ := h
      refine ⟨hP, ?_⟩
      obtain ⟨r1, r2⟩ := root_of g hg k1 k2 k3.1
      have huv := g.uv
      rcases Nat.lt_or_ge k (u + v) with hlt | hge
      · exact ⟨u, v, a, b, g, hlt, hg, hl⟩
      · have hkk : k = u + v := by omega
        obtain ⟨⟨q1, q2⟩, q3⟩ := r2 hkk
        obtain ⟨q4, q5⟩ := hm hkk
        have hu := g.u1
        have hv := g.v1
        rcases (show b < a ∨ a < b by omega) with hab | hab
        · obtain ⟨g', e'⟩ := grow_left g hkk hab
          refine ⟨u + v, v, a - b, b, g', by omega, hg.trans (List.Perm.of_eq (List.map_congr_left fun i hi => (e' i (List.mem_range.mp hi)).symm)), .inr (by omega)⟩
        · obtain ⟨g', e'⟩ := grow_right g hkk hab
          refine ⟨u, u + v, a, b - a, g', by omega, hg.trans (List.Perm.of_eq (List.map_congr_left fun i hi => (e' i (List.mem_range.mp hi)).symm)), .inl (by omega)⟩
    · obtain ⟨N, _, _, _, _, n5⟩ := h
      exact absurd n5 he
  obtain ⟨hP, u, v, a, b, g, hlt, hg, hl⟩ := key
  have hroot := (root_of g hg k1 k2 k3.1).1 hlt
  have ha := g.a0
  have hb := g.b0
  have gs := grow_step Pt g hlt
  have hr' : row.Perm ((List.range (k + 1)).map p) := by
    refine hr.trans (List.Perm.of_eq ?_)
    rw [hP, List.range_succ, List.map_append, List.map_singleton]
  have hnow := gaps_perm Pt gs hr' ho
  obtain ⟨R, c1, c2⟩ := cut_perm (a := a) (b := b) g.u1 g.uN g.vN hlt
  have hold := hg.trans c1
  have hnew := hnow.trans c2
  obtain ⟨q1, q2⟩ := uld_cut hold hnew (by omega) (by omega)
  have hrest : hp.getD 0 0 - ℓ = a + b - ℓ := by rw [hroot]
  rw [hrest, hroot]
  have hpair : [a, b].Perm [ℓ, a + b - ℓ] := by
    rcases hl with rfl | rfl
    · rw [show ℓ + b - ℓ = b by omega]
    · rw [show a + ℓ - ℓ = a by omega]; exact List.Perm.swap ..
  refine ⟨q1, q2.trans hpair, ?_⟩
  obtain ⟨s1, s2⟩ := replaced_heap k2 k3.1 (a + b - ℓ)
  obtain ⟨t1, t2⟩ := pushed_heap s1 ℓ
  have hperm : (sdown ℓ (sifted (hp.set 0 (a + b - ℓ)) ++ [ℓ]) (sifted (hp.set 0 (a + b - ℓ))).length).Perm (gapsOf row W) := by
    refine t2.trans ((s2.append_right [ℓ]).trans ?_)
    cases hp with
    | nil => exact absurd k3.1 (by simp)
    | cons h0 tl =>
      have e0 : h0 = a + b := by simpa using hroot
      subst e0
      have htl : tl.Perm R := List.Perm.cons_inv (k1.trans hold)
      show ((a + b - ℓ) :: tl ++ [ℓ]).Perm _
      refine (List.perm_append_singleton ℓ _).trans ?_
      refine (List.Perm.cons ℓ (List.Perm.cons (a + b - ℓ) htl)).trans ?_
      have : ([ℓ, a + b - ℓ] ++ R).Perm ([a, b] ++ R) := hpair.symm.append_right R
      exact this.trans hnew.symm
  refine ⟨hperm, t1, ⟨?_, ?_, ?_⟩, .inr (.inl ⟨by omega, ?_, u, v, a, b, gs, hnow, by omega, by omega⟩)⟩
  · rw [t2.length_eq]; simp
  · rw [t2.length_eq, List.length_append, s2.length_eq, List.length_set]; simp; exact k3.2.1
  · have := k3.2.2; simp; exact this
  · rw [hP, List.range_succ, List.map_append, List.map_singleton]
end


-- part Mw
theorem off_Mw : True := by
  w_top off
  k_with_none
  k_with "omega" => first | (kjx_bare; omega (config := {})) | ((fail_if_success (fail_if_success (omega (config := {})))); law_clear; lia)
  exact True.intro
theorem unit_bits {U : Int} (h : UnitIs U) : Builtin.Int.intBits U ≤ 4101 := by
  rcases h with h | h
  · rw [h]; decide
  · refine bits_lt (by rw [h]; exact Int.le_of_lt (kbt_pos 4100)) ?_
    rw [h, show (4101 : Nat) = 4100 + 1 from rfl, Int.pow_succ]
    have := kbt_pos 4100
    omega
theorem small_bits {x : Int} (h1 : -2000 < x) (h2 : x < 2000) : Builtin.Int.intBits x ≤ 64 := intBits_le_64 (by omega) (by omega)
theorem wheel_facts {W S T : Int} (h : WheelOk W S T) : W ≠ 0 ∧ Builtin.Int.intBits W ≤ 7000 ∧ Builtin.Int.intBits S ≤ 20000 ∧ (Builtin.Int.intBits T ≤ 20000 ∧ Builtin.Int.intBits T ≤ 100 * Builtin.Int.intBits W) ∧
    ∀ k : Int, 0 ≤ k → k < 12 → Builtin.Int.intBits (S + k * T) ≤ 20000 ∧ Builtin.Int.intBits (S + k * T) ≤ 100 * Builtin.Int.intBits W := by
  obtain ⟨U, α, β, γ, δ, hU, hα, hβ, hγ, hδ, hW, hS, hT⟩ := h
  have zU := unit_bits hU
  have z1 : Builtin.Int.intBits ((α + 2) * U + β) ≤ 4200 := Nat.le_trans (intBits_add_le (intBits_mul_le (small_bits (x := α + 2) (by omega) (by omega)) zU) (small_bits (x := β) (by omega) (by omega))) (by decide)
  have zW : Builtin.Int.intBits W ≤ 4200 := by
    rcases hW with h | h
    · rw [h]; exact z1
    · rw [h]; exact intBits_neg_le z1
  have zS : Builtin.Int.intBits S ≤ 4200 := by rw [hS]; exact Nat.le_trans (intBits_mul_le (small_bits (x := γ - 504) (by omega) (by omega)) zU) (by decide)
  have zT : Builtin.Int.intBits T ≤ 8300 := by rw [hT]; exact Nat.le_trans (intBits_mul_le (intBits_mul_le (small_bits (x := δ - 504) (by omega) (by omega)) zU) zU) (by decide)
  have zk : ∀ k : Int, 0 ≤ k → k < 12 → Builtin.Int.intBits (S + k * T) ≤ 8400 := fun k h0 h1 => Nat.le_trans (intBits_add_le zS (intBits_mul_le (small_bits (x := k) (by omega) (by omega)) zT)) (by decide)
  rcases hU with h1 | h1
  · subst h1
    rw [Int.mul_one] at hW hS
    rw [Int.mul_one, Int.mul_one] at hT
    have w2 : 2 ≤ Builtin.Int.intBits W := by
      refine Nat.le_of_not_lt fun hlt => ?_
      have := intBits_le_iff.mp (show Builtin.Int.intBits W ≤ 1 by omega)
      have : (2 : Nat) ^ 1 = 2 := rfl
      omega
    have sm : ∀ x : Int, -8000 < x → x < 8000 → Builtin.Int.intBits x ≤ 100 * Builtin.Int.intBits W := fun x h1 h2 => Nat.le_trans (intBits_le_64 (by omega) (by omega)) (by omega)
    refine ⟨by omega, by omega, by omega, ⟨by omega, sm T (by omega) (by omega)⟩, fun k h0 h1 => ⟨Nat.le_trans (zk k h0 h1) (by decide), sm _ ?_ ?_⟩⟩
    · have : k * T ≥ -(k * 504) := by
        have := Int.mul_le_mul_of_nonneg_left (show -504 ≤ T by omega) h0
        omega
      omega
    · have := Int.mul_le_mul_of_nonneg_left (show T ≤ 504 by omega) h0
      omega
  · have hp := kbt_pos 4100
    rw [← h1] at hp
    have w2 : 4101 ≤ Builtin.Int.intBits W := by
      refine Nat.le_of_not_lt fun hlt => ?_
      have h2 := intBits_le_iff.mp (show Builtin.Int.intBits W ≤ 4100 by omega)
      have h3 := kbt_cast 4100
      have h4 : 0 ≤ α * U := Int.mul_nonneg hα.1 (Int.le_of_lt hp)
      rw [Int.add_mul] at hW
      rw [← h1] at h3
      generalize (2 : Nat) ^ 4100 = M at *
      omega
    refine ⟨?_, by omega, by omega, ⟨by omega, by omega⟩, fun k h0 h1 => ⟨Nat.le_trans (zk k h0 h1) (by decide), Nat.le_trans (zk k h0 h1) (by omega)⟩⟩
    intro h0
    rw [h0] at w2
    have : Builtin.Int.intBits 0 = 0 := rfl
    omega
theorem fmod_win {w : Int} (hw : w ≠ 0) (x : Int) : (if 0 < w then 0 else 1 - (w.natAbs : Int)) ≤ x.fmod w ∧ x.fmod w < (if 0 < w then 0 else 1 - (w.natAbs : Int)) + (w.natAbs : Int) := by
  by_cases h : 0 < w
  · rw [if_pos h]
    have h1 := fmod_lo x h
    have h2 := fmod_hi x h
    omega
  · rw [if_neg h]
    have h0 : 0 < -w := by omega
    have e := (id_neg x (b := w)).2
    have h1 := fmod_lo (-x) h0
    have h2 := fmod_hi (-x) h0
    omega
theorem fmod_dvd (w x : Int) : w ∣ x - x.fmod w := by
  rw [Int.fmod_def]
  exact ⟨x.fdiv w, by omega⟩
theorem wheel_pts {w : Int} (hw : w ≠ 0) (S T : Int) : Pts (w.natAbs : Int) (if 0 < w then 0 else 1 - (w.natAbs : Int)) T (fun k => (S + (k : Int) * T).fmod w) where
  pos := by omega
  win := fun i => fmod_win hw _
  cong := fun i j => by
    rw [Int.natAbs_dvd]
    have h1 := fmod_dvd w (S + ((i + j : Nat) : Int) * T)
    have h2 := fmod_dvd w (S + (i : Int) * T)
    have h3 := Int.dvd_sub h2 h1
    rw [Int.natCast_add, Int.add_mul] at h3 ⊢
    have e : ∀ A B C D E : Int, A + C - D - (A + (C + B) - E) = E - D - B := by intros; omega
    rw [e] at h3
    exact h3
theorem wheel_least {w : Int} (hw : w ≠ 0) (T : Int) {L0 : Int} (h : L0 = if ((T.fmod w).natAbs : Int) = 0 then (w.natAbs : Int) else ((T.fmod w).natAbs : Int)) :
    0 < L0 ∧ L0 ≤ (w.natAbs : Int) ∧ (L0 = (w.natAbs : Int) → (w.natAbs : Int) ∣ T) ∧ (L0 < (w.natAbs : Int) → (w.natAbs : Int) ∣ T - L0 ∨ (w.natAbs : Int) ∣ T + L0) := by
  have hd := fmod_dvd w T
  have hwin := fmod_win hw T
  simp only [Int.natAbs_dvd]
  split at h
  · rename_i h0
    have e : T.fmod w = 0 := by omega
    rw [e, Int.sub_zero] at hd
    refine ⟨by omega, by omega, fun _ => hd, fun h => by omega⟩
  · rename_i h0
    have hlt : ((T.fmod w).natAbs : Int) < (w.natAbs : Int) := by split at hwin <;> omega
    refine ⟨by omega, by omega, fun h => by omega, fun _ => ?_⟩
    rcases (show L0 = T.fmod w ∨ L0 = -T.fmod w by omega) with e | e
    · left; rw [e]; exact hd
    · right; rw [e, show T + -T.fmod w = T - T.fmod w by omega]; exact hd
theorem place_ok {w : Int} (hw : w ≠ 0) (x : Int) : x.fdiv w * w + x.fmod w = x ∧ ((x.fmod w).natAbs : Int) < (w.natAbs : Int) ∧ 0 ≤ x.fmod w * w := by
  refine ⟨by rw [Int.fmod_def, Int.mul_comm]; omega, ?_, ?_⟩
  · have := fmod_win hw x
    split at this <;> omega
  · have := fmod_win hw x
    by_cases h : 0 < w
    · rw [if_pos h] at this; exact Int.mul_nonneg this.1 (Int.le_of_lt h)
    · rw [if_neg h] at this
      exact Int.mul_nonneg_of_nonpos_of_nonpos (by omega) (by omega)


-- part Lr
theorem off_Lr : True := by
  w_top off
  k_with_none
  k_with "omega" => first | (kjx_bare; omega (config := {})) | ((fail_if_success (fail_if_success (omega (config := {})))); law_clear; lia)
  exact True.intro
theorem range_state {σ : Type} {prog : Program} {w : World} {A : Around} {E : Value → Shared → Prop} {h₀ : Heap} {env : Env} {x : Str} {body : List Stmt} {Q : Flow → Shared → Prop} {s : Shared} {I : Addr} {m₀ : Str → Option Value} {n : Nat}
    (Led : σ → List (Addr × Obj)) (ps : σ → List (Str × Value)) (stored : List Str) (P : Nat → σ → Prop) (hx : ∀ c, ∀ p ∈ ps c, p.1 ≠ x)
    (turn : ∀ (i : Nat) t c (u : Str → Option Value) it h tk, i < n → P i c → Fr h₀ env.locals h (kstB (fun z => if stored.contains z then u z else m₀ z) ((x, .int (i : Int) t) :: ps c)) → News h₀ env.locals h ((I, it) :: Led c) →
      wpAny (model prog w) A (execs body env) (RvPost h₀ env.locals { s with heap := h, toks := tk } I it Led ps stored m₀ (P (i + 1)) Q) E { s with heap := h, toks := tk })
    (done : ∀ c (u : Str → Option Value) h tk, P n c → Fr h₀ env.locals h (kstB (fun z => if stored.contains z then u z else m₀ z) (ps c)) → News h₀ env.locals h (Led c) → Q .next { s with heap := h, toks := tk }) :
    ∀ (k i : Nat), i + k = n → ∀ c m, (∀ p ∈ ps c, m p.1 = some p.2) → (∀ z, (∀ p ∈ ps c, z ≠ p.1) → stored.contains z = false → m z = m₀ z) → P i c → RangeRest prog w A E h₀ env x body Q s I 0 n k i m (Led c) := by
  intro k
  induction k with
  | zero =>
    intro i hi c m h1 h2 hp
    have : i = n := by omega
    subst this
    exact RangeRest.zero fun h tk F N => done c m h tk hp (ksw_fr h1 h2 F) N
  | succ k ih =>
    intro i hi c m h1 h2 hp
    refine RangeRest.succ fun t h tk F N => ?_
    have e0 : (0 : Int) + (i : Int) = (i : Int) := Int.zero_add _
    rw [e0] at F
    exact wpAny_mono (turn i t c _ _ h tk (by omega) hp (turn_fr F h1 (hx c) h2) N) (fun f s₂ q => rv_unr (fun c m' k1 k2 k3 => ih (i + 1) (by omega) c m' k1 k2 k3) q) fun _ _ e => e
theorem fr_same {h₀ h : Heap} {L : Addr} {m : Str → Option Value} {x : Str} {v : Value} (F : Fr h₀ L h m) (e : m x = some v) : Fr h₀ L h (fun y => if y = x then some v else m y) := by
  have : (fun y => if y = x then some v else m y) = m := by
    funext y
    by_cases hy : y = x
    · rw [if_pos hy, hy, e]
    · rw [if_neg hy]
  rw [this]; exact F
/-- the two ways of «if least == 0» as one -/
def LeastPost (G : Heap) (L : Addr) (m₀ : Str → Option Value) (news : List (Addr × Obj)) (W f : Int) (s : Shared) (fl : Flow) (s' : Shared) : Prop :=
  fl = .next ∧ ∃ h' tk L0 t0, s' = { s with heap := h', toks := tk } ∧ Fr G L h' (fun y => if y = Str.ofString "least" then some (.int L0 t0) else m₀ y) ∧ News G L h' news ∧ L0 = if (f.natAbs : Int) = 0 then W else (f.natAbs : Int)
theorem least_join {M : Model} {A : Around} {t : Sem Flow} {Q : Flow → Shared → Prop} {E : Value → Shared → Prop} {s : Shared} {G : Heap} {L : Addr} {m₀ : Str → Option Value} {news : List (Addr × Obj)} (W f : Int) (_F : Fr G L s.heap m₀) (_N : News G L s.heap news)
    (h1 : wpAny M A t (LeastPost G L m₀ news W f s) E s)
    (h2 : ∀ h' tk L0 t0, Fr G L h' (fun y => if y = Str.ofString "least" then some (.int L0 t0) else m₀ y) → News G L h' news → L0 = (if (f.natAbs : Int) = 0 then W else (f.natAbs : Int)) → Q .next { s with heap := h', toks := tk }) : wpAny M A t Q E s := by
  refine wpAny_mono h1 (fun fl s' q => ?_) fun _ _ e => e
  obtain ⟨rfl, h', tk, L0, t0, rfl, F', N', e⟩ := q
  exact h2 h' tk L0 t0 F' N' e
theorem abs_K {prog : Program} {w : World} {A : Around} {E : Value → Shared → Prop} {s : Shared} {a : Int} {t : Tok} {Q : Value → Shared → Prop} (h : ∀ u tk, Q (.int (a.natAbs : Int) u) { s with toks := tk }) : wpAny (model prog w) A (call (.builtin "abs") [.int a t]) Q E s := by
  refine call_abs_int fun u tk => ?_
  have e : (if a < 0 then -a else a) = (a.natAbs : Int) := by split <;> omega
  rw [e]; exact h u tk
structure LS where
  ag : Addr
  vp : List Value
  vg : List Value
  vh : List Value
  P : List Int
  g : List Int
  h : List Int
  kp : Nat
  kg : Nat
  kh : Nat
  l : Int
  t : Tok
  ts1 : List (Addr × Obj)
  ts2 : List (Addr × Obj)
theorem name4 {G : Heap} {L : Addr} {h : Heap} {hl gl pl : Addr} {x : Int} {t : Tok} {k1 : Nat} {o2 o3 : Obj} {rest : List (Addr × Obj)} {C : Prop} (_N : News G L h ((hl, listOf #[.int x t] k1) :: (gl, o2) :: (pl, o3) :: rest)) (k : ∀ hl' gl' pl' t', hl' = hl → gl' = gl → pl' = pl → t' = t → C) : C := k _ _ _ _ rfl rfl rfl rfl
theorem mem5 {a b c d : Addr × Obj} {x y : List (Addr × Obj)} {p : Addr × Obj} (hp : p ∈ x ++ (y ++ [a, b, c, d])) : p ∈ a :: b :: c :: d :: (x ++ y) := by
  simp only [List.mem_append, List.mem_cons, List.mem_nil_iff, or_false] at hp ⊢
  rcases hp with h | h | h | h | h | h <;> simp [h]
theorem mem5' {D a b c d : Addr × Obj} {x y : List (Addr × Obj)} {p : Addr × Obj} (hp : p ∈ D :: a :: b :: c :: d :: (x ++ y)) : p ∈ D :: (x ++ (y ++ [a, b, c, d])) := by
  simp only [List.mem_append, List.mem_cons, List.mem_nil_iff, or_false] at hp ⊢
  rcases hp with h | h | h | h | h | h | h <;> simp [h]
theorem forall5 {a b c d : Addr × Obj} {C : Addr × Obj → Prop} (h1 : C a) (h2 : C b) (h3 : C c) (h4 : C d) : ∀ p ∈ [a, b, c, d], C p := by
  intro p hp
  simp only [List.mem_cons, List.mem_nil_iff, or_false] at hp
  rcases hp with rfl | rfl | rfl | rfl <;> assumption
/-- what the loop keeps, beside the law's own state -/
def LApart (hl pl I : Addr) (c : LS) : Prop :=
  TabIs 51 63 4 qualI c.ts1 ∧ TabIs 58 78 4 qualD c.ts2 ∧ (c.ag ≠ hl ∧ c.ag ≠ pl ∧ c.ag ≠ I) ∧ (∀ p ∈ c.ts2, ∀ q ∈ c.ts1, q.1 ≠ p.1) ∧ (∀ p ∈ c.ts1 ++ c.ts2, p.1 ≠ hl ∧ p.1 ≠ pl ∧ p.1 ≠ c.ag ∧ p.1 ≠ I)
def LLed (hl pl : Addr) (c : LS) : List (Addr × Obj) := (hl, listOf c.vh.toArray c.kh) :: (pl, listOf c.vp.toArray c.kp) :: (c.ag, listOf c.vg.toArray c.kg) :: (c.ts1 ++ c.ts2)
def LPs (c : LS) : List (Str × Value) := [(Str.ofString "gaps", .ref c.ag), (Str.ofString "least", .int c.l c.t)]
def LStored : List Str := ["turns", "place", "now", "gone", "come", "rest", "k"].map Str.ofString
def LInv (W T L0 : Int) (p : Nat → Int) (hl pl I : Addr) (k : Nat) (c : LS) : Prop := (IntsAre c.vp c.P ∧ IntsAre c.vg c.g ∧ IntsAre c.vh c.h) ∧ LawSt W T p L0 k c.P c.g c.h c.l ∧ LApart hl pl I c
theorem bits_le2 : ∀ a b c d M : Nat, a ≤ b + c → b < M → c < d → d < M → a < M * 2 := by intros; omega
theorem turn_bits {x w : Int} (hw : w ≠ 0) {k : Nat} (hx : Builtin.Int.intBits x ≤ k) (hb : Builtin.Int.intBits w ≤ k) : Builtin.Int.intBits (x.fdiv w) ≤ k + 1 ∧ Builtin.Int.intBits (x.fmod w) ≤ k + 1 := by
  obtain ⟨e1, e2, -⟩ := place_ok hw x
  have h1 := intBits_le_iff.mp hx
  have h2 := intBits_le_iff.mp hb
  have e2' : (x.fmod w).natAbs < w.natAbs := Int.ofNat_lt.mp e2
  have h3 : (x.fdiv w).natAbs ≤ (x.fdiv w * w).natAbs := by
    rw [Int.natAbs_mul]
    exact Nat.le_mul_of_pos_right _ (Int.natAbs_pos.mpr hw)
  have h4 : x.fdiv w * w = x - x.fmod w := by clear h1 h2 h3 e2 e2' hx hb; omega
  rw [h4] at h3
  have h5 := Int.natAbs_sub_le x (x.fmod w)
  clear hx hb e1 e2 h4
  constructor
  · refine intBits_le_iff.mpr ?_
    rw [Nat.pow_succ]
    exact Nat.lt_of_le_of_lt h3 (bits_le2 _ _ _ _ _ h5 h1 e2' h2)
  · refine intBits_le_iff.mpr ?_
    rw [Nat.pow_succ]
    exact bits_le2 _ 0 _ _ _ (by rw [Nat.zero_add]; exact Nat.le_refl _) (Nat.pow_pos (by decide)) e2' h2
theorem any_post {M : Model} {A : Around} {t : Sem Flow} {s : Shared} {σ : Type} {h₀ : Heap} {L : Addr} {s₁ : Shared} {I : Addr} {it : Obj} {Led : σ → List (Addr × Obj)} {ps : σ → List (Str × Value)} {stored : List Str} {m₀ : Str → Option Value} {P : σ → Prop} {Q₀ : Flow → Shared → Prop} {E₀ : Value → Shared → Prop}
    (h : ∀ (Q : Flow → Shared → Prop) (E : Value → Shared → Prop), wpAny M A t (RvPost h₀ L s₁ I it Led ps stored m₀ P Q) E s) : wpAny M A t (RvPost h₀ L s₁ I it Led ps stored m₀ P Q₀) E₀ s := h _ _
theorem mem5z {a b c d : Addr × Obj} {x y : List (Addr × Obj)} {p : Addr × Obj} (hp : p ∈ a :: b :: c :: d :: (x ++ y)) : p ∈ x ++ (y ++ [a, b, c, d]) := by
  simp only [List.mem_append, List.mem_cons, List.mem_nil_iff, or_false] at hp ⊢
  rcases hp with h | h | h | h | h | h <;> simp [h]
theorem memT {d i h b g : Addr × Obj} {x y : List (Addr × Obj)} {p : Addr × Obj} (hp : p ∈ h :: b :: g :: (x ++ y)) : p ∈ d :: i :: h :: b :: g :: (x ++ y) := .tail _ (.tail _ hp)
theorem memA {d i h b g : Addr × Obj} {x : List (Addr × Obj)} {p : Addr × Obj} (hp : p ∈ b :: i :: h :: g :: x) : p ∈ d :: i :: h :: b :: g :: x := by
  simp only [List.mem_cons] at hp ⊢
  rcases hp with h | h | h | h | h <;> simp [h]
theorem memN {hl pl ag I : Addr} {o1 o2 o3 : Obj} {x : List (Addr × Obj)} {p : Addr × Obj} (hp : p ∈ (hl, o1) :: (pl, o2) :: (ag, o3) :: x) (h1 : hl < I) (h2 : pl < I) (h3 : ag ≠ I) (h4 : ∀ p ∈ x, p.1 ≠ I) : p.1 ≠ I := by
  rcases List.mem_cons.mp hp with rfl | hp
  · exact Nat.ne_of_lt h1
  rcases List.mem_cons.mp hp with rfl | hp
  · exact Nat.ne_of_lt h2
  rcases List.mem_cons.mp hp with rfl | hp
  · exact h3
  exact h4 p hp
theorem forall4t {i h g l : Addr} {o1 o2 o3 : Obj} {x : List (Addr × Obj)} (h1 : i ≠ l) (h2 : h ≠ l) (h3 : g ≠ l) (h4 : ∀ p ∈ x, p.1 ≠ l) : ∀ p ∈ (i, o1) :: (h, o2) :: (g, o3) :: x, p.1 ≠ l := by
  intro p hp
  rcases List.mem_cons.mp hp with rfl | hp
  · exact h1
  rcases List.mem_cons.mp hp with rfl | hp
  · exact h2
  rcases List.mem_cons.mp hp with rfl | hp
  · exact h3
  exact h4 p hp
theorem gapsOf_length (row : List Int) (sz : Int) (h : 0 < row.length) : (gapsOf row sz).length = row.length := by
  unfold gapsOf
  rw [List.length_append, List.length_map, List.length_range, List.length_singleton]; omega
theorem memB {a b : Addr × Obj} {x : List (Addr × Obj)} {p : Addr × Obj} (hp : p ∈ a :: b :: x) : p ∈ b :: a :: x := by
  simp only [List.mem_cons] at hp ⊢
  rcases hp with h | h | h <;> simp [h]
theorem lt5 {d a b c e f : Addr} {o1 o2 o3 o4 o5 : Obj} {x : List (Addr × Obj)} (h : a < d ∧ b < d ∧ c < d ∧ e < d ∧ f < d ∧ AllLt d x) : ∀ p ∈ (a, o1) :: (b, o2) :: (c, o3) :: (e, o4) :: (f, o5) :: x, p.1 < d :=
  allLt_mem (l := (a, o1) :: (b, o2) :: (c, o3) :: (e, o4) :: (f, o5) :: x) h
theorem sorted_uniq {a b r : List Int} (h : a.Perm r) (h' : b.Perm r) (o : a.Pairwise (· ≤ ·)) (o' : b.Pairwise (· ≤ ·)) : a = b :=
  (h.trans h'.symm).eq_of_pairwise (fun _ _ _ _ => Int.le_antisymm) o o'
theorem memC {a1 a2 a3 a4 rt ms A2 dn pl i hl ag : Addr × Obj} {x : List (Addr × Obj)} {p : Addr × Obj} (hp : p ∈ hl :: ms :: dn :: pl :: i :: x) : p ∈ a1 :: a2 :: a3 :: a4 :: rt :: ms :: A2 :: dn :: pl :: i :: hl :: ag :: x := by
  simp only [List.mem_cons] at hp ⊢
  rcases hp with h | h | h | h | h | h <;> simp [h]
theorem forall4h {a b c d l : Addr} {o1 o2 o3 o4 : Obj} {x : List (Addr × Obj)} (h1 : a ≠ l) (h2 : b ≠ l) (h3 : c ≠ l) (h4 : d ≠ l) (h5 : ∀ p ∈ x, p.1 ≠ l) : ∀ p ∈ (a, o1) :: (b, o2) :: (c, o3) :: (d, o4) :: x, p.1 ≠ l :=
  List.forall_mem_cons.mpr ⟨h1, forall4t h2 h3 h4 h5⟩
theorem memD {a1 ms dn pl i hl : Addr × Obj} {x : List (Addr × Obj)} {p : Addr × Obj} (hp : p ∈ hl :: dn :: pl :: i :: x) : p ∈ a1 :: hl :: ms :: dn :: pl :: i :: x := by
  simp only [List.mem_cons] at hp ⊢
  rcases hp with h | h | h | h | h <;> simp [h]
theorem sd_cast {vs : List Value} {sf : List Int} {l pos : Int} (h : IntsAre vs (sdown ((sf ++ [l]).getD pos.toNat 0) (sf ++ [l]) pos.toNat)) (e : pos = (sf.length : Int)) : IntsAre vs (sdown l (sf ++ [l]) sf.length) := by
  subst e
  rw [Int.toNat_natCast, show (sf ++ [l]).getD sf.length 0 = l by simp] at h
  exact h
theorem min_if {x l : Int} : (if x < l then x else l) = min l x := by
  split <;> omega
theorem memE {dn pl i hl : Addr × Obj} {x y : List (Addr × Obj)} {p : Addr × Obj} (hp : p ∈ hl :: pl :: dn :: (x ++ y)) : p ∈ hl :: dn :: pl :: i :: (x ++ y) := by
  simp only [List.mem_cons, List.mem_append] at hp ⊢
  rcases hp with h | h | h | h | h <;> simp [h]
theorem memF {hl pl ag : Addr × Obj} {x : List (Addr × Obj)} {p : Addr × Obj} (hp : p ∈ hl :: ag :: pl :: x) : p ∈ hl :: pl :: ag :: x := by
  simp only [List.mem_cons] at hp ⊢
  rcases hp with h | h | h | h <;> simp [h]
theorem tab_grown {P : Addr} {ln co : Int} {q : Str} {ts : List (Addr × Obj)} {G h : Heap} {L : Addr} {led : List (Addr × Obj)} (ht : TabIs P ln co q ts) (N : News G L h led) (hm : ∀ p ∈ ts, p ∈ led) : GrownAt P h := by
  cases ht with
  | no => exact GrownAt.of N (hm _ (.head _))
  | yes _ _ => exact GrownAt.of N (hm _ (.head _))
theorem mem7 {a b c d e f g : Addr × Obj} {x : List (Addr × Obj)} {p : Addr × Obj} (hp : p ∈ x) : p ∈ a :: b :: c :: d :: e :: f :: g :: x :=
  .tail _ (.tail _ (.tail _ (.tail _ (.tail _ (.tail _ (.tail _ hp))))))


-- part Lw
theorem off_Lw : True := by
  w_top off
  k_with_none
  k_with "omega" => first | (kjx_bare; omega (config := {})) | ((fail_if_success (fail_if_success (omega (config := {})))); law_clear; lia)
  exact True.intro
theorem idFuel_le (x b : Int) : idFuel x b ≤ 2 := by unfold idFuel; split <;> (try split) <;> omega
theorem law_holds : PySem.Challenge.rw_op0095_01.Holds := hd (by
  k_go0
  (all_goals try k_fold)
  k_with_none
  k_with "guard" =>
    (with_reducible first | show wpAny _ _ (exec (Stmt.While _ _ _ _) _) _ _ _ | show wpAny _ _ (call (Value.ref _) _ _) _ _ _ | show wpAny _ _ (pyIter (Value.ref _)) _ _ _ | show wpAny _ _ (exec (Stmt.If (PySem.Expr.Compare (PySem.Expr.Name (PySem.Str.ofString "least") _) _ _ _) _ _ _) _) _ _ _ | show UnrEnd _ _ _ _ _ _ _ | show KswEnd _ _ _ _ _ _ _ _ _ _ _ _ | show _ ∧ GrownAll _ _)
  k_with "omega" =>
    first | (kjx_bare; omega (config := {})) | ((fail_if_success (fail_if_success (omega (config := {})))); law_clear; lia)
  k_with "k_mem" =>
    first | assumption | (refine List.mem_cons_of_mem _ ?_; assumption) | (refine List.mem_cons_of_mem _ (List.mem_cons_of_mem _ ?_); assumption) | (refine List.mem_cons_of_mem _ (List.mem_cons_of_mem _ (List.mem_cons_of_mem _ ?_)); assumption)
  k_with "binaryOp RShift int int" =>
    (k_here; (with_reducible refine rshift_int ?_ ?_); omega)
  k_with "binaryOp RShift int int" =>
    (k_here; (with_reducible refine wpAny_rshift1_int ?_ ?_); omega)
  k_with "binaryOp LShift int int" =>
    (k_here; (with_reducible refine lshift_int ?_ (shl_ok ?_ ?_) ?_); omega; (first | with_reducible assumption | decide); omega)
  k_with "binaryOp Mult int int" =>
    (k_here; (with_reducible refine mul_int ?_ (mul_ok (by with_reducible assumption) (by with_reducible assumption))))
  k_with "binaryOp Mult ref int" =>
    (k_here; (with_reducible show wpAny _ _ (binaryOp Operator.Mult (Value.ref _) (Value.int _ _)) _ _ _); k_dflt (refine' zeros_K (by k_asm) (by k_asm) (by k_mem) (by first | assumption | omega) (by first | assumption | omega) ?_; k_whole); intro D9 h93 v9 n9 F' N' hlD hlen9 hI9; (try k_lt hlD))
  k_with "call builtin:sorted" =>
    (k_here; (with_reducible show wpAny _ _ (call (Value.builtin _) [Value.ref _]) _ _ _); (with_unfolding_all refine' kso_sorted (by k_asm) (by k_asm) (by is_list) (by l_ints) (by first | omega | (simp only [List.length_cons, List.length_nil]; omega)) ?_; k_whole); intro D' v' n' c' h' F' N' l1 i' e' p' o' b'; clear b'; (try k_lt l1))
  k_with "call builtin:abs" => (k_here; (with_reducible refine abs_K ?_); intro _ _)
  k_steps
  (rename Below _ _ _ _ => lB); (rename Heap.IsList _ _ _ => lL); (rename CodeHd _ 55 51 => lc1); (rename CodeHd _ 62 58 => lc2)
  (rename IntsAre _ _ => lI); (rename ¬ _ < _ => hlen63)
  refine wh_call _ _ _ _ _ _ _ _ _ _ _ _ _ _ _ _ _ _ _ _ _ 0 lB (by k_asm) (by k_asm) (by k_asm) (by k_asm) rfl lL lI (by omega) ?_ ?_ ?_
  · ktr_room
  · ktr_units
  intro D8 h8 tk8 W S' T' u1 u2 u3 F8 N8 l8 hWS
  obtain ⟨f1, f2, f3, ⟨f4, f5⟩, f6⟩ := wheel_facts hWS
  k_steps
  (rename News _ _ _ _ => nE')
  refine id_call 2 _ _ _ _ _ _ _ _ _ _ _ _ _ _ [] _ _ _ T' W _ _ [(51, tabObj #[])] [(58, tabObj #[])] lB (by k_asm) (by k_asm) (fun p hp => nE' p ?_) (by k_asm) rfl .no .no ?_ ?_ lc1 lc2 (idFuel_le _ _) f1 f4 f2 f5 ?_ ?_ ?_
  · rcases List.mem_cons.mp hp with rfl | hp
    · exact .tail _ (.tail _ (.head _))
    · rcases List.mem_cons.mp hp with rfl | hp
      · exact .tail _ (.head _)
      · exact nomatch hp
  · decide
  · exact fun p hp => nomatch hp
  · ktr_room
  · ktr_units
  intro D9 h9 tk9 v1 v2 ts1 ts2 F9 N9 ht1 ht2 ha1 ha2 hlt9
  k_steps
  (rename News _ _ _ _ => lN); (rename Fr _ _ _ _ => lF)
  refine least_join (W.natAbs : Int) (T'.fmod W) lF lN ?_ ?_
  · k_with "my stop" =>
      refine wpAny_If ?_
    k_steps
    · (rename Fr _ _ _ _ => cF); (rename News _ _ _ _ => cN); (rename _ = (0 : Int) => c0)
      exact ⟨rfl, _, _, _, _, rfl, cF, cN, (if_pos c0).symm⟩
    · (rename _ ≠ (0 : Int) => c0)
      exact ⟨rfl, _, _, _, _, rfl, fr_same lF rfl, lN, (if_neg c0).symm⟩
  clear lF lN
  intro h7 tk7 L0 t0 F7 N7 hL0
  k_with_none
  k_with "guard" =>
    (with_reducible first | show wpAny _ _ (exec (Stmt.While _ _ _ _) _) _ _ _ | show wpAny _ _ (call (Value.ref _) _ _) _ _ _ | show wpAny _ _ (pyIter (Value.ref _)) _ _ _ | show wpAny _ _ (exec (Stmt.If (PySem.Expr.Compare (PySem.Expr.Name (PySem.Str.ofString "least") _) _ _ _) _ _ _) _) _ _ _ | show UnrEnd _ _ _ _ _ _ _ | show KswEnd _ _ _ _ _ _ _ _ _ _ _ _ | show _ ∧ GrownAll _ _)
  k_with "omega" =>
    first | (kjx_bare; omega (config := {})) | ((fail_if_success (fail_if_success (omega (config := {})))); law_clear; lia)
  k_with "k_mem" =>
    first | assumption | (refine List.mem_cons_of_mem _ ?_; assumption) | (refine List.mem_cons_of_mem _ (List.mem_cons_of_mem _ ?_); assumption) | (refine List.mem_cons_of_mem _ (List.mem_cons_of_mem _ (List.mem_cons_of_mem _ ?_)); assumption)
  k_with "binaryOp RShift int int" =>
    (k_here; (with_reducible refine rshift_int ?_ ?_); omega)
  k_with "binaryOp RShift int int" =>
    (k_here; (with_reducible refine wpAny_rshift1_int ?_ ?_); omega)
  k_with "binaryOp LShift int int" =>
    (k_here; (with_reducible refine lshift_int ?_ (shl_ok ?_ ?_) ?_); omega; (first | with_reducible assumption | decide); omega)
  k_with "binaryOp Mult int int" =>
    (k_here; (with_reducible refine mul_int ?_ (mul_ok (by with_reducible assumption) (by with_reducible assumption))))
  k_with "binaryOp Mult ref int" =>
    (k_here; (with_reducible show wpAny _ _ (binaryOp Operator.Mult (Value.ref _) (Value.int _ _)) _ _ _); k_dflt (refine' zeros_K (by k_asm) (by k_asm) (by k_mem) (by first | assumption | omega) (by first | assumption | omega) ?_; k_whole); intro D9 h93 v9 n9 F' N' hlD hlen9 hI9; (try k_lt hlD))
  k_with "call builtin:sorted" =>
    (k_here; (with_reducible show wpAny _ _ (call (Value.builtin _) [Value.ref _]) _ _ _); (with_unfolding_all refine' kso_sorted (by k_asm) (by k_asm) (by is_list) (by l_ints) (by first | omega | (simp only [List.length_cons, List.length_nil]; omega)) ?_; k_whole); intro D' v' n' c' h' F' N' l1 i' e' p' o' b'; clear b'; (try k_lt l1))
  k_with "call builtin:abs" => (k_here; (with_reducible refine abs_K ?_); intro _ _)
  k_steps
  (rename News _ _ _ _ => lN); (rename Fr _ _ _ _ => lF); (rename IsRange _ _ _ _ _ _ _ _ => lR)
  refine name4 lN fun hl gl pl tz e1 e2 e3 e4 => ?_
  subst e1 e2 e3 e4
  (rename gl < hl ∧ _ => lt1); (rename pl < gl ∧ _ => lt2); (rename D9 < pl ∧ _ => lt3)
  have hp0 := wheel_pts f1 S' T'
  have hl0 := wheel_least f1 T' hL0
  clear hL0
  obtain ⟨c0, ec0⟩ : ∃ c0 : LS, c0 = ⟨gl, [], [.int (W.natAbs : Int) tz], [.int (W.natAbs : Int) tz], [], [(W.natAbs : Int)], [(W.natAbs : Int)], 0, 0, 0, L0, t0, ts1, ts2⟩ := ⟨_, rfl⟩
  have lN0 : News _ _ _ (LLed hl pl c0) := fun p hp => lN p (by
    subst ec0
    simp only [LLed, List.mem_cons, List.mem_append, List.append_nil] at hp ⊢
    rcases hp with h | h | h | h | h
    · exact .inl h
    · exact .inr (.inr (.inl h))
    · exact .inr (.inl h)
    · exact .inr (.inr (.inr (.inr (.inl h))))
    · exact .inr (.inr (.inr (.inr (.inr h)))))
  refine iter_rangeUnr (n := 12) rfl lR (by decide) (by decide) lF lN0 fun I hI => ?_
  have hI1 : hl < I := hI _ (.head _)
  have hI2 : pl < I := hI _ (.tail _ (.head _))
  have hI3 : gl < I := by subst ec0; exact hI _ (.tail _ (.tail _ (.head _)))
  have hI4 : ∀ p ∈ ts1 ++ ts2, p.1 < I := fun p hp => hI p (by subst ec0; exact .tail _ (.tail _ (.tail _ hp)))
  have hInv0 : LInv (W.natAbs : Int) T' L0 (fun k => (S' + (k : Int) * T').fmod W) hl pl I 0 c0 := by
    subst ec0
    refine ⟨⟨.nil, .cons _ _ .nil, .cons _ _ .nil⟩, law_init (by omega), ht1, ht2, ⟨by show gl ≠ hl; exact Nat.ne_of_lt lt1.1, by show gl ≠ pl; exact Nat.ne_of_gt lt2.1, Nat.ne_of_lt hI3⟩, fun p hp => ha1 p (by rw [List.append_nil]; exact hp), fun p hp => ?_⟩
    have hp' : p ∈ ts1 ++ (ts2 ++ []) := by rw [List.append_nil]; exact hp
    exact ⟨Nat.ne_of_lt (allLt_mem lt1.2.2.2 p hp'), Nat.ne_of_lt (allLt_mem lt3.2 p hp'), Nat.ne_of_lt (allLt_mem lt2.2.2 p hp'), Nat.ne_of_lt (hI4 p hp)⟩
  clear hI4 hI3 lt2 lt3 lN ht1 ht2 ha1 ha2 hlt9
  (with_unfolding_all refine range_state (σ := LS) (n := 12) (LLed hl pl) LPs LStored (LInv (W.natAbs : Int) T' L0 (fun k => (S' + (k : Int) * T').fmod W) hl pl I) ?_ ?_ ?_ 12 0 rfl c0 _ ?_ (fun _ _ _ => rfl) hInv0)
  · intro c p hp
    simp only [LPs, List.mem_cons, List.mem_nil_iff, or_false] at hp
    rcases hp with rfl | rfl
    · exact (by decide : Str.ofString "gaps" ≠ Str.ofString "k")
    · exact (by decide : Str.ofString "least" ≠ Str.ofString "k")
  rotate_left 2
  · subst ec0
    exact List.forall_mem_cons.mpr ⟨rfl, List.forall_mem_cons.mpr ⟨rfl, List.forall_mem_nil _⟩⟩
  · clear hInv0 ec0 lN0 hI c0
    (try clear lF)
    rintro i t ⟨ag, vp, vg, vh, P, g, h, kp, kg, kh, l, tl, ts1, ts2⟩ u it hh tk hi ⟨⟨hIp, hIg, hIh⟩, hst, hta, htb, ⟨hg1, hg2, hg3⟩, hta', htb'⟩ Fz Nz
    dsimp only [LPs, LLed, LStored, List.map] at *
    obtain ⟨fx1, fx2⟩ := f6 i (by omega) (by omega)
    obtain ⟨zq, zr⟩ := turn_bits f1 fx1 (Nat.le_trans f2 (by decide))
    obtain ⟨e1, e2, e3⟩ := place_ok f1 (S' + (i : Int) * T')
    have zq' := Nat.le_trans zq (by decide : 20000 + 1 ≤ 60000)
    have zr' := Nat.le_trans zr (by decide : 20000 + 1 ≤ 60000)
    have zW' := Nat.le_trans f2 (by decide : 7000 ≤ 60000)
    have zT' := Nat.le_trans f4 (by decide : 20000 ≤ 60000)
    have zi' : Builtin.Int.intBits (i : Int) ≤ 60000 := Nat.le_trans (intBits_le_64 (by omega) (by omega)) (by decide)
    try k_fold
    refine any_post fun Q E => ?_
    k_steps
    (rename News _ _ _ _ => nE')
    refine id_call 2 _ _ _ _ _ _ _ _ _ _ _ _ _ _ [(I, it), (hl, listOf vh.toArray kh), (pl, listOf vp.toArray kp), (ag, listOf vg.toArray kg)] _ _ _ (S' + (i : Int) * T') W _ _ ts1 ts2 lB (by k_asm) (by k_asm) (fun p hp => nE' p (mem5 hp)) (by k_asm) rfl hta htb ?_ ?_ lc1 lc2 (idFuel_le _ _) f1 fx1 f2 fx2 ?_ ?_ ?_
    · intro p hp q hq
      rcases List.mem_append.mp hp with hp | hp
      · exact hta' p hp q hq
      · have := htb' q (List.mem_append_left _ hq)
        exact forall5 (C := fun p => q.1 ≠ p.1) this.2.2.2 this.1 this.2.1 this.2.2.1 p hp
    · intro p hp q hq
      have := htb' q (List.mem_append_right _ hq)
      exact forall5 (C := fun p => q.1 ≠ p.1) this.2.2.2 this.1 this.2.1 this.2.2.1 p hp
    · ktr_room
    · ktr_units
    intro Dq hq tkq uq1 uq2 ts1' ts2' Fq Nq hsa hsb hsa' hsb' hltq
    clear nE' hta htb hta' htb'
    obtain ⟨tsx, etsx⟩ : ∃ tsx, tsx = ts1' ++ ts2' := ⟨_, rfl⟩
    have Nx : News _ _ _ (_ :: (I, it) :: (hl, listOf vh.toArray kh) :: (pl, listOf vp.toArray kp) :: (ag, listOf vg.toArray kg) :: tsx) := fun p hp => Nq p (mem5' (etsx ▸ hp))
    have kx : ∀ q ∈ tsx, ∀ p ∈ [(I, it), (hl, listOf vh.toArray kh), (pl, listOf vp.toArray kp), (ag, listOf vg.toArray kg)], q.1 ≠ p.1 := by
      subst etsx
      intro q hq p hp
      rcases List.mem_append.mp hq with h | h
      · exact hsa' p (List.mem_append_right _ hp) q h
      · exact hsb' p hp q h
    have kxI : ∀ q ∈ tsx, q.1 ≠ I := fun q hq => kx q hq _ (.head _)
    have kxh : ∀ q ∈ tsx, q.1 ≠ hl := fun q hq => kx q hq _ (.tail _ (.head _))
    have kxp : ∀ q ∈ tsx, q.1 ≠ pl := fun q hq => kx q hq _ (.tail _ (.tail _ (.head _)))
    have kxg : ∀ q ∈ tsx, q.1 ≠ ag := fun q hq => kx q hq _ (.tail _ (.tail _ (.tail _ (.head _))))
    have lq : ∀ p ∈ (I, it) :: (hl, listOf vh.toArray kh) :: (pl, listOf vp.toArray kp) :: (ag, listOf vg.toArray kg) :: tsx, p.1 < Dq := fun p hp => hltq p (mem5z (etsx ▸ hp))
    k_lt lq
    clear Nq kx hltq
    have y1 : @Ne Nat ag hl := hg1
    have y2 : @Ne Nat ag pl := hg2
    have y3 : @Ne Nat ag I := hg3
    have y4 : @LT.lt Nat _ pl hl := lt1.2.1
    have y5 : @LT.lt Nat _ hl I := hI1
    have y6 : @LT.lt Nat _ pl I := hI2
    obtain ⟨n0, nh, ⟨n1, n2, n3⟩, -⟩ := id hst
    have n4 := n0.length_eq
    have n5 := hIp.length
    have n6 := hIg.length
    have n7 := hIh.length
    have hgE : ∀ q ∈ tsx, q.1 ≠ hl ∧ q.1 ≠ pl ∧ q.1 ≠ ag ∧ q.1 ≠ I := fun q hq => ⟨kxh q hq, kxp q hq, kxg q hq, kxI q hq⟩
    have hab : ∀ p ∈ ts2', ∀ q ∈ ts1', q.1 ≠ p.1 := fun p hp => hsa' p (List.mem_append_left _ hp)
    clear hsa' hsb'
    rcases Nat.eq_zero_or_pos i with hi0 | hi0
    · have hz : (i : Int) = 0 := by omega
      have hst0 := law_t0 hp0 hl0.1 hl0.2.1 hl0.2.2.1 hl0.2.2.2 (hi0 ▸ hst)
      have hst1 : LawSt (W.natAbs : Int) T' (fun k => (S' + (k : Int) * T').fmod W) L0 (i + 1) (P ++ [(S' + (i : Int) * T').fmod W]) g h l := by
        obtain ⟨e, h0⟩ := hst0
        subst hi0
        rw [e]; exact h0
      clear hst0
      --<1
      k_steps
      all_goals try (exfalso; first | contradiction | omega)
      (rename News _ _ _ _ => nE'); (rename Fr _ _ _ _ => fE')
      simp only [List.push_toArray] at nE'
      subst etsx
      (with_unfolding_all refine rv_end (⟨ag, vp ++ [Value.int ((S' + (i : Int) * T').fmod W) uq2], vg, vh, _, g, h, _, kg, kh, l, tl, ts1', ts2'⟩ : LS) fE' nE' (.tail _ (.head _)) (fun p hp => memT hp) (fun p hp => memN hp hI1 hI2 hg3 kxI) (List.forall_mem_cons.mpr ⟨rfl, List.forall_mem_cons.mpr ⟨rfl, List.forall_mem_nil _⟩⟩) ?_ ⟨⟨IntsAre.append hIp (.cons _ _ .nil), hIg, hIh⟩, hst1, hsa, hsb, ⟨hg1, hg2, hg3⟩, hab, hgE⟩)
      intro z h2 h3
      simp [LPs] at h2 h3
      simp [kstB, h2, h3]
      --1>
    clear hl0
    have hz : (i : Int) ≠ 0 := by omega
    by_cases he : h.getD 0 0 = l
    · obtain ⟨q1, q2, hst2⟩ := law_t1 hp0 hi0 hst he
      have he' : h.getD (Int.toNat 0) 0 = l := he
      have q2' : (S' + (i : Int) * T').fmod W = P.getD ((i : Int).fmod (P.length : Int)).toNat 0 := by
        have : ((i : Int).fmod (P.length : Int)).toNat = i % P.length := by
          rw [Int.fmod_eq_emod_of_nonneg _ (by omega)]; omega
        rw [this]; exact q2
      --<2
      k_steps
      all_goals try (exfalso; first | contradiction | omega)
      (rename News _ _ _ _ => nE'); (rename Fr _ _ _ _ => fE')
      subst etsx
      (with_unfolding_all refine rv_end (⟨ag, vp, vg, vh, P, g, h, kp, kg, kh, l, tl, ts1', ts2'⟩ : LS) fE' nE' (.tail _ (.head _)) (fun p hp => memT hp) (fun p hp => memN hp hI1 hI2 hg3 kxI) (List.forall_mem_cons.mpr ⟨rfl, List.forall_mem_cons.mpr ⟨rfl, List.forall_mem_nil _⟩⟩) ?_ ⟨⟨hIp, hIg, hIh⟩, hst2, hsa, hsb, ⟨hg1, hg2, hg3⟩, hab, hgE⟩)
      intro z h2 h3
      simp [LPs] at h2 h3
      simp [kstB, h2, h3]
      --2>
    · have he' : h.getD (Int.toNat 0) 0 ≠ l := he
      --<3
      k_steps
      all_goals try (exfalso; first | contradiction | omega)
      (rename News _ _ _ _ => nE')
      simp only [List.push_toArray] at nE'
      refine gp_call _ _ _ _ _ _ _ _ _ _ _ _ _ _ ((I, it) :: (hl, listOf vh.toArray kh) :: (ag, listOf vg.toArray kg) :: tsx) _ _ _ pl (vp ++ [Value.int ((S' + (i : Int) * T').fmod W) uq2]) (P ++ [(S' + (i : Int) * T').fmod W]) _ _ _ lB (by k_asm) (by k_asm) (fun p hp => nE' p (memA hp)) (by k_asm) rfl ?_ (IntsAre.append hIp (.cons _ _ .nil)) ?_ ?_ ?_ ?_ ?_
      · exact forall4t (Nat.ne_of_gt hI2) (Nat.ne_of_gt y4) hg2 kxp
      · rw [List.length_append, List.length_singleton]; omega
      · rw [List.length_append, List.length_singleton]; omega
      · ktr_room
      · ktr_units
      intro Dn hn tkn wn row Fn Nn hlt8 hlt9 hIw hrow hsorted
      clear nE'
      obtain ⟨r1, r2, hst3⟩ := law_t2 hp0 hi0 hst he hrow hsorted
      k_lt hlt9
      have y7 : @LT.lt Nat _ pl Dn := hlt8
      have n9 : row.length = P.length + 1 := by rw [hrow.length_eq, List.length_append, List.length_singleton]
      have n10 := gapsOf_length row (W.natAbs : Int) (by omega)
      have n8 : wn.length = P.length + 1 := by rw [hIw.length]; omega
      k_steps
      rename_i A1 c1 _ lA1 A2 c2 _ fE' nE' lA2
      refine ul_call _ _ _ _ _ _ _ _ _ _ ((Dn, listOf wn.toArray 0) :: (pl, listOf (vp ++ [Value.int ((S' + (i : Int) * T').fmod W) uq2]).toArray (kp + 1)) :: (I, it) :: (hl, listOf vh.toArray kh) :: (ag, listOf vg.toArray kg) :: tsx) _ _ _ A1 A2 vg wn g (gapsOf row (W.natAbs : Int)) c1 c2 (by k_asm) (by k_asm) (fun p hp => nE' p (memB hp)) (by k_asm) rfl (by decide +kernel) (by decide +kernel) (by decide +kernel) (by decide +kernel) (Nat.ne_of_lt lA2.1) (fun p hp => Nat.ne_of_lt (lt5 lA1 p hp)) (fun p hp => Nat.ne_of_lt (lt5 lA2.2 p hp)) hIg hIw (by omega) (by omega) ?_ ?_ ?_
      · ktr_room
      · ktr_units
      intro rt ms hu tku vm va km ka Fu Nu lms1 lms2 lms3 hIm hIa
      clear fE' nE'
      rw [r1] at hIm
      have n11 : va.length = 2 := by rw [hIa.length, r2.length_eq]; rfl
      k_lt lms3
      have y8 : @LT.lt Nat _ A2 ms := lms2
      have y9 : @LT.lt Nat _ ms rt := lms1
      k_steps
      rotate_left
      · (rename ¬ @Eq (List Int) _ _ => hne)
        exact absurd (sorted_uniq (by assumption) (by assumption) (by assumption) (by assumption)) hne
      · (rename ¬ @Eq (List Int) _ _ => hne)
        exact absurd rfl hne
      (rename News _ _ _ _ => nE')
      obtain ⟨s1, s2⟩ := replaced_heap nh n1 (h.getD 0 0 - l)
      have n12 : (sifted (h.set 0 (h.getD 0 0 - l))).length = h.length := by rw [s2.length_eq, List.length_set]
      refine hr_call _ _ _ _ _ _ _ _ _ _ _ _ _ _ ((ms, listOf vm.toArray km) :: (Dn, listOf wn.toArray 0) :: (pl, listOf (vp ++ [Value.int ((S' + (i : Int) * T').fmod W) uq2]).toArray (kp + 1)) :: (I, it) :: tsx) _ _ _ hl vh h kh (h.getD 0 0 - l) _ lB (by k_asm) (by k_asm) (fun p hp => nE' p (memC hp)) (by k_asm) rfl (forall4h (Nat.ne_of_gt lms3.2.2.2.1) (Nat.ne_of_gt hlt9.2.1) (Nat.ne_of_lt y4) (Nat.ne_of_gt y5) kxh) hIh n1 (by omega) ?_ ?_ ?_
      · ktr_room
      · ktr_units
      clear nE'
      intro h6 tk6 vf tf F6 N6 hIf
      generalize sifted (h.set 0 (h.getD 0 0 - l)) = sf at *
      have n13 := hIf.length
      k_steps
      (rename News _ _ _ _ => nE')
      refine sd_call _ _ _ _ _ _ _ _ _ _ _ _ _ _ ((Dn, listOf wn.toArray 0) :: (pl, listOf (vp ++ [Value.int ((S' + (i : Int) * T').fmod W) uq2]).toArray (kp + 1)) :: (I, it) :: tsx) _ _ _ hl (vf ++ [Value.int l tl]) (sf ++ [l]) (kh + 1) _ _ _ lB (by k_asm) (by k_asm) (fun p hp => nE' p (memD hp)) (by k_asm) rfl (forall4t (Nat.ne_of_gt hlt9.2.1) (Nat.ne_of_lt y4) (Nat.ne_of_gt y5) kxh) (IntsAre.append hIf (.cons _ _ .nil)) ?_ ?_ ?_ ?_ ?_ ?_
      · (try simp only [List.length_append, List.length_singleton]); omega
      · (try simp only [List.length_append, List.length_singleton]); omega
      · (try simp only [List.length_append, List.length_singleton]); omega
      · ktr_room
      · ktr_units
      clear nE'
      intro h5 tk5 vd F5 N5 hId
      have hId' := sd_cast hId (by (try simp only [List.length_append, List.length_singleton]); omega)
      clear hId
      k_steps
      (rename News _ _ _ _ => nE'); (rename Fr _ _ _ _ => fE')
      have hst4 : LawSt (W.natAbs : Int) T' (fun k => (S' + (k : Int) * T').fmod W) L0 (i + 1) (P ++ [(S' + (i : Int) * T').fmod W]) (gapsOf row (W.natAbs : Int)) (sdown l (sf ++ [l]) sf.length) (if h.getD (Int.toNat 0) 0 - l < l then h.getD (Int.toNat 0) 0 - l else l) := by rw [min_if]; exact hst3
      have kxD : ∀ q ∈ tsx, q.1 ≠ Dn := fun q hq => Nat.ne_of_lt (allLt_mem hlt9.2.2.2 q hq)
      subst etsx
      (with_unfolding_all refine rv_end (⟨Dn, vp ++ [Value.int ((S' + (i : Int) * T').fmod W) uq2], wn, vd, P ++ [(S' + (i : Int) * T').fmod W], gapsOf row (W.natAbs : Int), sdown l (sf ++ [l]) sf.length, kp + 1, 0, kh + 1, (if h.getD (Int.toNat 0) 0 - l < l then h.getD (Int.toNat 0) 0 - l else l), _, ts1', ts2'⟩ : LS) fE' nE' (.tail _ (.tail _ (.tail _ (.head _)))) (fun p hp => memE hp) (fun p hp => memN hp hI1 hI2 (Nat.ne_of_gt hlt9.1) kxI) (List.forall_mem_cons.mpr ⟨rfl, List.forall_mem_cons.mpr ⟨rfl, List.forall_mem_nil _⟩⟩) ?_ ⟨⟨IntsAre.append hIp (.cons _ _ .nil), hIw, hId'⟩, hst4, hsa, hsb, ⟨Nat.ne_of_gt hlt9.2.1, Nat.ne_of_gt hlt8, Nat.ne_of_gt hlt9.1⟩, hab, fun q hq => ⟨kxh q hq, kxp q hq, kxD q hq, kxI q hq⟩⟩)
      intro z h2 h3
      simp [LPs] at h2 h3
      simp [kstB, h2, h3]
      --3>
  · clear hInv0 ec0 lN0 hI c0
    (try clear lF)
    rintro ⟨ag, vp, vg, vh, P, g, h, kp, kg, kh, l, tl, ts1, ts2⟩ u hh tk ⟨⟨hIp, hIg, hIh⟩, hst, hta, htb, ⟨hg1, hg2, hg3⟩, hta', htb'⟩ Fz Nz
    dsimp only [LPs, LLed, LStored, List.map] at *
    obtain ⟨n0, -, ⟨n1, n2, n3⟩, -⟩ := id hst
    have n4 := n0.length_eq
    have y4 : @LT.lt Nat _ pl hl := lt1.2.1
    try k_fold
    k_steps
    (rename News _ _ _ _ => nE')
    refine ul_call _ _ _ _ _ _ _ _ _ _ ((pl, listOf vp.toArray kp) :: (ts1 ++ ts2)) _ _ _ hl ag vh vg h g kh kg (by k_asm) (by k_asm) (fun p hp => nE' p (memF hp)) (by k_asm) rfl (by decide +kernel) (by decide +kernel) (by decide +kernel) (by decide +kernel) (fun e => hg1 e.symm) (List.forall_mem_cons.mpr ⟨Nat.ne_of_lt y4, fun p hp => (htb' p hp).1⟩) (List.forall_mem_cons.mpr ⟨fun e => hg2 e.symm, fun p hp => (htb' p hp).2.2.1⟩) hIh hIg (by omega) (by omega) ?_ ?_ ?_
    · ktr_room
    · ktr_units
    intro rt ms hu tku vm va km ka Fu Nu lms1 lms2 lms3 hIm hIa
    rw [uld_same n0] at hIm hIa
    cases hIm
    cases hIa
    clear nE'
    have y8 : @LT.lt Nat _ ag ms := lms2
    have y9 : @LT.lt Nat _ ms rt := lms1
    k_lt lms3
    k_steps
    (rename News _ _ _ _ => nE')
    refine ⟨?_, tab_grown htb nE' (fun p hp => mem7 (List.mem_append_right _ hp)), tab_grown hta nE' (fun p hp => mem7 (List.mem_append_left _ hp)), True.intro⟩
    k_end
    wrow_close)

end Mine
theorem PySem.Challenge.cw_op0095_01_holds : PySem.Challenge.rw_op0095_01.Holds :=
  Mine.law_holds
