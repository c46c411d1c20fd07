import PyProof.Rows.All
import Wide.All
import OpenK.AllK
import Wide.FinOn
import PySem.Challenge.RW_ia0011_01
open PySem PySem.W PyProof.Rows
set_option Elab.async false
set_option maxRecDepth 100000
set_option maxHeartbeats 8000000
set_option linter.unusedVariables false
set_option linter.unusedSimpArgs false
namespace Mine

open_top hd for PySem.Challenge.rw_ia0011_01

abbrev Led := List (Addr × Obj)
abbrev tupObj (vs : List Value) : Obj := { cls := .type "tuple", data := .seq vs.toArray }

theorem bits_le {a : Int} {k : Nat} (h0 : 0 ≤ a) (h : a < 2 ^ k) : ((Builtin.Int.intBits a : Nat) : Int) ≤ k := by
  have := (intBits_le_iff (m := k) (x := a)).mpr (by
    have e : ((a.natAbs : Nat) : Int) = a := Int.natAbs_of_nonneg h0
    have h2 : ((a.natAbs : Nat) : Int) < ((2 ^ k : Nat) : Int) := by rw [e, Int.natCast_pow]; exact h
    exact Int.ofNat_lt.mp h2)
  omega
theorem fdiv_pos {a b : Int} (hb : 0 < b) : a.fdiv b = a / b := Int.fdiv_eq_ediv_of_nonneg a (Int.le_of_lt hb)
theorem fmod_pos {a b : Int} (hb : 0 < b) : a.fmod b = a % b := Int.fmod_eq_emod_of_nonneg a (Int.le_of_lt hb)
theorem pow_pos2 (k : Nat) : (0 : Int) < 2 ^ k := Int.pow_pos (by decide)
theorem nat_and_hi (x k : Nat) : x &&& (x / 2 ^ k * 2 ^ k) = x / 2 ^ k * 2 ^ k := by
  rw [← Nat.shiftRight_eq_div_pow, ← Nat.shiftLeft_eq]
  apply Nat.eq_of_testBit_eq
  intro i
  rw [Nat.testBit_and, Nat.testBit_shiftLeft, Nat.testBit_shiftRight]
  by_cases h : k ≤ i
  · rw [show k + (i - k) = i by omega]; simp [h]
  · simp [h]
theorem nat_or_hi (x k : Nat) : x ||| (x / 2 ^ k * 2 ^ k) = x := by
  rw [← Nat.shiftRight_eq_div_pow, ← Nat.shiftLeft_eq]
  apply Nat.eq_of_testBit_eq
  intro i
  rw [Nat.testBit_or, Nat.testBit_shiftLeft, Nat.testBit_shiftRight]
  by_cases h : k ≤ i
  · rw [show k + (i - k) = i by omega]; simp
  · simp [h]
theorem bitAnd_nat (a b : Nat) : Builtin.bitAnd (a : Int) (b : Int) = ((a &&& b : Nat) : Int) := by
  unfold Builtin.bitAnd
  have h1 : decide ((0 : Int) ≤ (a : Int)) = true := decide_eq_true (Int.natCast_nonneg a)
  have h2 : decide ((0 : Int) ≤ (b : Int)) = true := decide_eq_true (Int.natCast_nonneg b)
  rw [h1, h2]
  simp
theorem bitOr_nat (a b : Nat) : Builtin.bitOr (a : Int) (b : Int) = ((a ||| b : Nat) : Int) := by
  unfold Builtin.bitOr Builtin.bitAnd
  have h1 : decide ((0 : Int) ≤ Builtin.bitNot (a : Int)) = false := decide_eq_false (by unfold Builtin.bitNot; omega)
  have h2 : decide ((0 : Int) ≤ Builtin.bitNot (b : Int)) = false := decide_eq_false (by unfold Builtin.bitNot; omega)
  rw [h1, h2]
  have e : ∀ c : Int, Builtin.bitNot (Builtin.bitNot c) = c := fun c => by unfold Builtin.bitNot; omega
  simp only [e]
  simp
theorem low_facts {x : Int} (hx : 0 ≤ x) (k : Nat) : Builtin.bitXor x (x.fdiv (2 ^ k) * 2 ^ k) = x.fmod (2 ^ k) ∧ 0 ≤ x.fmod (2 ^ k) ∧ x.fmod (2 ^ k) ≤ x := by
  rw [fdiv_pos (pow_pos2 k), fmod_pos (pow_pos2 k)]
  obtain ⟨a, rfl⟩ := Int.eq_ofNat_of_zero_le hx
  have e1 : ((a : Int) / 2 ^ k * 2 ^ k) = ((a / 2 ^ k * 2 ^ k : Nat) : Int) := by simp
  have e2 : ((a : Int) % 2 ^ k) = ((a % 2 ^ k : Nat) : Int) := by simp
  rw [e1, e2]
  refine ⟨?_, Int.natCast_nonneg _, by have := Nat.mod_le a (2 ^ k); omega⟩
  unfold Builtin.bitXor
  rw [bitOr_nat, bitAnd_nat, nat_or_hi, nat_and_hi]
  have := Nat.div_add_mod a (2 ^ k)
  rw [Nat.mul_comm] at this
  omega

theorem two1 : (2 : Int) ^ Int.toNat 1 = 2 := by decide
theorem mid_facts {lo hi n : Int} (h1 : 0 ≤ lo) (h2 : lo + 1 < hi) (h3 : hi ≤ 60) (hn : 0 < n) (hn' : n < 60) :
    lo < (lo + hi).fdiv (2 ^ Int.toNat 1) ∧ (lo + hi).fdiv (2 ^ Int.toNat 1) < hi ∧ 0 ≤ ((lo + hi).fdiv (2 ^ Int.toNat 1) - lo) * n ∧ ((lo + hi).fdiv (2 ^ Int.toNat 1) - lo) * n ≤ 3600 := by
  rw [two1, fdiv_pos (by omega)]
  have a1 : lo < (lo + hi) / 2 := by omega
  have a2 : (lo + hi) / 2 < hi := by omega
  refine ⟨a1, a2, Int.mul_nonneg (by omega) (by omega), ?_⟩
  have : ((lo + hi) / 2 - lo) * n ≤ 60 * 60 := Int.mul_le_mul (by omega) (by omega) (by omega) (by omega)
  omega
theorem up_facts {x : Int} (hx : 0 ≤ x) (k : Nat) : 0 ≤ x.fdiv (2 ^ k) ∧ x.fdiv (2 ^ k) ≤ x := by
  rw [fdiv_pos (pow_pos2 k)]
  exact ⟨Int.ediv_nonneg hx (Int.le_of_lt (pow_pos2 k)), Int.ediv_le_self _ hx⟩

def nestEx (b : List Stmt) : Arguments × List Stmt × Scope := match b with
  | _ :: .FunctionDef _ a b _ _ _ sc _ _ _ :: _ => (a, b, sc)
  | .FunctionDef _ a b _ _ _ sc _ _ _ :: _ => (a, b, sc)
  | _ => (default, [], default)
def bodyEx (k : Nat) : List Stmt := match PySem.Challenge.pw_ia0011_01.main.body.drop k with
  | .FunctionDef _ _ b _ _ _ _ _ _ _ :: _ => b
  | _ => []

theorem UpdF.mem {d : Addr} {o o' : Obj} {q : Addr × Obj} : ∀ {l : Led} {g : Obj → Led}, UpdF d o l g → q ∈ l → q.1 ≠ d → q ∈ g o'
  | _, _, .head _, hq, hne => by
    rcases List.mem_cons.mp hq with rfl | hq
    · exact absurd rfl hne
    · exact .tail _ hq
  | _, _, .tail _ r, hq, hne => by
    rcases List.mem_cons.mp hq with rfl | hq
    · exact .head _
    · exact .tail _ (UpdF.mem r hq hne)
theorem UpdF.again {d : Addr} {o o' : Obj} : ∀ {l : Led} {g : Obj → Led}, UpdF d o l g → UpdF d o' (g o') g
  | _, _, .head h => .head h
  | _, _, .tail h r => .tail h (UpdF.again r)
theorem UpdF.upd {d : Addr} {o o' : Obj} : ∀ {l : Led} {g : Obj → Led}, UpdF d o l g → Upd d o o' l (g o')
  | _, _, .head h => .head h
  | _, _, .tail h r => .tail h (UpdF.upd r)


theorem allLt_up {d e : Nat} (h : d ≤ e) : ∀ {l : Led}, AllLt d l → AllLt e l
  | [], _ => trivial
  | _ :: _, x => ⟨Nat.lt_of_lt_of_le x.1 h, allLt_up h x.2⟩
theorem flat_rep (k : Nat) (v : Value) : (List.replicate k [v]).flatten = List.replicate k v := by
  induction k with
  | zero => rfl
  | succ n ih => rw [List.replicate_succ, List.flatten_cons, ih]; rfl
/-- a mark: the walk stops here -/
def Hold (P : Prop) : Prop := P
theorem Hold.of {P : Prop} (h : Hold P) : P := h

local macro_rules | `(tactic| k_room) => `(tactic| ((try simp only [depth_under_make, depth_under_kw, depth_in1, depth_deeper, depth_caller]); omega))
local macro_rules | `(tactic| k_units) => `(tactic| ktr_units)
local macro_rules | `(tactic| k_all) => `(tactic| with_reducible assumption)
local macro_rules | `(tactic| walk_at "ite") => `(tactic| (k_openite; first | (refine ite_pos (by (try simp only [beq_iff_eq, bne_iff_ne, ne_eq, decide_eq_true_eq, Bool.not_eq_true', decide_eq_false_iff_not]); omega) ?_; walk_say "PRUNED mine") | (refine ite_neg (by (try simp only [beq_iff_eq, bne_iff_ne, ne_eq, decide_eq_true_eq, Bool.not_eq_true', decide_eq_false_iff_not]); omega) ?_; walk_say "PRUNED mine")))
local macro_rules | `(tactic| walk_at "binaryOp RShift int int") => `(tactic| (refine rshift_int (by omega) ?_))
local macro_rules | `(tactic| walk_at "binaryOp LShift int int") => `(tactic| (refine lshift_int_small (by omega) (by omega) (by omega) ?_))

section
theorem off1 : True := by w_top off; trivial
section
variable {w : World} {p : Program} {loose : List Str} {mean : ExcName → Option Value} {mg mb : Str → Option Value} {dp un : Nat} {gd : Option (List Code)} {cn : Str} {cs : Scope} {a0 : Addr} {ccd : Value} {cl : List (Str × Addr)} {outer : List Env} {A₀ : Around} {base h₀ : Heap} {L : Addr} {m : Str → Option Value} {news : Led} {s : Shared} {Q E : Value → Shared → Prop}
theorem div2n1n_c {a b n : Int} {ta tb tn : Tok} (B : Below A₀ base outer h₀) (F : Fr h₀ L s.heap m) (X : (hd.heap_39 w.params).In h₀) (N : News h₀ L s.heap news) (T : Top p loose mean mg mb h₀) (hk : cs.kind = .function)
    (ha : 0 ≤ a) (ha' : a < 2 ^ 60) (hb : 0 < b) (hb' : b < 2 ^ 20) (hn : 0 ≤ n) (hd : dp + 4 < recursionLimit) (hu : un + 100 < cLine)
    (hret : ∀ t tq tr h' tk', Fr h₀ L h' m → News h₀ L h' ((t, tupObj [.int (a / b) tq, .int (a % b) tr]) :: news) → (∀ p ∈ news, p.1 < t) → Q (.ref t) { s with heap := h', toks := tk' }) :
    wpAny (model PySem.Challenge.rw_ia0011_01.row.prog w) (ktrTop dp un gd cn cs L a0 ccd cl outer) (call (.ref 21) [.int a ta, .int b tb, .int n tn]) Q E s := by
  have hbits := bits_le ha ha'
  refine wpAny_call ?_
  k_dflt ktr_enter
  k_steps
  rename_i kF kN _ _
  rw [fdiv_pos hb, fmod_pos hb] at kN
  exact hret _ _ _ _ _ kF kN (fun p hp => Heap.lt_size ((by assumption : News _ _ _ news) p hp).1)
end
end

section
theorem off2 : True := by w_top off; trivial
/-- what inner writes -/
def dig1 (n : Int) : Nat → Int → Int → Int → List Int → List Int
  | 0, _, _, _, ds => ds
  | k + 1, x, lo, hi, ds =>
    if lo + 1 = hi then ds.set lo.toNat x
    else
      let mid := (lo + hi).fdiv 2
      let sh := (mid - lo) * n
      dig1 n k (x.fdiv (2 ^ sh.toNat)) mid hi (dig1 n k (x.fmod (2 ^ sh.toNat)) lo mid ds)

def In1 (w : World) (fo oc oi oa on : Obj) (f c' l ai aa an : Addr) (n : Int) (sz : Nat) : Prop :=
  ∀ (p : Program) (loose : List Str) (mean : ExcName → Option Value) (mg mb : Str → Option Value) (dp un : Nat) (gd : Option (List Code)) (cn : Str) (cs : Scope) (a0 : Addr) (ccd : Value) (cl : List (Str × Addr)) (outer : List Env) (A₀ : Around) (base h₀ : Heap) (L : Addr) (m : Str → Option Value) (news : Led) (s : Shared)
    (Q E : Value → Shared → Prop) (x lo hi : Int) (tx tl th : Tok) (vs : List Value) (ds : List Int) (k : Nat) (g : Obj → Led),
    Below A₀ base outer h₀ → Fr h₀ L s.heap m → (hd.heap_39 w.params).In h₀ → News h₀ L s.heap news → Top p loose mean mg mb h₀ → CodeHd base 34 30 → cs.kind = .function →
    (f, fo) ∈ news → (c', oc) ∈ news → (ai, oi) ∈ news → (aa, oa) ∈ news → (an, on) ∈ news → UpdF l (listOf vs.toArray k) news g → IntsAre vs ds →
    0 ≤ lo → lo < hi → hi ≤ ds.length → hi - lo ≤ sz → ds.length ≤ 60 → 0 ≤ x → x < 2 ^ 60 → dp + sz + 2 < recursionLimit → un + 10 * sz + 100 < cLine →
    (∀ h' tk' vs', Fr h₀ L h' m → News h₀ L h' (g (listOf vs'.toArray k)) → IntsAre vs' (dig1 n sz x lo hi ds) → Q .none { s with heap := h', toks := tk' }) →
    wpAny (model PySem.Challenge.rw_ia0011_01.row.prog w) (ktrTop dp un gd cn cs L a0 ccd cl outer) (call (.ref f) [.int x tx, .int lo tl, .int hi th]) Q E s


theorem In1.use {w : World} {fo oc oi oa on : Obj} {f c' l ai aa an : Addr} {n : Int} {sz : Nat} {p : Program} {loose : List Str} {mean : ExcName → Option Value} {mg mb : Str → Option Value} {dp un : Nat} {gd : Option (List Code)} {cn : Str} {cs : Scope} {a0 : Addr} {ccd : Value} {cl : List (Str × Addr)} {outer : List Env} {A₀ : Around} {base h₀ : Heap} {L : Addr} {m : Str → Option Value} {news : Led} {s : Shared}
    {Q E : Value → Shared → Prop} {x lo hi : Int} {tx tl th : Tok} {vs : List Value} {ds : List Int} {k : Nat} {g : Obj → Led} (H : In1 w fo oc oi oa on f c' l ai aa an n sz)
    (B : Below A₀ base outer h₀) (F : Fr h₀ L s.heap m) (X : (hd.heap_39 w.params).In h₀) (N : News h₀ L s.heap news) (T : Top p loose mean mg mb h₀) (c2 : CodeHd base 34 30) (hk : cs.kind = .function)
    (mf : (f, fo) ∈ news) (mc : (c', oc) ∈ news) (mi : (ai, oi) ∈ news) (ma : (aa, oa) ∈ news) (mn : (an, on) ∈ news) (U : UpdF l (listOf vs.toArray k) news g) (hI : IntsAre vs ds)
    (h1 : 0 ≤ lo) (h2 : lo < hi) (h3 : hi ≤ ds.length) (h4 : hi - lo ≤ sz) (h5 : ds.length ≤ 60) (h6 : 0 ≤ x) (h7 : x < 2 ^ 60) (h8 : dp + sz + 2 < recursionLimit) (h9 : un + 10 * sz + 100 < cLine)
    (hret : ∀ h' tk' vs', Fr h₀ L h' m → News h₀ L h' (g (listOf vs'.toArray k)) → IntsAre vs' (dig1 n sz x lo hi ds) → Q .none { s with heap := h', toks := tk' }) :
    wpAny (model PySem.Challenge.rw_ia0011_01.row.prog w) (ktrTop dp un gd cn cs L a0 ccd cl outer) (call (.ref f) [.int x tx, .int lo tl, .int hi th]) Q E s :=
  H p loose mean mg mb dp un gd cn cs a0 ccd cl outer A₀ base h₀ L m news s Q E x lo hi tx tl th vs ds k g B F X N T c2 hk mf mc mi ma mn U hI h1 h2 h3 h4 h5 h6 h7 h8 h9 hret
theorem dig1_len {n : Int} : ∀ {k : Nat} {x lo hi : Int} {ds : List Int}, (dig1 n k x lo hi ds).length = ds.length
  | 0, _, _, _, _ => rfl
  | k + 1, x, lo, hi, ds => by
    unfold dig1
    split
    · exact List.length_set ..
    · dsimp only
      rw [dig1_len, dig1_len]

local macro_rules | `(tactic| walk_at "call ref") => `(tactic| ((with_reducible show wpAny _ _ (call (Value.ref _) [Value.int _ _, Value.int _ _, Value.int _ _]) _ _ _); refine Hold.of ?_))
local macro_rules | `(tactic| walk_at "setItem ref int") => `(tactic| (k_dflt (refine' ksa_set ?k1 ?k2 (UpdF.upd (by assumption)) (by assumption) ?k5 ?k6 ?k7 ?_; (case k1 => k_asm); (case k2 => k_asm); (case k5 => omega); (case k6 => omega); (case k7 => omega); k_whole); intro h' F' N' hi' hl' hs'; (try k_sweep)))
theorem in1_step {w : World} {ps : Arguments} {bd : List Stmt} {sc : Scope} {qual : Str} {doc pm ctv : Value} {oc oi oa on : Obj} {f c' l ai aa an : Addr} {n : Int} {tn tq : Tok} {vsc : Array Value}
    (h0 : (ps, bd, sc) = nestEx (bodyEx 4)) (hn : 0 < n) (hn' : n < 60)
    (di : oi.data = .cell (some (.ref f))) (da : oa.data = .cell (some (.ref l))) (dn : on.data = .cell (some (.int n tn))) (dc : oc.data = .fields vsc) (vc : vsc[1]? = some (.str qual tq))
    (n1 : f ≠ l) (n2 : c' ≠ l) (n3 : ai ≠ l) (n4 : aa ≠ l) (n5 : an ≠ l) (sz : Nat)
    (IH : ∀ sz', sz' < sz → In1 w (fnMade (PySem.Str.ofString "inner") qual ps bd sc [(PySem.Str.ofString "n", an), (PySem.Str.ofString "inner", ai), (PySem.Str.ofString "a_digits", aa)] doc pm c' ctv) oc oi oa on f c' l ai aa an n sz') :
    In1 w (fnMade (PySem.Str.ofString "inner") qual ps bd sc [(PySem.Str.ofString "n", an), (PySem.Str.ofString "inner", ai), (PySem.Str.ofString "a_digits", aa)] doc pm c' ctv) oc oi oa on f c' l ai aa an n sz := by
  dsimp only [bodyEx, PySem.Challenge.pw_ia0011_01, List.drop, nestEx] at h0
  cases h0
  intro p loose mean mg mb dp un gd cn cs a0 ccd cl outer A₀ base h₀ L m news s Q E x lo hi tx tl th vs ds k g B F X N T c2 hk mf mc mi ma mn U hI h1 h2 h3 h4 h5 hx hx' hd hu hret
  have hsd := IntsAre.length hI
  refine wpAny_call ?_
  k_dflt (refine' code_nest ?k1 ?k2 ?k3 ?k4 ?k5 ?kA ?kF ?kK ?k6 ?k7 ?k8 ?k9 ?kB ?_ ?c2 ?c3 ?c4 ?c5; (case kA => exact rfl); (case kF => exact rfl); (case kK => assumption); (case k1 => k_asm); (case k2 => k_asm); (case k3 => k_asm); (case k4 => k_asm); (case k5 => k_asm); (case k6 => k_mem); (case k7 => exact codeRec_news (by k_asm) (by k_mem) (by assumption) (by assumption)); (case k8 => k_room); (case k9 => exact BindsTo.of_eq rfl); (case c5 => decide); (case kB => exact locs rfl); (case c2 => exact rfl); (case c3 => exact rfl); (case c4 => exact rfl); k_whole; intro g' L' h' FG' F' N' B' X' T'; (try dsimp only); (try k_lift B'); (try k_fold))
  cases sz with
  | zero => omega
  | succ sz =>
  by_cases hc : lo + 1 = hi
  · k_steps
    rename_i I1 _ _ kF kN _ _
    refine hret _ _ _ kF kN ?_
    rw [dig1, if_pos hc]
    exact I1
  · obtain ⟨f1, f2, f3, f4⟩ := mid_facts (n := n) (hi := hi) h1 (by omega) (by omega) hn hn'
    have f5 := up_facts hx (((lo + hi).fdiv (2 ^ Int.toNat 1) - lo) * n).toNat
    have f6 := low_facts hx (((lo + hi).fdiv (2 ^ Int.toNat 1) - lo) * n).toNat
    k_steps
    rename_i F1 N1
    unfold Hold
    rw [f6.1]
    refine In1.use (IH sz (Nat.lt_succ_self sz)) B' F1 X' N1 T' c2 rfl mf mc mi ma mn U hI h1 f1 (by omega) (by omega) h5 f6.2.1 (by omega) (by show dp + 1 + sz + 2 < _; omega) (by show un + 3 + 10 * sz + 100 < _; omega) (fun g1 tk1 vs1 F2 N2 I2 => ?_)
    clear F1 N1
    replace mf := UpdF.mem (o' := listOf vs1.toArray k) U mf n1
    replace mc := UpdF.mem (o' := listOf vs1.toArray k) U mc n2
    replace mi := UpdF.mem (o' := listOf vs1.toArray k) U mi n3
    replace ma := UpdF.mem (o' := listOf vs1.toArray k) U ma n4
    replace mn := UpdF.mem (o' := listOf vs1.toArray k) U mn n5
    replace U := UpdF.again (o' := listOf vs1.toArray k) U
    have hl1 := dig1_len (n := n) (k := sz) (x := x.fmod (2 ^ (((lo + hi).fdiv (2 ^ Int.toNat 1) - lo) * n).toNat)) (lo := lo) (hi := (lo + hi).fdiv (2 ^ Int.toNat 1)) (ds := ds)
    k_steps
    rename_i F1 N1
    unfold Hold
    refine In1.use (IH sz (Nat.lt_succ_self sz)) B' F2 X' N2 T' c2 rfl mf mc mi ma mn U I2 (by omega) f2 (by omega) (by omega) (by omega) f5.1 (by omega) (by show dp + 1 + sz + 2 < _; omega) (by show un + 3 + 10 * sz + 100 < _; omega) (fun g2 tk2 vs2 F3 N3 I3 => ?_)
    clear F2 N2
    k_steps
    rename_i kF kN _ _
    refine hret _ _ _ kF kN ?_
    rw [dig1, if_neg hc]
    simp only [two1] at I3
    exact I3
end

section
theorem off3 : True := by w_top off; trivial
theorem in1_all {w : World} {ps : Arguments} {bd : List Stmt} {sc : Scope} {qual : Str} {doc pm ctv : Value} {oc oi oa on : Obj} {f c' l ai aa an : Addr} {n : Int} {tn tq : Tok} {vsc : Array Value}
    (h0 : (ps, bd, sc) = nestEx (bodyEx 4)) (hn : 0 < n) (hn' : n < 60)
    (di : oi.data = .cell (some (.ref f))) (da : oa.data = .cell (some (.ref l))) (dn : on.data = .cell (some (.int n tn))) (dc : oc.data = .fields vsc) (vc : vsc[1]? = some (.str qual tq))
    (n1 : f ≠ l) (n2 : c' ≠ l) (n3 : ai ≠ l) (n4 : aa ≠ l) (n5 : an ≠ l) (sz : Nat) :
    In1 w (fnMade (PySem.Str.ofString "inner") qual ps bd sc [(PySem.Str.ofString "n", an), (PySem.Str.ofString "inner", ai), (PySem.Str.ofString "a_digits", aa)] doc pm c' ctv) oc oi oa on f c' l ai aa an n sz :=
  Nat.strongRecOn sz fun sz IH => in1_step h0 hn hn' di da dn dc vc n1 n2 n3 n4 n5 sz IH

theorem ints_rep {t : Tok} (k : Nat) : IntsAre (List.replicate k (Value.int 0 t)) (List.replicate k 0) := by
  induction k with
  | zero => exact .nil
  | succ n ih => exact .cons 0 t ih
theorem K_size {w : World} {h : Heap} (X : (hd.heap_39 w.params).In h) : 86 < h.objs.size := Heap.lt_size (X 86 _ (by k_is))
theorem K_low {w : World} {h₀ h : Heap} {L : Addr} {m : Str → Option Value} (X : (hd.heap_39 w.params).In h₀) (F : Fr h₀ L h m) : @LT.lt Nat _ 86 L := Nat.lt_of_lt_of_le (K_size X) F.above
theorem bits_pos {a : Int} (h : 0 < a) : 0 < ((Builtin.Int.intBits a : Nat) : Int) := by
  unfold Builtin.Int.intBits
  rw [if_neg (by simp; omega)]
  omega

/-- a code object of that name -/
def CodeOb (q : Str) (o : Obj) : Prop := ∃ vs t, o.data = .fields vs ∧ vs[1]? = some (.str q t)

local macro_rules | `(tactic| walk_at "call ref") => `(tactic| ((with_reducible show wpAny _ _ (call (Value.ref _) [Value.int _ _, Value.int _ _, Value.int _ _]) _ _ _); refine Hold.of ?_))
local macro_rules | `(tactic| walk_at "binaryOp Mult ref int") => `(tactic| (k_dflt (refine' KMa.mul ?F ?N ?l ?lo ?hi ?z (flat_rep _ _) ?_; (case F => k_asm); (case N => k_asm); (case l => is_list); (case lo => omega); (case hi => omega); (case z => (simp only [List.length_cons, List.length_nil]; omega)); k_whole); intro D' h' F' N' l1; (try k_lt l1); (try k_sweep)))

theorem len_K {A : Around} {E : Value → Shared → Prop} {s : Shared} {h₀ : Heap} {L l : Addr} {news : Led} {its : List Value} {n : Nat} {Q : Value → Shared → Prop} {prog : Program} {w : World} (N : News h₀ L s.heap news) (hm : (l, listOf its.toArray n) ∈ news) (hf : its.length ≤ 1000)
    (h : ∀ t tk, Q (.int its.length t) { s with toks := tk }) : wpAny (model prog w) A (call (.builtin "len") [.ref l]) Q E s := by
  refine len_list (News.isList N hm) (by rw [List.size_toArray]; omega) ?_
  rw [List.size_toArray]
  exact h _ _
local macro_rules | `(tactic| walk_at "call builtin:len") => `(tactic| (k_dflt (refine' len_K ?k1 ?k2 ?k3 ?_; (case k1 => k_asm); (case k2 => k_mem); (case k3 => (simp only [List.length_replicate]; omega)); k_whole); intro t' tk'; (try simp only [List.length_replicate])))

theorem lenq {x n : Int} (h0 : 0 < x) (h1 : x ≤ 60) (hn : 0 < n) : 0 < (x + n - 1).fdiv n ∧ (x + n - 1).fdiv n ≤ 60 := by
  rw [fdiv_pos hn]
  have h2 : n * 1 ≤ x + n - 1 := by omega
  have h3 : x + n - 1 < 61 * n := by
    have : 60 * 1 ≤ 60 * n := Int.mul_le_mul_of_nonneg_left (by omega) (by omega)
    omega
  have h4 : (x + n - 1) / n < 61 := Int.ediv_lt_of_lt_mul hn h3
  have h5 : 1 ≤ (x + n - 1) / n := (Int.le_ediv_iff_mul_le hn).mpr (by omega)
  omega
section
variable {w : World} {p : Program} {loose : List Str} {mean : ExcName → Option Value} {mg mb : Str → Option Value} {dp un : Nat} {gd : Option (List Code)} {cn : Str} {cs : Scope} {a0 : Addr} {ccd : Value} {cl : List (Str × Addr)} {outer : List Env} {A₀ : Around} {base h₀ : Heap} {L : Addr} {m : Str → Option Value} {news : Led} {s : Shared} {Q E : Value → Shared → Prop}

theorem int2digits_fresh {a n : Int} {ta tn : Tok} (B : Below A₀ base outer h₀) (F : Fr h₀ L s.heap m) (X : (hd.heap_39 w.params).In h₀) (N : News h₀ L s.heap ((30, tabObj #[]) :: news)) (T : Top p loose mean mg mb h₀) (hk : cs.kind = .function)
    (c2 : CodeHd base 34 30) (hR : ∀ p ∈ news, p.1 ≠ 30) (ha : 0 < a) (ha' : a < 2 ^ 60) (hn : 0 < n) (hn' : n < 60) (hd : dp + 74 < recursionLimit) (hu : un + 1000 < cLine)
    (hret : ∀ l c oc vs' h' tk', Fr h₀ L h' m → News h₀ L h' ((l, listOf vs'.toArray 0) :: (30, tabObj #[rawInt 32, rawInt 4, .ref c]) :: (c, oc) :: news) → 86 < l → 86 < c → CodeOb (PySem.Str.ofString "_int2digits.<locals>.inner") oc → IntsAre vs' (dig1 n 60 a 0 ((((Builtin.Int.intBits a : Nat) : Int) + n - 1).fdiv n) (List.replicate ((((Builtin.Int.intBits a : Nat) : Int) + n - 1).fdiv n).toNat 0)) → (∀ p ∈ news, p.1 < l) → Q (.ref l) { s with heap := h', toks := tk' }) :
    wpAny (model PySem.Challenge.rw_ia0011_01.row.prog w) (ktrTop dp un gd cn cs L a0 ccd cl outer) (call (.ref 35) [.int a ta, .int n tn]) Q E s := by
  have hbits := bits_le (Int.le_of_lt ha) ha'
  have hlen := lenq (x := Builtin.Int.intBits a) (n := n) (bits_pos ha) (by omega) hn
  refine wpAny_call ?_
  (refine' code_defC ?k1 ?k2 ?k3 ?k4 ?k5 ?kA ?kF ?kK ?k6 ?k7 ?k8 ?k9 ?kB ?kD ?_ ?c2 ?c3 ?c4; (case kA => exact rfl); (case kF => exact rfl); (case kK => exact hk); (case k1 => k_asm); (case k2 => k_asm); (case k3 => k_asm); (case k4 => k_asm); (case k5 => k_asm); (case k6 => k_is); (case k7 => k_is); (case k8 => k_room); (case k9 => exact BindsTo.of_eq rfl); (case kB => exact rfl); (case kD => decide +kernel); (case c2 => exact rfl); (case c3 => exact rfl); (case c4 => exact rfl); k_whole; intro g' L' h' tk' cells' FG' F' N' Y' B' X' T' l1; (try k_lt l1); k_cells Y'; (try simp only [List.cons_append, List.nil_append] at N'); (try dsimp only); (try k_lift B'); (try k_fold))
  have q1 : AllLt (L' + 1) news := allLt_up (by omega) l1.2
  have q2 : AllLt (L' + 1 + 1) news := allLt_up (by omega) l1.2
  have q3 : AllLt (L' + 1 + 1 + 1) news := allLt_up (by omega) l1.2
  have hL := K_low X' F'
  k_steps
  unfold Hold
  refine' In1.use (in1_all ?h0 hn hn' ?di ?da ?dn ?dc ?vc ?n1 ?n2 ?n3 ?n4 ?n5 60) B' ?F X' ?N T' c2 rfl ?mf ?mc ?mi ?ma ?mn ?U (ints_rep ((((Builtin.Int.intBits a : Nat) : Int) + n - 1).fdiv n).toNat) (by omega) (by omega) (by rw [List.length_replicate]; omega) (by omega) (by rw [List.length_replicate]; omega) (by omega) ha' (by show dp + 1 + 60 + 2 < _; omega) (by show un + 3 + 10 * 60 + 100 < _; omega) (fun g1 tk1 vs1 F2 N2 I2 => ?_)
  case F => k_asm
  case N => k_asm
  case mf => k_mem
  case mc => k_mem
  case h0 => rfl
  case mi => k_mem
  case ma => k_mem
  case mn => k_mem
  case di => k_asm
  case da => k_asm
  case dn => k_asm
  case dc => k_asm
  case vc => k_asm
  case U => k_updF
  case n1 => k_ne
  case n2 => k_ne
  case n3 => k_ne
  case n4 => k_ne
  case n5 => k_ne
  (try dsimp only at N2)
  k_sweep
  k_steps
  rename_i kF kN _ _
  rw [Int.toNat_of_nonneg (by omega)] at I2
  refine hret _ _ _ _ _ _ kF (List.forall_mem_cons.mpr ⟨kN _ (by k_mem), List.forall_mem_cons.mpr ⟨kN _ (by k_mem), List.forall_mem_cons.mpr ⟨kN _ (by k_mem), fun p hp => kN p (by repeat (first | exact hp | refine List.Mem.tail _ ?_))⟩⟩⟩) ?_ ?_ ?_ I2 ?_
  all_goals (first | (refine ltN ?_; omega) | exact ktn_ltOf (by tbn_find) | exact ⟨_, _, by assumption, by assumption⟩)

theorem int2digits_hit {a n : Int} {ta tn : Tok} {c : Addr} {oc : Obj} (B : Below A₀ base outer h₀) (F : Fr h₀ L s.heap m) (X : (hd.heap_39 w.params).In h₀) (N : News h₀ L s.heap ((30, tabObj #[rawInt 32, rawInt 4, .ref c]) :: (c, oc) :: news)) (T : Top p loose mean mg mb h₀) (hk : cs.kind = .function)
    (c2 : CodeHd base 34 30) (hR : ∀ p ∈ news, p.1 ≠ 30) (hc : c ≠ 30) (hco : CodeOb (PySem.Str.ofString "_int2digits.<locals>.inner") oc)
    (ha : 0 < a) (ha' : a < 2 ^ 60) (hn : 0 < n) (hn' : n < 60) (hd : dp + 74 < recursionLimit) (hu : un + 1000 < cLine)
    (hret : ∀ l vs' h' tk', Fr h₀ L h' m → News h₀ L h' ((l, listOf vs'.toArray 0) :: (30, tabObj #[rawInt 32, rawInt 4, .ref c]) :: (c, oc) :: news) → 86 < l → IntsAre vs' (dig1 n 60 a 0 ((((Builtin.Int.intBits a : Nat) : Int) + n - 1).fdiv n) (List.replicate ((((Builtin.Int.intBits a : Nat) : Int) + n - 1).fdiv n).toNat 0)) → (∀ p ∈ news, p.1 < l) → c < l → Q (.ref l) { s with heap := h', toks := tk' }) :
    wpAny (model PySem.Challenge.rw_ia0011_01.row.prog w) (ktrTop dp un gd cn cs L a0 ccd cl outer) (call (.ref 35) [.int a ta, .int n tn]) Q E s := by
  have hbits := bits_le (Int.le_of_lt ha) ha'
  have hlen := lenq (x := Builtin.Int.intBits a) (n := n) (bits_pos ha) (by omega) hn
  refine wpAny_call ?_
  (refine' code_defC ?k1 ?k2 ?k3 ?k4 ?k5 ?kA ?kF ?kK ?k6 ?k7 ?k8 ?k9 ?kB ?kD ?_ ?c2 ?c3 ?c4; (case kA => exact rfl); (case kF => exact rfl); (case kK => exact hk); (case k1 => k_asm); (case k2 => k_asm); (case k3 => k_asm); (case k4 => k_asm); (case k5 => k_asm); (case k6 => k_is); (case k7 => k_is); (case k8 => k_room); (case k9 => exact BindsTo.of_eq rfl); (case kB => exact rfl); (case kD => decide +kernel); (case c2 => exact rfl); (case c3 => exact rfl); (case c4 => exact rfl); k_whole; intro g' L' h' tk' cells' FG' F' N' Y' B' X' T' l1; (try k_lt l1); k_cells Y'; (try simp only [List.cons_append, List.nil_append] at N'); (try dsimp only); (try k_lift B'); (try k_fold))
  have q1 : AllLt (L' + 1) news := allLt_up (by omega) l1.2.2
  have q2 : AllLt (L' + 1 + 1) news := allLt_up (by omega) l1.2.2
  have q3 : AllLt (L' + 1 + 1 + 1) news := allLt_up (by omega) l1.2.2
  have hL := K_low X' F'
  obtain ⟨vsc, tq, hcd, hcv⟩ := hco
  k_steps
  unfold Hold
  refine' In1.use (in1_all ?h0 hn hn' ?di ?da ?dn ?dc ?vc ?n1 ?n2 ?n3 ?n4 ?n5 60) B' ?F X' ?N T' c2 rfl ?mf ?mc ?mi ?ma ?mn ?U (ints_rep ((((Builtin.Int.intBits a : Nat) : Int) + n - 1).fdiv n).toNat) (by omega) (by omega) (by rw [List.length_replicate]; omega) (by omega) (by rw [List.length_replicate]; omega) (by omega) ha' (by show dp + 1 + 60 + 2 < _; omega) (by show un + 3 + 10 * 60 + 100 < _; omega) (fun g1 tk1 vs1 F2 N2 I2 => ?_)
  case F => k_asm
  case N => k_asm
  case mf => k_mem
  case mc => k_mem
  case h0 => rfl
  case mi => k_mem
  case ma => k_mem
  case mn => k_mem
  case di => k_asm
  case da => k_asm
  case dn => k_asm
  case dc => k_asm
  case vc => exact hcv
  case U => k_updF
  case n1 => k_ne
  case n2 => k_ne
  case n3 => k_ne
  case n4 => k_ne
  case n5 => k_ne
  (try dsimp only at N2)
  k_sweep
  k_steps
  rename_i kF kN _ _
  rw [Int.toNat_of_nonneg (by omega)] at I2
  refine hret _ _ _ _ kF (List.forall_mem_cons.mpr ⟨kN _ (by k_mem), List.forall_mem_cons.mpr ⟨kN _ (by k_mem), List.forall_mem_cons.mpr ⟨kN _ (by k_mem), fun p hp => kN p (by repeat (first | exact hp | refine List.Mem.tail _ ?_))⟩⟩⟩) ?_ I2 ?_ ?_
  all_goals (first | (refine ltN ?_; omega) | exact ktn_ltOf (by tbn_find) | exact ⟨_, _, by assumption, by assumption⟩)

end
end

section
theorem off4 : True := by w_top off; trivial
/-- what the second inner gives back -/
def dig2 (n : Int) : Nat → Int → Int → List Int → Int
  | 0, _, _, _ => 0
  | k + 1, lo, hi, ds =>
    if lo + 1 = hi then ds.getD lo.toNat 0
    else
      let mid := (lo + hi).fdiv 2
      dig2 n k mid hi ds * 2 ^ ((mid - lo) * n).toNat + dig2 n k lo mid ds
theorem getD_nonneg {ds : List Int} (h : ∀ d ∈ ds, 0 ≤ d) (j : Nat) : 0 ≤ ds.getD j 0 := by
  rw [List.getD_eq_getElem?_getD]
  cases e : ds[j]? with
  | none => simp
  | some d => exact h d (List.mem_of_getElem? e)
theorem dig2_nonneg {n : Int} {ds : List Int} (h : ∀ d ∈ ds, 0 ≤ d) : ∀ (k : Nat) (lo hi : Int), 0 ≤ dig2 n k lo hi ds
  | 0, _, _ => Int.le_refl _
  | k + 1, lo, hi => by
    unfold dig2
    split
    · exact getD_nonneg h _
    · dsimp only
      have a1 := dig2_nonneg (n := n) h k ((lo + hi).fdiv 2) hi
      have a2 := dig2_nonneg (n := n) h k lo ((lo + hi).fdiv 2)
      have a3 := Int.mul_nonneg a1 (Int.le_of_lt (pow_pos2 (((lo + hi).fdiv 2 - lo) * n).toNat))
      omega
theorem dig2_parts {n : Int} {ds : List Int} (h : ∀ d ∈ ds, 0 ≤ d) (k : Nat) {lo hi B : Int} (hc : ¬ lo + 1 = hi) (hb : dig2 n (k + 1) lo hi ds < B) :
    dig2 n k ((lo + hi).fdiv 2) hi ds < B ∧ dig2 n k lo ((lo + hi).fdiv 2) ds < B := by
  rw [dig2, if_neg hc] at hb
  dsimp only at hb
  have a1 := dig2_nonneg (n := n) h k ((lo + hi).fdiv 2) hi
  have a2 := dig2_nonneg (n := n) h k lo ((lo + hi).fdiv 2)
  have a3 : dig2 n k ((lo + hi).fdiv 2) hi ds * 1 ≤ dig2 n k ((lo + hi).fdiv 2) hi ds * 2 ^ (((lo + hi).fdiv 2 - lo) * n).toNat :=
    Int.mul_le_mul_of_nonneg_left (by have := pow_pos2 (((lo + hi).fdiv 2 - lo) * n).toNat; omega) a1
  omega

def In2 (w : World) (fo oc oi oa on : Obj) (f c' l ai aa an : Addr) (n : Int) (sz : Nat) : Prop :=
  ∀ (p : Program) (loose : List Str) (mean : ExcName → Option Value) (mg mb : Str → Option Value) (dp un : Nat) (gd : Option (List Code)) (cn : Str) (cs : Scope) (a0 : Addr) (ccd : Value) (cl : List (Str × Addr)) (outer : List Env) (A₀ : Around) (base h₀ : Heap) (L : Addr) (m : Str → Option Value) (news : Led) (s : Shared)
    (Q E : Value → Shared → Prop) (lo hi : Int) (tl th : Tok) (vs : List Value) (ds : List Int) (k : Nat),
    Below A₀ base outer h₀ → Fr h₀ L s.heap m → (hd.heap_39 w.params).In h₀ → News h₀ L s.heap news → Top p loose mean mg mb h₀ → CodeHd base 34 30 → cs.kind = .function →
    (f, fo) ∈ news → (c', oc) ∈ news → (ai, oi) ∈ news → (aa, oa) ∈ news → (an, on) ∈ news → (l, listOf vs.toArray k) ∈ news → IntsAre vs ds →
    0 ≤ lo → lo < hi → hi ≤ ds.length → hi - lo ≤ sz → ds.length ≤ 60 → (∀ d ∈ ds, 0 ≤ d) → dig2 n sz lo hi ds < 2 ^ 60 → dp + sz + 2 < recursionLimit → un + 10 * sz + 100 < cLine →
    (∀ h' tk' t, Fr h₀ L h' m → News h₀ L h' news → Q (.int (dig2 n sz lo hi ds) t) { s with heap := h', toks := tk' }) →
    wpAny (model PySem.Challenge.rw_ia0011_01.row.prog w) (ktrTop dp un gd cn cs L a0 ccd cl outer) (call (.ref f) [.int lo tl, .int hi th]) Q E s
theorem In2.use {w : World} {fo oc oi oa on : Obj} {f c' l ai aa an : Addr} {n : Int} {sz : Nat} {p : Program} {loose : List Str} {mean : ExcName → Option Value} {mg mb : Str → Option Value} {dp un : Nat} {gd : Option (List Code)} {cn : Str} {cs : Scope} {a0 : Addr} {ccd : Value} {cl : List (Str × Addr)} {outer : List Env} {A₀ : Around} {base h₀ : Heap} {L : Addr} {m : Str → Option Value} {news : Led} {s : Shared} {Q E : Value → Shared → Prop}
    {lo hi : Int} {tl th : Tok} {vs : List Value} {ds : List Int} {k : Nat} (H : In2 w fo oc oi oa on f c' l ai aa an n sz)
    (B : Below A₀ base outer h₀) (F : Fr h₀ L s.heap m) (X : (hd.heap_39 w.params).In h₀) (N : News h₀ L s.heap news) (T : Top p loose mean mg mb h₀) (c2 : CodeHd base 34 30) (hk : cs.kind = .function)
    (mf : (f, fo) ∈ news) (mc : (c', oc) ∈ news) (mi : (ai, oi) ∈ news) (ma : (aa, oa) ∈ news) (mn : (an, on) ∈ news) (ml : (l, listOf vs.toArray k) ∈ news) (hI : IntsAre vs ds)
    (h1 : 0 ≤ lo) (h2 : lo < hi) (h3 : hi ≤ ds.length) (h4 : hi - lo ≤ sz) (h5 : ds.length ≤ 60) (h6 : ∀ d ∈ ds, 0 ≤ d) (h7 : dig2 n sz lo hi ds < 2 ^ 60) (h8 : dp + sz + 2 < recursionLimit) (h9 : un + 10 * sz + 100 < cLine)
    (hret : ∀ h' tk' t, Fr h₀ L h' m → News h₀ L h' news → Q (.int (dig2 n sz lo hi ds) t) { s with heap := h', toks := tk' }) :
    wpAny (model PySem.Challenge.rw_ia0011_01.row.prog w) (ktrTop dp un gd cn cs L a0 ccd cl outer) (call (.ref f) [.int lo tl, .int hi th]) Q E s :=
  H p loose mean mg mb dp un gd cn cs a0 ccd cl outer A₀ base h₀ L m news s Q E lo hi tl th vs ds k B F X N T c2 hk mf mc mi ma mn ml hI h1 h2 h3 h4 h5 h6 h7 h8 h9 hret

local macro_rules | `(tactic| walk_at "call ref") => `(tactic| ((with_reducible show wpAny _ _ (call (Value.ref _) [Value.int _ _, Value.int _ _]) _ _ _); refine Hold.of ?_))
local macro_rules | `(tactic| walk_at "subscriptTail") => `(tactic| ((with_reducible show wpAny _ _ (subscriptTail _ _ (Value.ref _) (Value.int _ _)) _ _ _); k_dflt (refine' ksa_sub ?k1 ?k2 ?k3 ?k4 ?k5 ?k6 ?_ ?k7; (case k1 => k_asm); (case k2 => k_mem); (case k3 => with_reducible assumption); (case k4 => omega); (case k5 => omega); (case k6 => omega); (case k7 => with_unfolding_all rfl); k_whole); intro _))

theorem in2_step {w : World} {ps : Arguments} {bd : List Stmt} {sc : Scope} {qual : Str} {doc pm ctv : Value} {oc oi oa on : Obj} {f c' l ai aa an : Addr} {n : Int} {tn tq : Tok} {vsc : Array Value}
    (h0 : (ps, bd, sc) = nestEx (bodyEx 5)) (hn : 0 < n) (hn' : n < 60)
    (di : oi.data = .cell (some (.ref f))) (da : oa.data = .cell (some (.ref l))) (dn : on.data = .cell (some (.int n tn))) (dc : oc.data = .fields vsc) (vc : vsc[1]? = some (.str qual tq)) (sz : Nat)
    (IH : ∀ sz', sz' < sz → In2 w (fnMade (PySem.Str.ofString "inner") qual ps bd sc [(PySem.Str.ofString "n", an), (PySem.Str.ofString "inner", ai), (PySem.Str.ofString "digits", aa)] doc pm c' ctv) oc oi oa on f c' l ai aa an n sz') :
    In2 w (fnMade (PySem.Str.ofString "inner") qual ps bd sc [(PySem.Str.ofString "n", an), (PySem.Str.ofString "inner", ai), (PySem.Str.ofString "digits", aa)] doc pm c' ctv) oc oi oa on f c' l ai aa an n sz := by
  dsimp only [bodyEx, PySem.Challenge.pw_ia0011_01, List.drop, nestEx] at h0
  cases h0
  intro p loose mean mg mb dp un gd cn cs a0 ccd cl outer A₀ base h₀ L m news s Q E lo hi tl th vs ds k B F X N T c2 hk mf mc mi ma mn ml hI h1 h2 h3 h4 h5 h6 h7 hd hu hret
  have hsd := IntsAre.length hI
  refine wpAny_call ?_
  k_dflt (refine' code_nest ?k1 ?k2 ?k3 ?k4 ?k5 ?kA ?kF ?kK ?k6 ?k7 ?k8 ?k9 ?kB ?_ ?c2 ?c3 ?c4 ?c5; (case kA => exact rfl); (case kF => exact rfl); (case kK => assumption); (case k1 => k_asm); (case k2 => k_asm); (case k3 => k_asm); (case k4 => k_asm); (case k5 => k_asm); (case k6 => k_mem); (case k7 => exact codeRec_news (by k_asm) (by k_mem) (by assumption) (by assumption)); (case k8 => k_room); (case k9 => exact BindsTo.of_eq rfl); (case c5 => decide); (case kB => exact locs rfl); (case c2 => exact rfl); (case c3 => exact rfl); (case c4 => exact rfl); k_whole; intro g' L' h' FG' F' N' B' X' T'; (try dsimp only); (try k_lift B'); (try k_fold))
  cases sz with
  | zero => omega
  | succ sz =>
  by_cases hc : lo + 1 = hi
  · k_steps
    rename_i kF kN _ _
    rw [show ds.getD lo.toNat 0 = dig2 n (sz + 1) lo hi ds by rw [dig2, if_pos hc]]
    exact hret _ _ _ kF kN
  · obtain ⟨f1, f2, f3, f4⟩ := mid_facts (n := n) (hi := hi) h1 (by omega) (by omega) hn hn'
    have f5 := dig2_parts (n := n) h6 sz hc h7
    have f6 := dig2_nonneg (n := n) h6 sz ((lo + hi).fdiv (2 ^ Int.toNat 1)) hi
    rw [dig2, if_neg hc] at hret
    dsimp only at hret
    have e2 : (lo + hi).fdiv 2 = (lo + hi).fdiv (2 ^ Int.toNat 1) := by rw [two1]
    rw [e2] at f5 hret
    k_steps
    rename_i F1 N1
    unfold Hold
    refine In2.use (IH sz (Nat.lt_succ_self sz)) B' F1 X' N1 T' c2 rfl mf mc mi ma mn ml hI (by omega) f2 h3 (by omega) h5 h6 f5.1 (by show dp + 1 + sz + 2 < _; omega) (by show un + 3 + 10 * sz + 100 < _; omega) (fun g1 tk1 t1 F2 N2 => ?_)
    clear F1 N1
    k_steps
    unfold Hold
    refine In2.use (IH sz (Nat.lt_succ_self sz)) B' F2 X' N2 T' c2 rfl mf mc mi ma mn ml hI h1 f1 (by omega) (by omega) h5 h6 f5.2 (by show dp + 1 + sz + 2 < _; omega) (by show un + 3 + 10 * sz + 100 < _; omega) (fun g2 tk2 t2 F3 N3 => ?_)
    clear F2 N2
    k_steps
    rename_i kF kN _ _
    exact hret _ _ _ kF kN
end

section
theorem off5 : True := by w_top off; trivial
theorem in2_all {w : World} {ps : Arguments} {bd : List Stmt} {sc : Scope} {qual : Str} {doc pm ctv : Value} {oc oi oa on : Obj} {f c' l ai aa an : Addr} {n : Int} {tn tq : Tok} {vsc : Array Value}
    (h0 : (ps, bd, sc) = nestEx (bodyEx 5)) (hn : 0 < n) (hn' : n < 60)
    (di : oi.data = .cell (some (.ref f))) (da : oa.data = .cell (some (.ref l))) (dn : on.data = .cell (some (.int n tn))) (dc : oc.data = .fields vsc) (vc : vsc[1]? = some (.str qual tq)) (sz : Nat) :
    In2 w (fnMade (PySem.Str.ofString "inner") qual ps bd sc [(PySem.Str.ofString "n", an), (PySem.Str.ofString "inner", ai), (PySem.Str.ofString "digits", aa)] doc pm c' ctv) oc oi oa on f c' l ai aa an n sz :=
  Nat.strongRecOn sz fun sz IH => in2_step h0 hn hn' di da dn dc vc sz IH

local macro_rules | `(tactic| walk_at "call ref") => `(tactic| ((with_reducible show wpAny _ _ (call (Value.ref _) [Value.int _ _, Value.int _ _]) _ _ _); refine Hold.of ?_))
local macro_rules | `(tactic| walk_at "call builtin:len") => `(tactic| (k_dflt (refine' len_K ?k1 ?k2 ?k3 ?_; (case k1 => k_asm); (case k2 => k_mem); (case k3 => (try simp only [List.length_replicate]); omega); k_whole); intro t' tk'; (try simp only [List.length_replicate])))
theorem truthy_K9 {A : Around} {E : Value → Shared → Prop} {s : Shared} {h₀ : Heap} {L l : Addr} {news : Led} {its : List Value} {n : Nat} {Q : Bool → Shared → Prop} {prog : Program} {w : World} (N : News h₀ L s.heap news) (hm : (l, listOf its.toArray n) ∈ news) (hf : its.length ≤ 1000) (h0 : 0 < its.length)
    (h : ∀ tk, Q true { s with toks := tk }) : wpAny (model prog w) A (truthy (.ref l)) Q E s := by
  refine wpAny_truthy_list (News.isList N hm) (by rw [List.size_toArray]; omega) ?_
  cases its with
  | nil => simp at h0
  | cons a r => exact h _
local macro_rules | `(tactic| walk_at "truthy ref") => `(tactic| (k_dflt (refine' truthy_K9 ?k1 ?k2 ?k3 ?k4 ?_; (case k1 => k_asm); (case k2 => k_mem); (case k3 => omega); (case k4 => omega); k_whole); intro tk'))
local macro_rules | `(tactic| k_mem) => `(tactic| ((fail_if_success (show List.Mem _ (_ :: _))); (show (_ : Addr × Obj) ∈ (_ : Led)); ktr_member))
section
variable {w : World} {p : Program} {loose : List Str} {mean : ExcName → Option Value} {mg mb : Str → Option Value} {dp un : Nat} {gd : Option (List Code)} {cn : Str} {cs : Scope} {a0 : Addr} {ccd : Value} {cl : List (Str × Addr)} {outer : List Env} {A₀ : Around} {base h₀ : Heap} {L : Addr} {m : Str → Option Value} {news : Led} {s : Shared} {Q E : Value → Shared → Prop}

theorem digits2int_fresh {l : Addr} {vs : List Value} {ds : List Int} {k : Nat} {n : Int} {tn : Tok} (B : Below A₀ base outer h₀) (F : Fr h₀ L s.heap m) (X : (hd.heap_39 w.params).In h₀) (N : News h₀ L s.heap ((37, tabObj #[]) :: news)) (T : Top p loose mean mg mb h₀) (hk : cs.kind = .function)
    (c1 : CodeHd base 41 37) (c2 : CodeHd base 34 30) (hR : ∀ p ∈ news, p.1 ≠ 37) (hn : 0 < n) (hn' : n < 60) (ml : (l, listOf vs.toArray k) ∈ news) (hI : IntsAre vs ds) (hl0 : 0 < ds.length) (hl1 : ds.length ≤ 60) (hds : ∀ d ∈ ds, 0 ≤ d) (hv : dig2 n 60 0 ds.length ds < 2 ^ 60) (hd : dp + 74 < recursionLimit) (hu : un + 1000 < cLine)
    (hret : ∀ c oc t h' tk', Fr h₀ L h' m → News h₀ L h' ((37, tabObj #[rawInt 47, rawInt 4, .ref c]) :: (c, oc) :: news) → 86 < c → CodeOb (PySem.Str.ofString "_digits2int.<locals>.inner") oc → Q (.int (dig2 n 60 0 ds.length ds) t) { s with heap := h', toks := tk' }) :
    wpAny (model PySem.Challenge.rw_ia0011_01.row.prog w) (ktrTop dp un gd cn cs L a0 ccd cl outer) (call (.ref 42) [.ref l, .int n tn]) Q E s := by
  have hsd := IntsAre.length hI
  refine wpAny_call ?_
  (refine' code_defC ?k1 ?k2 ?k3 ?k4 ?k5 ?kA ?kF ?kK ?k6 ?k7 ?k8 ?k9 ?kB ?kD ?_ ?c2 ?c3 ?c4; (case kA => exact rfl); (case kF => exact rfl); (case kK => exact hk); (case k1 => k_asm); (case k2 => k_asm); (case k3 => k_asm); (case k4 => k_asm); (case k5 => k_asm); (case k6 => k_is); (case k7 => k_is); (case k8 => k_room); (case k9 => exact BindsTo.of_eq rfl); (case kB => exact rfl); (case kD => decide +kernel); (case c2 => exact rfl); (case c3 => exact rfl); (case c4 => exact rfl); k_whole; intro g' L' h' tk' cells' FG' F' N' Y' B' X' T' l1; (try k_lt l1); k_cells Y'; (try simp only [List.cons_append, List.nil_append] at N'); (try dsimp only); (try k_lift B'); (try k_fold))
  have q1 : AllLt (L' + 1) news := allLt_up (by omega) l1.2
  have q2 : AllLt (L' + 1 + 1) news := allLt_up (by omega) l1.2
  have q3 : AllLt (L' + 1 + 1 + 1) news := allLt_up (by omega) l1.2
  have hL := K_low X' F'
  k_steps
  unfold Hold
  refine' In2.use (in2_all ?h0 hn hn' ?di ?da ?dn ?dc ?vc 60) B' ?F X' ?N T' c2 rfl ?mf ?mc ?mi ?ma ?mn ?ml hI (by omega) (by omega) (by omega) (by omega) hl1 hds (by rw [hsd]; exact hv) (by show dp + 1 + 60 + 2 < _; omega) (by show un + 3 + 10 * 60 + 100 < _; omega) (fun g1 tk1 t1 F2 N2 => ?_)
  case F => k_asm
  case N => k_asm
  case mf => k_mem
  case mc => k_mem
  case h0 => rfl
  case mi => k_mem
  case ma => k_mem
  case mn => k_mem
  case ml => k_mem
  case di => k_asm
  case da => k_asm
  case dn => k_asm
  case dc => k_asm
  case vc => k_asm
  k_sweep
  rw [hsd]
  k_steps
  rename_i kF kN _ _
  refine hret _ _ _ _ _ kF (List.forall_mem_cons.mpr ⟨kN _ (by k_mem), List.forall_mem_cons.mpr ⟨kN _ (by k_mem), fun p hp => kN p (by repeat (first | exact hp | refine List.Mem.tail _ ?_))⟩⟩) ?_ ?_
  all_goals (first | (refine ltN ?_; omega) | exact ⟨_, _, by assumption, by assumption⟩)

theorem digits2int_hit {l : Addr} {vs : List Value} {ds : List Int} {k : Nat} {n : Int} {tn : Tok} {c : Addr} {oc : Obj} (B : Below A₀ base outer h₀) (F : Fr h₀ L s.heap m) (X : (hd.heap_39 w.params).In h₀) (N : News h₀ L s.heap ((37, tabObj #[rawInt 47, rawInt 4, .ref c]) :: (c, oc) :: news)) (T : Top p loose mean mg mb h₀) (hk : cs.kind = .function)
    (c1 : CodeHd base 41 37) (c2 : CodeHd base 34 30) (hR : ∀ p ∈ news, p.1 ≠ 37) (hco : CodeOb (PySem.Str.ofString "_digits2int.<locals>.inner") oc)
    (hn : 0 < n) (hn' : n < 60) (ml : (l, listOf vs.toArray k) ∈ news) (hI : IntsAre vs ds) (hl0 : 0 < ds.length) (hl1 : ds.length ≤ 60) (hds : ∀ d ∈ ds, 0 ≤ d) (hv : dig2 n 60 0 ds.length ds < 2 ^ 60) (hd : dp + 74 < recursionLimit) (hu : un + 1000 < cLine)
    (hret : ∀ t h' tk', Fr h₀ L h' m → News h₀ L h' ((37, tabObj #[rawInt 47, rawInt 4, .ref c]) :: (c, oc) :: news) → Q (.int (dig2 n 60 0 ds.length ds) t) { s with heap := h', toks := tk' }) :
    wpAny (model PySem.Challenge.rw_ia0011_01.row.prog w) (ktrTop dp un gd cn cs L a0 ccd cl outer) (call (.ref 42) [.ref l, .int n tn]) Q E s := by
  have hsd := IntsAre.length hI
  refine wpAny_call ?_
  (refine' code_defC ?k1 ?k2 ?k3 ?k4 ?k5 ?kA ?kF ?kK ?k6 ?k7 ?k8 ?k9 ?kB ?kD ?_ ?c2 ?c3 ?c4; (case kA => exact rfl); (case kF => exact rfl); (case kK => exact hk); (case k1 => k_asm); (case k2 => k_asm); (case k3 => k_asm); (case k4 => k_asm); (case k5 => k_asm); (case k6 => k_is); (case k7 => k_is); (case k8 => k_room); (case k9 => exact BindsTo.of_eq rfl); (case kB => exact rfl); (case kD => decide +kernel); (case c2 => exact rfl); (case c3 => exact rfl); (case c4 => exact rfl); k_whole; intro g' L' h' tk' cells' FG' F' N' Y' B' X' T' l1; (try k_lt l1); k_cells Y'; (try simp only [List.cons_append, List.nil_append] at N'); (try dsimp only); (try k_lift B'); (try k_fold))
  have q1 : AllLt (L' + 1) news := allLt_up (by omega) l1.2.2
  have q2 : AllLt (L' + 1 + 1) news := allLt_up (by omega) l1.2.2
  have q3 : AllLt (L' + 1 + 1 + 1) news := allLt_up (by omega) l1.2.2
  have hL := K_low X' F'
  obtain ⟨vsc, tq, hcd, hcv⟩ := hco
  k_steps
  unfold Hold
  refine' In2.use (in2_all ?h0 hn hn' ?di ?da ?dn ?dc ?vc 60) B' ?F X' ?N T' c2 rfl ?mf ?mc ?mi ?ma ?mn ?ml hI (by omega) (by omega) (by omega) (by omega) hl1 hds (by rw [hsd]; exact hv) (by show dp + 1 + 60 + 2 < _; omega) (by show un + 3 + 10 * 60 + 100 < _; omega) (fun g1 tk1 t1 F2 N2 => ?_)
  case F => k_asm
  case N => k_asm
  case mf => k_mem
  case mc => k_mem
  case h0 => rfl
  case mi => k_mem
  case ma => k_mem
  case mn => k_mem
  case ml => k_mem
  case di => k_asm
  case da => k_asm
  case dn => k_asm
  case dc => k_asm
  case vc => exact hcv
  k_sweep
  rw [hsd]
  k_steps
  rename_i kF kN _ _
  exact hret _ _ _ kF (List.forall_mem_cons.mpr ⟨kN _ (by k_mem), List.forall_mem_cons.mpr ⟨kN _ (by k_mem), fun p hp => kN p (by repeat (first | exact hp | refine List.Mem.tail _ ?_))⟩⟩)

end
end

section
theorem off6 : True := by w_top off; trivial
def T30 : Option (Addr × Obj) → Led
  | none => [(30, tabObj #[])]
  | some q => [(30, tabObj #[rawInt 32, rawInt 4, .ref q.1]), q]
def T37 : Option (Addr × Obj) → Led
  | none => [(37, tabObj #[])]
  | some q => [(37, tabObj #[rawInt 47, rawInt 4, .ref q.1]), q]
def Ok30 : Option (Addr × Obj) → Prop
  | none => True
  | some q => 86 < q.1 ∧ CodeOb (PySem.Str.ofString "_int2digits.<locals>.inner") q.2
def Ok37 : Option (Addr × Obj) → Prop
  | none => True
  | some q => 86 < q.1 ∧ CodeOb (PySem.Str.ofString "_digits2int.<locals>.inner") q.2
theorem T30_ne37 {x : Option (Addr × Obj)} (h : Ok30 x) : ∀ p ∈ T30 x, p.1 ≠ 37 := by
  cases x with
  | none => intro p hp; rw [List.mem_singleton.mp hp]; decide
  | some q =>
    intro p hp
    rcases List.mem_cons.mp hp with rfl | hp
    · exact (by decide : (30 : Nat) ≠ 37)
    · rw [List.mem_singleton.mp hp]; exact Nat.ne_of_gt (Nat.lt_trans (by decide) h.1)
theorem T37_ne30 {x : Option (Addr × Obj)} (h : Ok37 x) : ∀ p ∈ T37 x, p.1 ≠ 30 := by
  cases x with
  | none => intro p hp; rw [List.mem_singleton.mp hp]; decide
  | some q =>
    intro p hp
    rcases List.mem_cons.mp hp with rfl | hp
    · exact (by decide : (37 : Nat) ≠ 30)
    · rw [List.mem_singleton.mp hp]; exact Nat.ne_of_gt (Nat.lt_trans (by decide) h.1)
theorem News.sub {h₀ h : Heap} {L : Addr} {l l' : Led} (N : News h₀ L h l) (hs : ∀ p ∈ l', p ∈ l) : News h₀ L h l' := fun p hp => N p (hs p hp)
theorem sub_mid {α : Type} {a b c : List α} : ∀ p ∈ b ++ (a ++ c), p ∈ a ++ (b ++ c) := by
  intro p hp
  simp only [List.mem_append] at hp ⊢
  rcases hp with h | h | h
  · exact .inr (.inl h)
  · exact .inl h
  · exact .inr (.inr h)
theorem sub_end {α : Type} {a b c : List α} : ∀ p ∈ c ++ (a ++ b), p ∈ a ++ (b ++ c) := by
  intro p hp
  simp only [List.mem_append] at hp ⊢
  rcases hp with h | h | h
  · exact .inr (.inr h)
  · exact .inl h
  · exact .inr (.inl h)
theorem sub_end' {α : Type} {a b c : List α} : ∀ p ∈ a ++ (b ++ c), p ∈ c ++ (a ++ b) := by
  intro p hp
  simp only [List.mem_append] at hp ⊢
  rcases hp with h | h | h
  · exact .inr (.inl h)
  · exact .inr (.inr h)
  · exact .inl h
theorem sub_cons {α : Type} {x : α} {a b : List α} (h : ∀ p ∈ a, p ∈ b) : ∀ p ∈ x :: a, p ∈ x :: b := by
  intro p hp
  rcases List.mem_cons.mp hp with rfl | hp
  · exact .head _
  · exact .tail _ (h p hp)
section
variable {w : World} {p : Program} {loose : List Str} {mean : ExcName → Option Value} {mg mb : Str → Option Value} {dp un : Nat} {gd : Option (List Code)} {cn : Str} {cs : Scope} {a0 : Addr} {ccd : Value} {cl : List (Str × Addr)} {outer : List Env} {A₀ : Around} {base h₀ : Heap} {L : Addr} {m : Str → Option Value} {news : Led} {s : Shared} {Q E : Value → Shared → Prop}

theorem int2digits_any {a n : Int} {ta tn : Tok} {x : Option (Addr × Obj)} (B : Below A₀ base outer h₀) (F : Fr h₀ L s.heap m) (X : (hd.heap_39 w.params).In h₀) (N : News h₀ L s.heap (T30 x ++ news)) (T : Top p loose mean mg mb h₀) (hk : cs.kind = .function)
    (c2 : CodeHd base 34 30) (hx : Ok30 x) (hR : ∀ p ∈ news, p.1 ≠ 30) (ha : 0 < a) (ha' : a < 2 ^ 60) (hn : 0 < n) (hn' : n < 60) (hd : dp + 74 < recursionLimit) (hu : un + 1000 < cLine)
    (hret : ∀ l x' vs' h' tk', Fr h₀ L h' m → News h₀ L h' ((l, listOf vs'.toArray 0) :: (T30 x' ++ news)) → 86 < l → Ok30 x' → IntsAre vs' (dig1 n 60 a 0 ((((Builtin.Int.intBits a : Nat) : Int) + n - 1).fdiv n) (List.replicate ((((Builtin.Int.intBits a : Nat) : Int) + n - 1).fdiv n).toNat 0)) → (∀ p ∈ news, p.1 < l) → Q (.ref l) { s with heap := h', toks := tk' }) :
    wpAny (model PySem.Challenge.rw_ia0011_01.row.prog w) (ktrTop dp un gd cn cs L a0 ccd cl outer) (call (.ref 35) [.int a ta, .int n tn]) Q E s := by
  cases x with
  | none => exact int2digits_fresh B F X N T hk c2 hR ha ha' hn hn' hd hu (fun l c oc vs' h' tk' F' N' g1 g2 g3 g4 g5 => hret l (some (c, oc)) vs' h' tk' F' N' g1 ⟨g2, g3⟩ g4 g5)
  | some q =>
    obtain ⟨c, oc⟩ := q
    exact int2digits_hit B F X N T hk c2 hR (Nat.ne_of_gt (Nat.lt_trans (by decide) hx.1)) hx.2 ha ha' hn hn' hd hu (fun l vs' h' tk' F' N' g1 g4 g5 _ => hret l (some (c, oc)) vs' h' tk' F' N' g1 hx g4 g5)

theorem digits2int_any {l : Addr} {vs : List Value} {ds : List Int} {k : Nat} {n : Int} {tn : Tok} {x : Option (Addr × Obj)} (B : Below A₀ base outer h₀) (F : Fr h₀ L s.heap m) (X : (hd.heap_39 w.params).In h₀) (N : News h₀ L s.heap (T37 x ++ news)) (T : Top p loose mean mg mb h₀) (hk : cs.kind = .function)
    (c1 : CodeHd base 41 37) (c2 : CodeHd base 34 30) (hx : Ok37 x) (hR : ∀ p ∈ news, p.1 ≠ 37) (hn : 0 < n) (hn' : n < 60) (ml : (l, listOf vs.toArray k) ∈ news) (hI : IntsAre vs ds) (hl0 : 0 < ds.length) (hl1 : ds.length ≤ 60) (hds : ∀ d ∈ ds, 0 ≤ d) (hv : dig2 n 60 0 ds.length ds < 2 ^ 60) (hd : dp + 74 < recursionLimit) (hu : un + 1000 < cLine)
    (hret : ∀ x' t h' tk', Fr h₀ L h' m → News h₀ L h' (T37 x' ++ news) → Ok37 x' → Q (.int (dig2 n 60 0 ds.length ds) t) { s with heap := h', toks := tk' }) :
    wpAny (model PySem.Challenge.rw_ia0011_01.row.prog w) (ktrTop dp un gd cn cs L a0 ccd cl outer) (call (.ref 42) [.ref l, .int n tn]) Q E s := by
  cases x with
  | none => exact digits2int_fresh B F X N T hk c1 c2 hR hn hn' ml hI hl0 hl1 hds hv hd hu (fun c oc t h' tk' F' N' g2 g3 => hret (some (c, oc)) t h' tk' F' N' ⟨g2, g3⟩)
  | some q =>
    obtain ⟨c, oc⟩ := q
    exact digits2int_hit B F X N T hk c1 c2 hR hx.2 hn hn' ml hI hl0 hl1 hds hv hd hu (fun t h' tk' F' N' => hret (some (c, oc)) t h' tk' F' N' hx)
end
end

section
local macro_rules | `(tactic| walk_at "zz one") => `(tactic| skip)
theorem off7 : True := by w_top off; trivial
/-- the long division's loop -/
def dloop (b P : Int) : List Int → Int × List Int → Int × List Int
  | [], st => st
  | x :: xs, st => dloop b P xs ((st.1 * P + x) % b, st.2 ++ [(st.1 * P + x) / b])

/-- c digits of x to the base P, the lowest first -/
def dgs (P : Int) : Nat → Int → List Int
  | 0, _ => []
  | c + 1, x => x % P :: dgs P c (x / P)
/-- the value of digits, the lowest first -/
def lval (P : Int) : List Int → Int
  | [] => 0
  | d :: r => d + P * lval P r
/-- the value of digits behind acc, the highest first -/
def hval (P : Int) : Int → List Int → Int
  | acc, [] => acc
  | acc, x :: xs => hval P (acc * P + x) xs

theorem dgs_len (P : Int) : ∀ (c : Nat) (x : Int), (dgs P c x).length = c
  | 0, _ => rfl
  | c + 1, x => by rw [dgs, List.length_cons, dgs_len]
theorem dgs_range {P : Int} (hP : 0 < P) : ∀ (c : Nat) (x : Int), ∀ d ∈ dgs P c x, 0 ≤ d ∧ d < P
  | 0, _ => fun _ h => nomatch h
  | c + 1, x => fun d h => by
    rcases List.mem_cons.mp h with rfl | h
    · exact ⟨Int.emod_nonneg _ (by omega), Int.emod_lt_of_pos _ hP⟩
    · exact dgs_range hP c _ d h
theorem dgs_add {P : Int} (hP : 0 < P) : ∀ (c d : Nat) (x : Int), dgs P (c + d) x = dgs P c (x % P ^ c) ++ dgs P d (x / P ^ c)
  | 0, d, x => by simp [dgs]
  | c + 1, d, x => by
    have e1 : c + 1 + d = (c + d) + 1 := by omega
    have hc : (0 : Int) < P ^ c := Int.pow_pos hP
    have e2 : x % P ^ (c + 1) % P = x % P := by
      exact Int.emod_emod_of_dvd x ⟨P ^ c, by rw [Int.pow_succ, Int.mul_comm]⟩
    have e3 : x % P ^ (c + 1) / P = x / P % P ^ c := by
      rw [Int.pow_succ, Int.mul_comm]
      exact emod_mul_div x hP hc
    have e4 : x / P ^ (c + 1) = x / P / P ^ c := by
      rw [Int.pow_succ, Int.mul_comm, Int.ediv_ediv_of_nonneg (Int.le_of_lt hP)]
    rw [e1, dgs, dgs, dgs_add hP c d (x / P), e2, e3, e4]
    rfl
where
  emod_mul_div (x : Int) {P M : Int} (hP : 0 < P) (hM : 0 < M) : x % (P * M) / P = x / P % M := by
    have h1 := Int.mul_ediv_add_emod x (P * M)
    have h2 : x = x % (P * M) + P * (M * (x / (P * M))) := by
      rw [← Int.mul_assoc]; omega
    have h3 : x / P = x % (P * M) / P + M * (x / (P * M)) := by
      conv => lhs; rw [h2]
      rw [Int.add_mul_ediv_left _ _ (by omega)]
    have h4 : 0 ≤ x % (P * M) / P := Int.ediv_nonneg (Int.emod_nonneg _ (Int.ne_of_gt (Int.mul_pos hP hM))) (Int.le_of_lt hP)
    have h5 : x % (P * M) / P < M := by
      refine Int.ediv_lt_of_lt_mul hP ?_
      rw [Int.mul_comm M P]
      exact Int.emod_lt_of_pos _ (Int.mul_pos hP hM)
    rw [h3, Int.add_mul_emod_self_left, Int.emod_eq_of_lt h4 h5]
theorem lval_dgs {P : Int} (hP : 0 < P) : ∀ (c : Nat) (x : Int), 0 ≤ x → x < P ^ c → lval P (dgs P c x) = x
  | 0, x, h0, h1 => by
    simp at h1
    have : x = 0 := by omega
    rw [this]; rfl
  | c + 1, x, h0, h1 => by
    rw [dgs, lval, lval_dgs hP c (x / P) (Int.ediv_nonneg h0 (Int.le_of_lt hP)) (Int.ediv_lt_of_lt_mul hP (by rw [← Int.pow_succ]; exact h1))]
    have := Int.mul_ediv_add_emod x P
    omega
theorem lval_append (P : Int) : ∀ (a b : List Int), lval P (a ++ b) = lval P a + P ^ a.length * lval P b
  | [], b => by simp [lval]
  | d :: r, b => by
    rw [List.cons_append, lval, lval, lval_append P r b, List.length_cons, Int.pow_succ, Int.mul_add, Int.mul_comm (P ^ r.length) P, Int.mul_assoc, Int.add_assoc]
theorem hval_acc (P : Int) : ∀ (xs : List Int) (a c : Int), hval P (a + c) xs = a * P ^ xs.length + hval P c xs
  | [], a, c => by simp [hval]
  | x :: xs, a, c => by
    rw [hval, hval, show (a + c) * P + x = a * P + (c * P + x) by rw [Int.add_mul]; omega, hval_acc P xs (a * P) (c * P + x), List.length_cons, Int.pow_succ, Int.mul_assoc, Int.mul_comm P]
theorem lval_reverse (P : Int) : ∀ (xs : List Int), lval P xs.reverse = hval P 0 xs
  | [] => rfl
  | x :: xs => by
    rw [List.reverse_cons, lval_append, lval_reverse P xs, List.length_reverse, hval]
    have e := hval_acc P xs x 0
    rw [Int.add_zero] at e
    rw [show (0 : Int) * P + x = x by omega, e, lval, lval, Int.mul_zero, Int.add_zero, Int.mul_comm, Int.add_comm]
theorem dloop_spec {b P : Int} (hb : 0 < b) (hP : 0 < P) : ∀ (xs : List Int) (r : Int) (qs : List Int), 0 ≤ r → r < b → (∀ x ∈ xs, 0 ≤ x) →
    ∃ qs' r', dloop b P xs (r, qs) = (r', qs ++ qs') ∧ qs'.length = xs.length ∧ 0 ≤ r' ∧ r' < b ∧ (∀ q ∈ qs', 0 ≤ q) ∧ hval P r xs = b * hval P 0 qs' + r'
  | [], r, qs, h0, h1, _ => ⟨[], r, by simp [dloop], rfl, h0, h1, fun _ h => (nomatch h), by simp [hval]⟩
  | x :: xs, r, qs, h0, h1, hx => by
    have hs : 0 ≤ r * P + x := by
      have := Int.mul_nonneg h0 (Int.le_of_lt hP)
      have := hx x (.head _)
      omega
    obtain ⟨qs', r', e, hl, g0, g1, hq, hv⟩ := dloop_spec hb hP xs ((r * P + x) % b) (qs ++ [(r * P + x) / b]) (Int.emod_nonneg _ (by omega)) (Int.emod_lt_of_pos _ hb) fun y hy => hx y (.tail _ hy)
    refine ⟨(r * P + x) / b :: qs', r', by rw [dloop, e, List.append_assoc]; rfl, by rw [List.length_cons, List.length_cons, hl], g0, g1, ?_, ?_⟩
    · intro q hq'
      rcases List.mem_cons.mp hq' with rfl | hq'
      · exact Int.ediv_nonneg hs (Int.le_of_lt hb)
      · exact hq q hq'
    · rw [hval, hval]
      have e1 := hval_acc P xs (b * ((r * P + x) / b)) ((r * P + x) % b)
      rw [Int.mul_ediv_add_emod] at e1
      have e2 := hval_acc P qs' ((r * P + x) / b) 0
      rw [Int.add_zero] at e2
      rw [e1, hv, show (0 : Int) * P + (r * P + x) / b = (r * P + x) / b by omega, e2, hl, Int.mul_add, Int.mul_assoc, Int.add_assoc]
end

section
theorem off8 : True := by w_top off; trivial
theorem mid_nat (lo hi : Nat) : ((lo : Int) + hi).fdiv 2 = (((lo + hi) / 2 : Nat) : Int) := by
  rw [fdiv_pos (by omega)]; omega
theorem pow_mid {n : Int} (hn : 0 < n) {lo mid : Nat} (h : lo ≤ mid) : (2 : Int) ^ (((mid : Int) - lo) * n).toNat = ((2 : Int) ^ n.toNat) ^ (mid - lo) := by
  rw [Int.toNat_mul (by omega) (by omega), Nat.mul_comm, Int.pow_mul, show ((mid : Int) - lo).toNat = mid - lo by omega]
theorem dig1_eq {n : Int} (hn : 0 < n) : ∀ (k lo hi : Nat) (x : Int) (ds : List Int), lo < hi → hi ≤ ds.length → hi - lo ≤ k → 0 ≤ x → x < ((2 : Int) ^ n.toNat) ^ (hi - lo) →
    dig1 n k x lo hi ds = ds.take lo ++ (dgs (2 ^ n.toNat) (hi - lo) x ++ ds.drop hi)
  | 0, lo, hi, x, ds, h1, h2, h3, _, _ => by omega
  | k + 1, lo, hi, x, ds, h1, h2, h3, h4, h5 => by
    have hP : (0 : Int) < 2 ^ n.toNat := pow_pos2 _
    rw [dig1]
    by_cases hc : (lo : Int) + 1 = hi
    · rw [if_pos hc]
      have e : hi = lo + 1 := by omega
      subst e
      have e1 : lo + 1 - lo = 1 := by omega
      rw [e1, Int.pow_one] at h5
      rw [e1, dgs, dgs, Int.emod_eq_of_lt h4 h5, Int.toNat_natCast, List.set_eq_take_append_cons_drop, if_pos (by omega)]
      rfl
    · rw [if_neg hc]
      dsimp only
      rw [mid_nat]
      have g1 : lo < (lo + hi) / 2 := by omega
      have g2 : (lo + hi) / 2 < hi := by omega
      generalize (lo + hi) / 2 = mid at g1 g2
      rw [pow_mid hn (Nat.le_of_lt g1), fdiv_pos (Int.pow_pos hP), fmod_pos (Int.pow_pos hP)]
      have hM : (0 : Int) < (2 ^ n.toNat) ^ (mid - lo) := Int.pow_pos hP
      have e0 : hi - lo = (mid - lo) + (hi - mid) := by omega
      have i1 := dig1_eq hn k lo mid (x % (2 ^ n.toNat) ^ (mid - lo)) ds g1 (by omega) (by omega) (Int.emod_nonneg _ (by omega)) (Int.emod_lt_of_pos _ hM)
      have hl : (ds.take lo ++ (dgs (2 ^ n.toNat) (mid - lo) (x % (2 ^ n.toNat) ^ (mid - lo)) ++ ds.drop mid)).length = ds.length := by
        rw [List.length_append, List.length_append, List.length_take, List.length_drop, dgs_len]; omega
      have i2 := dig1_eq hn k mid hi (x / (2 ^ n.toNat) ^ (mid - lo)) (ds.take lo ++ (dgs (2 ^ n.toNat) (mid - lo) (x % (2 ^ n.toNat) ^ (mid - lo)) ++ ds.drop mid)) g2 (by omega) (by omega)
        (Int.ediv_nonneg h4 (Int.le_of_lt hM)) (Int.ediv_lt_of_lt_mul hM (by rw [← Int.pow_add, Nat.add_comm, ← e0]; exact h5))
      rw [i1, i2, e0, dgs_add hP]
      have t1 : (ds.take lo ++ (dgs (2 ^ n.toNat) (mid - lo) (x % (2 ^ n.toNat) ^ (mid - lo)) ++ ds.drop mid)).take mid = ds.take lo ++ dgs (2 ^ n.toNat) (mid - lo) (x % (2 ^ n.toNat) ^ (mid - lo)) := by
        rw [← List.append_assoc]
        exact List.take_left' (by rw [List.length_append, List.length_take, dgs_len]; omega)
      have t2 : (ds.take lo ++ (dgs (2 ^ n.toNat) (mid - lo) (x % (2 ^ n.toNat) ^ (mid - lo)) ++ ds.drop mid)).drop hi = ds.drop hi := by
        have ha : (ds.take lo ++ dgs (2 ^ n.toNat) (mid - lo) (x % (2 ^ n.toNat) ^ (mid - lo))).length = mid := by
          rw [List.length_append, List.length_take, dgs_len]; omega
        rw [← List.append_assoc]
        generalize ds.take lo ++ dgs (2 ^ n.toNat) (mid - lo) (x % (2 ^ n.toNat) ^ (mid - lo)) = A at ha
        have hd : (A ++ ds.drop mid).drop (mid + (hi - mid)) = ds.drop (mid + (hi - mid)) := by
          rw [← List.drop_drop, List.drop_left' ha, List.drop_drop]
        rwa [show mid + (hi - mid) = hi by omega] at hd
      rw [t1, t2]
      simp only [List.append_assoc]
theorem dig2_eq {n : Int} (hn : 0 < n) : ∀ (k lo hi : Nat) (ds : List Int), lo < hi → hi ≤ ds.length → hi - lo ≤ k → dig2 n k lo hi ds = lval (2 ^ n.toNat) ((ds.drop lo).take (hi - lo))
  | 0, lo, hi, ds, h1, h2, h3 => by omega
  | k + 1, lo, hi, ds, h1, h2, h3 => by
    rw [dig2]
    by_cases hc : (lo : Int) + 1 = hi
    · rw [if_pos hc]
      have e : hi = lo + 1 := by omega
      subst e
      have e1 : lo + 1 - lo = 1 := by omega
      rw [e1, Int.toNat_natCast, List.drop_eq_getElem_cons (by omega : lo < ds.length), List.take_succ_cons, List.take_zero, lval, lval, List.getD_eq_getElem?_getD, List.getElem?_eq_getElem (by omega : lo < ds.length)]
      simp
    · rw [if_neg hc]
      dsimp only
      rw [mid_nat]
      have g1 : lo < (lo + hi) / 2 := by omega
      have g2 : (lo + hi) / 2 < hi := by omega
      generalize (lo + hi) / 2 = mid at g1 g2
      rw [pow_mid hn (Nat.le_of_lt g1), dig2_eq hn k lo mid ds g1 (by omega) (by omega), dig2_eq hn k mid hi ds g2 h2 (by omega)]
      have e0 : (ds.drop lo).take (hi - lo) = (ds.drop lo).take (mid - lo) ++ (ds.drop mid).take (hi - mid) := by
        have : hi - lo = (mid - lo) + (hi - mid) := by omega
        rw [this, List.take_add, List.drop_drop]
        congr 3
        omega
      rw [e0, lval_append, List.length_take, List.length_drop, show min (mid - lo) (ds.length - lo) = mid - lo by omega, Int.mul_comm, Int.add_comm]

/-- what a long division of the program's finds -/
theorem div_facts {a b : Int} (ha : 0 < a) (ha' : a < 2 ^ 60) (hb : 0 < b) (hb' : b < 16) (n : Int) (hn : n = ((Builtin.Int.intBits b : Nat) : Int)) (ln : Int) (hln : ln = (((Builtin.Int.intBits a : Nat) : Int) + n - 1).fdiv n) :
    (dig1 n 60 a 0 ln (List.replicate ln.toNat 0)).length = ln.toNat ∧ 0 < ln.toNat ∧ ln.toNat ≤ 60 ∧ (∀ d ∈ dig1 n 60 a 0 ln (List.replicate ln.toNat 0), 0 ≤ d ∧ d < 2 ^ n.toNat) ∧
    ∀ rem qs, dloop b (2 ^ n.toNat) (dig1 n 60 a 0 ln (List.replicate ln.toNat 0)).reverse (0, []) = (rem, qs) →
      qs.length = ln.toNat ∧ (∀ q ∈ qs, 0 ≤ q) ∧ rem = a % b ∧ dig2 n 60 0 qs.length qs.reverse = a / b := by
  have hbits := bits_le (Int.le_of_lt ha) ha'
  have hbp := bits_pos hb
  rw [← hn] at hbp
  have hlq := lenq (x := Builtin.Int.intBits a) (n := n) (bits_pos ha) (by omega) hbp
  rw [← hln] at hlq
  have hP : (0 : Int) < 2 ^ n.toNat := pow_pos2 _
  obtain ⟨c, hc⟩ := Int.eq_ofNat_of_zero_le (Int.le_of_lt hlq.1)
  have hlt : a < ((2 : Int) ^ n.toNat) ^ c := by
    rw [← Int.pow_mul]
    have h1 : ((Builtin.Int.intBits a : Nat) : Int) ≤ n * c := by
      rw [fdiv_pos hbp] at hln
      have h2 := Int.lt_mul_ediv_self_add (x := ((Builtin.Int.intBits a : Nat) : Int) + n - 1) hbp
      rw [← hln, hc] at h2
      omega
    have h3 : Builtin.Int.intBits a ≤ n.toNat * c := by
      have h4 : ((n.toNat * c : Nat) : Int) = n * c := by rw [Int.natCast_mul, Int.toNat_of_nonneg (Int.le_of_lt hbp)]
      omega
    have h5 := intBits_le_iff.mp h3
    have h6 : ((a.natAbs : Nat) : Int) = a := Int.natAbs_of_nonneg (Int.le_of_lt ha)
    have h7 : ((a.natAbs : Nat) : Int) < ((2 ^ (n.toNat * c) : Nat) : Int) := Int.ofNat_lt.mpr h5
    rw [h6, Int.natCast_pow] at h7
    exact h7
  have hc0 : 0 < c := by omega
  have e1 := dig1_eq hbp 60 0 c a (List.replicate c 0) hc0 (by rw [List.length_replicate]; omega) (by omega) (Int.le_of_lt ha) (by rw [Nat.sub_zero]; exact hlt)
  rw [Nat.sub_zero, List.take_zero, List.nil_append, List.drop_of_length_le (by rw [List.length_replicate]; exact Nat.le_refl _), List.append_nil] at e1
  subst hc
  rw [Int.toNat_natCast]
  have e1' : dig1 n 60 a 0 ((c : Nat) : Int) (List.replicate c 0) = dgs (2 ^ n.toNat) c a := e1
  rw [e1']
  refine ⟨dgs_len _ _ _, hc0, by omega, dgs_range hP c a, ?_⟩
  intro rem qs hd
  obtain ⟨qs', r', e, hl, g0, g1, hq, hv⟩ := dloop_spec hb hP (dgs (2 ^ n.toNat) c a).reverse 0 [] (Int.le_refl _) hb (fun x hx => (dgs_range hP c a x (List.mem_reverse.mp hx)).1)
  rw [hd, List.nil_append] at e
  obtain ⟨rfl, rfl⟩ := Prod.mk.inj e
  rw [List.length_reverse, dgs_len] at hl
  rw [← lval_reverse, List.reverse_reverse, lval_dgs hP c a (Int.le_of_lt ha) hlt] at hv
  refine ⟨hl, hq, ?_, ?_⟩
  · rw [hv, Int.mul_add_emod_self_left, Int.emod_eq_of_lt g0 g1]
  · have e2 := dig2_eq hbp 60 0 qs.length qs.reverse (by omega) (by rw [List.length_reverse]; exact Nat.le_refl _) (by omega)
    rw [Nat.sub_zero, List.drop_zero, List.take_of_length_le (by rw [List.length_reverse]; exact Nat.le_refl _), lval_reverse] at e2
    refine e2.trans ?_
    rw [hv, Int.mul_add_ediv_left _ _ (by omega), Int.ediv_eq_zero_of_lt g0 g1, Int.add_zero]
end

section
theorem off9 : True := by w_top off; trivial
theorem OffI.of {I : Addr} {it : Obj} : ∀ {l : Led}, (∀ p ∈ l, p.1 ≠ I) → OffI I it l
  | [], _ => trivial
  | p :: _, h => ⟨.inl (h p (.head _)), OffI.of fun q hq => h q (.tail _ hq)⟩

theorem append_L {prog : Program} {w : World} {A : Around} {E : Value → Shared → Prop} {s : Shared} {h₀ : Heap} {L D : Addr} {m : Str → Option Value} {news : Led} {vs : List Value} {n : Nat} {x : Value} {Q : Value → Shared → Prop} {g : Obj → Led} (F : Fr h₀ L s.heap m) (N : News h₀ L s.heap news) (U : UpdF D (listOf vs.toArray n) news g)
    (h : ∀ h', Fr h₀ L h' m → News h₀ L h' (g (listOf (vs ++ [x]).toArray (n + 1))) → Q .none { s with heap := h' }) (hsz : vs.length ≤ 1000) : wpAny (model prog w) A (call (.builtin "list.append") [.ref D, x]) Q E s := by
  refine append_K F N (UpdF.upd (o' := listOf (vs.toArray.push x) (n + 1)) U) (fun h' F' N' => h h' F' ?_) (by rw [List.size_toArray, sizeLine_eq]; omega)
  rw [List.push_toArray] at N'
  exact N'

theorem rev_ind {prog : Program} {w : World} {A : Around} {E : Value → Shared → Prop} {h₀ : Heap} {env : Env} {xn : Str} {body : List Stmt} {Q : Flow → Shared → Prop} {s : Shared} {I : Addr} {lp : Addr × Obj} (J : List Value → (Str → Option Value) → Led → Prop)
    (base : ∀ m news, J [] m news → ∀ h tk, Fr h₀ env.locals h m → News h₀ env.locals h news → Q .next { s with heap := h, toks := tk })
    (step : ∀ v r m news, J (v :: r) m news → ∀ (it : Obj) h tk, it.cls = .type "list_reverseiterator" → Fr h₀ env.locals h (fun y => if y = xn then some v else m y) → News h₀ env.locals h ((I, it) :: news) →
      wpAny (model prog w) A (execs body env) (UnrPost h₀ env.locals { s with heap := h, toks := tk } I it (fun m' n' => lp ∈ n' ∧ J r m' n') Q) E { s with heap := h, toks := tk }) :
    ∀ r m news, J r m news → RevRest prog w A E h₀ env xn body Q s I lp r m news
  | [], m, news, hj => base m news hj
  | v :: r, m, news, hj => fun it h tk hc F N => wpAny_mono (step v r m news hj it h tk hc F N) (fun f s2 hp => by
      have up : UnrEnd h₀ env.locals { s with heap := h, toks := tk } I it (fun m' n' => lp ∈ n' ∧ J r m' n') s2 → UnrEnd h₀ env.locals { s with heap := h, toks := tk } I it (fun m' n' => lp ∈ n' ∧ RevRest prog w A E h₀ env xn body Q s I lp r m' n') s2 := by
        rintro ⟨h', tk', m', n', e, F', N', o, hl, hj'⟩
        exact ⟨h', tk', m', n', e, F', N', o, hl, rev_ind J base step r m' n' hj'⟩
      cases f with
      | ret v => exact hp
      | brk => exact hp
      | next => exact up hp
      | cont => exact up hp) fun _ _ e => e
theorem gen_fr {h₀ h : Heap} {L : Addr} {m : Str → Option Value} {G : Prop} (F : Fr h₀ L h m) (k : ∀ M, M = m → Fr h₀ L h M → G) : G := k m rfl F

theorem canon3 (m' M : Str → Option Value) (v : Option Value) (hr : m' (PySem.Str.ofString "r") = v) (hM : ∀ z, z ≠ PySem.Str.ofString "r" → z ≠ PySem.Str.ofString "a_digit" → z ≠ PySem.Str.ofString "q_digit" → m' z = M z) :
    m' = (fun z => if z = PySem.Str.ofString "r" then v else if z = PySem.Str.ofString "a_digit" then m' z else if z = PySem.Str.ofString "q_digit" then m' z else M z) := by
  funext z
  by_cases h1 : z = PySem.Str.ofString "r"
  · rw [if_pos h1, h1]; exact hr
  · rw [if_neg h1]
    by_cases h2 : z = PySem.Str.ofString "a_digit"
    · rw [if_pos h2]
    · rw [if_neg h2]
      by_cases h3 : z = PySem.Str.ofString "q_digit"
      · rw [if_pos h3]
      · rw [if_neg h3]; exact hM z h1 h2 h3
theorem reverse_L {prog : Program} {w : World} {A : Around} {E : Value → Shared → Prop} {s : Shared} {h₀ : Heap} {L D : Addr} {m : Str → Option Value} {news : Led} {vs : List Value} {n : Nat} {Q : Value → Shared → Prop} {g : Obj → Led} (F : Fr h₀ L s.heap m) (N : News h₀ L s.heap news) (U : UpdF D (listOf vs.toArray n) news g)
    (h : ∀ h', Fr h₀ L h' m → News h₀ L h' (g (listOf vs.reverse.toArray n)) → Q .none { s with heap := h' }) (hsz : vs.length ≤ 1000) : wpAny (model prog w) A (call (.builtin "list.reverse") [.ref D]) Q E s :=
  kl_reverse F N rfl (UpdF.upd (o' := listOf vs.reverse.toArray n) U) (by rw [sizeLine_eq, show vs.toArray.toList = vs from rfl]; omega) h
def JDiv (b P : Int) (d l : Addr) (vs : List Value) (R : Led) (M : Str → Option Value) (tot : Int × List Int) (r : List Value) (m : Str → Option Value) (news : Led) : Prop :=
  ∃ rs rem tr qv qs k, ∃ u : Str → Option Value, IntsAre r rs ∧ IntsAre qv qs ∧ 0 ≤ rem ∧ rem < b ∧ (∀ x ∈ rs, 0 ≤ x ∧ x < P) ∧ qs.length + rs.length ≤ 60 ∧ dloop b P rs (rem, qs) = tot ∧
    m = (fun z => if z = PySem.Str.ofString "r" then some (.int rem tr) else if z = PySem.Str.ofString "a_digit" then u z else if z = PySem.Str.ofString "q_digit" then u z else M z) ∧
    news = (d, listOf qv.toArray k) :: (l, listOf vs.toArray 0) :: R
local macro_rules | `(tactic| walk_at "call builtin:list.reverse") => `(tactic| (k_dflt (refine' reverse_L ?k1 ?k2 ?k3 ?_ ?k4; (case k1 => k_asm); (case k2 => k_asm); (case k3 => k_updF); (case k4 => omega); k_whole); intro h' F' N'; (try dsimp only at N'); (try k_sweep)))
local macro_rules | `(tactic| walk_at "call builtin:list.append") => `(tactic| (k_dflt (refine' append_L ?k1 ?k2 ?k3 ?_ ?k4; (case k1 => k_asm); (case k2 => k_asm); (case k3 => k_updF); (case k4 => omega); k_whole); intro h' F' N'; (try dsimp only at N'); (try k_sweep)))
local macro_rules | `(tactic| walk_at "call ref") => `(tactic| ((with_reducible show wpAny _ _ (call (Value.ref _) [Value.int _ _, Value.int _ _, Value.int _ _]) _ _ _); refine Hold.of ?_))
local macro_rules | `(tactic| walk_at "call ref") => `(tactic| ((with_reducible show wpAny _ _ (call (Value.ref _) [Value.int _ _, Value.int _ _]) _ _ _); refine Hold.of ?_))
local macro_rules | `(tactic| walk_at "call ref") => `(tactic| ((with_reducible show wpAny _ _ (call (Value.ref _) [Value.ref _, Value.int _ _]) _ _ _); refine Hold.of ?_))
local macro_rules | `(tactic| walk_at "pyIter ref") => `(tactic| (refine Hold.of ?_))
section
variable {w : World} {p : Program} {loose : List Str} {mean : ExcName → Option Value} {mg mb : Str → Option Value} {dp un : Nat} {gd : Option (List Code)} {cn : Str} {cs : Scope} {a0 : Addr} {ccd : Value} {cl : List (Str × Addr)} {outer : List Env} {A₀ : Around} {base h₀ : Heap} {L : Addr} {m : Str → Option Value} {news : Led} {s : Shared} {Q E : Value → Shared → Prop}

theorem divmod_pos_c {a b : Int} {ta tb : Tok} {pre : Led} {x y : Option (Addr × Obj)} (B : Below A₀ base outer h₀) (F : Fr h₀ L s.heap m) (X : (hd.heap_39 w.params).In h₀) (N : News h₀ L s.heap (pre ++ (T30 x ++ T37 y))) (T : Top p loose mean mg mb h₀) (hk : cs.kind = .function)
    (c1 : CodeHd base 41 37) (c2 : CodeHd base 34 30) (hx : Ok30 x) (hy : Ok37 y) (hp : ∀ p ∈ pre, 37 < p.1) (ha : 0 < a) (ha' : a < 2 ^ 60) (hb : 0 < b) (hb' : b < 16) (hd : dp + 80 < recursionLimit) (hu : un + 1100 < cLine)
    (hret : ∀ t tq tr x' y' h' tk', Fr h₀ L h' m → News h₀ L h' ((t, tupObj [.int (a / b) tq, .int (a % b) tr]) :: (pre ++ (T30 x' ++ T37 y'))) → Ok30 x' → Ok37 y' → 86 < t → (∀ p ∈ pre, p.1 < t) → Q (.ref t) { s with heap := h', toks := tk' }) :
    wpAny (model PySem.Challenge.rw_ia0011_01.row.prog w) (ktrTop dp un gd cn cs L a0 ccd cl outer) (call (.ref 49) [.int a ta, .int b tb]) Q E s := by
  have hbits := bits_le (Int.le_of_lt ha) ha'
  have hbb := bits_le (k := 4) (Int.le_of_lt hb) hb'
  have hbp := bits_pos hb
  generalize hR0 : pre ++ (T30 x ++ T37 y) = R0 at N
  refine wpAny_call ?_
  k_dflt (refine' code_def ?k1 ?k2 ?k3 ?k4 ?k5 ?kA ?kF ?kK ?k6 ?k7 ?k8 ?k9 ?kB ?_ ?c2 ?c3 ?c4 ?c5; (case kA => exact rfl); (case kF => exact rfl); (case kK => assumption); (case k1 => k_asm); (case k2 => k_asm); (case k3 => k_asm); (case k4 => k_asm); (case k5 => k_asm); (case k6 => k_is); (case k7 => k_is); (case k8 => k_room); (case k9 => exact BindsTo.of_eq rfl); (case c5 => decide); (case kB => exact locs rfl); (case c2 => exact rfl); (case c3 => exact rfl); (case c4 => exact rfl); k_whole; intro g' L' h' FG' F' N' B' X' T'; (try dsimp only); (try k_fold))
  k_steps
  unfold Hold
  subst hR0
  refine' int2digits_any (x := x) (news := pre ++ T37 y) B' ?F X' ?N T' rfl c2 hx ?hR ha ha' hbp (by omega) (by show dp + 1 + 74 < _; omega) (by show un + 3 + 1000 < _; omega) (fun l x' vs g1 tk1 F1 N1 hl hx' hI hlt => ?_)
  case F => k_asm
  case N => exact News.sub (by assumption) sub_mid
  case hR => exact fun p hp' => (List.mem_append.mp hp').elim (fun h => Nat.ne_of_gt (Nat.lt_trans (by decide) (hp p h))) (fun h => T37_ne30 hy p h)
  generalize hR1 : T30 x' ++ (pre ++ T37 y) = R1 at N1
  k_sweep
  k_steps
  unfold Hold
  have hP : (0 : Int) < 2 ^ ((Builtin.Int.intBits b : Nat) : Int).toNat ∧ (2 : Int) ^ ((Builtin.Int.intBits b : Nat) : Int).toNat ≤ 16 := by
    refine ⟨pow_pos2 _, ?_⟩
    have h4 : ((Builtin.Int.intBits b : Nat) : Int).toNat ≤ 4 := by omega
    generalize ((Builtin.Int.intBits b : Nat) : Int).toNat = e at h4
    have : e = 0 ∨ e = 1 ∨ e = 2 ∨ e = 3 ∨ e = 4 := by omega
    rcases this with rfl | rfl | rfl | rfl | rfl <;> decide
  have hdf := div_facts ha ha' hb hb' _ rfl _ rfl
  have hll := IntsAre.length hI
  obtain ⟨w1, w2, w3, hdr, hfin⟩ := hdf
  rw [w1] at hll
  generalize hds : dig1 ((Builtin.Int.intBits b : Nat) : Int) 60 a 0 ((((Builtin.Int.intBits a : Nat) : Int) + ((Builtin.Int.intBits b : Nat) : Int) - 1).fdiv ((Builtin.Int.intBits b : Nat) : Int)) (List.replicate ((((Builtin.Int.intBits a : Nat) : Int) + ((Builtin.Int.intBits b : Nat) : Int) - 1).fdiv ((Builtin.Int.intBits b : Nat) : Int)).toNat 0) = ds at hI w1 hdr hfin
  generalize ((((Builtin.Int.intBits a : Nat) : Int) + ((Builtin.Int.intBits b : Nat) : Int) - 1).fdiv ((Builtin.Int.intBits b : Nat) : Int)).toNat = cnt at w1 w2 w3 hfin hll
  have hI2 := hI
  rename_i d _ l9 _ I _ F9 N9 l8
  refine gen_fr F9 (fun M hM F8 => ?_)
  have hr0 : ∃ tr, M (PySem.Str.ofString "r") = some (.int 0 tr) := ⟨_, by rw [hM]; rfl⟩
  obtain ⟨tr0, hr0⟩ := hr0
  refine iter_revUnr (lo := listOf vs.toArray 0) (vs := vs) (m₀ := M) rfl F8 N9 (OffI.of ?off) (by k_mem) rfl rfl
    (rev_ind (JDiv b (2 ^ ((Builtin.Int.intBits b : Nat) : Int).toNat) d l vs R1 M (dloop b (2 ^ ((Builtin.Int.intBits b : Nat) : Int).toNat) ds.reverse (0, []))) ?base ?step _ _ _
      ⟨ds.reverse, 0, tr0, [], [], 0, M, IntsAre.reverse hI2, .nil, Int.le_refl _, hb, fun x hx => hdr x (List.mem_reverse.mp hx), by rw [List.length_reverse, w1]; simpa using w3, rfl, ?m0, rfl⟩)
  case m0 =>
    funext z
    by_cases h1 : z = PySem.Str.ofString "r"
    · rw [if_pos h1, h1]
      exact hr0
    · have e : ∀ (c1 c2 : Prop) [Decidable c1] [Decidable c2] (v : Option Value), (if c1 then v else if c2 then v else v) = v := by
        intro c1 c2 _ _ v
        split
        · rfl
        · split <;> rfl
      exact ((if_neg h1).trans (e _ _ _)).symm
  case off =>
    exact List.forall_mem_cons.mpr ⟨Nat.ne_of_lt l8.1, List.forall_mem_cons.mpr ⟨Nat.ne_of_lt l8.2.1, fun p hp => Nat.ne_of_lt (ktn_ltOf l8.2.2 p hp)⟩⟩
  case base =>
    subst hM
    clear F9 N9 F8 hr0
    rintro m9 news9 ⟨rs, rem, tr, qv, qs, k, u, j1, j2, j3, j4, j5, j6, j7, rfl, rfl⟩ h9 tk9 F9 N9
    cases j1
    obtain ⟨z1, z2, z3, z4⟩ := hfin rem qs j7.symm
    subst z3
    have hqv := IntsAre.length j2
    have l10 : d ≠ l := Nat.ne_of_gt l9.1
    k_steps
    unfold Hold
    subst hR1
    refine' digits2int_any (x := y) (news := (d, listOf qv.reverse.toArray k) :: (l, listOf vs.toArray 0) :: (T30 x' ++ pre)) B' ?F X' ?N T' rfl c1 c2 hy ?hR hbp (by omega) (.head _) (IntsAre.reverse j2) (by rw [List.length_reverse]; omega) (by rw [List.length_reverse]; omega) (fun q hq => z2 q (List.mem_reverse.mp hq)) (by rw [List.length_reverse, z4]; exact Int.lt_of_le_of_lt (Int.ediv_le_self _ (Int.le_of_lt ha)) ha') (by show dp + 1 + 74 < _; omega) (by show un + 3 + 1000 < _; omega) (fun y' t9 g9 tk8 F3 N3 hy' => ?_)
    case F => k_asm
    case N =>
      refine News.sub (by assumption) (fun p hp => ?_)
      simp only [List.mem_append, List.mem_cons] at hp ⊢
      rcases hp with h | h | h | h | h <;> simp [h]
    case hR =>
      have l86 : ∀ e : Nat, 86 < e → e ≠ 37 := fun e he => by omega
      exact List.forall_mem_cons.mpr ⟨l86 _ (Nat.lt_trans hl l9.1), List.forall_mem_cons.mpr ⟨l86 _ hl, fun p hp' => (List.mem_append.mp hp').elim (fun h => T30_ne37 hx' p h) (fun h => Nat.ne_of_gt (hp p h))⟩⟩
    k_sweep
    rw [List.length_reverse, z4]
    k_steps
    rename_i l7 kF kN _ _
    refine hret _ _ _ x' y' _ _ kF (List.forall_mem_cons.mpr ⟨kN _ (.head _), fun p hp => kN p (.tail _ ?_)⟩) hx' hy' ?_ ?_
    · show p ∈ T37 y' ++ ((d, listOf qv.reverse.toArray k) :: (l, listOf vs.toArray 0) :: (T30 x' ++ pre))
      simp only [List.mem_append, List.mem_cons] at hp ⊢
      rcases hp with h | h | h <;> simp [h]
    · exact Nat.lt_trans hl (l7 (l, listOf vs.toArray 0) (by simp))
    · exact fun p hp => l7 p (by simp [hp])
  case step =>
    subst hM
    clear F9 N9 F8 hr0
    rintro v r m9 news9 ⟨rs, rem, tr, qv, qs, k, u, j1, j2, j3, j4, j5, j6, j7, rfl, rfl⟩ it h9 tk9 hit F9 N9
    cases j1 with
    | cons x t j1 =>
    have hx1 := j5 x (.head _)
    have hrp : 0 ≤ rem * 2 ^ ((Builtin.Int.intBits b : Nat) : Int).toNat ∧ rem * 2 ^ ((Builtin.Int.intBits b : Nat) : Int).toNat ≤ 15 * 16 :=
      ⟨Int.mul_nonneg j3 (Int.le_of_lt hP.1), Int.mul_le_mul (by omega) hP.2 (Int.le_of_lt hP.1) (by omega)⟩
    k_steps
    unfold Hold
    refine div2n1n_c B' F9 X' N9 T' rfl (by omega) (by omega) hb (by omega) (by omega) (by show dp + 1 + 4 < _; omega) (by show un + 3 + 100 < _; omega) (fun t2 tq2 tr2 g2 tk2 F2 N2 hlt2 => ?_)
    clear F9 N9
    k_lt hlt2
    have hq9 := IntsAre.length j2
    simp only [List.length_cons] at j6
    k_steps
    rename_i F3 N3
    refine UnrEnd.intro F3 N3 ((d, listOf (qv ++ [Value.int ((rem * 2 ^ ((Builtin.Int.intBits b : Nat) : Int).toNat + x) / b) tq2]).toArray (k + 1)) :: (l, listOf vs.toArray 0) :: R1) (fun p hp => .tail _ hp)
      (List.forall_mem_cons.mpr ⟨Nat.ne_of_lt l8.1, List.forall_mem_cons.mpr ⟨Nat.ne_of_lt l8.2.1, fun p hp => Nat.ne_of_lt (ktn_ltOf l8.2.2 p hp)⟩⟩)
      ⟨.tail _ (.head _), _, _, tr2, _, qs ++ [(rem * 2 ^ ((Builtin.Int.intBits b : Nat) : Int).toNat + x) / b], _, _, j1, IntsAre.append j2 (.cons _ _ .nil), Int.emod_nonneg _ (by omega), Int.emod_lt_of_pos _ hb, fun y hy => j5 y (.tail _ hy), by rw [List.length_append, List.length_singleton]; omega, j7, canon3 _ _ _ rfl (fun z h1 h2 h3 => by simp only [h1, h2, h3, if_false]), rfl⟩
end
end

section
theorem off10 : True := by w_top off; trivial
local macro_rules | `(tactic| walk_at "call ref") => `(tactic| ((with_reducible show wpAny _ _ (call (Value.ref _) [Value.int _ _, Value.int _ _]) _ _ _); refine Hold.of ?_))
section
variable {w : World} {p : Program} {loose : List Str} {mean : ExcName → Option Value} {mg mb : Str → Option Value} {dp un : Nat} {gd : Option (List Code)} {cn : Str} {cs : Scope} {a0 : Addr} {ccd : Value} {cl : List (Str × Addr)} {outer : List Env} {A₀ : Around} {base h₀ : Heap} {L : Addr} {m : Str → Option Value} {news : Led} {s : Shared} {Q E : Value → Shared → Prop}

theorem int_divmod_c {a b : Int} {ta tb : Tok} {pre : Led} {x y : Option (Addr × Obj)} (B : Below A₀ base outer h₀) (F : Fr h₀ L s.heap m) (X : (hd.heap_39 w.params).In h₀) (N : News h₀ L s.heap (pre ++ (T30 x ++ T37 y))) (T : Top p loose mean mg mb h₀) (hk : cs.kind = .function)
    (c1 : CodeHd base 41 37) (c2 : CodeHd base 34 30) (hx : Ok30 x) (hy : Ok37 y) (hp : ∀ p ∈ pre, 37 < p.1) (ha : 0 < a) (ha' : a < 2 ^ 60) (hb : 0 < b) (hb' : b < 16) (hd : dp + 82 < recursionLimit) (hu : un + 1110 < cLine)
    (hret : ∀ t tq tr x' y' h' tk', Fr h₀ L h' m → News h₀ L h' ((t, tupObj [.int (a / b) tq, .int (a % b) tr]) :: (pre ++ (T30 x' ++ T37 y'))) → Ok30 x' → Ok37 y' → 86 < t → (∀ p ∈ pre, p.1 < t) → Q (.ref t) { s with heap := h', toks := tk' }) :
    wpAny (model PySem.Challenge.rw_ia0011_01.row.prog w) (ktrTop dp un gd cn cs L a0 ccd cl outer) (call (.ref 56) [.int a ta, .int b tb]) Q E s := by
  generalize hR0 : pre ++ (T30 x ++ T37 y) = R0 at N
  refine wpAny_call ?_
  k_dflt (refine' code_def ?k1 ?k2 ?k3 ?k4 ?k5 ?kA ?kF ?kK ?k6 ?k7 ?k8 ?k9 ?kB ?_ ?c2 ?c3 ?c4 ?c5; (case kA => exact rfl); (case kF => exact rfl); (case kK => assumption); (case k1 => k_asm); (case k2 => k_asm); (case k3 => k_asm); (case k4 => k_asm); (case k5 => k_asm); (case k6 => k_is); (case k7 => k_is); (case k8 => k_room); (case k9 => exact BindsTo.of_eq rfl); (case c5 => decide); (case kB => exact locs rfl); (case c2 => exact rfl); (case c3 => exact rfl); (case c4 => exact rfl); k_whole; intro g' L' h' FG' F' N' B' X' T'; (try dsimp only); (try k_fold))
  k_steps
  unfold Hold
  subst hR0
  refine' divmod_pos_c (x := x) (y := y) (pre := pre) B' ?F X' ?N T' rfl c1 c2 hx hy hp ha ha' hb hb' (by show dp + 1 + 80 < _; omega) (by show un + 3 + 1100 < _; omega) (fun t tq tr x' y' g1 tk1 F1 N1 hx' hy' ht hlt => ?_)
  case F => k_asm
  case N => k_asm
  k_sweep
  k_steps
  rename_i kF kN _ _
  exact hret _ _ _ x' y' _ _ kF kN hx' hy' ht hlt
end
end

section
theorem off11 : True := by w_top off; trivial
/-- the number that is taken next -/
def num (top low : Int) : Int := low / top + (if decide (0 < low % top) = true then 1 else 0)
/-- what _law_taken finds -/
def takenF : Nat → Int → Int → List (Int × Int × Int)
  | 0, _, _ => []
  | k + 1, top, low => if 0 < top then (num top low, top, low) :: takenF k (top * num top low - low) (low * num top low) else []
/-- its ints stay small -/
def okc : Nat → Int → Int → Bool
  | 0, _, _ => true
  | k + 1, top, low => if 0 < top then decide (0 < low) && decide (low < 2 ^ 60) && decide (top < 16) && okc k (top * num top low - low) (low * num top low) else true
inductive Tups : List Value → Led → List (Int × Int × Int) → Prop
  | nil : Tups [] [] []
  | cons {a : Addr} {n1 n2 n3 : Int} {t1 t2 t3 : Tok} {vs : List Value} {l : Led} {acc : List (Int × Int × Int)} : Tups vs l acc →
      Tups (.ref a :: vs) ((a, tupObj [.int n1 t1, .int n2 t2, .int n3 t3]) :: l) ((n1, n2, n3) :: acc)
theorem Tups.snoc {a : Addr} {n1 n2 n3 : Int} {t1 t2 t3 : Tok} : ∀ {vs : List Value} {l : Led} {acc : List (Int × Int × Int)}, Tups vs l acc →
    Tups (vs ++ [.ref a]) (l ++ [(a, tupObj [.int n1 t1, .int n2 t2, .int n3 t3])]) (acc ++ [(n1, n2, n3)])
  | _, _, _, .nil => .cons .nil
  | _, _, _, .cons h => .cons (Tups.snoc h)
theorem Tups.len : ∀ {vs : List Value} {l : Led} {acc : List (Int × Int × Int)}, Tups vs l acc → vs.length = acc.length
  | _, _, _, .nil => rfl
  | _, _, _, .cons h => by rw [List.length_cons, List.length_cons, Tups.len h]

theorem mulOk {a b : Int} (ha : a.natAbs < 2 ^ 64) (hb : b.natAbs < 2 ^ 64) : IntMulOk a b :=
  IntMulOk.of_le (intBits_le_iff.mpr ha) (intBits_le_iff.mpr hb) (by decide)
theorem off30 {x : Option (Addr × Obj)} {h₀ h : Heap} {L d : Addr} {news : Led} {its : Array Value} {n : Nat} (hx : Ok30 x) (N : News h₀ L h news) (hs : ∀ p ∈ T30 x, p ∈ news) (hm : (d, listOf its n) ∈ news) : ∀ p ∈ T30 x, p.1 ≠ d := by
  intro p hp e
  have h1 := (N p (hs p hp)).1
  have h2 := (N _ hm).1
  rw [e, h2] at h1
  have h3 := Option.some.inj h1
  cases x with
  | none => rw [List.mem_singleton.mp hp] at h3; cases congrArg Obj.data h3
  | some q =>
    rcases List.mem_cons.mp hp with rfl | hp
    · cases congrArg Obj.data h3
    · rw [List.mem_singleton.mp hp] at h3
      obtain ⟨_, vs, t, hd, _⟩ := hx
      have h4 := congrArg Obj.data h3
      rw [hd] at h4
      cases h4
theorem off37 {x : Option (Addr × Obj)} {h₀ h : Heap} {L d : Addr} {news : Led} {its : Array Value} {n : Nat} (hx : Ok37 x) (N : News h₀ L h news) (hs : ∀ p ∈ T37 x, p ∈ news) (hm : (d, listOf its n) ∈ news) : ∀ p ∈ T37 x, p.1 ≠ d := by
  intro p hp e
  have h1 := (N p (hs p hp)).1
  have h2 := (N _ hm).1
  rw [e, h2] at h1
  have h3 := Option.some.inj h1
  cases x with
  | none => rw [List.mem_singleton.mp hp] at h3; cases congrArg Obj.data h3
  | some q =>
    rcases List.mem_cons.mp hp with rfl | hp
    · cases congrArg Obj.data h3
    · rw [List.mem_singleton.mp hp] at h3
      obtain ⟨_, vs, t, hd, _⟩ := hx
      have h4 := congrArg Obj.data h3
      rw [hd] at h4
      cases h4

/-- the while's state -/
def JT (pre : Led) (M : Str → Option Value) (fl : Addr) (tot : List (Int × Int × Int)) (n : Nat) (m : Str → Option Value) (news : Led) : Prop :=
  ∃ top low tt tl acc tups fvs k x y, ∃ u : Str → Option Value, Tups fvs tups acc ∧ Ok30 x ∧ Ok37 y ∧ (∀ p ∈ tups, fl < p.1) ∧ n + acc.length = 20 ∧ tot = acc ++ takenF n top low ∧ okc n top low = true ∧
    m = (fun z => if z = PySem.Str.ofString "top" then some (.int top tt) else if z = PySem.Str.ofString "low" then some (.int low tl) else if z = PySem.Str.ofString "often" then u z else if z = PySem.Str.ofString "rest" then u z else if z = PySem.Str.ofString "number" then u z else M z) ∧
    news = (fl, listOf fvs.toArray k) :: (tups ++ (pre ++ (T30 x ++ T37 y)))
theorem canonT (m' M : Str → Option Value) (v1 v2 : Option Value) (h1 : m' (PySem.Str.ofString "top") = v1) (h2 : m' (PySem.Str.ofString "low") = v2)
    (hM : ∀ z, z ≠ PySem.Str.ofString "top" → z ≠ PySem.Str.ofString "low" → z ≠ PySem.Str.ofString "often" → z ≠ PySem.Str.ofString "rest" → z ≠ PySem.Str.ofString "number" → m' z = M z) :
    m' = (fun z => if z = PySem.Str.ofString "top" then v1 else if z = PySem.Str.ofString "low" then v2 else if z = PySem.Str.ofString "often" then m' z else if z = PySem.Str.ofString "rest" then m' z else if z = PySem.Str.ofString "number" then m' z else M z) := by
  funext z
  by_cases g1 : z = PySem.Str.ofString "top"
  · rw [if_pos g1, g1]; exact h1
  rw [if_neg g1]
  by_cases g2 : z = PySem.Str.ofString "low"
  · rw [if_pos g2, g2]; exact h2
  rw [if_neg g2]
  by_cases g3 : z = PySem.Str.ofString "often"
  · rw [if_pos g3]
  rw [if_neg g3]
  by_cases g4 : z = PySem.Str.ofString "rest"
  · rw [if_pos g4]
  rw [if_neg g4]
  by_cases g5 : z = PySem.Str.ofString "number"
  · rw [if_pos g5]
  rw [if_neg g5]
  exact hM z g1 g2 g3 g4 g5
local macro_rules | `(tactic| walk_at "call ref") => `(tactic| ((with_reducible show wpAny _ _ (call (Value.ref _) [Value.int _ _, Value.int _ _]) _ _ _); refine Hold.of ?_))
local macro_rules | `(tactic| walk_at "exec While") => `(tactic| (refine Hold.of ?_))
local macro_rules | `(tactic| walk_at "call builtin:list.append") => `(tactic| (k_dflt (refine' append_L ?k1 ?k2 ?k3 ?_ ?k4; (case k1 => k_asm); (case k2 => k_asm); (case k3 => k_updF); (case k4 => omega); k_whole); intro h' F' N'; (try dsimp only at N'); (try k_sweep)))
local macro_rules | `(tactic| walk_at "call builtin:len") => `(tactic| (k_dflt (refine' len_K ?k1 ?k2 ?k3 ?_; (case k1 => k_asm); (case k2 => k_mem); (case k3 => omega); k_whole); intro t' tk'))
local macro_rules | `(tactic| walk_at "binaryOp Mult int int") => `(tactic| (refine mul_int ?_ (mulOk (by omega) (by omega))))
theorem T37_mem (y : Option (Addr × Obj)) : ∃ o, (37, o) ∈ T37 y := by
  cases y with
  | none => exact ⟨_, .head _⟩
  | some q => exact ⟨_, .head _⟩
section
variable {w : World} {p : Program} {loose : List Str} {mean : ExcName → Option Value} {mg mb : Str → Option Value} {dp un : Nat} {gd : Option (List Code)} {cn : Str} {cs : Scope} {a0 : Addr} {ccd : Value} {cl : List (Str × Addr)} {outer : List Env} {A₀ : Around} {base h₀ : Heap} {L : Addr} {m : Str → Option Value} {news : Led} {s : Shared} {Q E : Value → Shared → Prop}

theorem law_taken_c {top low : Int} {tt tl : Tok} {pre : Led} {x y : Option (Addr × Obj)} (B : Below A₀ base outer h₀) (F : Fr h₀ L s.heap m) (X : (hd.heap_39 w.params).In h₀) (N : News h₀ L s.heap (pre ++ (T30 x ++ T37 y))) (T : Top p loose mean mg mb h₀) (hk : cs.kind = .function)
    (c1 : CodeHd base 41 37) (c2 : CodeHd base 34 30) (hx : Ok30 x) (hy : Ok37 y) (hp : ∀ p ∈ pre, 37 < p.1) (hok : okc 20 top low = true) (hd : dp + 86 < recursionLimit) (hu : un + 1120 < cLine)
    (hret : ∀ fl fvs tups k x' y' h' tk', Fr h₀ L h' m → News h₀ L h' ((fl, listOf fvs.toArray k) :: (tups ++ (pre ++ (T30 x' ++ T37 y')))) → Tups fvs tups (takenF 20 top low) → Ok30 x' → Ok37 y' → 37 < fl → (∀ p ∈ tups, fl < p.1) → (∀ p ∈ pre, p.1 < fl) → Q (.ref fl) { s with heap := h', toks := tk' }) :
    wpAny (model PySem.Challenge.rw_ia0011_01.row.prog w) (ktrTop dp un gd cn cs L a0 ccd cl outer) (call (.ref 81) [.int top tt, .int low tl]) Q E s := by
  generalize hR0 : pre ++ (T30 x ++ T37 y) = R0 at N
  refine wpAny_call ?_
  k_dflt (refine' code_def ?k1 ?k2 ?k3 ?k4 ?k5 ?kA ?kF ?kK ?k6 ?k7 ?k8 ?k9 ?kB ?_ ?c2 ?c3 ?c4 ?c5; (case kA => exact rfl); (case kF => exact rfl); (case kK => assumption); (case k1 => k_asm); (case k2 => k_asm); (case k3 => k_asm); (case k4 => k_asm); (case k5 => k_asm); (case k6 => k_is); (case k7 => k_is); (case k8 => k_room); (case k9 => exact BindsTo.of_eq rfl); (case c5 => decide); (case kB => exact locs rfl); (case c2 => exact rfl); (case c3 => exact rfl); (case c4 => exact rfl); k_whole; intro g' L' h' FG' F' N' B' X' T'; (try dsimp only); (try k_fold))
  k_steps
  unfold Hold
  rename_i fl _ lfl _ F9 N9
  subst hR0
  refine gen_fr F9 (fun M hM F8 => ?_)
  have hr0 : ∃ t1 t2, M (PySem.Str.ofString "top") = some (.int top t1) ∧ M (PySem.Str.ofString "low") = some (.int low t2) := ⟨_, _, by rw [hM]; rfl, by rw [hM]; rfl⟩
  obtain ⟨t1, t2, hr1, hr2⟩ := hr0
  refine While_inv (JT pre M fl (takenF 20 top low)) (n₀ := 20) F8 N9 ⟨top, low, t1, t2, [], [], [], 0, x, y, M, .nil, hx, hy, fun _ h => (nomatch h), rfl, rfl, hok, canonT M M _ _ hr1 hr2 (fun _ _ _ _ _ _ => rfl), rfl⟩ ?_ ?hE
  case hE => with_unfolding_all passes_own
  subst hM
  clear F9 N9 F8 hr1 hr2 N
  rintro n m9 news9 h9 tk9 F9 N9 ⟨top9, low9, tt9, tl9, acc, tups, fvs, k, x9, y9, u, j1, j2, j3, j4, j5, j6, j7, rfl, rfl⟩
  have hfl := Tups.len j1
  by_cases ht : 0 < top9
  · cases n with
    | zero =>
      k_steps
      rename_i kF kN _ _
      refine hret fl fvs tups k x9 y9 _ _ kF kN ?_ j2 j3 ?_ j4 (fun p hp' => lfl p (by simp [hp']))
      · rw [takenF, List.append_nil] at j6
        rw [j6]
        exact j1
      · obtain ⟨o37, ho37⟩ := T37_mem y
        exact lfl (37, o37) (by simp [ho37])
    | succ n =>
      rw [okc, if_pos ht] at j7
      simp only [Bool.and_eq_true, decide_eq_true_eq] at j7
      obtain ⟨⟨⟨o1, o2⟩, o3⟩, o4⟩ := j7
      have hd1 : 0 ≤ low9 / top9 := Int.ediv_nonneg (Int.le_of_lt o1) (Int.le_of_lt ht)
      have hd2 : low9 / top9 ≤ low9 := Int.ediv_le_self _ (Int.le_of_lt o1)
      k_steps
      unfold Hold
      refine' int_divmod_c (x := x9) (y := y9) (pre := (fl, listOf fvs.toArray k) :: (tups ++ pre)) B' ?F X' ?N T' rfl c1 c2 j2 j3 ?hp o1 o2 ht o3 (by show dp + 1 + 82 < _; omega) (by show un + 3 + 1110 < _; omega) (fun t tq tr x' y' g1 tk1 F1 N1 hx' hy' ht' hlt => ?_)
      case F => k_asm
      case N => simpa only [List.cons_append, List.append_assoc] using N9
      case hp =>
        obtain ⟨o37, ho37⟩ := T37_mem y
        have hfl37 : 37 < fl := lfl (37, o37) (by simp [ho37])
        exact List.forall_mem_cons.mpr ⟨hfl37, fun p hp' => (List.mem_append.mp hp').elim (fun h => Nat.lt_trans hfl37 (j4 p h)) (fun h => hp p h)⟩
      clear F9 N9
      simp only [List.cons_append, List.append_assoc] at N1
      have hoff : ∀ p ∈ tups ++ (pre ++ (T30 x' ++ T37 y')), p.1 ≠ fl := by
        intro p hp'
        simp only [List.mem_append] at hp'
        rcases hp' with h | h | h | h
        · exact Nat.ne_of_gt (j4 p h)
        · exact Nat.ne_of_lt (lfl p (by simp [h]))
        · exact off30 hx' N1 (fun q hq => by simp [hq]) (.tail _ (.head _)) p h
        · exact off37 hy' N1 (fun q hq => by simp [hq]) (.tail _ (.head _)) p h
      have hltf : @LT.lt Nat _ fl t := hlt (fl, listOf fvs.toArray k) (.head _)
      generalize hR : tups ++ (pre ++ (T30 x' ++ T37 y')) = R at N1 hoff
      k_steps
      rename_i t2 _ l1a _ _ t3 _ l1b _ _ _ F3 N3
      subst hR
      have htn : ∃ tn, News g' L' _ [(t2, tupObj [Value.int (num top9 low9) tn, Value.int top9 tt9, Value.int low9 tl9])] := ⟨_, fun p hp' => N3 p (by rw [List.mem_singleton.mp hp']; exact .tail _ (.head _))⟩
      obtain ⟨tn, htn⟩ := htn
      refine WhileStep.intro (news₂ := (fl, listOf (fvs ++ [Value.ref t2]).toArray (k + 1)) :: ((tups ++ [(t2, tupObj [Value.int (num top9 low9) tn, Value.int top9 tt9, Value.int low9 tl9])]) ++ (pre ++ (T30 x' ++ T37 y')))) F3 ?N (Nat.lt_succ_self n)
        ⟨_, _, _, _, acc ++ [(num top9 low9, top9, low9)], _, _, k + 1, x', y', _, Tups.snoc j1, hx', hy', ?ord, by rw [List.length_append, List.length_singleton]; omega, ?tot, o4, canonT _ _ _ _ rfl rfl (fun z h1 h2 h3 h4 h5 => by simp only [h1, h2, h3, h4, h5, if_false]), rfl⟩
      case N =>
        intro p hp'
        simp only [List.mem_append, List.mem_cons, List.not_mem_nil, or_false] at hp'
        rcases hp' with h | (h | h) | h | h | h
        · exact N3 p (by simp [h])
        · exact N3 p (by simp [h])
        · exact htn p (by simp [h])
        · exact N3 p (by simp [h])
        · exact N3 p (by simp [h])
        · exact N3 p (by simp [h])
      case ord =>
        intro p hp'
        rcases List.mem_append.mp hp' with h | h
        · exact j4 p h
        · rw [List.mem_singleton.mp h]; exact l1a.2.1
      case tot => rw [j6, takenF, if_pos ht, List.append_assoc]; rfl
  · have hz : takenF n top9 low9 = [] := by
      cases n with
      | zero => rfl
      | succ n => rw [takenF, if_neg ht]
    k_steps
    rename_i kF kN _ _
    refine hret fl fvs tups k x9 y9 _ _ kF kN ?_ j2 j3 ?_ j4 (fun p hp' => lfl p (by simp [hp']))
    · rw [hz, List.append_nil] at j6
      rw [j6]
      exact j1
    · obtain ⟨o37, ho37⟩ := T37_mem y
      exact lfl (37, o37) (by simp [ho37])
end
end

section
theorem off12 : True := by w_top off; trivial
/-- rising, by places -/
def Srt (ds : List Int) : Prop := ∀ i j : Nat, i ≤ j → j < ds.length → ds.getD i 0 ≤ ds.getD j 0
/-- r parts the list: what is ahead is less than x, what stands from r on is not -/
def Cut (ds : List Int) (x r : Int) : Prop := 0 ≤ r ∧ r ≤ ds.length ∧ (∀ i : Nat, 0 ≤ (i : Int) → (i : Int) < r → ds.getD i 0 < x) ∧ ∀ i : Nat, r ≤ (i : Int) → i < ds.length → x ≤ ds.getD i 0
def JB (x : Int) (ds : List Int) (M : Str → Option Value) (news0 : Led) (n : Nat) (m : Str → Option Value) (news : Led) : Prop :=
  ∃ (lo hi : Int) (tlo thi : Tok), ∃ u : Str → Option Value, 0 ≤ lo ∧ lo ≤ hi ∧ hi ≤ ds.length ∧ n = (hi - lo).toNat ∧ (∀ i : Nat, 0 ≤ (i : Int) → (i : Int) < lo → ds.getD i 0 < x) ∧ (∀ i : Nat, hi ≤ (i : Int) → i < ds.length → x ≤ ds.getD i 0) ∧
    m = (fun z => if z = PySem.Str.ofString "lo" then some (.int lo tlo) else if z = PySem.Str.ofString "hi" then some (.int hi thi) else if z = PySem.Str.ofString "mid" then u z else M z) ∧ news = news0
theorem canonB (m' M : Str → Option Value) (v1 v2 : Option Value) (h1 : m' (PySem.Str.ofString "lo") = v1) (h2 : m' (PySem.Str.ofString "hi") = v2)
    (hM : ∀ z, z ≠ PySem.Str.ofString "lo" → z ≠ PySem.Str.ofString "hi" → z ≠ PySem.Str.ofString "mid" → m' z = M z) :
    m' = (fun z => if z = PySem.Str.ofString "lo" then v1 else if z = PySem.Str.ofString "hi" then v2 else if z = PySem.Str.ofString "mid" then m' z else M z) := by
  funext z
  by_cases g1 : z = PySem.Str.ofString "lo"
  · rw [if_pos g1, g1]; exact h1
  rw [if_neg g1]
  by_cases g2 : z = PySem.Str.ofString "hi"
  · rw [if_pos g2, g2]; exact h2
  rw [if_neg g2]
  by_cases g3 : z = PySem.Str.ofString "mid"
  · rw [if_pos g3]
  rw [if_neg g3]
  exact hM z g1 g2 g3
local macro_rules | `(tactic| walk_at "exec While") => `(tactic| (refine Hold.of ?_))
local macro_rules | `(tactic| walk_at "call builtin:len") => `(tactic| (k_dflt (refine' len_K ?k1 ?k2 ?k3 ?_; (case k1 => k_asm); (case k2 => k_mem); (case k3 => omega); k_whole); intro t' tk'))
local macro_rules | `(tactic| k_mem) => `(tactic| ((fail_if_success (show List.Mem _ (_ :: _))); (show (_ : Addr × Obj) ∈ (_ : Led)); ktr_member))
local macro_rules | `(tactic| walk_at "subscriptTail") => `(tactic| ((with_reducible show wpAny _ _ (subscriptTail _ _ (Value.ref _) (Value.int _ _)) _ _ _); k_dflt (refine' ksa_sub ?k1 ?k2 ?k3 ?k4 ?k5 ?k6 ?_ ?k7; (case k1 => k_asm); (case k2 => k_mem); (case k3 => with_reducible assumption); (case k4 => omega); (case k5 => omega); (case k6 => omega); (case k7 => with_unfolding_all rfl); k_whole); intro _))
section
variable {w : World} {p : Program} {loose : List Str} {mean : ExcName → Option Value} {mg mb : Str → Option Value} {dp un : Nat} {gd : Option (List Code)} {cn : Str} {cs : Scope} {a0 : Addr} {ccd : Value} {cl : List (Str × Addr)} {outer : List Env} {A₀ : Around} {base h₀ : Heap} {L : Addr} {m : Str → Option Value} {news : Led} {s : Shared} {Q E : Value → Shared → Prop}

theorem bisect2_c {l : Addr} {vs : List Value} {ds : List Int} {k : Nat} {x : Int} {tx : Tok} (B : Below A₀ base outer h₀) (F : Fr h₀ L s.heap m) (X : (hd.heap_39 w.params).In h₀) (N : News h₀ L s.heap news) (T : Top p loose mean mg mb h₀) (hk : cs.kind = .function)
    (ml : (l, listOf vs.toArray k) ∈ news) (hI : IntsAre vs ds) (hs : Srt ds) (hl : ds.length ≤ 60) (hd : dp + 6 < recursionLimit) (hu : un + 100 < cLine)
    (hret : ∀ (r : Int) t h' tk', Fr h₀ L h' m → News h₀ L h' news → Cut ds x r → Q (.int r t) { s with heap := h', toks := tk' }) :
    wpAny (model PySem.Challenge.rw_ia0011_01.row.prog w) (ktrTop dp un gd cn cs L a0 ccd cl outer) (call (.ref 74) [.ref l, .int x tx]) Q E s := by
  have hvl := IntsAre.length hI
  refine wpAny_call ?_
  k_dflt (refine' code_def ?k1 ?k2 ?k3 ?k4 ?k5 ?kA ?kF ?kK ?k6 ?k7 ?k8 ?k9 ?kB ?_ ?c2 ?c3 ?c4 ?c5; (case kA => exact rfl); (case kF => exact rfl); (case kK => assumption); (case k1 => k_asm); (case k2 => k_asm); (case k3 => k_asm); (case k4 => k_asm); (case k5 => k_asm); (case k6 => k_is); (case k7 => k_is); (case k8 => k_room); (case k9 => (refine' kp_binds ?kx ?ke; (case kx => k_in); (case ke => exact fun _ => rfl))); (case c5 => decide); (case kB => exact locs rfl); (case c2 => exact rfl); (case c3 => exact rfl); (case c4 => exact rfl); k_whole; intro g' L' h' FG' F' N' B' X' T'; (try dsimp only); (try k_fold))
  k_steps
  unfold Hold
  rename_i F9 N9
  refine gen_fr F9 (fun M hM F8 => ?_)
  have hr0 : ∃ t1 t2, M (PySem.Str.ofString "lo") = some (.int 0 t1) ∧ M (PySem.Str.ofString "hi") = some (.int ds.length t2) := ⟨_, _, by rw [hM]; rfl, by rw [hM, ← hvl]; rfl⟩
  obtain ⟨t1, t2, hr1, hr2⟩ := hr0
  refine While_inv (JB x ds M news) (n₀ := ds.length) F8 N9 ⟨0, ds.length, t1, t2, M, Int.le_refl _, by omega, by omega, by omega, fun i _ h => by omega, fun i h1 h2 => by omega, canonB M M _ _ hr1 hr2 (fun _ _ _ _ => rfl), rfl⟩ ?_ ?hE
  case hE => with_unfolding_all passes_own
  subst hM
  clear F9 N9 F8 hr1 hr2 N
  rintro n m9 news9 h9 tk9 F9 N9 ⟨lo, hi, tlo, thi, u, j1, j2, j3, j4, j5, j6, rfl, rfl⟩
  by_cases hc : lo < hi
  · have e2 : (lo + hi).fdiv 2 = (lo + hi) / 2 := fdiv_pos (by omega)
    have b1 : lo ≤ (lo + hi).fdiv 2 := by omega
    have b2 : (lo + hi).fdiv 2 < hi := by omega
    by_cases hx : ds.getD ((lo + hi).fdiv 2).toNat 0 < x
    · k_steps
      rename_i F3 N3
      refine WhileStep.intro (n' := (hi - ((lo + hi).fdiv 2 + 1)).toNat) F3 N3 (by omega) ⟨_, _, _, _, _, by omega, by omega, j3, by omega, ?_, j6, canonB _ _ _ _ rfl rfl (fun z h1 h2 h3 => by simp only [h1, h2, h3, if_false]), rfl⟩
      intro i i1 i2
      have := hs i ((lo + hi).fdiv 2).toNat (by omega) (by omega)
      omega
    · k_steps
      rename_i F3 N3
      refine WhileStep.intro (n' := ((lo + hi).fdiv 2 - lo).toNat) F3 N3 (by omega) ⟨_, _, _, _, _, j1, by omega, by omega, by omega, j5, ?_, canonB _ _ _ _ rfl rfl (fun z h1 h2 h3 => by simp only [h1, h2, h3, if_false]), rfl⟩
      intro i i1 i2
      have := hs ((lo + hi).fdiv 2).toNat i (by omega) (by omega)
      omega
  · k_steps
    rename_i kF kN _ _
    have e : lo = hi := by omega
    exact hret lo _ _ _ kF kN ⟨j1, by omega, j5, fun i h1 h2 => j6 i (by omega) h2⟩

theorem bisect4_c {l : Addr} {vs : List Value} {ds : List Int} {k : Nat} {x : Int} {tx : Tok} {t0 : Tok} (B : Below A₀ base outer h₀) (F : Fr h₀ L s.heap m) (X : (hd.heap_39 w.params).In h₀) (N : News h₀ L s.heap news) (T : Top p loose mean mg mb h₀) (hk : cs.kind = .function)
    (ml : (l, listOf vs.toArray k) ∈ news) (hI : IntsAre vs ds) (hs : Srt ds) (hl : ds.length ≤ 60) (hd : dp + 6 < recursionLimit) (hu : un + 100 < cLine)
    (hret : ∀ (r : Int) t h' tk', Fr h₀ L h' m → News h₀ L h' news → Cut ds x r → Q (.int r t) { s with heap := h', toks := tk' }) :
    wpAny (model PySem.Challenge.rw_ia0011_01.row.prog w) (ktrTop dp un gd cn cs L a0 ccd cl outer) (call (.ref 74) [.ref l, .int x tx, .int 0 t0, .none]) Q E s := by
  have hvl := IntsAre.length hI
  refine wpAny_call ?_
  k_dflt (refine' code_def ?k1 ?k2 ?k3 ?k4 ?k5 ?kA ?kF ?kK ?k6 ?k7 ?k8 ?k9 ?kB ?_ ?c2 ?c3 ?c4 ?c5; (case kA => exact rfl); (case kF => exact rfl); (case kK => assumption); (case k1 => k_asm); (case k2 => k_asm); (case k3 => k_asm); (case k4 => k_asm); (case k5 => k_asm); (case k6 => k_is); (case k7 => k_is); (case k8 => k_room); (case k9 => (refine' kp_binds ?kx ?ke; (case kx => k_in); (case ke => exact fun _ => rfl))); (case c5 => decide); (case kB => exact locs rfl); (case c2 => exact rfl); (case c3 => exact rfl); (case c4 => exact rfl); k_whole; intro g' L' h' FG' F' N' B' X' T'; (try dsimp only); (try k_fold))
  k_steps
  unfold Hold
  rename_i F9 N9
  refine gen_fr F9 (fun M hM F8 => ?_)
  have hr0 : ∃ t1 t2, M (PySem.Str.ofString "lo") = some (.int 0 t1) ∧ M (PySem.Str.ofString "hi") = some (.int ds.length t2) := ⟨_, _, by rw [hM]; rfl, by rw [hM, ← hvl]; rfl⟩
  obtain ⟨t1, t2, hr1, hr2⟩ := hr0
  refine While_inv (JB x ds M news) (n₀ := ds.length) F8 N9 ⟨0, ds.length, t1, t2, M, Int.le_refl _, by omega, by omega, by omega, fun i _ h => by omega, fun i h1 h2 => by omega, canonB M M _ _ hr1 hr2 (fun _ _ _ _ => rfl), rfl⟩ ?_ ?hE
  case hE => with_unfolding_all passes_own
  subst hM
  clear F9 N9 F8 hr1 hr2 N
  rintro n m9 news9 h9 tk9 F9 N9 ⟨lo, hi, tlo, thi, u, j1, j2, j3, j4, j5, j6, rfl, rfl⟩
  by_cases hc : lo < hi
  · have e2 : (lo + hi).fdiv 2 = (lo + hi) / 2 := fdiv_pos (by omega)
    have b1 : lo ≤ (lo + hi).fdiv 2 := by omega
    have b2 : (lo + hi).fdiv 2 < hi := by omega
    by_cases hx : ds.getD ((lo + hi).fdiv 2).toNat 0 < x
    · k_steps
      rename_i F3 N3
      refine WhileStep.intro (n' := (hi - ((lo + hi).fdiv 2 + 1)).toNat) F3 N3 (by omega) ⟨_, _, _, _, _, by omega, by omega, j3, by omega, ?_, j6, canonB _ _ _ _ rfl rfl (fun z h1 h2 h3 => by simp only [h1, h2, h3, if_false]), rfl⟩
      intro i i1 i2
      have := hs i ((lo + hi).fdiv 2).toNat (by omega) (by omega)
      omega
    · k_steps
      rename_i F3 N3
      refine WhileStep.intro (n' := ((lo + hi).fdiv 2 - lo).toNat) F3 N3 (by omega) ⟨_, _, _, _, _, j1, by omega, by omega, by omega, j5, ?_, canonB _ _ _ _ rfl rfl (fun z h1 h2 h3 => by simp only [h1, h2, h3, if_false]), rfl⟩
      intro i i1 i2
      have := hs ((lo + hi).fdiv 2).toNat i (by omega) (by omega)
      omega
  · k_steps
    rename_i kF kN _ _
    have e : lo = hi := by omega
    exact hret lo _ _ _ kF kN ⟨j1, by omega, j5, fun i h1 h2 => j6 i (by omega) h2⟩

end
end

section
theorem off13 : True := by w_top off; trivial
theorem insert_L {prog : Program} {w : World} {A : Around} {E : Value → Shared → Prop} {s : Shared} {h₀ : Heap} {L D : Addr} {m : Str → Option Value} {news : Led} {vs : List Value} {n : Nat} {x : Int} {u : Tok} {y : Value} {Q : Value → Shared → Prop} {g : Obj → Led} (F : Fr h₀ L s.heap m) (N : News h₀ L s.heap news) (U : UpdF D (listOf vs.toArray n) news g)
    (hx : x = vs.length) (hsz : vs.length ≤ 1000) (h : ∀ h', Fr h₀ L h' m → News h₀ L h' (g (listOf (vs ++ [y]).toArray (n + 1))) → Q .none { s with heap := h' }) : wpAny (model prog w) A (call (.builtin "list.insert") [.ref D, .int x u, y]) Q E s := by
  refine kl_insert F N ?_ ?_ (UpdF.upd (o' := listOf (vs ++ [y]).toArray (n + 1)) U) (by rw [sizeLine_eq, show vs.toArray.toList = vs from rfl]; omega) h
  · unfold Builtin.List.listFitsIndex
    simp only [Bool.and_eq_true, decide_eq_true_eq]
    omega
  · subst hx
    show kl_ins vs (vs.length : Int) y = vs ++ [y]
    unfold kl_ins
    rw [if_neg (by omega), Int.toNat_natCast, Nat.min_self, List.take_length, List.drop_length]
local macro_rules | `(tactic| walk_at "call ref") => `(tactic| ((with_reducible show wpAny _ _ (call (Value.ref _) [Value.ref _, Value.int _ _, Value.int _ _, Value.none]) _ _ _); refine Hold.of ?_))
local macro_rules | `(tactic| walk_at "call builtin:list.insert") => `(tactic| (k_dflt (refine' insert_L ?k1 ?k2 (by assumption) ?k4 ?k5 ?_; (case k1 => k_asm); (case k2 => k_asm); (case k4 => omega); (case k5 => omega); k_whole); intro h' F' N'; (try dsimp only at N'); (try k_sweep)))
local macro_rules | `(tactic| k_mem) => `(tactic| ((fail_if_success (show List.Mem _ (_ :: _))); (show (_ : Addr × Obj) ∈ (_ : Led)); ktr_member))
section
variable {w : World} {p : Program} {loose : List Str} {mean : ExcName → Option Value} {mg mb : Str → Option Value} {dp un : Nat} {gd : Option (List Code)} {cn : Str} {cs : Scope} {a0 : Addr} {ccd : Value} {cl : List (Str × Addr)} {outer : List Env} {A₀ : Around} {base h₀ : Heap} {L : Addr} {m : Str → Option Value} {news : Led} {s : Shared} {Q E : Value → Shared → Prop}

theorem insort_c {l : Addr} {vs : List Value} {ds : List Int} {k : Nat} {x : Int} {tx : Tok} {g : Obj → Led} (B : Below A₀ base outer h₀) (F : Fr h₀ L s.heap m) (X : (hd.heap_39 w.params).In h₀) (N : News h₀ L s.heap news) (T : Top p loose mean mg mb h₀) (hk : cs.kind = .function)
    (U : UpdF l (listOf vs.toArray k) news g) (hI : IntsAre vs ds) (hs : Srt ds) (hlt : ∀ i : Nat, i < ds.length → ds.getD i 0 < x) (hl : ds.length ≤ 60) (hd : dp + 8 < recursionLimit) (hu : un + 110 < cLine)
    (hret : ∀ h' tk', Fr h₀ L h' m → News h₀ L h' (g (listOf (vs ++ [Value.int x tx]).toArray (k + 1))) → Q .none { s with heap := h', toks := tk' }) :
    wpAny (model PySem.Challenge.rw_ia0011_01.row.prog w) (ktrTop dp un gd cn cs L a0 ccd cl outer) (call (.ref 65) [.ref l, .int x tx]) Q E s := by
  have hvl := IntsAre.length hI
  have ml : (l, listOf vs.toArray k) ∈ news := by
    obtain ⟨p1, p2, e, _⟩ := U.split
    rw [e]
    exact List.mem_append_right _ (.head _)
  refine wpAny_call ?_
  k_dflt (refine' code_def ?k1 ?k2 ?k3 ?k4 ?k5 ?kA ?kF ?kK ?k6 ?k7 ?k8 ?k9 ?kB ?_ ?c2 ?c3 ?c4 ?c5; (case kA => exact rfl); (case kF => exact rfl); (case kK => assumption); (case k1 => k_asm); (case k2 => k_asm); (case k3 => k_asm); (case k4 => k_asm); (case k5 => k_asm); (case k6 => k_is); (case k7 => k_is); (case k8 => k_room); (case k9 => (refine' kp_binds ?kx ?ke; (case kx => k_in); (case ke => exact fun _ => rfl))); (case c5 => decide); (case kB => exact locs rfl); (case c2 => exact rfl); (case c3 => exact rfl); (case c4 => exact rfl); k_whole; intro g' L' h' FG' F' N' B' X' T'; (try dsimp only); (try k_fold))
  k_steps
  unfold Hold
  refine' bisect4_c (x := x) B' ?F X' ?N T' rfl ml hI hs hl (by show dp + 1 + 6 < _; omega) (by show un + 3 + 100 < _; omega) (fun r t g1 tk1 F1 N1 hc => ?_)
  case F => k_asm
  case N => k_asm
  obtain ⟨r0, r1, r2, r3⟩ := hc
  have hr : r = vs.length := by
    rcases Int.lt_or_le r ds.length with h | h
    · have a1 := r3 r.toNat (by omega) (by omega)
      have a2 := hlt r.toNat (by omega)
      omega
    · omega
  k_sweep
  k_steps
  rename_i kF kN _ _
  exact hret _ _ kF kN
end
end

section
theorem off14 : True := by w_top off; trivial
open PySem.Calls PySem.Spec PyProof.Rows.LCg
section
variable {prog : Program} {w : World} {A : Around} {E : Value → Shared → Prop} {s : Shared} {h₀ : Heap} {L : Addr} {m : Str → Option Value} {env : Env}

/-- the first of each three -/
abbrev fst3 (its : List (Addr × Value × Value × Value)) : List Value := its.map fun q => q.2.1

def Src3 (A : Around) (h₀ : Heap) (L : Addr) (m : Str → Option Value) (Q : Value → Shared → Prop) (xv : Value) (s₁ : Shared) : Prop :=
  ∃ ax its kk news, xv = .ref ax ∧ A.handled = none ∧ Fr h₀ L s₁.heap m ∧ News h₀ L s₁.heap news ∧ (ax, listOf ((its : List (Addr × Value × Value × Value)).map fun q => Value.ref q.1).toArray kk) ∈ news ∧ its.length ≤ sizeLine ∧
      (∀ q ∈ its, (q.1, tupObj [q.2.1, q.2.2.1, q.2.2.2]) ∈ news) ∧
      ∀ D h' tk, Fr h₀ L h' m → News h₀ L h' ((D, lst (fst3 its)) :: news) → (∀ p ∈ news, p.1 < D) → Q (.ref D) { s₁ with heap := h', toks := tk }

theorem comp3 {iter : PySem.Expr} {x x₂ x₃ : Str} {pe px px₂ px₃ tp : Pos} {tk} {scope : Scope} {cl : List (Str × Addr)} {pos : Pos} {Q : Value → Shared → Prop}
    (_F₀ : Fr h₀ L s.heap m) (hclos : closureFor scope env = pure cl) (hcell : ∀ y ∈ scope.names, y.2 ≠ .cell) (hkind : scope.kind = .function)
    (hnames : ∀ y ∈ scope.names, y.2 = .local → scope.names.lookup y.1 = some .local) (hx : scope.names.lookup x = some .local) (hx₂ : scope.names.lookup x₂ = some .local) (hx₃ : scope.names.lookup x₃ = some .local) (h12 : x ≠ x₂) (h13 : x ≠ x₃)
    (hdb : (x == ("__debug__" : Str)) = false)
    (hs : ∀ x, foldedSetIterable iter env x = pure x)
    (h : wpAny (model prog w) A (eval iter env) (Src3 A h₀ L m Q) E s) :
    wpAny (model prog w) A (eval (.ListComp (.Name x pe) [⟨.Tuple [.Name x px, .Name x₂ px₂, .Name x₃ px₃] tk tp, iter, [], 0⟩] scope pos) env) Q E s := by
  rw [eval_ListComp]
  refine wpAny_comprehension_free (use := none) rfl hs hclos hkind hnames (wpAny_mono h (fun xv s₁ h₁ => ?_) fun _ _ e => e)
  obtain ⟨ax, its, kk, news, rfl, hh, F, N, hm, hsz, hT, fin⟩ := h₁
  have hax := N _ hm
  have hl : s₁.heap.IsList ax (its.map fun q => Value.ref q.1).toArray := ⟨_, hax.1, rfl, kk, rfl⟩
  have hlt : @LT.lt Nat _ ax s₁.heap.objs.size := Heap.lt_size hax.1
  refine wpAny_pyIter_list hl ?_
  have W := Walks.list (prog := prog) (w := w) hh s₁.heap.objs.size ax (Nat.ne_of_lt hlt) (its.map fun q => Value.ref q.1).toArray
  have hn : (its.map fun q => Value.ref q.1).toArray.size = its.length := by simp
  rw [hn] at W
  have hI0 : (s₁.heap.push { cls := .type "list_iterator", data := .fields #[.ref ax, .int 0 0] }).objs.size = s₁.heap.objs.size + 1 := Heap.size_push ..
  refine wpAny_newObj_type (wpAny_newFunctionEnv hcell (by intro y hy; simp at hy) (fun h₁ hns₁ hsb₁ => ?_) hkind)
  dsimp only at hns₁ hsb₁ ⊢
  generalize hH1 : s₁.heap.push { cls := .type "list_iterator", data := .fields #[.ref ax, .int 0 0] } = H1 at hns₁ hsb₁ hI0 ⊢
  generalize hH2 : H1.push { cls := .type "list", dict := none, data := .seq ([] : List Value).toArray } = H2 at hns₁ hsb₁ ⊢
  have hD : H2.objs.size = H1.objs.size + 1 := by rw [← hH2, Heap.size_push]
  generalize hDe : H1.objs.size = D at hI0 hD ⊢
  generalize hCe : H2.objs.size = C at hns₁ hsb₁ hD ⊢
  generalize hIe : s₁.heap.objs.size = I at hI0 hlt W ⊢
  have old1 : ∀ b o, s₁.heap.get? b = some o → H1.get? b = some o := fun b o e => hH1 ▸ Heap.get?_push_of_some _ e
  have lt1 : ∀ b o, s₁.heap.get? b = some o → @LT.lt Nat _ b I := fun b o e => hIe ▸ Heap.lt_size e
  have keep1 : ∀ b o, s₁.heap.get? b = some o → h₁.get? b = some o := fun b o e => hsb₁.extBut b o (by have := lt1 b o e; show @Ne Nat b C; omega) (Heap.get?_push_of_some _ (hH2 ▸ Heap.get?_push_of_some _ (old1 b o e)))
  have hit1 : H1.get? I = some { cls := .type "list_iterator", data := .fields #[.ref ax, .int 0 0] } := by rw [← hH1, ← hIe]; exact Heap.get?_push_size _ rfl
  have hit2 : h₁.get? I = some { cls := .type "list_iterator", data := .fields #[.ref ax, .int 0 0] } := hsb₁.extBut I _ (by show @Ne Nat I C; omega) (Heap.get?_push_of_some _ (hH2 ▸ Heap.get?_push_of_some _ hit1))
  have hacc : h₁.get? D = some (lst []) := hsb₁.extBut D _ (by show @Ne Nat D C; omega) (Heap.get?_push_of_some _ (by rw [← hH2, ← hDe]; exact Heap.get?_push_size _ rfl))
  have fresh : ∀ b, @LE.le Nat _ I b → h₀.get? b = none := fun b hb => by
    cases e : h₀.get? b with
    | none => rfl
    | some o => have := lt1 _ _ (F.keep b o e); omega
  have hLI : @LT.lt Nat _ L I := hIe ▸ F.ns.lt
  have hTlt : ∀ q ∈ its, @LT.lt Nat _ q.1 I := fun q hq => lt1 _ _ (N _ (hT q hq)).1
  have hNlt : ∀ p ∈ news, @LT.lt Nat _ p.1 I := fun p hp => lt1 _ _ (N p hp).1
  have fin' : ∀ h' tk, (∀ b o, s₁.heap.get? b = some o → h'.get? b = some o) → h'.get? D = some (lst (fst3 its)) → Q (.ref D) { s₁ with heap := h', toks := tk } := fun h' tk keep hd => fin D h' tk (F.keeps keep) (fun p hp => by
    rcases List.mem_cons.mp hp with rfl | hp
    · exact ⟨hd, by show @Ne Nat D L; omega, fresh D (by omega)⟩
    · exact N.grown keep p hp) (fun p hp => by have := hNlt p hp; show @LT.lt Nat _ p.1 D; omega)
  have loop : ∀ s₃ : Shared, s₃ = { s₁ with heap := h₁, toks := s₁.toks + ([] : List (Str × Value)).length } →
      codeAny (model prog w) A (.compLoop (.ListComp (.Name x pe) [⟨.Tuple [.Name x px, .Name x₂ px₂, .Name x₃ px₃] tk tp, iter, [], 0⟩] scope pos) 0 (.ref I) (.ref D) (compEnvC scope cl C env)) (compPost (model prog w) A E none Q (.ref D) C) s₃ := by
    rintro s₃ rfl
    refine LCp.codeAny_compLoop_pair
      (fun k s' => ∃ h' tk i m', s' = { s₁ with heap := h', toks := tk } ∧ i ≤ its.length ∧ k = its.length + 1 - i ∧ h'.IsListIter I ax i ∧ (∀ b o, s₁.heap.get? b = some o → h'.get? b = some o) ∧ h'.Ns C m' ∧ h'.get? D = some (lst ((fst3 its).take i))) ?_ (its.length + 1)
      ⟨h₁, _, 0, _, rfl, Nat.zero_le _, rfl, ⟨_, hit2, rfl, rfl⟩, keep1, hns₁, hacc⟩
    rintro k s' ⟨h', tk0, i, m', rfl, hi, rfl, hit, keep, hns, hacc'⟩
    have hst' : h'.IsListIter I ax i ∧ h'.IsList ax (its.map fun q => Value.ref q.1).toArray := ⟨hit, hl.at (fun o e => keep _ _ e)⟩
    by_cases hlt' : i < its.length
    · refine W.item i _ _ _ hlt' hst' fun v h₂ tk₂ hPv hst₂ hk₂ => ?_
      have hq : its[i]? = some its[i] := List.getElem?_eq_getElem hlt'
      have hv : v = .ref its[i].1 := by
        have e : (its.map fun q => Value.ref q.1).toArray[i]? = some v := hPv
        rw [List.getElem?_toArray, List.getElem?_map, hq] at e
        exact (Option.some.inj e).symm
      subst hv
      have hqm : its[i] ∈ its := List.getElem_mem hlt'
      have keep2 : ∀ b o, s₁.heap.get? b = some o → h₂.get? b = some o := fun b o e => hk₂ b o (by have := lt1 b o e; intro hb; have : @Eq Nat b I := List.mem_singleton.mp hb; omega) (keep b o e)
      have ht : IsTup h₂ its[i].1 #[its[i].2.1, its[i].2.2.1, its[i].2.2.2] := ⟨_, keep2 _ _ (N _ (hT _ hqm)).1, rfl, _, rfl⟩
      refine wpAny_letOwnedTupleGo_listiter hst₂.1 ?_
      refine assign_Tuple_tuple hh ht rfl rfl fun h₅ he => ?_
      have he' : ∀ b o, h₂.get? b = some o → h₅.get? b = some o := fun b o e => he b o (Nat.ne_of_lt (Heap.lt_size e)) e
      have hnsC : h₂.Ns C m' := hns.at' fun o e => hk₂ _ o (by intro hb; have : @Eq Nat C I := List.mem_singleton.mp hb; omega) e
      refine assignInOrder_cons (wpAny_assign_Name (wpAny_storeName_local (lookup_relabel_local hx) (hnsC.at' fun o e => he' _ o e) (fun h₆ hn₆ hs₆ => ?_) (by simp [compEnvC, relabel, hkind])))
      refine assignInOrder_cons (wpAny_assign_Name (wpAny_storeName_local (lookup_relabel_local hx₂) hn₆ (fun h₇ hn₇ hs₇ => ?_) (by simp [compEnvC, relabel, hkind])))
      refine assignInOrder_cons (wpAny_assign_Name (wpAny_storeName_local (lookup_relabel_local hx₃) hn₇ (fun h₃ hn₃ hs₃ => ?_) (by simp [compEnvC, relabel, hkind])))
      refine assignInOrder_nil ?_
      have old3 : ∀ b o, b ≠ C → h₂.get? b = some o → h₃.get? b = some o := fun b o hb e => hs₃.extBut b o hb (hs₇.extBut b o hb (hs₆.extBut b o hb (he' b o e)))
      have keep3 : ∀ b o, s₁.heap.get? b = some o → h₃.get? b = some o := fun b o e => old3 b o (by have := lt1 b o e; show @Ne Nat b C; omega) (keep2 b o e)
      have hD3 : h₃.get? D = some (lst ((fst3 its).take i)) := old3 D _ (by show @Ne Nat D C; omega) (hk₂ D _ (by intro hb; have : @Eq Nat D I := List.mem_singleton.mp hb; omega) hacc')
      have hst₃ : h₃.IsListIter I ax (i + 1) := hst₂.1.at fun o e => old3 I o (by show @Ne Nat I C; omega) e
      refine wpAny_Name (wpAny_loadName_local (v := its[i].2.1) hkind (lookup_relabel_local hx) hn₃ (by simp [h12, h13]) ?_) hdb
      refine append_at (hsz := by rw [List.size_toArray, List.length_take]; omega) hD3 fun h₈ hs₈ hD₈ => ?_
      refine ⟨its.length + 1 - (i + 1), by omega, h₈, _, i + 1, _, rfl, hlt', rfl, hst₃.at fun o e => hs₈.extBut I o (by show @Ne Nat I D; omega) e, fun b o e => hs₈.extBut b o (by have := lt1 b o e; show @Ne Nat b D; omega) (keep3 b o e), hn₃.sameBut hs₈ (by show @Ne Nat C D; omega), ?_⟩
      rw [hD₈, lst_snoc, List.take_add_one, List.getElem?_map, hq]
      rfl
    · have hie : i = its.length := by omega
      subst hie
      refine W.done _ _ _ hst' fun h₂ tk₂ hk₂ => ?_
      have keep2 : ∀ b o, s₁.heap.get? b = some o → h₂.get? b = some o := fun b o e => hk₂ b o (by have := lt1 b o e; intro hb; have : @Eq Nat b I := List.mem_singleton.mp hb; omega) (keep b o e)
      have hD2 : h₂.get? D = some (lst (fst3 its)) := by
        have := hk₂ D _ (by intro hb; have : @Eq Nat D I := List.mem_singleton.mp hb; omega) hacc'
        rw [this, List.take_of_length_le (by simp)]
      have hnsC : h₂.Ns C m' := hns.at' fun o e => hk₂ _ o (by intro hb; have : @Eq Nat C I := List.mem_singleton.mp hb; omega) e
      refine ⟨m', hnsC, fun h'' hs'' => fin' h'' _ (fun b o e => hs''.extBut b o (by have := lt1 b o e; show @Ne Nat b C; omega) (keep2 b o e)) (hs''.extBut D _ (by show @Ne Nat D C; omega) hD2)⟩
  exact codeAny_compStart_list (loop _ rfl) (W.self 0 _ _ _ ⟨⟨_, hit2, rfl, rfl⟩, hl.at (fun o e => keep1 _ _ e)⟩ (loop _ rfl))
end
end

section
local macro_rules | `(tactic| walk_at "zz one") => `(tactic| skip)
theorem off15 : True := by w_top off; trivial
theorem offX {x y : Option (Addr × Obj)} {h₀ h : Heap} {L d : Addr} {o : Obj} {news : Led} (hx : Ok30 x) (hy : Ok37 y) (N : News h₀ L h news) (hs : ∀ p ∈ T30 x ++ T37 y, p ∈ news) (hm : (d, o) ∈ news)
    (ho : (∃ v, o.data = .cell v) ∨ (∃ its n, o = listOf its n) ∨ ∃ a b c, o = krsIt a b c) : ∀ p ∈ T30 x ++ T37 y, p.1 ≠ d := by
  intro p hp e
  have h1 := (N p (hs p hp)).1
  have h2 := (N _ hm).1
  rw [e, h2] at h1
  have h3 : o = p.2 := Option.some.inj h1
  have htab : ∀ a, o ≠ tabObj a := by
    intro a e
    rcases ho with ⟨v, hv⟩ | ⟨its, n, hv⟩ | ⟨i, j, k, hv⟩
    · rw [e] at hv; cases hv
    · rw [e] at hv; cases congrArg Obj.data hv
    · rw [e] at hv; cases congrArg Obj.cls hv
  have hcode : ∀ q, ¬ CodeOb q o := by
    rintro q ⟨vs, t, hd, hq⟩
    rcases ho with ⟨v, hv⟩ | ⟨its, n, hv⟩ | ⟨i, j, k, hv⟩
    · rw [hd] at hv; cases hv
    · rw [hv] at hd; cases hd
    · rw [hv] at hd; cases hd; cases hq
  rcases List.mem_append.mp hp with hp | hp
  · cases x with
    | none => rw [List.mem_singleton.mp hp] at h3; exact htab _ h3
    | some q =>
      rcases List.mem_cons.mp hp with rfl | hp
      · exact htab _ h3
      · rw [List.mem_singleton.mp hp] at h3; exact hcode _ (h3 ▸ hx.2)
  · cases y with
    | none => rw [List.mem_singleton.mp hp] at h3; exact htab _ h3
    | some q =>
      rcases List.mem_cons.mp hp with rfl | hp
      · exact htab _ h3
      · rw [List.mem_singleton.mp hp] at h3; exact hcode _ (h3 ▸ hy.2)
theorem pad (x y : Option (Addr × Obj)) : ∃ za c30 zb zc c37 zd, ∀ p, p ∈ T30 x ++ T37 y ↔ p ∈ [((30 : Addr), (za : Obj)), (c30, zb), (37, zc), (c37, zd)] := by
  cases x with
  | none =>
    cases y with
    | none => exact ⟨tabObj #[], 30, tabObj #[], tabObj #[], 37, tabObj #[], fun p => by simp [T30, T37]⟩
    | some q => exact ⟨tabObj #[], 30, tabObj #[], tabObj #[rawInt 47, rawInt 4, .ref q.1], q.1, q.2, fun p => by simp [T30, T37]⟩
  | some r =>
    cases y with
    | none => exact ⟨tabObj #[rawInt 32, rawInt 4, .ref r.1], r.1, r.2, tabObj #[], 37, tabObj #[], fun p => by simp [T30, T37]⟩
    | some q => exact ⟨tabObj #[rawInt 32, rawInt 4, .ref r.1], r.1, r.2, tabObj #[rawInt 47, rawInt 4, .ref q.1], q.1, q.2, fun p => by simp [T30, T37]⟩
theorem srt0 : Srt [] := fun i j _ h => absurd h (Nat.not_lt_zero _)
theorem srt1 {a : Int} : Srt [a] := by
  intro i j h1 h2
  have h3 : j = 0 := by simp only [List.length_cons, List.length_nil] at h2; omega
  have h4 : i = 0 := by omega
  subst h3; subst h4; exact Int.le_refl _
theorem srt2 {a b : Int} (h : a ≤ b) : Srt [a, b] := by
  intro i j h1 h2
  simp only [List.length_cons, List.length_nil] at h2
  rcases j with _ | _ | j
  · rcases i with _ | i
    · exact Int.le_refl _
    · omega
  · rcases i with _ | _ | i
    · exact h
    · exact Int.le_refl _
    · omega
  · omega
theorem srt3 {a b c : Int} (h : a ≤ b) (h' : b ≤ c) : Srt [a, b, c] := by
  intro i j h1 h2
  simp only [List.length_cons, List.length_nil] at h2
  rcases j with _ | _ | _ | j
  · rcases i with _ | i
    · exact Int.le_refl _
    · omega
  · rcases i with _ | _ | i
    · exact h
    · exact Int.le_refl _
    · omega
  · rcases i with _ | _ | _ | i
    · exact Int.le_trans h h'
    · exact h'
    · exact Int.le_refl _
    · omega
  · omega
theorem ltx0 {x : Int} : ∀ i : Nat, i < ([] : List Int).length → ([] : List Int).getD i 0 < x := fun i h => absurd h (Nat.not_lt_zero _)
theorem ltx1 {a x : Int} (h : a < x) : ∀ i : Nat, i < [a].length → [a].getD i 0 < x := by
  intro i h2
  simp only [List.length_cons, List.length_nil] at h2
  rcases i with _ | i
  · exact h
  · omega
theorem ltx2 {a b x : Int} (h : a < x) (h' : b < x) : ∀ i : Nat, i < [a, b].length → [a, b].getD i 0 < x := by
  intro i h2
  simp only [List.length_cons, List.length_nil] at h2
  rcases i with _ | _ | i
  · exact h
  · exact h'
  · omega
theorem ltx3 {a b c x : Int} (h : a < x) (h' : b < x) (h'' : c < x) : ∀ i : Nat, i < [a, b, c].length → [a, b, c].getD i 0 < x := by
  intro i h2
  simp only [List.length_cons, List.length_nil] at h2
  rcases i with _ | _ | _ | i
  · exact h
  · exact h'
  · exact h''
  · omega
theorem offA {D a : Addr} {o : Obj} : ∀ {l : Led}, LCg.Off1 D l → (a, o) ∈ l → a ≠ D
  | [], _, h => nomatch h
  | _ :: _, x, h => by
    rcases List.mem_cons.mp h with h | h
    · have := x.1; rw [← h] at this; exact this
    · exact offA x.2 h
theorem allLt_ne {d : Addr} : ∀ {l : Led}, AllLt d l → ∀ p ∈ l, p.1 ≠ d
  | [], _, _, h => nomatch h
  | q :: _, x, p, h => by
    rcases List.mem_cons.mp h with rfl | h
    · exact Nat.ne_of_lt x.1
    · exact allLt_ne x.2 p h
def lawEx : Scope × List Stmt := match PySem.Challenge.pw_ia0011_01.main.body.drop 13 with
  | .FunctionDef _ _ (.For _ _ b _ _ :: _) _ _ _ sc _ _ _ :: _ => (sc, b)
  | _ => (default, [])
end

section
theorem off16 : True := by w_top off; trivial
theorem fit_len (l t : Int) : (List.map (fun k' => if decide (l ≤ k' * t) = true then (1 : Int) else 0) (rangeKs 1 (41 - 1 : Int).toNat)).length = 40 := by
  rw [List.length_map, rangeKs_length]; rfl
theorem fit_get {l t : Int} {i : Nat} (hi : i < 40) : (List.map (fun k' => if decide (l ≤ k' * t) = true then (1 : Int) else 0) (rangeKs 1 (41 - 1 : Int).toNat)).getD i 0 = if l ≤ (1 + (i : Int)) * t then 1 else 0 := by
  have h : (rangeKs 1 (41 - 1 : Int).toNat)[i]? = some (1 + (i : Int)) := by
    show ((List.range 40).map fun (i : Nat) => (1 : Int) + (i : Int))[i]? = _
    rw [List.getElem?_map, List.getElem?_range hi]
    rfl
  rw [List.getD_eq_getElem?_getD, List.getElem?_map, h]
  simp
theorem srt_fit {l t : Int} (ht : 0 ≤ t) : Srt (List.map (fun k' => if decide (l ≤ k' * t) = true then (1 : Int) else 0) (rangeKs 1 (41 - 1 : Int).toNat)) := by
  intro i j h1 h2
  rw [fit_len] at h2
  rw [fit_get (by omega), fit_get h2]
  by_cases h : l ≤ (1 + (i : Int)) * t
  · have h3 : (1 + (i : Int)) * t ≤ (1 + (j : Int)) * t := Int.mul_le_mul_of_nonneg_right (by omega) ht
    rw [if_pos h, if_pos (Int.le_trans h h3)]
    exact Int.le_refl _
  · rw [if_neg h]
    split <;> decide
theorem cut_fit {l t n r : Int} (hc : Cut (List.map (fun k' => if decide (l ≤ k' * t) = true then (1 : Int) else 0) (rangeKs 1 (41 - 1 : Int).toNat)) 1 r) (h1 : 2 ≤ n) (h2 : n < 40) (h3 : l ≤ n * t) (h4 : (n - 1) * t < l) : r = n - 1 := by
  obtain ⟨c1, c2, c3, c4⟩ := hc
  rw [fit_len] at c2 c4
  rcases Int.lt_trichotomy r (n - 1) with h | h | h
  · have := c4 (n - 2).toNat (by omega) (by omega)
    rw [fit_get (by omega)] at this
    have e : 1 + (((n - 2).toNat : Nat) : Int) = n - 1 := by omega
    rw [e, if_neg (by omega)] at this
    omega
  · exact h
  · have := c3 (n - 1).toNat (by omega) (by omega)
    rw [fit_get (by omega)] at this
    have e : 1 + (((n - 1).toNat : Nat) : Int) = n := by omega
    rw [e, if_pos h3] at this
    omega
end

section
local macro_rules | `(tactic| walk_at "zz one") => `(tactic| skip)
theorem off17 : True := by w_top off; trivial
theorem canonF {h₀ h : Heap} {L : Addr} {m : Str → Option Value} {v1 v2 v3 : Option Value} (F : Fr h₀ L h m) (h1 : m (PySem.Str.ofString "top") = v1) (h2 : m (PySem.Str.ofString "low") = v2) (h3 : m (PySem.Str.ofString "script") = v3) :
    Fr h₀ L h (fun z => if z = PySem.Str.ofString "top" then v1 else if z = PySem.Str.ofString "low" then v2 else if z = PySem.Str.ofString "script" then v3 else m z) := by
  have e : (fun z => if z = PySem.Str.ofString "top" then v1 else if z = PySem.Str.ofString "low" then v2 else if z = PySem.Str.ofString "script" then v3 else m z) = m := by
    funext z
    by_cases g1 : z = PySem.Str.ofString "top"
    · rw [if_pos g1, g1, h1]
    rw [if_neg g1]
    by_cases g2 : z = PySem.Str.ofString "low"
    · rw [if_pos g2, g2, h2]
    rw [if_neg g2]
    by_cases g3 : z = PySem.Str.ofString "script"
    · rw [if_pos g3, g3, h3]
    rw [if_neg g3]
  rw [e]
  exact F
end

section
theorem off18 : True := by w_top off; trivial
def gN (q : Int × Int × Int) : Bool := decide (2 ≤ q.1 ∧ q.1 < 2 ^ 60 ∧ 1 ≤ q.2.1 ∧ q.2.1 ≤ 9 ∧ 2 ≤ q.2.2 ∧ q.2.2 < 2 ^ 60 ∧ (q.1 < 40 → q.2.2 ≤ q.1 * q.2.1 ∧ (q.1 - 1) * q.2.1 < q.2.2))
def foldOk : List Int → Int → Int → Bool
  | [], w, b => decide (0 ≤ w ∧ w < 2 ^ 60 ∧ 0 ≤ b ∧ b < 2 ^ 60)
  | n :: r, w, b => decide (0 ≤ n ∧ n < 2 ^ 60 ∧ 0 ≤ w ∧ w < 2 ^ 60 ∧ 0 ≤ b ∧ b < 2 ^ 60) && foldOk r (w * n + b) (b * n)
def foldV : List Int → Int → Int → Int × Int
  | [], w, b => (w, b)
  | n :: r, w, b => foldV r (w * n + b) (b * n)
def nums (acc : List (Int × Int × Int)) : List Int := acc.map (·.1)
def tops (acc : List (Int × Int × Int)) : List Int := acc.map (·.2.1)
def stepOk (ds ts : List Int) (j : Nat) : Bool := decide (ds.getD j 0 * (ds.getD j 0 - 1) < ds.getD (j + 1) 0 ∧ 0 ≤ ds.getD j 0 * (ds.getD j 0 - 1) ∧ ds.getD j 0 * (ds.getD j 0 - 1) < 2 ^ 60 ∧ ts.getD (j + 1) 0 < ts.getD j 0)
def good2 (low top : Int) (acc : List (Int × Int × Int)) : Bool :=
  acc.all gN && decide (acc ≠ [] ∧ (acc.length : Int) ≤ top ∧ acc.length ≤ 8 ∧ 2 ≤ low ∧ low ≤ 30 ∧ 1 ≤ top ∧ top ≤ 9) && (List.range (acc.length - 1)).all (fun j => stepOk (nums acc) (tops acc) j) && (List.range acc.length).all (fun i => (List.range i).all fun j => decide ((nums acc).getD j 0 < (nums acc).getD i 0)) &&
  foldOk (nums acc) 0 1 && decide ((foldV (nums acc) 0 1).1 * low = top * (foldV (nums acc) 0 1).2)
def allGood (low top : Int) : Bool := good2 low top (takenF 20 top low) && okc 20 top low && okc 20 1 low && decide (takenF 20 1 low = [(low, 1, low)])
def allGoodR : Bool := (List.range 29).all fun l => (List.range (min 9 (l + 1))).all fun t => allGood ((l : Int) + 2) ((t : Int) + 1)
theorem allGood_fin : allGoodR = true := by decide +kernel
theorem allGood_of {low top : Int} (h1 : 2 ≤ low) (h2 : low ≤ 30) (h3 : 1 ≤ top) (h4 : top ≤ 9) (h5 : top ≤ low - 1) : good2 low top (takenF 20 top low) = true ∧ okc 20 top low = true ∧ okc 20 1 low = true ∧ takenF 20 1 low = [(low, 1, low)] := by
  have h := allGood_fin
  unfold allGoodR at h
  rw [List.all_eq_true] at h
  have h := h (low - 2).toNat (List.mem_range.mpr (by omega))
  rw [List.all_eq_true] at h
  have h := h (top - 1).toNat (List.mem_range.mpr (by omega))
  have e1 : (((low - 2).toNat : Nat) : Int) + 2 = low := by omega
  have e2 : (((top - 1).toNat : Nat) : Int) + 1 = top := by omega
  rw [e1, e2] at h
  unfold allGood at h
  simp only [Bool.and_eq_true, decide_eq_true_eq] at h
  exact ⟨h.1.1.1, h.1.1.2, h.1.2, h.2⟩
structure Good (low top : Int) (acc : List (Int × Int × Int)) : Prop where
  gn : ∀ q ∈ acc, gN q = true
  ne : acc ≠ []
  len : (acc.length : Int) ≤ top
  len8 : acc.length ≤ 8
  lo : 2 ≤ low
  hi : low ≤ 30
  t1 : 1 ≤ top
  t9 : top ≤ 9
  step : ∀ j : Nat, j + 1 < acc.length → (nums acc).getD j 0 * ((nums acc).getD j 0 - 1) < (nums acc).getD (j + 1) 0 ∧ 0 ≤ (nums acc).getD j 0 * ((nums acc).getD j 0 - 1) ∧ (nums acc).getD j 0 * ((nums acc).getD j 0 - 1) < 2 ^ 60 ∧ (tops acc).getD (j + 1) 0 < (tops acc).getD j 0
  up : ∀ i j : Nat, i < acc.length → j < i → (nums acc).getD j 0 < (nums acc).getD i 0
  fok : foldOk (nums acc) 0 1 = true
  eq : (foldV (nums acc) 0 1).1 * low = top * (foldV (nums acc) 0 1).2
theorem Good.of {low top : Int} {acc : List (Int × Int × Int)} (h : good2 low top acc = true) : Good low top acc := by
  unfold good2 at h
  simp only [Bool.and_eq_true, decide_eq_true_eq, List.all_eq_true] at h
  obtain ⟨⟨⟨⟨⟨a1, a2, a3, a4, a5, a6, a7, a8⟩, b⟩, c⟩, d⟩, e⟩ := h
  refine ⟨a1, a2, a3, a4, a5, a6, a7, a8, fun j hj => ?_, fun i j hi hj => c i (List.mem_range.mpr hi) j (List.mem_range.mpr hj), d, e⟩
  have := b j (List.mem_range.mpr (by omega))
  unfold stepOk at this
  exact of_decide_eq_true this
inductive Its : List (Addr × Value × Value × Value) → List (Int × Int × Int) → Prop
  | nil : Its [] []
  | cons {a : Addr} {n1 n2 n3 : Int} {t1 t2 t3 : Tok} {its : List (Addr × Value × Value × Value)} {acc : List (Int × Int × Int)} : Its its acc → Its ((a, .int n1 t1, .int n2 t2, .int n3 t3) :: its) ((n1, n2, n3) :: acc)
abbrev refs (its : List (Addr × Value × Value × Value)) : List Value := its.map fun q => Value.ref q.1
abbrev tupl (its : List (Addr × Value × Value × Value)) : Led := its.map fun q => (q.1, tupObj [q.2.1, q.2.2.1, q.2.2.2])
theorem Tups.its : ∀ {fvs : List Value} {tups : Led} {acc : List (Int × Int × Int)}, Tups fvs tups acc → ∃ its, fvs = refs its ∧ tups = tupl its ∧ Its its acc
  | _, _, _, .nil => ⟨[], rfl, rfl, .nil⟩
  | _, _, _, .cons h => by
    obtain ⟨its, rfl, rfl, h'⟩ := Tups.its h
    exact ⟨_ :: its, rfl, rfl, .cons h'⟩
theorem Its.len : ∀ {its : List (Addr × Value × Value × Value)} {acc : List (Int × Int × Int)}, Its its acc → its.length = acc.length
  | _, _, .nil => rfl
  | _, _, .cons h => by rw [List.length_cons, List.length_cons, Its.len h]
theorem Its.ints : ∀ {its : List (Addr × Value × Value × Value)} {acc : List (Int × Int × Int)}, Its its acc → IntsAre (its.map fun q => q.2.1) (nums acc)
  | _, _, .nil => .nil
  | _, _, .cons h => .cons _ _ (Its.ints h)
theorem Its.at : ∀ {its : List (Addr × Value × Value × Value)} {acc : List (Int × Int × Int)} (j : Nat), Its its acc → j < acc.length → ∃ q n t l, its[j]? = some q ∧ q.2.1 = .int ((nums acc).getD j 0) n ∧ q.2.2.1 = .int ((tops acc).getD j 0) t ∧ q.2.2.2 = .int ((acc.map (·.2.2)).getD j 0) l
  | _, _, _, .nil, h => absurd h (Nat.not_lt_zero _)
  | _, _, 0, .cons _, _ => ⟨_, _, _, _, rfl, rfl, rfl, rfl⟩
  | _, _, j + 1, .cons h, hj => by
    obtain ⟨q, n, t, l, e1, e2, e3, e4⟩ := Its.at j h (Nat.lt_of_succ_lt_succ hj)
    exact ⟨q, n, t, l, e1, e2, e3, e4⟩
def forEx (k : Nat) : Scope × Expr × List Stmt := match lawEx.2.drop k with
  | .For t _ b _ _ :: _ => (lawEx.1, t, b)
  | _ => (default, default, [])
end

section
theorem off19 : True := by w_top off; trivial
theorem foldB : ∀ (ds : List Int) (a b : Int) {W Bv : Int}, foldOk ds a b = true → foldV ds a b = (W, Bv) → 0 ≤ W ∧ W < 2 ^ 60 ∧ 0 ≤ Bv ∧ Bv < 2 ^ 60
  | [], a, b, W, Bv, h, e => by
    rw [foldOk, decide_eq_true_eq] at h
    cases e
    exact h
  | n :: r, a, b, W, Bv, h, e => by
    rw [foldOk, Bool.and_eq_true] at h
    exact foldB r _ _ h.2 e
local macro_rules | `(tactic| k_ne) => `(tactic| ((try dsimp only); first | with_reducible assumption | exact offA (by assumption) (by k_mem) | exact Ne.symm (offA (by assumption) (by k_mem)) | fail "no"))
local macro_rules | `(tactic| walk_at "exec For Tuple Name cons nil") => `(tactic| (k_here; (rename Fr _ _ _ _ => lF'); (with_unfolding_all refine' For_turns lF' ?_ (by intro _; rfl) (by assumption); k_whole)))
local macro_rules | `(tactic| walk_at "exec For Name Name cons nil") => `(tactic| (k_here; (rename Fr _ _ _ _ => lF'); (with_unfolding_all refine' For_turns lF' ?_ (by intro _; rfl) (by assumption); k_whole)))
local macro_rules | `(tactic| walk_at "exec For Tuple Subscript cons nil") => `(tactic| (k_here; (rename Fr _ _ _ _ => lF'); (with_unfolding_all refine' For_turns lF' ?_ (by intro _; rfl) (by assumption); k_whole)))
local macro_rules | `(tactic| walk_at "CompRest") => `(tactic| (with_unfolding_all first
  | (refine LCg.CompRest.succ ?_; intro v' I' oI' C' oC' D' m' h' tk' E' hv' hC' hx' F' N' off' ne'; (first | lcg_open hv' | (obtain ⟨t9', hv9'⟩ := hv'; subst hv9')); replace ne' := Hold.of ne')
  | refine LCg.CompRest.zero ?_))
local macro_rules | `(tactic| walk_at "CompRestT") => `(tactic| (with_unfolding_all first
  | (refine LCt.CompRestT.succ ?_; intro v' I' oI' C' oC' D' m' h' tk' E' hv' hC' hx' F' N' off' ne'; (first | lcg_open hv' | (obtain ⟨t9', hv9'⟩ := hv'; subst hv9')); replace ne' := Hold.of ne')
  | refine LCt.CompRestT.zero ?_))
local macro_rules | `(tactic| walk_at "CompEnd") => `(tactic| (refine LCg.CompEnd.intro (by assumption) (by assumption) _ (fun _ hp => hp) (by assumption) (by lcg_src) ?_))
local macro_rules | `(tactic| walk_at "FinE") => `(tactic| ((unfold LCg.FinE); intro D' h' tk' F' N' o1'; (try simp only [List.nil_append, List.cons_append] at N'); (try dsimp only)))
local macro_rules | `(tactic| walk_at "FinA") => `(tactic| ((unfold LCg.FinA); intro D' h' tk' F' N' o1'; (try simp only [List.nil_append, List.cons_append] at N'); (try dsimp only)))
local macro_rules | `(tactic| walk_at "call ref") => `(tactic| (refine Hold.of ?_))
local macro_rules | `(tactic| walk_at "execs cons") => `(tactic| ((with_reducible show wpAny _ _ (execs (Stmt.For (Expr.Tuple _ _ _) (Expr.Subscript _ _ _) _ _ _ :: _) _) _ _ _); refine Hold.of ?_))

theorem canonD (m' M : Str → Option Value) (v1 v2 : Option Value) (h1 : m' (PySem.Str.ofString "whole") = v1) (h2 : m' (PySem.Str.ofString "by") = v2)
    (hM : ∀ z, z ≠ PySem.Str.ofString "whole" → z ≠ PySem.Str.ofString "by" → z ≠ PySem.Str.ofString "number" → m' z = M z) :
    m' = (fun z => if z = PySem.Str.ofString "whole" then v1 else if z = PySem.Str.ofString "by" then v2 else if z = PySem.Str.ofString "number" then m' z else M z) := by
  funext z
  by_cases g1 : z = PySem.Str.ofString "whole"
  · rw [if_pos g1, g1]; exact h1
  rw [if_neg g1]
  by_cases g2 : z = PySem.Str.ofString "by"
  · rw [if_pos g2, g2]; exact h2
  rw [if_neg g2]
  by_cases g3 : z = PySem.Str.ofString "number"
  · rw [if_pos g3]
  rw [if_neg g3]
  exact hM z g1 g2 g3
theorem mulOkB {a b : Int} (h1 : 0 ≤ a) (h2 : a < 2 ^ 60) (h3 : 0 ≤ b) (h4 : b < 2 ^ 60) : IntMulOk a b := mulOk (by omega) (by omega)
local macro_rules | `(tactic| walk_at "UnrEndW") => `(tactic| (refine Hold.of ?_))
local macro_rules | `(tactic| walk_at "pyIter ref") => `(tactic| (refine Hold.of ?_))
local macro_rules | `(tactic| walk_at "binaryOp Mult int int") => `(tactic| (refine mul_int ?_ (mulOkB (by omega) (by omega) (by omega) (by omega))))
section
variable {w : World} {p : Program} {loose : List Str} {mean : ExcName → Option Value} {mg mb : Str → Option Value} {fa : Addr} {cd : Value} {h₀ : Heap} {L : Addr} {s : Shared} {Q : Flow → Shared → Prop} {E : Value → Shared → Prop}

theorem loopD {sc : Scope} {tgt : PySem.Expr} {bd : List Stmt} {l I' : Addr} {lo : Obj} {news : Led} {W Bv : Int} {M : Str → Option Value} (h0 : (sc, tgt, bd) = forEx 9)
    (B : Below callerA h₀ [] h₀) (X : (hd.heap_39 w.params).In h₀) (T : Top p loose mean mg mb h₀) (hL : @LT.lt Nat _ 37 L) (hI' : ∀ p ∈ news, p.1 < I') (hm : (l, lo) ∈ news)
    (hE : PassesOwn (model PySem.Challenge.rw_ia0011_01.row.prog w) (callerA.deeper (envOfC (PySem.Str.ofString "law") sc L fa cd)) (envOfC (PySem.Str.ofString "law") sc L fa cd) E)
    (hQ : ∀ h tk tw' tb (u : Str → Option Value), Fr h₀ L h (fun z => if z = PySem.Str.ofString "whole" then some (.int W tw') else if z = PySem.Str.ofString "by" then some (.int Bv tb) else if z = PySem.Str.ofString "number" then u z else M z) → News h₀ L h news → Q .next { s with heap := h, toks := tk }) :
    ∀ (vs : List Value) (ds : List Int), IntsAre vs ds → ∀ (a b : Int) (ta tb : Tok) (u m : Str → Option Value), foldOk ds a b = true → foldV ds a b = (W, Bv) → m = (fun z => if z = PySem.Str.ofString "whole" then some (.int a ta) else if z = PySem.Str.ofString "by" then some (.int b tb) else if z = PySem.Str.ofString "number" then u z else M z) →
      ItemsRest PySem.Challenge.rw_ia0011_01.row.prog w (callerA.deeper (envOfC (PySem.Str.ofString "law") sc L fa cd)) E h₀ (envOfC (PySem.Str.ofString "law") sc L fa cd) tgt bd Q s [(I', "list_iterator")] [(l, lo)] (vs.map .val) m news := by
  dsimp only [forEx, lawEx, PySem.Challenge.pw_ia0011_01, List.drop] at h0
  cases h0
  intro vs ds hI
  induction hI with
  | nil =>
    rintro a b ta tb u m hok hv rfl
    cases hv
    exact ItemsRest.zero (fun h tk F N => hQ h tk ta tb u F N)
  | cons n t hI ih =>
    rintro a b ta tb u m hok hv rfl
    rw [foldOk] at hok
    simp only [Bool.and_eq_true, decide_eq_true_eq] at hok
    obtain ⟨⟨k1, k2, k3, k4, k5, k6⟩, k7⟩ := hok
    rw [foldV] at hv
    refine ItemsRest.val (fun h tk F => AllObj.cons (fun o hc => AllObj.nil (fun N => ?_)))
    k_steps
    unfold Hold
    (rename Fr _ _ _ _ => kF); (rename News _ _ _ _ => kN)
    refine ⟨_, _, _, news, rfl, kF, News.sub kN (fun p hp => .tail _ hp), ?_, ⟨hm, trivial⟩, ih _ _ _ _ _ _ k7 hv (canonD _ _ _ _ rfl rfl (fun z h1 h2 h3 => by simp only [h1, h2, h3, if_false]))⟩
    intro p hp q hq
    rw [List.mem_singleton.mp hq]
    exact Nat.ne_of_lt (hI' p hp)

theorem segD {sc : Scope} {body body' : List Stmt} {tt tw : Tok} {sl l : Addr} {top low : Int} {kl : Nat} {u : Str → Option Value} {o2 : Obj} {R : Led} {vs : List Value} {ds : List Int}
    (h0 : (sc, body, body') = (lawEx.1, lawEx.2.drop 8, lawEx.2.drop 11)) (B : Below callerA h₀ [] h₀) (X : (hd.heap_39 w.params).In h₀) (T : Top p loose mean mg mb h₀) (hL : @LT.lt Nat _ 37 L)
    (d2 : o2.data = .cell (some (.ref l)))
    (F : Fr h₀ L s.heap (fun z => if z = PySem.Str.ofString "top" then some (.int top tt) else if z = PySem.Str.ofString "low" then some (.int low tw) else if z = PySem.Str.ofString "script" then some (.ref sl) else u z))
    (N : News h₀ L s.heap ((l, listOf vs.toArray kl) :: (L + 1 + 1, o2) :: R)) (hl : @LT.lt Nat _ (L + 1 + 1) l) (hI : IntsAre vs ds) (hlen : ds.length ≤ 8) (hok : foldOk ds 0 1 = true) (heq : (foldV ds 0 1).1 * low = top * (foldV ds 0 1).2) (r1 : 2 ≤ low) (r2 : low ≤ 30) (r3 : 1 ≤ top) (r4 : top ≤ 9)
    (hE : PassesOwn (model PySem.Challenge.rw_ia0011_01.row.prog w) (callerA.deeper (envOfC (PySem.Str.ofString "law") sc L fa cd)) (envOfC (PySem.Str.ofString "law") sc L fa cd) E)
    (hk : ∀ h' tk' (u' : Str → Option Value), Fr h₀ L h' (fun z => if z = PySem.Str.ofString "top" then some (.int top tt) else if z = PySem.Str.ofString "low" then some (.int low tw) else if z = PySem.Str.ofString "script" then some (.ref sl) else u' z) → News h₀ L h' ((l, listOf vs.toArray kl) :: (L + 1 + 1, o2) :: R) → wpAny (model PySem.Challenge.rw_ia0011_01.row.prog w) (callerA.deeper (envOfC (PySem.Str.ofString "law") sc L fa cd)) (execs body' (envOfC (PySem.Str.ofString "law") sc L fa cd)) Q E { s with heap := h', toks := tk' }) :
    wpAny (model PySem.Challenge.rw_ia0011_01.row.prog w) (callerA.deeper (envOfC (PySem.Str.ofString "law") sc L fa cd)) (execs body (envOfC (PySem.Str.ofString "law") sc L fa cd)) Q E s := by
  dsimp only [lawEx, PySem.Challenge.pw_ia0011_01, List.drop] at h0
  cases h0
  obtain ⟨W, Bv, hWB⟩ : ∃ W Bv, foldV ds 0 1 = (W, Bv) := ⟨_, _, rfl⟩
  rw [hWB] at heq
  replace heq : W * low = top * Bv := heq
  have hb : 0 ≤ W ∧ W < 2 ^ 60 ∧ 0 ≤ Bv ∧ Bv < 2 ^ 60 := foldB ds 0 1 hok hWB
  k_steps
  unfold Hold
  (rename Fr _ _ _ _ => kF); (rename News _ _ _ _ => kN)
  replace kN := News.sub (l' := (l, listOf vs.toArray kl) :: (L + 1 + 1, o2) :: R) kN (fun p hp => .tail _ hp)
  refine iter_listTurns (ax := l) (lo := listOf vs.toArray kl) rfl kF kN (.head _) rfl rfl (fun I' hI' => ?_)
  refine loopD (W := W) (Bv := Bv) (M := (fun z => if z = PySem.Str.ofString "top" then some (.int top tt) else if z = PySem.Str.ofString "low" then some (.int low tw) else if z = PySem.Str.ofString "script" then some (.ref sl) else u z)) rfl B X T hL hI' (.head _) hE ?_ vs ds hI 0 1 _ _ _ _ hok hWB (canonD _ _ _ _ rfl rfl (fun z h1 h2 h3 => by simp only [h1, h2, h3, if_false]))
  intro h tk tw' tb u1 F1 N1
  clear kF kN
  dsimp only
  k_steps
  unfold Hold
  (rename Fr _ _ _ _ => kF); (rename News _ _ _ _ => kN)
  exact hk _ _ _ (canonF kF rfl rfl rfl) kN
end
end

section
theorem off20 : True := by w_top off; trivial
theorem canonE {m : Str → Option Value} {v1 v2 v3 : Option Value} (h1 : m (PySem.Str.ofString "top") = v1) (h2 : m (PySem.Str.ofString "low") = v2) (h3 : m (PySem.Str.ofString "script") = v3) :
    (fun z => if z = PySem.Str.ofString "top" then v1 else if z = PySem.Str.ofString "low" then v2 else if z = PySem.Str.ofString "script" then v3 else m z) = m := by
  funext z
  by_cases g1 : z = PySem.Str.ofString "top"
  · rw [if_pos g1, g1, h1]
  rw [if_neg g1]
  by_cases g2 : z = PySem.Str.ofString "low"
  · rw [if_pos g2, g2, h2]
  rw [if_neg g2]
  by_cases g3 : z = PySem.Str.ofString "script"
  · rw [if_pos g3, g3, h3]
  rw [if_neg g3]
local macro_rules | `(tactic| k_ne) => `(tactic| ((try dsimp only); first | with_reducible assumption | exact offA (by assumption) (by k_mem) | exact Ne.symm (offA (by assumption) (by k_mem)) | fail "no"))
local macro_rules | `(tactic| walk_at "exec For Tuple Name cons nil") => `(tactic| (k_here; (rename Fr _ _ _ _ => lF'); (with_unfolding_all refine' For_turns lF' ?_ (by intro _; rfl) (by assumption); k_whole)))
local macro_rules | `(tactic| walk_at "exec For Name Name cons nil") => `(tactic| (k_here; (rename Fr _ _ _ _ => lF'); (with_unfolding_all refine' For_turns lF' ?_ (by intro _; rfl) (by assumption); k_whole)))
local macro_rules | `(tactic| walk_at "exec For Tuple Subscript cons nil") => `(tactic| (k_here; (rename Fr _ _ _ _ => lF'); (with_unfolding_all refine' For_turns lF' ?_ (by intro _; rfl) (by assumption); k_whole)))
local macro_rules | `(tactic| walk_at "CompRest") => `(tactic| (with_unfolding_all first
  | (refine LCg.CompRest.succ ?_; intro v' I' oI' C' oC' D' m' h' tk' E' hv' hC' hx' F' N' off' ne'; (first | lcg_open hv' | (obtain ⟨t9', hv9'⟩ := hv'; subst hv9')); replace ne' := Hold.of ne')
  | refine LCg.CompRest.zero ?_))
local macro_rules | `(tactic| walk_at "CompRestT") => `(tactic| (with_unfolding_all first
  | (refine LCt.CompRestT.succ ?_; intro v' I' oI' C' oC' D' m' h' tk' E' hv' hC' hx' F' N' off' ne'; (first | lcg_open hv' | (obtain ⟨t9', hv9'⟩ := hv'; subst hv9')); replace ne' := Hold.of ne')
  | refine LCt.CompRestT.zero ?_))
local macro_rules | `(tactic| walk_at "CompEnd") => `(tactic| (refine LCg.CompEnd.intro (by assumption) (by assumption) _ (fun _ hp => hp) (by assumption) (by lcg_src) ?_))
local macro_rules | `(tactic| walk_at "FinE") => `(tactic| ((unfold LCg.FinE); intro D' h' tk' F' N' o1'; (try simp only [List.nil_append, List.cons_append] at N'); (try dsimp only)))
local macro_rules | `(tactic| walk_at "FinA") => `(tactic| ((unfold LCg.FinA); intro D' h' tk' F' N' o1'; (try simp only [List.nil_append, List.cons_append] at N'); (try dsimp only)))
local macro_rules | `(tactic| walk_at "call ref") => `(tactic| (refine Hold.of ?_))
local macro_rules | `(tactic| walk_at "execs cons") => `(tactic| ((with_reducible show wpAny _ _ (execs (Stmt.If (Expr.Compare (Expr.ListComp _ _ _ _) _ _ _) _ _ _ :: _) _) _ _ _); refine Hold.of ?_))

theorem mulOk1 {a b : Int} (h1 : 1 ≤ a) (h2 : a < 1 + ((41 - 1 : Int).toNat : Int)) (h3 : 1 ≤ b) (h4 : b ≤ 9) : IntMulOk a b := mulOk (by omega) (by omega)
theorem take2 (its : List (Addr × Value × Value × Value)) : kms_pick (refs its) none (some 2) = refs (its.take 2) := by
  unfold kms_pick
  show ((refs its).drop 0).take (min 2 (refs its).length - 0) = _
  rw [List.drop_zero, Nat.sub_zero, show refs (its.take 2) = (refs its).take 2 from List.map_take]
  rcases Nat.le_total 2 (refs its).length with h | h
  · rw [Nat.min_eq_left h]
  · rw [Nat.min_eq_right h, List.take_length, List.take_of_length_le h]
theorem Its.take : ∀ {its : List (Addr × Value × Value × Value)} {acc : List (Int × Int × Int)} (k : Nat), Its its acc → Its (its.take k) (acc.take k)
  | _, _, 0, _ => .nil
  | _, _, k + 1, .nil => .nil
  | _, _, k + 1, .cons h => .cons (Its.take k h)
local macro_rules | `(tactic| walk_at "UnrEndW") => `(tactic| (refine Hold.of ?_))
local macro_rules | `(tactic| walk_at "pyIter ref") => `(tactic| (refine Hold.of ?_))
local macro_rules | `(tactic| walk_at "call ref") => `(tactic| (refine Hold.of ?_))
local macro_rules | `(tactic| walk_at "binaryOp Mult int int") => `(tactic| (refine mul_int ?_ (mulOk1 (by assumption) (by assumption) (by omega) (by omega))))
local macro_rules | `(tactic| walk_at "subscriptTail Name Slice ref ref") => `(tactic| (k_dflt (refine' kms_slice_lit ?F ?N ?l ?p ?q (take2 _) ?_ ?s ?t ?z; (case F => k_asm); (case N => k_asm); (case l => exact News.isList (by k_asm) (by assumption)); (case p => exact IsPart.none); (case q => exact IsPart.int _ _); (case s => with_unfolding_all rfl); (case t => (intro _; with_unfolding_all rfl)); (case z => (rw [List.size_toArray, List.length_map, PySem.sizeLine_eq]; omega))); intro D' h' F' N' l1))
section
variable {w : World} {p : Program} {loose : List Str} {mean : ExcName → Option Value} {mg mb : Str → Option Value} {fa : Addr} {cd : Value} {h₀ : Heap} {L : Addr} {s : Shared} {Q : Flow → Shared → Prop} {E : Value → Shared → Prop}

theorem loopE {sc : Scope} {tgt : PySem.Expr} {bd : List Stmt} {D I' : Addr} {lo : Obj} {R : Led} {tt tw : Tok} {sl : Addr} {top low : Int} (h0 : (sc, tgt, bd) = forEx 11)
    (B : Below callerA h₀ [] h₀) (X : (hd.heap_39 w.params).In h₀) (T : Top p loose mean mg mb h₀) (hL : @LT.lt Nat _ 37 L) (hI3 : @LT.lt Nat _ (L + 1 + 1 + 1 + 1) I') (hI' : ∀ p ∈ R, p.1 < I') (hm : (D, lo) ∈ R) (hR3 : ∀ p ∈ R, p.1 ≠ L + 1 + 1 + 1) (hR4 : ∀ p ∈ R, p.1 ≠ L + 1 + 1 + 1 + 1)
    (hE : PassesOwn (model PySem.Challenge.rw_ia0011_01.row.prog w) (callerA.deeper (envOfC (PySem.Str.ofString "law") sc L fa cd)) (envOfC (PySem.Str.ofString "law") sc L fa cd) E)
    (hQ : ∀ h tk o3 o4 v3 v4 (u : Str → Option Value), Fr h₀ L h (fun z => if z = PySem.Str.ofString "top" then some (.int top tt) else if z = PySem.Str.ofString "low" then some (.int low tw) else if z = PySem.Str.ofString "script" then some (.ref sl) else u z) → News h₀ L h ((L + 1 + 1 + 1 + 1, o4) :: (L + 1 + 1 + 1, o3) :: R) → o3.data = .cell v3 → o4.data = .cell v4 → Q .next { s with heap := h, toks := tk }) :
    ∀ (its : List (Addr × Value × Value × Value)) (acc : List (Int × Int × Int)), Its its acc → (∀ q ∈ acc, gN q = true) → (∀ q ∈ its, (q.1, tupObj [q.2.1, q.2.2.1, q.2.2.2]) ∈ R) → ∀ (u : Str → Option Value) (o3 o4 : Obj) (v3 v4 : Option Value), o3.data = .cell v3 → o4.data = .cell v4 →
      ItemsRest PySem.Challenge.rw_ia0011_01.row.prog w (callerA.deeper (envOfC (PySem.Str.ofString "law") sc L fa cd)) E h₀ (envOfC (PySem.Str.ofString "law") sc L fa cd) tgt bd Q s [(I', "list_iterator")] [(D, lo)] ((refs its).map .val) (fun z => if z = PySem.Str.ofString "top" then some (.int top tt) else if z = PySem.Str.ofString "low" then some (.int low tw) else if z = PySem.Str.ofString "script" then some (.ref sl) else u z) ((L + 1 + 1 + 1 + 1, o4) :: (L + 1 + 1 + 1, o3) :: R) := by
  dsimp only [forEx, lawEx, PySem.Challenge.pw_ia0011_01, List.drop] at h0
  cases h0
  intro its acc hI
  induction hI with
  | nil =>
    intro hg hr u o3 o4 v3 v4 d3 d4
    exact ItemsRest.zero (fun h tk F N => hQ h tk o3 o4 v3 v4 u F N d3 d4)
  | @cons a n1 t1 l1 q1 r1 s1 its acc hI ih =>
    intro hg hr u o3 o4 v3 v4 d3 d4
    have hg1 := hg _ (.head _)
    unfold gN at hg1
    replace hg1 := of_decide_eq_true hg1
    obtain ⟨w1, w2, w3, w4, w5, w6, hF⟩ := hg1
    have hma := hr _ (.head _)
    have ha3 : @Ne Nat a (L + 1 + 1 + 1) := hR3 _ hma
    have ha4 : @Ne Nat a (L + 1 + 1 + 1 + 1) := hR4 _ hma
    dsimp only at hma hF w1 w2 w3 w4 w5 w6
    replace hF : Hold _ := hF
    have fin : ∀ (h : Heap) (tk tk₁ : Nat) (h₁ : Heap) (oI : Obj) (o3' o4' : Obj) (v3' v4' : Option Value) (m' : Str → Option Value) (all : Led), Fr h₀ L h m' → m' (PySem.Str.ofString "top") = some (.int top tt) → m' (PySem.Str.ofString "low") = some (.int low tw) → m' (PySem.Str.ofString "script") = some (.ref sl) → News h₀ L h all → (I', oI) ∈ all → (L + 1 + 1 + 1 + 1, o4') ∈ all → (L + 1 + 1 + 1, o3') ∈ all → (∀ p ∈ R, p ∈ all) → o3'.data = .cell v3' → o4'.data = .cell v4' →
        UnrEndW h₀ L { s with heap := h₁, toks := tk₁ } [(I', oI)] (fun m' n' => SubL [(D, lo)] n' ∧ ItemsRest PySem.Challenge.rw_ia0011_01.row.prog w (callerA.deeper (envOfC (PySem.Str.ofString "law") lawEx.1 L fa cd)) E h₀ (envOfC (PySem.Str.ofString "law") lawEx.1 L fa cd) (forEx 11).2.1 (forEx 11).2.2 Q s [(I', "list_iterator")] [(D, lo)] ((refs its).map .val) m' n') { s with heap := h, toks := tk } := by
      intro h tk tk₁ h₁ oI o3' o4' v3' v4' m' all F g1 g2 g3 N e1 e2 e3 e4 d3' d4'
      refine ⟨h, tk, m', (L + 1 + 1 + 1 + 1, o4') :: (L + 1 + 1 + 1, o3') :: R, rfl, F, News.sub N ?_, ?_, ⟨.tail _ (.tail _ hm), trivial⟩, ?_⟩
      · intro p hp
        rcases List.mem_cons.mp hp with rfl | hp
        · exact e1
        rcases List.mem_cons.mp hp with rfl | hp
        · exact e2
        rcases List.mem_cons.mp hp with rfl | hp
        · exact e3
        exact e4 p hp
      · intro p hp q hq
        rw [List.mem_singleton.mp hq]
        rcases List.mem_cons.mp hp with rfl | hp
        · exact Nat.ne_of_lt hI3
        rcases List.mem_cons.mp hp with rfl | hp
        · exact Nat.ne_of_lt (Nat.lt_trans (Nat.lt_succ_self _) hI3)
        exact Nat.ne_of_lt (hI' p hp)
      · have := ih (fun q hq => hg q (.tail _ hq)) (fun q hq => hr q (.tail _ hq)) m' o3' o4' v3' v4' d3' d4'
        rw [canonE g1 g2 g3] at this
        exact this
    refine ItemsRest.val (fun h tk F => AllObj.cons (fun o hc => AllObj.nil (fun N => ?_)))
    replace N := News.sub (l' := (I', o) :: (a, tupObj [.int n1 q1, .int t1 r1, .int l1 s1]) :: (L + 1 + 1 + 1 + 1, o4) :: (L + 1 + 1 + 1, o3) :: R) N (by
      intro p hp
      rcases List.mem_cons.mp hp with rfl | hp
      · exact .head _
      rcases List.mem_cons.mp hp with rfl | hp
      · exact .tail _ (.tail _ (.tail _ hma))
      exact .tail _ hp)
    k_steps
    ·
      unfold Hold
      obtain ⟨f1, f2⟩ := (Hold.of hF) (by omega)
      refine' bisect2_c (x := 1) B ?F X ?N T rfl ?M ?I ?S ?Z (by decide) (by decide) (fun r tr hb tkb Fb Nb hc => ?_)
      case F => k_asm
      case N => k_asm
      case M => k_mem
      case I => assumption
      case S => exact srt_fit (by omega)
      case Z => (rw [fit_len]; decide)
      have hr := cut_fit hc (n := n1) (by omega) (by omega) f1 f2
      subst hr
      clear hc f1 f2
      k_sweep
      k_steps
      unfold Hold
      (rename Fr _ _ _ _ => kF); (rename News _ _ _ _ => kN)
      exact fin _ _ _ _ _ _ _ _ _ _ _ kF rfl rfl rfl kN (by k_mem) (by k_mem) (by k_mem) (by intro p hp; kcf_m) (by assumption) (by assumption)
    ·
      unfold Hold
      (rename Fr _ _ _ _ => kF); (rename News _ _ _ _ => kN)
      exact fin _ _ _ _ _ _ _ _ _ _ _ kF rfl rfl rfl kN (by k_mem) (by k_mem) (by k_mem) (by intro p hp; kcf_m) (by assumption) (by assumption)

theorem segE {sc : Scope} {body body' : List Stmt} {tt tw : Tok} {sl fl : Addr} {top low : Int} {kk : Nat} {u : Str → Option Value} {o1 o3 o4 : Obj} {v3 v4 : Option Value} {R : Led} {its : List (Addr × Value × Value × Value)} {acc : List (Int × Int × Int)}
    (h0 : (sc, body, body') = (lawEx.1, lawEx.2.drop 11, lawEx.2.drop 12)) (B : Below callerA h₀ [] h₀) (X : (hd.heap_39 w.params).In h₀) (T : Top p loose mean mg mb h₀) (hL : @LT.lt Nat _ 37 L)
    (d1 : o1.data = .cell (some (.ref fl))) (d3 : o3.data = .cell v3) (d4 : o4.data = .cell v4)
    (F : Fr h₀ L s.heap (fun z => if z = PySem.Str.ofString "top" then some (.int top tt) else if z = PySem.Str.ofString "low" then some (.int low tw) else if z = PySem.Str.ofString "script" then some (.ref sl) else u z))
    (N : News h₀ L s.heap ((L + 1 + 1 + 1 + 1, o4) :: (L + 1 + 1 + 1, o3) :: (L + 1, o1) :: R)) (mfl : (fl, listOf (refs its).toArray kk) ∈ R) (hI : Its its acc) (hlen : acc.length ≤ 8) (hg : ∀ q ∈ acc, gN q = true) (hr : ∀ q ∈ its, (q.1, tupObj [q.2.1, q.2.2.1, q.2.2.2]) ∈ R) (hR3 : ∀ p ∈ R, p.1 ≠ L + 1 + 1 + 1) (hR4 : ∀ p ∈ R, p.1 ≠ L + 1 + 1 + 1 + 1)
    (hE : PassesOwn (model PySem.Challenge.rw_ia0011_01.row.prog w) (callerA.deeper (envOfC (PySem.Str.ofString "law") sc L fa cd)) (envOfC (PySem.Str.ofString "law") sc L fa cd) E)
    (hk : ∀ h' tk' (u' : Str → Option Value) o3 o4 v3 v4, Fr h₀ L h' (fun z => if z = PySem.Str.ofString "top" then some (.int top tt) else if z = PySem.Str.ofString "low" then some (.int low tw) else if z = PySem.Str.ofString "script" then some (.ref sl) else u' z) → News h₀ L h' ((L + 1 + 1 + 1 + 1, o4) :: (L + 1 + 1 + 1, o3) :: (L + 1, o1) :: R) → o3.data = .cell v3 → o4.data = .cell v4 → wpAny (model PySem.Challenge.rw_ia0011_01.row.prog w) (callerA.deeper (envOfC (PySem.Str.ofString "law") sc L fa cd)) (execs body' (envOfC (PySem.Str.ofString "law") sc L fa cd)) Q E { s with heap := h', toks := tk' }) :
    wpAny (model PySem.Challenge.rw_ia0011_01.row.prog w) (callerA.deeper (envOfC (PySem.Str.ofString "law") sc L fa cd)) (execs body (envOfC (PySem.Str.ofString "law") sc L fa cd)) Q E s := by
  dsimp only [lawEx, PySem.Challenge.pw_ia0011_01, List.drop] at h0
  cases h0
  have hil := Its.len hI
  have mfl' : (fl, listOf (refs its).toArray kk) ∈ (L + 1 + 1 + 1 + 1, o4) :: (L + 1 + 1 + 1, o3) :: (L + 1, o1) :: R := .tail _ (.tail _ (.tail _ mfl))
  k_steps
  unfold Hold
  (rename Fr _ _ _ _ => kF); (rename News _ _ _ _ => kN)
  rename_i D' _ lD
  replace kN := News.sub (l' := (L + 1 + 1 + 1 + 1, o4) :: (L + 1 + 1 + 1, o3) :: (D', listOf (refs (its.take 2)).toArray 0) :: (L + 1, o1) :: R) kN (by
    intro p hp
    rcases List.mem_cons.mp hp with rfl | hp
    · exact .tail _ (.head _)
    rcases List.mem_cons.mp hp with rfl | hp
    · exact .tail _ (.tail _ (.head _))
    rcases List.mem_cons.mp hp with rfl | hp
    · exact .head _
    exact .tail _ (.tail _ (.tail _ hp)))
  have hD3 : @LT.lt Nat _ (L + 1 + 1 + 1 + 1) D' := lD _ (.head _)
  refine iter_listTurns (ax := D') (lo := listOf (refs (its.take 2)).toArray 0) rfl kF kN (.tail _ (.tail _ (.head _))) rfl rfl (fun I' hI' => ?_)
  refine loopE (tt := tt) (tw := tw) (sl := sl) (top := top) (low := low) rfl B X T hL (hI' _ (.head _)) (fun p hp => hI' p (.tail _ (.tail _ hp))) (.head _) ?_ ?_ hE ?_ (its.take 2) (acc.take 2) (Its.take 2 hI) (fun q hq => hg q (List.mem_of_mem_take hq)) (fun q hq => .tail _ (.tail _ (hr q (List.mem_of_mem_take hq)))) u o3 o4 v3 v4 d3 d4
  · intro p hp
    rcases List.mem_cons.mp hp with rfl | hp
    · exact Nat.ne_of_gt (Nat.lt_trans (Nat.lt_succ_self _) hD3)
    rcases List.mem_cons.mp hp with rfl | hp
    · show @Ne Nat (L + 1) (L + 1 + 1 + 1)
      omega
    exact hR3 p hp
  · intro p hp
    rcases List.mem_cons.mp hp with rfl | hp
    · exact Nat.ne_of_gt hD3
    rcases List.mem_cons.mp hp with rfl | hp
    · show @Ne Nat (L + 1) (L + 1 + 1 + 1 + 1)
      omega
    exact hR4 p hp
  intro h tk o3' o4' v3' v4' u1 F1 N1 e3 e4
  clear kF kN
  exact hk _ _ _ _ _ _ _ F1 (News.sub N1 (sub_cons (sub_cons (fun p hp => .tail _ hp)))) e3 e4
end
end

section
theorem off21 : True := by w_top off; trivial
theorem sub5 {x y : Option (Addr × Obj)} {za zb zc zd : Obj} {c30 c37 : Addr} {q1 q2 q3 q4 q5 : Addr × Obj} {news : Led} (hpad : ∀ p, p ∈ T30 x ++ T37 y ↔ p ∈ [((30 : Addr), (za : Obj)), (c30, zb), (37, zc), (c37, zd)])
    (h1 : q1 ∈ news) (h2 : q2 ∈ news) (h3 : q3 ∈ news) (h4 : q4 ∈ news) (h5 : q5 ∈ news) (h6 : ((30 : Addr), za) ∈ news) (h7 : (c30, zb) ∈ news) (h8 : ((37 : Addr), zc) ∈ news) (h9 : (c37, zd) ∈ news) : ∀ p ∈ [q1, q2, q3, q4, q5] ++ (T30 x ++ T37 y), p ∈ news := by
  intro p hp
  rcases List.mem_append.mp hp with hp | hp
  · simp only [List.mem_cons, List.not_mem_nil, or_false] at hp
    rcases hp with rfl | rfl | rfl | rfl | rfl <;> assumption
  · replace hp := (hpad p).mp hp
    simp only [List.mem_cons, List.not_mem_nil, or_false] at hp
    rcases hp with rfl | rfl | rfl | rfl <;> assumption
theorem unpad {x y : Option (Addr × Obj)} {za zb zc zd : Obj} {c30 c37 : Addr} {pre : Led} (hpad : ∀ p, p ∈ T30 x ++ T37 y ↔ p ∈ [((30 : Addr), (za : Obj)), (c30, zb), (37, zc), (c37, zd)]) : ∀ p ∈ pre ++ [((30 : Addr), (za : Obj)), (c30, zb), (37, zc), (c37, zd)], p ∈ pre ++ (T30 x ++ T37 y) := by
  intro p hp
  rcases List.mem_append.mp hp with hp | hp
  · exact List.mem_append_left _ hp
  · exact List.mem_append_right _ ((hpad p).mpr hp)
local macro_rules | `(tactic| k_ne) => `(tactic| ((try dsimp only); first | with_reducible assumption | exact offA (by assumption) (by k_mem) | exact Ne.symm (offA (by assumption) (by k_mem)) | fail "no"))
local macro_rules | `(tactic| walk_at "exec For Tuple Name cons nil") => `(tactic| (k_here; (rename Fr _ _ _ _ => lF'); (with_unfolding_all refine' For_turns lF' ?_ (by intro _; rfl) (by assumption); k_whole)))
local macro_rules | `(tactic| walk_at "exec For Name Name cons nil") => `(tactic| (k_here; (rename Fr _ _ _ _ => lF'); (with_unfolding_all refine' For_turns lF' ?_ (by intro _; rfl) (by assumption); k_whole)))
local macro_rules | `(tactic| walk_at "exec For Tuple Subscript cons nil") => `(tactic| (k_here; (rename Fr _ _ _ _ => lF'); (with_unfolding_all refine' For_turns lF' ?_ (by intro _; rfl) (by assumption); k_whole)))
local macro_rules | `(tactic| walk_at "CompRest") => `(tactic| (with_unfolding_all first
  | (refine LCg.CompRest.succ ?_; intro v' I' oI' C' oC' D' m' h' tk' E' hv' hC' hx' F' N' off' ne'; (first | lcg_open hv' | (obtain ⟨t9', hv9'⟩ := hv'; subst hv9')); replace ne' := Hold.of ne')
  | refine LCg.CompRest.zero ?_))
local macro_rules | `(tactic| walk_at "CompRestT") => `(tactic| (with_unfolding_all first
  | (refine LCt.CompRestT.succ ?_; intro v' I' oI' C' oC' D' m' h' tk' E' hv' hC' hx' F' N' off' ne'; (first | lcg_open hv' | (obtain ⟨t9', hv9'⟩ := hv'; subst hv9')); replace ne' := Hold.of ne')
  | refine LCt.CompRestT.zero ?_))
local macro_rules | `(tactic| walk_at "CompEnd") => `(tactic| (refine LCg.CompEnd.intro (by assumption) (by assumption) _ (fun _ hp => hp) (by assumption) (by lcg_src) ?_))
local macro_rules | `(tactic| walk_at "FinE") => `(tactic| ((unfold LCg.FinE); intro D' h' tk' F' N' o1'; (try simp only [List.nil_append, List.cons_append] at N'); (try dsimp only)))
local macro_rules | `(tactic| walk_at "FinA") => `(tactic| ((unfold LCg.FinA); intro D' h' tk' F' N' o1'; (try simp only [List.nil_append, List.cons_append] at N'); (try dsimp only)))
local macro_rules | `(tactic| walk_at "call ref") => `(tactic| (refine Hold.of ?_))
local macro_rules | `(tactic| walk_at "eval ListComp") => `(tactic| ((with_reducible show wpAny _ _ (eval (Expr.ListComp (Expr.Name _ _) [⟨Expr.Tuple [Expr.Name _ _, Expr.Name _ _, Expr.Name _ _] _ _, _, [], 0⟩] _ _) _) _ _ _); k_dflt (refine comp3 (by k_asm) (by with_unfolding_all rfl) (by decide) (by rfl) (by decide) (by rfl) (by rfl) (by rfl) (by decide) (by decide) (by decide) (by intro _; rfl) ?_)))
local macro_rules | `(tactic| walk_at "call ref") => `(tactic| (refine Hold.of ?_))
section
variable {w : World} {p : Program} {loose : List Str} {mean : ExcName → Option Value} {mg mb : Str → Option Value} {fa : Addr} {cd : Value} {h₀ : Heap} {L : Addr} {s : Shared} {Q : Flow → Shared → Prop} {E : Value → Shared → Prop}

theorem segF {sc : Scope} {body : List Stmt} {tt tw : Tok} {sl I : Addr} {it : Obj} {top low : Int} {u : Str → Option Value} {o1 o2 o3 o4 : Obj} {v1 v2 v3 v4 : Option Value} {x y : Option (Addr × Obj)}
    (h0 : (sc, body) = (lawEx.1, lawEx.2.drop 12)) (B : Below callerA h₀ [] h₀) (X : (hd.heap_39 w.params).In h₀) (T : Top p loose mean mg mb h₀) (c1 : CodeHd h₀ 41 37) (c2 : CodeHd h₀ 34 30) (hL : @LT.lt Nat _ 37 L)
    (hx : Ok30 x) (hy : Ok37 y)
    (d1 : o1.data = .cell v1) (d2 : o2.data = .cell v2) (d3 : o3.data = .cell v3) (d4 : o4.data = .cell v4)
    (F : Fr h₀ L s.heap (fun z => if z = PySem.Str.ofString "top" then some (.int top tt) else if z = PySem.Str.ofString "low" then some (.int low tw) else if z = PySem.Str.ofString "script" then some (.ref sl) else u z))
    (N : News h₀ L s.heap ([(I, it), (L + 1 + 1 + 1 + 1, o4), (L + 1 + 1 + 1, o3), (L + 1 + 1, o2), (L + 1, o1)] ++ (T30 x ++ T37 y))) (hI4 : @LT.lt Nat _ (L + 1 + 1 + 1 + 1) I)
    (r1 : 2 ≤ low) (r2 : low ≤ 30)
    (hE : PassesOwn (model PySem.Challenge.rw_ia0011_01.row.prog w) (callerA.deeper (envOfC (PySem.Str.ofString "law") sc L fa cd)) (envOfC (PySem.Str.ofString "law") sc L fa cd) E)
    (g3 : okc 20 1 low = true) (g4 : takenF 20 1 low = [(low, 1, low)])
    (hret : ∀ h' tk' m' x' y' o1' o2' o3' o4' v1' v2' v3' v4', Fr h₀ L h' m' → m' (PySem.Str.ofString "script") = some (.ref sl) → News h₀ L h' ((I, it) :: (L + 1 + 1 + 1 + 1, o4') :: (L + 1 + 1 + 1, o3') :: (L + 1 + 1, o2') :: (L + 1, o1') :: (T30 x' ++ T37 y')) → Ok30 x' → Ok37 y' →
      o1'.data = .cell v1' → o2'.data = .cell v2' → o3'.data = .cell v3' → o4'.data = .cell v4' → Q .next { s with heap := h', toks := tk' }) :
    wpAny (model PySem.Challenge.rw_ia0011_01.row.prog w) (callerA.deeper (envOfC (PySem.Str.ofString "law") sc L fa cd)) (execs body (envOfC (PySem.Str.ofString "law") sc L fa cd)) Q E s := by
  dsimp only [lawEx, PySem.Challenge.pw_ia0011_01, List.drop] at h0
  cases h0
  generalize hR : [(I, it), (L + 1 + 1 + 1 + 1, o4), (L + 1 + 1 + 1, o3), (L + 1 + 1, o2), (L + 1, o1)] ++ (T30 x ++ T37 y) = R at N
  k_steps
  unfold Hold
  subst hR
  refine' law_taken_c (x := x) (y := y) (pre := [(I, it), (L + 1 + 1 + 1 + 1, _), (L + 1 + 1 + 1, _), (L + 1 + 1, o2), (L + 1, o1)]) B ?F X ?N T rfl c1 c2 hx hy ?hp g3 (by decide) (by decide) (fun fl2 fvs2 tups2 kk2 x2 y2 h2 tk2 F2 N2 hT2 hx2 hy2 hfl2 h372 hfp2 => ?_)
  case F => k_asm
  case N => k_asm
  case hp =>
    intro p hp
    simp only [List.mem_cons, List.not_mem_nil, or_false] at hp
    rcases hp with rfl | rfl | rfl | rfl | rfl <;> (show @LT.lt Nat _ 37 _; omega)
  rw [g4] at hT2
  cases hT2
  rename_i hT2
  cases hT2
  obtain ⟨za2, c30b, zb2, zc2, c37b, zd2, hpad2⟩ := pad x2 y2
  replace N2 := News.sub N2 (fun p hp => sub_cons (sub_cons (unpad hpad2)) p hp)
  simp only [List.cons_append, List.nil_append] at N2
  k_sweep
  unfold Src3
  refine' ⟨_, [(_, _, _, _)], _, _, rfl, rfl, ?F4, ?N4, ?M4, ?Z4, ?T4, ?R4⟩
  case F4 => k_asm
  case N4 => k_asm
  case M4 => k_mem
  case T4 => exact List.forall_mem_cons.mpr ⟨by k_mem, List.forall_mem_nil _⟩
  case Z4 => exact Nat.le_of_ble_eq_true rfl
  intro D9 h9 tk9 F9 N9 l9
  (try k_lt l9)
  (try simp only [fst3, List.map_cons, List.map_nil] at N9)
  k_sweep
  k_steps
  (rename Fr _ _ _ _ => kF); (rename News _ _ _ _ => kN)
  refine hret _ _ _ x2 y2 _ _ _ _ _ _ _ _ kF rfl (News.sub kN (sub5 hpad2 (by k_mem) (by k_mem) (by k_mem) (by k_mem) (by k_mem) (by k_mem) (by k_mem) (by k_mem) (by k_mem))) hx2 hy2 (by assumption) (by assumption) (by assumption) (by assumption)
end
end

section
theorem off22 : True := by w_top off; trivial
local macro_rules | `(tactic| k_ne) => `(tactic| ((try dsimp only); first | with_reducible assumption | exact offA (by assumption) (by k_mem) | exact Ne.symm (offA (by assumption) (by k_mem)) | fail "no"))
local macro_rules | `(tactic| walk_at "exec For Tuple Name cons nil") => `(tactic| (k_here; (rename Fr _ _ _ _ => lF'); (with_unfolding_all refine' For_turns lF' ?_ (by intro _; rfl) (by assumption); k_whole)))
local macro_rules | `(tactic| walk_at "exec For Name Name cons nil") => `(tactic| (k_here; (rename Fr _ _ _ _ => lF'); (with_unfolding_all refine' For_turns lF' ?_ (by intro _; rfl) (by assumption); k_whole)))
local macro_rules | `(tactic| walk_at "exec For Tuple Subscript cons nil") => `(tactic| (k_here; (rename Fr _ _ _ _ => lF'); (with_unfolding_all refine' For_turns lF' ?_ (by intro _; rfl) (by assumption); k_whole)))
local macro_rules | `(tactic| walk_at "CompRest") => `(tactic| (with_unfolding_all first
  | (refine LCg.CompRest.succ ?_; intro v' I' oI' C' oC' D' m' h' tk' E' hv' hC' hx' F' N' off' ne'; (first | lcg_open hv' | (obtain ⟨t9', hv9'⟩ := hv'; subst hv9')); replace ne' := Hold.of ne')
  | refine LCg.CompRest.zero ?_))
local macro_rules | `(tactic| walk_at "CompRestT") => `(tactic| (with_unfolding_all first
  | (refine LCt.CompRestT.succ ?_; intro v' I' oI' C' oC' D' m' h' tk' E' hv' hC' hx' F' N' off' ne'; (first | lcg_open hv' | (obtain ⟨t9', hv9'⟩ := hv'; subst hv9')); replace ne' := Hold.of ne')
  | refine LCt.CompRestT.zero ?_))
local macro_rules | `(tactic| walk_at "CompEnd") => `(tactic| (refine LCg.CompEnd.intro (by assumption) (by assumption) _ (fun _ hp => hp) (by assumption) (by lcg_src) ?_))
local macro_rules | `(tactic| walk_at "FinE") => `(tactic| ((unfold LCg.FinE); intro D' h' tk' F' N' o1'; (try simp only [List.nil_append, List.cons_append] at N'); (try dsimp only)))
local macro_rules | `(tactic| walk_at "FinA") => `(tactic| ((unfold LCg.FinA); intro D' h' tk' F' N' o1'; (try simp only [List.nil_append, List.cons_append] at N'); (try dsimp only)))
local macro_rules | `(tactic| walk_at "call ref") => `(tactic| (refine Hold.of ?_))
local macro_rules | `(tactic| walk_at "execs cons") => `(tactic| ((with_reducible show wpAny _ _ (execs (Stmt.Assign [Expr.Tuple _ _ _] _ _ :: _) _) _ _ _); refine Hold.of ?_))
theorem stepC {low top : Int} {acc : List (Int × Int × Int)} (G : Good low top acc) {j : Nat} (h : j + 1 < acc.length) : (nums acc).getD j 0 * ((nums acc).getD j 0 - 1) < (nums acc).getD (j + 1) 0 ∧ 2 ≤ (nums acc).getD j 0 ∧ (nums acc).getD j 0 < 2 ^ 60 := by
  refine ⟨(G.step j h).1, ?_⟩
  have hj : j < acc.length := by omega
  have e : (nums acc).getD j 0 = acc[j].1 := by
    unfold nums
    rw [List.getD_eq_getElem?_getD, List.getElem?_map, List.getElem?_eq_getElem hj]
    rfl
  have h := G.gn acc[j] (List.getElem_mem hj)
  unfold gN at h
  have h := of_decide_eq_true h
  rw [e]
  exact ⟨h.1, h.2.1⟩

theorem take1 (vs : List Value) : kms_pick vs none (some 1) = vs.take 1 := by
  unfold kms_pick
  show (vs.drop 0).take (min 1 vs.length - 0) = _
  rw [List.drop_zero, Nat.sub_zero]
  rcases Nat.le_total 1 vs.length with h | h
  · rw [Nat.min_eq_left h]
  · rw [Nat.min_eq_right h, List.take_length, List.take_of_length_le h]
theorem one_of {low top : Int} {acc : List (Int × Int × Int)} {vs : List Value} (G : Good low top acc) (hv : IntsAre vs (nums acc)) : ∃ n1, 2 ≤ n1 ∧ IntsAre (vs.take 1) [n1] := by
  cases acc with
  | nil => exact absurd rfl G.ne
  | cons q r =>
    have h := G.gn q (.head _)
    unfold gN at h
    exact ⟨q.1, (of_decide_eq_true h).1, IntsAre.take hv 1⟩
local macro_rules | `(tactic| walk_at "subscriptTail Name Slice ref ref") => `(tactic| (k_dflt (refine' kms_slice_lit ?F ?N ?l ?p ?q (take1 _) ?_ ?s ?t ?z; (case F => k_asm); (case N => k_asm); (case l => exact News.isList (by k_asm) (by k_mem)); (case p => exact IsPart.none); (case q => exact IsPart.int _ _); (case s => with_unfolding_all rfl); (case t => (intro _; with_unfolding_all rfl)); (case z => (rw [List.size_toArray, PySem.sizeLine_eq]; omega))); intro D' h' F' N' l1))
local macro_rules | `(tactic| walk_at "eval ListComp") => `(tactic| ((with_reducible show wpAny _ _ (eval (Expr.ListComp (Expr.Name _ _) [⟨Expr.Tuple [Expr.Name _ _, Expr.Name _ _, Expr.Name _ _] _ _, _, [], 0⟩] _ _) _) _ _ _); k_dflt (refine comp3 (by k_asm) (by with_unfolding_all rfl) (by decide) (by rfl) (by decide) (by rfl) (by rfl) (by rfl) (by decide) (by decide) (by decide) (by intro _; rfl) ?_)))
local macro_rules | `(tactic| walk_at "eval ListComp") => `(tactic| ((with_reducible show wpAny _ _ (eval (Expr.ListComp (Expr.Name _ _) [⟨Expr.Name _ _, _, [_], 0⟩] _ _) _) _ _ _); k_dflt (refine LCt.ListComp_T (by k_asm) (by with_unfolding_all rfl) (by decide) (by rfl) (by decide) (by rfl) ?_ (by intro _; rfl))))

local macro_rules | `(tactic| walk_at "Src3") => `(tactic| (unfold Src3; k_dflt (refine' ⟨_, _, _, _, rfl, rfl, ?F, ?N, ?M, ?Z, ?T, ?R⟩; (case F => k_asm); (case N => k_asm); (case M => (exact (by assumption : (_, listOf (refs _).toArray _) ∈ (_ :: _)))); (case T => assumption); (case Z => (rw [PySem.sizeLine_eq]; omega)); intro D' h' tk' F' N' l1)))
local macro_rules | `(tactic| walk_at "call builtin:len") => `(tactic| (k_dflt (refine' len_K ?k1 ?k2 ?k3 ?_; (case k1 => k_asm); (case k2 => k_mem); (case k3 => omega); k_whole); intro t' tk'))
local macro_rules | `(tactic| walk_at "CompSrcT") => `(tactic| (refine Hold.of ?_))
def compC : Scope × PySem.Expr × PySem.Expr × Scope := match lawEx.2.drop 7 with
  | .If (.Compare (.ListComp elt [⟨_, _, [ct], _⟩] csc _) _ _ _) _ _ _ :: _ => (lawEx.1, elt, ct, csc)
  | _ => (default, default, default, default)
theorem mulOkB' {a b : Int} (h1 : 0 ≤ a) (h2 : a < 2 ^ 60) (h3 : 0 ≤ b) (h4 : b < 2 ^ 60) : IntMulOk a b := mulOk (by omega) (by omega)
local macro_rules | `(tactic| walk_at "subscriptTail") => `(tactic| ((with_reducible show wpAny _ _ (subscriptTail _ _ (Value.ref _) (Value.int _ _)) _ _ _); k_dflt (refine' ksa_sub ?k1 ?k2 ?k3 ?k4 ?k5 ?k6 ?_ ?k7; (case k1 => k_asm); (case k2 => k_mem); (case k3 => with_reducible assumption); (case k4 => omega); (case k5 => omega); (case k6 => omega); (case k7 => with_unfolding_all rfl); k_whole); intro _))
local macro_rules | `(tactic| walk_at "binaryOp Mult int int") => `(tactic| (refine mul_int ?_ (mulOkB' (by omega) (by omega) (by omega) (by omega))))
local macro_rules | `(tactic| walk_at "CompRestT") => `(tactic| (refine Hold.of ?_))
local macro_rules | `(tactic| walk_at "CompEnd") => `(tactic| (refine LCg.CompEnd.intro (by assumption) (by assumption) _ (fun _ hp => hp) (by assumption) (by exact trivial) ?_))
section
variable {w : World} {p : Program} {loose : List Str} {mean : ExcName → Option Value} {mg mb : Str → Option Value} {fa : Addr} {cd : Value} {h₀ : Heap} {L : Addr} {s : Shared} {Q : Flow → Shared → Prop} {E : Value → Shared → Prop}

theorem restC {sc csc : Scope} {elt ct : PySem.Expr} {cl : List (Str × Addr)} {l : Addr} {kl : Nat} {o2 : Obj} {R : Led} {m : Str → Option Value} {vs : List Value} {ds : List Int} {Fin : List Value → Led → Prop} (h0 : (sc, elt, ct, csc) = compC) (hcl : cl = [(PySem.Str.ofString "order", L + 1 + 1)])
    (B : Below callerA h₀ [] h₀) (X : (hd.heap_39 w.params).In h₀) (T : Top p loose mean mg mb h₀) (hL : @LT.lt Nat _ 37 L) (d2 : o2.data = .cell (some (.ref l))) (hv : IntsAre vs ds) (n : Nat) (hn : n + 1 ≤ ds.length) (hn8 : ds.length ≤ 8)
    (hst : ∀ j : Nat, j + 1 < ds.length → ds.getD j 0 * (ds.getD j 0 - 1) < ds.getD (j + 1) 0 ∧ 2 ≤ ds.getD j 0 ∧ ds.getD j 0 < 2 ^ 60)
    (fin : Fin [] ((l, listOf vs.toArray kl) :: (L + 1 + 1, o2) :: (L + 1, o1) :: R)) : ∀ k i : Nat, i + k = n →
      LCt.CompRestT PySem.Challenge.rw_ia0011_01.row.prog w (callerA.deeper (envOfC (PySem.Str.ofString "law") sc L fa cd)) h₀ L m (envOfC (PySem.Str.ofString "law") sc L fa cd) ct elt (PySem.Str.ofString "j") csc cl s (fun _ => True) (fun i v => ∃ t, v = .int (1 + (i : Int)) t) Fin k i [] ((l, listOf vs.toArray kl) :: (L + 1 + 1, o2) :: (L + 1, o1) :: R) := by
  dsimp only [compC, lawEx, PySem.Challenge.pw_ia0011_01, List.drop] at h0
  cases h0
  subst hcl
  intro k
  induction k with
  | zero =>
    intro i hi
    exact LCt.CompRestT.zero fin
  | succ k ih =>
    intro i hi
    obtain ⟨z1, z2, z3⟩ := hst i (by omega)
    have e1 : (1 + (i : Int) - 1).toNat = i := by omega
    have e2 : (1 + (i : Int)).toNat = i + 1 := by omega
    rw [← e2] at z1
    have z1' : ds.getD (1 + (i : Int) - 1).toNat 0 * (ds.getD (1 + (i : Int) - 1).toNat 0 - 1) < ds.getD (1 + (i : Int)).toNat 0 := by rw [e1]; exact z1
    have z2' : 2 ≤ ds.getD (1 + (i : Int) - 1).toNat 0 ∧ ds.getD (1 + (i : Int) - 1).toNat 0 < 2 ^ 60 := by rw [e1]; exact ⟨z2, z3⟩
    clear z1 z2 z3
    clear e1 e2
    have hvl := IntsAre.length hv
    refine LCt.CompRestT.succ ?_
    intro v I oI C oC D m₂ h tk E' hp hC hx F N off ne
    obtain ⟨t9, hv9⟩ := hp
    subst hv9
    replace ne := Hold.of ne
    k_steps
    exact ih (i + 1) (by omega)
theorem segC {sc : Scope} {body body' : List Stmt} {tt tw : Tok} {sl l fl : Addr} {top low : Int} {kl kk : Nat} {u : Str → Option Value} {o1 o2 : Obj} {R : Led} {vs : List Value} {its : List (Addr × Value × Value × Value)} {acc : List (Int × Int × Int)}
    (h0 : (sc, body, body') = (lawEx.1, lawEx.2.drop 6, lawEx.2.drop 8)) (B : Below callerA h₀ [] h₀) (X : (hd.heap_39 w.params).In h₀) (T : Top p loose mean mg mb h₀) (hL : @LT.lt Nat _ 37 L)
    (d1 : o1.data = .cell (some (.ref fl))) (d2 : o2.data = .cell (some (.ref l)))
    (F : Fr h₀ L s.heap (fun z => if z = PySem.Str.ofString "top" then some (.int top tt) else if z = PySem.Str.ofString "low" then some (.int low tw) else if z = PySem.Str.ofString "script" then some (.ref sl) else u z))
    (N : News h₀ L s.heap ((l, listOf vs.toArray kl) :: (L + 1 + 1, o2) :: (L + 1, o1) :: R)) (mfl : (fl, listOf (refs its).toArray kk) ∈ R) (hI : Its its acc) (hv : IntsAre vs (nums acc)) (G : Good low top acc) (hr : ∀ q ∈ its, (q.1, tupObj [q.2.1, q.2.2.1, q.2.2.2]) ∈ R)
    (hE : PassesOwn (model PySem.Challenge.rw_ia0011_01.row.prog w) (callerA.deeper (envOfC (PySem.Str.ofString "law") sc L fa cd)) (envOfC (PySem.Str.ofString "law") sc L fa cd) E)
    (hk : ∀ h' tk' (u' : Str → Option Value), Fr h₀ L h' (fun z => if z = PySem.Str.ofString "top" then some (.int top tt) else if z = PySem.Str.ofString "low" then some (.int low tw) else if z = PySem.Str.ofString "script" then some (.ref sl) else u' z) → News h₀ L h' ((l, listOf vs.toArray kl) :: (L + 1 + 1, o2) :: (L + 1, o1) :: R) → wpAny (model PySem.Challenge.rw_ia0011_01.row.prog w) (callerA.deeper (envOfC (PySem.Str.ofString "law") sc L fa cd)) (execs body' (envOfC (PySem.Str.ofString "law") sc L fa cd)) Q E { s with heap := h', toks := tk' }) :
    wpAny (model PySem.Challenge.rw_ia0011_01.row.prog w) (callerA.deeper (envOfC (PySem.Str.ofString "law") sc L fa cd)) (execs body (envOfC (PySem.Str.ofString "law") sc L fa cd)) Q E s := by
  dsimp only [lawEx, PySem.Challenge.pw_ia0011_01, List.drop] at h0
  cases h0
  have hil := Its.len hI
  have hlen8 := G.len8
  have hne1 : 1 ≤ acc.length := List.length_pos_iff.mpr G.ne
  have hvl : vs.length = acc.length := by rw [IntsAre.length hv]; exact List.length_map ..
  obtain ⟨n1, hn1, hv1⟩ := one_of G hv
  have hf3 : IntsAre (fst3 its) (nums acc) := Its.ints hI
  have mfl' : (fl, listOf (refs its).toArray kk) ∈ (l, listOf vs.toArray kl) :: (L + 1 + 1, o2) :: (L + 1, o1) :: R := .tail _ (.tail _ (.tail _ mfl))
  have hr' : ∀ q ∈ its, (q.1, tupObj [q.2.1, q.2.2.1, q.2.2.2]) ∈ (l, listOf vs.toArray kl) :: (L + 1 + 1, o2) :: (L + 1, o1) :: R := fun q hq => .tail _ (.tail _ (.tail _ (hr q hq)))
  k_steps
  · exact absurd (show [n1] = [1] by assumption) (fun e => by have := List.head_eq_of_cons_eq e; omega)
  unfold Hold
  rename_i hRg kF kN _
  replace kN := News.sub (l' := (l, listOf vs.toArray kl) :: (L + 1 + 1, o2) :: (L + 1, o1) :: R) kN (fun p hp => .tail _ (.tail _ (.tail _ hp)))
  refine LCt.CompSrcT.range rfl kF kN hRg (small_one (by omega) (by omega) (by omega) (by omega)) (rangeSize_nat _ _) (by rw [PySem.sizeLine_eq]; omega) (fun g => ?_)
  refine restC (ds := nums acc) rfl rfl B X T hL d2 hv _ ?hn ?hn8 ?hst ?fin _ 0 (Nat.zero_add _)
  case hn => (have : (nums acc).length = acc.length := List.length_map ..); omega
  case hn8 => (have : (nums acc).length = acc.length := List.length_map ..); omega
  case hst => exact fun j hj => stepC G (by rwa [show (nums acc).length = acc.length from List.length_map ..] at hj)
  case fin =>
    clear kF kN hRg
    k_steps
    unfold Hold
    (rename Fr _ _ _ _ => kF); (rename News _ _ _ _ => kN)
    exact hk _ _ _ (canonF kF rfl rfl rfl) (News.sub kN (fun p hp => .tail _ (.tail _ hp)))
end
end

section
theorem off23 : True := by w_top off; trivial
local macro_rules | `(tactic| k_ne) => `(tactic| ((try dsimp only); first | with_reducible assumption | exact offA (by assumption) (by k_mem) | exact Ne.symm (offA (by assumption) (by k_mem)) | fail "no"))
local macro_rules | `(tactic| walk_at "exec For Tuple Name cons nil") => `(tactic| (k_here; (rename Fr _ _ _ _ => lF'); (with_unfolding_all refine' For_turns lF' ?_ (by intro _; rfl) (by assumption); k_whole)))
local macro_rules | `(tactic| walk_at "exec For Name Name cons nil") => `(tactic| (k_here; (rename Fr _ _ _ _ => lF'); (with_unfolding_all refine' For_turns lF' ?_ (by intro _; rfl) (by assumption); k_whole)))
local macro_rules | `(tactic| walk_at "exec For Tuple Subscript cons nil") => `(tactic| (k_here; (rename Fr _ _ _ _ => lF'); (with_unfolding_all refine' For_turns lF' ?_ (by intro _; rfl) (by assumption); k_whole)))
local macro_rules | `(tactic| walk_at "CompRest") => `(tactic| (with_unfolding_all first
  | (refine LCg.CompRest.succ ?_; intro v' I' oI' C' oC' D' m' h' tk' E' hv' hC' hx' F' N' off' ne'; (first | lcg_open hv' | (obtain ⟨t9', hv9'⟩ := hv'; subst hv9')); replace ne' := Hold.of ne')
  | refine LCg.CompRest.zero ?_))
local macro_rules | `(tactic| walk_at "CompRestT") => `(tactic| (with_unfolding_all first
  | (refine LCt.CompRestT.succ ?_; intro v' I' oI' C' oC' D' m' h' tk' E' hv' hC' hx' F' N' off' ne'; (first | lcg_open hv' | (obtain ⟨t9', hv9'⟩ := hv'; subst hv9')); replace ne' := Hold.of ne')
  | refine LCt.CompRestT.zero ?_))
local macro_rules | `(tactic| walk_at "CompEnd") => `(tactic| (refine LCg.CompEnd.intro (by assumption) (by assumption) _ (fun _ hp => hp) (by assumption) (by lcg_src) ?_))
local macro_rules | `(tactic| walk_at "FinE") => `(tactic| ((unfold LCg.FinE); intro D' h' tk' F' N' o1'; (try simp only [List.nil_append, List.cons_append] at N'); (try dsimp only)))
local macro_rules | `(tactic| walk_at "FinA") => `(tactic| ((unfold LCg.FinA); intro D' h' tk' F' N' o1'; (try simp only [List.nil_append, List.cons_append] at N'); (try dsimp only)))
local macro_rules | `(tactic| walk_at "call ref") => `(tactic| (refine Hold.of ?_))
theorem sub4 {x y z q : Addr × Obj} {r n : Led} (h0 : x ∈ n) (h1 : y ∈ n) (h2 : z ∈ n) (h3 : q ∈ n) (h4 : ∀ p ∈ r, p ∈ n) : ∀ p ∈ x :: y :: z :: q :: r, p ∈ n := by
  intro p hp
  rcases List.mem_cons.mp hp with rfl | hp
  · exact h0
  rcases List.mem_cons.mp hp with rfl | hp
  · exact h1
  rcases List.mem_cons.mp hp with rfl | hp
  · exact h2
  rcases List.mem_cons.mp hp with rfl | hp
  · exact h3
  exact h4 p hp
theorem sub5' {x y z q t : Addr × Obj} {r n : Led} (h0 : x ∈ n) (h1 : y ∈ n) (h2 : z ∈ n) (h3 : q ∈ n) (h5 : t ∈ n) (h4 : ∀ p ∈ r, p ∈ n) : ∀ p ∈ x :: y :: z :: q :: t :: r, p ∈ n := by
  intro p hp
  rcases List.mem_cons.mp hp with rfl | hp
  · exact h0
  exact sub4 h1 h2 h3 h5 h4 p hp
theorem allLt_mem {d : Addr} : ∀ {l : Led}, AllLt d l → ∀ p ∈ l, p.1 < d
  | [], _, _, h => nomatch h
  | q :: _, x, p, h => by
    rcases List.mem_cons.mp h with rfl | h
    · exact x.1
    · exact allLt_mem x.2 p h

def compA : Scope × PySem.Expr × PySem.Expr × Scope := match lawEx.2.drop 3 with
  | .If (.BoolOp _ [_, .Compare (.ListComp elt [⟨_, _, [ct], _⟩] csc _) _ _ _] _) _ _ _ :: _ => (lawEx.1, elt, ct, csc)
  | _ => (default, default, default, default)
theorem getD_left {a b : List Int} {i : Nat} (h : i < a.length) : (a ++ b).getD i 0 = a.getD i 0 := by
  rw [List.getD_eq_getElem?_getD, List.getD_eq_getElem?_getD, List.getElem?_append_left h]
theorem upA {low top : Int} {acc pre r : List (Int × Int × Int)} {q : Int × Int × Int} (G : Good low top acc) (e : acc = pre ++ q :: r) : Srt (nums pre) ∧ (∀ i : Nat, i < (nums pre).length → (nums pre).getD i 0 < q.1) ∧ (nums pre).length ≤ 60 := by
  have hl : (nums pre).length = pre.length := List.length_map ..
  have hn : nums acc = nums pre ++ (q.1 :: nums r) := by rw [e]; exact List.map_append
  have ha : acc.length = pre.length + (r.length + 1) := by rw [e, List.length_append, List.length_cons]
  have h8 := G.len8
  have up : ∀ i j : Nat, i < (nums pre).length → j < i → (nums pre).getD j 0 < (nums pre).getD i 0 := by
    intro i j hi hj
    have := G.up i j (by omega) hj
    rwa [hn, getD_left hi, getD_left (Nat.lt_trans hj hi)] at this
  refine ⟨fun i j h1 h2 => ?_, fun i hi => ?_, by omega⟩
  · rcases Nat.lt_or_eq_of_le h1 with h | h
    · exact Int.le_of_lt (up j i h2 h)
    · subst h; exact Int.le_refl _
  · have := G.up (nums pre).length i (by omega) hi
    rw [hn, getD_left hi] at this
    rwa [show (nums pre ++ q.1 :: nums r).getD (nums pre).length 0 = q.1 by rw [List.getD_eq_getElem?_getD, List.getElem?_append_right (Nat.le_refl _), Nat.sub_self]; rfl] at this
theorem refs_at {its : List (Addr × Value × Value × Value)} {j : Nat} {q : Addr × Value × Value × Value} (h : its[j]? = some q) : (refs its)[j]? = some (.ref q.1) := by
  rw [List.getElem?_map, h]
  rfl
theorem subCE {x y z a b : Addr × Obj} {r : Led} : ∀ p ∈ x :: y :: z :: r, p ∈ x :: y :: z :: a :: b :: r := by
  intro p hp
  rcases List.mem_cons.mp hp with rfl | hp
  · exact .head _
  rcases List.mem_cons.mp hp with rfl | hp
  · exact .tail _ (.head _)
  rcases List.mem_cons.mp hp with rfl | hp
  · exact .tail _ (.tail _ (.head _))
  exact .tail _ (.tail _ (.tail _ (.tail _ (.tail _ hp))))
local macro_rules | `(tactic| walk_at "eval ListComp") => `(tactic| ((with_reducible show wpAny _ _ (eval (Expr.ListComp (Expr.Name _ _) [⟨Expr.Name _ _, _, [_], 0⟩] _ _) _) _ _ _); k_dflt (refine LCt.ListComp_T (by k_asm) (by with_unfolding_all rfl) (by decide) (by rfl) (by decide) (by rfl) ?_ (by intro _; rfl))))
local macro_rules | `(tactic| walk_at "UnrEndW") => `(tactic| (refine Hold.of ?_))
local macro_rules | `(tactic| walk_at "pyIter ref") => `(tactic| (refine Hold.of ?_))
local macro_rules | `(tactic| walk_at "call ref") => `(tactic| (refine Hold.of ?_))
local macro_rules | `(tactic| walk_at "CompSrcT") => `(tactic| (refine Hold.of ?_))
local macro_rules | `(tactic| walk_at "CompRestT") => `(tactic| (refine Hold.of ?_))
local macro_rules | `(tactic| walk_at "CompEnd") => `(tactic| (refine LCg.CompEnd.intro (by assumption) (by assumption) _ subCE (by assumption) (by exact trivial) ?_))
local macro_rules | `(tactic| walk_at "subscriptTail") => `(tactic| ((with_reducible show wpAny _ _ (subscriptTail _ _ (Value.ref _) (Value.int _ _)) _ _ _); k_dflt (refine' item_litK ?k1 ?k2 ?k3 ?k4 ?_ ?k5; (case k1 => exact News.isList (by k_asm) (by assumption)); (case k2 => omega); (case k3 => omega); (case k4 => assumption); (case k5 => with_unfolding_all rfl); k_whole)))
local macro_rules | `(tactic| walk_at "call builtin:len") => `(tactic| (k_dflt (refine' len_K ?k1 ?k2 ?k3 ?_; (case k1 => k_asm); (case k2 => assumption); (case k3 => omega); k_whole); intro t' tk'))
section
variable {w : World} {p : Program} {loose : List Str} {mean : ExcName → Option Value} {mg mb : Str → Option Value} {fa : Addr} {cd : Value} {h₀ : Heap} {L : Addr} {s : Shared} {Q : Flow → Shared → Prop} {E : Value → Shared → Prop}

theorem restA {sc csc : Scope} {elt ct : PySem.Expr} {cl : List (Str × Addr)} {fl : Addr} {kk : Nat} {o1 : Obj} {R : Led} {m : Str → Option Value} {its : List (Addr × Value × Value × Value)} {acc : List (Int × Int × Int)} {Fin : List Value → Led → Prop} (h0 : (sc, elt, ct, csc) = compA) (hcl : cl = [(PySem.Str.ofString "taken", L + 1)])
    (B : Below callerA h₀ [] h₀) (X : (hd.heap_39 w.params).In h₀) (T : Top p loose mean mg mb h₀) (hL : @LT.lt Nat _ 37 L) (d1 : o1.data = .cell (some (.ref fl))) (mfl : (fl, listOf (refs its).toArray kk) ∈ R) (hI : Its its acc) (hr : ∀ q ∈ its, (q.1, tupObj [q.2.1, q.2.2.1, q.2.2.2]) ∈ R) (n : Nat) (hn : n + 1 ≤ acc.length) (hn8 : acc.length ≤ 8)
    (hst : ∀ j : Nat, j + 1 < acc.length → (tops acc).getD (j + 1) 0 < (tops acc).getD j 0)
    (fin : Fin [] ((L + 1, o1) :: R)) : ∀ k i : Nat, i + k = n →
      LCt.CompRestT PySem.Challenge.rw_ia0011_01.row.prog w (callerA.deeper (envOfC (PySem.Str.ofString "law") sc L fa cd)) h₀ L m (envOfC (PySem.Str.ofString "law") sc L fa cd) ct elt (PySem.Str.ofString "j") csc cl s (fun _ => True) (fun i v => ∃ t, v = .int (1 + (i : Int)) t) Fin k i [] ((L + 1, o1) :: R) := by
  dsimp only [compA, lawEx, PySem.Challenge.pw_ia0011_01, List.drop] at h0
  cases h0
  subst hcl
  intro k
  induction k with
  | zero =>
    intro i hi
    exact LCt.CompRestT.zero fin
  | succ k ih =>
    intro i hi
    have z1 := hst i (by omega)
    have e1 : (1 + (i : Int) - 1).toNat = i := by omega
    have e2 : (1 + (i : Int)).toNat = i + 1 := by omega
    obtain ⟨⟨a, av, aw, ax⟩, na, ta, la, xa, xa1, xa2, xa3⟩ := Its.at (i + 1) hI (by omega)
    obtain ⟨⟨b, bv, bw, bx⟩, nb, tb, lb, xb, xb1, xb2, xb3⟩ := Its.at i hI (by omega)
    have ma := hr _ (List.mem_of_getElem? xa)
    have mb9 := hr _ (List.mem_of_getElem? xb)
    have ya : (refs its)[(1 + (i : Int)).toNat]? = some (.ref a) := by rw [e2]; exact refs_at xa
    have yb : (refs its)[(1 + (i : Int) - 1).toNat]? = some (.ref b) := by rw [e1]; exact refs_at xb
    dsimp only at xa1 xa2 xa3 xb1 xb2 xb3 ma mb9
    subst xa1 xa2 xa3 xb1 xb2 xb3
    clear e1 e2 xa xb
    refine LCt.CompRestT.succ ?_
    intro v I oI C oC D m₂ h tk E' hp hC hx F N off ne
    obtain ⟨t9, hv9⟩ := hp
    subst hv9
    replace ne := Hold.of ne
    have N9 := News.sub (l' := (I, oI) :: (C, oC) :: (D, LCg.lst []) :: (a, tupObj [.int ((nums acc).getD (i + 1) 0) na, .int ((tops acc).getD (i + 1) 0) ta, .int ((acc.map (·.2.2)).getD (i + 1) 0) la]) :: (b, tupObj [.int ((nums acc).getD i 0) nb, .int ((tops acc).getD i 0) tb, .int ((acc.map (·.2.2)).getD i 0) lb]) :: (L + 1, o1) :: R) N (by
      intro p hp
      rcases List.mem_cons.mp hp with rfl | hp
      · exact .head _
      rcases List.mem_cons.mp hp with rfl | hp
      · exact .tail _ (.head _)
      rcases List.mem_cons.mp hp with rfl | hp
      · exact .tail _ (.tail _ (.head _))
      rcases List.mem_cons.mp hp with rfl | hp
      · exact .tail _ (.tail _ (.tail _ (.tail _ ma)))
      rcases List.mem_cons.mp hp with rfl | hp
      · exact .tail _ (.tail _ (.tail _ (.tail _ mb9)))
      exact .tail _ (.tail _ (.tail _ hp)))
    clear N
    have mfl' := List.mem_cons_of_mem (I, oI) (List.mem_cons_of_mem (C, oC) (List.mem_cons_of_mem (D, LCg.lst []) (List.mem_cons_of_mem (a, tupObj [.int ((nums acc).getD (i + 1) 0) na, .int ((tops acc).getD (i + 1) 0) ta, .int ((acc.map (·.2.2)).getD (i + 1) 0) la]) (List.mem_cons_of_mem (b, tupObj [.int ((nums acc).getD i 0) nb, .int ((tops acc).getD i 0) tb, .int ((acc.map (·.2.2)).getD i 0) lb]) (List.mem_cons_of_mem (L + 1, o1) mfl)))))
    k_steps
    unfold Hold
    exact ih (i + 1) (by omega)

theorem loopA {sc : Scope} {tgt : PySem.Expr} {bd : List Stmt} {fl l I' : Addr} {o2 : Obj} {lo : Obj} {R : Led} {tt tw : Tok} {sl : Addr} {top low : Int} {acc : List (Int × Int × Int)} (h0 : (sc, tgt, bd) = forEx 5)
    (B : Below callerA h₀ [] h₀) (X : (hd.heap_39 w.params).In h₀) (T : Top p loose mean mg mb h₀) (hL : @LT.lt Nat _ 37 L) (d2 : o2.data = .cell (some (.ref l))) (m2 : (L + 1 + 1, o2) ∈ R) (hI3 : @LT.lt Nat _ (L + 1 + 1 + 1 + 1) I') (hIl : @LT.lt Nat _ l I') (hl4 : @LT.lt Nat _ (L + 1 + 1 + 1 + 1) l) (hI' : ∀ p ∈ R, p.1 < I') (hm : (fl, lo) ∈ R) (hR3 : ∀ p ∈ R, p.1 ≠ L + 1 + 1 + 1) (hR4 : ∀ p ∈ R, p.1 ≠ L + 1 + 1 + 1 + 1) (hRl : ∀ p ∈ R, p.1 ≠ l) (G : Good low top acc)
    (hE : PassesOwn (model PySem.Challenge.rw_ia0011_01.row.prog w) (callerA.deeper (envOfC (PySem.Str.ofString "law") sc L fa cd)) (envOfC (PySem.Str.ofString "law") sc L fa cd) E)
    (hQ : ∀ h tk o3 o4 v3 v4 vs k (u : Str → Option Value), Fr h₀ L h (fun z => if z = PySem.Str.ofString "top" then some (.int top tt) else if z = PySem.Str.ofString "low" then some (.int low tw) else if z = PySem.Str.ofString "script" then some (.ref sl) else u z) → News h₀ L h ((l, listOf vs.toArray k) :: (L + 1 + 1 + 1 + 1, o4) :: (L + 1 + 1 + 1, o3) :: R) → IntsAre vs (nums acc) → o3.data = .cell v3 → o4.data = .cell v4 → Q .next { s with heap := h, toks := tk }) :
    ∀ (its : List (Addr × Value × Value × Value)) (acc2 : List (Int × Int × Int)), Its its acc2 → (∀ q ∈ its, (q.1, tupObj [q.2.1, q.2.2.1, q.2.2.2]) ∈ R) → ∀ (pre : List (Int × Int × Int)) (vs : List Value) (k : Nat) (u : Str → Option Value) (o3 o4 : Obj) (v3 v4 : Option Value), acc = pre ++ acc2 → IntsAre vs (nums pre) → o3.data = .cell v3 → o4.data = .cell v4 →
      ItemsRest PySem.Challenge.rw_ia0011_01.row.prog w (callerA.deeper (envOfC (PySem.Str.ofString "law") sc L fa cd)) E h₀ (envOfC (PySem.Str.ofString "law") sc L fa cd) tgt bd Q s [(I', "list_iterator")] [(fl, lo)] ((refs its).map .val) (fun z => if z = PySem.Str.ofString "top" then some (.int top tt) else if z = PySem.Str.ofString "low" then some (.int low tw) else if z = PySem.Str.ofString "script" then some (.ref sl) else u z) ((l, listOf vs.toArray k) :: (L + 1 + 1 + 1 + 1, o4) :: (L + 1 + 1 + 1, o3) :: R) := by
  dsimp only [forEx, lawEx, PySem.Challenge.pw_ia0011_01, List.drop] at h0
  cases h0
  intro its acc2 hI
  induction hI with
  | nil =>
    intro hr pre vs k u o3 o4 v3 v4 he hv d3 d4
    rw [List.append_nil] at he
    subst he
    exact ItemsRest.zero (fun h tk F N => hQ h tk o3 o4 v3 v4 vs k u F N hv d3 d4)
  | @cons a n1 t1 l1 q1 r1 s1 its acc2 hI ih =>
    intro hr pre vs k u o3 o4 v3 v4 he hv d3 d4
    obtain ⟨hs1, hs2, hs3⟩ := upA G he
    have hma := hr _ (.head _)
    have ha3 : @Ne Nat a (L + 1 + 1 + 1) := hR3 _ hma
    have ha4 : @Ne Nat a (L + 1 + 1 + 1 + 1) := hR4 _ hma
    have hal : @Ne Nat a l := hRl _ hma
    have h23 : @Ne Nat (L + 1 + 1) l := by omega
    dsimp only at hma hs2
    have ihn := ih (fun q hq => hr q (.tail _ hq)) (pre ++ [(n1, t1, l1)]) (vs ++ [.int n1 q1]) (k + 1)
    clear ih
    refine ItemsRest.val (fun h tk F => AllObj.cons (fun o hc => AllObj.nil (fun N => ?_)))
    have hIL : @LT.lt Nat _ (L + 1 + 1) I' := by omega
    replace N := News.sub (l' := (I', o) :: (a, tupObj [.int n1 q1, .int t1 r1, .int l1 s1]) :: (L + 1 + 1, o2) :: (l, listOf vs.toArray k) :: (L + 1 + 1 + 1 + 1, o4) :: (L + 1 + 1 + 1, o3) :: R) N (by
      intro p hp
      rcases List.mem_cons.mp hp with rfl | hp
      · exact .head _
      rcases List.mem_cons.mp hp with rfl | hp
      · exact .tail _ (.tail _ (.tail _ (.tail _ hma)))
      rcases List.mem_cons.mp hp with rfl | hp
      · exact .tail _ (.tail _ (.tail _ (.tail _ m2)))
      exact .tail _ hp)
    k_steps
    unfold Hold
    k_dflt (refine' insort_c B ?F X ?N T rfl ?U hv hs1 hs2 hs3 (by decide) (by decide) (fun h' tk' F' N' => ?_); (case F => k_asm); (case N => k_asm); (case U => k_updF); k_whole)
    k_sweep
    k_steps
    unfold Hold
    (rename Fr _ _ _ _ => kF); (rename News _ _ _ _ => kN)
    refine gen_fr kF (fun M9 hM9 kF9 => ?_)
    refine ⟨_, _, M9, (l, listOf (vs ++ [Value.int n1 q1]).toArray (k + 1)) :: (L + 1 + 1 + 1 + 1, _) :: (L + 1 + 1 + 1, _) :: R, rfl, kF9, News.sub kN (sub4 (by k_mem) (by k_mem) (by k_mem) (by k_mem) (by intro p hp; kcf_m)), ?_, ⟨.tail _ (.tail _ (.tail _ hm)), trivial⟩, ?_⟩
    · intro p hp q hq
      rw [List.mem_singleton.mp hq]
      rcases List.mem_cons.mp hp with rfl | hp
      · exact Nat.ne_of_lt hIl
      rcases List.mem_cons.mp hp with rfl | hp
      · exact Nat.ne_of_lt hI3
      rcases List.mem_cons.mp hp with rfl | hp
      · exact Nat.ne_of_lt (Nat.lt_trans (Nat.lt_succ_self _) hI3)
      exact Nat.ne_of_lt (hI' p hp)
    · have hap : IntsAre (vs ++ [Value.int n1 q1]) (nums (pre ++ [(n1, t1, l1)])) := by
        rw [show nums (pre ++ [(n1, t1, l1)]) = nums pre ++ [n1] from List.map_append]
        exact IntsAre.append hv (.cons _ _ .nil)
      have := ihn M9 _ _ _ _ (by rw [he, List.append_assoc]; rfl) hap (by assumption : Obj.data _ = Data.cell (some (Value.int t1 r1))) (by assumption : Obj.data _ = Data.cell (some (Value.int l1 s1)))
      rw [canonE (by rw [hM9]; rfl) (by rw [hM9]; rfl) (by rw [hM9]; rfl)] at this
      exact this

theorem segA {sc : Scope} {body body' : List Stmt} {tt tw : Tok} {sl fl : Addr} {top low : Int} {kk : Nat} {u : Str → Option Value} {o1 o2 o3 o4 : Obj} {v2 v3 v4 : Option Value} {R : Led} {its : List (Addr × Value × Value × Value)} {acc : List (Int × Int × Int)}
    (h0 : (sc, body, body') = (lawEx.1, lawEx.2.drop 3, lawEx.2.drop 6)) (B : Below callerA h₀ [] h₀) (X : (hd.heap_39 w.params).In h₀) (T : Top p loose mean mg mb h₀) (hL : @LT.lt Nat _ 37 L)
    (d1 : o1.data = .cell (some (.ref fl))) (d2 : o2.data = .cell v2) (d3 : o3.data = .cell v3) (d4 : o4.data = .cell v4)
    (F : Fr h₀ L s.heap (fun z => if z = PySem.Str.ofString "top" then some (.int top tt) else if z = PySem.Str.ofString "low" then some (.int low tw) else if z = PySem.Str.ofString "script" then some (.ref sl) else u z))
    (N : News h₀ L s.heap ((L + 1 + 1 + 1 + 1, o4) :: (L + 1 + 1 + 1, o3) :: (L + 1 + 1, o2) :: (L + 1, o1) :: R)) (mfl : (fl, listOf (refs its).toArray kk) ∈ R) (hI : Its its acc) (G : Good low top acc) (hr : ∀ q ∈ its, (q.1, tupObj [q.2.1, q.2.2.1, q.2.2.2]) ∈ R) (hR2 : ∀ p ∈ R, p.1 ≠ L + 1 + 1) (hR3 : ∀ p ∈ R, p.1 ≠ L + 1 + 1 + 1) (hR4 : ∀ p ∈ R, p.1 ≠ L + 1 + 1 + 1 + 1)
    (hE : PassesOwn (model PySem.Challenge.rw_ia0011_01.row.prog w) (callerA.deeper (envOfC (PySem.Str.ofString "law") sc L fa cd)) (envOfC (PySem.Str.ofString "law") sc L fa cd) E)
    (hk : ∀ h' tk' (u' : Str → Option Value) l vs k o2 o3 o4 v3 v4, Fr h₀ L h' (fun z => if z = PySem.Str.ofString "top" then some (.int top tt) else if z = PySem.Str.ofString "low" then some (.int low tw) else if z = PySem.Str.ofString "script" then some (.ref sl) else u' z) → News h₀ L h' ((l, listOf vs.toArray k) :: (L + 1 + 1 + 1 + 1, o4) :: (L + 1 + 1 + 1, o3) :: (L + 1 + 1, o2) :: (L + 1, o1) :: R) → @LT.lt Nat _ (L + 1 + 1 + 1 + 1) l → (∀ p ∈ R, p.1 < l) → IntsAre vs (nums acc) → o2.data = .cell (some (.ref l)) → o3.data = .cell v3 → o4.data = .cell v4 → wpAny (model PySem.Challenge.rw_ia0011_01.row.prog w) (callerA.deeper (envOfC (PySem.Str.ofString "law") sc L fa cd)) (execs body' (envOfC (PySem.Str.ofString "law") sc L fa cd)) Q E { s with heap := h', toks := tk' }) :
    wpAny (model PySem.Challenge.rw_ia0011_01.row.prog w) (callerA.deeper (envOfC (PySem.Str.ofString "law") sc L fa cd)) (execs body (envOfC (PySem.Str.ofString "law") sc L fa cd)) Q E s := by
  dsimp only [lawEx, PySem.Challenge.pw_ia0011_01, List.drop] at h0
  cases h0
  have hil := Its.len hI
  have hlen8 := G.len8
  have hne1 : 1 ≤ acc.length := List.length_pos_iff.mpr G.ne
  have hrl : (refs its).length = acc.length := by rw [List.length_map]; exact hil
  have hle := G.len
  have hrle : ((refs its).length : Int) ≤ top := by rw [hrl]; exact hle
  have mfl4 : (fl, listOf (refs its).toArray kk) ∈ (L + 1 + 1 + 1 + 1, o4) :: (L + 1 + 1 + 1, o3) :: (L + 1 + 1, o2) :: (L + 1, o1) :: R := .tail _ (.tail _ (.tail _ (.tail _ mfl)))
  k_steps
  unfold Hold
  rename_i hRg kF kN _
  replace kN := News.sub (l' := (L + 1, o1) :: (L + 1 + 1 + 1 + 1, o4) :: (L + 1 + 1 + 1, o3) :: (L + 1 + 1, o2) :: R) kN (by
    intro p hp
    rcases List.mem_cons.mp hp with rfl | hp
    · exact .tail _ (.tail _ (.tail _ (.head _)))
    rcases List.mem_cons.mp hp with rfl | hp
    · exact .head _
    rcases List.mem_cons.mp hp with rfl | hp
    · exact .tail _ (.head _)
    rcases List.mem_cons.mp hp with rfl | hp
    · exact .tail _ (.tail _ (.head _))
    exact .tail _ (.tail _ (.tail _ (.tail _ hp))))
  refine LCt.CompSrcT.range rfl kF kN hRg (small_one (by omega) (by omega) (by omega) (by omega)) (rangeSize_nat _ _) (by rw [PySem.sizeLine_eq]; omega) (fun g => ?_)
  refine restA rfl rfl B X T hL d1 (.tail _ (.tail _ (.tail _ mfl))) hI (fun q hq => .tail _ (.tail _ (.tail _ (hr q hq)))) _ ?hn hlen8 (fun j hj => (G.step j hj).2.2.2) ?fin _ 0 (Nat.zero_add _)
  case hn => omega
  case fin =>
    clear kF kN hRg
    k_steps
    unfold Hold
    rename_i l _ hl1 _ o2' kF kN hd2
    obtain ⟨_, _, g1, g4, g3, g2, gR⟩ := hl1
    have gR' := allLt_mem gR
    replace kN := News.sub (l' := (l, listOf ([] : List Value).toArray 0) :: (L + 1 + 1 + 1 + 1, o4) :: (L + 1 + 1 + 1, o3) :: (L + 1 + 1, o2') :: (L + 1, o1) :: R) kN (sub5' (by k_mem) (by k_mem) (by k_mem) (by k_mem) (by k_mem) (by intro p hp; kcf_m))
    refine iter_listTurns (ax := fl) (lo := listOf (refs its).toArray kk) rfl kF kN (.tail _ (.tail _ (.tail _ (.tail _ (.tail _ mfl))))) rfl rfl (fun I' hI' => ?_)
    refine loopA (acc := acc) (l := l) (tt := tt) (tw := tw) (sl := sl) (top := top) (low := low) (R := (L + 1 + 1, o2') :: (L + 1, o1) :: R) rfl B X T hL hd2 (.head _) (hI' _ (.tail _ (.head _))) (hI' _ (.head _)) g4 (fun p hp => hI' p (.tail _ (.tail _ (.tail _ hp)))) (.tail _ (.tail _ mfl)) ?_ ?_ ?_ G hE ?_ its acc hI (fun q hq => .tail _ (.tail _ (hr q hq))) [] [] 0 u o3 o4 v3 v4 rfl .nil d3 d4
    · exact List.forall_mem_cons.mpr ⟨(by omega : @Ne Nat (L + 1 + 1) (L + 1 + 1 + 1)), List.forall_mem_cons.mpr ⟨(by omega : @Ne Nat (L + 1) (L + 1 + 1 + 1)), hR3⟩⟩
    · exact List.forall_mem_cons.mpr ⟨(by omega : @Ne Nat (L + 1 + 1) (L + 1 + 1 + 1 + 1)), List.forall_mem_cons.mpr ⟨(by omega : @Ne Nat (L + 1) (L + 1 + 1 + 1 + 1)), hR4⟩⟩
    · exact List.forall_mem_cons.mpr ⟨Nat.ne_of_lt g2, List.forall_mem_cons.mpr ⟨Nat.ne_of_lt g1, fun p hp => Nat.ne_of_lt (gR' p hp)⟩⟩
    intro h tk o3' o4' v3' v4' vs k u' F9 N9 hv e3 e4
    clear kF kN
    exact hk _ _ _ _ _ _ _ _ _ _ _ F9 N9 g4 gR' hv hd2 e3 e4
end
end

section
theorem off24 : True := by w_top off; trivial
local macro_rules | `(tactic| walk_at "call ref") => `(tactic| (refine Hold.of ?_))
local macro_rules | `(tactic| walk_at "execs cons") => `(tactic| ((with_reducible show wpAny _ _ (execs (Stmt.If _ _ _ _ :: _) _) _ _ _); refine Hold.of ?_))
section
variable {w : World} {p : Program} {loose : List Str} {mean : ExcName → Option Value} {mg mb : Str → Option Value} {fa : Addr} {cd : Value} {h₀ : Heap} {L : Addr} {s : Shared} {Q : Flow → Shared → Prop} {E : Value → Shared → Prop}
theorem law_turn {sc : Scope} {body : List Stmt} {k : Int} {tk : Tok} {sl I : Addr} {it : Obj} {vs : List Value} {ns : List Int} {u : Str → Option Value} {o1 o2 o3 o4 : Obj} {v1 v2 v3 v4 : Option Value} {x y : Option (Addr × Obj)}
    (h0 : (sc, body) = lawEx) (B : Below callerA h₀ [] h₀) (X : (hd.heap_39 w.params).In h₀) (T : Top p loose mean mg mb h₀) (c1 : CodeHd h₀ 41 37) (c2 : CodeHd h₀ 34 30) (hL : @LT.lt Nat _ 37 L)
    (hx : Ok30 x) (hy : Ok37 y) (hl : h₀.IsList sl vs.toArray) (hI : IntsAre vs ns) (hlen : ns.length ≤ 63) (hk0 : 0 ≤ k) (hk1 : k + 1 < ns.length)
    (hit : ∃ a b c, it = krsIt a b c) (d1 : o1.data = .cell v1) (d2 : o2.data = .cell v2) (d3 : o3.data = .cell v3) (d4 : o4.data = .cell v4)
    (F : Fr h₀ L s.heap (fun z => if z = PySem.Str.ofString "k" then some (.int k tk) else if z = PySem.Str.ofString "script" then some (.ref sl) else u z))
    (N : News h₀ L s.heap ((I, it) :: (L + 1 + 1 + 1 + 1, o4) :: (L + 1 + 1 + 1, o3) :: (L + 1 + 1, o2) :: (L + 1, o1) :: (T30 x ++ T37 y))) (hI4 : @LT.lt Nat _ (L + 1 + 1 + 1 + 1) I)
    (hE : PassesOwn (model PySem.Challenge.rw_ia0011_01.row.prog w) (callerA.deeper (envOfC (PySem.Str.ofString "law") sc L fa cd)) (envOfC (PySem.Str.ofString "law") sc L fa cd) E)
    (hret : ∀ h' tk' m' x' y' o1' o2' o3' o4' v1' v2' v3' v4', Fr h₀ L h' m' → m' (PySem.Str.ofString "script") = some (.ref sl) → News h₀ L h' ((I, it) :: (L + 1 + 1 + 1 + 1, o4') :: (L + 1 + 1 + 1, o3') :: (L + 1 + 1, o2') :: (L + 1, o1') :: (T30 x' ++ T37 y')) → Ok30 x' → Ok37 y' →
      o1'.data = .cell v1' → o2'.data = .cell v2' → o3'.data = .cell v3' → o4'.data = .cell v4' → Q .next { s with heap := h', toks := tk' }) :
    wpAny (model PySem.Challenge.rw_ia0011_01.row.prog w) (callerA.deeper (envOfC (PySem.Str.ofString "law") sc L fa cd)) (execs body (envOfC (PySem.Str.ofString "law") sc L fa cd)) Q E s := by
  have hvl := IntsAre.length hI
  dsimp only [lawEx, PySem.Challenge.pw_ia0011_01, List.drop] at h0
  cases h0
  have hm1 : 0 ≤ (ns.getD k.toNat 0).fmod 29 ∧ (ns.getD k.toNat 0).fmod 29 < 29 := by rw [fmod_pos (by decide)]; omega
  have hm2 : 0 ≤ (ns.getD (k + 1).toNat 0).fmod (if 2 + (ns.getD k.toNat 0).fmod 29 - 1 < 9 then 2 + (ns.getD k.toNat 0).fmod 29 - 1 else 9) ∧ (ns.getD (k + 1).toNat 0).fmod (if 2 + (ns.getD k.toNat 0).fmod 29 - 1 < 9 then 2 + (ns.getD k.toNat 0).fmod 29 - 1 else 9) < (if 2 + (ns.getD k.toNat 0).fmod 29 - 1 < 9 then 2 + (ns.getD k.toNat 0).fmod 29 - 1 else 9) := by
    have hq : 0 < (if 2 + (ns.getD k.toNat 0).fmod 29 - 1 < 9 then 2 + (ns.getD k.toNat 0).fmod 29 - 1 else 9) := by split <;> omega
    rw [fmod_pos hq]
    exact ⟨Int.emod_nonneg _ (Int.ne_of_gt hq), Int.emod_lt_of_pos _ hq⟩
  k_steps
  unfold Hold
  rename_i F9 N9
  have hlow : ∃ low, low = 2 + (ns.getD k.toNat 0).fmod 29 := ⟨_, rfl⟩
  obtain ⟨low, hlow⟩ := hlow
  have htop : ∃ top, top = 1 + (ns.getD (k + 1).toNat 0).fmod (if 2 + (ns.getD k.toNat 0).fmod 29 - 1 < 9 then 2 + (ns.getD k.toNat 0).fmod 29 - 1 else 9) := ⟨_, rfl⟩
  obtain ⟨top, htop⟩ := htop
  rw [← htop, ← hlow] at F9
  rw [← htop, ← hlow]
  have hr : 2 ≤ low ∧ low ≤ 30 ∧ 1 ≤ top ∧ top ≤ 9 ∧ top ≤ low - 1 := by omega
  clear hm1 hm2 hlow htop
  obtain ⟨r1, r2, r3, r4, r5⟩ := hr
  obtain ⟨g1, g2, g3, g4⟩ := allGood_of r1 r2 r3 r4 r5
  refine' law_taken_c (x := x) (y := y) (pre := (I, it) :: (L + 1 + 1 + 1 + 1, o4) :: (L + 1 + 1 + 1, o3) :: (L + 1 + 1, o2) :: (L + 1, o1) :: []) B ?F X ?N T rfl c1 c2 hx hy ?hp g2 (by decide) (by decide) (fun fl fvs tups kk x1 y1 h1 tk1 F1 N1 hT hx1 hy1 hfl h37 hfp => ?_)
  case F => k_asm
  case N => k_asm
  case hp =>
    intro p hp
    simp only [List.mem_cons, List.not_mem_nil, or_false] at hp
    rcases hp with rfl | rfl | rfl | rfl | rfl <;> (show @LT.lt Nat _ 37 _; omega)
  clear F9 N9
  have hIf : @LT.lt Nat _ I fl := hfp (I, it) (.head _)
  clear hfp
  obtain ⟨its, rfl, rfl, hI2⟩ := Tups.its hT
  have G := Good.of g1
  generalize takenF 20 top low = acc at g1 hT hI2 G
  have hoX : ∀ d o, (d, o) ∈ (fl, listOf (refs its).toArray kk) :: (tupl its ++ ((I, it) :: (L + 1 + 1 + 1 + 1, o4) :: (L + 1 + 1 + 1, o3) :: (L + 1 + 1, o2) :: (L + 1, o1) :: [] ++ (T30 x1 ++ T37 y1))) → (∃ v, o.data = .cell v) → ∀ p ∈ T30 x1 ++ T37 y1, p.1 ≠ d :=
    fun d o hm ho => offX hx1 hy1 N1 (fun p hp => .tail _ (List.mem_append_right _ (List.mem_append_right _ hp))) hm (.inl ho)
  have q1 := hoX (L + 1) o1 (by simp) ⟨_, d1⟩
  have q2 := hoX (L + 1 + 1) o2 (by simp) ⟨_, d2⟩
  have q3 := hoX (L + 1 + 1 + 1) o3 (by simp) ⟨_, d3⟩
  have q4 := hoX (L + 1 + 1 + 1 + 1) o4 (by simp) ⟨_, d4⟩
  clear hoX
  have hsub : ∀ p ∈ (L + 1 + 1 + 1 + 1, o4) :: (L + 1 + 1 + 1, o3) :: (L + 1 + 1, o2) :: (L + 1, o1) :: ((fl, listOf (refs its).toArray kk) :: (tupl its ++ ((I, it) :: (T30 x1 ++ T37 y1)))), p ∈ (fl, listOf (refs its).toArray kk) :: (tupl its ++ ((I, it) :: (L + 1 + 1 + 1 + 1, o4) :: (L + 1 + 1 + 1, o3) :: (L + 1 + 1, o2) :: (L + 1, o1) :: [] ++ (T30 x1 ++ T37 y1))) := by
    intro p hp
    simp only [List.mem_cons, List.mem_append, List.cons_append, List.nil_append] at hp ⊢
    rcases hp with h | h | h | h | h | h | h | h | h <;> simp [h]
  replace N1 := News.sub N1 hsub
  clear hsub
  have hR : ∀ d, @LE.le Nat _ d (L + 1 + 1 + 1 + 1) → (∀ p ∈ T30 x1 ++ T37 y1, p.1 ≠ d) → ∀ p ∈ (fl, listOf (refs its).toArray kk) :: (tupl its ++ ((I, it) :: (T30 x1 ++ T37 y1))), p.1 ≠ d := by
    intro d hd hq p hp
    have hIL : @LT.lt Nat _ d I := Nat.lt_of_le_of_lt hd hI4
    rcases List.mem_cons.mp hp with rfl | hp
    · exact Nat.ne_of_gt (Nat.lt_trans hIL hIf)
    rcases List.mem_append.mp hp with hp | hp
    · exact Nat.ne_of_gt (Nat.lt_trans hIL (Nat.lt_trans hIf (h37 p hp)))
    rcases List.mem_cons.mp hp with rfl | hp
    · exact Nat.ne_of_gt hIL
    exact hq p hp
  have hR1 := hR (L + 1) (by omega) q1
  have hR2 := hR (L + 1 + 1) (by omega) q2
  have hR3 := hR (L + 1 + 1 + 1) (by omega) q3
  have hR4 := hR (L + 1 + 1 + 1 + 1) (Nat.le_refl _) q4
  clear hR q1 q2 q3 q4 hT h37
  have mfl : (fl, listOf (refs its).toArray kk) ∈ (fl, listOf (refs its).toArray kk) :: (tupl its ++ ((I, it) :: (T30 x1 ++ T37 y1))) := .head _
  have hr9 : ∀ q ∈ its, (q.1, tupObj [q.2.1, q.2.2.1, q.2.2.2]) ∈ (fl, listOf (refs its).toArray kk) :: (tupl its ++ ((I, it) :: (T30 x1 ++ T37 y1))) := fun q hq => .tail _ (List.mem_append_left _ (List.mem_map.mpr ⟨q, hq, rfl⟩))
  have hend : ∀ p ∈ (I, it) :: (T30 x1 ++ T37 y1), p ∈ (fl, listOf (refs its).toArray kk) :: (tupl its ++ ((I, it) :: (T30 x1 ++ T37 y1))) := fun p hp => .tail _ (List.mem_append_right _ hp)
  generalize (fl, listOf (refs its).toArray kk) :: (tupl its ++ ((I, it) :: (T30 x1 ++ T37 y1))) = R at N1 hR1 hR2 hR3 hR4 mfl hr9 hend
  k_steps
  unfold Hold
  (rename Fr _ _ _ _ => kF); (rename News _ _ _ _ => kN)
  rename_i e1
  have hlen : (nums acc).length = acc.length := List.length_map ..
  refine segA rfl B X T hL e1 d2 d3 d4 (canonF kF rfl rfl rfl) kN mfl hI2 G hr9 hR2 hR3 hR4 hE ?_
  intro h2 tk2 u2 l vs2 k2 p2 p3 p4 w3 w4 F2 N2 hl4 hRl hv e2 e3 e4
  refine segC (kl := k2) (vs := vs2) (R := (L + 1 + 1 + 1 + 1, p4) :: (L + 1 + 1 + 1, p3) :: R) rfl B X T hL e1 e2 F2 (News.sub N2 ?s1) (.tail _ (.tail _ mfl)) hI2 hv G (fun q hq => .tail _ (.tail _ (hr9 q hq))) hE ?_
  case s1 =>
    intro p hp
    simp only [List.mem_cons] at hp ⊢
    rcases hp with h | h | h | h | h | h <;> simp [h]
  intro h3 tk3 u3 F3 N3
  refine segD rfl B X T hL e2 F3 N3 (by omega) hv (by rw [hlen]; exact G.len8) G.fok G.eq G.lo G.hi G.t1 G.t9 hE ?_
  intro h4 tk4 u4 F4 N4
  refine segE (R := (L + 1 + 1, p2) :: R) rfl B X T hL e1 e3 e4 F4 (News.sub N4 ?s2) (.tail _ mfl) hI2 G.len8 G.gn (fun q hq => .tail _ (hr9 q hq)) ?s3 ?s4 hE ?_
  case s2 =>
    intro p hp
    simp only [List.mem_cons] at hp ⊢
    rcases hp with h | h | h | h | h <;> simp [h]
  case s3 => exact List.forall_mem_cons.mpr ⟨(by omega : @Ne Nat (L + 1 + 1) (L + 1 + 1 + 1)), hR3⟩
  case s4 => exact List.forall_mem_cons.mpr ⟨(by omega : @Ne Nat (L + 1 + 1) (L + 1 + 1 + 1 + 1)), hR4⟩
  intro h5 tk5 u5 p3' p4' w3' w4' F5 N5 e3' e4'
  refine segF rfl B X T c1 c2 hL hx1 hy1 e1 e2 e3' e4' F5 (News.sub N5 ?s5) hI4 G.lo G.hi hE g3 g4 hret
  case s5 =>
    intro p hp
    have hend' := hend p
    simp only [List.mem_cons, List.mem_append, List.not_mem_nil, or_false] at hp hend' ⊢
    rcases hp with (h | h | h | h | h) | h | h
    · exact .inr (.inr (.inr (.inr (hend' (.inl h)))))
    · simp [h]
    · simp [h]
    · simp [h]
    · simp [h]
    · exact .inr (.inr (.inr (.inr (hend' (.inr (.inl h))))))
    · exact .inr (.inr (.inr (.inr (hend' (.inr (.inr h))))))

end
end

section
theorem off25 : True := by w_top off; trivial
section
variable {w : World} {p : Program} {loose : List Str} {mean : ExcName → Option Value} {mg mb : Str → Option Value} {fa : Addr} {cd : Value} {h₀ : Heap} {L : Addr} {s : Shared} {Q : Flow → Shared → Prop} {E : Value → Shared → Prop}

theorem law_loop {sc : Scope} {body : List Stmt} {sl I : Addr} {vs : List Value} {ns : List Int} {n : Nat}
    (h0 : (sc, body) = lawEx) (B : Below callerA h₀ [] h₀) (X : (hd.heap_39 w.params).In h₀) (T : Top p loose mean mg mb h₀) (c1 : CodeHd h₀ 41 37) (c2 : CodeHd h₀ 34 30) (hL : @LT.lt Nat _ 37 L)
    (hl : h₀.IsList sl vs.toArray) (hI : IntsAre vs ns) (hlen : ns.length ≤ 63) (hn : ∀ i : Nat, i < n → 2 * (i : Int) + 1 < ns.length) (hI4 : @LT.lt Nat _ (L + 1 + 1 + 1 + 1) I)
    (hE : PassesOwn (model PySem.Challenge.rw_ia0011_01.row.prog w) (callerA.deeper (envOfC (PySem.Str.ofString "law") sc L fa cd)) (envOfC (PySem.Str.ofString "law") sc L fa cd) E)
    (hQ : ∀ h' tk' m' x' y' o1' o2' o3' o4', Fr h₀ L h' m' → News h₀ L h' ((L + 1 + 1 + 1 + 1, o4') :: (L + 1 + 1 + 1, o3') :: (L + 1 + 1, o2') :: (L + 1, o1') :: (T30 x' ++ T37 y')) → Q .next { s with heap := h', toks := tk' }) :
    ∀ (j i : Nat) (m : Str → Option Value) (x y : Option (Addr × Obj)) (o1 o2 o3 o4 : Obj) (v1 v2 v3 v4 : Option Value), i + j = n → m (PySem.Str.ofString "script") = some (.ref sl) → Ok30 x → Ok37 y → o1.data = .cell v1 → o2.data = .cell v2 → o3.data = .cell v3 → o4.data = .cell v4 →
      KrsRest PySem.Challenge.rw_ia0011_01.row.prog w (callerA.deeper (envOfC (PySem.Str.ofString "law") sc L fa cd)) E h₀ (envOfC (PySem.Str.ofString "law") sc L fa cd) (PySem.Str.ofString "k") body Q s I 0 2 n j i m ((L + 1 + 1 + 1 + 1, o4) :: (L + 1 + 1 + 1, o3) :: (L + 1 + 1, o2) :: (L + 1, o1) :: (T30 x ++ T37 y)) := by
  intro j
  induction j with
  | zero =>
    intro i m x y o1 o2 o3 o4 v1 v2 v3 v4 hij hm hx hy d1 d2 d3 d4
    exact KrsRest.zero (fun h tk F N => hQ h tk m x y o1 o2 o3 o4 F N)
  | succ j ih =>
    intro i m x y o1 o2 o3 o4 v1 v2 v3 v4 hij hm hx hy d1 d2 d3 d4
    refine KrsRest.succ (v := 2 * (i : Int)) (by omega) (fun t h tk F N => ?_)
    have hk := hn i (by omega)
    have e : (fun y => if y = PySem.Str.ofString "k" then some (.int (2 * (i : Int)) t) else m y) = (fun z => if z = PySem.Str.ofString "k" then some (.int (2 * (i : Int)) t) else if z = PySem.Str.ofString "script" then some (.ref sl) else m z) := by
      funext z
      by_cases g1 : z = PySem.Str.ofString "k"
      · rw [if_pos g1, if_pos g1]
      rw [if_neg g1, if_neg g1]
      by_cases g2 : z = PySem.Str.ofString "script"
      · rw [if_pos g2, g2, hm]
      rw [if_neg g2]
    rw [e] at F
    refine law_turn (k := 2 * (i : Int)) (tk := t) (u := m) (x := x) (y := y) h0 B X T c1 c2 hL hx hy hl hI hlen (by omega) (by omega) ⟨_, _, _, rfl⟩ d1 d2 d3 d4 F N hI4 hE ?_
    intro h' tk' m' x' y' o1' o2' o3' o4' v1' v2' v3' v4' F' hm' N' hx' hy' e1 e2 e3 e4
    refine ⟨h', tk', m', _, rfl, F', N', ?_, ih (i + 1) m' x' y' o1' o2' o3' o4' v1' v2' v3' v4' (by omega) hm' hx' hy' e1 e2 e3 e4⟩
    intro p hp
    rcases List.mem_cons.mp hp with rfl | hp
    · exact Nat.ne_of_lt hI4
    rcases List.mem_cons.mp hp with rfl | hp
    · exact Nat.ne_of_lt (Nat.lt_trans (Nat.lt_succ_self _) hI4)
    rcases List.mem_cons.mp hp with rfl | hp
    · exact Nat.ne_of_lt (Nat.lt_trans (Nat.lt_succ_self _) (Nat.lt_trans (Nat.lt_succ_self _) hI4))
    rcases List.mem_cons.mp hp with rfl | hp
    · exact Nat.ne_of_lt (Nat.lt_trans (Nat.lt_succ_self _) (Nat.lt_trans (Nat.lt_succ_self _) (Nat.lt_trans (Nat.lt_succ_self _) hI4)))
    exact offX hx' hy' N' (fun q hq => .tail _ (.tail _ (.tail _ (.tail _ (.tail _ hq))))) (.head _) (.inr (.inr ⟨_, _, _, rfl⟩)) p hp
theorem grown_T {x y : Option (Addr × Obj)} {h : Heap} {q1 q2 q3 q4 : Addr × Obj} (N : News h₀ L h (q1 :: q2 :: q3 :: q4 :: (T30 x ++ T37 y))) : GrownAt 37 h ∧ GrownAt 30 h := by
  constructor
  · cases y with
    | none => exact GrownAt.of N (ps := #[]) (.tail _ (.tail _ (.tail _ (.tail _ (List.mem_append_right _ (.head _))))))
    | some q => exact GrownAt.of N (ps := #[rawInt 47, rawInt 4, .ref q.1]) (.tail _ (.tail _ (.tail _ (.tail _ (List.mem_append_right _ (.head _))))))
  · cases x with
    | none => exact GrownAt.of N (ps := #[]) (.tail _ (.tail _ (.tail _ (.tail _ (List.mem_append_left _ (.head _))))))
    | some q => exact GrownAt.of N (ps := #[rawInt 32, rawInt 4, .ref q.1]) (.tail _ (.tail _ (.tail _ (.tail _ (List.mem_append_left _ (.head _))))))
end
end

section
theorem off26 : True := by w_top off; trivial
theorem rs2 (len : Nat) : ∃ n : Nat, Builtin.Range.rangeSize 0 ((if (len : Int) < 6 then (len : Int) else 6) - 1) 2 = n ∧ Builtin.Range.small 0 ((if (len : Int) < 6 then (len : Int) else 6) - 1) 2 = true ∧ ∀ i : Nat, i < n → 2 * (i : Int) + 1 < len := by
  have hs : ∀ b : Int, -1 ≤ b → b ≤ 5 → Builtin.Range.small 0 b 2 = true := by
    intro b h1 h2
    have h : b = -1 ∨ b = 0 ∨ b = 1 ∨ b = 2 ∨ b = 3 ∨ b = 4 ∨ b = 5 := by omega
    rcases h with rfl | rfl | rfl | rfl | rfl | rfl | rfl <;> decide
  refine ⟨(Builtin.Range.rangeSize 0 ((if (len : Int) < 6 then (len : Int) else 6) - 1) 2).toNat, ?_, hs _ (by split <;> omega) (by split <;> omega), ?_⟩
  · unfold Builtin.Range.rangeSize
    split <;> split <;> omega
  · intro i hi
    unfold Builtin.Range.rangeSize at hi
    split at hi <;> split at hi <;> omega
theorem grown2 {h : Heap} (x : GrownAt 37 h ∧ GrownAt 30 h) : GrownAll [(41, 37), (34, 30)] h := ⟨x.1, x.2, trivial⟩
local macro_rules | `(tactic| walk_at "GrownAll") => `(tactic| (k_dflt (exact grown2 (by assumption))))
theorem swap4 {h₀ h : Heap} {L : Addr} {q1 q2 q3 q4 : Addr × Obj} (N : News h₀ L h [q1, q2, q3, q4, (37, tabObj #[]), (30, tabObj #[])]) : News h₀ L h (q1 :: q2 :: q3 :: q4 :: (T30 none ++ T37 none)) := News.sub N (by
  intro p hp
  simp only [T30, T37, List.cons_append, List.nil_append, List.mem_cons, List.not_mem_nil, or_false] at hp ⊢
  rcases hp with h | h | h | h | h | h <;> simp [h])
local macro_rules | `(tactic| walk_at "pyIter ref") => `(tactic| (refine Hold.of ?_))
theorem main_holds : PySem.Challenge.rw_ia0011_01.Holds := hd (by
  k_go0
  all_goals (try k_fold)
  k_steps
  unfold Hold
  rename_i hRg hF9 hN9 hG9
  obtain ⟨n, hn, hsm, hlt⟩ := rs2 (List.length _)
  refine krs_iter (n := n) rfl hRg hsm hn hF9 (swap4 hN9) (fun I hI => ?_)
  (rename IntsAre _ _ => hIA)
  (rename Heap.IsList (ghostOf _ _) _ _ => hLL)
  (rename Top _ _ _ _ _ (ghostOf _ _) => hTT)
  refine' law_loop ?h0 ?B ?X hTT ?c1 ?c2 ?hL hLL hIA ?hlen hlt ?hI4 ?hE ?hQ n 0 _ none none _ _ _ _ _ _ _ _ (by omega) ?hm trivial trivial ?d1 ?d2 ?d3 ?d4
  case h0 => rfl
  case B => assumption
  case X => assumption
  case c1 => assumption
  case c2 => assumption
  case hL => omega
  case hlen => omega
  case hI4 => exact hI _ (.head _)
  case hE => with_unfolding_all passes_own
  case hm => rfl
  case d1 => assumption
  case d2 => assumption
  case d3 => assumption
  case d4 => assumption
  case hQ =>
    clear hRg hF9 hN9 hG9
    intro h' tk' m' x' y' o1' o2' o3' o4' F' N'
    have hgr := grown_T N'
    clear N'
    dsimp only
    k_steps)
end

end Mine

theorem PySem.Challenge.cw_ia0011_01_holds : PySem.Challenge.rw_ia0011_01.Holds := by
  exact Mine.main_holds
