import PyProof.Rows.All
import Wide.All
import OpenK.AllK
import Wide.FinOn
import PySem.Challenge.RW_jf0001_01
set_option Elab.async false
namespace Mine
section
open PySem PySem.W PyProof.Rows
set_option maxRecDepth 100000 in
set_option maxHeartbeats 8000000 in
open_top hd for PySem.Challenge.rw_jf0001_01
end
end Mine

namespace Mine
section
open PySem PySem.W PyProof.Rows
/-- what _law_fits tells -/
def fitsI (n w : Int) (sg : Bool) : Bool :=
  if sg then decide (-((256 ^ w.toNat : Int).fdiv 2) ≤ n) && decide (n < (256 ^ w.toNat : Int).fdiv 2) else decide (0 ≤ n) && decide (n < 2 * ((256 ^ w.toNat : Int).fdiv 2))

set_option maxRecDepth 100000 in
set_option maxHeartbeats 8000000 in
theorem fits_tells (w : World) (p : Program) (loose : List Str) (mean : ExcName → Option Value) (mg mb : Str → Option Value) (news : List (Addr × Obj)) (n wd : Int) (sg : Bool) (t u : Tok) :
    CbClaim PySem.Challenge.rw_jf0001_01.row.prog w (hd.heap_39 w.params) p loose mean mg mb 44 news [] (0 ≤ wd ∧ wd ≤ 200) [.int n t, .int wd u, .bool sg] (fun _ => .bool (fitsI n wd sg)) := by
  k_fill
  unfold CbClaim CbLists CbRet
  intro dp un gd cn cs a ccd cl outer A₀ base h₀ L m s Q E B F X N T hk hpre hd hu hret
  obtain ⟨hw0, hw1⟩ := hpre
  refine wpAny_call ?_
  k_dflt cell_enter
  k_steps
  all_goals (refine' cb_retB (Q := Q) hret ?e1 ?e2 ?e3; (case e2 => k_asm); (case e3 => k_asm); (case e1 => (unfold fitsI; generalize (256 ^ wd.toNat : Int).fdiv 2 = H at *; simp_all; try (intros; omega))))

/-- what _law_bound tells -/
def boundI (n most : Int) : Int := if -most < n ∧ n < most then n else ((n.natAbs : Int).fmod most) * (if 0 < n then 1 else -1)
theorem natAbs_if (n : Int) : (n.natAbs : Int) = if n < 0 then -n else n := by split <;> omega
theorem bound_in {n most : Int} (h1 : -most < n) (h2 : n < most) : n = boundI n most := by unfold boundI; rw [if_pos ⟨h1, h2⟩]
theorem bound_hi {n most : Int} (h : ¬ (-most < n ∧ n < most)) (h0 : 0 < n) : (if n < 0 then -n else n).fmod most * 1 = boundI n most := by unfold boundI; rw [if_neg h, if_pos h0, natAbs_if]
theorem bound_lo {n most : Int} (h : ¬ (-most < n ∧ n < most)) (h0 : ¬ 0 < n) : (if n < 0 then -n else n).fmod most * -1 = boundI n most := by unfold boundI; rw [if_neg h, if_neg h0, natAbs_if]
theorem mulOk_right {a b : Int} (h : b = 1 ∨ b = -1) : IntMulOk a b := IntMulOk.of_right (by rcases h with rfl | rfl <;> decide)

set_option maxRecDepth 100000 in
set_option maxHeartbeats 8000000 in
theorem bound_tells (w : World) (p : Program) (loose : List Str) (mean : ExcName → Option Value) (mg mb : Str → Option Value) (news : List (Addr × Obj)) (n most : Int) (t u : Tok) :
    CbClaim PySem.Challenge.rw_jf0001_01.row.prog w (hd.heap_39 w.params) p loose mean mg mb 37 news [] (0 < most) [.int n t, .int most u] (fun t => .int (boundI n most) t) := by
  k_fill
  unfold CbClaim CbLists CbRet
  intro dp un gd cn cs a ccd cl outer A₀ base h₀ L m s Q E B F X N T hk hpre hd hu hret
  refine wpAny_call ?_
  k_dflt cell_enter
  k_steps
  all_goals (refine' cb_retI (Q := Q) hret ?e1 ?e2 ?e3; (case e2 => k_asm); (case e3 => k_asm); (case e1 => first | exact bound_in (by assumption) (by assumption) | exact bound_hi (by omega) (by omega) | exact bound_lo (by omega) (by omega)))
end
end Mine

namespace Mine
section
open PySem PySem.W PyProof.Rows PySem.Calls
open PySem.Builtin.Int (intBits)
section
variable {prog : Program} {w : World} {M : Model} {A : Around} {E : Value → Shared → Prop} {s : Shared} {env : Env} {K : Frag} {h₀ : Heap} {L : Addr} {m : Str → Option Value} {news : List (Addr × Obj)}

theorem callWith_bkw {pos : Pos} {id : String} {first : List Value} {e : PySem.Expr} {rest : List PySem.Expr} {kws : List Keyword} {Q : Value → Shared → Prop}
    (h : wpAny M A (spliced (backTo pos (starEach (e :: rest) env))) (fun vs s₁ => wpAny M A (evalAll ((backToKw pos (keywordEach kws env)).map (·.2)))
      (fun kvs s₂ => wpAny M A (call (.builtin id) (first ++ vs) (((backToKw pos (keywordEach kws env)).filterMap (·.1)).zip kvs)) Q E s₂) E s₁) E s)
    (he : backTo pos (starEach (e :: rest) env) = (false, eval e env) :: backTo pos (starEach rest env) := by rfl)
    (hplain : (backTo pos (starEach (e :: rest) env)).any (·.1) = false := by rfl)
    (hall : (backToKw pos (keywordEach kws env)).all (·.1.isSome) = true := by rfl)
    (hkw : (backToKw pos (keywordEach kws env)).any (·.1.isNone) = false := by rfl) :
    wpAny M A (callWith pos (.builtin id) first (backTo pos (starEach (e :: rest) env)) (backToKw pos (keywordEach kws env))) Q E s := by
  refine callWith_builtin_kwB hplain hkw ?_
  rw [he] at h ⊢
  exact evalArgs_kwB hall h

theorem callWith_fieldsK {pos : Pos} {u : Addr} {first : List Value} {args : List (Bool × Sem Value)} {kws : List (Option Str × Sem Value)} {Q : Value → Shared → Prop} (hplain : args.any (·.1) = false) (hkw : kws.any (·.1.isNone) = false)
    (h : wpAny M A (evalArgs (.ref u) true args kws) (fun x s₁ => KFB.StandsAt u s₁.heap ∧ wpAny M A (call (.ref u) (first ++ x.pos) x.kw) Q E s₁) E s) : wpAny M A (callWith pos (.ref u) first args kws) Q E s := by
  unfold callWith
  refine wpAny_bind (wpAny_holding (wpAny_mono h (fun x s₁ h₁ => wpAny_bind (wpAny_standAt ?_)) fun _ _ x => x))
  obtain ⟨ho, hcall⟩ := h₁
  simp only [hplain, hkw, Bool.or_false]
  refine wpAny_bind (m := keeperOf (.ref u)) ?_
  unfold keeperOf
  refine wpAny_bind (wpAny_load ho ?_)
  simp only [KFB.bound, show (Value.type "builtin_function_or_method" != Value.type "method") = true by decide, show (Value.type "builtin_function_or_method" == Value.type "builtin_function_or_method" || Value.type "builtin_function_or_method" == Value.type "method-wrapper") = true by decide, if_true]
  refine wpAny_pure ?_
  exact wpAny_bind (wpAny_mono hcall (fun r s₂ hr => wpAny_bind (wpAny_holding (wpAny_point (wpAny_pure hr)))) fun _ _ x => x)
theorem callWith_boundK {pos : Pos} {u : Addr} {first : List Value} {e : PySem.Expr} {rest : List PySem.Expr} {kws : List Keyword} {Q : Value → Shared → Prop} (_N : News h₀ L s.heap news) (_hm : (u, KFB.bound) ∈ news)
    (h : wpAny M A (spliced (backTo pos (starEach (e :: rest) env))) (fun vs s₁ => wpAny M A (evalAll ((backToKw pos (keywordEach kws env)).map (·.2)))
      (fun kvs s₂ => KFB.StandsAt u s₂.heap ∧ wpAny M A (call (.ref u) (first ++ vs) (((backToKw pos (keywordEach kws env)).filterMap (·.1)).zip kvs)) Q E s₂) E s₁) E s)
    (he : backTo pos (starEach (e :: rest) env) = (false, eval e env) :: backTo pos (starEach rest env) := by rfl)
    (hplain : (backTo pos (starEach (e :: rest) env)).any (·.1) = false := by rfl)
    (hall : (backToKw pos (keywordEach kws env)).all (·.1.isSome) = true := by rfl)
    (hkw : (backToKw pos (keywordEach kws env)).any (·.1.isNone) = false := by rfl) :
    wpAny M A (callWith pos (.ref u) first (backTo pos (starEach (e :: rest) env)) (backToKw pos (keywordEach kws env))) Q E s := by
  refine callWith_fieldsK hplain hkw ?_
  rw [he] at h ⊢
  exact evalArgs_kwB hall h

/-- the keywords of to_bytes -/
abbrev toKw (v : Tok) (sg : Bool) : List (Str × Value) := [(Str.ofString "byteorder", .str (Str.ofString "big") v), (Str.ofString "signed", .bool sg)]
/-- it does not fit: OverflowError -/
def tooBig (x k : Int) (sg : Bool) : Bool := (decide (x < 0) && !sg) || (x != 0 && decide ((if sg = true then ((intBits (if x < 0 then -x - 1 else x) : Nat) : Int) + 1 else ((intBits x : Nat) : Int)) > 8 * k))
/-- the bytes -/
def outB (x : Int) (k : Int) : Array UInt8 := (KTBy.low x k.toNat).reverse.toArray

theorem args_to (x k : Value) (v : Tok) (sg : Bool) : argsOk "int.to_bytes" ⟨[x, k], toKw v sg⟩ := by unfold argsOk; kernel_rfl

theorem to_ok {x k : Int} {t u v : Tok} {sg : Bool} {Q : Value → Shared → Prop} (h0 : 0 ≤ k) (h1 : k ≤ 200) (hf : tooBig x k sg = false) (h : ∀ t' tk', Q (.bytes (outB x k) t') { s with toks := tk' }) :
    wpAny (model prog w) A (call (.builtin "int.to_bytes") [.int x t, .int k u] (toKw v sg)) Q E s := by
  unfold tooBig at hf
  rw [Bool.or_eq_false_iff] at hf
  obtain ⟨hf1, hf2⟩ := hf
  refine wpAny_call_entry_kw KTBy.slot (typeIs_int s x t) KTBy.entry ?_ (args_to _ _ _ _)
  show wpAny _ _ (Builtin.Int.intOfSelf (.int x t) >>= fun y => _) _ _ s
  refine wpAny_bind (wpAny_of_eq (a := x) rfl ?_)
  show wpAny _ _ (Builtin.Int.intBindNamed "to_bytes" ["length", "byteorder", "signed"] 0 2 [.int k u] (toKw v sg) >>= fun l => _) _ _ s
  refine wpAny_bind (wpAny_of_eq (a := [some (.int k u), some (.str (PySem.Str.ofString "big") v), some (.bool sg)]) (by kernel_rfl) ?_)
  show wpAny _ _ (Builtin.Int.intIndex "int.to_bytes" (.int k u) >>= fun n => _) _ _ s
  refine wpAny_bind (wpAny_of_eq (a := k) rfl ?_)
  refine KTBy.if_not (by show (decide (k < -(2 ^ 63 : Int)) || decide (k ≥ 2 ^ 63)) = false; rw [decide_eq_false (show ¬ (k < -(2 ^ 63 : Int)) by omega), decide_eq_false (show ¬ (k ≥ 2 ^ 63) by omega)]; rfl) ?_
  refine wpAny_bind (wpAny_of_eq (a := PySem.Str.ofString "big") (by kernel_rfl) ?_)
  refine wpAny_bind (wpAny_of_eq (a := sg) (by cases sg <;> rfl) ?_)
  refine wpAny_bind (wpAny_of_eq (a := false) (by kernel_rfl) ?_)
  refine wpAny_ite_false (decide_eq_false (show ¬ (k < 0) by omega)) ?_
  refine wpAny_ite_false (decide_eq_false (show ¬ (k > 2 ^ 63 - 1 - 33) by omega)) ?_
  refine wpAny_ite_false (decide_eq_false (show ¬ (k > (sizeLine : Int)) by rw [sizeLine_eq]; omega)) ?_
  refine KTBy.if_not hf1 ?_
  refine KTBy.if_not hf2 ?_
  refine wpAny_bind (wpAny_mkBytes (wpAny_pure ⟨_, rfl, h _ _⟩) (by show (List.reverse (KTBy.low x (Int.toNat k))).length ≤ sizeLine; rw [List.length_reverse, KTBy.low_length, sizeLine_eq]; omega))

theorem to_raises {x k : Int} {t u v : Tok} {sg : Bool} {Q : Value → Shared → Prop} (h0 : 0 ≤ k) (h1 : k ≤ 200) (hf : tooBig x k sg = true) (hA : A.handled = none)
    (hE : ∀ h' tk e, Heap.NewExc s.heap h' e "OverflowError" → E (.ref e) { s with heap := h', toks := tk }) :
    wpAny (model prog w) A (call (.builtin "int.to_bytes") [.int x t, .int k u] (toKw v sg)) Q E s := by
  refine wpAny_call_entry_kw KTBy.slot (typeIs_int s x t) KTBy.entry ?_ (args_to _ _ _ _)
  show wpAny _ _ (Builtin.Int.intOfSelf (.int x t) >>= fun y => _) _ _ s
  refine wpAny_bind (wpAny_of_eq (a := x) rfl ?_)
  show wpAny _ _ (Builtin.Int.intBindNamed "to_bytes" ["length", "byteorder", "signed"] 0 2 [.int k u] (toKw v sg) >>= fun l => _) _ _ s
  refine wpAny_bind (wpAny_of_eq (a := [some (.int k u), some (.str (PySem.Str.ofString "big") v), some (.bool sg)]) (by kernel_rfl) ?_)
  show wpAny _ _ (Builtin.Int.intIndex "int.to_bytes" (.int k u) >>= fun n => _) _ _ s
  refine wpAny_bind (wpAny_of_eq (a := k) rfl ?_)
  refine KTBy.if_not (by show (decide (k < -(2 ^ 63 : Int)) || decide (k ≥ 2 ^ 63)) = false; rw [decide_eq_false (show ¬ (k < -(2 ^ 63 : Int)) by omega), decide_eq_false (show ¬ (k ≥ 2 ^ 63) by omega)]; rfl) ?_
  refine wpAny_bind (wpAny_of_eq (a := PySem.Str.ofString "big") (by kernel_rfl) ?_)
  refine wpAny_bind (wpAny_of_eq (a := sg) (by cases sg <;> rfl) ?_)
  refine wpAny_bind (wpAny_of_eq (a := false) (by kernel_rfl) ?_)
  refine wpAny_ite_false (decide_eq_false (show ¬ (k < 0) by omega)) ?_
  refine wpAny_ite_false (decide_eq_false (show ¬ (k > 2 ^ 63 - 1 - 33) by omega)) ?_
  refine wpAny_ite_false (decide_eq_false (show ¬ (k > (sizeLine : Int)) by rw [sizeLine_eq]; omega)) ?_
  have hh : A.in1.handled = none := hA
  unfold tooBig at hf
  cases hc : (decide (x < 0) && !sg) with
  | true =>
    refine KFB.if_so rfl ?_
    first
      | exact wpAny_bind (wpAny_rule (wpAny_bind (by exact_raiseError plainExc_OverflowError hh hE)))
      | exact wpAny_bind (wpAny_rule (by exact_raiseError plainExc_OverflowError hh hE))
      | exact wpAny_bind (wpAny_bind (wpAny_rule (by exact_raiseError plainExc_OverflowError hh hE)))
  | false =>
    rw [hc, Bool.false_or] at hf
    refine KTBy.if_not rfl ?_
    refine KFB.if_so hf ?_
    first
      | exact wpAny_bind (wpAny_rule (wpAny_bind (by exact_raiseError plainExc_OverflowError hh hE)))
      | exact wpAny_bind (wpAny_rule (by exact_raiseError plainExc_OverflowError hh hE))
      | exact wpAny_bind (wpAny_bind (wpAny_rule (by exact_raiseError plainExc_OverflowError hh hE)))

/-- what from_bytes tells of the bytes -/
def fromB (b : Array UInt8) (sg : Bool) : Int :=
  if (sg && (b.toList.head?.any (· ≥ 128))) = true then ((b.toList.foldl (fun (acc : Nat) (c : UInt8) => acc * 256 + c.toNat) 0 : Nat) : Int) - 256 ^ b.toList.length else ((b.toList.foldl (fun (acc : Nat) (c : UInt8) => acc * 256 + c.toNat) 0 : Nat) : Int)
theorem grown {z : Int} {k : Nat} {Q : Value → Shared → Prop} (hk : k ≤ 4000) (hn : z.natAbs < 2 ^ k) (h : Q (.int z s.toks) { s with toks := s.toks + 1 }) : wpAny M A (mkIntGrown z) Q E s := by
  unfold mkIntGrown
  have hl : ¬ (z.natAbs.log2 ≥ bitsLine) := by
    have hb : bitsLine = 134217728 := by first | rfl | decide
    by_cases hz : z.natAbs = 0
    · rw [hz, hb]
      decide
    · have h1 := (Nat.log2_lt hz).mpr hn
      omega
  rw [if_neg hl]
  exact wpAny_mkInt h
theorem p256k (k : Nat) : (256 : Nat) ^ k = 2 ^ (8 * k) := by rw [Nat.pow_mul]
theorem fromB_lt {b : Array UInt8} {sg : Bool} : (fromB b sg).natAbs < 2 ^ (8 * b.size + 1) := by
  have h1 := KFB.fold_lt b.toList 0
  rw [Nat.zero_add, Nat.one_mul, p256k, Array.length_toList] at h1
  have h2 : (256 : Int) ^ b.toList.length = ((2 ^ (8 * b.size) : Nat) : Int) := by rw [KTBy.p256, p256k, Array.length_toList]
  have h3 : 2 ^ (8 * b.size + 1) = 2 * 2 ^ (8 * b.size) := by rw [Nat.pow_succ, Nat.mul_comm]
  unfold fromB
  rw [h2, h3]
  generalize b.toList.foldl (fun (acc : Nat) (c : UInt8) => acc * 256 + c.toNat) 0 = F at *
  generalize 2 ^ (8 * b.size) = P at *
  split <;> omega
theorem from_tree {b : Array UInt8} {t u : Tok} {sg : Bool} {P : Fin → Shared → Prop} (hl : b.size ≤ 200) (h : P (.done (.ret (.int (fromB b sg) s.toks))) { s with toks := s.toks + 1 }) :
    wpAny M A (Builtin.«int.from_bytes» ⟨[.type "int", .bytes b t, .str (PySem.Str.ofString "big") u], [(Str.ofString "signed", .bool sg)]⟩) P E s := by
  unfold Builtin.«int.from_bytes»
  refine wpAny_bind (wpAny_of_eq (a := true) KFB.type_int ?_)
  refine KFB.if_not rfl ?_
  refine wpAny_bind (wpAny_of_eq (a := true) F.conv_sub_int ?_)
  refine KFB.if_not rfl ?_
  refine wpAny_bind (wpAny_of_eq (a := [some (.bytes b t), some (.str (PySem.Str.ofString "big") u), some (.bool sg)]) (by kernel_rfl) ?_)
  refine wpAny_bind (wpAny_of_eq (a := PySem.Str.ofString "big") (by kernel_rfl) ?_)
  refine wpAny_bind (wpAny_of_eq (a := sg) (by cases sg <;> rfl) ?_)
  refine wpAny_bind (wpAny_of_eq (a := false) (by kernel_rfl) ?_)
  refine wpAny_bind (wpAny_of_eq (a := b) rfl ?_)
  show wpAny _ _ (mkIntGrown (if (sg && (b.toList.head?.any (· ≥ 128))) = true then b.toList.foldl (fun (acc : Int) (b : UInt8) => acc * 256 + (b.toNat : Int)) ((0 : Nat) : Int) - 256 ^ b.toList.length else b.toList.foldl (fun (acc : Int) (b : UInt8) => acc * 256 + (b.toNat : Int)) ((0 : Nat) : Int)) >>= fun v => _) _ _ _
  rw [KFB.foldI_eq]
  show wpAny _ _ (mkIntGrown (fromB b sg) >>= fun v => _) _ _ _
  refine wpAny_bind (grown (k := 8 * b.size + 1) (by omega) fromB_lt ?_)
  refine KFB.if_so (by decide +kernel) ?_
  exact wpAny_bind (wpAny_pure (wpAny_pure h))
theorem from_check {b : Array UInt8} {t u : Tok} {o : PySem.Str} {sg : Bool} : checkBoundCall "int.from_bytes" ⟨[.type "int", .bytes b t, .str o u], [(Str.ofString "signed", .bool sg)]⟩ = pure () := by first | kernel_rfl | rfl
theorem from_call {x : Addr} {b : Array UInt8} {t u : Tok} {sg : Bool} {Q : Value → Shared → Prop} (N : News h₀ L s.heap news) (hm : (x, KFB.bound) ∈ news) (hl : b.size ≤ 200)
    (h : ∀ t' tk', Q (.int (fromB b sg) t') { s with toks := tk' }) : wpAny (model prog w) A (call (.ref x) [.bytes b t, .str (PySem.Str.ofString "big") u] [(Str.ofString "signed", .bool sg)]) Q E s := by
  have ho := KFB.at_of N hm
  refine wpAny_call (codeAny_of_tree ?_)
  show wpAny _ A.in1 (callAny (.ref x) ⟨[.bytes b t, .str (PySem.Str.ofString "big") u], [(Str.ofString "signed", .bool sg)]⟩) _ _ s
  simp only [callAny]
  refine wpAny_bind (wpAny_load ho ?_)
  simp only [KFB.bound, show (Value.type "builtin_function_or_method" == Value.type "method" || Value.type "builtin_function_or_method" == Value.type "builtin_function_or_method" || Value.type "builtin_function_or_method" == Value.type "method-wrapper") = true by decide, if_true]
  refine KFB.if_so (by decide) ?_
  refine wpAny_bind (wpAny_of_eq (a := ()) from_check ?_)
  refine wpAny_bind (wpAny_pure (wpAny_pure ?_))
  exact ⟨KFB.quiet_fb, codeAny_builtin KFB.entry_fb (from_tree hl (h _ _))⟩
end
end
end Mine

namespace Mine
section
open PySem PySem.W PyProof.Rows PySem.Calls
open PySem.Builtin.Int (intBits)
local macro_rules | `(tactic| walk_at "callWith ref") => `(tactic| (k_here; kfb_any; k_dflt (refine' callWith_boundK ?kfbN ?kfbM ?_; (case kfbN => k_asm); (case kfbM => k_mem); k_whole)))
local macro_rules | `(tactic| walk_at "call ref") => `(tactic| (k_here; (with_reducible show wpAny _ _ (call (Value.ref _) [Value.bytes _ _, Value.str _ _] _) _ _ _); kfb_any; k_dflt (refine' from_call ?kfbN ?kfbM ?kfbL ?_; (case kfbN => k_asm); (case kfbM => k_mem); (case kfbL => assumption); k_whole); intro _ _))
set_option maxRecDepth 100000 in
set_option maxHeartbeats 8000000 in
theorem from_tells (w : World) (p : Program) (loose : List Str) (mean : ExcName → Option Value) (mg mb : Str → Option Value) (news : List (Addr × Obj)) (b : Array UInt8) (sg : Bool) (t : Tok) :
    CbClaim PySem.Challenge.rw_jf0001_01.row.prog w (hd.heap_39 w.params) p loose mean mg mb 30 news [] (b.size ≤ 200) [.bytes b t, .bool sg] (fun t => .int (fromB b sg) t) := by
  k_fill
  unfold CbClaim CbLists CbRet
  intro dp un gd cn cs a ccd cl outer A₀ base h₀ L m s Q E B F X N T hk hpre hd hu hret
  refine wpAny_call ?_
  k_dflt (refine' code_def ?k1 ?k2 ?k3 ?k4 ?k5 ?kA ?kF ?kK ?k6 ?k7 ?k8 ?k9 ?kB ?_ ?c2 ?c3 ?c4 ?c5; (case kA => exact rfl); (case kF => exact rfl); (case kK => assumption); (case k1 => k_asm); (case k2 => k_asm); (case k3 => k_asm); (case k4 => k_asm); (case k5 => k_asm); (case k6 => k_is); (case k7 => k_is); (case k8 => ktr_room); (case k9 => first | exact BindsTo.of_eq rfl | exact binds_K (by k_in) rfl (by k_is) rfl rfl rfl); (case c5 => decide); (case kB => exact locs rfl); (case c2 => exact rfl); (case c3 => exact rfl); (case c4 => exact rfl); k_whole; intro g' L' h' FG' F' N' B' X' T'; (try dsimp only); (try k_lift B'); (try k_fold))
  k_steps
  all_goals (refine' cb_retI (Q := Q) hret rfl ?e2 ?e3; (case e2 => k_asm); (case e3 => first | k_asm | (refine' cb_drop ?cbN ?cbS; (case cbN => assumption); (case cbS => kcj_all))))

set_option maxRecDepth 100000 in
set_option maxHeartbeats 8000000 in
theorem from_tellsK (w : World) (p : Program) (loose : List Str) (mean : ExcName → Option Value) (mg mb : Str → Option Value) (news : List (Addr × Obj)) (b : Array UInt8) (sg : Bool) (t : Tok)
    (dp un : Nat) (gd : Option (List Code)) (cn : Str) (cs : Scope) (a : Addr) (ccd : Value) (cl : List (Str × Addr)) (outer : List Env) (A₀ : Around) (base h₀ : Heap) (L : Addr) (m : Str → Option Value) (s : Shared) (Q E : Value → Shared → Prop)
    (X : (hd.heap_39 w.params).In h₀) (B : Below A₀ base outer h₀) (F : Fr h₀ L s.heap m) (N : News h₀ L s.heap news) (T : Top p loose mean mg mb h₀) (hk : cs.kind = .function) (hpre : b.size ≤ 200) (hd : dp + 1 < recursionLimit) (hu : un + 8 < cLine)
    (hret : ∀ t h' tk', Fr h₀ L h' m → News h₀ L h' news → Q (.int (fromB b sg) t) { s with heap := h', toks := tk' }) :
    wpAny (model PySem.Challenge.rw_jf0001_01.row.prog w) (ktrTop dp un gd cn cs L a ccd cl outer) (call (.ref 30) [.bytes b t] [(Str.ofString "signed", .bool sg)]) Q E s := by
  revert X
  k_fill
  intro X
  refine wpAny_call ?_
  k_dflt (refine' code_def ?k1 ?k2 ?k3 ?k4 ?k5 ?kA ?kF ?kK ?k6 ?k7 ?k8 ?k9 ?kB ?_ ?c2 ?c3 ?c4 ?c5; (case kA => exact rfl); (case kF => exact rfl); (case kK => assumption); (case k1 => k_asm); (case k2 => k_asm); (case k3 => k_asm); (case k4 => k_asm); (case k5 => k_asm); (case k6 => k_is); (case k7 => k_is); (case k8 => ktr_room); (case k9 => first | exact BindsTo.of_eq rfl | exact binds_K (by k_in) rfl (by k_is) rfl rfl rfl); (case c5 => decide); (case kB => exact locs rfl); (case c2 => exact rfl); (case c3 => exact rfl); (case c4 => exact rfl); k_whole; intro g' L' h' FG' F' N' B' X' T'; (try dsimp only); (try k_lift B'); (try k_fold))
  k_steps
  all_goals (refine' cb_retI (Q := Q) hret rfl ?e2 ?e3; (case e2 => k_asm); (case e3 => first | k_asm | (refine' cb_drop ?cbN ?cbS; (case cbN => assumption); (case cbS => kcj_all))))

def autoB (n : Int) (sg : Bool) : Int := if sg = true then (intBits (if n < 0 then (if n + 1 < 0 then -(n + 1) else n + 1) else n) : Nat) else (intBits n : Nat)
def autoC (n : Int) (sg : Bool) : Int := if sg = true ∧ (autoB n sg).fmod 8 = 0 then autoB n sg + 1 else autoB n sg
/-- the width that int_to_bytes takes by itself -/
def autoW (n : Int) (sg : Bool) : Int := if (autoC n sg + 7).fdiv 8 ≠ 0 then (autoC n sg + 7).fdiv 8 else 1
section
variable {n c : Int} {sg : Bool}
theorem autoB_neg (h0 : sg = true) (h1 : n < 0) : autoB n sg = (intBits (if n + 1 < 0 then -(n + 1) else n + 1) : Nat) := by unfold autoB; rw [if_pos h0, if_pos h1]
theorem autoB_pos (h0 : sg = true) (h1 : ¬ n < 0) : autoB n sg = (intBits n : Nat) := by unfold autoB; rw [if_pos h0, if_neg h1]
theorem autoB_un (h0 : sg = false) : autoB n sg = (intBits n : Nat) := by subst h0; rfl
theorem autoC_up (e : autoB n sg = c) (h0 : sg = true) (h : c.fmod 8 = 0) : autoC n sg = c + 1 := by subst e; unfold autoC; rw [if_pos ⟨h0, h⟩]
theorem autoC_as (e : autoB n sg = c) (h : c.fmod 8 ≠ 0) : autoC n sg = c := by subst e; unfold autoC; rw [if_neg fun q => h q.2]
theorem autoC_un (h0 : sg = false) : autoC n sg = (intBits n : Nat) := by subst h0; unfold autoC; rw [if_neg (fun q => by cases q.1)]; rfl
theorem autoW_ne (e : autoC n sg = c) (h : (c + 7).fdiv 8 ≠ 0) : (c + 7).fdiv 8 = autoW n sg := by subst e; unfold autoW; rw [if_pos h]
theorem autoW_one (e : autoC n sg = c) (h : (c + 7).fdiv 8 = 0) : 1 = autoW n sg := by subst e; unfold autoW; rw [if_neg (fun q => q h)]
end
/-- the width that int_to_bytes is to take -/
inductive WidthIs (n : Int) (sg : Bool) (W : Int) : Value → Prop where
  | none (e : W = autoW n sg) : WidthIs n sg W .none
  | int (t : Tok) : WidthIs n sg W (.int W t)

local macro_rules | `(tactic| walk_at "callWith builtin:int.to_bytes") => `(tactic| (k_here; k_dflt (refine callWith_bkw ?_)))
section
variable {prog : Program} {w : World} {A : Around} {E : Value → Shared → Prop} {s : Shared} {x k W : Int} {t u v : Tok} {sg : Bool} {Q : Value → Shared → Prop}
theorem to_okE (hf : 0 ≤ W ∧ W ≤ 200 ∧ tooBig x W sg = false) (e : k = W) (h : ∀ t' tk', Q (.bytes (outB x W) t') { s with toks := tk' }) :
    wpAny (model prog w) A (call (.builtin "int.to_bytes") [.int x t, .int k u] (toKw v sg)) Q E s := by
  subst e
  exact to_ok hf.1 hf.2.1 hf.2.2 h
theorem to_raisesE (hf : 0 ≤ W ∧ W ≤ 200 ∧ tooBig x W sg = true) (e : k = W) (hA : A.handled = none)
    (hE : ∀ h' tk e, Heap.NewExc s.heap h' e "OverflowError" → E (.ref e) { s with heap := h', toks := tk }) :
    wpAny (model prog w) A (call (.builtin "int.to_bytes") [.int x t, .int k u] (toKw v sg)) Q E s := by
  subst e
  exact to_raises hf.1 hf.2.1 hf.2.2 hA hE
end
theorem auto_end {k W n : Int} {sg : Bool} (h : W = autoW n sg) (e : k = autoW n sg) : k = W := e.trans h.symm
local macro_rules | `(tactic| walk_at "call builtin:int.to_bytes") => `(tactic| (k_here; k_dflt (refine' to_okE (by assumption) ?ke ?_; (case ke => first | rfl | exact auto_end (by assumption) (by first | exact autoW_ne (autoC_up (autoB_neg (by assumption) (by assumption)) (by assumption) (by assumption)) (by assumption) | exact autoW_one (autoC_up (autoB_neg (by assumption) (by assumption)) (by assumption) (by assumption)) (by assumption) | exact autoW_ne (autoC_as (autoB_neg (by assumption) (by assumption)) (by assumption)) (by assumption) | exact autoW_one (autoC_as (autoB_neg (by assumption) (by assumption)) (by assumption)) (by assumption) | exact autoW_ne (autoC_up (autoB_pos (by assumption) (by assumption)) (by assumption) (by assumption)) (by assumption) | exact autoW_one (autoC_up (autoB_pos (by assumption) (by assumption)) (by assumption) (by assumption)) (by assumption) | exact autoW_ne (autoC_as (autoB_pos (by assumption) (by assumption)) (by assumption)) (by assumption) | exact autoW_one (autoC_as (autoB_pos (by assumption) (by assumption)) (by assumption)) (by assumption) | exact autoW_ne (autoC_un (by assumption)) (by assumption) | exact autoW_one (autoC_un (by assumption)) (by assumption))); k_whole); intro _ _))
set_option maxRecDepth 100000 in
set_option maxHeartbeats 8000000 in
theorem to_tells (w : World) (p : Program) (loose : List Str) (mean : ExcName → Option Value) (mg mb : Str → Option Value) (news : List (Addr × Obj)) (n W : Int) (sg : Bool) (t : Tok) (gv : Value) (hgv : WidthIs n sg W gv) :
    CbClaim PySem.Challenge.rw_jf0001_01.row.prog w (hd.heap_39 w.params) p loose mean mg mb 22 news [] (0 ≤ W ∧ W ≤ 200 ∧ tooBig n W sg = false) [.int n t, .bool sg, gv] (fun t => .bytes (outB n W) t) := by
  k_fill
  unfold CbClaim CbLists CbRet
  intro dp un gd cn cs a ccd cl outer A₀ base h₀ L m s Q E B F X N T hk hpre hd hu hret
  refine wpAny_call ?_
  cases hgv with
  | none e =>
    k_dflt (refine' code_def ?k1 ?k2 ?k3 ?k4 ?k5 ?kA ?kF ?kK ?k6 ?k7 ?k8 ?k9 ?kB ?_ ?c2 ?c3 ?c4 ?c5; (case kA => exact rfl); (case kF => exact rfl); (case kK => assumption); (case k1 => k_asm); (case k2 => k_asm); (case k3 => k_asm); (case k4 => k_asm); (case k5 => k_asm); (case k6 => k_is); (case k7 => k_is); (case k8 => ktr_room); (case k9 => first | exact BindsTo.of_eq rfl | exact binds_K (by k_in) rfl (by k_is) rfl rfl rfl); (case c5 => decide); (case kB => exact locs rfl); (case c2 => exact rfl); (case c3 => exact rfl); (case c4 => exact rfl); k_whole; intro g' L' h' FG' F' N' B' X' T'; (try dsimp only); (try k_lift B'); (try k_fold))
    k_steps
    all_goals exact hret _ _ _ (by assumption) (by assumption)
  | int t' =>
    k_dflt (refine' code_def ?k1 ?k2 ?k3 ?k4 ?k5 ?kA ?kF ?kK ?k6 ?k7 ?k8 ?k9 ?kB ?_ ?c2 ?c3 ?c4 ?c5; (case kA => exact rfl); (case kF => exact rfl); (case kK => assumption); (case k1 => k_asm); (case k2 => k_asm); (case k3 => k_asm); (case k4 => k_asm); (case k5 => k_asm); (case k6 => k_is); (case k7 => k_is); (case k8 => ktr_room); (case k9 => first | exact BindsTo.of_eq rfl | exact binds_K (by k_in) rfl (by k_is) rfl rfl rfl); (case c5 => decide); (case kB => exact locs rfl); (case c2 => exact rfl); (case c3 => exact rfl); (case c4 => exact rfl); k_whole; intro g' L' h' FG' F' N' B' X' T'; (try dsimp only); (try k_lift B'); (try k_fold))
    k_steps
    all_goals exact hret _ _ _ (by assumption) (by assumption)
set_option maxRecDepth 100000 in
set_option maxHeartbeats 8000000 in
theorem to_tellsK (w : World) (p : Program) (loose : List Str) (mean : ExcName → Option Value) (mg mb : Str → Option Value) (news : List (Addr × Obj)) (n W : Int) (sg : Bool) (t u : Tok)
    (dp un : Nat) (gd : Option (List Code)) (cn : Str) (cs : Scope) (a : Addr) (ccd : Value) (cl : List (Str × Addr)) (outer : List Env) (A₀ : Around) (base h₀ : Heap) (L : Addr) (m : Str → Option Value) (s : Shared) (Q E : Value → Shared → Prop)
    (X : (hd.heap_39 w.params).In h₀) (B : Below A₀ base outer h₀) (F : Fr h₀ L s.heap m) (N : News h₀ L s.heap news) (T : Top p loose mean mg mb h₀) (hk : cs.kind = .function) (hpre : 0 ≤ W ∧ W ≤ 200 ∧ tooBig n W sg = false) (hd : dp + 1 < recursionLimit) (hu : un + 8 < cLine)
    (hret : ∀ t h' tk', Fr h₀ L h' m → News h₀ L h' news → Q (.bytes (outB n W) t) { s with heap := h', toks := tk' }) :
    wpAny (model PySem.Challenge.rw_jf0001_01.row.prog w) (ktrTop dp un gd cn cs L a ccd cl outer) (call (.ref 22) [.int n t] [(Str.ofString "signed", .bool sg), (Str.ofString "width", .int W u)]) Q E s := by
  revert X
  k_fill
  intro X
  refine wpAny_call ?_
  k_dflt (refine' code_def ?k1 ?k2 ?k3 ?k4 ?k5 ?kA ?kF ?kK ?k6 ?k7 ?k8 ?k9 ?kB ?_ ?c2 ?c3 ?c4 ?c5; (case kA => exact rfl); (case kF => exact rfl); (case kK => assumption); (case k1 => k_asm); (case k2 => k_asm); (case k3 => k_asm); (case k4 => k_asm); (case k5 => k_asm); (case k6 => k_is); (case k7 => k_is); (case k8 => ktr_room); (case k9 => first | exact BindsTo.of_eq rfl | exact binds_K (by k_in) rfl (by k_is) rfl rfl rfl); (case c5 => decide); (case kB => exact locs rfl); (case c2 => exact rfl); (case c3 => exact rfl); (case c4 => exact rfl); k_whole; intro g' L' h' FG' F' N' B' X' T'; (try dsimp only); (try k_lift B'); (try k_fold))
  k_steps
  all_goals exact hret _ _ _ (by assumption) (by assumption)
local macro_rules | `(tactic| walk_at "call builtin:int.to_bytes") => `(tactic| (k_here; k_dflt (refine' to_raisesE (by assumption) ?ke ?kA ?_; (case kA => first | exact rfl | assumption); (case ke => first | rfl | exact auto_end (by assumption) (by first | exact autoW_ne (autoC_up (autoB_neg (by assumption) (by assumption)) (by assumption) (by assumption)) (by assumption) | exact autoW_one (autoC_up (autoB_neg (by assumption) (by assumption)) (by assumption) (by assumption)) (by assumption) | exact autoW_ne (autoC_as (autoB_neg (by assumption) (by assumption)) (by assumption)) (by assumption) | exact autoW_one (autoC_as (autoB_neg (by assumption) (by assumption)) (by assumption)) (by assumption) | exact autoW_ne (autoC_up (autoB_pos (by assumption) (by assumption)) (by assumption) (by assumption)) (by assumption) | exact autoW_one (autoC_up (autoB_pos (by assumption) (by assumption)) (by assumption) (by assumption)) (by assumption) | exact autoW_ne (autoC_as (autoB_pos (by assumption) (by assumption)) (by assumption)) (by assumption) | exact autoW_one (autoC_as (autoB_pos (by assumption) (by assumption)) (by assumption)) (by assumption) | exact autoW_ne (autoC_un (by assumption)) (by assumption) | exact autoW_one (autoC_un (by assumption)) (by assumption))); k_whole); intro hX tkX eX newX))

/-- the def raises OverflowError: nothing comes back, the frame's handlers see a new exception -/
abbrev CbFalls (prog : Program) (w : World) (K : Frag) (p : Program) (loose : List Str) (mean : ExcName → Option Value) (mg mb : Str → Option Value) (f : Addr) (news : List (Addr × Obj)) (pre : Prop) (vs : List Value) (X : String) : Prop :=
  ∀ (dp un : Nat) (gd : Option (List Code)) (cn : Str) (cs : Scope) (a : Addr) (ccd : Value) (cl : List (Str × Addr)) (outer : List Env) (A₀ : Around) (base h₀ : Heap) (L : Addr) (m : Str → Option Value) (s : Shared) (Q E : Value → Shared → Prop),
    Below A₀ base outer h₀ → Fr h₀ L s.heap m → K.In h₀ → News h₀ L s.heap news → Top p loose mean mg mb h₀ → cs.kind = .function →
    pre → dp + 1 < recursionLimit → un + 8 < cLine →
    (∀ (g h' : Heap) (e : Addr) (tk' : Nat), Fr h₀ L g m → RaisedN base (envX cn cs L a ccd cl :: outer) e (.type X) news h' → g.UpToSlots h' → E (.ref e) { s with heap := h', toks := tk' }) →
      wpAny (model prog w) (ktrTop dp un gd cn cs L a ccd cl outer) (call (.ref f) vs) Q E s

set_option maxRecDepth 100000 in
set_option maxHeartbeats 8000000 in
theorem to_falls (w : World) (p : Program) (loose : List Str) (mean : ExcName → Option Value) (mg mb : Str → Option Value) (news : List (Addr × Obj)) (n W : Int) (sg : Bool) (t : Tok) (gv : Value) (hgv : WidthIs n sg W gv) :
    CbFalls PySem.Challenge.rw_jf0001_01.row.prog w (hd.heap_39 w.params) p loose mean mg mb 22 news (0 ≤ W ∧ W ≤ 200 ∧ tooBig n W sg = true) [.int n t, .bool sg, gv] "OverflowError" := by
  k_fill
  unfold CbFalls
  intro dp un gd cn cs a ccd cl outer A₀ base h₀ L m s Q E B F X N T hk hpre hd hu hret
  refine wpAny_call ?_
  cases hgv with
  | none e =>
    k_dflt (refine' code_def ?k1 ?k2 ?k3 ?k4 ?k5 ?kA ?kF ?kK ?k6 ?k7 ?k8 ?k9 ?kB ?_ ?c2 ?c3 ?c4 ?c5; (case kA => exact rfl); (case kF => exact rfl); (case kK => assumption); (case k1 => k_asm); (case k2 => k_asm); (case k3 => k_asm); (case k4 => k_asm); (case k5 => k_asm); (case k6 => k_is); (case k7 => k_is); (case k8 => ktr_room); (case k9 => first | exact BindsTo.of_eq rfl | exact binds_K (by k_in) rfl (by k_is) rfl rfl rfl); (case c5 => decide); (case kB => exact locs rfl); (case c2 => exact rfl); (case c3 => exact rfl); (case c4 => exact rfl); k_whole; intro g' L' h' FG' F' N' B' X' T'; (try dsimp only); (try k_lift B'); (try k_fold))
    k_steps
    all_goals exact hret _ _ _ _ (by assumption) (by assumption) (by assumption)
  | int t' =>
    k_dflt (refine' code_def ?k1 ?k2 ?k3 ?k4 ?k5 ?kA ?kF ?kK ?k6 ?k7 ?k8 ?k9 ?kB ?_ ?c2 ?c3 ?c4 ?c5; (case kA => exact rfl); (case kF => exact rfl); (case kK => assumption); (case k1 => k_asm); (case k2 => k_asm); (case k3 => k_asm); (case k4 => k_asm); (case k5 => k_asm); (case k6 => k_is); (case k7 => k_is); (case k8 => ktr_room); (case k9 => first | exact BindsTo.of_eq rfl | exact binds_K (by k_in) rfl (by k_is) rfl rfl rfl); (case c5 => decide); (case kB => exact locs rfl); (case c2 => exact rfl); (case c3 => exact rfl); (case c4 => exact rfl); k_whole; intro g' L' h' FG' F' N' B' X' T'; (try dsimp only); (try k_lift B'); (try k_fold))
    k_steps
    all_goals exact hret _ _ _ _ (by assumption) (by assumption) (by assumption)
end
end Mine

namespace Mine
section
open PySem PySem.W PyProof.Rows PySem.Calls
/-- the law's bound, kept out of the closers' sight -/
structure Big (P : Int) : Prop where
  eq : P = 2 ^ 1200
structure Bnd (N : Int) : Prop where
  lo : -(2 ^ 1200 : Int) < N
  hi : N < 2 ^ 1200
theorem boundI_bnd {n P : Int} (hP : Big P) : Bnd (boundI n P) := by
  have h0 : (0 : Int) < 2 ^ 1200 := Int.pow_pos (by decide)
  obtain ⟨rfl⟩ := hP
  generalize hB : (2 : Int) ^ 1200 = B at *
  unfold boundI
  split
  · rename_i h
    exact ⟨by rw [hB]; exact h.1, by rw [hB]; exact h.2⟩
  · have e : (n.natAbs : Int).fmod B = (n.natAbs : Int) % B := Int.fmod_eq_emod_of_nonneg _ (by omega)
    have h1 := Int.emod_nonneg (n.natAbs : Int) (show B ≠ 0 by omega)
    have h2 := Int.emod_lt_of_pos (n.natAbs : Int) h0
    rw [e]
    constructor
    · rw [hB]; split <;> omega
    · rw [hB]; split <;> omega
section
variable {w : World} {p : Program} {loose : List Str} {mean : ExcName → Option Value} {mg mb : Str → Option Value} {news : List (Addr × Obj)}
  {dp un : Nat} {gd : Option (List Code)} {cn : Str} {cs : Scope} {a : Addr} {ccd : Value} {cl : List (Str × Addr)} {outer : List Env} {A₀ : Around} {base h₀ : Heap} {L : Addr} {m : Str → Option Value} {s : Shared} {Q E : Value → Shared → Prop}
theorem pow_big {prog : Program} {A : Around} {t u : Tok} (h : ∀ P, Big P → Q (.int P s.toks) { s with toks := s.toks + 1 }) : wpAny (model prog w) A (binaryOp .Pow (.int 2 t) (.int 1200 u)) Q E s :=
  pow_int_small (by decide) (by decide) (by decide) (h _ ⟨rfl⟩)
theorem big_pos {P : Int} (h : Big P) : 0 < P := by
  rw [h.eq]
  exact Int.pow_pos (by decide)
theorem use_bound {n P : Int} {t u : Tok} (B : Below A₀ base outer h₀) (F : Fr h₀ L s.heap m) (X : (hd.heap_39 w.params).In h₀) (N : News h₀ L s.heap news) (T : Top p loose mean mg mb h₀) (hk : cs.kind = .function) (hP : Big P)
    (hd : dp + 1 < recursionLimit) (hu : un + 8 < cLine) (h : ∀ x t h' tk', Bnd x → Fr h₀ L h' m → News h₀ L h' news → Q (.int x t) { s with heap := h', toks := tk' }) :
    wpAny (model PySem.Challenge.rw_jf0001_01.row.prog w) (ktrTop dp un gd cn cs L a ccd cl outer) (call (.ref 37) [.int n t, .int P u]) Q E s :=
  bound_tells w p loose mean mg mb news n P t u dp un gd cn cs a ccd cl outer A₀ base h₀ L m s Q E B F X N T hk (big_pos hP) hd hu fun t h' tk' F' N' => h _ t h' tk' (boundI_bnd hP) F' N'
theorem use_fits {n wd : Int} {sg : Bool} {t u : Tok} (B : Below A₀ base outer h₀) (F : Fr h₀ L s.heap m) (X : (hd.heap_39 w.params).In h₀) (N : News h₀ L s.heap news) (T : Top p loose mean mg mb h₀) (hk : cs.kind = .function) (hP : 0 ≤ wd ∧ wd ≤ 200)
    (hd : dp + 1 < recursionLimit) (hu : un + 8 < cLine) (h : ∀ h' tk', Fr h₀ L h' m → News h₀ L h' news → Q (.bool (fitsI n wd sg)) { s with heap := h', toks := tk' }) :
    wpAny (model PySem.Challenge.rw_jf0001_01.row.prog w) (ktrTop dp un gd cn cs L a ccd cl outer) (call (.ref 44) [.int n t, .int wd u, .bool sg]) Q E s :=
  fits_tells w p loose mean mg mb news n wd sg t u dp un gd cn cs a ccd cl outer A₀ base h₀ L m s Q E B F X N T hk hP hd hu fun _ h' tk' F' N' => h h' tk' F' N'
theorem use_from {b : Array UInt8} {sg : Bool} {t : Tok} (B : Below A₀ base outer h₀) (F : Fr h₀ L s.heap m) (X : (hd.heap_39 w.params).In h₀) (N : News h₀ L s.heap news) (T : Top p loose mean mg mb h₀) (hk : cs.kind = .function) (hP : b.size ≤ 200)
    (hd : dp + 1 < recursionLimit) (hu : un + 8 < cLine) (h : ∀ t h' tk', Fr h₀ L h' m → News h₀ L h' news → Q (.int (fromB b sg) t) { s with heap := h', toks := tk' }) :
    wpAny (model PySem.Challenge.rw_jf0001_01.row.prog w) (ktrTop dp un gd cn cs L a ccd cl outer) (call (.ref 30) [.bytes b t, .bool sg]) Q E s :=
  from_tells w p loose mean mg mb news b sg t dp un gd cn cs a ccd cl outer A₀ base h₀ L m s Q E B F X N T hk hP hd hu h
theorem use_to {n W : Int} {sg : Bool} {t : Tok} {gv : Value} (hgv : WidthIs n sg W gv) (B : Below A₀ base outer h₀) (F : Fr h₀ L s.heap m) (X : (hd.heap_39 w.params).In h₀) (N : News h₀ L s.heap news) (T : Top p loose mean mg mb h₀) (hk : cs.kind = .function) (hP : 0 ≤ W ∧ W ≤ 200 ∧ tooBig n W sg = false)
    (hd : dp + 1 < recursionLimit) (hu : un + 8 < cLine) (h : ∀ t h' tk', Fr h₀ L h' m → News h₀ L h' news → Q (.bytes (outB n W) t) { s with heap := h', toks := tk' }) :
    wpAny (model PySem.Challenge.rw_jf0001_01.row.prog w) (ktrTop dp un gd cn cs L a ccd cl outer) (call (.ref 22) [.int n t, .bool sg, gv]) Q E s :=
  to_tells w p loose mean mg mb news n W sg t gv hgv dp un gd cn cs a ccd cl outer A₀ base h₀ L m s Q E B F X N T hk hP hd hu h
theorem use_toF {n W : Int} {sg : Bool} {t : Tok} {gv : Value} (hgv : WidthIs n sg W gv) (B : Below A₀ base outer h₀) (F : Fr h₀ L s.heap m) (X : (hd.heap_39 w.params).In h₀) (N : News h₀ L s.heap news) (T : Top p loose mean mg mb h₀) (hk : cs.kind = .function) (hP : 0 ≤ W ∧ W ≤ 200 ∧ tooBig n W sg = true)
    (hd : dp + 1 < recursionLimit) (hu : un + 8 < cLine) (h : ∀ (g h' : Heap) (e : Addr) (tk' : Nat), Fr h₀ L g m → RaisedN base (envX cn cs L a ccd cl :: outer) e (.type "OverflowError") news h' → g.UpToSlots h' → E (.ref e) { s with heap := h', toks := tk' }) :
    wpAny (model PySem.Challenge.rw_jf0001_01.row.prog w) (ktrTop dp un gd cn cs L a ccd cl outer) (call (.ref 22) [.int n t, .bool sg, gv]) Q E s :=
  to_falls w p loose mean mg mb news n W sg t gv hgv dp un gd cn cs a ccd cl outer A₀ base h₀ L m s Q E B F X N T hk hP hd hu h
theorem use_fromK {b : Array UInt8} {sg : Bool} {t : Tok} (B : Below A₀ base outer h₀) (F : Fr h₀ L s.heap m) (X : (hd.heap_39 w.params).In h₀) (N : News h₀ L s.heap news) (T : Top p loose mean mg mb h₀) (hk : cs.kind = .function) (hP : b.size ≤ 200)
    (hd : dp + 1 < recursionLimit) (hu : un + 8 < cLine) (h : ∀ t h' tk', Fr h₀ L h' m → News h₀ L h' news → Q (.int (fromB b sg) t) { s with heap := h', toks := tk' }) :
    wpAny (model PySem.Challenge.rw_jf0001_01.row.prog w) (ktrTop dp un gd cn cs L a ccd cl outer) (call (.ref 30) [.bytes b t] [(Str.ofString "signed", .bool sg)]) Q E s :=
  from_tellsK w p loose mean mg mb news b sg t dp un gd cn cs a ccd cl outer A₀ base h₀ L m s Q E X B F N T hk hP hd hu h
theorem use_toK {n W : Int} {sg : Bool} {t u : Tok} (B : Below A₀ base outer h₀) (F : Fr h₀ L s.heap m) (X : (hd.heap_39 w.params).In h₀) (N : News h₀ L s.heap news) (T : Top p loose mean mg mb h₀) (hk : cs.kind = .function) (hP : 0 ≤ W ∧ W ≤ 200 ∧ tooBig n W sg = false)
    (hd : dp + 1 < recursionLimit) (hu : un + 8 < cLine) (h : ∀ t h' tk', Fr h₀ L h' m → News h₀ L h' news → Q (.bytes (outB n W) t) { s with heap := h', toks := tk' }) :
    wpAny (model PySem.Challenge.rw_jf0001_01.row.prog w) (ktrTop dp un gd cn cs L a ccd cl outer) (call (.ref 22) [.int n t] [(Str.ofString "signed", .bool sg), (Str.ofString "width", .int W u)]) Q E s :=
  to_tellsK w p loose mean mg mb news n W sg t u dp un gd cn cs a ccd cl outer A₀ base h₀ L m s Q E X B F N T hk hP hd hu h
end
end
end Mine

namespace Mine
section
open PySem PySem.W PyProof.Rows PySem.Calls
open PySem.Builtin.Int (intBits)
/-! the plain law: digits in base 256, no program in sight -/
theorem p_pos (n : Nat) : (0 : Int) < 256 ^ n := Int.pow_pos (by decide)
theorem emod_succ (x : Int) (n : Nat) : x % 256 ^ (n + 1) = (x / 256 ^ n % 256) * 256 ^ n + x % 256 ^ n := by
  rw [Int.pow_succ]
  have hP := p_pos n
  generalize (256 : Int) ^ n = P at *
  have h1 := Int.mul_ediv_add_emod x P
  have h2 := Int.mul_ediv_add_emod (x / P) 256
  have h3 := Int.emod_nonneg (x / P) (show (256 : Int) ≠ 0 by decide)
  have h4 := Int.emod_lt_of_pos (x / P) (show (0 : Int) < 256 by decide)
  have h5 := Int.emod_nonneg x (show P ≠ 0 by omega)
  have h6 := Int.emod_lt_of_pos x hP
  have e : x = ((x / P % 256) * P + x % P) + (P * 256) * (x / P / 256) := by
    have : P * (x / P) = P * 256 * (x / P / 256) + (x / P % 256) * P := by
      conv => lhs; rw [← h2]
      rw [Int.mul_add, Int.mul_assoc, Int.mul_comm P (x / P % 256)]
    omega
  have h7 : (x / P % 256) * P ≤ 255 * P := Int.mul_le_mul_of_nonneg_right (by omega) (by omega)
  have h8 : 0 ≤ (x / P % 256) * P := Int.mul_nonneg h3 (by omega)
  conv => lhs; rw [e]
  rw [Int.add_mul_emod_self_left]
  exact Int.emod_eq_of_lt (by omega) (by omega)

/-- the digits, the highest first -/
def dig (x : Int) : Nat → List Int
  | 0 => []
  | n + 1 => (x / 256 ^ n % 256) :: dig x n
theorem dig_length (x : Int) : ∀ n, (dig x n).length = n
  | 0 => rfl
  | n + 1 => by rw [dig, List.length_cons, dig_length x n]
theorem dig_eq (x : Int) : ∀ n, dig x n = ((List.range n).map fun i => x / 256 ^ i % 256).reverse
  | 0 => rfl
  | n + 1 => by rw [List.range_succ, List.map_append, List.reverse_append, ← dig_eq x n]; rfl
theorem dig_in (x : Int) : ∀ n, ∀ k ∈ dig x n, 0 ≤ k ∧ k < 256
  | 0, _, h => nomatch h
  | n + 1, k, h => by
    rcases List.mem_cons.mp h with rfl | h
    · exact ⟨Int.emod_nonneg _ (by decide), Int.emod_lt_of_pos _ (by decide)⟩
    · exact dig_in x n k h
/-- the number of the digits -/
def val : List Int → Int
  | [] => 0
  | k :: r => k * 256 ^ r.length + val r
theorem val_dig (x : Int) : ∀ n, val (dig x n) = x % 256 ^ n
  | 0 => by rw [Int.pow_zero, Int.emod_one]; rfl
  | n + 1 => by rw [dig, val, dig_length, val_dig x n, emod_succ]
theorem val_bounds : ∀ {ks : List Int}, (∀ k ∈ ks, 0 ≤ k ∧ k < 256) → 0 ≤ val ks ∧ val ks < 256 ^ ks.length
  | [], _ => ⟨Int.le_refl _, by decide⟩
  | k :: r, h => by
    have hk := h k (.head _)
    have hr := val_bounds fun q hq => h q (.tail _ hq)
    have hP := p_pos r.length
    rw [val, List.length_cons, Int.pow_succ]
    generalize (256 : Int) ^ r.length = P at *
    have h1 : k * P ≤ 255 * P := Int.mul_le_mul_of_nonneg_right (by omega) (by omega)
    have h2 : 0 ≤ k * P := Int.mul_nonneg hk.1 (by omega)
    constructor <;> omega
theorem foldl_val : ∀ (ks : List Int) (a : Int), ks.foldl (fun a k => a * 256 + k) a = a * 256 ^ ks.length + val ks
  | [], a => by show a = a * 1 + 0; omega
  | k :: r, a => by
    rw [List.foldl_cons, foldl_val r, val, List.length_cons, Int.pow_succ, Int.add_mul, Int.mul_assoc, Int.mul_comm 256 (256 ^ r.length)]
    omega
theorem foldl_val0 (ks : List Int) : ks.foldl (fun a k => a * 256 + k) 0 = val ks := by rw [foldl_val, Int.zero_mul, Int.zero_add]
theorem foldl_total (ks : List Int) : ks.foldl (fun a' => HAdd.hAdd (256 * a')) 0 = val ks := by
  rw [← foldl_val0]
  have : (fun (a' : Int) => HAdd.hAdd (256 * a')) = fun (a k : Int) => a * 256 + k := by funext a k; rw [Int.mul_comm]
  rw [this]
/-- adding a multiple of 256 ^ n turns no digit below n -/
theorem div_add (x q : Int) {i n : Nat} (h : i < n) : (x + q * 256 ^ n) / 256 ^ i % 256 = x / 256 ^ i % 256 := by
  obtain ⟨d, rfl⟩ : ∃ d, n = i + 1 + d := ⟨n - i - 1, by omega⟩
  have hP := p_pos i
  have e : q * 256 ^ (i + 1 + d) = 256 ^ i * ((q * 256 ^ d) * 256) := by
    rw [Int.pow_add, Int.pow_succ]
    generalize (256 : Int) ^ i = P
    generalize (256 : Int) ^ d = D
    rw [Int.mul_comm (P * 256) D, Int.mul_comm P 256, ← Int.mul_assoc q D, ← Int.mul_assoc (q * D) 256 P, Int.mul_comm]
  rw [e, Int.add_mul_ediv_left _ _ (by omega), Int.add_mul_emod_self_right]
theorem dig_add (x q : Int) {n : Nat} : ∀ {j : Nat}, j ≤ n → dig (x + q * 256 ^ n) j = dig x j
  | 0, _ => rfl
  | j + 1, h => by rw [dig, dig, div_add x q (by omega), dig_add x q (by omega)]
theorem dig_val : ∀ {ks : List Int}, (∀ k ∈ ks, 0 ≤ k ∧ k < 256) → dig (val ks) ks.length = ks
  | [], _ => rfl
  | k :: r, h => by
    have hk := h k (.head _)
    have hr' : ∀ q ∈ r, 0 ≤ q ∧ q < 256 := fun q hq => h q (.tail _ hq)
    have hr := val_bounds hr'
    have hP := p_pos r.length
    rw [val, List.length_cons, dig, Int.add_comm, dig_add _ _ (Nat.le_refl _), dig_val hr']
    congr 1
    rw [Int.add_mul_ediv_right _ _ (by omega), Int.ediv_eq_zero_of_lt hr.1 hr.2, Int.zero_add]
    exact Int.emod_eq_of_lt hk.1 hk.2
end
end Mine

namespace Mine
section
open PySem PySem.W PyProof.Rows PySem.Calls
open PySem.Builtin.Int (intBits)
abbrev bI (b : Array UInt8) : List Int := KBw.bInts b
theorem bI_in (b : Array UInt8) : ∀ k ∈ bI b, 0 ≤ k ∧ k < 256 := fun _ h => KBw.ints_in h
theorem bI_inj {b b' : Array UInt8} (h : bI b = bI b') : b = b' := by
  have e : b.toList = b'.toList := by
    have : ∀ l l' : List UInt8, (l.map fun c => ((c.toNat : Nat) : Int)) = (l'.map fun c => ((c.toNat : Nat) : Int)) → l = l' := by
      intro l
      induction l with
      | nil => intro l' h; cases l' with
        | nil => rfl
        | cons _ _ => cases h
      | cons c r ih => intro l' h; cases l' with
        | nil => cases h
        | cons c' r' =>
          rw [List.map_cons, List.map_cons, List.cons.injEq] at h
          have hc : c = c' := UInt8.toNat_inj.mp (Int.ofNat.inj h.1)
          rw [hc, ih r' h.2]
    exact this _ _ h
  exact Array.toList_inj.mp e
/-- to_bytes gives the digits, whatever the number -/
theorem bI_out (x k : Int) : bI (outB x k) = dig x k.toNat := by
  generalize hn : k.toNat = n
  show (List.map (fun c : UInt8 => ((c.toNat : Nat) : Int)) (List.reverse (KTBy.low x k.toNat))) = dig x n
  rw [hn, dig_eq, List.map_reverse]
  congr 1
  unfold KTBy.low
  generalize ho : min n (intBits x / 8 + 1) = own
  have hle : own ≤ n := by omega
  have hP := p_pos own
  have hm0 := Int.emod_nonneg x (show (256 : Int) ^ own ≠ 0 by omega)
  refine List.ext_getElem (by simp; omega) fun i hi1 hi2 => ?_
  have hin : i < n := by simpa using hi2
  rw [List.getElem_map (h := hi2), List.getElem_range, List.getElem_map]
  by_cases hi : i < own
  · rw [List.getElem_append_left (by simpa using hi), List.getElem_map, List.getElem_range, KTBy.byte_at]
    have hc : (((x % 256 ^ own).toNat / 256 ^ i % 256 : Nat) : Int) = x % 256 ^ own / 256 ^ i % 256 := by
      rw [Int.natCast_emod, Int.natCast_ediv, Int.toNat_of_nonneg hm0, KTBy.p256]
      rfl
    rw [hc]
    have hx : x = x % 256 ^ own + (x / 256 ^ own) * 256 ^ own := by
      have := Int.mul_ediv_add_emod x (256 ^ own)
      rw [Int.mul_comm] at this
      omega
    conv => rhs; rw [hx]
    rw [div_add _ _ hi]
  · rw [List.getElem_append_right (by simpa using Nat.le_of_not_lt hi), List.getElem_replicate]
    have hown : own = intBits x / 8 + 1 := by omega
    have hb : intBits x ≤ 8 * own := by omega
    have hlt := intBits_le_iff.mp hb
    have e2 : (2 : Nat) ^ 8 = 256 := by decide
    rw [Nat.pow_mul, e2] at hlt
    have hlt2 : 256 ^ own ≤ 256 ^ i := Nat.pow_le_pow_right (by decide) (Nat.le_of_not_lt hi)
    have hPi := p_pos i
    have hbig : (x.natAbs : Int) < 256 ^ i := by
      rw [KTBy.p256]
      exact Int.ofNat_lt.mpr (Nat.lt_of_lt_of_le hlt hlt2)
    by_cases hneg : x < 0
    · rw [if_pos hneg]
      have : x / 256 ^ i = -1 := by
        rw [Int.ediv_eq_iff_of_pos hPi]
        constructor <;> omega
      rw [this]
      rfl
    · rw [if_neg hneg, Int.ediv_eq_zero_of_lt (by omega) (by omega)]
      rfl
end
end Mine

namespace Mine
section
open PySem PySem.W PyProof.Rows PySem.Calls
open PySem.Builtin.Int (intBits)
theorem fromB_val (b : Array UInt8) (sg : Bool) : fromB b sg = if sg = true ∧ 0 < (bI b).length ∧ 127 < (bI b).getD 0 0 then val (bI b) - 256 ^ (bI b).length else val (bI b) := by
  unfold fromB
  have hF : ((b.toList.foldl (fun (acc : Nat) (c : UInt8) => acc * 256 + c.toNat) 0 : Nat) : Int) = val (bI b) := by
    rw [KFB.fold_cast]
    exact foldl_val0 _
  have hl : b.toList.length = (bI b).length := by simp [KBw.bInts]
  have hc : ((sg && b.toList.head?.any (· ≥ 128)) = true) ↔ (sg = true ∧ 0 < (bI b).length ∧ 127 < (bI b).getD 0 0) := by
    unfold bI KBw.bInts
    cases b.toList with
    | nil => simp
    | cons c r =>
      simp [UInt8.le_iff_toNat_le]
      omega
  rw [hF, hl]
  by_cases h : (sg && b.toList.head?.any (· ≥ 128)) = true
  · rw [if_pos h, if_pos (hc.mp h)]
  · rw [if_neg h, if_neg (fun q => h (hc.mpr q))]
/-- the number lies in the width (of one octet or more) -/
def Fit (x : Int) (n : Nat) (sg : Bool) : Prop := if sg = true then -(128 * 256 ^ (n - 1)) ≤ x ∧ x < 128 * 256 ^ (n - 1) else 0 ≤ x ∧ x < 256 ^ n
theorem p_split {n : Nat} (h : 1 ≤ n) : (256 : Int) ^ n = 2 * (128 * 256 ^ (n - 1)) := by
  obtain ⟨d, rfl⟩ : ∃ d, n = d + 1 := ⟨n - 1, by omega⟩
  rw [Int.pow_succ, Nat.add_sub_cancel]
  omega
theorem nat_half {n : Nat} (h : 1 ≤ n) : ((2 ^ (8 * n - 1) : Nat) : Int) = 128 * 256 ^ (n - 1) := by
  obtain ⟨d, rfl⟩ : ∃ d, n = d + 1 := ⟨n - 1, by omega⟩
  have e : 8 * (d + 1) - 1 = 7 + 8 * d := by omega
  rw [e, Nat.pow_add, ← p256k, Nat.add_sub_cancel, Int.natCast_mul, KTBy.p256]
  rfl
theorem nat_full (n : Nat) : ((2 ^ (8 * n) : Nat) : Int) = 256 ^ n := by rw [← p256k, KTBy.p256]
theorem fitsI_iff {x : Int} {n : Nat} {sg : Bool} (h : 1 ≤ n) : fitsI x (n : Int) sg = true ↔ Fit x n sg := by
  have hs := p_split h
  have hP := p_pos (n - 1)
  have hf : ((256 : Int) ^ n).fdiv 2 = 128 * 256 ^ (n - 1) := by
    rw [Int.fdiv_eq_ediv_of_nonneg _ (by decide), hs]
    omega
  unfold fitsI Fit
  rw [Int.toNat_natCast, hf]
  cases sg with
  | true => simp
  | false =>
    rw [hs]
    simp
theorem tooBig_iff {x : Int} {n : Nat} {sg : Bool} (h : 1 ≤ n) : tooBig x (n : Int) sg = false ↔ Fit x n sg := by
  have hh := nat_half h
  have hfull := nat_full n
  have hP := p_pos (n - 1)
  have hPn := p_pos n
  have hG : (0 : Int) < 128 * 256 ^ (n - 1) := by omega
  unfold tooBig Fit
  cases sg with
  | true =>
    have hb := @intBits_le_iff (8 * n - 1) (if x < 0 then -x - 1 else x)
    generalize (2 : Nat) ^ (8 * n - 1) = H at *
    generalize (128 : Int) * 256 ^ (n - 1) = G at *
    simp only [Bool.not_true, Bool.and_false, Bool.false_or, if_true, Bool.and_eq_false_iff, bne_eq_false_iff_eq, decide_eq_false_iff_not]
    constructor
    · rintro (rfl | hq)
      · constructor <;> omega
      · have := hb.mp (by omega)
        split at this <;> (constructor <;> omega)
    · rintro ⟨h1, h2⟩
      right
      have := hb.mpr (by split <;> omega)
      omega
  | false =>
    have hb := @intBits_le_iff (8 * n) x
    generalize (2 : Nat) ^ (8 * n) = H at *
    generalize (256 : Int) ^ n = G at *
    simp only [Bool.not_false, Bool.and_true, Bool.false_eq_true, if_false, Bool.or_eq_false_iff, Bool.and_eq_false_iff, bne_eq_false_iff_eq, decide_eq_false_iff_not]
    constructor
    · rintro ⟨h0, rfl | hq⟩
      · constructor <;> omega
      · have := hb.mp (by omega)
        constructor <;> omega
    · rintro ⟨h1, h2⟩
      refine ⟨by omega, .inr ?_⟩
      have := hb.mpr (by omega)
      omega
end
end Mine

namespace Mine
section
open PySem PySem.W PyProof.Rows PySem.Calls
open PySem.Builtin.Int (intBits)
theorem bI_size (b : Array UInt8) : (bI b).length = b.size := KBw.ints_length b
theorem round_out (b : Array UInt8) (sg : Bool) : outB (fromB b sg) (b.size : Int) = b := by
  refine bI_inj ?_
  rw [bI_out, Int.toNat_natCast, fromB_val, ← bI_size]
  split
  · have e : val (bI b) - 256 ^ (bI b).length = val (bI b) + (-1) * 256 ^ (bI b).length := by omega
    rw [e, dig_add _ _ (Nat.le_refl _), dig_val (bI_in b)]
  · exact dig_val (bI_in b)
theorem fit_true {x : Int} {d : Nat} : Fit x (d + 1) true ↔ -(128 * 256 ^ d) ≤ x ∧ x < 128 * 256 ^ d := by unfold Fit; rw [if_pos rfl, Nat.add_sub_cancel]
theorem fit_false {x : Int} {d : Nat} : Fit x (d + 1) false ↔ 0 ≤ x ∧ x < 256 ^ d * 256 := by unfold Fit; rw [if_neg Bool.false_ne_true, Int.pow_succ]
theorem fromB_cons {b : Array UInt8} {sg : Bool} {k : Int} {r : List Int} (hk : bI b = k :: r) : fromB b sg = if sg = true ∧ 127 < k then k * 256 ^ r.length + val r - 256 ^ r.length * 256 else k * 256 ^ r.length + val r := by
  rw [fromB_val, hk, List.getD_cons_zero, List.length_cons, Int.pow_succ]
  by_cases h : sg = true ∧ 127 < k
  · rw [if_pos h, if_pos ⟨h.1, by omega, h.2⟩]; rfl
  · rw [if_neg h, if_neg (fun q => h ⟨q.1, q.2.2⟩)]; rfl
theorem round_fits (b : Array UInt8) (sg : Bool) : tooBig (fromB b sg) (b.size : Int) sg = false := by
  have hin := bI_in b
  rw [← bI_size]
  cases hk : bI b with
  | nil =>
    have e : fromB b sg = 0 := by
      rw [fromB_val, hk, if_neg (fun q => by have := q.2.1; simp at this)]
      rfl
    rw [e]
    unfold tooBig
    simp
  | cons k r =>
    rw [hk] at hin
    have hb := hin k (.head _)
    have hr := val_bounds fun q hq => hin q (.tail _ hq)
    have hP := p_pos r.length
    rw [List.length_cons]
    refine (tooBig_iff (by omega)).mpr ?_
    rw [fromB_cons hk]
    have h1 : k * 256 ^ r.length ≤ 255 * 256 ^ r.length := Int.mul_le_mul_of_nonneg_right (by omega) (by omega)
    have h2 : 0 ≤ k * 256 ^ r.length := Int.mul_nonneg hb.1 (by omega)
    cases sg with
    | false =>
      rw [if_neg (fun q => Bool.false_ne_true q.1)]
      refine fit_false.mpr ?_
      generalize (256 : Int) ^ r.length = P at *
      constructor <;> omega
    | true =>
      refine fit_true.mpr ?_
      by_cases hc : 127 < k
      · have h3 : 128 * 256 ^ r.length ≤ k * 256 ^ r.length := Int.mul_le_mul_of_nonneg_right (by omega) (by omega)
        rw [if_pos ⟨rfl, hc⟩]
        generalize (256 : Int) ^ r.length = P at *
        constructor <;> omega
      · have h3 : k * 256 ^ r.length ≤ 127 * 256 ^ r.length := Int.mul_le_mul_of_nonneg_right (by omega) (by omega)
        rw [if_neg (fun q => hc q.2)]
        generalize (256 : Int) ^ r.length = P at *
        constructor <;> omega
/-- the number comes back -/
theorem back {x : Int} {n : Nat} {sg : Bool} (h1 : 1 ≤ n) (h : Fit x n sg) : fromB (outB x (n : Int)) sg = x := by
  obtain ⟨d, rfl⟩ : ∃ d, n = d + 1 := ⟨n - 1, by omega⟩
  have hP := p_pos d
  have hk : bI (outB x ((d + 1 : Nat) : Int)) = (x / 256 ^ d % 256) :: dig x d := by rw [bI_out, Int.toNat_natCast]; rfl
  have hv : (x / 256 ^ d % 256) * 256 ^ d + x % 256 ^ d = x % (256 ^ d * 256) := by rw [← Int.pow_succ, emod_succ]
  rw [fromB_cons hk, dig_length, val_dig, hv]
  have hdm := Int.mul_ediv_add_emod x (256 ^ d)
  have hm0 := Int.emod_nonneg x (show (256 : Int) ^ d ≠ 0 by omega)
  have hm1 := Int.emod_lt_of_pos x hP
  cases sg with
  | false =>
    have hf := fit_false.mp h
    rw [if_neg (fun q => Bool.false_ne_true q.1)]
    exact Int.emod_eq_of_lt hf.1 hf.2
  | true =>
    have hf := fit_true.mp h
    by_cases hx : 0 ≤ x
    · have hq : x / 256 ^ d < 128 := by
        refine Int.ediv_lt_of_lt_mul hP ?_
        omega
      have hq0 : 0 ≤ x / 256 ^ d := Int.ediv_nonneg hx (by omega)
      rw [if_neg (fun q => by have := q.2; omega)]
      exact Int.emod_eq_of_lt hx (by omega)
    · have hq : x / 256 ^ d < 0 := Int.ediv_neg_of_neg_of_pos (by omega) hP
      have hq0 : -128 ≤ x / 256 ^ d := by
        refine Int.le_ediv_of_mul_le hP ?_
        omega
      have e : x % (256 ^ d * 256) = x + 256 ^ d * 256 := by
        have : x % (256 ^ d * 256) = (x + (256 ^ d * 256) * 1) % (256 ^ d * 256) := by rw [Int.add_mul_emod_self_left]
        rw [this, Int.mul_one]
        exact Int.emod_eq_of_lt (by omega) (by omega)
      rw [if_pos ⟨rfl, by omega⟩, e]
      omega
theorem due_eq {x : Int} {n : Nat} {ks : List Int} (h : ks = dig x n) : byteArr ks = outB x (n : Int) := by
  subst h
  refine bI_inj ?_
  rw [bI_out, Int.toNat_natCast]
  exact KBa.ints_make fun k hk => dig_in x n k hk
end
end Mine

namespace Mine
section
open PySem PySem.W PyProof.Rows PySem.Calls
open PySem.Builtin.Int (intBits)
theorem big_eq : (2 : Int) ^ 1200 = 256 ^ 150 := by
  have h := nat_full 150
  rw [Int.natCast_pow] at h
  exact h
theorem pow_le {a b : Nat} (h : a ≤ b) : (256 : Int) ^ a ≤ 256 ^ b := by
  rw [KTBy.p256, KTBy.p256]
  exact Int.ofNat_le.mpr (Nat.pow_le_pow_right (by decide) h)
theorem fit_far {N : Int} {n : Nat} {sg : Bool} (hb : Bnd N) (h0 : 0 ≤ N ∨ sg = true) (hl : 151 ≤ n) : Fit N n sg := by
  have h1 := hb.lo
  have h2 := hb.hi
  rw [big_eq] at h1 h2
  have h3 : (256 : Int) ^ 150 ≤ 256 ^ (n - 1) := pow_le (by omega)
  have h4 := p_split (show 1 ≤ n by omega)
  have h5 := p_pos (n - 1)
  generalize (256 : Int) ^ 150 = B at *
  unfold Fit
  rw [h4]
  generalize (256 : Int) ^ (n - 1) = P at *
  split
  · constructor <;> omega
  · rename_i hs
    have : 0 ≤ N := h0.resolve_right hs
    constructor <;> omega
theorem fits_far {N l : Int} {sg : Bool} (hb : Bnd N) (h0 : 0 ≤ N ∨ sg = true) (hl : 151 ≤ l) : fitsI N l sg = true := by
  obtain ⟨n, rfl⟩ := Int.eq_ofNat_of_zero_le (show 0 ≤ l by omega)
  exact (fitsI_iff (by omega)).mpr (fit_far hb h0 (by omega))
theorem auto_iff {N : Int} {sg : Bool} (h0 : 0 ≤ N ∨ sg = true) {n : Nat} (hn : 1 ≤ n) : Fit N n sg ↔ autoW N sg ≤ (n : Int) := by
  unfold autoW autoC autoB
  rw [Int.fdiv_eq_ediv_of_nonneg _ (by decide)]
  cases sg with
  | true =>
    have hh := nat_half hn
    unfold Fit
    have hb := @intBits_le_iff (8 * n - 1) (if N < 0 then (if N + 1 < 0 then -(N + 1) else N + 1) else N)
    simp only [if_true, true_and]
    rw [Int.fmod_eq_emod_of_nonneg _ (by decide)]
    generalize intBits (if N < 0 then (if N + 1 < 0 then -(N + 1) else N + 1) else N) = c at *
    generalize (2 : Nat) ^ (8 * n - 1) = H at *
    generalize (128 : Int) * 256 ^ (n - 1) = G at *
    have hz : (if N < 0 then (if N + 1 < 0 then -(N + 1) else N + 1) else N).natAbs < H ↔ (-G ≤ N ∧ N < G) := by
      constructor
      · intro h
        (repeat' split at h) <;> constructor <;> omega
      · rintro ⟨h1, h2⟩
        (repeat' split) <;> omega
    rw [← hz, ← hb]
    (repeat' split) <;> omega
  | false =>
    have hN : 0 ≤ N := h0.resolve_right Bool.false_ne_true
    have hh := nat_full n
    unfold Fit
    have hb := @intBits_le_iff (8 * n) N
    simp only [Bool.false_eq_true, false_and, if_false]
    generalize intBits N = c at *
    generalize (2 : Nat) ^ (8 * n) = H at *
    generalize (256 : Int) ^ n = G at *
    have hz : N.natAbs < H ↔ (0 ≤ N ∧ N < G) := by omega
    rw [← hz, ← hb]
    (repeat' split) <;> omega
theorem auto_pos (N : Int) (sg : Bool) : 1 ≤ autoW N sg := by
  have hB : 0 ≤ autoB N sg := by unfold autoB; split <;> exact Int.natCast_nonneg _
  have hC : 0 ≤ autoC N sg := by unfold autoC; split <;> omega
  unfold autoW
  rw [Int.fdiv_eq_ediv_of_nonneg _ (by decide)]
  split <;> omega
theorem auto_le {N : Int} {sg : Bool} (hb : Bnd N) : autoW N sg ≤ 200 := by
  by_cases h0 : 0 ≤ N ∨ sg = true
  · have := (auto_iff h0 (n := 151) (by decide)).mp (fit_far hb h0 (by decide))
    omega
  · have hs : sg = false := by cases sg with
      | true => exact absurd (.inr rfl) h0
      | false => rfl
    subst hs
    have h1 := hb.lo
    rw [big_eq, ← nat_full] at h1
    have hbits := (@intBits_le_iff (8 * 150) N).mpr (by
      generalize (2 : Nat) ^ (8 * 150) = H at *
      omega)
    unfold autoW autoC autoB
    rw [Int.fdiv_eq_ediv_of_nonneg _ (by decide)]
    simp only [Bool.false_eq_true, false_and, if_false]
    split <;> omega
end
end Mine

namespace Mine
section
open PySem PySem.W PyProof.Rows PySem.Calls
theorem due_list {n wd : Int} (h : 1 ≤ wd) : List.map (fun k' : Int => (n.fdiv (256 ^ (wd - 1 - k').toNat)).fmod 256) (rangeKs 0 (wd - 0).toNat) = dig n wd.toNat := by
  obtain ⟨k, rfl⟩ := Int.eq_ofNat_of_zero_le (show 0 ≤ wd by omega)
  rw [Int.sub_zero, Int.toNat_natCast, dig_eq]
  refine List.ext_getElem (by simp [rangeKs]) fun i h1 h2 => ?_
  have hi : i < k := by simpa [rangeKs] using h1
  rw [List.getElem_map, List.getElem_reverse, List.getElem_map, List.getElem_range]
  have e : (rangeKs 0 k)[i]'(by simpa [rangeKs] using hi) = (i : Int) := by simp [rangeKs]
  rw [e]
  have e2 : ((k : Int) - 1 - (i : Int)).toNat = k - 1 - i := by omega
  have hP := p_pos (k - 1 - i)
  simp only [List.length_map, List.length_range]
  rw [e2, Int.fdiv_eq_ediv_of_nonneg _ (by omega), Int.fmod_eq_emod_of_nonneg _ (by decide)]
theorem due_is {n wd : Int} (h : 1 ≤ wd) : byteArr (List.map (fun k' : Int => (n.fdiv (256 ^ (wd - 1 - k').toNat)).fmod 256) (rangeKs 0 (wd - 0).toNat)) = outB n wd := by
  have e := due_eq (due_list (n := n) h)
  rw [Int.toNat_of_nonneg (by omega)] at e
  exact e
theorem back_is {n wd : Int} {sg : Bool} (h : 1 ≤ wd) (hf : fitsI n wd sg = true) : fromB (outB n wd) sg = n := by
  obtain ⟨k, rfl⟩ := Int.eq_ofNat_of_zero_le (show 0 ≤ wd by omega)
  exact back (by omega) ((fitsI_iff (by omega)).mp hf)
theorem outB_size (x k : Int) : (outB x k).size = k.toNat := by rw [← bI_size, bI_out, dig_length]
theorem fits_big {n wd : Int} {sg : Bool} (h : 1 ≤ wd) : tooBig n wd sg = !fitsI n wd sg := by
  obtain ⟨k, rfl⟩ := Int.eq_ofNat_of_zero_le (show 0 ≤ wd by omega)
  have h1 := @tooBig_iff n k sg (by omega)
  have h2 := @fitsI_iff n k sg (by omega)
  cases hf : fitsI n (k : Int) sg with
  | true => exact h1.mpr (h2.mp hf)
  | false =>
    cases ht : tooBig n (k : Int) sg with
    | true => rfl
    | false => rw [h2.mpr (h1.mp ht)] at hf; cases hf
/-- the widths' own law: what the search finds is what int_to_bytes reckons -/
theorem auto_least {N l : Int} {sg : Bool} (h0 : 0 ≤ N ∨ sg = true) (h1 : 1 ≤ l) (hf : fitsI N l sg = true) (hno : ∀ j : Int, 1 ≤ j → j < l → fitsI N j sg = false) : autoW N sg = l := by
  have ha := auto_pos N sg
  obtain ⟨k, rfl⟩ := Int.eq_ofNat_of_zero_le (show 0 ≤ l by omega)
  obtain ⟨q, hq⟩ := Int.eq_ofNat_of_zero_le (show 0 ≤ autoW N sg by omega)
  have h2 := (auto_iff h0 (show 1 ≤ k by omega)).mp ((fitsI_iff (by omega)).mp hf)
  by_cases hlt : autoW N sg < (k : Int)
  · have h3 := hno _ ha hlt
    rw [hq] at h3
    have h4 := (fitsI_iff (by omega)).mpr ((auto_iff h0 (show 1 ≤ q by omega)).mpr (by omega))
    rw [h4] at h3
    cases h3
  · omega
/-- given | width, as the law has it -/
inductive Given (wd l : Int) : Value → Int → Prop where
  | none (e : wd = 0) : Given wd l .none l
  | int (e : wd ≠ 0) (t : Tok) : Given wd l (.int wd t) wd
theorem given_ok {N l wd W : Int} {sg : Bool} {gv : Value} (hb : Bnd N) (hl1 : 1 ≤ l) (hl2 : l ≤ 151) (hat : 0 ≤ N ∨ sg = true → fitsI N l sg = true) (hno : ∀ j : Int, 1 ≤ j → j < l → fitsI N j sg = false)
    (h0 : 0 ≤ wd) (h7 : wd ≤ 7) (G : Given wd l gv W) :
    1 ≤ W ∧ W ≤ 151 ∧ (fitsI N W sg = true → WidthIs N sg W gv ∧ tooBig N W sg = false) ∧ (fitsI N W sg = false → ∃ V, WidthIs N sg V gv ∧ 0 ≤ V ∧ V ≤ 200 ∧ tooBig N V sg = true) := by
  cases G with
  | int e t =>
    have hW : 1 ≤ wd := by omega
    refine ⟨hW, by omega, fun hf => ⟨.int t, by rw [fits_big hW, hf]; rfl⟩, fun hf => ⟨wd, .int t, by omega, by omega, by rw [fits_big hW, hf]; rfl⟩⟩
  | none e =>
    refine ⟨hl1, hl2, fun hf => ?_, fun hf => ?_⟩
    · have hsg : 0 ≤ N ∨ sg = true := by
        cases sg with
        | true => exact .inr rfl
        | false =>
          refine .inl ?_
          obtain ⟨k, rfl⟩ := Int.eq_ofNat_of_zero_le (show 0 ≤ l by omega)
          have := (fitsI_iff (by omega)).mp hf
          unfold Fit at this
          rw [if_neg Bool.false_ne_true] at this
          exact this.1
      exact ⟨.none (auto_least hsg hl1 hf hno).symm, by rw [fits_big hl1, hf]; rfl⟩
    · have hn : ¬ (0 ≤ N ∨ sg = true) := fun q => by rw [hat q] at hf; cases hf
      have hs : sg = false := by
        cases sg with
        | true => exact absurd (.inr rfl) hn
        | false => rfl
      subst hs
      refine ⟨autoW N false, .none rfl, by have := auto_pos N false; omega, auto_le hb, ?_⟩
      have hN : N < 0 := by omega
      unfold tooBig
      rw [decide_eq_true hN]
      rfl
end
end Mine

namespace Mine
section
open PySem PySem.W PyProof.Rows PySem.Calls
/-- no smaller width fits (asked where the law's while turns) -/
structure Least (N : Int) (sg : Bool) (l : Int) : Prop where
  lo : 1 ≤ l
  hi : l ≤ 151
  none : ∀ j : Int, 1 ≤ j → j < l → fitsI N j sg = false
theorem Least.one {N : Int} {sg : Bool} : Least N sg 1 := ⟨by omega, by omega, fun j h1 h2 => absurd h1 (by omega)⟩
theorem Least.next {N l : Int} {sg : Bool} (h : Least N sg l) (hb : Bnd N) (h0 : 0 ≤ N ∨ sg = true) (hf : fitsI N l sg = false) : Least N sg (l + 1) := by
  have hne : ¬ 151 ≤ l := fun q => by rw [fits_far hb h0 q] at hf; cases hf
  refine ⟨by have := h.lo; omega, by omega, fun j h1 h2 => ?_⟩
  by_cases e : j = l
  · subst e; exact hf
  · exact h.none j h1 (by omega)

theorem fr_twice {h₀ h : Heap} {L : Addr} {m : Str → Option Value} {x : Str} {a b : Option Value} (F : Fr h₀ L h (fun y => if y = x then a else if y = x then b else m y)) : Fr h₀ L h (fun y => if y = x then a else m y) := by
  have : (fun y => if y = x then a else if y = x then b else m y) = fun y => if y = x then a else m y := by
    funext y
    by_cases q : y = x
    · rw [if_pos q, if_pos q]
    · rw [if_neg q, if_neg q, if_neg q]
  rw [← this]
  exact F
/-- a turn's end of the law's while -/
def LeastEnd (h₀ : Heap) (L : Addr) (s : Shared) (m₀ : Str → Option Value) (news : List (Addr × Obj)) (N : Int) (sg : Bool) (l : Int) (fl : Flow) (s₃ : Shared) : Prop :=
  fl = .next ∧ (0 ≤ N ∨ sg = true) ∧ fitsI N l sg = false ∧ ∃ h' tk t, s₃ = { s with heap := h', toks := tk } ∧ Fr h₀ L h' (fun y => if y = Str.ofString "least" then some (.int (l + 1) t) else m₀ y) ∧ News h₀ L h' news
section
variable {prog : Program} {w : World} {A : Around} {E : Value → Shared → Prop} {Q : Flow → Shared → Prop} {s : Shared} {env : Env} {h₀ : Heap} {L : Addr} {m₀ : Str → Option Value} {news : List (Addr × Obj)}
theorem while_least {test : PySem.Expr} {body : List Stmt} {pos : Pos} {N : Int} {sg : Bool} {t₀ : Tok} (hb : Bnd N) (F : Fr h₀ L s.heap m₀) (X : News h₀ L s.heap news) (hm : m₀ (Str.ofString "least") = some (.int 1 t₀))
    (turn : ∀ l t h tk, Least N sg l → Fr h₀ L h (fun y => if y = Str.ofString "least" then some (.int l t) else m₀ y) → News h₀ L h news →
      wpAny (model prog w) A (isTrue test env (eval test env)) (fun b s₂ =>
        if b = true then wpAny (model prog w) A (execs body env) (LeastEnd h₀ L s m₀ news N sg l) E s₂ else Q .next s₂) E { s with heap := h, toks := tk })
    (hE : PassesOwn (model prog w) A env E := by passes_own) :
    wpAny (model prog w) A (exec (.While test body [] pos) env) Q E s := by
  refine While_inv2 (n₀ := 199) (fun n m nx => nx = news ∧ ∃ l t, n = 200 - l.toNat ∧ Least N sg l ∧ m = fun y => if y = Str.ofString "least" then some (.int l t) else m₀ y) F X ⟨rfl, 1, t₀, rfl, Least.one, ?_⟩ ?_ hE
  · funext y
    by_cases e : y = Str.ofString "least"
    · rw [if_pos e, e, hm]
    · rw [if_neg e]
  · rintro n m₁ nx h₁ tk₁ F₁ N₁ ⟨rfl, l, t, rfl, hl, rfl⟩
    refine wpAny_mono (turn l t h₁ tk₁ hl F₁ N₁) (fun b s₂ p => ?_) fun _ _ x => x
    cases b with
    | false => simpa using p
    | true =>
      simp only [if_true] at p ⊢
      refine wpAny_mono p (fun f s₃ q => ?_) fun _ _ x => x
      obtain ⟨rfl, h0, hf, h', tk, t', rfl, F', N'⟩ := q
      have hn := hl.next hb h0 hf
      exact ⟨h', tk, _, nx, 200 - (l + 1).toNat, rfl, F', N', by have := hl.lo; have := hl.hi; omega, rfl, l + 1, t', rfl, hn, rfl⟩
end
end
end Mine

namespace Mine
section
open PySem PySem.W PyProof.Rows
/-- the law's own lines, out of the row -/
def lawParts : List Stmt × Scope := match PySem.Challenge.pw_jf0001_01.main.body.drop 6 with
  | .FunctionDef _ _ body _ _ _ scope _ _ _ :: _ => (body, scope)
  | _ => ([], { kind := .function, names := [], isGenerator := false, isCoroutine := false })
abbrev lawEnv (L fa c : Addr) : Env := envOfC (Str.ofString "law") lawParts.2 L fa (.ref c)
abbrev lawA (L fa c : Addr) : Around := callerA.deeper (lawEnv L fa c)
theorem fr_top {h₀ h : Heap} {L : Addr} {m : Str → Option Value} {x : Str} {v : Value} (F : Fr h₀ L h m) (e : m x = some v) : Fr h₀ L h (fun y => if y = x then some v else m y) := by
  have : (fun y => if y = x then some v else m y) = m := by
    funext y
    by_cases q : y = x
    · rw [if_pos q, q, e]
    · rw [if_neg q]
  rw [this]
  exact F

theorem fr_tot {h₀ h : Heap} {L : Addr} {m : Str → Option Value} {T Z : Int} {t : Tok} (F : Fr h₀ L h m) (e : m (Str.ofString "total") = some (.int T t)) (e' : T = Z) : Fr h₀ L h (fun y => if y = Str.ofString "total" then some (.int Z t) else m y) := by
  subst e'
  exact fr_top F e

theorem tot1 {xs : List Int} {n : Nat} {sg : Bool} (hin : KBa.In xs) (hl : xs.length = n) (hs : sg = true) (h0 : 0 < n) (h1 : 127 < xs.getD (Int.toNat 0) 0) : xs.foldl (fun a' => HAdd.hAdd (256 * a')) 0 - 256 ^ ((n : Int)).toNat = fromB (byteArr xs) sg := by
  rw [foldl_total, fromB_val, show bI (byteArr xs) = xs from KBa.ints_make hin, Int.toNat_natCast, if_pos ⟨hs, by omega, h1⟩, hl]
theorem tot2 {xs : List Int} {sg : Bool} (hin : KBa.In xs) (h : ¬ (sg = true ∧ 0 < xs.length ∧ 127 < xs.getD (Int.toNat 0) 0)) : xs.foldl (fun a' => HAdd.hAdd (256 * a')) 0 = fromB (byteArr xs) sg := by
  rw [foldl_total, fromB_val, show bI (byteArr xs) = xs from KBa.ints_make hin, if_neg (show ¬ (sg = true ∧ 0 < xs.length ∧ 127 < xs.getD 0 0) from h)]

section
local macro_rules | `(tactic| walk_at "call ref") => `(tactic| (k_here; (with_reducible show wpAny _ _ (call (Value.ref 30) _ _) _ _ _); k_dflt (refine' use_fromK ?k1 ?k2 ?k3 ?k4 ?k5 ?kK ?kp ?kd ?ku ?_; (case k1 => k_asm); (case k2 => k_asm); (case k3 => k_asm); (case k4 => k_asm); (case k5 => k_asm); (case kK => first | exact rfl | assumption); (case kp => assumption); (case kd => ktr_room); (case ku => ktr_units); k_whole); intro t9 h9 tk9 F9 N9))
local macro_rules | `(tactic| walk_at "call ref") => `(tactic| (k_here; (with_reducible show wpAny _ _ (call (Value.ref 22) _ _) _ _ _); k_dflt (refine' use_toK ?k1 ?k2 ?k3 ?k4 ?k5 ?kK ?kp ?kd ?ku ?_; (case k1 => k_asm); (case k2 => k_asm); (case k3 => k_asm); (case k4 => k_asm); (case k5 => k_asm); (case kK => first | exact rfl | assumption); (case kp => assumption); (case kd => ktr_room); (case ku => ktr_units); k_whole); intro t9 h9 tk9 F9 N9))

set_option maxRecDepth 100000 in
set_option maxHeartbeats 8000000 in
theorem phaseD (w : World) (p : Program) (loose : List Str) (mean : ExcName → Option Value) (mg mb : Str → Option Value) (h₀ : Heap) (L fa c : Addr) (m : Str → Option Value) (b : Array UInt8) (t t' : Tok) (sg : Bool) (s : Shared) (Q : Flow → Shared → Prop) (E : Value → Shared → Prop)
    (K0 : Below callerA h₀ [] h₀) (X : (hd.heap_39 w.params).In h₀) (T : Top p loose mean mg mb h₀)
    (F : Fr h₀ L s.heap (fun y => if y = Str.ofString "total" then some (.int (fromB b sg) t) else if y = Str.ofString "octets" then some (.bytes b t') else if y = Str.ofString "signed" then some (.bool sg) else m y)) (N : News h₀ L s.heap [])
    (hb : b.size ≤ 200) (hto : (0 : Int) ≤ (b.size : Int) ∧ (b.size : Int) ≤ 200 ∧ tooBig (fromB b sg) (b.size : Int) sg = false) (hout : outB (fromB b sg) (b.size : Int) = b)
    (hret : ∀ h' tk' m', Fr h₀ L h' m' → Q (.ret (.bool true)) { s with heap := h', toks := tk' }) :
    wpAny (model PySem.Challenge.rw_jf0001_01.row.prog w) (lawA L fa c) (execs (lawParts.1.drop 13) (lawEnv L fa c)) Q E s := by
  revert X
  k_fill
  intro X
  dsimp only [lawA, lawEnv, lawParts, PySem.Challenge.pw_jf0001_01, List.drop]
  k_steps
  all_goals first
    | exact absurd rfl (by assumption)
    | (rw [hout, show (b.toList == b.toList) = true from by simp]; exact hret _ _ _ (by assumption))
end

set_option maxRecDepth 100000 in
set_option maxHeartbeats 8000000 in
theorem phaseC (w : World) (p : Program) (loose : List Str) (mean : ExcName → Option Value) (mg mb : Str → Option Value) (h₀ : Heap) (L fa c l : Addr) (m : Str → Option Value) (os : Obj) (vs : List Value) (ns : List Int) (sg : Bool) (s : Shared) (Q : Flow → Shared → Prop) (E : Value → Shared → Prop)
    (K0 : Below callerA h₀ [] h₀) (X : (hd.heap_39 w.params).In h₀) (T : Top p loose mean mg mb h₀) (hl : h₀.IsList l vs.toArray) (hI : IntsAre vs ns) (hn : ns.length ≤ 63)
    (F : Fr h₀ L s.heap (fun y => if y = Str.ofString "signed" then some (.bool sg) else m y)) (N : News h₀ L s.heap [(L + 1, os)]) (ds : os.data = .cell (some (.ref l)))
    (hE : PassesOwn (model PySem.Challenge.rw_jf0001_01.row.prog w) (lawA L fa c) (lawEnv L fa c) E)
    (hret : ∀ h' tk' m', Fr h₀ L h' m' → Q (.ret (.bool true)) { s with heap := h', toks := tk' }) :
    wpAny (model PySem.Challenge.rw_jf0001_01.row.prog w) (lawA L fa c) (execs (lawParts.1.drop 9) (lawEnv L fa c)) Q E s := by
  revert X
  k_fill
  intro X
  dsimp only [lawA, lawEnv, lawParts, PySem.Challenge.pw_jf0001_01, List.drop] at hE ⊢
  repeat' ((fail_if_success (with_reducible show wpAny _ _ (execs (Stmt.Return _ _ :: _) _) _ _ _)); (first | (k_unfold; (try dsimp only)) | (k_end; kc_close) | walk1 | (dsimp only; walk1) | (leave1; (try dsimp only)) | fail "no step"))
  all_goals (
    (rename Fr _ _ _ _ => lF)
    (rename KBa.In _ => hin)
    (rename IntsAre _ (List.map _ _) => hxs)
    refine phaseD w p loose mean mg mb h₀ L fa c _ _ _ _ sg _ _ _ K0 X T (fr_tot (fr_top (fr_top lF (x := Str.ofString "signed") rfl) (x := Str.ofString "octets") rfl) rfl ?_) (fun _ hp => nomatch hp) ?_ ?_ ?_ ?_)
  all_goals first
    | exact round_out _ _
    | (refine ⟨Int.natCast_nonneg _, ?_, round_fits _ _⟩; rw [byteArr_size, List.length_map, List.length_take]; omega)
    | (rw [byteArr_size, List.length_map, List.length_take]; omega)
    | exact fun _ _ _ F => hret _ _ _ F
    | skip
  all_goals (rename (List.take _ _).length = min _ _ => hC)
  all_goals first
    | exact tot1 hin (by rw [List.length_map, hC]) (by assumption) (by assumption) (by assumption)
    | (refine tot2 hin (fun q => ?_); have q1 := q.1; have q2 := q.2.1; have q3 := q.2.2; rw [List.length_map, hC] at q2; first | exact absurd q3 (by assumption) | (exfalso; omega) | (simp_all; done))
end
end Mine

namespace Mine
section
open PySem PySem.W PyProof.Rows
section
local macro_rules | `(tactic| walk_at "call ref") => `(tactic| (k_here; (with_reducible show wpAny _ _ (call (Value.ref 30) _ _) _ _ _); k_dflt (refine' use_from ?k1 ?k2 ?k3 ?k4 ?k5 ?kK ?kp ?kd ?ku ?_; (case k1 => k_asm); (case k2 => k_asm); (case k3 => k_asm); (case k4 => k_asm); (case k5 => k_asm); (case kK => first | exact rfl | assumption); (case kp => assumption); (case kd => ktr_room); (case ku => ktr_units); k_whole); intro t9 h9 tk9 F9 N9))
set_option maxRecDepth 100000 in
set_option maxHeartbeats 8000000 in
theorem phaseB3t (w : World) (p : Program) (loose : List Str) (mean : ExcName → Option Value) (mg mb : Str → Option Value) (h₀ : Heap) (L fa c l : Addr) (m : Str → Option Value) (os on ow : Obj) (vs : List Value) (ns : List Int) (sg : Bool) (b : Array UInt8) (t1 t2 tn : Tok) (s : Shared) (Q : Flow → Shared → Prop) (E : Value → Shared → Prop)
    (K0 : Below callerA h₀ [] h₀) (X : (hd.heap_39 w.params).In h₀) (T : Top p loose mean mg mb h₀) (hl : h₀.IsList l vs.toArray) (hI : IntsAre vs ns) (hn : ns.length ≤ 63)
    (F : Fr h₀ L s.heap (fun y => if y = Str.ofString "due" then some (.bytes b t1) else if y = Str.ofString "told" then some (.bytes b t2) else if y = Str.ofString "fits" then some (.bool true) else if y = Str.ofString "signed" then some (.bool sg) else m y)) (N : News h₀ L s.heap [(L + 3, ow), (L + 2, on), (L + 1, os)]) (ds : os.data = .cell (some (.ref l))) (dn : on.data = .cell (some (.int (fromB b sg) tn)))
    (hb : b.size ≤ 200)
    (hE : PassesOwn (model PySem.Challenge.rw_jf0001_01.row.prog w) (lawA L fa c) (lawEnv L fa c) E)
    (hret : ∀ h' tk' m', Fr h₀ L h' m' → Q (.ret (.bool true)) { s with heap := h', toks := tk' }) :
    wpAny (model PySem.Challenge.rw_jf0001_01.row.prog w) (lawA L fa c) (execs (lawParts.1.drop 8) (lawEnv L fa c)) Q E s := by
  revert X
  k_fill
  intro X
  dsimp only [lawA, lawEnv, lawParts, PySem.Challenge.pw_jf0001_01, List.drop] at hE ⊢
  repeat' ((fail_if_success (with_reducible show wpAny _ _ (execs (Stmt.Assign [PySem.Expr.Name (Str.ofString "octets") _] _ _ :: _) _) _ _ _)); (first | (k_unfold; (try dsimp only)) | (k_end; kc_close) | walk1 | (dsimp only; walk1) | (leave1; (try dsimp only)) | fail "no step"))
  all_goals first
    | (exfalso; exact absurd rfl (by assumption))
    | (exfalso; (rename (_ != _) = true => q9); simp at q9; done)
    | ((rename Fr _ _ _ _ => lF); (rename News _ _ _ _ => lN); exact phaseC w p loose mean mg mb h₀ L fa c l _ os vs ns sg _ _ _ K0 X T hl (by assumption) hn (fr_top lF (x := Str.ofString "signed") rfl) (fun q hq => lN q (.tail _ (.tail _ hq))) ds hE (fun _ _ _ F => hret _ _ _ F))
set_option maxRecDepth 100000 in
set_option maxHeartbeats 8000000 in
theorem phaseB3f (w : World) (p : Program) (loose : List Str) (mean : ExcName → Option Value) (mg mb : Str → Option Value) (h₀ : Heap) (L fa c l : Addr) (m : Str → Option Value) (os on ow : Obj) (vs : List Value) (ns : List Int) (sg : Bool) (s : Shared) (Q : Flow → Shared → Prop) (E : Value → Shared → Prop)
    (K0 : Below callerA h₀ [] h₀) (X : (hd.heap_39 w.params).In h₀) (T : Top p loose mean mg mb h₀) (hl : h₀.IsList l vs.toArray) (hI : IntsAre vs ns) (hn : ns.length ≤ 63)
    (F : Fr h₀ L s.heap (fun y => if y = Str.ofString "due" then some .none else if y = Str.ofString "told" then some .none else if y = Str.ofString "fits" then some (.bool false) else if y = Str.ofString "signed" then some (.bool sg) else m y)) (N : News h₀ L s.heap [(L + 3, ow), (L + 2, on), (L + 1, os)]) (ds : os.data = .cell (some (.ref l)))
    (hE : PassesOwn (model PySem.Challenge.rw_jf0001_01.row.prog w) (lawA L fa c) (lawEnv L fa c) E)
    (hret : ∀ h' tk' m', Fr h₀ L h' m' → Q (.ret (.bool true)) { s with heap := h', toks := tk' }) :
    wpAny (model PySem.Challenge.rw_jf0001_01.row.prog w) (lawA L fa c) (execs (lawParts.1.drop 8) (lawEnv L fa c)) Q E s := by
  revert X
  k_fill
  intro X
  dsimp only [lawA, lawEnv, lawParts, PySem.Challenge.pw_jf0001_01, List.drop] at hE ⊢
  repeat' ((fail_if_success (with_reducible show wpAny _ _ (execs (Stmt.Assign [PySem.Expr.Name (Str.ofString "octets") _] _ _ :: _) _) _ _ _)); (first | (k_unfold; (try dsimp only)) | (k_end; kc_close) | walk1 | (dsimp only; walk1) | (leave1; (try dsimp only)) | fail "no step"))
  all_goals first
    | (exfalso; exact absurd rfl (by assumption))
    | (exfalso; (rename (_ != _) = true => q9); simp at q9; done)
    | ((rename Fr _ _ _ _ => lF); (rename News _ _ _ _ => lN); exact phaseC w p loose mean mg mb h₀ L fa c l _ os vs ns sg _ _ _ K0 X T hl (by assumption) hn (fr_top lF (x := Str.ofString "signed") rfl) (fun q hq => lN q (.tail _ (.tail _ hq))) ds hE (fun _ _ _ F => hret _ _ _ F))
end
end
end Mine

namespace Mine
section
open PySem PySem.W PyProof.Rows
theorem fr_byt {h₀ h : Heap} {L : Addr} {m : Str → Option Value} {x : Str} {b b' : Array UInt8} {t : Tok} (F : Fr h₀ L h m) (e : m x = some (.bytes b t)) (e' : b = b') : Fr h₀ L h (fun y => if y = x then some (.bytes b' t) else m y) := by
  subst e'
  exact fr_top F e
section
variable {w : World} {p : Program} {loose : List Str} {mean : ExcName → Option Value} {mg mb : Str → Option Value} {news : List (Addr × Obj)}
  {dp un : Nat} {gd : Option (List Code)} {cn : Str} {cs : Scope} {a : Addr} {ccd : Value} {cl : List (Str × Addr)} {outer : List Env} {A₀ : Around} {base h₀ : Heap} {L : Addr} {m : Str → Option Value} {s : Shared} {Q E : Value → Shared → Prop}
theorem use_fitsE {n wd : Int} {sg fb : Bool} {t u : Tok} (e : fitsI n wd sg = fb) (B : Below A₀ base outer h₀) (F : Fr h₀ L s.heap m) (X : (hd.heap_39 w.params).In h₀) (N : News h₀ L s.heap news) (T : Top p loose mean mg mb h₀) (hk : cs.kind = .function) (hP : 0 ≤ wd ∧ wd ≤ 200)
    (hd : dp + 1 < recursionLimit) (hu : un + 8 < cLine) (h : ∀ h' tk', Fr h₀ L h' m → News h₀ L h' news → Q (.bool fb) { s with heap := h', toks := tk' }) :
    wpAny (model PySem.Challenge.rw_jf0001_01.row.prog w) (ktrTop dp un gd cn cs L a ccd cl outer) (call (.ref 44) [.int n t, .int wd u, .bool sg]) Q E s := by
  subst e
  exact use_fits B F X N T hk hP hd hu h
end
theorem caughtC {M : Model} {A : Around} {E : Value → Shared → Prop} {s' : Shared} {h₀ h : Heap} {outer : List Env} {env : Env} {L e : Addr} {m : Str → Option Value} {b₀ : Stmt} {suite : List Stmt} {pos : Pos} {ty : PySem.Expr} {rest : List ExceptHandler} {Q : Flow → Shared → Prop} {news : List (Addr × Obj)} {prog : Program} {w : World} (hM : M = model prog w)
    (hf : env.frame = some L) (hA : A.frames = some (env :: outer)) (F : Fr h₀ L h m) (hsm : h.UpToSlots s'.heap) (R : RaisedN h₀ (env :: outer) e (.type "OverflowError") news s'.heap)
    (hname : ∀ (A' : Around) (E' : Value → Shared → Prop) (Q' : Value → Shared → Prop) (s₁ : Shared), Fr h₀ L s₁.heap m → Q' (.type "OverflowError") s₁ → wpAny M A' (eval ty env) Q' E' s₁)
    (hE : PassesOwnAt M (A.mark (some (.ref e))) A env E)
    (k : ∀ h', Fr h₀ L h' m → News h₀ L h' news → wpAny M (A.mark (some (.ref e))) (execs (b₀ :: suite) env) Q E { s' with heap := h' }) :
    wpAny M A (noteFrame (.ref e) env) (fun _ s₂ => wpAny M A (setFlight (.ref e) none) (fun _ s₃ =>
      wpAny M A (handleBy (.ref e) env (.ExceptHandler (some ty) none (b₀ :: suite) pos :: rest)) Q E s₃) E s₂) E s' := by
  subst hM
  obtain ⟨B, a0, hB, hl, hfl⟩ := R
  have hL : B.get? L = none := by
    obtain ⟨_, ⟨L', _, hf', hn, _⟩, _⟩ := hfl.2.2.1
    rw [hf] at hf'
    cases hf'
    exact hn
  refine wpAny_looks_onW hA hf hfl fun h₄ hheld₄ sm₄ => wpAny_landsW hheld₄ fun h₅ hfl₅ sm₅ => ?_
  have hup := hsm.trans (sm₄.trans sm₅)
  have hfl₅' := flyingW_base hB hfl₅
  obtain ⟨ob, hob, hobc⟩ := hfl₅'.there
  refine wpAny_handleBy_builtin (X := "OverflowError") (T := "OverflowError") (b := true) PySem.F.isExc_OverflowError PySem.F.notTuple_OverflowError (by rw [isSubtype_type]; kernel_rfl)
    (hname _ _ _ _ (F.of_stays hfl₅'.1 hup) ⟨rfl, ⟨ob, hob, hobc⟩, ?_⟩)
  refine lands_againW hfl₅ fun h₆ hfl₆ sm₆ => ?_
  exact wpAny_passesOwnAt hE (k h₆ (F.of_stays (flyingW_base hB hfl₆).1 (hup.trans sm₆)) fun q hq => ⟨hfl₆.1 _ _ (hl q hq).1, (fun z => by have := (hl q hq).1; rw [z, hL] at this; cases this), (hl q hq).2⟩)
section
variable {prog : Program} {w : World} {A : Around} {E : Value → Shared → Prop} {s : Shared} {Q : Value → Shared → Prop} {x : Int} {k : Nat} {t u : Tok}
theorem div_pow (hk : k ≤ 200) (h : Q (.int (x.fdiv (256 ^ k)) s.toks) { s with toks := s.toks + 1 }) : wpAny (model prog w) A (binaryOp .FloorDiv (.int x t) (.int (256 ^ k) u)) Q E s := by
  refine floordiv_int (by have := p_pos k; omega) h (Or.inl (PyProof.noPylong_of_log2 ?_))
  rw [KTBy.p256, Int.natAbs_natCast, p256k]
  refine (Nat.log2_lt (Nat.ne_of_gt (Nat.two_pow_pos _))).mpr (Nat.pow_lt_pow_right (by decide) (by omega))
end
section
local macro_rules | `(tactic| walk_at "call ref") => `(tactic| (k_here; (with_reducible show wpAny _ _ (call (Value.ref 44) _ _) _ _ _); k_dflt (refine' use_fitsE ?ke ?k1 ?k2 ?k3 ?k4 ?k5 ?kK ?kp ?kd ?ku ?_; (case ke => assumption); (case k1 => k_asm); (case k2 => k_asm); (case k3 => k_asm); (case k4 => k_asm); (case k5 => k_asm); (case kK => first | exact rfl | assumption); (case kp => first | assumption | exact ⟨by omega, by omega⟩); (case kd => ktr_room); (case ku => ktr_units); k_whole); intro h9 tk9 F9 N9))
local macro_rules | `(tactic| walk_at "call ref") => `(tactic| (k_here; (with_reducible show wpAny _ _ (call (Value.ref 22) _ _) _ _ _); k_dflt (refine' use_to ?kg ?k1 ?k2 ?k3 ?k4 ?k5 ?kK ?kp ?kd ?ku ?_; (case kg => assumption); (case k1 => k_asm); (case k2 => k_asm); (case k3 => k_asm); (case k4 => k_asm); (case k5 => k_asm); (case kK => first | exact rfl | assumption); (case kp => assumption); (case kd => ktr_room); (case ku => ktr_units); k_whole); intro t9 h9 tk9 F9 N9))
local macro_rules | `(tactic| walk_at "call ref") => `(tactic| (k_here; (with_reducible show wpAny _ _ (call (Value.ref 22) _ _) _ _ _); k_dflt (refine' use_toF ?kg ?k1 ?k2 ?k3 ?k4 ?k5 ?kK ?kp ?kd ?ku ?_; (case kg => assumption); (case k1 => k_asm); (case k2 => k_asm); (case k3 => k_asm); (case k4 => k_asm); (case k5 => k_asm); (case kK => first | exact rfl | assumption); (case kp => assumption); (case kd => ktr_room); (case ku => ktr_units); k_whole); intro g9 h9 e9 tk9 F9 R9 U9))
local macro_rules | `(tactic| walk_at "exec Try") => `(tactic| (k_here; refine wpAny_Try_except ?_))
local macro_rules | `(tactic| walk_at "noteFrame ref") => `(tactic| (k_here; k_dflt (refine' caughtC rfl ?hf ?hA ?hF ?hU ?hR ?hN ?hE ?_; (case hf => exact rfl); (case hA => exact rfl); (case hF => assumption); (case hU => assumption); (case hR => assumption); (case hN => intro A' E' Q' s₁ F1 hq; refine' nameX_B F1 ?nX ?nT ?ne ?nv ?nn hq ?na ?nb; (case nX => k_asm); (case nT => k_asm); (case na => rfl); (case nb => rfl); (case ne => k_is); (case nv => boot_fast); (case nn => decide)); (case hE => passes_own); k_whole); intro h' F' N'))
local macro_rules | `(tactic| walk_at "binaryOp FloorDiv int int") => `(tactic| (k_here; (with_reducible refine div_pow ?hk ?_); (case hk => omega)))
abbrev lawE (w : World) (L fa c : Addr) (Q₁ : Value → Shared → Prop) (E₁ : Value → Shared → Prop) : Value → Shared → Prop := fun e s' => wpAny (model PySem.Challenge.rw_jf0001_01.row.prog w) (lawA L fa c) (leaving (lawEnv L fa c) e) (fun _ s'' => Q₁ e s'') E₁ s'
set_option maxRecDepth 100000 in
set_option maxHeartbeats 8000000 in
theorem phaseB2t (w : World) (p : Program) (loose : List Str) (mean : ExcName → Option Value) (mg mb : Str → Option Value) (h₀ : Heap) (L fa c l : Addr) (m : Str → Option Value) (os on ow : Obj) (vs : List Value) (ns : List Int) (sg : Bool) (gv : Value) (n wd : Int) (tw tn : Tok) (s : Shared) (Q : Flow → Shared → Prop) (Q₁ E₁ : Value → Shared → Prop)
    (K0 : Below callerA h₀ [] h₀) (X : (hd.heap_39 w.params).In h₀) (T : Top p loose mean mg mb h₀) (hl : h₀.IsList l vs.toArray) (hI : IntsAre vs ns) (hn : ns.length ≤ 63)
    (F : Fr h₀ L s.heap (fun y => if y = Str.ofString "given" then some gv else if y = Str.ofString "signed" then some (.bool sg) else m y)) (N : News h₀ L s.heap [(L + 3, ow), (L + 2, on), (L + 1, os)]) (ds : os.data = .cell (some (.ref l))) (dn : on.data = .cell (some (.int n tn))) (dw : ow.data = .cell (some (.int wd tw)))
    (hfit : fitsI n wd sg = true) (hw1 : 1 ≤ wd) (hw2 : wd ≤ 151) (hgv : WidthIs n sg wd gv) (htb : 0 ≤ wd ∧ wd ≤ 200 ∧ tooBig n wd sg = false)
    (hret : ∀ h' tk' m', Fr h₀ L h' m' → Q (.ret (.bool true)) { s with heap := h', toks := tk' }) :
    wpAny (model PySem.Challenge.rw_jf0001_01.row.prog w) (lawA L fa c) (execs (lawParts.1.drop 5) (lawEnv L fa c)) Q (lawE w L fa c Q₁ E₁) s := by
  revert X
  k_fill
  intro X
  dsimp only [lawA, lawE, lawEnv, lawParts, PySem.Challenge.pw_jf0001_01, List.drop]
  repeat' ((fail_if_success (with_reducible show wpAny _ _ (execs (Stmt.If (PySem.Expr.BoolOp _ _ _) _ _ _ :: _) _) _ _ _)); (first | (k_unfold; (try dsimp only)) | (k_end; kc_close) | walk1 | (dsimp only; walk1) | (leave1; (try dsimp only)) | fail "no step"))
  (rename Fr _ _ _ _ => lF)
  (rename News _ _ _ _ => lN)
  exact phaseB3t w p loose mean mg mb h₀ L fa c l _ os on ow vs ns sg (outB n wd) _ _ tn _ _ _ K0 X T hl (by assumption) hn
    (fr_byt (fr_top (fr_top (fr_top lF (x := Str.ofString "signed") rfl) (x := Str.ofString "fits") rfl) (x := Str.ofString "told") rfl) (x := Str.ofString "due") rfl (due_is hw1))
    (fun q hq => lN q (.tail _ hq)) ds (by rw [back_is hw1 hfit]; exact dn) (by rw [outB_size]; omega) PassesOwn.leaving (fun _ _ _ F => hret _ _ _ F)
set_option maxRecDepth 100000 in
set_option maxHeartbeats 8000000 in
theorem phaseB2f (w : World) (p : Program) (loose : List Str) (mean : ExcName → Option Value) (mg mb : Str → Option Value) (h₀ : Heap) (L fa c l : Addr) (m : Str → Option Value) (os on ow : Obj) (vs : List Value) (ns : List Int) (sg : Bool) (gv : Value) (n wd W : Int) (tw tn : Tok) (s : Shared) (Q : Flow → Shared → Prop) (Q₁ E₁ : Value → Shared → Prop)
    (K0 : Below callerA h₀ [] h₀) (X : (hd.heap_39 w.params).In h₀) (T : Top p loose mean mg mb h₀) (hl : h₀.IsList l vs.toArray) (hI : IntsAre vs ns) (hn : ns.length ≤ 63)
    (F : Fr h₀ L s.heap (fun y => if y = Str.ofString "given" then some gv else if y = Str.ofString "signed" then some (.bool sg) else m y)) (N : News h₀ L s.heap [(L + 3, ow), (L + 2, on), (L + 1, os)]) (ds : os.data = .cell (some (.ref l))) (dn : on.data = .cell (some (.int n tn))) (dw : ow.data = .cell (some (.int wd tw)))
    (hfit : fitsI n wd sg = false) (hw1 : 1 ≤ wd) (hw2 : wd ≤ 151) (hgv : WidthIs n sg W gv) (htb : 0 ≤ W ∧ W ≤ 200 ∧ tooBig n W sg = true)
    (hret : ∀ h' tk' m', Fr h₀ L h' m' → Q (.ret (.bool true)) { s with heap := h', toks := tk' }) :
    wpAny (model PySem.Challenge.rw_jf0001_01.row.prog w) (lawA L fa c) (execs (lawParts.1.drop 5) (lawEnv L fa c)) Q (lawE w L fa c Q₁ E₁) s := by
  revert X
  k_fill
  intro X
  dsimp only [lawA, lawE, lawEnv, lawParts, PySem.Challenge.pw_jf0001_01, List.drop]
  repeat' ((fail_if_success (with_reducible show wpAny _ _ (execs (Stmt.If (PySem.Expr.BoolOp _ _ _) _ _ _ :: _) _) _ _ _)); (first | (k_unfold; (try dsimp only)) | (k_end; kc_close) | walk1 | (dsimp only; walk1) | (leave1; (try dsimp only)) | fail "no step"))
  (rename Fr _ _ _ _ => lF)
  (rename News _ _ _ _ => lN)
  exact phaseB3f w p loose mean mg mb h₀ L fa c l _ os on ow vs ns sg _ _ _ K0 X T hl (by assumption) hn
    (fr_top (fr_top (fr_top (fr_top lF (x := Str.ofString "signed") rfl) (x := Str.ofString "fits") rfl) (x := Str.ofString "told") rfl) (x := Str.ofString "due") rfl)
    lN ds PassesOwn.leaving (fun _ _ _ F => hret _ _ _ F)
end
end
end Mine

namespace Mine
section
open PySem PySem.W PyProof.Rows
set_option maxRecDepth 100000 in
set_option maxHeartbeats 8000000 in
theorem phaseB1 (w : World) (p : Program) (loose : List Str) (mean : ExcName → Option Value) (mg mb : Str → Option Value) (h₀ : Heap) (L fa c l : Addr) (m : Str → Option Value) (os on ow : Obj) (vs : List Value) (ns : List Int) (sg : Bool) (n wd ll : Int) (tw tn tl : Tok) (s : Shared) (Q : Flow → Shared → Prop) (Q₁ E₁ : Value → Shared → Prop)
    (K0 : Below callerA h₀ [] h₀) (X : (hd.heap_39 w.params).In h₀) (T : Top p loose mean mg mb h₀) (hl : h₀.IsList l vs.toArray) (hI : IntsAre vs ns) (hn : ns.length ≤ 63)
    (F : Fr h₀ L s.heap (fun y => if y = Str.ofString "least" then some (.int ll tl) else if y = Str.ofString "signed" then some (.bool sg) else m y)) (N : News h₀ L s.heap [(L + 3, ow), (L + 2, on), (L + 1, os)]) (ds : os.data = .cell (some (.ref l))) (dn : on.data = .cell (some (.int n tn))) (dw : ow.data = .cell (some (.int wd tw)))
    (hb : Bnd n) (hl1 : 1 ≤ ll) (hl2 : ll ≤ 151) (hat : 0 ≤ n ∨ sg = true → fitsI n ll sg = true) (hno : ∀ j : Int, 1 ≤ j → j < ll → fitsI n j sg = false) (h0 : 0 ≤ wd) (h7 : wd ≤ 7)
    (hret : ∀ h' tk' m', Fr h₀ L h' m' → Q (.ret (.bool true)) { s with heap := h', toks := tk' }) :
    wpAny (model PySem.Challenge.rw_jf0001_01.row.prog w) (lawA L fa c) (execs (lawParts.1.drop 3) (lawEnv L fa c)) Q (lawE w L fa c Q₁ E₁) s := by
  revert X
  k_fill
  intro X
  dsimp only [lawA, lawE, lawEnv, lawParts, PySem.Challenge.pw_jf0001_01, List.drop]
  repeat' ((fail_if_success (with_reducible show wpAny _ _ (execs (Stmt.Assign [PySem.Expr.Name (Str.ofString "fits") _] _ _ :: _) _) _ _ _)); (first | (k_unfold; (try dsimp only)) | (k_end; kc_close) | walk1 | (dsimp only; walk1) | (leave1; (try dsimp only)) | fail "no step"))
  all_goals first
    | (exfalso; omega)
    | ((rename Fr _ _ _ _ => lF); (rename News _ _ _ _ => lN); (rename Obj.data _ = _ => ld)
       have G : Given wd ll .none ll := .none (by assumption)
       obtain ⟨w1, w2, hT, hF⟩ := given_ok hb hl1 hl2 hat hno h0 h7 G
       cases hf : fitsI n ll sg with
       | true => exact phaseB2t w p loose mean mg mb h₀ L fa c l _ os on _ vs ns sg .none n ll _ tn _ _ _ _ K0 X T hl (by assumption) hn (fr_top (fr_top lF (x := Str.ofString "signed") rfl) (x := Str.ofString "given") rfl) lN ds dn ld hf w1 w2 (hT hf).1 ⟨by omega, by omega, (hT hf).2⟩ (fun _ _ _ F => hret _ _ _ F)
       | false =>
         obtain ⟨V, hV, v0, v1, hb2⟩ := hF hf
         exact phaseB2f w p loose mean mg mb h₀ L fa c l _ os on _ vs ns sg .none n ll V _ tn _ _ _ _ K0 X T hl (by assumption) hn (fr_top (fr_top lF (x := Str.ofString "signed") rfl) (x := Str.ofString "given") rfl) lN ds dn ld hf w1 w2 hV ⟨v0, v1, hb2⟩ (fun _ _ _ F => hret _ _ _ F))
    | ((rename Fr _ _ _ _ => lF); (rename News _ _ _ _ => lN); (rename Obj.data _ = _ => ld)
       have G : Given wd ll (.int wd tw) wd := .int (by assumption) tw
       obtain ⟨w1, w2, hT, hF⟩ := given_ok hb hl1 hl2 hat hno h0 h7 G
       cases hf : fitsI n wd sg with
       | true => exact phaseB2t w p loose mean mg mb h₀ L fa c l _ os on _ vs ns sg (.int wd tw) n wd _ tn _ _ _ _ K0 X T hl (by assumption) hn (fr_top (fr_top lF (x := Str.ofString "signed") rfl) (x := Str.ofString "given") rfl) lN ds dn ld hf w1 w2 (hT hf).1 ⟨by omega, by omega, (hT hf).2⟩ (fun _ _ _ F => hret _ _ _ F)
       | false =>
         obtain ⟨V, hV, v0, v1, hb2⟩ := hF hf
         exact phaseB2f w p loose mean mg mb h₀ L fa c l _ os on _ vs ns sg (.int wd tw) n wd V _ tn _ _ _ _ K0 X T hl (by assumption) hn (fr_top (fr_top lF (x := Str.ofString "signed") rfl) (x := Str.ofString "given") rfl) lN ds dn ld hf w1 w2 hV ⟨v0, v1, hb2⟩ (fun _ _ _ F => hret _ _ _ F))
end
end Mine

namespace Mine
section
open PySem PySem.W PyProof.Rows
theorem ints3 {ys : List Value} {f : Int → Int} (h : IntsAre ys (List.map f (rangeKs 0 (3 - 0 : Int).toNat))) : ∃ x0 x1 x2 t0 t1 t2, ys = [.int x0 t0, .int x1 t1, .int x2 t2] := by
  have e : rangeKs 0 (3 - 0 : Int).toNat = [0, 1, 2] := by decide
  rw [e] at h
  cases h with
  | cons _ t0 h => cases h with
    | cons _ t1 h => cases h with
      | cons _ t2 h => cases h; exact ⟨_, _, _, t0, t1, t2, rfl⟩
theorem exit_ok {N l : Int} {sg : Bool} (h : (0 ≤ N ∧ fitsI N l sg = true) ∨ (¬ 0 ≤ N ∧ sg = true ∧ fitsI N l true = true) ∨ (¬ 0 ≤ N ∧ sg = false)) : 0 ≤ N ∨ sg = true → fitsI N l sg = true := by
  rintro q
  rcases h with ⟨_, h⟩ | ⟨_, rfl, h⟩ | ⟨h1, rfl⟩
  · exact h
  · exact h
  · rcases q with q | q
    · exact absurd q h1
    · cases q
section
variable {prog : Program} {w : World} {A : Around} {E : Value → Shared → Prop} {s : Shared} {Q : Value → Shared → Prop} {x : Int} {t u : Tok}
theorem mod8_any (h : ∀ W : Int, 0 ≤ W → W ≤ 7 → Q (.int W s.toks) { s with toks := s.toks + 1 }) : wpAny (model prog w) A (binaryOp .Mod (.int x t) (.int 8 u)) Q E s := by
  have e : x.fmod 8 = x % 8 := Int.fmod_eq_emod_of_nonneg _ (by omega)
  refine mod_int' (by decide) ?_
  exact h _ (by rw [e]; omega) (by rw [e]; omega)
theorem eq1_any (h : ∀ b : Bool, Q (.bool b) s) : wpAny (model prog w) A (compareOp .Eq (.int x t) (.int 1 u)) Q E s := PyProof.Rows.eq_int (h _)
end
local macro_rules | `(tactic| walk_at "binaryOp Mod int int") => `(tactic| (k_here; with_reducible refine mod8_any ?_; intro wd hw0 hw7))
local macro_rules | `(tactic| walk_at "compareOp Eq int int") => `(tactic| (k_here; with_reducible refine eq1_any ?_; intro sg))
local macro_rules | `(tactic| walk_at "binaryOp Pow int int") => `(tactic| (k_here; with_reducible refine pow_big ?_; intro P hP))
local macro_rules | `(tactic| walk_at "call ref") => `(tactic| (k_here; (with_reducible show wpAny _ _ (call (Value.ref 37) _ _) _ _ _); k_dflt (refine' use_bound ?k1 ?k2 ?k3 ?k4 ?k5 ?kK ?kp ?kd ?ku ?_; (case k1 => k_asm); (case k2 => k_asm); (case k3 => k_asm); (case k4 => k_asm); (case k5 => k_asm); (case kK => first | exact rfl | assumption); (case kp => assumption); (case kd => ktr_room); (case ku => ktr_units); k_whole); intro x9 t9 h9 tk9 bnd9 F9 N9))
local macro_rules | `(tactic| walk_at "call ref") => `(tactic| (k_here; (with_reducible show wpAny _ _ (call (Value.ref 44) _ _) _ _ _); k_dflt (refine' use_fits ?k1 ?k2 ?k3 ?k4 ?k5 ?kK ?kp ?kd ?ku ?_; (case k1 => k_asm); (case k2 => k_asm); (case k3 => k_asm); (case k4 => k_asm); (case k5 => k_asm); (case kK => first | exact rfl | assumption); (case kp => first | assumption | exact ⟨by omega, by omega⟩); (case kd => ktr_room); (case ku => ktr_units); k_whole); intro h9 tk9 F9 N9))
set_option maxRecDepth 100000 in
set_option maxHeartbeats 8000000 in
theorem law_holds : PySem.Challenge.rw_jf0001_01.Holds := hd (by
  k_go0; (all_goals try k_fold); k_steps
  (with_reducible rename IntsAre _ (List.map _ (rangeKs _ _)) => hI8)
  obtain ⟨x0, x1, x2, t0, t1, t2, e⟩ := ints3 hI8
  subst e
  repeat' ((fail_if_success (with_reducible show wpAny _ _ (exec (Stmt.While _ _ _ _) _) _ _ _)); (first | (k_unfold; (try dsimp only)) | (k_end; kc_close) | walk1 | (dsimp only; walk1) | (leave1; (try dsimp only)) | fail "no step"))
  (rename Fr _ _ _ _ => kF)
  (rename News _ _ _ _ => kN)
  (rename Bool => sg)
  refine while_least (sg := sg) (by assumption : Bnd _) kF kN (by exact rfl) ?_
  (intro l tl hl tkl least Fl Nl; have ll0 := least.lo; have ll1 := least.hi)
  repeat' ((fail_if_success (with_reducible show wpAny _ _ (execs (Stmt.Assign [PySem.Expr.Name (Str.ofString "given") _] _ _ :: _) _) _ _ _)); (fail_if_success (with_reducible show LeastEnd _ _ _ _ _ _ _ _ _ _)); (first | (k_unfold; (try dsimp only)) | (k_end; kc_close) | walk1 | (dsimp only; walk1) | (leave1; (try dsimp only)) | fail "no step"))
  all_goals first
    | ((with_reducible show LeastEnd _ _ _ _ _ _ _ _ _ _); (rename Fr _ _ _ _ => lF); (rename News _ _ _ _ => lN); exact ⟨rfl, by first | exact .inl (by assumption) | exact .inr (by assumption), by first | assumption | (rw [show sg = true by assumption]; assumption), _, _, _, rfl, fr_twice lF, lN⟩)
    | ((rename Fr _ _ _ _ => lF); (rename News _ _ _ _ => lN)
       refine phaseB1 _ _ _ _ _ _ _ _ _ _ _ _ _ _ _ _ _ sg _ _ _ _ _ _ _ _ _ _ (by assumption) (by assumption) (by assumption) (by assumption) (by assumption) ?_ (fr_top (fr_top lF (x := Str.ofString "signed") rfl) (x := Str.ofString "least") rfl) (fun q hq => lN q (.tail _ (.tail _ hq))) (by assumption) (by assumption) (by assumption) (by assumption) least.lo least.hi
         (exit_ok (by first | exact .inl ⟨by assumption, by assumption⟩ | exact .inr (.inl ⟨by assumption, by assumption, by assumption⟩) | exact .inr (.inr ⟨by assumption, by assumption⟩))) least.none (by assumption) (by assumption) ?_)
  all_goals first
    | omega
    | (intro h5 tk5 m5 F5; (try dsimp only); k_steps))
end
end Mine

theorem PySem.Challenge.cw_jf0001_01_holds : PySem.Challenge.rw_jf0001_01.Holds := by
  exact Mine.law_holds
