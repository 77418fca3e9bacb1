import PyProof.Rows.All
import Wide.All
import OpenK.AllK
import Wide.FinOn
import PySem.Challenge.RW_ez0115_01
open PySem PySem.W PyProof.Rows PySem.Calls PySem.Spec
set_option Elab.async false
set_option maxRecDepth 100000
set_option maxHeartbeats 8000000
set_option rowWalk.seconds 0
namespace Mine
open_top hd for PySem.Challenge.rw_ez0115_01
section
/-- a def's contract: called from any def's frame, with any ledger -/
abbrev FnC (w : World) (p : Program) (loose : List Str) (mean : ExcName → Option Value) (mg mb : Str → Option Value) (f : Addr) (news : List (Addr × Obj)) (dn uN : Nat) (vs : List Value)
    (R : Heap → Addr → (Str → Option Value) → Shared → (Value → Shared → Prop) → Prop) : Prop :=
  ∀ (dp un : Nat) (gd : Option (List Code)) (cn : Str) (cs : Scope) (a : Addr) (ccd : Value) (cl : List (Str × Addr)) (outer : List Env) (A₀ : Around) (base h₀ : Heap) (L : Addr) (m : Str → Option Value) (s : Shared) (Q E : Value → Shared → Prop),
    Below A₀ base outer h₀ → Fr h₀ L s.heap m → (Mine.hd.heap_39 w.params).In h₀ → News h₀ L s.heap news → Top p loose mean mg mb h₀ → cs.kind = .function →
    dp + dn < recursionLimit → un + uN < cLine → R h₀ L m s Q →
      wpAny (model PySem.Challenge.rw_ez0115_01.row.prog w) (ktrTop dp un gd cn cs L a ccd cl outer) (call (.ref f) vs) Q E s

/-- an int of at most k bits -/
structure Sz (a : Int) (k : Nat) : Prop where
  out : a.natAbs < 2 ^ k
theorem Sz.bits {a : Int} {k : Nat} (h : Sz a k) : Builtin.Int.intBits a ≤ k := intBits_le_iff.mpr h.out
theorem Sz.le {a : Int} {k l : Nat} (h : Sz a k) (hkl : k ≤ l) : Sz a l := ⟨Nat.lt_of_lt_of_le h.out (Nat.pow_le_pow_right (by decide) hkl)⟩
theorem Sz.mul {a b : Int} {k l : Nat} (ha : Sz a k) (hb : Sz b l) : Sz (a * b) (k + l) :=
  ⟨by rw [Int.natAbs_mul, Nat.pow_add]; exact Nat.mul_lt_mul'' ha.out hb.out⟩
theorem Sz.add {a b : Int} {k l : Nat} (ha : Sz a k) (hb : Sz b l) : Sz (a + b) (max k l + 1) := by
  have h1 := (ha.le (Nat.le_max_left k l)).out
  have h2 := (hb.le (Nat.le_max_right k l)).out
  refine ⟨?_⟩
  rw [Nat.pow_succ]
  generalize 2 ^ max k l = x at h1 h2
  omega
theorem Sz.neg {a : Int} {k : Nat} (ha : Sz a k) : Sz (-a) k := ⟨by rw [Int.natAbs_neg]; exact ha.out⟩
theorem Sz.abs {a : Int} {k : Nat} (ha : Sz a k) : Sz (a.natAbs : Int) k := ⟨by rw [Int.natAbs_natCast]; exact ha.out⟩
theorem Sz.sub {a b : Int} {k l : Nat} (ha : Sz a k) (hb : Sz b l) : Sz (a - b) (max k l + 1) := by
  rw [Int.sub_eq_add_neg]; exact ha.add hb.neg
theorem Sz.pow {a : Int} {k : Nat} (ha : Sz a k) (n : Nat) : Sz (a ^ n) (k * n + 1) := by
  refine ⟨?_⟩
  rw [Int.natAbs_pow]
  have h : a.natAbs ^ n ≤ (2 ^ k) ^ n := Nat.pow_le_pow_left (Nat.le_of_lt ha.out) n
  rw [← Nat.pow_mul] at h
  exact Nat.lt_of_le_of_lt h (Nat.pow_lt_pow_right (by decide) (Nat.lt_succ_self _))
theorem Sz.fdiv {a b : Int} {k : Nat} (ha : Sz a k) (hb : 0 < b) : Sz (a.fdiv b) (k + 1) := by
  have h := ha.out
  refine ⟨?_⟩
  rw [Nat.pow_succ]
  rw [Int.fdiv_eq_ediv_of_nonneg _ (Int.le_of_lt hb)]
  have h1 : (a / b).natAbs ≤ a.natAbs := by
    rcases Int.lt_or_le a 0 with q | q
    · have e1 : a ≤ a / b := by
        have h3 : a * b ≤ a * 1 := Int.mul_le_mul_of_nonpos_left (Int.le_of_lt q) hb
        exact Int.le_ediv_of_mul_le hb (by omega)
      have e2 : a / b ≤ 0 := by
        exact Int.le_of_lt (Int.ediv_neg_of_neg_of_pos q hb)
      omega
    · have e1 : a / b ≤ a := Int.ediv_le_self b q
      have e2 : 0 ≤ a / b := Int.ediv_nonneg q (Int.le_of_lt hb)
      omega
  omega
theorem Sz.fmod {a b : Int} {k : Nat} (hb : 0 < b) (h : Sz b k) : Sz (a.fmod b) k := by
  have := h.out
  rw [Int.fmod_eq_emod_of_nonneg _ (Int.le_of_lt hb)]
  have h1 := Int.emod_nonneg a (Int.ne_of_gt hb)
  have h2 := Int.emod_lt_of_pos a hb
  exact ⟨by omega⟩
theorem Sz.lt {a : Int} {k : Nat} {c : Int} (h0 : 0 ≤ a) (h : a < c) (hc : Sz c k) : Sz a k := ⟨by have := hc.out; omega⟩
theorem Sz.noPylong {a b : Int} {k : Nat} (h : Sz b k) (hk : k ≤ 9000) : Builtin.divisionGoesByPylong a b = false := by
  refine PyProof.noPylong_of_log2 ?_
  by_cases h0 : b.natAbs = 0
  · rw [h0]; decide +kernel
  · exact Nat.lt_of_lt_of_le ((Nat.log2_lt h0).mpr h.out) hk
theorem Sz.mulOk {a b : Int} {k l : Nat} (ha : Sz a k) (hb : Sz b l) (hk : k ≤ 2 ^ 20) (hl : l ≤ 2 ^ 20) : IntMulOk a b := .of_bits (Nat.le_trans ha.bits hk) (Nat.le_trans hb.bits hl)
theorem Sz.shlOk {a n : Int} {k : Nat} (ha : Sz a k) (hk : k ≤ 100000) (hn : n ≤ 100000) : (Builtin.Int.intBits a : Int) + n ≤ 2 ^ 27 := by
  have := ha.bits
  have e : (2 : Int) ^ 27 = 134217728 := by decide
  rw [e]; omega
/-- a mark at which the walk halts -/
def Brk (P : Prop) : Prop := P
theorem brk {P : Prop} (h : Brk P) : P := h
theorem unbrk {P : Prop} (h : P) : Brk P := h
theorem gen_int {M : Model} {A : Around} {E : Value → Shared → Prop} {s : Shared} {env : Env} {x : Str} {e : Int} {t : Tok} {Q : Unit → Shared → Prop} (h : ∀ v, v = e → wpAny M A (storeName env x (.int v t)) Q E s) : wpAny M A (storeName env x (.int e t)) Q E s := h e rfl
theorem allLt_news {h₀ h : Heap} {L : Addr} {news : List (Addr × Obj)} (N : News h₀ L h news) : AllLt h.objs.size news := allLt_of fun _ hp => Heap.lt_size (N _ hp).1
def mx0 (a : Int) : Int := if 0 > a then 0 else a
def iabs (n : Int) : Int := if n < 0 then -n else n
/-- the number of bits -/
def bl (x : Int) : Int := (Builtin.Int.intBits x : Int)
def p2 (k : Int) : Int := 2 ^ k.toNat
theorem p2_def (k : Int) : 2 ^ k.toNat = p2 k := rfl
theorem bl_def (x : Int) : (Builtin.Int.intBits x : Int) = bl x := rfl
theorem mx0_def (a : Int) : (if 0 > a then 0 else a) = mx0 a := rfl
theorem iabs_def (a : Int) : (if a < 0 then -a else a) = iabs a := rfl
theorem Sz.p2 {k : Int} {c : Nat} (h : k ≤ c) : Sz (p2 k) (c + 1) := ⟨by
  unfold Mine.p2
  rw [Int.natAbs_pow]
  exact Nat.pow_lt_pow_right (by decide) (by omega)⟩
theorem Sz.bl_le {a : Int} {k : Nat} (h : Sz a k) : bl a ≤ k := by unfold bl; exact Int.ofNat_le.mpr h.bits
theorem bl_nonneg (a : Int) : 0 ≤ bl a := Int.natCast_nonneg _
theorem Sz.iabs {a : Int} {k : Nat} (h : Sz a k) : Sz (iabs a) k := by
  unfold Mine.iabs; split
  · exact h.neg
  · exact h
theorem Sz.shl {a n : Int} {k : Nat} (ha : Sz a k) (hn : n ≤ 1000) : Sz (a * 2 ^ n.toNat) (k + 1001) := ha.mul ⟨by
  rw [Int.natAbs_pow]
  exact Nat.pow_lt_pow_right (by decide) (by omega)⟩
theorem Sz.pow10 {n : Int} (hn : n ≤ 400) : Sz (10 ^ n.toNat) 1601 := (Sz.pow (a := 10) (k := 4) ⟨by decide⟩ n.toNat).le (by omega)
theorem Sz.pow2 {n : Int} (hn : n ≤ 1000) : Sz (2 ^ n.toNat) 1001 := ⟨by
  rw [Int.natAbs_pow]
  exact Nat.pow_lt_pow_right (by decide) (by omega)⟩
theorem Sz.ite {c : Prop} [Decidable c] {a b : Int} {k l : Nat} (ha : Sz a k) (hb : Sz b l) : Sz (if c then a else b) (max k l) := by
  split
  · exact ha.le (Nat.le_max_left _ _)
  · exact hb.le (Nat.le_max_right _ _)
theorem mul_pow2_pos {a : Int} (h : 0 < a) (n : Nat) : 0 < a * 2 ^ n := Int.mul_pos h (Int.pow_pos (by decide))
theorem mul_pow10_pos {a : Int} (h : 0 < a) (n : Nat) : 0 < a * 10 ^ n := Int.mul_pos h (Int.pow_pos (by decide))
theorem Sz.shl2 {a n : Int} {k : Nat} (hn : n ≤ 1000) (ha : Sz a k) : Sz (a * 2 ^ n.toNat) (k + 1001) := ha.shl hn
theorem Sz.fdiv2 {a b : Int} {k : Nat} (hb : 0 < b) (ha : Sz a k) : Sz (a.fdiv b) (k + 1) := ha.fdiv hb
theorem allNe_of {d : Addr} {l : List (Addr × Obj)} (h : AllLt d l) : ∀ p ∈ l, p.1 ≠ d := by
  induction l with
  | nil => intro p hp; cases hp
  | cons a r ih =>
    intro p hp
    rcases List.mem_cons.mp hp with e | e
    · subst e; exact Nat.ne_of_lt h.1
    · exact ih h.2 p e
theorem news_tail {h₀ h : Heap} {L : Addr} {a : Addr × Obj} {l : List (Addr × Obj)} (N : News h₀ L h (a :: l)) : News h₀ L h l := fun p hp => N p (List.mem_cons_of_mem _ hp)
theorem gen_call1 {M : Model} {A : Around} {E : Value → Shared → Prop} {s : Shared} {f : Value} {e : Int} {t : Tok} {Q : Value → Shared → Prop} (h : ∀ v, v = e → wpAny M A (call f [.int v t]) Q E s) : wpAny M A (call f [.int e t]) Q E s := h e rfl
theorem gen_str {M : Model} {A : Around} {E : Value → Shared → Prop} {s : Shared} {env : Env} {x : Str} {e : Str} {t : Tok} {Q : Unit → Shared → Prop} (h : ∀ v, v = e → wpAny M A (storeName env x (.str v t)) Q E s) : wpAny M A (storeName env x (.str e t)) Q E s := h e rfl
theorem Sz.shown {a : Int} {k : Nat} (h : Sz a k) (hk : k ≤ 1920) : a.natAbs.log2 < 1920 := by
  by_cases h0 : a.natAbs = 0
  · rw [h0]; decide +kernel
  · exact Nat.lt_of_lt_of_le ((Nat.log2_lt h0).mpr h.out) hk
theorem ipow (a k : Nat) : (a : Int) ^ k = ((a ^ k : Nat) : Int) := (Int.natCast_pow a k).symm
theorem pow10_le {a b : Nat} (h : a ≤ b) : (10 : Int) ^ a ≤ 10 ^ b := by
  have e := ipow 10 a
  have e' := ipow 10 b
  have := Nat.pow_le_pow_right (n := 10) (by decide) h
  simp only [Int.cast_ofNat_Int] at e e'
  rw [e, e']; exact Int.ofNat_le.mpr this
theorem pow10_7 {k : Int} (hk : k ≤ 7) : (10 : Int) ^ k.toNat ≤ 10000000 :=
  Int.le_trans (pow10_le (b := 7) (by omega)) (by decide)
theorem pow10_pos (k : Nat) : (0 : Int) < 10 ^ k := Int.pow_pos (by decide)
theorem pow10_lt {a b : Nat} (h : a < b) : (10 : Int) ^ a < 10 ^ b := by
  have e := ipow 10 a
  have e' := ipow 10 b
  have := Nat.pow_lt_pow_right (a := 10) (by decide) h
  simp only [Int.cast_ofNat_Int] at e e'
  rw [e, e']; exact Int.ofNat_lt.mpr this
theorem Sz.of10 {W : Int} (h0 : 0 ≤ W) (h1 : W < 10000000) : Sz W 64 := ⟨by omega⟩
/-- an int's text -/
def dtx (n : Int) : Str := Str.ofString (toString n)
theorem gentk {α : Type} {M : Model} {A : Around} {E : Value → Shared → Prop} {t : Sem α} {Q : α → Shared → Prop} {s : Shared} {X : Nat} (h : ∀ tk, wpAny M A t Q E { s with toks := tk }) : wpAny M A t Q E { s with toks := X } := h X
section
/-- the digits' codes -/
def dg10 (m : Nat) : List Nat := (Nat.toDigits 10 m).map Char.toNat
theorem dtx_nat (m : Nat) : (dtx (m : Int)).cps.toList = dg10 m := KIN.signs_num m
theorem dg10_all {m c : Nat} (h : c ∈ dg10 m) : 48 ≤ c ∧ c ≤ 57 := by
  obtain ⟨ch, hch, e⟩ := List.mem_map.mp h
  have r := digit_range (Nat.isDigit_of_mem_toDigits (by decide) (by decide) hch)
  rw [← e]
  exact r
theorem dg10_le {k m : Nat} (hk : 1 ≤ k) (h : m < 10 ^ k) : (dg10 m).length ≤ k := by
  unfold dg10; rw [List.length_map]; exact digits10_le hk h
theorem dg10_ge {k m : Nat} (h : 10 ^ k ≤ m) : k + 1 ≤ (dg10 m).length := by
  unfold dg10; rw [List.length_map]; exact digits10_ge h
theorem dg10_pos (m : Nat) : 1 ≤ (dg10 m).length := by
  unfold dg10; rw [List.length_map]; exact tDigits_len_ge 10 m
theorem dg10_val (m : Nat) : NumText.digitsVal (dg10 m) = m := KIN.val_back m
theorem dtx_neg {m : Nat} (h : 0 < m) : (dtx (-(m : Int))).cps.toList = 45 :: dg10 m := by
  obtain ⟨k, rfl⟩ : ∃ k, m = k + 1 := ⟨m - 1, by omega⟩
  unfold dtx dg10
  rw [signs_ofString]
  show (("-" ++ Nat.repr (k + 1) : String)).toList.map Char.toNat = _
  rw [String.toList_append, List.map_append, Nat.toList_repr]
  rfl
theorem str_len_list (x : Str) : x.length = x.cps.toList.length := Array.length_toList.symm
theorem dtx_len (m : Nat) : (dtx (m : Int)).length = (dg10 m).length := by rw [str_len_list, dtx_nat]
theorem dtx_ascii (m : Nat) : (dtx (m : Int)).cps.all (· < 128) = true := by
  rw [← Array.all_toList, dtx_nat, List.all_eq_true]
  intro c hc
  have := dg10_all hc
  exact decide_eq_true (by omega)
/-- one digit read -/
theorem one_digit : ∀ c : Nat, c < 58 → 48 ≤ c → PySem.intText? ⟨#[c]⟩ = some ((c : Int) - 48) := by
  intro c h1 h2
  have e := intText_digits (x := ⟨#[c]⟩) (fun d hd => by
    have : d = c := by simpa using hd
    omega) (by simp) (by show 1 ≤ 4300; decide)
  rw [e]
  show some (((0 * 10 + (c - 48) : Nat)) : Int) = _
  congr 1
  omega
theorem dtx_le {W dg : Int} (h0 : 0 ≤ W) (hg0 : 0 ≤ dg) (h1 : W < 10 ^ (dg + 1).toNat) : ((dtx W).length : Int) ≤ dg + 1 := by
  have e : W = ((W.natAbs : Nat) : Int) := by omega
  have e2 := ipow 10 (dg + 1).toNat
  simp only [Int.cast_ofNat_Int] at e2
  rw [e2] at h1
  have h2 : W.natAbs < 10 ^ (dg + 1).toNat := by omega
  have := dg10_le (k := (dg + 1).toNat) (m := W.natAbs) (by omega) h2
  rw [e, dtx_len]
  omega
theorem zfill_len' {W dg : Int} (h0 : 0 ≤ W) (hg0 : 0 ≤ dg) (h1 : W < 10 ^ (dg + 1).toNat) : ((Txt.zfill (dtx W) (dg + 1)).length : Int) = dg + 1 := by
  have h2 := dtx_le h0 hg0 h1
  rw [len_zfill]
  split
  · rfl
  · rename_i h
    simp only [decide_eq_true_eq] at h
    omega
theorem rjust_len' {W dg : Int} (h0 : 0 ≤ W) (hg0 : 0 ≤ dg) (h1 : W < 10 ^ (dg + 1).toNat) (c : Nat) : ((Txt.rjustF (dtx W) (dg + 1) c).length : Int) = dg + 1 := by
  have h2 := dtx_le h0 hg0 h1
  rw [str_len_list, rjustF_list, List.length_append, List.length_replicate, ← str_len_list]
  omega
end
section
theorem fresh_MRound : True := by
  w_top off
  trivial
local macro_rules | `(tactic| walk_at "my sz") => `(tactic| (repeat' (first | with_reducible assumption | (with_reducible apply Sz.shl2; focus omega) | (with_reducible apply Sz.pow2; omega) | (with_reducible apply Sz.pow10; omega) | (with_reducible apply Sz.mul) | (with_reducible apply Sz.add) | (with_reducible apply Sz.sub) | (with_reducible apply Sz.neg) | (with_reducible apply Sz.ite) | (with_reducible apply Sz.pow) | (with_reducible apply Sz.fmod; focus assumption) | (with_reducible apply Sz.fdiv2; focus assumption) | exact Sz.mk (k := 64) (by decide))))
local macro_rules | `(tactic| walk_at "binaryOp Mult int int") => `(tactic| (k_here; (with_reducible show wpAny _ _ (binaryOp Operator.Mult (Value.int _ _) (Value.int _ _)) _ _ _); (refine mul_int (hm := Sz.mulOk (by walk_at "my sz") (by walk_at "my sz") (by decide) (by decide)) ?_)))
local macro_rules | `(tactic| walk_at "call builtin:divmod") => `(tactic| (k_here; (with_reducible show wpAny _ _ (call (Value.builtin "divmod") [Value.int _ _, Value.int _ _]) _ _ _); (refine divmod_N (by k_asm) (by k_asm) (by first | assumption | omega) ?_ (hp := Or.inl (Sz.noPylong (by walk_at "my sz") (by decide)))); intro _ _ _))
local macro_rules | `(tactic| walk_at "my room") => `(tactic| ((try simp only [depth_under_make, depth_under_kw, depth_in1, depth_deeper, depth_caller]); (try dsimp only [ktrTop, Around.deeper, Around.in1]); (rename _ + _ < recursionLimit => hdp9); omega))
local macro_rules | `(tactic| walk_at "my units") => `(tactic| ((try simp only [units_under_make, units_in1, units_deeper, Around.mark_units, units_caller]); (try dsimp only [ktrTop, Around.deeper, Around.in1]); (rename _ + _ < cLine => hun9); omega))
local macro_rules | `(tactic| walk_at "my enter") => `(tactic| (refine' code_def ?k1 ?k2 ?k3 ?k4 ?k5 ?kA ?kF ?kK ?k6 ?k7 ?k8 ?k9 ?kB ?_ ?c2 ?c3 ?c4 ?c5; (case kA => exact rfl); (case kF => exact rfl); (case kK => first | exact rfl | assumption); (case k1 => k_asm); (case k2 => k_asm); (case k3 => k_asm); (case k4 => k_asm); (case k5 => k_asm); (case k6 => k_is); (case k7 => k_is); (case k8 => walk_at "my room"); (case k9 => first | exact BindsTo.of_eq rfl | exact binds_K (by k_in) rfl (by k_is) rfl rfl rfl); (case c5 => decide); (case kB => exact locs rfl); (case c2 => exact rfl); (case c3 => exact rfl); (case c4 => exact rfl); k_whole; intro g' L' h' FG' F' N' B' X' T'; (try dsimp only); (try k_lift B'); (try k_fold)))
local macro_rules | `(tactic| walk_at "binaryOp LShift int int") => `(tactic| (k_here; (with_reducible show wpAny _ _ (binaryOp Operator.LShift (Value.int _ _) (Value.int _ _)) _ _ _); (refine lshift_int (by omega) (Sz.shlOk (by walk_at "my sz") (by decide) (by omega)) ?_)))
local macro_rules | `(tactic| walk_at "binaryOp Pow int int") => `(tactic| (k_here; (with_reducible show wpAny _ _ (binaryOp Operator.Pow (Value.int _ _) (Value.int _ _)) _ _ _); (refine' pow_int_small ?lsN ?lsZ ?lsA ?_; (case lsN => omega); (case lsZ => omega); (case lsA => decide))))
local macro_rules | `(tactic| k_all) => `(tactic| exact allNe_of (by assumption))
def rnd (n d : Int) : Int := if 2 * n.fmod d > d ∨ (2 * n.fmod d = d ∧ (n.fdiv d).fmod 2 = 1) then n.fdiv d + 1 else n.fdiv d

theorem Sz.rnd2 {n d : Int} {k : Nat} (hd : 0 < d) (hn : Sz n k) : Sz (rnd n d) (k + 66) := by
  have h1 : Sz (n.fdiv d) (k + 1) := hn.fdiv hd
  unfold rnd
  split
  · exact (h1.add (b := 1) (l := 1) ⟨by decide⟩).le (by omega)
  · exact h1.le (by omega)
theorem rounded_ok {w : World} {p : Program} {loose : List Str} {mean : ExcName → Option Value} {mg mb : Str → Option Value} {news : List (Addr × Obj)} (n d : Int) (tn td : Tok) (hd : 0 < d) (hsd : Sz d 8000) :
    FnC w p loose mean mg mb 21 news 1 8 [.int n tn, .int d td] fun h₀ L m s Q => CbRet h₀ L m news s Q (fun t => .int (rnd n d) t) := by
  unfold FnC
  k_fill
  intro dp un gd cn cs a ccd cl outer A₀ base h₀ L m s Q E B F X N T hk hdp hun hret
  refine wpAny_call ?_
  k_dflt (walk_at "my enter")
  k_steps
  all_goals (refine' cb_retI hret ?e1 ?e2 ?e3; (case e2 => k_asm); (case e3 => (refine' cb_drop ?cbN ?cbS; (case cbN => assumption); (case cbS => kcj_all))); (case e1 => (unfold rnd; split <;> omega)))
end
local macro_rules | `(tactic| walk_at "my sz") => `(tactic| (repeat' (first | with_reducible assumption | (with_reducible apply Sz.shl2; focus omega) | (with_reducible apply Sz.pow2; omega) | (with_reducible apply Sz.pow10; omega) | (with_reducible apply Sz.mul) | (with_reducible apply Sz.add) | (with_reducible apply Sz.sub) | (with_reducible apply Sz.neg) | (with_reducible apply Sz.ite) | (with_reducible apply Sz.pow) | (with_reducible apply Sz.fmod; focus assumption) | (with_reducible apply Sz.fdiv2; focus assumption) | (with_reducible apply Sz.rnd2; focus (first | assumption | exact mul_pow2_pos (by assumption) _ | exact mul_pow10_pos (by assumption) _)) | exact Sz.mk (k := 64) (by decide))))
local macro_rules | `(tactic| walk_at "binaryOp Mult int int") => `(tactic| (k_here; (with_reducible show wpAny _ _ (binaryOp Operator.Mult (Value.int _ _) (Value.int _ _)) _ _ _); (refine mul_int (hm := Sz.mulOk (by walk_at "my sz") (by walk_at "my sz") (by decide) (by decide)) ?_)))
local macro_rules | `(tactic| walk_at "call builtin:divmod") => `(tactic| (k_here; (with_reducible show wpAny _ _ (call (Value.builtin "divmod") [Value.int _ _, Value.int _ _]) _ _ _); (refine divmod_N (by k_asm) (by k_asm) (by first | assumption | exact Int.ne_of_gt (mul_pow2_pos (by decide) _) | omega) ?_ (hp := Or.inl (Sz.noPylong (by walk_at "my sz") (by decide)))); intro _ _ _))
local macro_rules | `(tactic| walk_at "my room") => `(tactic| ((try simp only [depth_under_make, depth_under_kw, depth_in1, depth_deeper, depth_caller]); (try dsimp only [ktrTop, Around.deeper, Around.in1]); (rename _ + _ < recursionLimit => hdp9); omega))
local macro_rules | `(tactic| walk_at "my units") => `(tactic| ((try simp only [units_under_make, units_in1, units_deeper, Around.mark_units, units_caller]); (try dsimp only [ktrTop, Around.deeper, Around.in1]); (rename _ + _ < cLine => hun9); omega))
local macro_rules | `(tactic| walk_at "my enter") => `(tactic| (refine' code_def ?k1 ?k2 ?k3 ?k4 ?k5 ?kA ?kF ?kK ?k6 ?k7 ?k8 ?k9 ?kB ?_ ?c2 ?c3 ?c4 ?c5; (case kA => exact rfl); (case kF => exact rfl); (case kK => first | exact rfl | assumption); (case k1 => k_asm); (case k2 => k_asm); (case k3 => k_asm); (case k4 => k_asm); (case k5 => k_asm); (case k6 => k_is); (case k7 => k_is); (case k8 => walk_at "my room"); (case k9 => first | exact BindsTo.of_eq rfl | exact binds_K (by k_in) rfl (by k_is) rfl rfl rfl); (case c5 => decide); (case kB => exact locs rfl); (case c2 => exact rfl); (case c3 => exact rfl); (case c4 => exact rfl); k_whole; intro g' L' h' FG' F' N' B' X' T'; (try dsimp only); (try k_lift B'); (try k_fold)))
local macro_rules | `(tactic| walk_at "binaryOp LShift int int") => `(tactic| (k_here; (with_reducible show wpAny _ _ (binaryOp Operator.LShift (Value.int _ _) (Value.int _ _)) _ _ _); (refine lshift_int (by omega) (Sz.shlOk (by walk_at "my sz") (by decide) (by omega)) ?_)))
local macro_rules | `(tactic| walk_at "binaryOp Pow int int") => `(tactic| (k_here; (with_reducible show wpAny _ _ (binaryOp Operator.Pow (Value.int _ _) (Value.int _ _)) _ _ _); (refine' pow_int_small ?lsN ?lsZ ?lsA ?_; (case lsN => omega); (case lsZ => omega); (case lsA => decide))))
local macro_rules | `(tactic| k_all) => `(tactic| exact allNe_of (by assumption))
local macro_rules | `(tactic| k_mem) => `(tactic| assumption)
local macro_rules | `(tactic| walk_at "my call") => `(tactic| (first
  | (refine' call_meth ?k1 ?k2 ?_; (case k1 => k_asm); (case k2 => k_mem); k_whole; walk_at "my enter")
  | (refine wpAny_call ?_; walk_at "my enter")))
local macro_rules | `(tactic| walk_at "call ref") => `(tactic| (k_here; k_dflt (walk_at "my call")))
local macro_rules | `(tactic| walk_at "my steps") => `(tactic| repeat' (first | (k_unfold; (try dsimp only)) | walk1 | (dsimp only; walk1) | fail "no step"))
local macro_rules | `(tactic| walk_at "execs cons") => `(tactic| (k_here; (with_reducible show wpAny _ _ (execs _ _) _ _ (Shared.mk _ _ _ (_ + 1) _)); k_dflt (refine gentk (s := Shared.mk _ _ _ 0 _) ?_); intro tk; (try dsimp only)))
local macro_rules | `(tactic| walk_at "execs nil") => `(tactic| (k_here; (with_reducible show wpAny _ _ (execs _ _) _ _ (Shared.mk _ _ _ (_ + 1) _)); k_dflt (refine gentk (s := Shared.mk _ _ _ 0 _) ?_); intro tk; (try dsimp only)))
section
theorem fresh_MNear : True := by
  w_top off
  trivial
def shA (n d : Int) : Int := if 1074 < 53 - bl (iabs n) + bl d then 1074 else 53 - bl (iabs n) + bl d
def shF (n d : Int) : Int := if iabs n * 2 ^ (mx0 (shA n d)).toNat ≥ d * 2 ^ (mx0 (-(shA n d)) + 53).toNat then shA n d - 1 else shA n d
def whl (n d : Int) : Int := rnd (n * 2 ^ (mx0 (shF n d)).toNat) (d * 2 ^ (mx0 (-(shF n d))).toNat)
def nrN (n d : Int) : Int := whl n d * 2 ^ (mx0 (-(shF n d))).toNat
def nrD (n d : Int) : Int := 1 * 2 ^ (mx0 (shF n d)).toNat
theorem shA_bd {n d : Int} (hn : Sz n 700) (hd : Sz d 700) : -700 ≤ shA n d ∧ shA n d ≤ 760 := by
  have := hn.iabs.bl_le
  have := hd.bl_le
  have := bl_nonneg (iabs n)
  have := bl_nonneg d
  unfold shA
  omega
local macro_rules | `(tactic| walk_at "call ref") => `(tactic| (k_here; (with_reducible show wpAny _ _ (call (Value.ref 21) [Value.int _ _, Value.int _ _]) _ _ _); k_dflt (refine' rounded_ok _ _ _ _ ?hd9 ?hsd9 _ _ _ _ _ _ _ _ _ _ _ _ _ _ _ _ _ ?k1 ?k2 ?k3 ?k4 ?k5 ?kK ?kd9 ?ku9 ?_; (case k1 => k_asm); (case k2 => k_asm); (case k3 => k_asm); (case k4 => k_asm); (case k5 => k_asm); (case kK => first | exact rfl | assumption); (case hd9 => exact mul_pow2_pos (by assumption) _); (case hsd9 => exact Sz.le (by walk_at "my sz") (by decide)); (case kd9 => walk_at "my room"); (case ku9 => walk_at "my units")); (intro t9 h9 tk9 F9 N9; (try dsimp only); (try k_fold))))
local macro_rules | `(tactic| walk_at "exec Raise") => `(tactic| (k_here; refine brk ?_))
local macro_rules | `(tactic| walk_at "storeName") => `(tactic| (k_here; (with_reducible show wpAny _ _ (storeName _ (Str.ofString "shift") (Value.int _ _)) _ _ _); refine brk ?_))
theorem nearest_ok {w : World} {p : Program} {loose : List Str} {mean : ExcName → Option Value} {mg mb : Str → Option Value} {news : List (Addr × Obj)} (n d : Int) (tn td : Tok) (hd : 0 < d) (hn : Sz n 700) (hsd : Sz d 700) (hov : ¬ 1 * 2 ^ Int.toNat 1024 ≤ iabs (whl n d) * 2 ^ (mx0 (-(shF n d))).toNat) :
    FnC w p loose mean mg mb 28 news 2 16 [.int n tn, .int d td] fun h₀ L m s Q => ∀ (D : Addr) (t1 t2 : Tok) (c : Nat) (h' : Heap) (tk' : Nat), Fr h₀ L h' m → News h₀ L h' ((D, ({ cls := .type "tuple", data := .seq #[.int (nrN n d) t1, .int (nrD n d) t2] c } : Obj)) :: news) → AllLt D news → Q (.ref D) { s with heap := h', toks := tk' } := by
  unfold FnC
  k_fill
  intro dp un gd cn cs a ccd cl outer A₀ base h₀ L m s Q E B F X N T hk hdp hun hret
  refine wpAny_call ?_
  k_dflt (walk_at "my enter")
  k_steps
  unfold Brk
  refine gen_int ?_
  intro sh hsh
  replace hsh : sh = shA n d := hsh
  k_dflt (refine storeX_L (by k_asm) (by k_asm) ?_ (by rfl) (by rfl)); intro h' F' N'; (try k_sweep)
  have hb1 : -700 ≤ sh ∧ sh ≤ 760 := hsh ▸ shA_bd hn hsd
  k_steps
  · rename _ ≤ _ => hc
    unfold Brk
    refine gen_int ?_
    intro sf hsf
    have hb2 : -701 ≤ sf ∧ sf ≤ 760 := by omega
    have hF : sf = shF n d := by
      rw [hsf]; unfold shF; rw [if_pos (by rw [← hsh]; exact hc), hsh]
    clear hsf
    k_dflt (refine storeX_L (by k_asm) (by k_asm) ?_ (by rfl) (by rfl)); intro h' F' N'; (try k_sweep)
    k_steps
    · subst hF; exact absurd (by assumption) hov
    · subst hF
      exact hret _ _ _ _ _ _ (by k_asm) (by k_asm) (allLt_of (by assumption))
  · have hF : sh = shF n d := by
      unfold shF; rw [if_neg (by rw [← hsh]; assumption), hsh]
    subst hF; exact absurd (by assumption) hov
  · have hF : sh = shF n d := by
      unfold shF; rw [if_neg (by rw [← hsh]; assumption), hsh]
    subst hF
    exact hret _ _ _ _ _ _ (by k_asm) (by k_asm) (allLt_of (by assumption))
end
section
local macro_rules | `(tactic| walk_at "dummy 1") => `(tactic| skip)
local macro_rules | `(tactic| walk_at "dummy 2") => `(tactic| skip)
local macro_rules | `(tactic| walk_at "dummy 3") => `(tactic| skip)
local macro_rules | `(tactic| walk_at "dummy 4") => `(tactic| skip)
theorem fresh_MDbl : True := by
  w_top off
  trivial
/-- what a Double's dict holds -/
abbrev dblDict (w : World) (k1 k2 : Tok) (n d : Int) (t1 t2 : Tok) : Obj := dictOf [⟨PyData.keyHash w.params (Str.ofString "n"), .str (Str.ofString "n") k1, .int n t1⟩, ⟨PyData.keyHash w.params (Str.ofString "d"), .str (Str.ofString "d") k2, .int d t2⟩] 2
def dbN (n d : Int) : Int := if n = 0 then n else nrN n d
def dbD (n d : Int) : Int := if n = 0 then d else nrD n d
local macro_rules | `(tactic| walk_at "call ref") => `(tactic| (k_here; (with_reducible show wpAny _ _ (call (Value.ref 28) [Value.int _ _, Value.int _ _]) _ _ _); k_dflt (refine' nearest_ok _ _ _ _ ?hd9 ?hn9 ?hsd9 ?hov9 _ _ _ _ _ _ _ _ _ _ _ _ _ _ _ _ _ ?k1 ?k2 ?k3 ?k4 ?k5 ?kK ?kd9 ?ku9 ?_; (case k1 => k_asm); (case k2 => k_asm); (case k3 => k_asm); (case k4 => k_asm); (case k5 => k_asm); (case kK => first | exact rfl | assumption); (case hd9 => assumption); (case hn9 => assumption); (case hsd9 => assumption); (case hov9 => assumption); (case kd9 => walk_at "my room"); (case ku9 => walk_at "my units")); (intro D9 t9 u9 c9 h9 tk9 F9 N9 l9; (try simp only [AllLt, and_true] at l9); (try dsimp only); (try k_fold))))
local macro_rules | `(tactic| walk_at "call ref") => `(tactic| (k_here; (with_reducible show wpAny _ _ (call (Value.ref 109) _) _ _ _); k_dflt (refine' call_cls ?k1 ?k2 ?k3 ?k4 ?k5 ?k6 ?_; (case k1 => k_asm); (case k2 => k_asm); (case k3 => k_asm); (case k4 => k_is); (case k5 => k_is); (case k6 => k_is); k_whole; intro x' d' h' F' N' l1 l2; (try k_lt l1); (try k_lt2 l2); (try k_sweep); walk_at "my enter")))
theorem double_new {w : World} {p : Program} {loose : List Str} {mean : ExcName → Option Value} {mg mb : Str → Option Value} {news : List (Addr × Obj)} (n d : Int) (tn td : Tok) (hd : 0 < d) (hn : Sz n 700) (hsd : Sz d 700) (hov : ¬ 1 * 2 ^ Int.toNat 1024 ≤ iabs (whl n d) * 2 ^ (mx0 (-(shF n d))).toNat) :
    FnC w p loose mean mg mb 109 news 5 40 [.int n tn, .int d td] fun h₀ L m s Q => ∀ (x dx : Addr) (k1 k2 t1 t2 : Tok) (h' : Heap) (tk' : Nat), Fr h₀ L h' m → News h₀ L h' ((x, instObj 109 dx) :: (dx, dblDict w k1 k2 (dbN n d) (dbD n d) t1 t2) :: news) → Q (.ref x) { s with heap := h', toks := tk' } := by
  unfold FnC
  k_fill
  intro dp un gd cn cs a ccd cl outer A₀ base h₀ L m s Q E B F X N T hk hdp hun hret
  k_steps
  · have e1 : dbN n d = n := if_pos (by assumption)
    have e2 : dbD n d = d := if_pos (by assumption)
    rw [e1, e2] at hret
    exact hret _ _ _ _ _ _ _ _ (by k_asm) (news_tail (by assumption))
  · exfalso; omega
  · have e1 : dbN n d = nrN n d := if_neg (by assumption)
    have e2 : dbD n d = nrD n d := if_neg (by assumption)
    rw [e1, e2] at hret
    exact hret _ _ _ _ _ _ _ _ (by k_asm) (news_tail (by assumption))
end
section
/-- a turn of a while that turns one int name -/
def IntStep (h₀ : Heap) (L : Addr) (s : Shared) (m : Str → Option Value) (i : Str) (news : List (Addr × Obj)) (I : Int → Prop) (μ : Int → Nat) (n : Nat) (f : Flow) (s₃ : Shared) : Prop :=
  f = .next ∧ ∃ h' tk k' t', s₃ = { s with heap := h', toks := tk } ∧ Fr h₀ L h' (bindM m i (some (.int k' t'))) ∧ News h₀ L h' news ∧ I k' ∧ μ k' < n
theorem IntStep.intro {h₀ h' : Heap} {L : Addr} {s : Shared} {m : Str → Option Value} {i : Str} {news : List (Addr × Obj)} {I : Int → Prop} {μ : Int → Nat} {n tk : Nat} {k' : Int} {t' : Tok} {vl : Option Value}
    (F : Fr h₀ L h' (fun x => if x = i then some (.int k' t') else bindM m i vl x)) (N : News h₀ L h' news) (hI : I k') (hm : μ k' < n) : IntStep h₀ L s m i news I μ n .next { s with heap := h', toks := tk } :=
  ⟨rfl, h', tk, k', t', rfl, bindM_bind ▸ F, N, hI, hm⟩
theorem While_int {prog : Program} {w : World} {A : Around} {E : Value → Shared → Prop} {Q : Flow → Shared → Prop} {s : Shared} {env : Env} {h₀ : Heap} {L : Addr} {test : Expr} {body : List Stmt} {pos : Pos} {m : Str → Option Value} {news : List (Addr × Obj)} {k₀ : Int} {t₀ : Tok}
    (i : Str) (I : Int → Prop) (μ : Int → Nat) (F : Fr h₀ L s.heap m) (N : News h₀ L s.heap news) (hmi : m i = some (.int k₀ t₀)) (h0 : I k₀)
    (turn : ∀ k t h₁ tk₁, I k → Fr h₀ L h₁ (bindM m i (some (.int k t))) → News h₀ L h₁ news →
      wpAny (model prog w) A (isTrue test env (eval test env)) (fun b s₂ =>
        if b = true then wpAny (model prog w) A (execs body env) (IntStep h₀ L s m i news I μ (μ k)) (fun _ _ => False) s₂ else Q .next s₂) (fun _ _ => False) { s with heap := h₁, toks := tk₁ }) :
    wpAny (model prog w) A (exec (.While test body [] pos) env) Q E s := by
  have hm0 : m = bindM m i (some (.int k₀ t₀)) := by rw [← hmi]; exact bindM_start m i
  refine wpAny_noRaise (While_inv (fun n m₁ news₁ => ∃ k t, I k ∧ m₁ = bindM m i (some (.int k t)) ∧ news₁ = news ∧ n = μ k) F N ⟨k₀, t₀, h0, hm0, rfl, rfl⟩ ?_ PassesOwn.never)
  rintro n m₁ news₁ h₁ tk₁ F₁ N₁ ⟨k, t, hI, rfl, rfl, rfl⟩
  refine wpAny_mono (turn k t h₁ tk₁ hI F₁ N₁) (fun b s₂ h₂ => ?_) fun _ _ e => e
  cases b with
  | false => exact h₂
  | true =>
    rw [if_pos rfl] at h₂ ⊢
    refine wpAny_mono h₂ (fun f s₃ h₃ => ?_) fun _ _ e => e
    obtain ⟨rfl, h', tk, k', t', rfl, F₃, N₃, hI', hlt⟩ := h₃
    exact WhileStep.intro F₃ N₃ hlt ⟨k', t', hI', rfl, rfl, rfl⟩
/-- the ten's power at or below n / d -/
def IsLog (n d k : Int) : Prop := d * 10 ^ k.toNat ≤ n * 10 ^ (-k).toNat ∧ n * 10 ^ (-(k + 1)).toNat < d * 10 ^ (k + 1).toNat
end
section
local macro_rules | `(tactic| walk_at "dummy 5") => `(tactic| skip)
local macro_rules | `(tactic| walk_at "dummy 6") => `(tactic| skip)
local macro_rules | `(tactic| walk_at "dummy 7") => `(tactic| skip)
local macro_rules | `(tactic| walk_at "dummy 8") => `(tactic| skip)
local macro_rules | `(tactic| walk_at "dummy 9") => `(tactic| skip)
local macro_rules | `(tactic| walk_at "dummy 10") => `(tactic| skip)
local macro_rules | `(tactic| walk_at "dummy 11") => `(tactic| skip)
theorem fresh_MLog : True := by
  w_top off
  trivial
theorem log_of_up {n d k : Int} (hk : 0 < k) (h1 : d * 10 ^ k.toNat ≤ n) (h2 : n < d * 10 ^ (k + 1).toNat) : IsLog n d k := by
  have e1 : (-k).toNat = 0 := by omega
  have e2 : (-(k + 1)).toNat = 0 := by omega
  unfold IsLog
  rw [e1, e2, Int.pow_zero, Int.mul_one]
  exact ⟨h1, h2⟩
theorem log_of_dn {n d k : Int} (hk : k < 0) (h1 : d ≤ n * 10 ^ (-k).toNat) (h2 : n * 10 ^ (-(k + 1)).toNat < d) : IsLog n d k := by
  have e1 : k.toNat = 0 := by omega
  have e2 : (k + 1).toNat = 0 := by omega
  unfold IsLog
  rw [e1, e2, Int.pow_zero, Int.mul_one]
  exact ⟨h1, h2⟩
theorem log_of_0 {n d k : Int} (hk : k = 0) (h1 : d ≤ n * 10 ^ (-k).toNat) (h2 : n < d * 10 ^ (k + 1).toNat) : IsLog n d k := by
  subst hk
  refine ⟨by simpa using h1, ?_⟩
  simpa using h2
local macro_rules | `(tactic| walk_at "exec While") => `(tactic| (k_here; refine brk ?_))
local macro_rules | `(tactic| walk_at "exec While BoolOp") => `(tactic| (k_here; refine brk ?_))
theorem whole_log_ok {w : World} {p : Program} {loose : List Str} {mean : ExcName → Option Value} {mg mb : Str → Option Value} {news : List (Addr × Obj)} {x dx : Addr} {k1 k2 t1 t2 tb : Tok} (n d : Int) (hd : 0 < d) (hn : Sz n 2000) (hsd : Sz d 2000)
    (hx : (x, instObj 109 dx) ∈ news) (hdx : (dx, dblDict w k1 k2 n d t1 t2) ∈ news) (hup : n < d * 10 ^ (309 : Int).toNat) (hdn : d ≤ n * 10 ^ (-(-200 : Int)).toNat) :
    FnC w p loose mean mg mb 160 news 2 16 [.ref x, .int 10 tb] fun h₀ L m s Q => ∀ (k : Int) (t : Tok) (h' : Heap) (tk' : Nat), IsLog n d k → -200 ≤ k → k ≤ 309 → Fr h₀ L h' m → News h₀ L h' news → Q (.int k t) { s with heap := h', toks := tk' } := by
  unfold FnC
  k_fill
  intro dp un gd cn cs a ccd cl outer A₀ base h₀ L m s Q E B F X N T hk hdp hun hret
  refine wpAny_call ?_
  k_dflt (walk_at "my enter")
  k_steps
  unfold Brk
  k_dflt (refine While_int (Str.ofString "k") (fun k => 0 ≤ k ∧ k ≤ 309 ∧ (0 < k → d * 10 ^ k.toNat ≤ n)) (fun k => (309 - k).toNat) (by k_asm) (by k_asm) (by rfl) (by omega) ?_)
  intro k t h₁ tk₁ hI F₁ N₁
  k_sweep
  obtain ⟨hI0, hI1, hI2⟩ := hI
  k_steps
  · with_unfolding_all exact IntStep.intro (by assumption) (by assumption) ⟨by omega, by omega, fun _ => by assumption⟩ (by show (309 - (k + 1)).toNat < (309 - k).toNat; omega)
  · rename ¬ _ ≤ _ => hge
    have hlt : n < d * 10 ^ (k + 1).toNat := Int.not_le.mp hge
    unfold Brk
    k_dflt (refine While_int (Str.ofString "k") (fun j => j ≤ k ∧ -200 ≤ j ∧ (j < 0 → n * 10 ^ (-(j + 1)).toNat < d) ∧ (0 ≤ j → j = k)) (fun j => (j + 200).toNat) (by k_asm) (by k_asm) (by rfl) ⟨Int.le_refl _, by omega, fun h => absurd h (by omega), fun _ => rfl⟩ ?_)
    intro j tj h₁ tk₁ hJ F₁ N₁
    k_sweep
    obtain ⟨hJ0, hJ1, hJ2, hJ3⟩ := hJ
    k_steps
    · rename _ < d => hlo
      have hj2 : -200 < j := by
        rcases Int.lt_or_le (-200) j with q | q
        · exact q
        · have e : j = -200 := by omega
          subst e
          exact absurd hdn (Int.not_le.mpr hlo)
      have e1 : -(j - 1 + 1) = -j := by omega
      with_unfolding_all exact IntStep.intro (by assumption) (by assumption) ⟨by omega, by omega, fun _ => by rw [e1]; exact hlo, fun h => absurd h (by omega)⟩ (by show (j - 1 + 200).toNat < (j + 200).toNat; omega)
    · rename ¬ _ < d => hlo
      have hge2 : d ≤ n * 10 ^ (-j).toNat := Int.not_lt.mp hlo
      have hlog : IsLog n d j := by
        rcases Int.lt_or_le j 0 with q | q
        · exact log_of_dn q hge2 (hJ2 q)
        · have e : j = 0 := by omega
          have e2 : j = k := hJ3 q
          rw [← e2] at hlt
          exact log_of_0 e hge2 hlt
      exact hret _ _ _ _ hlog hJ1 (by omega) (by k_asm) (news_tail (by assumption))
    · have e2 : j = k := hJ3 (by omega)
      have hlog : IsLog n d j := by
        rw [e2]; exact log_of_up (by omega) (hI2 (by omega)) hlt
      exact hret _ _ _ _ hlog hJ1 (by omega) (by k_asm) (news_tail (by assumption))
  · exfalso
    have e : k = 309 := by omega
    subst e
    exact absurd (hI2 (by decide)) (Int.not_le.mpr hup)
end
section
local macro_rules | `(tactic| walk_at "dummy 12") => `(tactic| skip)
local macro_rules | `(tactic| walk_at "dummy 13") => `(tactic| skip)
local macro_rules | `(tactic| walk_at "dummy 14") => `(tactic| skip)
local macro_rules | `(tactic| walk_at "dummy 15") => `(tactic| skip)
local macro_rules | `(tactic| walk_at "dummy 16") => `(tactic| skip)
local macro_rules | `(tactic| walk_at "dummy 17") => `(tactic| skip)
local macro_rules | `(tactic| walk_at "dummy 18") => `(tactic| skip)
local macro_rules | `(tactic| walk_at "dummy 19") => `(tactic| skip)
local macro_rules | `(tactic| walk_at "dummy 20") => `(tactic| skip)
local macro_rules | `(tactic| walk_at "dummy 21") => `(tactic| skip)
theorem fresh_MMant : True := by
  w_top off
  trivial
def mWhole (n d dg ten : Int) : Int := rnd (iabs n * 10 ^ (mx0 (dg - ten)).toNat) (d * 10 ^ (mx0 (ten - dg)).toNat)
theorem zfill_len {W dg : Int} (h0 : 0 ≤ W) (hg0 : 0 ≤ dg) (h1 : W < 10 ^ (dg + 1).toNat) : ((Txt.zfill (dtx W) (dg + 1)).length : Int) = dg + 1 := zfill_len' h0 hg0 h1
def mTxt (n dg W : Int) : Str := ((if n < 0 then Str.ofString "-" else Str.ofString "") ++ Txt.item (Txt.zfill (dtx W) (dg + 1)) 0) ++ (if dg = 0 then Str.ofString "" else Str.ofString "." ++ Txt.slice (Txt.zfill (dtx W) (dg + 1)) (some 1) none)
theorem mTxt_nd {n dg W : Int} (h1 : n < 0) (h2 : dg ≠ 0) : mTxt n dg W = (Str.ofString "-" ++ Txt.item (Txt.zfill (dtx W) (dg + 1)) 0) ++ (Str.ofString "." ++ Txt.slice (Txt.zfill (dtx W) (dg + 1)) (some 1) none) := by
  unfold mTxt; rw [if_pos h1, if_neg h2]
theorem mTxt_n0 {n dg W : Int} (h1 : n < 0) (h2 : dg = 0) : mTxt n dg W = (Str.ofString "-" ++ Txt.item (Txt.zfill (dtx W) (dg + 1)) 0) ++ Str.ofString "" := by
  unfold mTxt; rw [if_pos h1, if_pos h2]
theorem mTxt_pd {n dg W : Int} (h1 : ¬ n < 0) (h2 : dg ≠ 0) : mTxt n dg W = (Str.ofString "" ++ Txt.item (Txt.zfill (dtx W) (dg + 1)) 0) ++ (Str.ofString "." ++ Txt.slice (Txt.zfill (dtx W) (dg + 1)) (some 1) none) := by
  unfold mTxt; rw [if_neg h1, if_neg h2]
theorem mTxt_p0 {n dg W : Int} (h1 : ¬ n < 0) (h2 : dg = 0) : mTxt n dg W = (Str.ofString "" ++ Txt.item (Txt.zfill (dtx W) (dg + 1)) 0) ++ Str.ofString "" := by
  unfold mTxt; rw [if_neg h1, if_pos h2]
/-- what the mantissa and the power are, where the number is not nought -/
def MRel (n d dg W T : Int) : Prop := ∃ ten, IsLog (dbN (iabs n) d) (dbD (iabs n) d) ten ∧ -200 ≤ ten ∧ ten ≤ 309 ∧ ((mWhole n d dg ten = 10 ^ (dg + 1).toNat ∧ W = 10 ^ dg.toNat ∧ T = ten + 1) ∨ (mWhole n d dg ten ≠ 10 ^ (dg + 1).toNat ∧ W = mWhole n d dg ten ∧ T = ten))
theorem news_drop1 {h₀ h : Heap} {L : Addr} {a b : Addr × Obj} {l : List (Addr × Obj)} (N : News h₀ L h (a :: b :: l)) : News h₀ L h (a :: l) := fun p hp => by
  rcases List.mem_cons.mp hp with e | e
  · subst e; exact N _ (List.mem_cons_self ..)
  · exact N p (List.mem_cons_of_mem _ (List.mem_cons_of_mem _ e))
local macro_rules | `(tactic| walk_at "call ref") => `(tactic| (k_here; (with_reducible show wpAny _ _ (call (Value.ref 21) [Value.int _ _, Value.int _ _]) _ _ _); k_dflt (refine' rounded_ok _ _ _ _ ?hd9 ?hsd9 _ _ _ _ _ _ _ _ _ _ _ _ _ _ _ _ _ ?k1 ?k2 ?k3 ?k4 ?k5 ?kK ?kd9 ?ku9 ?_; (case k1 => k_asm); (case k2 => k_asm); (case k3 => k_asm); (case k4 => k_asm); (case k5 => k_asm); (case kK => first | exact rfl | assumption); (case hd9 => first | assumption | exact mul_pow2_pos (by assumption) _ | exact mul_pow10_pos (by assumption) _); (case hsd9 => exact Sz.le (by walk_at "my sz") (by decide)); (case kd9 => walk_at "my room"); (case ku9 => walk_at "my units")); (intro t9 h9 tk9 F9 N9; (try dsimp only); (try k_fold))))
local macro_rules | `(tactic| walk_at "call ref") => `(tactic| (k_here; (with_reducible show wpAny _ _ (call (Value.ref 109) [Value.int _ _, Value.int _ _]) _ _ _); k_dflt (refine' double_new _ _ _ _ ?hd9 ?hn9 ?hsd9 ?hov9 _ _ _ _ _ _ _ _ _ _ _ _ _ _ _ _ _ ?k1 ?k2 ?k3 ?k4 ?k5 ?kK ?kd9 ?ku9 ?_; (case k1 => k_asm); (case k2 => k_asm); (case k3 => k_asm); (case k4 => k_asm); (case k5 => k_asm); (case kK => first | exact rfl | assumption); (case hd9 => assumption); (case hn9 => assumption); (case hsd9 => assumption); (case hov9 => assumption); (case kd9 => walk_at "my room"); (case ku9 => walk_at "my units")); (intro x9 dx9 t9 u9 v9 y9 h9 tk9 F9 N9; (try dsimp only); (try k_fold))))
local macro_rules | `(tactic| walk_at "call ref") => `(tactic| (k_here; (with_reducible show wpAny _ _ (call (Value.ref 160) [Value.ref _, Value.int _ _]) _ _ _); k_dflt (refine' whole_log_ok _ _ ?hd9 ?hn9 ?hsd9 ?hx9 ?hdx9 ?hup9 ?hdn9 _ _ _ _ _ _ _ _ _ _ _ _ _ _ _ _ _ ?k1 ?k2 ?k3 ?k4 ?k5 ?kK ?kd9 ?ku9 ?_; (case k1 => k_asm); (case k2 => k_asm); (case k3 => k_asm); (case k4 => k_asm); (case k5 => k_asm); (case kK => first | exact rfl | assumption); (case hx9 => k_mem); (case hdx9 => k_mem); (case hd9 => assumption); (case hn9 => assumption); (case hsd9 => assumption); (case hup9 => assumption); (case hdn9 => assumption); (case kd9 => walk_at "my room"); (case ku9 => walk_at "my units")); (intro j9 t9 h9 tk9 l9 m9 n9 F9 N9; (try dsimp only); (try k_fold))))
local macro_rules | `(tactic| walk_at "call ref") => `(tactic| (k_here; (with_reducible show wpAny _ _ (call (Value.ref 190) [Value.int _ _, Value.int _ _]) _ _ _); k_dflt (refine' near_ok _ _ _ _ ?hd9 ?he9 ?hn9 ?hsd9 ?hr9 ?hq9 _ _ _ _ _ _ _ _ _ _ _ _ _ _ _ _ _ ?k1 ?k2 ?k3 ?k4 ?k5 ?kK ?kd9 ?ku9 ?_; (case k1 => k_asm); (case k2 => k_asm); (case k3 => k_asm); (case k4 => k_asm); (case k5 => k_asm); (case kK => first | exact rfl | assumption); (case hd9 => assumption); (case he9 => assumption); (case hn9 => assumption); (case hsd9 => assumption); (case hr9 => assumption); (case hq9 => assumption); (case kd9 => walk_at "my room"); (case ku9 => walk_at "my units")); (intro D9 t9 u9 c9 h9 tk9 F9 N9; (try dsimp only); (try k_fold))))
local macro_rules | `(tactic| walk_at "call ref") => `(tactic| (k_here; (with_reducible show wpAny _ _ (call (Value.ref 197) [Value.int _ _, Value.int _ _, Value.int _ _]) _ _ _); k_dflt (refine' put_ok _ _ _ _ _ _ ?hd9 ?he9 ?hn9 ?hsd9 ?hr9 ?hq9 _ _ _ _ _ _ _ _ _ _ _ _ _ _ _ _ _ ?k1 ?k2 ?k3 ?k4 ?k5 ?kK ?kd9 ?ku9 ?_; (case k1 => k_asm); (case k2 => k_asm); (case k3 => k_asm); (case k4 => k_asm); (case k5 => k_asm); (case kK => first | exact rfl | assumption); (case hd9 => exact mul_pow10_pos (by assumption) _); (case he9 => exact Int.ne_of_gt (mul_pow10_pos (by assumption) _)); (case hn9 => exact Sz.le (by walk_at "my sz") (by decide)); (case hsd9 => exact Sz.le (by walk_at "my sz") (by decide)); (case hr9 => assumption); (case hq9 => assumption); (case kd9 => walk_at "my room"); (case ku9 => walk_at "my units")); (intro t9 h9 tk9 F9 N9; (try dsimp only); (try k_fold))))
local macro_rules | `(tactic| walk_at "call ref") => `(tactic| (k_here; (with_reducible show wpAny _ _ (call (Value.ref 204) [Value.int _ _, Value.int _ _]) _ _ _); k_dflt (refine' text_ok _ _ _ _ ?hd9 ?he9 ?hn9 ?hr9 ?hq9 _ _ _ _ _ _ _ _ _ _ _ _ _ _ _ _ _ ?k1 ?k2 ?k3 ?k4 ?k5 ?kK ?kd9 ?ku9 ?_; (case k1 => k_asm); (case k2 => k_asm); (case k3 => k_asm); (case k4 => k_asm); (case k5 => k_asm); (case kK => first | exact rfl | assumption); (case hd9 => assumption); (case he9 => assumption); (case hn9 => assumption); (case hr9 => assumption); (case hq9 => assumption); (case kd9 => walk_at "my room"); (case ku9 => walk_at "my units")); (intro t9 h9 tk9 F9 N9; (try dsimp only); (try k_fold))))
local macro_rules | `(tactic| walk_at "call ref") => `(tactic| (k_here; (with_reducible show wpAny _ _ (call (Value.ref 146) [Value.str _ _]) _ _ _); k_dflt (refine' plain_ok _ _ ?hd9 ?he9 ?hn9 _ _ _ _ _ _ _ _ _ _ _ _ _ _ _ _ _ ?k1 ?k2 ?k3 ?k4 ?k5 ?kK ?kd9 ?ku9 ?_; (case k1 => k_asm); (case k2 => k_asm); (case k3 => k_asm); (case k4 => k_asm); (case k5 => k_asm); (case kK => first | exact rfl | assumption); (case hd9 => first | assumption | (simp only [PySem.Str.length_append]; have hem9 : Str.empty.length = 0 := rfl; omega)); (case he9 => assumption); (case hn9 => assumption); (case kd9 => walk_at "my room"); (case ku9 => walk_at "my units")); (intro h9 tk9 F9 N9; (try dsimp only); (try k_fold))))
local macro_rules | `(tactic| walk_at "call type:str") => `(tactic| (k_here; refine brk ?_))
local macro_rules | `(tactic| walk_at "storeName") => `(tactic| (k_here; (with_reducible show wpAny _ _ (storeName _ (Str.ofString "said") (Value.str _ _)) _ _ _); refine brk ?_))
theorem mant_ok {w : World} {p : Program} {loose : List Str} {mean : ExcName → Option Value} {mg mb : Str → Option Value} {news : List (Addr × Obj)} {x dx : Addr} {k1 k2 t1 t2 tg : Tok} (n d dg : Int) (hd : 0 < d) (hn : Sz n 700) (hna : Sz (iabs n) 700) (hsd : Sz d 700)
    (hx : (x, instObj 109 dx) ∈ news) (hdx : (dx, dblDict w k1 k2 n d t1 t2) ∈ news) (hg0 : 0 ≤ dg) (hg6 : dg ≤ 6) (hW : ∀ ten, IsLog (dbN (iabs n) d) (dbD (iabs n) d) ten → 0 ≤ mWhole n d dg ten ∧ mWhole n d dg ten ≤ 10 ^ (dg + 1).toNat)
    (hov : ¬ 1 * 2 ^ Int.toNat 1024 ≤ iabs (whl (iabs n) d) * 2 ^ (mx0 (-(shF (iabs n) d))).toNat)
    (hqd : 0 < dbD (iabs n) d) (hqn : Sz (dbN (iabs n) d) 2000) (hqs : Sz (dbD (iabs n) d) 2000)
    (hup : dbN (iabs n) d < dbD (iabs n) d * 10 ^ (309 : Int).toNat) (hn0 : n ≠ 0) (hdn : dbD (iabs n) d ≤ dbN (iabs n) d * 10 ^ (-(-200 : Int)).toNat) :
    FnC w p loose mean mg mb 167 news 8 60 [.ref x, .int dg tg] fun h₀ L m s Q => ∀ (D : Addr) (ta tb : Tok) (c : Nat) (h' : Heap) (tk' : Nat) (W U : Int), MRel n d dg W U → -200 ≤ U → U ≤ 310 → Fr h₀ L h' m → News h₀ L h' ((D, ({ cls := .type "tuple", data := .seq #[.str (mTxt n dg W) ta, .int U tb] c } : Obj)) :: news) → Q (.ref D) { s with heap := h', toks := tk' } := by
  unfold FnC
  k_fill
  intro dp un gd cn cs a ccd cl outer A₀ base h₀ L m s Q E B F X N T hk hdp hun hret
  refine wpAny_call ?_
  k_dflt (walk_at "my enter")
  k_steps
  · unfold Brk
    refine gen_call1 ?_
    intro W hWe
    rename IsLog _ _ _ => hlog
    rename rnd _ _ = _ => hne
    rename -200 ≤ _ => hlo
    rename _ ≤ 309 => hhi
    have hret := fun D ta tb c h' tk' => hret D ta tb c h' tk' W _ ⟨_, hlog, hlo, hhi, .inl ⟨hne, hWe, rfl⟩⟩ (by omega) (by omega)
    have hW2 : W < 10 ^ (dg + 1).toNat := by rw [hWe]; exact pow10_lt (by omega)
    have hW0 : 0 ≤ W := by rw [hWe]; exact Int.le_of_lt (pow10_pos _)
    have hWs : Sz W 64 := Sz.of10 hW0 (Int.lt_of_lt_of_le hW2 (pow10_7 (by omega)))
    clear hne
    refine P.str_of_int (hWs.shown (by decide)) ?_
    k_steps
    unfold Brk
    refine gen_str ?_
    intro Z hZe
    have hZ : (Z.length : Int) = dg + 1 := by rw [hZe]; exact zfill_len hW0 hg0 hW2
    k_dflt (refine storeX_L (by k_asm) (by k_asm) ?_ (by rfl) (by rfl)); intro h' F' N'; (try k_sweep)
    k_steps
    all_goals (first | rw [mTxt_nd (by assumption) (by assumption)] at hret | rw [mTxt_n0 (by assumption) (by assumption)] at hret | rw [mTxt_pd (by assumption) (by assumption)] at hret | rw [mTxt_p0 (by assumption) (by assumption)] at hret)
    all_goals (subst hZe; exact hret _ _ _ _ _ _ (by k_asm) (news_drop1 (news_drop1 (news_drop1 (news_drop1 (by assumption))))))
  · unfold Brk
    refine gen_call1 ?_
    intro W hWe
    rename IsLog _ _ _ => hlog
    rename rnd _ _ ≠ _ => hne
    rename -200 ≤ _ => hlo
    rename _ ≤ 309 => hhi
    have hret := fun D ta tb c h' tk' => hret D ta tb c h' tk' W _ ⟨_, hlog, hlo, hhi, .inr ⟨hne, hWe, rfl⟩⟩ (by omega) (by omega)
    have hW1 := hW _ hlog
    have hW2 : W < 10 ^ (dg + 1).toNat := by
      have : W ≠ 10 ^ (dg + 1).toNat := by rw [hWe]; exact hne
      have h3 : W ≤ 10 ^ (dg + 1).toNat := by rw [hWe]; exact hW1.2
      omega
    have hW0 : 0 ≤ W := by rw [hWe]; exact hW1.1
    have hWs : Sz W 64 := Sz.of10 hW0 (Int.lt_of_lt_of_le hW2 (pow10_7 (by omega)))
    clear hne
    refine P.str_of_int (hWs.shown (by decide)) ?_
    k_steps
    unfold Brk
    refine gen_str ?_
    intro Z hZe
    have hZ : (Z.length : Int) = dg + 1 := by rw [hZe]; exact zfill_len hW0 hg0 hW2
    k_dflt (refine storeX_L (by k_asm) (by k_asm) ?_ (by rfl) (by rfl)); intro h' F' N'; (try k_sweep)
    k_steps
    all_goals (first | rw [mTxt_nd (by assumption) (by assumption)] at hret | rw [mTxt_n0 (by assumption) (by assumption)] at hret | rw [mTxt_pd (by assumption) (by assumption)] at hret | rw [mTxt_p0 (by assumption) (by assumption)] at hret)
    all_goals (subst hZe; exact hret _ _ _ _ _ _ (by k_asm) (news_drop1 (news_drop1 (news_drop1 (by assumption)))))
  · exfalso; omega
end
section
local macro_rules | `(tactic| walk_at "dummy 22") => `(tactic| skip)
local macro_rules | `(tactic| walk_at "dummy 23") => `(tactic| skip)
local macro_rules | `(tactic| walk_at "dummy 24") => `(tactic| skip)
local macro_rules | `(tactic| walk_at "dummy 25") => `(tactic| skip)
local macro_rules | `(tactic| walk_at "dummy 26") => `(tactic| skip)
local macro_rules | `(tactic| walk_at "dummy 27") => `(tactic| skip)
local macro_rules | `(tactic| walk_at "dummy 28") => `(tactic| skip)
local macro_rules | `(tactic| walk_at "dummy 29") => `(tactic| skip)
local macro_rules | `(tactic| walk_at "dummy 30") => `(tactic| skip)
local macro_rules | `(tactic| walk_at "dummy 31") => `(tactic| skip)
local macro_rules | `(tactic| walk_at "dummy 32") => `(tactic| skip)
local macro_rules | `(tactic| walk_at "dummy 33") => `(tactic| skip)
local macro_rules | `(tactic| walk_at "dummy 34") => `(tactic| skip)
local macro_rules | `(tactic| walk_at "dummy 35") => `(tactic| skip)
local macro_rules | `(tactic| walk_at "dummy 36") => `(tactic| skip)
local macro_rules | `(tactic| walk_at "dummy 37") => `(tactic| skip)
local macro_rules | `(tactic| walk_at "dummy 38") => `(tactic| skip)
local macro_rules | `(tactic| walk_at "dummy 39") => `(tactic| skip)
local macro_rules | `(tactic| walk_at "dummy 40") => `(tactic| skip)
local macro_rules | `(tactic| walk_at "dummy 41") => `(tactic| skip)
theorem fresh_MMant0 : True := by
  w_top off
  trivial
theorem rnd_zero {d : Int} (hd : 0 < d) (x : Int) : rnd (0 * x) d = 0 := by
  have e1 : (0 * x).fdiv d = 0 := by rw [Int.zero_mul]; exact Int.zero_fdiv d
  have e2 : (0 * x).fmod d = 0 := by rw [Int.zero_mul]; exact Int.zero_fmod d
  unfold rnd
  rw [e1, e2]
  rw [if_neg]
  rintro (h | ⟨h, _⟩) <;> omega
local macro_rules | `(tactic| walk_at "call ref") => `(tactic| (k_here; (with_reducible show wpAny _ _ (call (Value.ref 21) [Value.int _ _, Value.int _ _]) _ _ _); k_dflt (refine' rounded_ok _ _ _ _ ?hd9 ?hsd9 _ _ _ _ _ _ _ _ _ _ _ _ _ _ _ _ _ ?k1 ?k2 ?k3 ?k4 ?k5 ?kK ?kd9 ?ku9 ?_; (case k1 => k_asm); (case k2 => k_asm); (case k3 => k_asm); (case k4 => k_asm); (case k5 => k_asm); (case kK => first | exact rfl | assumption); (case hd9 => first | assumption | exact mul_pow2_pos (by assumption) _ | exact mul_pow10_pos (by assumption) _); (case hsd9 => exact Sz.le (by walk_at "my sz") (by decide)); (case kd9 => walk_at "my room"); (case ku9 => walk_at "my units")); (intro t9 h9 tk9 F9 N9; (try dsimp only); (try k_fold))))
local macro_rules | `(tactic| walk_at "call ref") => `(tactic| (k_here; (with_reducible show wpAny _ _ (call (Value.ref 109) [Value.int _ _, Value.int _ _]) _ _ _); k_dflt (refine' double_new _ _ _ _ ?hd9 ?hn9 ?hsd9 ?hov9 _ _ _ _ _ _ _ _ _ _ _ _ _ _ _ _ _ ?k1 ?k2 ?k3 ?k4 ?k5 ?kK ?kd9 ?ku9 ?_; (case k1 => k_asm); (case k2 => k_asm); (case k3 => k_asm); (case k4 => k_asm); (case k5 => k_asm); (case kK => first | exact rfl | assumption); (case hd9 => assumption); (case hn9 => assumption); (case hsd9 => assumption); (case hov9 => assumption); (case kd9 => walk_at "my room"); (case ku9 => walk_at "my units")); (intro x9 dx9 t9 u9 v9 y9 h9 tk9 F9 N9; (try dsimp only); (try k_fold))))
local macro_rules | `(tactic| walk_at "call ref") => `(tactic| (k_here; (with_reducible show wpAny _ _ (call (Value.ref 160) [Value.ref _, Value.int _ _]) _ _ _); k_dflt (refine' whole_log_ok _ _ ?hd9 ?hn9 ?hsd9 ?hx9 ?hdx9 ?hup9 ?hdn9 _ _ _ _ _ _ _ _ _ _ _ _ _ _ _ _ _ ?k1 ?k2 ?k3 ?k4 ?k5 ?kK ?kd9 ?ku9 ?_; (case k1 => k_asm); (case k2 => k_asm); (case k3 => k_asm); (case k4 => k_asm); (case k5 => k_asm); (case kK => first | exact rfl | assumption); (case hx9 => k_mem); (case hdx9 => k_mem); (case hd9 => assumption); (case hn9 => assumption); (case hsd9 => assumption); (case hup9 => assumption); (case hdn9 => assumption); (case kd9 => walk_at "my room"); (case ku9 => walk_at "my units")); (intro j9 t9 h9 tk9 l9 m9 n9 F9 N9; (try dsimp only); (try k_fold))))
local macro_rules | `(tactic| walk_at "call ref") => `(tactic| (k_here; (with_reducible show wpAny _ _ (call (Value.ref 190) [Value.int _ _, Value.int _ _]) _ _ _); k_dflt (refine' near_ok _ _ _ _ ?hd9 ?he9 ?hn9 ?hsd9 ?hr9 ?hq9 _ _ _ _ _ _ _ _ _ _ _ _ _ _ _ _ _ ?k1 ?k2 ?k3 ?k4 ?k5 ?kK ?kd9 ?ku9 ?_; (case k1 => k_asm); (case k2 => k_asm); (case k3 => k_asm); (case k4 => k_asm); (case k5 => k_asm); (case kK => first | exact rfl | assumption); (case hd9 => assumption); (case he9 => assumption); (case hn9 => assumption); (case hsd9 => assumption); (case hr9 => assumption); (case hq9 => assumption); (case kd9 => walk_at "my room"); (case ku9 => walk_at "my units")); (intro D9 t9 u9 c9 h9 tk9 F9 N9; (try dsimp only); (try k_fold))))
local macro_rules | `(tactic| walk_at "call ref") => `(tactic| (k_here; (with_reducible show wpAny _ _ (call (Value.ref 197) [Value.int _ _, Value.int _ _, Value.int _ _]) _ _ _); k_dflt (refine' put_ok _ _ _ _ _ _ ?hd9 ?he9 ?hn9 ?hsd9 ?hr9 ?hq9 _ _ _ _ _ _ _ _ _ _ _ _ _ _ _ _ _ ?k1 ?k2 ?k3 ?k4 ?k5 ?kK ?kd9 ?ku9 ?_; (case k1 => k_asm); (case k2 => k_asm); (case k3 => k_asm); (case k4 => k_asm); (case k5 => k_asm); (case kK => first | exact rfl | assumption); (case hd9 => exact mul_pow10_pos (by assumption) _); (case he9 => exact Int.ne_of_gt (mul_pow10_pos (by assumption) _)); (case hn9 => exact Sz.le (by walk_at "my sz") (by decide)); (case hsd9 => exact Sz.le (by walk_at "my sz") (by decide)); (case hr9 => assumption); (case hq9 => assumption); (case kd9 => walk_at "my room"); (case ku9 => walk_at "my units")); (intro t9 h9 tk9 F9 N9; (try dsimp only); (try k_fold))))
local macro_rules | `(tactic| walk_at "call ref") => `(tactic| (k_here; (with_reducible show wpAny _ _ (call (Value.ref 204) [Value.int _ _, Value.int _ _]) _ _ _); k_dflt (refine' text_ok _ _ _ _ ?hd9 ?he9 ?hn9 ?hr9 ?hq9 _ _ _ _ _ _ _ _ _ _ _ _ _ _ _ _ _ ?k1 ?k2 ?k3 ?k4 ?k5 ?kK ?kd9 ?ku9 ?_; (case k1 => k_asm); (case k2 => k_asm); (case k3 => k_asm); (case k4 => k_asm); (case k5 => k_asm); (case kK => first | exact rfl | assumption); (case hd9 => assumption); (case he9 => assumption); (case hn9 => assumption); (case hr9 => assumption); (case hq9 => assumption); (case kd9 => walk_at "my room"); (case ku9 => walk_at "my units")); (intro t9 h9 tk9 F9 N9; (try dsimp only); (try k_fold))))
local macro_rules | `(tactic| walk_at "call ref") => `(tactic| (k_here; (with_reducible show wpAny _ _ (call (Value.ref 146) [Value.str _ _]) _ _ _); k_dflt (refine' plain_ok _ _ ?hd9 ?he9 ?hn9 _ _ _ _ _ _ _ _ _ _ _ _ _ _ _ _ _ ?k1 ?k2 ?k3 ?k4 ?k5 ?kK ?kd9 ?ku9 ?_; (case k1 => k_asm); (case k2 => k_asm); (case k3 => k_asm); (case k4 => k_asm); (case k5 => k_asm); (case kK => first | exact rfl | assumption); (case hd9 => first | assumption | (simp only [PySem.Str.length_append]; have hem9 : Str.empty.length = 0 := rfl; omega)); (case he9 => assumption); (case hn9 => assumption); (case kd9 => walk_at "my room"); (case ku9 => walk_at "my units")); (intro h9 tk9 F9 N9; (try dsimp only); (try k_fold))))
local macro_rules | `(tactic| walk_at "call type:str") => `(tactic| (k_here; refine brk ?_))
local macro_rules | `(tactic| walk_at "storeName") => `(tactic| (k_here; (with_reducible show wpAny _ _ (storeName _ (Str.ofString "said") (Value.str _ _)) _ _ _); refine brk ?_))
theorem mant0_ok {w : World} {p : Program} {loose : List Str} {mean : ExcName → Option Value} {mg mb : Str → Option Value} {news : List (Addr × Obj)} {x dx : Addr} {k1 k2 t1 t2 tg : Tok} (d dg : Int) (hd : 0 < d) (hsd : Sz d 700)
    (hx : (x, instObj 109 dx) ∈ news) (hdx : (dx, dblDict w k1 k2 0 d t1 t2) ∈ news) (hg0 : 0 ≤ dg) (hg6 : dg ≤ 6) :
    FnC w p loose mean mg mb 167 news 8 60 [.ref x, .int dg tg] fun h₀ L m s Q => ∀ (D : Addr) (ta tb : Tok) (c : Nat) (h' : Heap) (tk' : Nat), Fr h₀ L h' m → News h₀ L h' ((D, ({ cls := .type "tuple", data := .seq #[.str (mTxt 0 dg 0) ta, .int 0 tb] c } : Obj)) :: news) → Q (.ref D) { s with heap := h', toks := tk' } := by
  unfold FnC
  k_fill
  intro dp un gd cn cs a ccd cl outer A₀ base h₀ L m s Q E B F X N T hk hdp hun hret
  refine wpAny_call ?_
  k_dflt (walk_at "my enter")
  k_steps
  · exfalso
    rename rnd _ _ = _ => hne
    have e := hne.symm.trans (rnd_zero (mul_pow10_pos hd _) _)
    have := pow10_pos (dg + 1).toNat
    omega
  · unfold Brk
    refine gen_call1 ?_
    intro W hWe
    replace hWe : W = 0 := hWe.trans (rnd_zero (mul_pow10_pos hd _) _)
    rename rnd _ _ ≠ _ => hne
    clear hne
    subst hWe
    refine P.str_of_int (by decide +kernel) ?_
    k_steps
    unfold Brk
    refine gen_str ?_
    intro Z hZe
    have hZ : (Z.length : Int) = dg + 1 := by rw [hZe]; exact zfill_len (by decide) hg0 (pow10_pos _)
    k_dflt (refine storeX_L (by k_asm) (by k_asm) ?_ (by rfl) (by rfl)); intro h' F' N'; (try k_sweep)
    k_steps
    all_goals (first | rw [mTxt_pd (by decide) (by assumption)] at hret | rw [mTxt_p0 (by decide) (by assumption)] at hret)
    all_goals (subst hZe; exact hret _ _ _ _ _ _ (by k_asm) (news_drop1 (by assumption)))
end
section
local macro_rules | `(tactic| walk_at "dummy 42") => `(tactic| skip)
local macro_rules | `(tactic| walk_at "dummy 43") => `(tactic| skip)
local macro_rules | `(tactic| walk_at "dummy 44") => `(tactic| skip)
local macro_rules | `(tactic| walk_at "dummy 45") => `(tactic| skip)
local macro_rules | `(tactic| walk_at "dummy 46") => `(tactic| skip)
local macro_rules | `(tactic| walk_at "dummy 47") => `(tactic| skip)
local macro_rules | `(tactic| walk_at "dummy 48") => `(tactic| skip)
local macro_rules | `(tactic| walk_at "dummy 49") => `(tactic| skip)
local macro_rules | `(tactic| walk_at "dummy 50") => `(tactic| skip)
local macro_rules | `(tactic| walk_at "dummy 51") => `(tactic| skip)
local macro_rules | `(tactic| walk_at "dummy 52") => `(tactic| skip)
local macro_rules | `(tactic| walk_at "dummy 53") => `(tactic| skip)
local macro_rules | `(tactic| walk_at "dummy 54") => `(tactic| skip)
local macro_rules | `(tactic| walk_at "dummy 55") => `(tactic| skip)
local macro_rules | `(tactic| walk_at "dummy 56") => `(tactic| skip)
local macro_rules | `(tactic| walk_at "dummy 57") => `(tactic| skip)
local macro_rules | `(tactic| walk_at "dummy 58") => `(tactic| skip)
local macro_rules | `(tactic| walk_at "dummy 59") => `(tactic| skip)
local macro_rules | `(tactic| walk_at "dummy 60") => `(tactic| skip)
local macro_rules | `(tactic| walk_at "dummy 61") => `(tactic| skip)
local macro_rules | `(tactic| walk_at "dummy 62") => `(tactic| skip)
local macro_rules | `(tactic| walk_at "dummy 63") => `(tactic| skip)
local macro_rules | `(tactic| walk_at "dummy 64") => `(tactic| skip)
local macro_rules | `(tactic| walk_at "dummy 65") => `(tactic| skip)
local macro_rules | `(tactic| walk_at "dummy 66") => `(tactic| skip)
local macro_rules | `(tactic| walk_at "dummy 67") => `(tactic| skip)
local macro_rules | `(tactic| walk_at "dummy 68") => `(tactic| skip)
local macro_rules | `(tactic| walk_at "dummy 69") => `(tactic| skip)
local macro_rules | `(tactic| walk_at "dummy 70") => `(tactic| skip)
theorem fresh_MPut : True := by
  w_top off
  trivial
def lput (n d g : Int) : Int := if 2 * (n * 10 ^ g.toNat - (n * 10 ^ g.toNat).fdiv d * d) > d ∨ (2 * (n * 10 ^ g.toNat - (n * 10 ^ g.toNat).fdiv d * d) = d ∧ ((n * 10 ^ g.toNat).fdiv d).fmod 2 = 1) then (n * 10 ^ g.toNat).fdiv d + 1 else (n * 10 ^ g.toNat).fdiv d
local macro_rules | `(tactic| walk_at "binaryOp FloorDiv int int") => `(tactic| (k_here; (with_reducible show wpAny _ _ (binaryOp Operator.FloorDiv (Value.int _ _) (Value.int _ _)) _ _ _); (refine floordiv_int (by assumption) ?_ (Or.inl (Sz.noPylong (by walk_at "my sz") (by decide))))))
theorem put_ok {w : World} {p : Program} {loose : List Str} {mean : ExcName → Option Value} {mg mb : Str → Option Value} {news : List (Addr × Obj)} (n d g : Int) (tn td tg : Tok) (hd : 0 < d) (hdne : d ≠ 0) (hn : Sz n 4000) (hsd : Sz d 4000) (hg0 : 0 ≤ g) (hg6 : g ≤ 6) :
    FnC w p loose mean mg mb 197 news 1 8 [.int n tn, .int d td, .int g tg] fun h₀ L m s Q => CbRet h₀ L m news s Q (fun t => .int (lput n d g) t) := by
  unfold FnC
  k_fill
  intro dp un gd cn cs a ccd cl outer A₀ base h₀ L m s Q E B F X N T hk hdp hun hret
  refine wpAny_call ?_
  k_dflt (walk_at "my enter")
  k_steps
  all_goals (refine' cb_retI hret ?e1 ?e2 ?e3; (case e2 => k_asm); (case e3 => assumption); (case e1 => (unfold lput; split <;> omega)))
def lnPlaces (n d : Int) : Int := (n * 2 ^ (200 : Int).toNat).fdiv d
def lnRest (n d : Int) : Int := (n * 2 ^ (200 : Int).toNat).fmod d
def lnDrop (n d : Int) : Int := bl (lnPlaces n d) - 53
def lnUnit (n d : Int) : Int := 1 * 2 ^ (lnDrop n d).toNat
def lnHead (n d : Int) : Int :=
  let h := (lnPlaces n d).fdiv (lnUnit n d)
  let t := (lnPlaces n d).fmod (lnUnit n d)
  if 2 * t > lnUnit n d ∨ (2 * t = lnUnit n d ∧ (lnRest n d > 0 ∨ h.fmod 2 = 1)) then h + 1 else h
def lnN (n d : Int) : Int := lnHead n d * 2 ^ (lnDrop n d).toNat
def lnD : Int := 1 * 2 ^ (200 : Int).toNat
theorem ln_up {n d pl re dr U : Int} (h1 : pl = lnPlaces n d) (h2 : re = lnRest n d) (h3 : dr = lnDrop n d) (h4 : U = 1 * 2 ^ dr.toNat) (h : 2 * pl.fmod U > U ∨ (2 * pl.fmod U = U ∧ (re > 0 ∨ (pl.fdiv U).fmod 2 = 1))) : lnN n d = (pl.fdiv U + 1) * 2 ^ dr.toNat := by
  have hu : lnUnit n d = U := by rw [h4, h3]; rfl
  unfold lnN lnHead
  rw [hu, ← h1, ← h2, ← h3]
  simp only []
  rw [if_pos h]
theorem ln_dn {n d pl re dr U : Int} (h1 : pl = lnPlaces n d) (h2 : re = lnRest n d) (h3 : dr = lnDrop n d) (h4 : U = 1 * 2 ^ dr.toNat) (h : ¬ (2 * pl.fmod U > U ∨ (2 * pl.fmod U = U ∧ (re > 0 ∨ (pl.fdiv U).fmod 2 = 1)))) : lnN n d = pl.fdiv U * 2 ^ dr.toNat := by
  have hu : lnUnit n d = U := by rw [h4, h3]; rfl
  unfold lnN lnHead
  rw [hu, ← h1, ← h2, ← h3]
  simp only []
  rw [if_neg h]
theorem lshift_eq {prog : Program} {w : World} {A : Around} {E : Value → Shared → Prop} {s : Shared} {a n U : Int} {t u : Tok} {Q : Value → Shared → Prop} (hn : 0 ≤ n) (hsz : (Builtin.Int.intBits a : Int) + n ≤ 2 ^ 27) (e : U = a * 2 ^ n.toNat) (h : Q (.int U s.toks) { s with toks := s.toks + 1 }) : wpAny (model prog w) A (binaryOp .LShift (.int a t) (.int n u)) Q E s :=
  lshift_int hn hsz (e ▸ h)
local macro_rules | `(tactic| walk_at "binaryOp LShift int int") => `(tactic| (k_here; (with_reducible show wpAny _ _ (binaryOp Operator.LShift (Value.int 1 _) (Value.int _ _)) _ _ _); (refine lshift_eq (by omega) (Sz.shlOk (by walk_at "my sz") (by decide) (by omega)) (by with_reducible assumption) ?_)))
local macro_rules | `(tactic| walk_at "storeName") => `(tactic| (k_here; (with_reducible show wpAny _ _ (storeName _ (Str.ofString "drop") (Value.int _ _)) _ _ _); refine brk ?_))
local macro_rules | `(tactic| walk_at "storeName") => `(tactic| (k_here; (with_reducible show wpAny _ _ (storeName _ (Str.ofString "places") (Value.int _ _)) _ _ _); refine brk ?_))
local macro_rules | `(tactic| walk_at "storeName") => `(tactic| (k_here; (with_reducible show wpAny _ _ (storeName _ (Str.ofString "rest") (Value.int _ _)) _ _ _); refine brk ?_))
local macro_rules | `(tactic| walk_at "exec If") => `(tactic| (k_here; refine brk ?_))
theorem near_ok {w : World} {p : Program} {loose : List Str} {mean : ExcName → Option Value} {mg mb : Str → Option Value} {news : List (Addr × Obj)} (n d : Int) (tn td : Tok) (hd : 0 < d) (hdne : d ≠ 0) (hn : Sz n 700) (hsd : Sz d 700) (hdr : 0 ≤ lnDrop n d) (hdr2 : lnDrop n d ≤ 900) :
    FnC w p loose mean mg mb 190 news 1 8 [.int n tn, .int d td] fun h₀ L m s Q => ∀ (D : Addr) (t1 t2 : Tok) (c : Nat) (h' : Heap) (tk' : Nat), Fr h₀ L h' m → News h₀ L h' ((D, ({ cls := .type "tuple", data := .seq #[.int (lnN n d) t1, .int lnD t2] c } : Obj)) :: news) → Q (.ref D) { s with heap := h', toks := tk' } := by
  unfold FnC
  k_fill
  intro dp un gd cn cs a ccd cl outer A₀ base h₀ L m s Q E B F X N T hk hdp hun hret
  refine wpAny_call ?_
  k_dflt (walk_at "my enter")
  walk_at "my steps"
  unfold Brk
  refine gen_int ?_
  intro pl hple
  replace hple : pl = lnPlaces n d := hple
  have hpls : Sz pl 1800 := by
    rw [hple]; unfold lnPlaces
    exact Sz.le (by walk_at "my sz") (by decide)
  k_dflt (refine storeX_L (by k_asm) (by k_asm) ?_ (by rfl) (by rfl)); intro h' F' N'; (try k_sweep)
  walk_at "my steps"
  unfold Brk
  refine gen_int ?_
  intro re hree
  replace hree : re = lnRest n d := hree
  k_dflt (refine storeX_L (by k_asm) (by k_asm) ?_ (by rfl) (by rfl)); intro h' F' N'; (try k_sweep)
  walk_at "my steps"
  unfold Brk
  refine gen_int ?_
  intro dr hdre
  replace hdre : dr = lnDrop n d := by rw [hdre, hple]; rfl
  have hb1 : 0 ≤ dr ∧ dr ≤ 900 := by rw [hdre]; exact ⟨hdr, hdr2⟩
  k_dflt (refine storeX_L (by k_asm) (by k_asm) ?_ (by rfl) (by rfl)); intro h' F' N'; (try k_sweep)
  obtain ⟨U, hU⟩ : ∃ U : Int, U = 1 * 2 ^ dr.toNat := ⟨_, rfl⟩
  have hUp : 0 < U := by rw [hU]; exact mul_pow2_pos (by decide) _
  have hUs : Sz U 1100 := by rw [hU]; exact Sz.le (by walk_at "my sz") (by decide)
  walk_at "my steps"
  unfold Brk
  refine wpAny_If ?_
  walk_at "my steps"
  all_goals (first | (rw [ln_up hple hree hdre hU (by omega)] at hret; exact hret _ _ _ _ _ _ (by k_asm) (news_drop1 (news_drop1 (by assumption)))) | (rw [ln_dn hple hree hdre hU (by omega)] at hret; exact hret _ _ _ _ _ _ (by k_asm) (news_drop1 (news_drop1 (by assumption)))))
end
section
local macro_rules | `(tactic| walk_at "dummy 71") => `(tactic| skip)
local macro_rules | `(tactic| walk_at "dummy 72") => `(tactic| skip)
local macro_rules | `(tactic| walk_at "dummy 73") => `(tactic| skip)
local macro_rules | `(tactic| walk_at "dummy 74") => `(tactic| skip)
local macro_rules | `(tactic| walk_at "dummy 75") => `(tactic| skip)
local macro_rules | `(tactic| walk_at "dummy 76") => `(tactic| skip)
local macro_rules | `(tactic| walk_at "dummy 77") => `(tactic| skip)
local macro_rules | `(tactic| walk_at "dummy 78") => `(tactic| skip)
local macro_rules | `(tactic| walk_at "dummy 79") => `(tactic| skip)
local macro_rules | `(tactic| walk_at "dummy 80") => `(tactic| skip)
local macro_rules | `(tactic| walk_at "dummy 81") => `(tactic| skip)
local macro_rules | `(tactic| walk_at "dummy 82") => `(tactic| skip)
local macro_rules | `(tactic| walk_at "dummy 83") => `(tactic| skip)
local macro_rules | `(tactic| walk_at "dummy 84") => `(tactic| skip)
local macro_rules | `(tactic| walk_at "dummy 85") => `(tactic| skip)
local macro_rules | `(tactic| walk_at "dummy 86") => `(tactic| skip)
local macro_rules | `(tactic| walk_at "dummy 87") => `(tactic| skip)
local macro_rules | `(tactic| walk_at "dummy 88") => `(tactic| skip)
local macro_rules | `(tactic| walk_at "dummy 89") => `(tactic| skip)
local macro_rules | `(tactic| walk_at "dummy 90") => `(tactic| skip)
local macro_rules | `(tactic| walk_at "dummy 91") => `(tactic| skip)
local macro_rules | `(tactic| walk_at "dummy 92") => `(tactic| skip)
local macro_rules | `(tactic| walk_at "dummy 93") => `(tactic| skip)
local macro_rules | `(tactic| walk_at "dummy 94") => `(tactic| skip)
local macro_rules | `(tactic| walk_at "dummy 95") => `(tactic| skip)
local macro_rules | `(tactic| walk_at "dummy 96") => `(tactic| skip)
local macro_rules | `(tactic| walk_at "dummy 97") => `(tactic| skip)
local macro_rules | `(tactic| walk_at "dummy 98") => `(tactic| skip)
local macro_rules | `(tactic| walk_at "dummy 99") => `(tactic| skip)
local macro_rules | `(tactic| walk_at "dummy 100") => `(tactic| skip)
local macro_rules | `(tactic| walk_at "dummy 101") => `(tactic| skip)
local macro_rules | `(tactic| walk_at "dummy 102") => `(tactic| skip)
local macro_rules | `(tactic| walk_at "dummy 103") => `(tactic| skip)
local macro_rules | `(tactic| walk_at "dummy 104") => `(tactic| skip)
theorem fresh_MText : True := by
  w_top off
  trivial
local macro_rules | `(tactic| walk_at "call type:str") => `(tactic| (k_here; refine brk ?_))
local macro_rules | `(tactic| walk_at "storeName") => `(tactic| (k_here; (with_reducible show wpAny _ _ (storeName _ (Str.ofString "word") (Value.str _ _)) _ _ _); refine brk ?_))
theorem rjust_len {W dg : Int} (h0 : 0 ≤ W) (hg0 : 0 ≤ dg) (h1 : W < 10 ^ (dg + 1).toNat) : ((Txt.rjustF (dtx W) (dg + 1) ((Str.ofString "0").cps.getD 0 0)).length : Int) = dg + 1 := rjust_len' h0 hg0 h1 _
def ljust0 (W dg : Int) : Str := Txt.rjustF (dtx W) (dg + 1) ((Str.ofString "0").cps.getD 0 0)
def lTxt (W dg : Int) : Str := Txt.slice (ljust0 W dg) none (some 1) ++ (if dg = 0 then Str.ofString "" else Str.ofString "." ++ Txt.slice (ljust0 W dg) (some 1) none)
theorem lTxt_d {W dg : Int} (h : dg ≠ 0) : lTxt W dg = Txt.slice (ljust0 W dg) none (some 1) ++ (Str.ofString "." ++ Txt.slice (ljust0 W dg) (some 1) none) := by
  unfold lTxt; rw [if_neg h]
theorem lTxt_0 {W dg : Int} (h : dg = 0) : lTxt W dg = Txt.slice (ljust0 W dg) none (some 1) ++ Str.ofString "" := by
  unfold lTxt; rw [if_pos h]
theorem text_ok {w : World} {p : Program} {loose : List Str} {mean : ExcName → Option Value} {mg mb : Str → Option Value} {news : List (Addr × Obj)} (W dg : Int) (tn tg : Tok) (hW0 : 0 ≤ W) (hW2 : W < 10 ^ (dg + 1).toNat) (hWs : Sz W 64) (hg0 : 0 ≤ dg) (hg6 : dg ≤ 6) :
    FnC w p loose mean mg mb 204 news 1 8 [.int W tn, .int dg tg] fun h₀ L m s Q => ∀ (t : Tok) (h' : Heap) (tk' : Nat), Fr h₀ L h' m → News h₀ L h' news → Q (.str (lTxt W dg) t) { s with heap := h', toks := tk' } := by
  unfold FnC
  k_fill
  intro dp un gd cn cs a ccd cl outer A₀ base h₀ L m s Q E B F X N T hk hdp hun hret
  refine wpAny_call ?_
  k_dflt (walk_at "my enter")
  walk_at "my steps"
  unfold Brk
  refine P.str_of_int (hWs.shown (by decide)) ?_
  walk_at "my steps"
  unfold Brk
  refine gen_str ?_
  intro Y hYe
  have hY : (Y.length : Int) = dg + 1 := by rw [hYe]; exact rjust_len hW0 hg0 hW2
  k_dflt (refine storeX_L (by k_asm) (by k_asm) ?_ (by rfl) (by rfl)); intro h' F' N'; (try k_sweep)
  walk_at "my steps"
  all_goals (have e1 : (Y.length : Int) - dg = 1 := by omega)
  all_goals (rw [e1]; replace hYe : Y = ljust0 W dg := hYe; subst hYe)
  all_goals (first | rw [lTxt_d (by assumption)] at hret | rw [lTxt_0 (by assumption)] at hret)
  all_goals exact hret _ _ _ (by k_asm) (by k_asm)
end
section
section
open LCg
variable {prog : Program} {w : World} {A : Around} {E : Value → Shared → Prop} {s : Shared} {h₀ : Heap} {L : Addr} {m : Str → Option Value} {env : Env}
theorem ListComp_S {elt iter : Expr} {x : Str} {px : Pos} {scope : Scope} {cl : List (Str × Addr)} {pos : Pos} {Q : Value → Shared → Prop} (F₀ : Fr h₀ L s.heap m)
    (hclos : closureFor scope env = pure cl) (hcell : ∀ y ∈ scope.names, y.2 ≠ .cell) (hkind : scope.kind = .function)
    (hnames : ∀ y ∈ scope.names, y.2 = .local → scope.names.lookup y.1 = some .local) (hx : scope.names.lookup x = some .local) (hh : A.handled = none)
    (h : wpAny (model prog w) A (eval iter env) (fun xv s₁ => ∃ (X : Str) (t : Tok) (news : List (Addr × Obj)), xv = .str X t ∧ X.cps.all (· < 128) = true ∧ Fr h₀ L s₁.heap m ∧ News h₀ L s₁.heap news ∧ X.cps.size ≤ sizeLine ∧
      ∀ g, CompRest prog w A h₀ L m env elt x scope cl { s₁ with heap := g } (fun _ => True) (SignAt X) (FinE h₀ L m { s₁ with heap := g } Q) X.cps.size 0 [] news) E s)
    (hs : ∀ x, foldedSetIterable iter env x = pure x := by intro _; rfl) :
    wpAny (model prog w) A (eval (.ListComp elt [⟨.Name x px, iter, [], 0⟩] scope pos) env) Q E s := by
  rw [eval_ListComp]
  refine wpAny_comprehension_free (use := none) rfl hs hclos hkind hnames (wpAny_mono h (fun xv s₁ h₁ => ?_) fun _ _ e => e)
  obtain ⟨X, t, news, rfl, hasc, F, N, hsz, R⟩ := h₁
  refine wpAny_pyIter_ascii hasc ?_
  refine block_U (Walks.strAscii hh s₁.heap.objs.size X t) hsz (fun i h st => let ⟨o, ho, _⟩ := st; ⟨o, ho⟩) (fun i h h' o nw st e e' _ _ _ => ?_) hcell hkind hx ⟨_, Heap.get?_push_size _ rfl, rfl, rfl⟩ (fun b hb => ?_)
    (F.keeps fun _ _ e => Heap.get?_push_of_some _ e) (N.grown fun _ _ e => Heap.get?_push_of_some _ e) (Nat.ne_of_lt F.ns.lt) (next_is_new F) (fun p hp => Nat.ne_of_lt (Heap.lt_size (N p hp).1)) trivial (R _) ?_
  · obtain ⟨o', ho', r⟩ := st
    rw [e] at ho'
    cases ho'
    exact ⟨o, e', r⟩
  · rw [List.mem_singleton.mp hb]
    show s₁.heap.objs.size < (s₁.heap.push _).objs.size
    rw [Heap.size_push]; exact Nat.lt_succ_self _
  · intro D C h tk m' ys news' F' N' o1 hn hC₀ hD₀ hCL hDL hCD offC fin
    refine ⟨m', hn, fun h'' hs'' => fin D h'' tk (F'.change hs'' hCL hC₀) (fun p hp => ?_) o1⟩
    refine ⟨hs''.extBut _ _ ?_ (N' p hp).1, (N' p hp).2⟩
    rcases List.mem_cons.mp hp with rfl | hp
    · exact Ne.symm hCD
    · exact offC p hp
theorem comp_signs {elt : Expr} {x : Str} {scope : Scope} {cl : List (Str × Addr)} {X : Str} {Fin : List Value → List (Addr × Obj) → Prop} {news : List (Addr × Obj)} (g : Nat → Str)
    (turn : ∀ c t I oI C oC D m₂ ys h tk (E' : Value → Shared → Prop), c ∈ X.cps.toList → NsObj oC m₂ → m₂ x = some (.str ⟨#[c]⟩ t) → Fr h₀ L h m → News h₀ L h ((I, oI) :: (C, oC) :: (D, lst ys) :: news) →
      wpAny (model prog w) A (eval elt (compEnvC scope cl C env)) (fun y s₂ => ∃ h' tk' t', y = .str (g c) t' ∧ s₂ = { s with heap := h', toks := tk' } ∧ Fr h₀ L h' m ∧ News h₀ L h' ((I, oI) :: (C, oC) :: (D, lst ys) :: news)) E' { s with heap := h, toks := tk })
    (fin : ∀ ys, StrsAre ys (X.cps.toList.map g) → Fin ys news) : CompRest prog w A h₀ L m env elt x scope cl s (fun _ => True) (SignAt X) Fin X.cps.size 0 [] news := by
  have key : ∀ (j i : Nat) (ys : List Value), i + j = X.cps.size → StrsAre ys ((X.cps.toList.take i).map g) → CompRest prog w A h₀ L m env elt x scope cl s (fun _ => True) (SignAt X) Fin j i ys news := by
    intro j
    induction j with
    | zero =>
      intro i ys hi hy
      have e : X.cps.toList.take i = X.cps.toList := List.take_of_length_le (by rw [Array.length_toList]; omega)
      rw [e] at hy
      exact CompRest.zero (fin ys hy)
    | succ j ih =>
      intro i ys hi hy
      refine CompRest.succ ?_
      intro v I oI C oC D m₂ h tk E' hv hC hx F N off ne
      obtain ⟨c, u, hc, hv'⟩ := hv
      rw [hv'] at hx
      have hc' : X.cps.toList[i]? = some c := by rw [Array.getElem?_toList]; exact hc
      refine wpAny_mono (turn c u I oI C oC D m₂ ys h tk E' (List.mem_of_getElem? hc') hC hx F N) (fun y s₂ hq => ?_) fun _ _ e => e
      obtain ⟨h', tk', t', rfl, rfl, F', N'⟩ := hq
      refine ⟨h', tk', news, rfl, F', N', off, trivial, ?_⟩
      refine ih (i + 1) _ (by omega) ?_
      rw [List.take_add_one, hc']
      simpa using kct_snoc hy
  exact key X.cps.size 0 [] (by omega) (by simp only [List.take_zero, List.map_nil]; exact .nil)
end
end
section
local macro_rules | `(tactic| walk_at "dummy 105") => `(tactic| skip)
local macro_rules | `(tactic| walk_at "dummy 106") => `(tactic| skip)
local macro_rules | `(tactic| walk_at "dummy 107") => `(tactic| skip)
local macro_rules | `(tactic| walk_at "dummy 108") => `(tactic| skip)
local macro_rules | `(tactic| walk_at "dummy 109") => `(tactic| skip)
local macro_rules | `(tactic| walk_at "dummy 110") => `(tactic| skip)
local macro_rules | `(tactic| walk_at "dummy 111") => `(tactic| skip)
local macro_rules | `(tactic| walk_at "dummy 112") => `(tactic| skip)
local macro_rules | `(tactic| walk_at "dummy 113") => `(tactic| skip)
local macro_rules | `(tactic| walk_at "dummy 114") => `(tactic| skip)
local macro_rules | `(tactic| walk_at "dummy 115") => `(tactic| skip)
local macro_rules | `(tactic| walk_at "dummy 116") => `(tactic| skip)
local macro_rules | `(tactic| walk_at "dummy 117") => `(tactic| skip)
local macro_rules | `(tactic| walk_at "dummy 118") => `(tactic| skip)
local macro_rules | `(tactic| walk_at "dummy 119") => `(tactic| skip)
local macro_rules | `(tactic| walk_at "dummy 120") => `(tactic| skip)
local macro_rules | `(tactic| walk_at "dummy 121") => `(tactic| skip)
local macro_rules | `(tactic| walk_at "dummy 122") => `(tactic| skip)
local macro_rules | `(tactic| walk_at "dummy 123") => `(tactic| skip)
local macro_rules | `(tactic| walk_at "dummy 124") => `(tactic| skip)
local macro_rules | `(tactic| walk_at "dummy 125") => `(tactic| skip)
local macro_rules | `(tactic| walk_at "dummy 126") => `(tactic| skip)
local macro_rules | `(tactic| walk_at "dummy 127") => `(tactic| skip)
local macro_rules | `(tactic| walk_at "dummy 128") => `(tactic| skip)
local macro_rules | `(tactic| walk_at "dummy 129") => `(tactic| skip)
local macro_rules | `(tactic| walk_at "dummy 130") => `(tactic| skip)
local macro_rules | `(tactic| walk_at "dummy 131") => `(tactic| skip)
local macro_rules | `(tactic| walk_at "dummy 132") => `(tactic| skip)
local macro_rules | `(tactic| walk_at "dummy 133") => `(tactic| skip)
local macro_rules | `(tactic| walk_at "dummy 134") => `(tactic| skip)
local macro_rules | `(tactic| walk_at "dummy 135") => `(tactic| skip)
local macro_rules | `(tactic| walk_at "dummy 136") => `(tactic| skip)
local macro_rules | `(tactic| walk_at "dummy 137") => `(tactic| skip)
local macro_rules | `(tactic| walk_at "dummy 138") => `(tactic| skip)
local macro_rules | `(tactic| walk_at "dummy 139") => `(tactic| skip)
local macro_rules | `(tactic| walk_at "dummy 140") => `(tactic| skip)
local macro_rules | `(tactic| walk_at "dummy 141") => `(tactic| skip)
theorem fresh_MSaid : True := by
  w_top off
  trivial
def bind2 (m : Str → Option Value) (i : Str) (vi : Option Value) (j : Str) (vj : Option Value) : Str → Option Value := fun y => if y = i then vi else if y = j then vj else m y
theorem bind2_start (m : Str → Option Value) (i j : Str) : m = bind2 m i (m i) j (m j) := by
  funext y
  unfold bind2
  by_cases h : y = i
  · rw [if_pos h, h]
  · rw [if_neg h]
    by_cases h' : y = j
    · rw [if_pos h', h']
    · rw [if_neg h']
theorem bind2_bind {m : Str → Option Value} {i j : Str} {vi vj vj' : Option Value} {c : Value} (hij : i ≠ j) : (fun y => if y = i then some c else if y = j then vj else bind2 m i vi j vj' y) = bind2 m i (some c) j vj := by
  funext y
  unfold bind2
  by_cases h : y = i
  · simp only [if_pos h]
  · simp only [if_neg h]
    by_cases h' : y = j
    · simp only [if_pos h']
    · simp only [if_neg h']
def TwoStep (h₀ : Heap) (L : Addr) (s : Shared) (m : Str → Option Value) (i j : Str) (news : List (Addr × Obj)) (I : Int → Prop) (μ : Int → Nat) (Q : Flow → Shared → Prop) (n : Nat) (f : Flow) (s₃ : Shared) : Prop :=
  match f with
  | .next | .cont => ∃ h' tk k' t' vj, s₃ = { s with heap := h', toks := tk } ∧ Fr h₀ L h' (bind2 m i (some (.int k' t')) j vj) ∧ News h₀ L h' news ∧ I k' ∧ μ k' < n
  | .brk => Q .next s₃
  | .ret v => Q (.ret v) s₃
theorem TwoStep.brk {h₀ : Heap} {L : Addr} {s s₃ : Shared} {m : Str → Option Value} {i j : Str} {news : List (Addr × Obj)} {I : Int → Prop} {μ : Int → Nat} {Q : Flow → Shared → Prop} {n : Nat} (h : Q .next s₃) : TwoStep h₀ L s m i j news I μ Q n .brk s₃ := h
theorem TwoStep.intro {h₀ h' : Heap} {L : Addr} {s : Shared} {m : Str → Option Value} {i j : Str} {news : List (Addr × Obj)} {I : Int → Prop} {μ : Int → Nat} {Q : Flow → Shared → Prop} {n tk : Nat} {k' : Int} {t' : Tok} {vi vj vj' : Option Value} (hij : i ≠ j)
    (F : Fr h₀ L h' (fun y => if y = i then some (.int k' t') else if y = j then vj else bind2 m i vi j vj' y)) (N : News h₀ L h' news) (hI : I k') (hm : μ k' < n) : TwoStep h₀ L s m i j news I μ Q n .next { s with heap := h', toks := tk } :=
  ⟨h', tk, k', t', vj, rfl, bind2_bind hij ▸ F, N, hI, hm⟩
theorem While_two {prog : Program} {w : World} {A : Around} {E : Value → Shared → Prop} {Q : Flow → Shared → Prop} {s : Shared} {env : Env} {h₀ : Heap} {L : Addr} {test : Expr} {body : List Stmt} {pos : Pos} {m : Str → Option Value} {news : List (Addr × Obj)} {k₀ : Int} {t₀ : Tok}
    (i j : Str) (I : Int → Prop) (μ : Int → Nat) (F : Fr h₀ L s.heap m) (N : News h₀ L s.heap news) (hmi : m i = some (.int k₀ t₀)) (h0 : I k₀)
    (turn : ∀ k t vj h₁ tk₁, I k → Fr h₀ L h₁ (bind2 m i (some (.int k t)) j vj) → News h₀ L h₁ news →
      wpAny (model prog w) A (isTrue test env (eval test env)) (fun b s₂ =>
        if b = true then wpAny (model prog w) A (execs body env) (TwoStep h₀ L s m i j news I μ Q (μ k)) (fun _ _ => False) s₂ else Q .next s₂) (fun _ _ => False) { s with heap := h₁, toks := tk₁ }) :
    wpAny (model prog w) A (exec (.While test body [] pos) env) Q E s := by
  have hm0 : m = bind2 m i (some (.int k₀ t₀)) j (m j) := by rw [← hmi]; exact bind2_start m i j
  refine wpAny_noRaise (While_inv2 (fun n m₁ news₁ => ∃ k t vj, I k ∧ m₁ = bind2 m i (some (.int k t)) j vj ∧ news₁ = news ∧ n = μ k) F N ⟨k₀, t₀, m j, h0, hm0, rfl, rfl⟩ ?_ PassesOwn.never)
  rintro n m₁ news₁ h₁ tk₁ F₁ N₁ ⟨k, t, vj, hI, rfl, rfl, rfl⟩
  refine wpAny_mono (turn k t vj h₁ tk₁ hI F₁ N₁) (fun b s₂ h₂ => ?_) fun _ _ e => e
  cases b with
  | false => exact h₂
  | true =>
    rw [if_pos rfl] at h₂ ⊢
    refine wpAny_mono h₂ (fun f s₃ h₃ => ?_) fun _ _ e => e
    cases f with
    | next =>
      obtain ⟨h', tk, k', t', vj', rfl, F₃, N₃, hI', hlt⟩ := h₃
      exact ⟨h', tk, _, _, _, rfl, F₃, N₃, hlt, k', t', vj', hI', rfl, rfl, rfl⟩
    | cont =>
      obtain ⟨h', tk, k', t', vj', rfl, F₃, N₃, hI', hlt⟩ := h₃
      exact ⟨h', tk, _, _, _, rfl, F₃, N₃, hlt, k', t', vj', hI', rfl, rfl, rfl⟩
    | brk => exact h₃
    | ret v => exact h₃
def supD (c : Nat) : Str := Txt.item (Str.ofString "⁰¹²³⁴⁵⁶⁷⁸⁹") ((c : Int) - 48)
def raisedT (K : Int) : Str := Txt.join (Str.ofString "") ((dg10 K.natAbs).map supD)
theorem lTxt_le {W dg : Int} (h0 : 0 ≤ W) (hg0 : 0 ≤ dg) (hg6 : dg ≤ 6) (h1 : W < 10 ^ (dg + 1).toNat) : (lTxt W dg).length ≤ 30 := by
  have hl : ((ljust0 W dg).length : Int) = dg + 1 := rjust_len h0 hg0 h1
  have h2 := PyProof.Txt.length_slice_le (ljust0 W dg) none (some 1)
  have h3 := PyProof.Txt.length_slice_le (ljust0 W dg) (some 1) none
  have e1 : (Str.ofString ".").length = 1 := rfl
  have e2 : (Str.ofString "").length = 0 := rfl
  unfold lTxt
  split
  · rw [PySem.Str.length_append]; omega
  · rw [PySem.Str.length_append, PySem.Str.length_append]; omega
def sTxt (W dg K : Int) : Str := lTxt W dg ++ Str.ofString " x 10" ++ (if K < 0 then Str.ofString "⁻" else Str.ofString "") ++ raisedT K
theorem sTxt_n {W dg K : Int} (h : K < 0) : sTxt W dg K = lTxt W dg ++ Str.ofString " x 10" ++ Str.ofString "⁻" ++ raisedT K := by
  unfold sTxt; rw [if_pos h]
theorem sTxt_p {W dg K : Int} (h : ¬ K < 0) : sTxt W dg K = lTxt W dg ++ Str.ofString " x 10" ++ Str.ofString "" ++ raisedT K := by
  unfold sTxt; rw [if_neg h]
def lM (n d dg p : Int) : Int := lput (lnN n d * 10 ^ (mx0 (-p)).toNat) (lnD * 10 ^ (mx0 p).toNat) dg
local macro_rules | `(tactic| walk_at "call ref") => `(tactic| (k_here; (with_reducible show wpAny _ _ (call (Value.ref 21) [Value.int _ _, Value.int _ _]) _ _ _); k_dflt (refine' rounded_ok _ _ _ _ ?hd9 ?hsd9 _ _ _ _ _ _ _ _ _ _ _ _ _ _ _ _ _ ?k1 ?k2 ?k3 ?k4 ?k5 ?kK ?kd9 ?ku9 ?_; (case k1 => k_asm); (case k2 => k_asm); (case k3 => k_asm); (case k4 => k_asm); (case k5 => k_asm); (case kK => first | exact rfl | assumption); (case hd9 => first | assumption | exact mul_pow2_pos (by assumption) _ | exact mul_pow10_pos (by assumption) _); (case hsd9 => exact Sz.le (by walk_at "my sz") (by decide)); (case kd9 => walk_at "my room"); (case ku9 => walk_at "my units")); (intro t9 h9 tk9 F9 N9; (try dsimp only); (try k_fold))))
local macro_rules | `(tactic| walk_at "call ref") => `(tactic| (k_here; (with_reducible show wpAny _ _ (call (Value.ref 109) [Value.int _ _, Value.int _ _]) _ _ _); k_dflt (refine' double_new _ _ _ _ ?hd9 ?hn9 ?hsd9 ?hov9 _ _ _ _ _ _ _ _ _ _ _ _ _ _ _ _ _ ?k1 ?k2 ?k3 ?k4 ?k5 ?kK ?kd9 ?ku9 ?_; (case k1 => k_asm); (case k2 => k_asm); (case k3 => k_asm); (case k4 => k_asm); (case k5 => k_asm); (case kK => first | exact rfl | assumption); (case hd9 => assumption); (case hn9 => assumption); (case hsd9 => assumption); (case hov9 => assumption); (case kd9 => walk_at "my room"); (case ku9 => walk_at "my units")); (intro x9 dx9 t9 u9 v9 y9 h9 tk9 F9 N9; (try dsimp only); (try k_fold))))
local macro_rules | `(tactic| walk_at "call ref") => `(tactic| (k_here; (with_reducible show wpAny _ _ (call (Value.ref 160) [Value.ref _, Value.int _ _]) _ _ _); k_dflt (refine' whole_log_ok _ _ ?hd9 ?hn9 ?hsd9 ?hx9 ?hdx9 ?hup9 ?hdn9 _ _ _ _ _ _ _ _ _ _ _ _ _ _ _ _ _ ?k1 ?k2 ?k3 ?k4 ?k5 ?kK ?kd9 ?ku9 ?_; (case k1 => k_asm); (case k2 => k_asm); (case k3 => k_asm); (case k4 => k_asm); (case k5 => k_asm); (case kK => first | exact rfl | assumption); (case hx9 => k_mem); (case hdx9 => k_mem); (case hd9 => assumption); (case hn9 => assumption); (case hsd9 => assumption); (case hup9 => assumption); (case hdn9 => assumption); (case kd9 => walk_at "my room"); (case ku9 => walk_at "my units")); (intro j9 t9 h9 tk9 l9 m9 n9 F9 N9; (try dsimp only); (try k_fold))))
local macro_rules | `(tactic| walk_at "call ref") => `(tactic| (k_here; (with_reducible show wpAny _ _ (call (Value.ref 190) [Value.int _ _, Value.int _ _]) _ _ _); k_dflt (refine' near_ok _ _ _ _ ?hd9 ?he9 ?hn9 ?hsd9 ?hr9 ?hq9 _ _ _ _ _ _ _ _ _ _ _ _ _ _ _ _ _ ?k1 ?k2 ?k3 ?k4 ?k5 ?kK ?kd9 ?ku9 ?_; (case k1 => k_asm); (case k2 => k_asm); (case k3 => k_asm); (case k4 => k_asm); (case k5 => k_asm); (case kK => first | exact rfl | assumption); (case hd9 => assumption); (case he9 => assumption); (case hn9 => assumption); (case hsd9 => assumption); (case hr9 => assumption); (case hq9 => assumption); (case kd9 => walk_at "my room"); (case ku9 => walk_at "my units")); (intro D9 t9 u9 c9 h9 tk9 F9 N9; (try dsimp only); (try k_fold))))
local macro_rules | `(tactic| walk_at "call ref") => `(tactic| (k_here; (with_reducible show wpAny _ _ (call (Value.ref 197) [Value.int _ _, Value.int _ _, Value.int _ _]) _ _ _); k_dflt (refine' put_ok _ _ _ _ _ _ ?hd9 ?he9 ?hn9 ?hsd9 ?hr9 ?hq9 _ _ _ _ _ _ _ _ _ _ _ _ _ _ _ _ _ ?k1 ?k2 ?k3 ?k4 ?k5 ?kK ?kd9 ?ku9 ?_; (case k1 => k_asm); (case k2 => k_asm); (case k3 => k_asm); (case k4 => k_asm); (case k5 => k_asm); (case kK => first | exact rfl | assumption); (case hd9 => exact mul_pow10_pos (by assumption) _); (case he9 => exact Int.ne_of_gt (mul_pow10_pos (by assumption) _)); (case hn9 => exact Sz.le (by walk_at "my sz") (by decide)); (case hsd9 => exact Sz.le (by walk_at "my sz") (by decide)); (case hr9 => assumption); (case hq9 => assumption); (case kd9 => walk_at "my room"); (case ku9 => walk_at "my units")); (intro t9 h9 tk9 F9 N9; (try dsimp only); (try k_fold))))
local macro_rules | `(tactic| walk_at "call ref") => `(tactic| (k_here; (with_reducible show wpAny _ _ (call (Value.ref 204) [Value.int _ _, Value.int _ _]) _ _ _); k_dflt (refine' text_ok _ _ _ _ ?hd9 ?he9 ?hn9 ?hr9 ?hq9 _ _ _ _ _ _ _ _ _ _ _ _ _ _ _ _ _ ?k1 ?k2 ?k3 ?k4 ?k5 ?kK ?kd9 ?ku9 ?_; (case k1 => k_asm); (case k2 => k_asm); (case k3 => k_asm); (case k4 => k_asm); (case k5 => k_asm); (case kK => first | exact rfl | assumption); (case hd9 => assumption); (case he9 => assumption); (case hn9 => assumption); (case hr9 => assumption); (case hq9 => assumption); (case kd9 => walk_at "my room"); (case ku9 => walk_at "my units")); (intro t9 h9 tk9 F9 N9; (try dsimp only); (try k_fold))))
local macro_rules | `(tactic| walk_at "call ref") => `(tactic| (k_here; (with_reducible show wpAny _ _ (call (Value.ref 146) [Value.str _ _]) _ _ _); k_dflt (refine' plain_ok _ _ ?hd9 ?he9 ?hn9 _ _ _ _ _ _ _ _ _ _ _ _ _ _ _ _ _ ?k1 ?k2 ?k3 ?k4 ?k5 ?kK ?kd9 ?ku9 ?_; (case k1 => k_asm); (case k2 => k_asm); (case k3 => k_asm); (case k4 => k_asm); (case k5 => k_asm); (case kK => first | exact rfl | assumption); (case hd9 => first | assumption | (simp only [PySem.Str.length_append]; have hem9 : Str.empty.length = 0 := rfl; omega)); (case he9 => assumption); (case hn9 => assumption); (case kd9 => walk_at "my room"); (case ku9 => walk_at "my units")); (intro h9 tk9 F9 N9; (try dsimp only); (try k_fold))))
local macro_rules | `(tactic| walk_at "exec While") => `(tactic| (k_here; refine brk ?_))
local macro_rules | `(tactic| walk_at "exec While Constant") => `(tactic| (k_here; refine brk ?_))
local macro_rules | `(tactic| walk_at "TwoStep") => `(tactic| first | refine TwoStep.brk ?_ | refine brk ?_)
local macro_rules | `(tactic| walk_at "storeName") => `(tactic| (k_here; (with_reducible show wpAny _ _ (storeName _ (Str.ofString "m") (Value.int _ _)) _ _ _); refine brk ?_))
local macro_rules | `(tactic| walk_at "eval ListComp") => `(tactic| (k_here; refine brk ?_))
local macro_rules | `(tactic| walk_at "call type:str") => `(tactic| (k_here; refine brk ?_))
theorem said_ok {w : World} {p : Program} {loose : List Str} {mean : ExcName → Option Value} {mg mb : Str → Option Value} {news : List (Addr × Obj)} (n d dg least K : Int) (tn td tg tl : Tok) (hd : 0 < d) (hdne : d ≠ 0) (hn0 : n ≠ 0) (hn : Sz n 700) (hsd : Sz d 700) (hdr : 0 ≤ lnDrop n d) (hdr2 : lnDrop n d ≤ 900) (hg0 : 0 ≤ dg) (hg6 : dg ≤ 6)
    (ha : Sz (lnN n d) 2000) (hb : Sz lnD 300) (hb0 : 0 < lnD) (hl : -250 ≤ least) (hlK : least ≤ K) (hK : K ≤ 350) (hm0 : 0 ≤ lM n d dg K) (hmK : lM n d dg K < 10 ^ (dg + 1).toNat) (hmin : ∀ p, least ≤ p → p < K → 10 ^ (dg + 1).toNat ≤ lM n d dg p) :
    FnC w p loose mean mg mb 209 news 4 30 [.int n tn, .int d td, .int dg tg, .int least tl] fun h₀ L m s Q => ∀ (t : Tok) (h' : Heap) (tk' : Nat), Fr h₀ L h' m → News h₀ L h' news → Q (.str (sTxt (lM n d dg K) dg K) t) { s with heap := h', toks := tk' } := by
  unfold FnC
  k_fill
  intro dp un gd cn cs a ccd cl outer A₀ base h₀ L m s Q E B F X N T hk hdp hun hret
  refine wpAny_call ?_
  k_dflt (walk_at "my enter")
  walk_at "my steps"
  · exfalso; omega
  · unfold Brk
    k_dflt (refine While_two (Str.ofString "power") (Str.ofString "m") (fun k => least ≤ k ∧ k ≤ K) (fun k => (K - k).toNat) (by k_asm) (by k_asm) (by rfl) ⟨Int.le_refl _, hlK⟩ ?_)
    intro k t vj h₁ tk₁ hI F₁ N₁
    k_sweep
    obtain ⟨hI0, hI1⟩ := hI
    have hI2 : -250 ≤ k := by omega
    have hI3 : k ≤ 350 := by omega
    walk_at "my steps"
    unfold Brk
    refine gen_int ?_
    intro W hWe
    replace hWe : W = lM n d dg k := hWe
    k_dflt (refine storeX_L (by k_asm) (by k_asm) ?_ (by rfl) (by rfl)); intro h' F' N'; (try k_sweep)
    walk_at "my steps"
    · rename W < _ => hW2
      have hkK : k = K := by
        rcases Int.lt_or_le k K with q | q
        · exact absurd (hmin k hI0 q) (Int.not_le.mpr (by rw [← hWe]; exact hW2))
        · omega
      have hW0 : 0 ≤ W := by rw [hWe, hkK]; exact hm0
      have hWs : Sz W 64 := Sz.of10 hW0 (Int.lt_of_lt_of_le hW2 (pow10_7 (by omega)))
      unfold Brk
      k_dflt (refine ListComp_S (cl := []) (by k_asm) (by with_unfolding_all rfl) (by decide) (by with_unfolding_all rfl) (by decide) (by with_unfolding_all rfl) rfl ?_)
      walk_at "my steps"
      unfold Brk
      refine P.str_of_int (Sz.shown (k := 64) ⟨by omega⟩ (by decide)) ?_
      have hascii : (Str.ofString (toString (if k < 0 then -k else k))).cps.all (· < 128) = true := by
        have e : (if k < 0 then -k else k) = ((k.natAbs : Nat) : Int) := by omega
        rw [e]; exact dtx_ascii k.natAbs
      have hlen : (Str.ofString (toString (if k < 0 then -k else k))).cps.size ≤ sizeLine := by
        have e : (if k < 0 then -k else k) = ((k.natAbs : Nat) : Int) := by omega
        rw [e]
        show (dtx (k.natAbs : Int)).length ≤ _
        rw [dtx_len]
        exact Nat.le_trans (dg10_le (k := 4) (by decide) (by omega)) (by decide)
      have hdig : ∀ c ∈ (Str.ofString (toString (if k < 0 then -k else k))).cps.toList, 48 ≤ c ∧ c ≤ 57 := by
        have e : (if k < 0 then -k else k) = ((k.natAbs : Nat) : Int) := by omega
        rw [e]
        intro c hc
        have hc' : c ∈ (dtx (k.natAbs : Int)).cps.toList := hc
        rw [dtx_nat] at hc'
        exact dg10_all hc'
      refine ⟨_, _, _, rfl, hascii, by k_asm, by k_asm, hlen, fun g => comp_signs supD ?_ ?_⟩
      · intro c t I oI C oC D m₂ ys h tk E' hc hoC hm₂ F₂ N₂
        have hcd := hdig c hc
        k_sweep
        walk_at "my steps"
        refine KIN.call_text (one_digit c (by omega) (by omega)) (by show 1 ≤ 640; decide) ?_
        walk_at "my steps"
        · k_asm
        · k_asm
      · intro ys hys
        intro D h tk F₂ N₂ _
        k_sweep
        walk_at "my steps"
        have e0 : (Str.ofString (toString (if k < 0 then -k else k))).cps.toList = dg10 k.natAbs := by
          have e : (if k < 0 then -k else k) = ((k.natAbs : Nat) : Int) := by omega
          rw [e]; exact dtx_nat k.natAbs
        have hcar := hys.carried
        rw [List.map_map] at hcar
        refine KT.join_1 (l := (Str.ofString (toString (if k < 0 then -k else k))).cps.toList) (g := supD) ⟨_, (N₂ _ (List.mem_cons_self ..)).1, rfl, _, rfl⟩ hcar (fun _ _ => rfl) (by rw [e0]; exact Nat.le_trans (dg10_le (k := 4) (by decide) (by omega)) (by decide)) ?_
        intro tj kj hjl
        rw [e0] at hjl ⊢
        have hlt := lTxt_le hW0 hg0 hg6 hW2
        have hrl : (raisedT k).length ≤ 1000 := by
          show (Txt.join _ _).length ≤ _
          rw [hjl]
          exact Nat.le_trans (dg10_le (k := 4) (by decide) (by omega)) (by decide)
        obtain ⟨R, hR⟩ : ∃ R, R = raisedT k := ⟨_, rfl⟩
        have hR' : Txt.join (Str.ofString "") (List.map supD (dg10 k.natAbs)) = R := hR.symm
        rw [hR']
        rw [← hR] at hrl
        try dsimp only
        walk_at "my steps"
        all_goals (subst hR; rw [hkK] at hWe ⊢; rw [← hWe] at hret)
        · rw [sTxt_n (by omega)] at hret
          exact hret _ _ _ (by k_asm) (news_tail (news_tail (by assumption)))
        · rw [sTxt_p (by omega)] at hret
          exact hret _ _ _ (by k_asm) (news_tail (news_tail (by assumption)))
    · unfold Brk
      have hk1 : k < K := by
        rcases Int.lt_or_le k K with q | q
        · exact q
        · have e : k = K := by omega
          rw [e] at hWe
          exfalso
          rename ¬ W < _ => hge
          rw [hWe] at hge
          exact hge hmK
      with_unfolding_all exact TwoStep.intro (by decide) (by assumption) (by assumption) ⟨by omega, by omega⟩ (by show (K - (k + 1)).toNat < (K - k).toNat; omega)
end
section
local macro_rules | `(tactic| walk_at "dummy 142") => `(tactic| skip)
local macro_rules | `(tactic| walk_at "dummy 143") => `(tactic| skip)
local macro_rules | `(tactic| walk_at "dummy 144") => `(tactic| skip)
local macro_rules | `(tactic| walk_at "dummy 145") => `(tactic| skip)
local macro_rules | `(tactic| walk_at "dummy 146") => `(tactic| skip)
local macro_rules | `(tactic| walk_at "dummy 147") => `(tactic| skip)
local macro_rules | `(tactic| walk_at "dummy 148") => `(tactic| skip)
local macro_rules | `(tactic| walk_at "dummy 149") => `(tactic| skip)
local macro_rules | `(tactic| walk_at "dummy 150") => `(tactic| skip)
local macro_rules | `(tactic| walk_at "dummy 151") => `(tactic| skip)
local macro_rules | `(tactic| walk_at "dummy 152") => `(tactic| skip)
local macro_rules | `(tactic| walk_at "dummy 153") => `(tactic| skip)
local macro_rules | `(tactic| walk_at "dummy 154") => `(tactic| skip)
local macro_rules | `(tactic| walk_at "dummy 155") => `(tactic| skip)
local macro_rules | `(tactic| walk_at "dummy 156") => `(tactic| skip)
local macro_rules | `(tactic| walk_at "dummy 157") => `(tactic| skip)
local macro_rules | `(tactic| walk_at "dummy 158") => `(tactic| skip)
local macro_rules | `(tactic| walk_at "dummy 159") => `(tactic| skip)
local macro_rules | `(tactic| walk_at "dummy 160") => `(tactic| skip)
local macro_rules | `(tactic| walk_at "dummy 161") => `(tactic| skip)
local macro_rules | `(tactic| walk_at "dummy 162") => `(tactic| skip)
local macro_rules | `(tactic| walk_at "dummy 163") => `(tactic| skip)
local macro_rules | `(tactic| walk_at "dummy 164") => `(tactic| skip)
local macro_rules | `(tactic| walk_at "dummy 165") => `(tactic| skip)
local macro_rules | `(tactic| walk_at "dummy 166") => `(tactic| skip)
local macro_rules | `(tactic| walk_at "dummy 167") => `(tactic| skip)
local macro_rules | `(tactic| walk_at "dummy 168") => `(tactic| skip)
local macro_rules | `(tactic| walk_at "dummy 169") => `(tactic| skip)
local macro_rules | `(tactic| walk_at "dummy 170") => `(tactic| skip)
local macro_rules | `(tactic| walk_at "dummy 171") => `(tactic| skip)
local macro_rules | `(tactic| walk_at "dummy 172") => `(tactic| skip)
local macro_rules | `(tactic| walk_at "dummy 173") => `(tactic| skip)
local macro_rules | `(tactic| walk_at "dummy 174") => `(tactic| skip)
local macro_rules | `(tactic| walk_at "dummy 175") => `(tactic| skip)
local macro_rules | `(tactic| walk_at "dummy 176") => `(tactic| skip)
local macro_rules | `(tactic| walk_at "dummy 177") => `(tactic| skip)
local macro_rules | `(tactic| walk_at "dummy 178") => `(tactic| skip)
local macro_rules | `(tactic| walk_at "dummy 179") => `(tactic| skip)
local macro_rules | `(tactic| walk_at "dummy 180") => `(tactic| skip)
local macro_rules | `(tactic| walk_at "dummy 181") => `(tactic| skip)
local macro_rules | `(tactic| walk_at "dummy 182") => `(tactic| skip)
local macro_rules | `(tactic| walk_at "dummy 183") => `(tactic| skip)
local macro_rules | `(tactic| walk_at "dummy 184") => `(tactic| skip)
local macro_rules | `(tactic| walk_at "dummy 185") => `(tactic| skip)
local macro_rules | `(tactic| walk_at "dummy 186") => `(tactic| skip)
local macro_rules | `(tactic| walk_at "dummy 187") => `(tactic| skip)
local macro_rules | `(tactic| walk_at "dummy 188") => `(tactic| skip)
local macro_rules | `(tactic| walk_at "dummy 189") => `(tactic| skip)
local macro_rules | `(tactic| walk_at "dummy 190") => `(tactic| skip)
local macro_rules | `(tactic| walk_at "dummy 191") => `(tactic| skip)
local macro_rules | `(tactic| walk_at "dummy 192") => `(tactic| skip)
theorem fresh_MSaidZ : True := by
  w_top off
  trivial
def s0Txt (dg : Int) : Str := Str.ofString "0" ++ (if dg = 0 then Str.ofString "" else Str.ofString "." ++ Txt.mul (Str.ofString "0") dg) ++ Str.ofString " x 10⁰"
theorem s0Txt_d {dg : Int} (h : dg ≠ 0) : s0Txt dg = Str.ofString "0" ++ (Str.ofString "." ++ Txt.mul (Str.ofString "0") dg) ++ Str.ofString " x 10⁰" := by
  unfold s0Txt; rw [if_neg h]
theorem s0Txt_0 {dg : Int} (h : dg = 0) : s0Txt dg = Str.ofString "0" ++ Str.ofString "" ++ Str.ofString " x 10⁰" := by
  unfold s0Txt; rw [if_pos h]
theorem said0_ok {w : World} {p : Program} {loose : List Str} {mean : ExcName → Option Value} {mg mb : Str → Option Value} {news : List (Addr × Obj)} (d dg least : Int) (tn td tg tl : Tok) (hg0 : 0 ≤ dg) (hg6 : dg ≤ 6) :
    FnC w p loose mean mg mb 209 news 4 30 [.int 0 tn, .int d td, .int dg tg, .int least tl] fun h₀ L m s Q => ∀ (t : Tok) (h' : Heap) (tk' : Nat), Fr h₀ L h' m → News h₀ L h' news → Q (.str (s0Txt dg) t) { s with heap := h', toks := tk' } := by
  unfold FnC
  k_fill
  intro dp un gd cn cs a ccd cl outer A₀ base h₀ L m s Q E B F X N T hk hdp hun hret
  refine wpAny_call ?_
  k_dflt (walk_at "my enter")
  walk_at "my steps"
  all_goals (first | rw [s0Txt_d (by assumption)] at hret | rw [s0Txt_0 (by assumption)] at hret)
  all_goals exact hret _ _ _ (by k_asm) (by k_asm)
end
section
local macro_rules | `(tactic| walk_at "dummy 193") => `(tactic| skip)
local macro_rules | `(tactic| walk_at "dummy 194") => `(tactic| skip)
local macro_rules | `(tactic| walk_at "dummy 195") => `(tactic| skip)
local macro_rules | `(tactic| walk_at "dummy 196") => `(tactic| skip)
local macro_rules | `(tactic| walk_at "dummy 197") => `(tactic| skip)
local macro_rules | `(tactic| walk_at "dummy 198") => `(tactic| skip)
local macro_rules | `(tactic| walk_at "dummy 199") => `(tactic| skip)
local macro_rules | `(tactic| walk_at "dummy 200") => `(tactic| skip)
local macro_rules | `(tactic| walk_at "dummy 201") => `(tactic| skip)
local macro_rules | `(tactic| walk_at "dummy 202") => `(tactic| skip)
local macro_rules | `(tactic| walk_at "dummy 203") => `(tactic| skip)
local macro_rules | `(tactic| walk_at "dummy 204") => `(tactic| skip)
local macro_rules | `(tactic| walk_at "dummy 205") => `(tactic| skip)
local macro_rules | `(tactic| walk_at "dummy 206") => `(tactic| skip)
local macro_rules | `(tactic| walk_at "dummy 207") => `(tactic| skip)
local macro_rules | `(tactic| walk_at "dummy 208") => `(tactic| skip)
local macro_rules | `(tactic| walk_at "dummy 209") => `(tactic| skip)
local macro_rules | `(tactic| walk_at "dummy 210") => `(tactic| skip)
local macro_rules | `(tactic| walk_at "dummy 211") => `(tactic| skip)
local macro_rules | `(tactic| walk_at "dummy 212") => `(tactic| skip)
local macro_rules | `(tactic| walk_at "dummy 213") => `(tactic| skip)
local macro_rules | `(tactic| walk_at "dummy 214") => `(tactic| skip)
local macro_rules | `(tactic| walk_at "dummy 215") => `(tactic| skip)
local macro_rules | `(tactic| walk_at "dummy 216") => `(tactic| skip)
local macro_rules | `(tactic| walk_at "dummy 217") => `(tactic| skip)
local macro_rules | `(tactic| walk_at "dummy 218") => `(tactic| skip)
local macro_rules | `(tactic| walk_at "dummy 219") => `(tactic| skip)
local macro_rules | `(tactic| walk_at "dummy 220") => `(tactic| skip)
local macro_rules | `(tactic| walk_at "dummy 221") => `(tactic| skip)
local macro_rules | `(tactic| walk_at "dummy 222") => `(tactic| skip)
local macro_rules | `(tactic| walk_at "dummy 223") => `(tactic| skip)
local macro_rules | `(tactic| walk_at "dummy 224") => `(tactic| skip)
local macro_rules | `(tactic| walk_at "dummy 225") => `(tactic| skip)
local macro_rules | `(tactic| walk_at "dummy 226") => `(tactic| skip)
local macro_rules | `(tactic| walk_at "dummy 227") => `(tactic| skip)
local macro_rules | `(tactic| walk_at "dummy 228") => `(tactic| skip)
local macro_rules | `(tactic| walk_at "dummy 229") => `(tactic| skip)
local macro_rules | `(tactic| walk_at "dummy 230") => `(tactic| skip)
local macro_rules | `(tactic| walk_at "dummy 231") => `(tactic| skip)
local macro_rules | `(tactic| walk_at "dummy 232") => `(tactic| skip)
local macro_rules | `(tactic| walk_at "dummy 233") => `(tactic| skip)
local macro_rules | `(tactic| walk_at "dummy 234") => `(tactic| skip)
local macro_rules | `(tactic| walk_at "dummy 235") => `(tactic| skip)
local macro_rules | `(tactic| walk_at "dummy 236") => `(tactic| skip)
local macro_rules | `(tactic| walk_at "dummy 237") => `(tactic| skip)
local macro_rules | `(tactic| walk_at "dummy 238") => `(tactic| skip)
local macro_rules | `(tactic| walk_at "dummy 239") => `(tactic| skip)
local macro_rules | `(tactic| walk_at "dummy 240") => `(tactic| skip)
local macro_rules | `(tactic| walk_at "dummy 241") => `(tactic| skip)
local macro_rules | `(tactic| walk_at "dummy 242") => `(tactic| skip)
local macro_rules | `(tactic| walk_at "dummy 243") => `(tactic| skip)
local macro_rules | `(tactic| walk_at "dummy 244") => `(tactic| skip)
theorem fresh_MPlain : True := by
  w_top off
  trivial
def notDig (a : Str) : Bool := !!(Builtin.Str.occurrences (Str.ofString "0123456789") a 0 (Str.ofString "0123456789").length 1).isEmpty
theorem notDig_one : ∀ c : Nat, c < 58 → 48 ≤ c → notDig ⟨#[c]⟩ = false := by decide +kernel
theorem filter_digs {X : Str} (hd : ∀ c ∈ X.cps.toList, 48 ≤ c ∧ c ≤ 57) : List.filter notDig (signs X) = [] := by
  unfold signs
  rw [List.filter_eq_nil_iff]
  intro a ha
  obtain ⟨c, hc, rfl⟩ := List.mem_map.mp ha
  have h := hd c hc
  rw [notDig_one c (by omega) h.1]
  exact Bool.false_ne_true
theorem carried_nil {vs : List Value} (h : CarriedAll vs []) : vs = [] := by cases h; rfl
local macro_rules | `(tactic| walk_at "compareOp Eq ref ref") => `(tactic| (k_here; refine brk ?_))
theorem plain_ok {w : World} {p : Program} {loose : List Str} {mean : ExcName → Option Value} {mg mb : Str → Option Value} {news : List (Addr × Obj)} (X : Str) (tx : Tok) (hX : X.length ≤ 60) (hne : (X != Str.ofString "") = true) (hd : ∀ c ∈ X.cps.toList, 48 ≤ c ∧ c ≤ 57) :
    FnC w p loose mean mg mb 146 news 2 100 [.str X tx] fun h₀ L m s Q => ∀ (h' : Heap) (tk' : Nat), Fr h₀ L h' m → News h₀ L h' news → Q (.bool true) { s with heap := h', toks := tk' } := by
  unfold FnC
  k_fill
  intro dp un gd cn cs a ccd cl outer A₀ base h₀ L m s Q E B F X' N T hk hdp hun hret
  refine wpAny_call ?_
  k_dflt (walk_at "my enter")
  walk_at "my steps"
  unfold Brk
  rename CarriedAll _ _ => hc
  have hf := filter_digs hd
  unfold notDig at hf
  rw [hf] at hc
  replace hc := carried_nil hc
  rename News _ _ _ ((_, _) :: (_, _) :: _) => NN
  rw [hc] at NN
  refine eq_intsK (vs := []) (us := []) (ns := []) (ms := []) ⟨_, (NN _ (List.mem_cons_of_mem _ (List.mem_cons_self ..))).1, rfl, _, rfl⟩ .nil ⟨_, (NN _ (List.mem_cons_self ..)).1, rfl, _, rfl⟩ .nil (by walk_at "my units") ?_
  walk_at "my steps"
  exact hret _ _ (by k_asm) (news_tail (news_tail (by assumption)))
end
section
local macro_rules | `(tactic| walk_at "dummy 245") => `(tactic| skip)
local macro_rules | `(tactic| walk_at "dummy 246") => `(tactic| skip)
local macro_rules | `(tactic| walk_at "dummy 247") => `(tactic| skip)
local macro_rules | `(tactic| walk_at "dummy 248") => `(tactic| skip)
local macro_rules | `(tactic| walk_at "dummy 249") => `(tactic| skip)
local macro_rules | `(tactic| walk_at "dummy 250") => `(tactic| skip)
local macro_rules | `(tactic| walk_at "dummy 251") => `(tactic| skip)
local macro_rules | `(tactic| walk_at "dummy 252") => `(tactic| skip)
local macro_rules | `(tactic| walk_at "dummy 253") => `(tactic| skip)
local macro_rules | `(tactic| walk_at "dummy 254") => `(tactic| skip)
local macro_rules | `(tactic| walk_at "dummy 255") => `(tactic| skip)
local macro_rules | `(tactic| walk_at "dummy 256") => `(tactic| skip)
local macro_rules | `(tactic| walk_at "dummy 257") => `(tactic| skip)
local macro_rules | `(tactic| walk_at "dummy 258") => `(tactic| skip)
local macro_rules | `(tactic| walk_at "dummy 259") => `(tactic| skip)
local macro_rules | `(tactic| walk_at "dummy 260") => `(tactic| skip)
local macro_rules | `(tactic| walk_at "dummy 261") => `(tactic| skip)
local macro_rules | `(tactic| walk_at "dummy 262") => `(tactic| skip)
local macro_rules | `(tactic| walk_at "dummy 263") => `(tactic| skip)
local macro_rules | `(tactic| walk_at "dummy 264") => `(tactic| skip)
local macro_rules | `(tactic| walk_at "dummy 265") => `(tactic| skip)
local macro_rules | `(tactic| walk_at "dummy 266") => `(tactic| skip)
local macro_rules | `(tactic| walk_at "dummy 267") => `(tactic| skip)
local macro_rules | `(tactic| walk_at "dummy 268") => `(tactic| skip)
local macro_rules | `(tactic| walk_at "dummy 269") => `(tactic| skip)
local macro_rules | `(tactic| walk_at "dummy 270") => `(tactic| skip)
local macro_rules | `(tactic| walk_at "dummy 271") => `(tactic| skip)
local macro_rules | `(tactic| walk_at "dummy 272") => `(tactic| skip)
local macro_rules | `(tactic| walk_at "dummy 273") => `(tactic| skip)
local macro_rules | `(tactic| walk_at "dummy 274") => `(tactic| skip)
local macro_rules | `(tactic| walk_at "dummy 275") => `(tactic| skip)
local macro_rules | `(tactic| walk_at "dummy 276") => `(tactic| skip)
local macro_rules | `(tactic| walk_at "dummy 277") => `(tactic| skip)
local macro_rules | `(tactic| walk_at "dummy 278") => `(tactic| skip)
local macro_rules | `(tactic| walk_at "dummy 279") => `(tactic| skip)
local macro_rules | `(tactic| walk_at "dummy 280") => `(tactic| skip)
local macro_rules | `(tactic| walk_at "dummy 281") => `(tactic| skip)
local macro_rules | `(tactic| walk_at "dummy 282") => `(tactic| skip)
local macro_rules | `(tactic| walk_at "dummy 283") => `(tactic| skip)
local macro_rules | `(tactic| walk_at "dummy 284") => `(tactic| skip)
local macro_rules | `(tactic| walk_at "dummy 285") => `(tactic| skip)
local macro_rules | `(tactic| walk_at "dummy 286") => `(tactic| skip)
local macro_rules | `(tactic| walk_at "dummy 287") => `(tactic| skip)
local macro_rules | `(tactic| walk_at "dummy 288") => `(tactic| skip)
local macro_rules | `(tactic| walk_at "dummy 289") => `(tactic| skip)
local macro_rules | `(tactic| walk_at "dummy 290") => `(tactic| skip)
local macro_rules | `(tactic| walk_at "dummy 291") => `(tactic| skip)
local macro_rules | `(tactic| walk_at "dummy 292") => `(tactic| skip)
local macro_rules | `(tactic| walk_at "dummy 293") => `(tactic| skip)
local macro_rules | `(tactic| walk_at "dummy 294") => `(tactic| skip)
local macro_rules | `(tactic| walk_at "dummy 295") => `(tactic| skip)
local macro_rules | `(tactic| walk_at "dummy 296") => `(tactic| skip)
local macro_rules | `(tactic| walk_at "dummy 297") => `(tactic| skip)
local macro_rules | `(tactic| walk_at "dummy 298") => `(tactic| skip)
theorem fresh_MRead : True := by
  w_top off
  trivial
theorem ite_kf {b : Bool} {P Q : Prop} (e : b = false) (h : Q) : if b = true then P else Q := by rw [e, if_neg Bool.false_ne_true]; exact h
theorem ite_kt {b : Bool} {P Q : Prop} (e : b = true) (h : P) : if b = true then P else Q := by rw [e, if_pos rfl]; exact h
/-- what a text says -/
structure RF (X W0 W D M PW PL : Str) (neg : Bool) (n p : Int) : Prop where
  lower : Txt.lower (Txt.strip X) = W0
  lenX : X.length ≤ 60
  lenW0 : W0.length ≤ 60
  minus : (Txt.slice W0 none (some 1) == Str.ofString "-") = neg
  signs : ([Str.ofString "-", Str.ofString "+"].any fun x => x == Txt.slice W0 none (some 1)) = neg
  cut : (if neg = true then Txt.slice W0 (some 1) none else W0) = W
  lenW : W.length ≤ 60
  inf : ([Str.ofString "inf", Str.ofString "infinity"].any fun x => x == W) = false
  nan : (W == Str.ofString "nan") = false
  part : Txt.partition W (Str.ofString "e") = (D, M, PW)
  dot : Txt.partition D (Str.ofString ".") = (D, Str.empty, Str.empty)
  lenD : D.length ≤ 60
  digs : ∀ c ∈ (D ++ Str.empty).cps.toList, 48 ≤ c ∧ c ≤ 57
  dne : ((D ++ Str.empty) != Str.ofString "") = true
  lenM : M.length ≤ 60
  lenP : PW.length ≤ 60
  mark : (M = Str.empty ∧ PW = Str.empty ∧ p = 0) ∨ (M = Str.ofString "e" ∧ PW.length ≠ 0 ∧ Txt.lstripChars PW (Str.ofString "+-") = PL ∧ PL.length ≤ 60 ∧ (PL != Str.ofString "") = true ∧ (∀ c ∈ PL.cps.toList, 48 ≤ c ∧ c ≤ 57) ∧ PySem.intText? PW = some p)
  whole : PySem.intText? (D ++ Str.empty) = some n
local macro_rules | `(tactic| walk_at "ite") => `(tactic| (first | (refine ite_kf (by with_reducible assumption) ?_) | (refine ite_kt (by with_reducible assumption) ?_)))
local macro_rules | `(tactic| walk_at "storeName") => `(tactic| (k_here; (first | (with_reducible show wpAny _ _ (storeName _ (Str.ofString "word") (Value.str _ _)) _ _ _) | (with_reducible show wpAny _ _ (storeName _ (Str.ofString "digits") (Value.str _ _)) _ _ _) | (with_reducible show wpAny _ _ (storeName _ (Str.ofString "mark") (Value.str _ _)) _ _ _) | (with_reducible show wpAny _ _ (storeName _ (Str.ofString "power") (Value.str _ _)) _ _ _) | (with_reducible show wpAny _ _ (storeName _ (Str.ofString "whole") (Value.str _ _)) _ _ _) | (with_reducible show wpAny _ _ (storeName _ (Str.ofString "dot") (Value.str _ _)) _ _ _) | (with_reducible show wpAny _ _ (storeName _ (Str.ofString "part") (Value.str _ _)) _ _ _) | (with_reducible show wpAny _ _ (storeName _ (Str.ofString "ten") (Value.int _ _)) _ _ _)); refine brk ?_))
local macro_rules | `(tactic| walk_at "my store") => `(tactic| (k_dflt (refine storeX_L (by k_asm) (by k_asm) ?_ (by rfl) (by rfl)); intro h' F' N'; (try k_sweep)))
local macro_rules | `(tactic| walk_at "call ref") => `(tactic| (k_here; (with_reducible show wpAny _ _ (call (Value.ref 21) [Value.int _ _, Value.int _ _]) _ _ _); k_dflt (refine' rounded_ok _ _ _ _ ?hd9 ?hsd9 _ _ _ _ _ _ _ _ _ _ _ _ _ _ _ _ _ ?k1 ?k2 ?k3 ?k4 ?k5 ?kK ?kd9 ?ku9 ?_; (case k1 => k_asm); (case k2 => k_asm); (case k3 => k_asm); (case k4 => k_asm); (case k5 => k_asm); (case kK => first | exact rfl | assumption); (case hd9 => first | assumption | exact mul_pow2_pos (by assumption) _ | exact mul_pow10_pos (by assumption) _); (case hsd9 => exact Sz.le (by walk_at "my sz") (by decide)); (case kd9 => walk_at "my room"); (case ku9 => walk_at "my units")); (intro t9 h9 tk9 F9 N9; (try dsimp only); (try k_fold))))
local macro_rules | `(tactic| walk_at "call ref") => `(tactic| (k_here; (with_reducible show wpAny _ _ (call (Value.ref 109) [Value.int _ _, Value.int _ _]) _ _ _); k_dflt (refine' double_new _ _ _ _ ?hd9 ?hn9 ?hsd9 ?hov9 _ _ _ _ _ _ _ _ _ _ _ _ _ _ _ _ _ ?k1 ?k2 ?k3 ?k4 ?k5 ?kK ?kd9 ?ku9 ?_; (case k1 => k_asm); (case k2 => k_asm); (case k3 => k_asm); (case k4 => k_asm); (case k5 => k_asm); (case kK => first | exact rfl | assumption); (case hd9 => assumption); (case hn9 => assumption); (case hsd9 => assumption); (case hov9 => assumption); (case kd9 => walk_at "my room"); (case ku9 => walk_at "my units")); (intro x9 dx9 t9 u9 v9 y9 h9 tk9 F9 N9; (try dsimp only); (try k_fold))))
local macro_rules | `(tactic| walk_at "call ref") => `(tactic| (k_here; (with_reducible show wpAny _ _ (call (Value.ref 160) [Value.ref _, Value.int _ _]) _ _ _); k_dflt (refine' whole_log_ok _ _ ?hd9 ?hn9 ?hsd9 ?hx9 ?hdx9 ?hup9 ?hdn9 _ _ _ _ _ _ _ _ _ _ _ _ _ _ _ _ _ ?k1 ?k2 ?k3 ?k4 ?k5 ?kK ?kd9 ?ku9 ?_; (case k1 => k_asm); (case k2 => k_asm); (case k3 => k_asm); (case k4 => k_asm); (case k5 => k_asm); (case kK => first | exact rfl | assumption); (case hx9 => k_mem); (case hdx9 => k_mem); (case hd9 => assumption); (case hn9 => assumption); (case hsd9 => assumption); (case hup9 => assumption); (case hdn9 => assumption); (case kd9 => walk_at "my room"); (case ku9 => walk_at "my units")); (intro j9 t9 h9 tk9 l9 m9 n9 F9 N9; (try dsimp only); (try k_fold))))
local macro_rules | `(tactic| walk_at "call ref") => `(tactic| (k_here; (with_reducible show wpAny _ _ (call (Value.ref 190) [Value.int _ _, Value.int _ _]) _ _ _); k_dflt (refine' near_ok _ _ _ _ ?hd9 ?he9 ?hn9 ?hsd9 ?hr9 ?hq9 _ _ _ _ _ _ _ _ _ _ _ _ _ _ _ _ _ ?k1 ?k2 ?k3 ?k4 ?k5 ?kK ?kd9 ?ku9 ?_; (case k1 => k_asm); (case k2 => k_asm); (case k3 => k_asm); (case k4 => k_asm); (case k5 => k_asm); (case kK => first | exact rfl | assumption); (case hd9 => assumption); (case he9 => assumption); (case hn9 => assumption); (case hsd9 => assumption); (case hr9 => assumption); (case hq9 => assumption); (case kd9 => walk_at "my room"); (case ku9 => walk_at "my units")); (intro D9 t9 u9 c9 h9 tk9 F9 N9; (try dsimp only); (try k_fold))))
local macro_rules | `(tactic| walk_at "call ref") => `(tactic| (k_here; (with_reducible show wpAny _ _ (call (Value.ref 197) [Value.int _ _, Value.int _ _, Value.int _ _]) _ _ _); k_dflt (refine' put_ok _ _ _ _ _ _ ?hd9 ?he9 ?hn9 ?hsd9 ?hr9 ?hq9 _ _ _ _ _ _ _ _ _ _ _ _ _ _ _ _ _ ?k1 ?k2 ?k3 ?k4 ?k5 ?kK ?kd9 ?ku9 ?_; (case k1 => k_asm); (case k2 => k_asm); (case k3 => k_asm); (case k4 => k_asm); (case k5 => k_asm); (case kK => first | exact rfl | assumption); (case hd9 => exact mul_pow10_pos (by assumption) _); (case he9 => exact Int.ne_of_gt (mul_pow10_pos (by assumption) _)); (case hn9 => exact Sz.le (by walk_at "my sz") (by decide)); (case hsd9 => exact Sz.le (by walk_at "my sz") (by decide)); (case hr9 => assumption); (case hq9 => assumption); (case kd9 => walk_at "my room"); (case ku9 => walk_at "my units")); (intro t9 h9 tk9 F9 N9; (try dsimp only); (try k_fold))))
local macro_rules | `(tactic| walk_at "call ref") => `(tactic| (k_here; (with_reducible show wpAny _ _ (call (Value.ref 204) [Value.int _ _, Value.int _ _]) _ _ _); k_dflt (refine' text_ok _ _ _ _ ?hd9 ?he9 ?hn9 ?hr9 ?hq9 _ _ _ _ _ _ _ _ _ _ _ _ _ _ _ _ _ ?k1 ?k2 ?k3 ?k4 ?k5 ?kK ?kd9 ?ku9 ?_; (case k1 => k_asm); (case k2 => k_asm); (case k3 => k_asm); (case k4 => k_asm); (case k5 => k_asm); (case kK => first | exact rfl | assumption); (case hd9 => assumption); (case he9 => assumption); (case hn9 => assumption); (case hr9 => assumption); (case hq9 => assumption); (case kd9 => walk_at "my room"); (case ku9 => walk_at "my units")); (intro t9 h9 tk9 F9 N9; (try dsimp only); (try k_fold))))
local macro_rules | `(tactic| walk_at "call ref") => `(tactic| (k_here; (with_reducible show wpAny _ _ (call (Value.ref 146) [Value.str _ _]) _ _ _); k_dflt (refine' plain_ok _ _ ?hd9 ?he9 ?hn9 _ _ _ _ _ _ _ _ _ _ _ _ _ _ _ _ _ ?k1 ?k2 ?k3 ?k4 ?k5 ?kK ?kd9 ?ku9 ?_; (case k1 => k_asm); (case k2 => k_asm); (case k3 => k_asm); (case k4 => k_asm); (case k5 => k_asm); (case kK => first | exact rfl | assumption); (case hd9 => first | assumption | (simp only [PySem.Str.length_append]; have hem9 : Str.empty.length = 0 := rfl; omega)); (case he9 => assumption); (case hn9 => assumption); (case kd9 => walk_at "my room"); (case ku9 => walk_at "my units")); (intro h9 tk9 F9 N9; (try dsimp only); (try k_fold))))
local macro_rules | `(tactic| walk_at "call ref") => `(tactic| (k_here; (with_reducible show wpAny _ _ (call (Value.ref 109) _) _ _ _); refine brk ?_))
local macro_rules | `(tactic| walk_at "call type:int") => `(tactic| (k_here; refine brk ?_))
theorem news_dr4 {h₀ h : Heap} {L : Addr} {a b c1 c2 c3 c4 : Addr × Obj} {l : List (Addr × Obj)} (N : News h₀ L h (a :: b :: c1 :: c2 :: c3 :: c4 :: l)) : News h₀ L h (a :: b :: l) := fun p hp => by
  rcases List.mem_cons.mp hp with e | e
  · subst e; exact N _ (List.mem_cons_self ..)
  · rcases List.mem_cons.mp e with e | e
    · subst e; exact N _ (List.mem_cons_of_mem _ (List.mem_cons_self ..))
    · exact N p (by simp [e])
theorem read_ok {w : World} {p : Program} {loose : List Str} {mean : ExcName → Option Value} {mg mb : Str → Option Value} {news : List (Addr × Obj)} (X W0 W D M PW PL : Str) (neg : Bool) (n pw : Int) (NN DD : Int) (tx : Tok) (H : RF X W0 W D M PW PL neg n pw) (hp : -100 ≤ pw ∧ pw ≤ 100) (hns : Sz n 100)
    (hNN : (if neg = true then -1 else 1) * n * 10 ^ (mx0 pw).toNat = NN) (hDD : 10 ^ (mx0 (-pw)).toNat = DD) (hNs : Sz NN 700) (hDp : 0 < DD) (hDs : Sz DD 700) (hov : ¬ 1 * 2 ^ Int.toNat 1024 ≤ iabs (whl NN DD) * 2 ^ (mx0 (-(shF NN DD))).toNat) :
    FnC w p loose mean mg mb 153 news 12 150 [.str X tx] fun h₀ L m s Q => ∀ (x dx : Addr) (k1 k2 t1 t2 : Tok) (h' : Heap) (tk' : Nat), Fr h₀ L h' m → News h₀ L h' ((x, instObj 109 dx) :: (dx, dblDict w k1 k2 (dbN NN DD) (dbD NN DD) t1 t2) :: news) → Q (.ref x) { s with heap := h', toks := tk' } := by
  unfold FnC
  k_fill
  intro dp un gd cn cs a ccd cl outer A₀ base h₀ L m s Q E B F X' N T hk hdp hun hret
  refine wpAny_call ?_
  k_dflt (walk_at "my enter")
  have h1 := H.lenX
  walk_at "my steps"
  unfold Brk
  refine gen_str ?_
  intro v hv
  rw [H.lower] at hv
  subst hv
  walk_at "my store"
  have h2 := H.minus
  have h3 := H.signs
  have h5 := H.inf
  have h6 := H.nan
  have h7 := H.lenW0
  have h8 := H.lenW
  cases neg with
  | false =>
    have hc : v = W := H.cut
    subst hc
    walk_at "my steps"
    unfold Brk
    refine gen_str ?_
    intro v1 hv1
    replace hv1 : v1 = D := by rw [hv1, H.part]
    subst hv1
    walk_at "my store"
    walk_at "my steps"
    unfold Brk
    refine gen_str ?_
    intro v2 hv2
    replace hv2 : v2 = M := by rw [hv2, H.part]
    subst hv2
    walk_at "my store"
    walk_at "my steps"
    unfold Brk
    refine gen_str ?_
    intro v3 hv3
    replace hv3 : v3 = PW := by rw [hv3, H.part]
    subst hv3
    walk_at "my store"
    have hlD := H.lenD
    have hlM := H.lenM
    have hlP := H.lenP
    walk_at "my steps"
    unfold Brk
    refine gen_str ?_
    intro v4 hv4
    replace hv4 : v4 = v1 := by rw [hv4, H.dot]
    subst hv4
    walk_at "my store"
    walk_at "my steps"
    unfold Brk
    refine gen_str ?_
    intro v5 hv5
    replace hv5 : v5 = Str.empty := by rw [hv5, H.dot]
    subst hv5
    walk_at "my store"
    walk_at "my steps"
    unfold Brk
    refine gen_str ?_
    intro v6 hv6
    replace hv6 : v6 = Str.empty := by rw [hv6, H.dot]
    subst hv6
    walk_at "my store"
    have hdig := H.digs
    have hdne := H.dne
    have hem : Str.empty.length ≤ 60 := by decide
    rcases H.mark with ⟨hM, hPW, hp0⟩ | ⟨hM, hPne, hPL, hPlen, hPLne, hPLd, hPv⟩
    · subst hM
      subst hPW
      walk_at "my steps"
      unfold Brk
      refine KIN.call_text (n := 0) (by decide +kernel) (by decide) ?_
      walk_at "my steps"
      unfold Brk
      refine gen_int ?_
      intro ten hten
      replace hten : ten = pw := by rw [hten, hp0]; rfl
      subst hten
      walk_at "my store"
      walk_at "my steps"
      unfold Brk
      refine KIN.call_text H.whole (by simp only [PySem.Str.length_append]; have hem9 : Str.empty.length = 0 := rfl; omega) ?_
      walk_at "my steps"
      unfold Brk
      have e1 : 1 * n * 10 ^ (if 0 > ten then 0 else ten).toNat = NN := hNN
      have e2 : 10 ^ (if 0 > -ten then 0 else -ten).toNat = DD := hDD
      rw [e1, e2]
      k_dflt (refine' double_new NN DD _ _ ?hd9 ?hn9 ?hsd9 ?hov9 _ _ _ _ _ _ _ _ _ _ _ _ _ _ _ _ _ ?k1 ?k2 ?k3 ?k4 ?k5 ?kK ?kd9 ?ku9 ?_; (case k1 => k_asm); (case k2 => k_asm); (case k3 => k_asm); (case k4 => k_asm); (case k5 => k_asm); (case kK => first | exact rfl | assumption); (case hd9 => assumption); (case hn9 => assumption); (case hsd9 => assumption); (case hov9 => assumption); (case kd9 => walk_at "my room"); (case ku9 => walk_at "my units"))
      intro x9 dx9 t9 u9 v9 y9 h9 tk9 F9 N9
      try dsimp only
      walk_at "my steps"
      exact hret _ _ _ _ _ _ _ _ (by k_asm) (news_dr4 (by assumption))
    · subst hM
      subst hPL
      walk_at "my steps"
      · unfold Brk
        refine KIN.call_text hPv (by omega) ?_
        walk_at "my steps"
        unfold Brk
        refine gen_int ?_
        intro ten hten
        replace hten : ten = pw := by rw [hten]; show pw - 0 = pw; omega
        subst hten
        walk_at "my store"
        walk_at "my steps"
        unfold Brk
        refine KIN.call_text H.whole (by simp only [PySem.Str.length_append]; have hem9 : Str.empty.length = 0 := rfl; omega) ?_
        walk_at "my steps"
        unfold Brk
        have e1 : 1 * n * 10 ^ (if 0 > ten then 0 else ten).toNat = NN := hNN
        have e2 : 10 ^ (if 0 > -ten then 0 else -ten).toNat = DD := hDD
        rw [e1, e2]
        k_dflt (refine' double_new NN DD _ _ ?hd9 ?hn9 ?hsd9 ?hov9 _ _ _ _ _ _ _ _ _ _ _ _ _ _ _ _ _ ?k1 ?k2 ?k3 ?k4 ?k5 ?kK ?kd9 ?ku9 ?_; (case k1 => k_asm); (case k2 => k_asm); (case k3 => k_asm); (case k4 => k_asm); (case k5 => k_asm); (case kK => first | exact rfl | assumption); (case hd9 => assumption); (case hn9 => assumption); (case hsd9 => assumption); (case hov9 => assumption); (case kd9 => walk_at "my room"); (case ku9 => walk_at "my units"))
        intro x9 dx9 t9 u9 v9 y9 h9 tk9 F9 N9
        try dsimp only
        walk_at "my steps"
        exact hret _ _ _ _ _ _ _ _ (by k_asm) (news_dr4 (by assumption))
      · exfalso; omega
  | true =>
    walk_at "my steps"
    unfold Brk
    refine gen_str ?_
    intro v0 hv0
    replace hv0 : v0 = W := hv0.trans H.cut
    subst hv0
    walk_at "my store"
    walk_at "my steps"
    unfold Brk
    refine gen_str ?_
    intro v1 hv1
    replace hv1 : v1 = D := by rw [hv1, H.part]
    subst hv1
    walk_at "my store"
    walk_at "my steps"
    unfold Brk
    refine gen_str ?_
    intro v2 hv2
    replace hv2 : v2 = M := by rw [hv2, H.part]
    subst hv2
    walk_at "my store"
    walk_at "my steps"
    unfold Brk
    refine gen_str ?_
    intro v3 hv3
    replace hv3 : v3 = PW := by rw [hv3, H.part]
    subst hv3
    walk_at "my store"
    have hlD := H.lenD
    have hlM := H.lenM
    have hlP := H.lenP
    walk_at "my steps"
    unfold Brk
    refine gen_str ?_
    intro v4 hv4
    replace hv4 : v4 = v1 := by rw [hv4, H.dot]
    subst hv4
    walk_at "my store"
    walk_at "my steps"
    unfold Brk
    refine gen_str ?_
    intro v5 hv5
    replace hv5 : v5 = Str.empty := by rw [hv5, H.dot]
    subst hv5
    walk_at "my store"
    walk_at "my steps"
    unfold Brk
    refine gen_str ?_
    intro v6 hv6
    replace hv6 : v6 = Str.empty := by rw [hv6, H.dot]
    subst hv6
    walk_at "my store"
    have hdig := H.digs
    have hdne := H.dne
    have hem : Str.empty.length ≤ 60 := by decide
    rcases H.mark with ⟨hM, hPW, hp0⟩ | ⟨hM, hPne, hPL, hPlen, hPLne, hPLd, hPv⟩
    · subst hM
      subst hPW
      walk_at "my steps"
      unfold Brk
      refine KIN.call_text (n := 0) (by decide +kernel) (by decide) ?_
      walk_at "my steps"
      unfold Brk
      refine gen_int ?_
      intro ten hten
      replace hten : ten = pw := by rw [hten, hp0]; rfl
      subst hten
      walk_at "my store"
      walk_at "my steps"
      unfold Brk
      refine KIN.call_text H.whole (by simp only [PySem.Str.length_append]; have hem9 : Str.empty.length = 0 := rfl; omega) ?_
      walk_at "my steps"
      unfold Brk
      have e1 : -1 * n * 10 ^ (if 0 > ten then 0 else ten).toNat = NN := hNN
      have e2 : 10 ^ (if 0 > -ten then 0 else -ten).toNat = DD := hDD
      rw [e1, e2]
      k_dflt (refine' double_new NN DD _ _ ?hd9 ?hn9 ?hsd9 ?hov9 _ _ _ _ _ _ _ _ _ _ _ _ _ _ _ _ _ ?k1 ?k2 ?k3 ?k4 ?k5 ?kK ?kd9 ?ku9 ?_; (case k1 => k_asm); (case k2 => k_asm); (case k3 => k_asm); (case k4 => k_asm); (case k5 => k_asm); (case kK => first | exact rfl | assumption); (case hd9 => assumption); (case hn9 => assumption); (case hsd9 => assumption); (case hov9 => assumption); (case kd9 => walk_at "my room"); (case ku9 => walk_at "my units"))
      intro x9 dx9 t9 u9 v9 y9 h9 tk9 F9 N9
      try dsimp only
      walk_at "my steps"
      exact hret _ _ _ _ _ _ _ _ (by k_asm) (news_dr4 (by assumption))
    · subst hM
      subst hPL
      walk_at "my steps"
      · unfold Brk
        refine KIN.call_text hPv (by omega) ?_
        walk_at "my steps"
        unfold Brk
        refine gen_int ?_
        intro ten hten
        replace hten : ten = pw := by rw [hten]; show pw - 0 = pw; omega
        subst hten
        walk_at "my store"
        walk_at "my steps"
        unfold Brk
        refine KIN.call_text H.whole (by simp only [PySem.Str.length_append]; have hem9 : Str.empty.length = 0 := rfl; omega) ?_
        walk_at "my steps"
        unfold Brk
        have e1 : -1 * n * 10 ^ (if 0 > ten then 0 else ten).toNat = NN := hNN
        have e2 : 10 ^ (if 0 > -ten then 0 else -ten).toNat = DD := hDD
        rw [e1, e2]
        k_dflt (refine' double_new NN DD _ _ ?hd9 ?hn9 ?hsd9 ?hov9 _ _ _ _ _ _ _ _ _ _ _ _ _ _ _ _ _ ?k1 ?k2 ?k3 ?k4 ?k5 ?kK ?kd9 ?ku9 ?_; (case k1 => k_asm); (case k2 => k_asm); (case k3 => k_asm); (case k4 => k_asm); (case k5 => k_asm); (case kK => first | exact rfl | assumption); (case hd9 => assumption); (case hn9 => assumption); (case hsd9 => assumption); (case hov9 => assumption); (case kd9 => walk_at "my room"); (case ku9 => walk_at "my units"))
        intro x9 dx9 t9 u9 v9 y9 h9 tk9 F9 N9
        try dsimp only
        walk_at "my steps"
        exact hret _ _ _ _ _ _ _ _ (by k_asm) (news_dr4 (by assumption))
      · exfalso; omega
end
section
section
open Builtin Builtin.Str
variable {prog : Program} {w : World} {A : Around} {E : Value → Shared → Prop}
/-- the table gives g c for the sign c -/
def TabGives (prog : Program) (w : World) (h : Heap) (table : Value) (c : Nat) (r : Str) : Prop :=
  ∀ (A : Around) (E : Value → Shared → Prop) (s : Shared) (t : Tok) (Q : Value → Shared → Prop), s.heap = h → (∀ tk u, Q (.str r u) { s with toks := tk }) → wpAny (model prog w) A (getItem table (.int (c : Int) t)) Q E s
theorem tableLookup_ok {s : Shared} {table : Value} {c : Nat} {r : Str} {Q : Mapped → Shared → Prop} (H : TabGives prog w s.heap table c r) (h : ∀ tk, Q (.text r) { s with toks := tk }) :
    wpAny (model prog w) A (tableLookup table c) Q E s := by
  unfold tableLookup
  refine wpAny_bind (wpAny_attempt (wpAny_bind (wpAny_mkInt (H _ _ _ _ _ rfl fun tk u => ?_))))
  dsimp only
  refine wpAny_bind (wpAny_pure (a := (none : Option Int)) ?_)
  dsimp only
  refine wpAny_bind (wpAny_pure (a := some r) ?_)
  exact wpAny_pure (h tk)
theorem translate_loop {s : Shared} {table : Value} (g : Nat → Str) (X : Str) (hl : X.length ≤ 1000) (hg : ∀ c, (g c).length = 1) (hw : ∀ c ∈ X.cps.toList, (g c).cps.all (· < 128) = false)
    (H : ∀ c ∈ X.cps.toList, TabGives prog w s.heap table c (g c)) {t : Tok} {Q : Value → Shared → Prop} (hne : (X.length == 0) = false)
    (h : ∀ tk u, Q (.str ⟨List.foldl (fun acc p => acc ++ p.cps) #[] (X.cps.toList.map g)⟩ u) { s with toks := tk })
    (hlen : (⟨List.foldl (fun acc (p : Str) => acc ++ p.cps) #[] (X.cps.toList.map g)⟩ : Str).length ≤ sizeLine) :
    wpAny (model prog w) A (call (.builtin "str.translate") [.str X t, table]) Q E s := by
  refine wpAny_call_entry F.slot_str_translate (typeIs_str s X t) F.entry_str_translate ?_ (F.args_str_translate_2 _ _)
  unfold Builtin.«str.translate»
  refine wpAny_bind (wpAny_pure (a := (Value.str X t, X, table)) ?_)
  dsimp only
  rw [hne, if_neg Bool.false_ne_true]
  refine wpAny_bind (forIn_array_ _ (fun rest b s' => ∃ pre tk, X.cps.toList = pre ++ rest ∧ b.1 = (pre.map g).reverse ∧ b.2.1 = pre.length ∧ b.2.2.2.1 = [] ∧ b.2.2.2.2 = false ∧ s' = { s with toks := tk }) _ ?_ ?_ _ _ ⟨[], s.toks, rfl, rfl, rfl, rfl, rfl, rfl⟩)
  · rintro c rest ⟨pieces, total, fast, known, afterDrop⟩ s' ⟨pre, tk, hX, h1, h2, h3, h4, rfl⟩
    dsimp only at h1 h2 h3 h4
    subst h1 h2 h3 h4
    have hcm : c ∈ X.cps.toList := by rw [hX]; simp
    have Hc := H c hcm
    have hpre : pre.length ≤ 1000 := by
      have e := congrArg List.length hX
      rw [List.length_append, Array.length_toList] at e
      have : X.cps.size ≤ 1000 := hl
      omega
    have hlong : tooLong pre.length = false := by
      unfold tooLong; rw [sizeLine_eq]; exact decide_eq_false (by omega)
    dsimp only
    rw [hlong, if_neg Bool.false_ne_true]
    have step : ∀ (fast' : Bool) (tk' : Nat), wpAny (model prog w) A.in1 (do
        let __do_lift ← tableLookup table c
        match __do_lift with
          | Mapped.keep => pure (ForInStep.yield ((⟨#[c]⟩ : Str) :: (pre.map g).reverse, pre.length + 1, fast', ([] : List (Nat × Option Nat)), false))
          | Mapped.drop => pure (ForInStep.yield ((pre.map g).reverse, pre.length, fast', ([] : List (Nat × Option Nat)), true))
          | Mapped.char d => pure (ForInStep.yield ((⟨#[d]⟩ : Str) :: (pre.map g).reverse, pre.length + 1, fast', ([] : List (Nat × Option Nat)), false))
          | Mapped.text t => pure (ForInStep.yield (t :: (pre.map g).reverse, pre.length + t.length, fast', ([] : List (Nat × Option Nat)), false)))
        (fun r s' => match r with
          | .yield b' => ∃ pre tk, X.cps.toList = pre ++ rest ∧ b'.1 = (pre.map g).reverse ∧ b'.2.1 = pre.length ∧ b'.2.2.2.1 = [] ∧ b'.2.2.2.2 = false ∧ s' = { s with toks := tk }
          | .done b' => False) E { s with toks := tk' } := by
      intro fast' tk'
      refine wpAny_bind (tableLookup_ok Hc fun tk2 => ?_)
      refine wpAny_pure ⟨pre ++ [c], tk2, by rw [hX]; simp, by simp, by rw [hg]; simp, rfl, rfl, rfl⟩
    cases fast with
    | false =>
      rw [if_neg Bool.false_ne_true, if_neg Bool.false_ne_true]
      refine wpAny_mono (step false tk) (fun r s' hr => ?_) fun _ _ e => e
      cases r with
      | yield b' => exact hr
      | done b' => exact hr.elim
    | true =>
      rw [if_pos rfl]
      simp only [List.lookup_nil]
      refine wpAny_bind (tableLookup_ok Hc fun tk2 => ?_)
      have ha : ((g c).length == 1 && (g c).cps.all fun x => decide (x < 128)) = false := by rw [hw c hcm, Bool.and_false]
      simp only [ha, Bool.false_eq_true, if_false]
      refine wpAny_bind (wpAny_pure ?_)
      refine wpAny_bind (wpAny_rule ?_)
      refine wpAny_mono (step false tk2) (fun r s' hr => ?_) fun _ _ e => e
      cases r with
      | yield b' => exact hr
      | done b' => exact hr.elim
  · rintro ⟨pieces, total, fast, known, afterDrop⟩ s' ⟨pre, tk, hX, h1, h2, h3, h4, rfl⟩
    dsimp only at h1 h2 h3 h4
    subst h1 h2 h3 h4
    rw [List.append_nil] at hX
    have hpre : pre.length ≤ 1000 := by
      have e := congrArg List.length hX
      rw [Array.length_toList] at e
      have : X.cps.size ≤ 1000 := hl
      omega
    have hlong : tooLong pre.length = false := by
      unfold tooLong; rw [sizeLine_eq]; exact decide_eq_false (by omega)
    dsimp only
    rw [hlong, if_neg Bool.false_ne_true, List.reverse_reverse, ← hX]
    unfold retStr
    refine wpAny_bind (wpAny_mkStr ?_ hlen)
    exact wpAny_pure ⟨_, rfl, h _ _⟩
end
end
section
/-- a sign's raised twin -/
def supC (c : Nat) : Str := if c = 45 then Str.ofString "⁻" else supD c
def tabOk (es : Array DictEntry) (f : Nat → Str) (cs : List Nat) : Bool := (es.toList.all fun e => match e.key with | .int k _ => e.hash == hashInt k | _ => false) && cs.all fun c => match findBy Value.isInt es (c : Int) with | some (.str x _) => x == f c | _ => false
theorem tab_gives {prog : Program} {w : World} {K : Frag} {h : Heap} (X : K.In h) {a : Addr} {es : Array DictEntry} {n : Nat} (hl : K.lookup a = some ⟨.type "dict", none, .dict es n, #[]⟩) {f : Nat → Str} {cs : List Nat} (ok : tabOk es f cs = true) {c : Nat} (hc : c ∈ cs) : TabGives prog w h (.ref a) c (f c) := by
  intro A E s t Q hs hQ
  subst hs
  unfold tabOk at ok
  obtain ⟨ok1, ok2⟩ := Bool.and_eq_true_iff.mp ok
  have hm : s.heap.MapOf (PySem.intKind prog w) a (fun k => findBy Value.isInt es k) := by
    refine ⟨_, es, n, X _ _ hl, ⟨rfl, rfl, rfl⟩, rfl, fun e he => ?_, fun _ => rfl⟩
    have h1 := List.all_eq_true.mp ok1 e (Array.mem_toList_iff.mpr he)
    split at h1
    · rename_i k u hk
      exact ⟨k, by rw [hk]; exact intKind_is prog w k u, by have := eq_of_beq h1; rw [this]; rfl⟩
    · cases h1
  have h2 := List.all_eq_true.mp ok2 c hc
  have hu : ∃ u, findBy Value.isInt es (c : Int) = some (.str (f c) u) := by
    split at h2
    · rename_i x u hx
      exact ⟨u, by rw [hx, eq_of_beq h2]⟩
    · cases h2
  obtain ⟨u, hu⟩ := hu
  exact wpAny_getItem_of (intKind_is prog w (c : Int) t) hm hu (hQ _ _)
def supCodes : List Nat := [45, 48, 49, 50, 51, 52, 53, 54, 55, 56, 57]
theorem table_gives {w : World} {h : Heap} (X : (Mine.hd.heap_39 w.params).In h) {c : Nat} (hc : c ∈ supCodes) : TabGives PySem.Challenge.rw_ez0115_01.row.prog w h (.ref 168) c (supC c) := by
  revert X
  k_fill
  intro X
  exact tab_gives X (by k_is) (by decide +kernel) hc
theorem supC_len : ∀ c, (supC c).length = 1 := by
  intro c
  unfold supC
  split
  · decide
  · rfl
def trT (U : Int) : Str := ⟨List.foldl (fun acc (p : Str) => acc ++ p.cps) #[] ((dtx U).cps.toList.map supC)⟩
theorem supC_wide : ∀ c ∈ supCodes, (supC c).cps.all (· < 128) = false := by decide +kernel
theorem foldl_cps (l : List Str) (a : Array Nat) : (List.foldl (fun acc (p : Str) => acc ++ p.cps) a l).size = a.size + (l.map Str.length).sum := by
  induction l generalizing a with
  | nil => simp
  | cons x r ih =>
    rw [List.foldl_cons, ih, List.map_cons, List.sum_cons, Array.size_append]
    show a.size + x.length + _ = _
    omega
theorem dtx_codes {U : Int} {c : Nat} (h : c ∈ (dtx U).cps.toList) : c ∈ supCodes := by
  have d : ∀ m : Nat, c ∈ dg10 m → c ∈ supCodes := by
    intro m hm
    obtain ⟨h1, h2⟩ := dg10_all hm
    exact (by decide +kernel : ∀ c : Nat, c < 58 → 48 ≤ c → c ∈ supCodes) c (by omega) h1
  rcases Int.lt_or_le U 0 with q | q
  · have e : U = -((U.natAbs : Nat) : Int) := by omega
    rw [e, dtx_neg (by omega)] at h
    rcases List.mem_cons.mp h with e | e
    · subst e; decide
    · exact d _ e
  · have e : U = ((U.natAbs : Nat) : Int) := by omega
    rw [e, dtx_nat] at h
    exact d _ h
theorem dtx_len5 {U : Int} (h1 : -1000 < U) (h2 : U < 1000) : (dtx U).length ≤ 5 ∧ 1 ≤ (dtx U).length := by
  rcases Int.lt_or_le U 0 with q | q
  · have e : U = -((U.natAbs : Nat) : Int) := by omega
    rw [e, str_len_list, dtx_neg (by omega), List.length_cons]
    have := dg10_le (k := 3) (m := U.natAbs) (by decide) (by omega)
    omega
  · have e : U = ((U.natAbs : Nat) : Int) := by omega
    rw [e, dtx_len]
    have := dg10_le (k := 3) (m := U.natAbs) (by decide) (by omega)
    have := dg10_pos U.natAbs
    omega
theorem trT_len {U : Int} (h1 : -1000 < U) (h2 : U < 1000) : (trT U).length ≤ 5 := by
  show (List.foldl (fun acc (p : Str) => acc ++ p.cps) #[] ((dtx U).cps.toList.map supC)).size ≤ 5
  rw [foldl_cps, List.map_map]
  have e : (List.map (Str.length ∘ supC) (dtx U).cps.toList).sum = (dtx U).cps.toList.length := by
    generalize (dtx U).cps.toList = l
    induction l with
    | nil => rfl
    | cons c r ih => rw [List.map_cons, List.sum_cons, ih]; show (supC c).length + _ = _; rw [supC_len, List.length_cons]; omega
  rw [e, ← str_len_list]
  have := (dtx_len5 h1 h2).1
  simp
  omega
end
section
local macro_rules | `(tactic| walk_at "dummy 299") => `(tactic| skip)
local macro_rules | `(tactic| walk_at "dummy 300") => `(tactic| skip)
local macro_rules | `(tactic| walk_at "dummy 301") => `(tactic| skip)
local macro_rules | `(tactic| walk_at "dummy 302") => `(tactic| skip)
local macro_rules | `(tactic| walk_at "dummy 303") => `(tactic| skip)
local macro_rules | `(tactic| walk_at "dummy 304") => `(tactic| skip)
local macro_rules | `(tactic| walk_at "dummy 305") => `(tactic| skip)
local macro_rules | `(tactic| walk_at "dummy 306") => `(tactic| skip)
local macro_rules | `(tactic| walk_at "dummy 307") => `(tactic| skip)
local macro_rules | `(tactic| walk_at "dummy 308") => `(tactic| skip)
local macro_rules | `(tactic| walk_at "dummy 309") => `(tactic| skip)
local macro_rules | `(tactic| walk_at "dummy 310") => `(tactic| skip)
local macro_rules | `(tactic| walk_at "dummy 311") => `(tactic| skip)
local macro_rules | `(tactic| walk_at "dummy 312") => `(tactic| skip)
local macro_rules | `(tactic| walk_at "dummy 313") => `(tactic| skip)
local macro_rules | `(tactic| walk_at "dummy 314") => `(tactic| skip)
local macro_rules | `(tactic| walk_at "dummy 315") => `(tactic| skip)
local macro_rules | `(tactic| walk_at "dummy 316") => `(tactic| skip)
local macro_rules | `(tactic| walk_at "dummy 317") => `(tactic| skip)
local macro_rules | `(tactic| walk_at "dummy 318") => `(tactic| skip)
local macro_rules | `(tactic| walk_at "dummy 319") => `(tactic| skip)
local macro_rules | `(tactic| walk_at "dummy 320") => `(tactic| skip)
local macro_rules | `(tactic| walk_at "dummy 321") => `(tactic| skip)
local macro_rules | `(tactic| walk_at "dummy 322") => `(tactic| skip)
local macro_rules | `(tactic| walk_at "dummy 323") => `(tactic| skip)
local macro_rules | `(tactic| walk_at "dummy 324") => `(tactic| skip)
local macro_rules | `(tactic| walk_at "dummy 325") => `(tactic| skip)
local macro_rules | `(tactic| walk_at "dummy 326") => `(tactic| skip)
local macro_rules | `(tactic| walk_at "dummy 327") => `(tactic| skip)
local macro_rules | `(tactic| walk_at "dummy 328") => `(tactic| skip)
local macro_rules | `(tactic| walk_at "dummy 329") => `(tactic| skip)
local macro_rules | `(tactic| walk_at "dummy 330") => `(tactic| skip)
local macro_rules | `(tactic| walk_at "dummy 331") => `(tactic| skip)
local macro_rules | `(tactic| walk_at "dummy 332") => `(tactic| skip)
local macro_rules | `(tactic| walk_at "dummy 333") => `(tactic| skip)
local macro_rules | `(tactic| walk_at "dummy 334") => `(tactic| skip)
local macro_rules | `(tactic| walk_at "dummy 335") => `(tactic| skip)
local macro_rules | `(tactic| walk_at "dummy 336") => `(tactic| skip)
local macro_rules | `(tactic| walk_at "dummy 337") => `(tactic| skip)
local macro_rules | `(tactic| walk_at "dummy 338") => `(tactic| skip)
local macro_rules | `(tactic| walk_at "dummy 339") => `(tactic| skip)
local macro_rules | `(tactic| walk_at "dummy 340") => `(tactic| skip)
local macro_rules | `(tactic| walk_at "dummy 341") => `(tactic| skip)
local macro_rules | `(tactic| walk_at "dummy 342") => `(tactic| skip)
local macro_rules | `(tactic| walk_at "dummy 343") => `(tactic| skip)
local macro_rules | `(tactic| walk_at "dummy 344") => `(tactic| skip)
local macro_rules | `(tactic| walk_at "dummy 345") => `(tactic| skip)
local macro_rules | `(tactic| walk_at "dummy 346") => `(tactic| skip)
local macro_rules | `(tactic| walk_at "dummy 347") => `(tactic| skip)
local macro_rules | `(tactic| walk_at "dummy 348") => `(tactic| skip)
local macro_rules | `(tactic| walk_at "dummy 349") => `(tactic| skip)
local macro_rules | `(tactic| walk_at "dummy 350") => `(tactic| skip)
local macro_rules | `(tactic| walk_at "dummy 351") => `(tactic| skip)
local macro_rules | `(tactic| walk_at "dummy 352") => `(tactic| skip)
local macro_rules | `(tactic| walk_at "dummy 353") => `(tactic| skip)
local macro_rules | `(tactic| walk_at "dummy 354") => `(tactic| skip)
local macro_rules | `(tactic| walk_at "dummy 355") => `(tactic| skip)
local macro_rules | `(tactic| walk_at "dummy 356") => `(tactic| skip)
local macro_rules | `(tactic| walk_at "dummy 357") => `(tactic| skip)
local macro_rules | `(tactic| walk_at "dummy 358") => `(tactic| skip)
local macro_rules | `(tactic| walk_at "dummy 359") => `(tactic| skip)
local macro_rules | `(tactic| walk_at "dummy 360") => `(tactic| skip)
local macro_rules | `(tactic| walk_at "dummy 361") => `(tactic| skip)
local macro_rules | `(tactic| walk_at "dummy 362") => `(tactic| skip)
local macro_rules | `(tactic| walk_at "dummy 363") => `(tactic| skip)
local macro_rules | `(tactic| walk_at "dummy 364") => `(tactic| skip)
local macro_rules | `(tactic| walk_at "dummy 365") => `(tactic| skip)
theorem fresh_MSci : True := by
  w_top off
  trivial
theorem gm_translate {M : Model} {A : Around} {E : Value → Shared → Prop} {s : Shared} {x : Str} {t : Tok} {pl : Sem Bool} {Q : Value × List Value → Shared → Prop} (h : Q (.builtin "str.translate", [.str x t]) s) : wpAny M A (getMethod (.str x t) (Str.ofString "translate") pl) Q E s := by
  with_reducible exact GM.of (.str x t) (typeIs_str _ _ _) PySem.F.slot_str_translate PySem.F.type_str_translate GM.noRef h
local macro_rules | `(tactic| walk_at "getMethod str") => `(tactic| (with_reducible refine gm_translate ?_))
local macro_rules | `(tactic| walk_at "call builtin:str.translate") => `(tactic| (k_here; refine brk ?_))
local macro_rules | `(tactic| walk_at "call type:str") => `(tactic| (k_here; refine brk ?_))
local macro_rules | `(tactic| walk_at "call ref") => `(tactic| (k_here; (with_reducible show wpAny _ _ (call (Value.ref 120) _) _ _ _); refine brk ?_))
local macro_rules | `(tactic| walk_at "call ref") => `(tactic| (k_here; (with_reducible show wpAny _ _ (call (Value.ref 167) _) _ _ _); refine brk ?_))
/-- what double gives back -/
abbrev DblR (w : World) (news : List (Addr × Obj)) (n d : Int) : Heap → Addr → (Str → Option Value) → Shared → (Value → Shared → Prop) → Prop := fun h₀ L m s Q =>
  ∀ (x dx : Addr) (k1 k2 t1 t2 : Tok) (h' : Heap) (tk' : Nat) (news' : List (Addr × Obj)), (∀ p ∈ news, p ∈ news') → (x, instObj 109 dx) ∈ news' → (dx, dblDict w k1 k2 n d t1 t2) ∈ news' → Fr h₀ L h' m → News h₀ L h' news' → Q (.ref x) { s with heap := h', toks := tk' }
/-- what mantissa_and_power gives back -/
abbrev ManR (news : List (Addr × Obj)) (MR : Str → Int → Prop) : Heap → Addr → (Str → Option Value) → Shared → (Value → Shared → Prop) → Prop := fun h₀ L m s Q =>
  ∀ (D : Addr) (ta tb : Tok) (c : Nat) (h' : Heap) (tk' : Nat) (T : Str) (U : Int), MR T U → T.length ≤ 30 → -200 ≤ U → U ≤ 310 → Fr h₀ L h' m → News h₀ L h' ((D, ({ cls := .type "tuple", data := .seq #[.str T ta, .int U tb] c } : Obj)) :: news) → Q (.ref D) { s with heap := h', toks := tk' }
theorem sci_ok {w : World} {p : Program} {loose : List Str} {mean : ExcName → Option Value} {mg mb : Str → Option Value} {news : List (Addr × Obj)} (val : Value) (n d dg : Int) (tg : Tok) (MR : Str → Int → Prop) (hdne : d ≠ 0) (hsg : Sz dg 64)
    (hdbl : FnC w p loose mean mg mb 120 news 14 180 [val] (DblR w news n d))
    (hman : ∀ (news' : List (Addr × Obj)) (x dx : Addr) (k1 k2 t1 t2 tg : Tok), (x, instObj 109 dx) ∈ news' → (dx, dblDict w k1 k2 n d t1 t2) ∈ news' → FnC w p loose mean mg mb 167 news' 8 60 [.ref x, .int dg tg] (ManR news' MR)) :
    FnC w p loose mean mg mb 183 news 18 220 [val, .int dg tg] fun h₀ L m s Q => ∀ (t : Tok) (h' : Heap) (tk' : Nat) (T : Str) (U : Int), MR T U → T.length ≤ 30 → -200 ≤ U → U ≤ 310 → Fr h₀ L h' m → News h₀ L h' news → Q (.str (T ++ Str.ofString " x 10" ++ trT U) t) { s with heap := h', toks := tk' } := by
  unfold FnC
  k_fill
  intro dp un gd cn cs a ccd cl outer A₀ base h₀ L m s Q E B F X N T hk hdp hun hret
  refine wpAny_call ?_
  k_dflt (walk_at "my enter")
  walk_at "my steps"
  unfold Brk
  k_dflt (refine' hdbl _ _ _ _ _ _ _ _ _ _ _ _ _ _ _ _ _ ?k1 ?k2 ?k3 ?k4 ?k5 ?kK ?kd9 ?ku9 ?_; (case k1 => k_asm); (case k2 => k_asm); (case k3 => k_asm); (case k4 => k_asm); (case k5 => k_asm); (case kK => first | exact rfl | assumption); (case kd9 => walk_at "my room"); (case ku9 => walk_at "my units"))
  intro x dx k1 k2 t1 t2 h9 tk9 news' hsub hx hdx F9 N9
  try dsimp only
  walk_at "my steps"
  · unfold Brk
    k_dflt (refine' hman _ _ _ _ _ _ _ _ ?hx9 ?hdx9 _ _ _ _ _ _ _ _ _ _ _ _ _ _ _ _ _ ?k1 ?k2 ?k3 ?k4 ?k5 ?kK ?kd9 ?ku9 ?_; (case k1 => k_asm); (case k2 => k_asm); (case k3 => k_asm); (case k4 => k_asm); (case k5 => k_asm); (case kK => first | exact rfl | assumption); (case hx9 => k_mem); (case hdx9 => k_mem); (case kd9 => walk_at "my room"); (case ku9 => walk_at "my units"))
    intro D ta tb c h' tk' TT U hMR hTl hU1 hU2 F9 N9
    try dsimp only
    walk_at "my steps"
    unfold Brk
    refine P.str_of_int (Sz.shown (k := 64) ⟨by omega⟩ (by decide)) ?_
    walk_at "my steps"
    unfold Brk
    have hlU := dtx_len5 (U := U) (by omega) (by omega)
    refine translate_loop (g := supC) (X := dtx U) (by omega) supC_len (fun c hc => supC_wide c (dtx_codes hc)) (fun c hc => table_gives (Frag.In.keeps (by k_asm) (Fr.keep (by k_asm))) (dtx_codes hc)) (by rw [beq_eq_false_iff_ne]; omega) ?_ (Nat.le_trans (trT_len (U := U) (by omega) (by omega)) (by decide))
    intro tk7 u7
    have hT7 := trT_len (U := U) (by omega) (by omega)
    obtain ⟨R, hR⟩ : ∃ R, R = trT U := ⟨_, rfl⟩
    have hR' : (⟨List.foldl (fun acc (p : Str) => acc ++ p.cps) #[] ((dtx U).cps.toList.map supC)⟩ : Str) = R := hR.symm
    rw [hR']
    rw [← hR] at hT7
    try dsimp only
    walk_at "my steps"
    subst hR
    exact hret _ _ _ TT U hMR hTl hU1 hU2 (by k_asm) (cb_drop (by assumption) (fun p hp => by repeat (first | exact hsub p hp | refine List.mem_cons_of_mem _ ?_)))
  · exfalso; omega
end
section
local macro_rules | `(tactic| walk_at "dummy 366") => `(tactic| skip)
local macro_rules | `(tactic| walk_at "dummy 367") => `(tactic| skip)
local macro_rules | `(tactic| walk_at "dummy 368") => `(tactic| skip)
local macro_rules | `(tactic| walk_at "dummy 369") => `(tactic| skip)
local macro_rules | `(tactic| walk_at "dummy 370") => `(tactic| skip)
local macro_rules | `(tactic| walk_at "dummy 371") => `(tactic| skip)
local macro_rules | `(tactic| walk_at "dummy 372") => `(tactic| skip)
local macro_rules | `(tactic| walk_at "dummy 373") => `(tactic| skip)
local macro_rules | `(tactic| walk_at "dummy 374") => `(tactic| skip)
local macro_rules | `(tactic| walk_at "dummy 375") => `(tactic| skip)
local macro_rules | `(tactic| walk_at "dummy 376") => `(tactic| skip)
local macro_rules | `(tactic| walk_at "dummy 377") => `(tactic| skip)
local macro_rules | `(tactic| walk_at "dummy 378") => `(tactic| skip)
local macro_rules | `(tactic| walk_at "dummy 379") => `(tactic| skip)
local macro_rules | `(tactic| walk_at "dummy 380") => `(tactic| skip)
local macro_rules | `(tactic| walk_at "dummy 381") => `(tactic| skip)
local macro_rules | `(tactic| walk_at "dummy 382") => `(tactic| skip)
local macro_rules | `(tactic| walk_at "dummy 383") => `(tactic| skip)
local macro_rules | `(tactic| walk_at "dummy 384") => `(tactic| skip)
local macro_rules | `(tactic| walk_at "dummy 385") => `(tactic| skip)
local macro_rules | `(tactic| walk_at "dummy 386") => `(tactic| skip)
local macro_rules | `(tactic| walk_at "dummy 387") => `(tactic| skip)
local macro_rules | `(tactic| walk_at "dummy 388") => `(tactic| skip)
local macro_rules | `(tactic| walk_at "dummy 389") => `(tactic| skip)
local macro_rules | `(tactic| walk_at "dummy 390") => `(tactic| skip)
local macro_rules | `(tactic| walk_at "dummy 391") => `(tactic| skip)
local macro_rules | `(tactic| walk_at "dummy 392") => `(tactic| skip)
local macro_rules | `(tactic| walk_at "dummy 393") => `(tactic| skip)
local macro_rules | `(tactic| walk_at "dummy 394") => `(tactic| skip)
local macro_rules | `(tactic| walk_at "dummy 395") => `(tactic| skip)
local macro_rules | `(tactic| walk_at "dummy 396") => `(tactic| skip)
local macro_rules | `(tactic| walk_at "dummy 397") => `(tactic| skip)
local macro_rules | `(tactic| walk_at "dummy 398") => `(tactic| skip)
local macro_rules | `(tactic| walk_at "dummy 399") => `(tactic| skip)
local macro_rules | `(tactic| walk_at "dummy 400") => `(tactic| skip)
local macro_rules | `(tactic| walk_at "dummy 401") => `(tactic| skip)
local macro_rules | `(tactic| walk_at "dummy 402") => `(tactic| skip)
local macro_rules | `(tactic| walk_at "dummy 403") => `(tactic| skip)
local macro_rules | `(tactic| walk_at "dummy 404") => `(tactic| skip)
local macro_rules | `(tactic| walk_at "dummy 405") => `(tactic| skip)
local macro_rules | `(tactic| walk_at "dummy 406") => `(tactic| skip)
local macro_rules | `(tactic| walk_at "dummy 407") => `(tactic| skip)
local macro_rules | `(tactic| walk_at "dummy 408") => `(tactic| skip)
local macro_rules | `(tactic| walk_at "dummy 409") => `(tactic| skip)
local macro_rules | `(tactic| walk_at "dummy 410") => `(tactic| skip)
local macro_rules | `(tactic| walk_at "dummy 411") => `(tactic| skip)
local macro_rules | `(tactic| walk_at "dummy 412") => `(tactic| skip)
local macro_rules | `(tactic| walk_at "dummy 413") => `(tactic| skip)
local macro_rules | `(tactic| walk_at "dummy 414") => `(tactic| skip)
local macro_rules | `(tactic| walk_at "dummy 415") => `(tactic| skip)
local macro_rules | `(tactic| walk_at "dummy 416") => `(tactic| skip)
local macro_rules | `(tactic| walk_at "dummy 417") => `(tactic| skip)
local macro_rules | `(tactic| walk_at "dummy 418") => `(tactic| skip)
local macro_rules | `(tactic| walk_at "dummy 419") => `(tactic| skip)
local macro_rules | `(tactic| walk_at "dummy 420") => `(tactic| skip)
local macro_rules | `(tactic| walk_at "dummy 421") => `(tactic| skip)
local macro_rules | `(tactic| walk_at "dummy 422") => `(tactic| skip)
local macro_rules | `(tactic| walk_at "dummy 423") => `(tactic| skip)
local macro_rules | `(tactic| walk_at "dummy 424") => `(tactic| skip)
local macro_rules | `(tactic| walk_at "dummy 425") => `(tactic| skip)
local macro_rules | `(tactic| walk_at "dummy 426") => `(tactic| skip)
local macro_rules | `(tactic| walk_at "dummy 427") => `(tactic| skip)
local macro_rules | `(tactic| walk_at "dummy 428") => `(tactic| skip)
local macro_rules | `(tactic| walk_at "dummy 429") => `(tactic| skip)
local macro_rules | `(tactic| walk_at "dummy 430") => `(tactic| skip)
local macro_rules | `(tactic| walk_at "dummy 431") => `(tactic| skip)
local macro_rules | `(tactic| walk_at "dummy 432") => `(tactic| skip)
local macro_rules | `(tactic| walk_at "dummy 433") => `(tactic| skip)
theorem fresh_MSci2 : True := by
  w_top off
  trivial
local macro_rules | `(tactic| walk_at "getMethod str") => `(tactic| (with_reducible refine gm_translate ?_))
local macro_rules | `(tactic| walk_at "call builtin:str.translate") => `(tactic| (k_here; refine brk ?_))
local macro_rules | `(tactic| walk_at "call type:str") => `(tactic| (k_here; refine brk ?_))
local macro_rules | `(tactic| walk_at "call ref") => `(tactic| (k_here; (with_reducible show wpAny _ _ (call (Value.ref 120) _) _ _ _); refine brk ?_))
local macro_rules | `(tactic| walk_at "call ref") => `(tactic| (k_here; (with_reducible show wpAny _ _ (call (Value.ref 167) _) _ _ _); refine brk ?_))
theorem sci2_ok {w : World} {p : Program} {loose : List Str} {mean : ExcName → Option Value} {mg mb : Str → Option Value} {news : List (Addr × Obj)} (val : Value) (n d : Int) (MR : Str → Int → Prop) (hdne : d ≠ 0) 
    (hdbl : FnC w p loose mean mg mb 120 news 14 180 [val] (DblR w news n d))
    (hman : ∀ (news' : List (Addr × Obj)) (x dx : Addr) (k1 k2 t1 t2 tg : Tok), (x, instObj 109 dx) ∈ news' → (dx, dblDict w k1 k2 n d t1 t2) ∈ news' → FnC w p loose mean mg mb 167 news' 8 60 [.ref x, .int 2 tg] (ManR news' MR)) :
    FnC w p loose mean mg mb 183 news 18 220 [val] fun h₀ L m s Q => ∀ (t : Tok) (h' : Heap) (tk' : Nat) (T : Str) (U : Int), MR T U → T.length ≤ 30 → -200 ≤ U → U ≤ 310 → Fr h₀ L h' m → News h₀ L h' news → Q (.str (T ++ Str.ofString " x 10" ++ trT U) t) { s with heap := h', toks := tk' } := by
  unfold FnC
  k_fill
  intro dp un gd cn cs a ccd cl outer A₀ base h₀ L m s Q E B F X N T hk hdp hun hret
  refine wpAny_call ?_
  k_dflt (walk_at "my enter")
  walk_at "my steps"
  unfold Brk
  k_dflt (refine' hdbl _ _ _ _ _ _ _ _ _ _ _ _ _ _ _ _ _ ?k1 ?k2 ?k3 ?k4 ?k5 ?kK ?kd9 ?ku9 ?_; (case k1 => k_asm); (case k2 => k_asm); (case k3 => k_asm); (case k4 => k_asm); (case k5 => k_asm); (case kK => first | exact rfl | assumption); (case kd9 => walk_at "my room"); (case ku9 => walk_at "my units"))
  intro x dx k1 k2 t1 t2 h9 tk9 news' hsub hx hdx F9 N9
  try dsimp only
  walk_at "my steps"
  · unfold Brk
    k_dflt (refine' hman _ _ _ _ _ _ _ _ ?hx9 ?hdx9 _ _ _ _ _ _ _ _ _ _ _ _ _ _ _ _ _ ?k1 ?k2 ?k3 ?k4 ?k5 ?kK ?kd9 ?ku9 ?_; (case k1 => k_asm); (case k2 => k_asm); (case k3 => k_asm); (case k4 => k_asm); (case k5 => k_asm); (case kK => first | exact rfl | assumption); (case hx9 => k_mem); (case hdx9 => k_mem); (case kd9 => walk_at "my room"); (case ku9 => walk_at "my units"))
    intro D ta tb c h' tk' TT U hMR hTl hU1 hU2 F9 N9
    try dsimp only
    walk_at "my steps"
    unfold Brk
    refine P.str_of_int (Sz.shown (k := 64) ⟨by omega⟩ (by decide)) ?_
    walk_at "my steps"
    unfold Brk
    have hlU := dtx_len5 (U := U) (by omega) (by omega)
    refine translate_loop (g := supC) (X := dtx U) (by omega) supC_len (fun c hc => supC_wide c (dtx_codes hc)) (fun c hc => table_gives (Frag.In.keeps (by k_asm) (Fr.keep (by k_asm))) (dtx_codes hc)) (by rw [beq_eq_false_iff_ne]; omega) ?_ (Nat.le_trans (trT_len (U := U) (by omega) (by omega)) (by decide))
    intro tk7 u7
    have hT7 := trT_len (U := U) (by omega) (by omega)
    obtain ⟨R, hR⟩ : ∃ R, R = trT U := ⟨_, rfl⟩
    have hR' : (⟨List.foldl (fun acc (p : Str) => acc ++ p.cps) #[] ((dtx U).cps.toList.map supC)⟩ : Str) = R := hR.symm
    rw [hR']
    rw [← hR] at hT7
    try dsimp only
    walk_at "my steps"
    subst hR
    exact hret _ _ _ TT U hMR hTl hU1 hU2 (by k_asm) (cb_drop (by assumption) (fun p hp => by repeat (first | exact hsub p hp | refine List.mem_cons_of_mem _ ?_)))
  · exfalso; omega
end
section
local macro_rules | `(tactic| walk_at "dummy 434") => `(tactic| skip)
local macro_rules | `(tactic| walk_at "dummy 435") => `(tactic| skip)
local macro_rules | `(tactic| walk_at "dummy 436") => `(tactic| skip)
local macro_rules | `(tactic| walk_at "dummy 437") => `(tactic| skip)
local macro_rules | `(tactic| walk_at "dummy 438") => `(tactic| skip)
local macro_rules | `(tactic| walk_at "dummy 439") => `(tactic| skip)
local macro_rules | `(tactic| walk_at "dummy 440") => `(tactic| skip)
local macro_rules | `(tactic| walk_at "dummy 441") => `(tactic| skip)
local macro_rules | `(tactic| walk_at "dummy 442") => `(tactic| skip)
local macro_rules | `(tactic| walk_at "dummy 443") => `(tactic| skip)
local macro_rules | `(tactic| walk_at "dummy 444") => `(tactic| skip)
local macro_rules | `(tactic| walk_at "dummy 445") => `(tactic| skip)
local macro_rules | `(tactic| walk_at "dummy 446") => `(tactic| skip)
local macro_rules | `(tactic| walk_at "dummy 447") => `(tactic| skip)
local macro_rules | `(tactic| walk_at "dummy 448") => `(tactic| skip)
local macro_rules | `(tactic| walk_at "dummy 449") => `(tactic| skip)
local macro_rules | `(tactic| walk_at "dummy 450") => `(tactic| skip)
local macro_rules | `(tactic| walk_at "dummy 451") => `(tactic| skip)
local macro_rules | `(tactic| walk_at "dummy 452") => `(tactic| skip)
local macro_rules | `(tactic| walk_at "dummy 453") => `(tactic| skip)
local macro_rules | `(tactic| walk_at "dummy 454") => `(tactic| skip)
local macro_rules | `(tactic| walk_at "dummy 455") => `(tactic| skip)
local macro_rules | `(tactic| walk_at "dummy 456") => `(tactic| skip)
local macro_rules | `(tactic| walk_at "dummy 457") => `(tactic| skip)
local macro_rules | `(tactic| walk_at "dummy 458") => `(tactic| skip)
local macro_rules | `(tactic| walk_at "dummy 459") => `(tactic| skip)
local macro_rules | `(tactic| walk_at "dummy 460") => `(tactic| skip)
local macro_rules | `(tactic| walk_at "dummy 461") => `(tactic| skip)
local macro_rules | `(tactic| walk_at "dummy 462") => `(tactic| skip)
local macro_rules | `(tactic| walk_at "dummy 463") => `(tactic| skip)
local macro_rules | `(tactic| walk_at "dummy 464") => `(tactic| skip)
local macro_rules | `(tactic| walk_at "dummy 465") => `(tactic| skip)
local macro_rules | `(tactic| walk_at "dummy 466") => `(tactic| skip)
local macro_rules | `(tactic| walk_at "dummy 467") => `(tactic| skip)
local macro_rules | `(tactic| walk_at "dummy 468") => `(tactic| skip)
local macro_rules | `(tactic| walk_at "dummy 469") => `(tactic| skip)
local macro_rules | `(tactic| walk_at "dummy 470") => `(tactic| skip)
local macro_rules | `(tactic| walk_at "dummy 471") => `(tactic| skip)
local macro_rules | `(tactic| walk_at "dummy 472") => `(tactic| skip)
local macro_rules | `(tactic| walk_at "dummy 473") => `(tactic| skip)
local macro_rules | `(tactic| walk_at "dummy 474") => `(tactic| skip)
local macro_rules | `(tactic| walk_at "dummy 475") => `(tactic| skip)
local macro_rules | `(tactic| walk_at "dummy 476") => `(tactic| skip)
local macro_rules | `(tactic| walk_at "dummy 477") => `(tactic| skip)
local macro_rules | `(tactic| walk_at "dummy 478") => `(tactic| skip)
local macro_rules | `(tactic| walk_at "dummy 479") => `(tactic| skip)
local macro_rules | `(tactic| walk_at "dummy 480") => `(tactic| skip)
local macro_rules | `(tactic| walk_at "dummy 481") => `(tactic| skip)
local macro_rules | `(tactic| walk_at "dummy 482") => `(tactic| skip)
local macro_rules | `(tactic| walk_at "dummy 483") => `(tactic| skip)
local macro_rules | `(tactic| walk_at "dummy 484") => `(tactic| skip)
local macro_rules | `(tactic| walk_at "dummy 485") => `(tactic| skip)
local macro_rules | `(tactic| walk_at "dummy 486") => `(tactic| skip)
local macro_rules | `(tactic| walk_at "dummy 487") => `(tactic| skip)
local macro_rules | `(tactic| walk_at "dummy 488") => `(tactic| skip)
local macro_rules | `(tactic| walk_at "dummy 489") => `(tactic| skip)
local macro_rules | `(tactic| walk_at "dummy 490") => `(tactic| skip)
local macro_rules | `(tactic| walk_at "dummy 491") => `(tactic| skip)
local macro_rules | `(tactic| walk_at "dummy 492") => `(tactic| skip)
local macro_rules | `(tactic| walk_at "dummy 493") => `(tactic| skip)
local macro_rules | `(tactic| walk_at "dummy 494") => `(tactic| skip)
local macro_rules | `(tactic| walk_at "dummy 495") => `(tactic| skip)
local macro_rules | `(tactic| walk_at "dummy 496") => `(tactic| skip)
local macro_rules | `(tactic| walk_at "dummy 497") => `(tactic| skip)
local macro_rules | `(tactic| walk_at "dummy 498") => `(tactic| skip)
local macro_rules | `(tactic| walk_at "dummy 499") => `(tactic| skip)
local macro_rules | `(tactic| walk_at "dummy 500") => `(tactic| skip)
local macro_rules | `(tactic| walk_at "dummy 501") => `(tactic| skip)
local macro_rules | `(tactic| walk_at "dummy 502") => `(tactic| skip)
local macro_rules | `(tactic| walk_at "dummy 503") => `(tactic| skip)
local macro_rules | `(tactic| walk_at "dummy 504") => `(tactic| skip)
local macro_rules | `(tactic| walk_at "dummy 505") => `(tactic| skip)
local macro_rules | `(tactic| walk_at "dummy 506") => `(tactic| skip)
local macro_rules | `(tactic| walk_at "dummy 507") => `(tactic| skip)
theorem fresh_MDbl1 : True := by
  w_top off
  trivial
local macro_rules | `(tactic| walk_at "call ref") => `(tactic| (k_here; (with_reducible show wpAny _ _ (call (Value.ref 28) [Value.int _ _, Value.int _ _]) _ _ _); k_dflt (refine' nearest_ok _ _ _ _ ?hd9 ?hn9 ?hsd9 ?hov9 _ _ _ _ _ _ _ _ _ _ _ _ _ _ _ _ _ ?k1 ?k2 ?k3 ?k4 ?k5 ?kK ?kd9 ?ku9 ?_; (case k1 => k_asm); (case k2 => k_asm); (case k3 => k_asm); (case k4 => k_asm); (case k5 => k_asm); (case kK => first | exact rfl | assumption); (case hd9 => assumption); (case hn9 => assumption); (case hsd9 => assumption); (case hov9 => assumption); (case kd9 => walk_at "my room"); (case ku9 => walk_at "my units")); (intro D9 t9 u9 c9 h9 tk9 F9 N9 l9; (try simp only [AllLt, and_true] at l9); (try dsimp only); (try k_fold))))
local macro_rules | `(tactic| walk_at "call ref") => `(tactic| (k_here; (with_reducible show wpAny _ _ (call (Value.ref 109) _) _ _ _); k_dflt (refine' call_cls ?k1 ?k2 ?k3 ?k4 ?k5 ?k6 ?_; (case k1 => k_asm); (case k2 => k_asm); (case k3 => k_asm); (case k4 => k_is); (case k5 => k_is); (case k6 => k_is); k_whole; intro x' d' h' F' N' l1 l2; (try k_lt l1); (try k_lt2 l2); (try k_sweep); walk_at "my enter")))
theorem double_new1 {w : World} {p : Program} {loose : List Str} {mean : ExcName → Option Value} {mg mb : Str → Option Value} {news : List (Addr × Obj)} (n : Int) (tn : Tok) (hn : Sz n 700) (hd : (0 : Int) < 1) (hsd : Sz 1 700) (hov : ¬ 1 * 2 ^ Int.toNat 1024 ≤ iabs (whl n 1) * 2 ^ (mx0 (-(shF n 1))).toNat) :
    FnC w p loose mean mg mb 109 news 5 40 [.int n tn] fun h₀ L m s Q => ∀ (x dx : Addr) (k1 k2 t1 t2 : Tok) (h' : Heap) (tk' : Nat), Fr h₀ L h' m → News h₀ L h' ((x, instObj 109 dx) :: (dx, dblDict w k1 k2 (dbN n 1) (dbD n 1) t1 t2) :: news) → Q (.ref x) { s with heap := h', toks := tk' } := by
  unfold FnC
  k_fill
  intro dp un gd cn cs a ccd cl outer A₀ base h₀ L m s Q E B F X N T hk hdp hun hret
  k_steps
  · have e1 : dbN n 1 = n := if_pos (by assumption)
    have e2 : dbD n 1 = 1 := if_pos (by assumption)
    rw [e1, e2] at hret
    exact hret _ _ _ _ _ _ _ _ (by k_asm) (news_tail (by assumption))
  · have e1 : dbN n 1 = nrN n 1 := if_neg (by assumption)
    have e2 : dbD n 1 = nrD n 1 := if_neg (by assumption)
    rw [e1, e2] at hret
    exact hret _ _ _ _ _ _ _ _ (by k_asm) (news_tail (by assumption))
end
section
local macro_rules | `(tactic| walk_at "dummy 508") => `(tactic| skip)
local macro_rules | `(tactic| walk_at "dummy 509") => `(tactic| skip)
local macro_rules | `(tactic| walk_at "dummy 510") => `(tactic| skip)
local macro_rules | `(tactic| walk_at "dummy 511") => `(tactic| skip)
local macro_rules | `(tactic| walk_at "dummy 512") => `(tactic| skip)
local macro_rules | `(tactic| walk_at "dummy 513") => `(tactic| skip)
local macro_rules | `(tactic| walk_at "dummy 514") => `(tactic| skip)
local macro_rules | `(tactic| walk_at "dummy 515") => `(tactic| skip)
local macro_rules | `(tactic| walk_at "dummy 516") => `(tactic| skip)
local macro_rules | `(tactic| walk_at "dummy 517") => `(tactic| skip)
local macro_rules | `(tactic| walk_at "dummy 518") => `(tactic| skip)
local macro_rules | `(tactic| walk_at "dummy 519") => `(tactic| skip)
local macro_rules | `(tactic| walk_at "dummy 520") => `(tactic| skip)
local macro_rules | `(tactic| walk_at "dummy 521") => `(tactic| skip)
local macro_rules | `(tactic| walk_at "dummy 522") => `(tactic| skip)
local macro_rules | `(tactic| walk_at "dummy 523") => `(tactic| skip)
local macro_rules | `(tactic| walk_at "dummy 524") => `(tactic| skip)
local macro_rules | `(tactic| walk_at "dummy 525") => `(tactic| skip)
local macro_rules | `(tactic| walk_at "dummy 526") => `(tactic| skip)
local macro_rules | `(tactic| walk_at "dummy 527") => `(tactic| skip)
local macro_rules | `(tactic| walk_at "dummy 528") => `(tactic| skip)
local macro_rules | `(tactic| walk_at "dummy 529") => `(tactic| skip)
local macro_rules | `(tactic| walk_at "dummy 530") => `(tactic| skip)
local macro_rules | `(tactic| walk_at "dummy 531") => `(tactic| skip)
local macro_rules | `(tactic| walk_at "dummy 532") => `(tactic| skip)
local macro_rules | `(tactic| walk_at "dummy 533") => `(tactic| skip)
local macro_rules | `(tactic| walk_at "dummy 534") => `(tactic| skip)
local macro_rules | `(tactic| walk_at "dummy 535") => `(tactic| skip)
local macro_rules | `(tactic| walk_at "dummy 536") => `(tactic| skip)
local macro_rules | `(tactic| walk_at "dummy 537") => `(tactic| skip)
local macro_rules | `(tactic| walk_at "dummy 538") => `(tactic| skip)
local macro_rules | `(tactic| walk_at "dummy 539") => `(tactic| skip)
local macro_rules | `(tactic| walk_at "dummy 540") => `(tactic| skip)
local macro_rules | `(tactic| walk_at "dummy 541") => `(tactic| skip)
local macro_rules | `(tactic| walk_at "dummy 542") => `(tactic| skip)
local macro_rules | `(tactic| walk_at "dummy 543") => `(tactic| skip)
local macro_rules | `(tactic| walk_at "dummy 544") => `(tactic| skip)
local macro_rules | `(tactic| walk_at "dummy 545") => `(tactic| skip)
local macro_rules | `(tactic| walk_at "dummy 546") => `(tactic| skip)
local macro_rules | `(tactic| walk_at "dummy 547") => `(tactic| skip)
local macro_rules | `(tactic| walk_at "dummy 548") => `(tactic| skip)
local macro_rules | `(tactic| walk_at "dummy 549") => `(tactic| skip)
local macro_rules | `(tactic| walk_at "dummy 550") => `(tactic| skip)
local macro_rules | `(tactic| walk_at "dummy 551") => `(tactic| skip)
local macro_rules | `(tactic| walk_at "dummy 552") => `(tactic| skip)
local macro_rules | `(tactic| walk_at "dummy 553") => `(tactic| skip)
local macro_rules | `(tactic| walk_at "dummy 554") => `(tactic| skip)
local macro_rules | `(tactic| walk_at "dummy 555") => `(tactic| skip)
local macro_rules | `(tactic| walk_at "dummy 556") => `(tactic| skip)
local macro_rules | `(tactic| walk_at "dummy 557") => `(tactic| skip)
local macro_rules | `(tactic| walk_at "dummy 558") => `(tactic| skip)
local macro_rules | `(tactic| walk_at "dummy 559") => `(tactic| skip)
local macro_rules | `(tactic| walk_at "dummy 560") => `(tactic| skip)
local macro_rules | `(tactic| walk_at "dummy 561") => `(tactic| skip)
local macro_rules | `(tactic| walk_at "dummy 562") => `(tactic| skip)
local macro_rules | `(tactic| walk_at "dummy 563") => `(tactic| skip)
local macro_rules | `(tactic| walk_at "dummy 564") => `(tactic| skip)
local macro_rules | `(tactic| walk_at "dummy 565") => `(tactic| skip)
local macro_rules | `(tactic| walk_at "dummy 566") => `(tactic| skip)
local macro_rules | `(tactic| walk_at "dummy 567") => `(tactic| skip)
local macro_rules | `(tactic| walk_at "dummy 568") => `(tactic| skip)
local macro_rules | `(tactic| walk_at "dummy 569") => `(tactic| skip)
local macro_rules | `(tactic| walk_at "dummy 570") => `(tactic| skip)
local macro_rules | `(tactic| walk_at "dummy 571") => `(tactic| skip)
local macro_rules | `(tactic| walk_at "dummy 572") => `(tactic| skip)
local macro_rules | `(tactic| walk_at "dummy 573") => `(tactic| skip)
local macro_rules | `(tactic| walk_at "dummy 574") => `(tactic| skip)
local macro_rules | `(tactic| walk_at "dummy 575") => `(tactic| skip)
theorem fresh_MDouble : True := by
  w_top off
  trivial
local macro_rules | `(tactic| walk_at "call ref") => `(tactic| (k_here; (with_reducible show wpAny _ _ (call (Value.ref 21) [Value.int _ _, Value.int _ _]) _ _ _); k_dflt (refine' rounded_ok _ _ _ _ ?hd9 ?hsd9 _ _ _ _ _ _ _ _ _ _ _ _ _ _ _ _ _ ?k1 ?k2 ?k3 ?k4 ?k5 ?kK ?kd9 ?ku9 ?_; (case k1 => k_asm); (case k2 => k_asm); (case k3 => k_asm); (case k4 => k_asm); (case k5 => k_asm); (case kK => first | exact rfl | assumption); (case hd9 => first | assumption | exact mul_pow2_pos (by assumption) _ | exact mul_pow10_pos (by assumption) _); (case hsd9 => exact Sz.le (by walk_at "my sz") (by decide)); (case kd9 => walk_at "my room"); (case ku9 => walk_at "my units")); (intro t9 h9 tk9 F9 N9; (try dsimp only); (try k_fold))))
local macro_rules | `(tactic| walk_at "call ref") => `(tactic| (k_here; (with_reducible show wpAny _ _ (call (Value.ref 109) [Value.int _ _, Value.int _ _]) _ _ _); k_dflt (refine' double_new _ _ _ _ ?hd9 ?hn9 ?hsd9 ?hov9 _ _ _ _ _ _ _ _ _ _ _ _ _ _ _ _ _ ?k1 ?k2 ?k3 ?k4 ?k5 ?kK ?kd9 ?ku9 ?_; (case k1 => k_asm); (case k2 => k_asm); (case k3 => k_asm); (case k4 => k_asm); (case k5 => k_asm); (case kK => first | exact rfl | assumption); (case hd9 => assumption); (case hn9 => assumption); (case hsd9 => assumption); (case hov9 => assumption); (case kd9 => walk_at "my room"); (case ku9 => walk_at "my units")); (intro x9 dx9 t9 u9 v9 y9 h9 tk9 F9 N9; (try dsimp only); (try k_fold))))
local macro_rules | `(tactic| walk_at "call ref") => `(tactic| (k_here; (with_reducible show wpAny _ _ (call (Value.ref 160) [Value.ref _, Value.int _ _]) _ _ _); k_dflt (refine' whole_log_ok _ _ ?hd9 ?hn9 ?hsd9 ?hx9 ?hdx9 ?hup9 ?hdn9 _ _ _ _ _ _ _ _ _ _ _ _ _ _ _ _ _ ?k1 ?k2 ?k3 ?k4 ?k5 ?kK ?kd9 ?ku9 ?_; (case k1 => k_asm); (case k2 => k_asm); (case k3 => k_asm); (case k4 => k_asm); (case k5 => k_asm); (case kK => first | exact rfl | assumption); (case hx9 => k_mem); (case hdx9 => k_mem); (case hd9 => assumption); (case hn9 => assumption); (case hsd9 => assumption); (case hup9 => assumption); (case hdn9 => assumption); (case kd9 => walk_at "my room"); (case ku9 => walk_at "my units")); (intro j9 t9 h9 tk9 l9 m9 n9 F9 N9; (try dsimp only); (try k_fold))))
local macro_rules | `(tactic| walk_at "call ref") => `(tactic| (k_here; (with_reducible show wpAny _ _ (call (Value.ref 190) [Value.int _ _, Value.int _ _]) _ _ _); k_dflt (refine' near_ok _ _ _ _ ?hd9 ?he9 ?hn9 ?hsd9 ?hr9 ?hq9 _ _ _ _ _ _ _ _ _ _ _ _ _ _ _ _ _ ?k1 ?k2 ?k3 ?k4 ?k5 ?kK ?kd9 ?ku9 ?_; (case k1 => k_asm); (case k2 => k_asm); (case k3 => k_asm); (case k4 => k_asm); (case k5 => k_asm); (case kK => first | exact rfl | assumption); (case hd9 => assumption); (case he9 => assumption); (case hn9 => assumption); (case hsd9 => assumption); (case hr9 => assumption); (case hq9 => assumption); (case kd9 => walk_at "my room"); (case ku9 => walk_at "my units")); (intro D9 t9 u9 c9 h9 tk9 F9 N9; (try dsimp only); (try k_fold))))
local macro_rules | `(tactic| walk_at "call ref") => `(tactic| (k_here; (with_reducible show wpAny _ _ (call (Value.ref 197) [Value.int _ _, Value.int _ _, Value.int _ _]) _ _ _); k_dflt (refine' put_ok _ _ _ _ _ _ ?hd9 ?he9 ?hn9 ?hsd9 ?hr9 ?hq9 _ _ _ _ _ _ _ _ _ _ _ _ _ _ _ _ _ ?k1 ?k2 ?k3 ?k4 ?k5 ?kK ?kd9 ?ku9 ?_; (case k1 => k_asm); (case k2 => k_asm); (case k3 => k_asm); (case k4 => k_asm); (case k5 => k_asm); (case kK => first | exact rfl | assumption); (case hd9 => exact mul_pow10_pos (by assumption) _); (case he9 => exact Int.ne_of_gt (mul_pow10_pos (by assumption) _)); (case hn9 => exact Sz.le (by walk_at "my sz") (by decide)); (case hsd9 => exact Sz.le (by walk_at "my sz") (by decide)); (case hr9 => assumption); (case hq9 => assumption); (case kd9 => walk_at "my room"); (case ku9 => walk_at "my units")); (intro t9 h9 tk9 F9 N9; (try dsimp only); (try k_fold))))
local macro_rules | `(tactic| walk_at "call ref") => `(tactic| (k_here; (with_reducible show wpAny _ _ (call (Value.ref 204) [Value.int _ _, Value.int _ _]) _ _ _); k_dflt (refine' text_ok _ _ _ _ ?hd9 ?he9 ?hn9 ?hr9 ?hq9 _ _ _ _ _ _ _ _ _ _ _ _ _ _ _ _ _ ?k1 ?k2 ?k3 ?k4 ?k5 ?kK ?kd9 ?ku9 ?_; (case k1 => k_asm); (case k2 => k_asm); (case k3 => k_asm); (case k4 => k_asm); (case k5 => k_asm); (case kK => first | exact rfl | assumption); (case hd9 => assumption); (case he9 => assumption); (case hn9 => assumption); (case hr9 => assumption); (case hq9 => assumption); (case kd9 => walk_at "my room"); (case ku9 => walk_at "my units")); (intro t9 h9 tk9 F9 N9; (try dsimp only); (try k_fold))))
local macro_rules | `(tactic| walk_at "call ref") => `(tactic| (k_here; (with_reducible show wpAny _ _ (call (Value.ref 146) [Value.str _ _]) _ _ _); k_dflt (refine' plain_ok _ _ ?hd9 ?he9 ?hn9 _ _ _ _ _ _ _ _ _ _ _ _ _ _ _ _ _ ?k1 ?k2 ?k3 ?k4 ?k5 ?kK ?kd9 ?ku9 ?_; (case k1 => k_asm); (case k2 => k_asm); (case k3 => k_asm); (case k4 => k_asm); (case k5 => k_asm); (case kK => first | exact rfl | assumption); (case hd9 => first | assumption | (simp only [PySem.Str.length_append]; have hem9 : Str.empty.length = 0 := rfl; omega)); (case he9 => assumption); (case hn9 => assumption); (case kd9 => walk_at "my room"); (case ku9 => walk_at "my units")); (intro h9 tk9 F9 N9; (try dsimp only); (try k_fold))))
local macro_rules | `(tactic| walk_at "call ref") => `(tactic| (k_here; (with_reducible show wpAny _ _ (call (Value.ref 153) _) _ _ _); refine brk ?_))
local macro_rules | `(tactic| walk_at "call ref") => `(tactic| (k_here; (with_reducible show wpAny _ _ (call (Value.ref 109) _) _ _ _); refine brk ?_))
theorem dbl_ref {w : World} {p : Program} {loose : List Str} {mean : ExcName → Option Value} {mg mb : Str → Option Value} {news : List (Addr × Obj)} {x dx : Addr} {k1 k2 t1 t2 : Tok} (n d : Int) (hx : (x, instObj 109 dx) ∈ news) (hdx : (dx, dblDict w k1 k2 n d t1 t2) ∈ news) :
    FnC w p loose mean mg mb 120 news 14 180 [.ref x] (DblR w news n d) := by
  unfold FnC
  k_fill
  intro dp un gd cn cs a ccd cl outer A₀ base h₀ L m s Q E B F X N T hk hdp hun hret
  refine wpAny_call ?_
  k_dflt (walk_at "my enter")
  walk_at "my steps"
  exact hret _ _ _ _ _ _ _ _ _ (fun p hp => hp) hx hdx (by k_asm) (by k_asm)
theorem dbl_int {w : World} {p : Program} {loose : List Str} {mean : ExcName → Option Value} {mg mb : Str → Option Value} {news : List (Addr × Obj)} (n : Int) (tn : Tok) (hn : Sz n 700) (hov : ¬ 1 * 2 ^ Int.toNat 1024 ≤ iabs (whl n 1) * 2 ^ (mx0 (-(shF n 1))).toNat) :
    FnC w p loose mean mg mb 120 news 14 180 [.int n tn] (DblR w news (dbN n 1) (dbD n 1)) := by
  unfold FnC
  k_fill
  intro dp un gd cn cs a ccd cl outer A₀ base h₀ L m s Q E B F X N T hk hdp hun hret
  refine wpAny_call ?_
  k_dflt (walk_at "my enter")
  walk_at "my steps"
  unfold Brk
  k_dflt (refine' double_new1 _ _ ?hn9 ?hd9 ?hsd9 ?hov9 _ _ _ _ _ _ _ _ _ _ _ _ _ _ _ _ _ ?k1 ?k2 ?k3 ?k4 ?k5 ?kK ?kd9 ?ku9 ?_; (case k1 => k_asm); (case k2 => k_asm); (case k3 => k_asm); (case k4 => k_asm); (case k5 => k_asm); (case kK => first | exact rfl | assumption); (case hd9 => decide); (case hn9 => assumption); (case hsd9 => exact ⟨Nat.one_lt_two_pow (by decide)⟩); (case hov9 => assumption); (case kd9 => walk_at "my room"); (case ku9 => walk_at "my units"))
  intro x9 dx9 t9 u9 v9 y9 h9 tk9 F9 N9
  try dsimp only
  walk_at "my steps"
  refine hret _ _ _ _ _ _ _ _ _ (fun p hp => ?_) (List.mem_cons_self ..) (List.mem_cons_of_mem _ (List.mem_cons_self ..)) (by k_asm) (by assumption)
  exact List.mem_cons_of_mem _ (List.mem_cons_of_mem _ hp)
theorem dbl_str {w : World} {p : Program} {loose : List Str} {mean : ExcName → Option Value} {mg mb : Str → Option Value} {news : List (Addr × Obj)} (X W0 W D M PW PL : Str) (neg : Bool) (n pw : Int) (NN DD : Int) (tx : Tok) (H : RF X W0 W D M PW PL neg n pw) (hp : -100 ≤ pw ∧ pw ≤ 100) (hns : Sz n 100)
    (hNN : (if neg = true then -1 else 1) * n * 10 ^ (mx0 pw).toNat = NN) (hDD : 10 ^ (mx0 (-pw)).toNat = DD) (hNs : Sz NN 700) (hDp : 0 < DD) (hDs : Sz DD 700) (hov : ¬ 1 * 2 ^ Int.toNat 1024 ≤ iabs (whl NN DD) * 2 ^ (mx0 (-(shF NN DD))).toNat) :
    FnC w p loose mean mg mb 120 news 14 180 [.str X tx] (DblR w news (dbN NN DD) (dbD NN DD)) := by
  unfold FnC
  k_fill
  intro dp un gd cn cs a ccd cl outer A₀ base h₀ L m s Q E B F X' N T hk hdp hun hret
  refine wpAny_call ?_
  k_dflt (walk_at "my enter")
  walk_at "my steps"
  unfold Brk
  k_dflt (refine' read_ok _ _ _ _ _ _ _ _ _ _ NN DD _ H hp hns hNN hDD hNs hDp hDs hov _ _ _ _ _ _ _ _ _ _ _ _ _ _ _ _ _ ?k1 ?k2 ?k3 ?k4 ?k5 ?kK ?kd9 ?ku9 ?_; (case k1 => k_asm); (case k2 => k_asm); (case k3 => k_asm); (case k4 => k_asm); (case k5 => k_asm); (case kK => first | exact rfl | assumption); (case kd9 => walk_at "my room"); (case ku9 => walk_at "my units"))
  intro x9 dx9 t9 u9 v9 y9 h9 tk9 F9 N9
  try dsimp only
  walk_at "my steps"
  refine hret _ _ _ _ _ _ _ _ _ (fun p hp => ?_) (List.mem_cons_self ..) (List.mem_cons_of_mem _ (List.mem_cons_self ..)) (by k_asm) (by assumption)
  exact List.mem_cons_of_mem _ (List.mem_cons_of_mem _ hp)
end
section
section
variable {prog : Program} {w : World} {A : Around} {E : Value → Shared → Prop} {s : Shared} {env : Env} {h₀ : Heap} {target : Expr} {body : List Stmt} {Q : Flow → Shared → Prop}
/-- a frame in which two names are known -/
def mk2 (x : Str) (a : Value) (y : Str) (b : Value) (u : Str → Option Value) : Str → Option Value := fun z => if z = x then some a else if z = y then some b else u z
theorem mk2_of {x y : Str} {a b : Value} {m : Str → Option Value} (hx : m x = some a) (hy : m y = some b) : m = mk2 x a y b m := by
  funext z
  unfold mk2
  by_cases h1 : z = x
  · rw [if_pos h1, h1, hx]
  · rw [if_neg h1]
    by_cases h2 : z = y
    · rw [if_pos h2, h2, hy]
    · rw [if_neg h2]
def TurnEnd (h₀ : Heap) (L : Addr) (x : Str) (a : Value) (y : Str) (b : Value) (keep : List (Addr × Obj)) (s₁ : Shared) (s₂ : Shared) : Prop :=
  ∃ h' tk u, s₂ = { s₁ with heap := h', toks := tk } ∧ Fr h₀ L h' (mk2 x a y b u) ∧ News h₀ L h' keep
def TurnPost (h₀ : Heap) (L : Addr) (x : Str) (a : Value) (y : Str) (b : Value) (keep : List (Addr × Obj)) (s₁ : Shared) (Q : Flow → Shared → Prop) (f : Flow) (s₂ : Shared) : Prop :=
  match f with
  | .ret v => Q (.ret v) s₂
  | .brk => Q .next s₂
  | _ => TurnEnd h₀ L x a y b keep s₁ s₂
theorem turns_rest {x y : Str} {a b : Value} {T I : Addr} {lo lD : Obj} {D : Addr} (hTI : T < I) (hDI : D < I)
    (turn : ∀ k t oI u h tk, 0 ≤ k → k ≤ 7 → Fr h₀ env.locals h (mk2 x a y b u) → News h₀ env.locals h [(D, lD), (T, lo), (I, oI)] →
      wpAny (model prog w) A (assign target env (.int k t)) (fun _ s₂ => wpAny (model prog w) A (execs body env) (TurnPost h₀ env.locals x a y b [(D, lD), (T, lo), (I, oI)] { s with heap := h, toks := tk } Q) E s₂) E { s with heap := h, toks := tk })
    (done : ∀ u h tk, Fr h₀ env.locals h (mk2 x a y b u) → News h₀ env.locals h [(D, lD), (T, lo)] → Q .next { s with heap := h, toks := tk }) :
    ∀ vs : List Value, (∀ v ∈ vs, ∃ k t, v = .int k t ∧ 0 ≤ k ∧ k ≤ 7) → ∀ u, ItemsRest prog w A E h₀ env target body Q s [(I, "tuple_iterator")] [(T, lo)] (vs.map .val) (mk2 x a y b u) [(D, lD), (T, lo)] := by
  intro vs
  induction vs with
  | nil => intro _ u; exact ItemsRest.zero fun h tk F N => done u h tk F N
  | cons v r ih =>
    intro hv u
    obtain ⟨k, t, rfl, hk0, hk7⟩ := hv v (List.mem_cons_self ..)
    refine ItemsRest.val fun h tk F => AllObj.cons fun oI hc => AllObj.nil fun N => ?_
    have N1 : News h₀ env.locals h [(D, lD), (T, lo), (I, oI)] := fun p hp => N p (by
      simp only [List.mem_cons, List.not_mem_nil, or_false, List.mem_append] at hp ⊢
      rcases hp with h | h | h
      · exact .inr (.inl h)
      · exact .inr (.inr h)
      · exact .inl h)
    refine wpAny_mono (turn k t oI u h tk hk0 hk7 F N1) (fun _ s₂ h2 => wpAny_mono h2 (fun f s₃ h3 => ?_) fun _ _ e => e) fun _ _ e => e
    have fin : TurnEnd h₀ env.locals x a y b [(D, lD), (T, lo), (I, oI)] { s with heap := h, toks := tk } s₃ →
        UnrEndW h₀ env.locals { s with heap := h, toks := tk } [(I, oI)] (fun m' n' => SubL [(T, lo)] n' ∧ ItemsRest prog w A E h₀ env target body Q s [(I, "tuple_iterator")] [(T, lo)] (r.map .val) m' n') s₃ := by
      rintro ⟨h', tk', u', e, F', N'⟩
      refine ⟨h', tk', _, [(D, lD), (T, lo)], e, F', fun p hp => N' p ?_, ?_, ⟨⟨List.mem_cons_of_mem _ (List.mem_cons_self ..), trivial⟩, ih (fun v hv' => hv v (List.mem_cons_of_mem _ hv')) u'⟩⟩
      · simp only [List.mem_cons, List.not_mem_nil, or_false, List.mem_append] at hp ⊢
        rcases hp with h | h | h
        · exact .inr (.inr h)
        · exact .inl h
        · exact .inr (.inl h)
      · intro p hp q hq
        have hq' : q = (I, oI) := List.mem_singleton.mp hq
        subst hq'
        simp only [List.mem_cons, List.not_mem_nil, or_false] at hp
        rcases hp with h | h
        · subst h; exact Nat.ne_of_lt hDI
        · subst h; exact Nat.ne_of_lt hTI
    cases f with
    | ret v => exact h3
    | brk => exact h3
    | next => exact fin h3
    | cont => exact fin h3
theorem iter_turns {x y : Str} {a b : Value} {T : Addr} {lo lD : Obj} {D : Addr} {n : Nat} {vs : List Value} {m₀ : Str → Option Value} {news : List (Addr × Obj)} (hh : A.handled = none) (F : Fr h₀ env.locals s.heap m₀) (hx : m₀ x = some a) (hy : m₀ y = some b)
    (N : News h₀ env.locals s.heap news) (hm : (T, lo) ∈ news) (hD : (D, lD) ∈ news) (hc : lo.cls = .type "tuple") (hd : lo.data = .seq vs.toArray n) (hv : ∀ v ∈ vs, ∃ k t, v = .int k t ∧ 0 ≤ k ∧ k ≤ 7)
    (turn : ∀ I k t oI T' oT u h tk, 0 ≤ k → k ≤ 7 → D < I → T' < I → Fr h₀ env.locals h (mk2 x a y b u) → News h₀ env.locals h [(D, lD), (T', oT), (I, oI)] →
      wpAny (model prog w) A (assign target env (.int k t)) (fun _ s₂ => wpAny (model prog w) A (execs body env) (TurnPost h₀ env.locals x a y b [(D, lD), (T', oT), (I, oI)] { s with heap := h, toks := tk } Q) E s₂) E { s with heap := h, toks := tk })
    (done : ∀ u h tk, Fr h₀ env.locals h (mk2 x a y b u) → News h₀ env.locals h [(D, lD), (T, lo)] → Q .next { s with heap := h, toks := tk }) :
    wpAny (model prog w) A (pyIter (.ref T)) (fun it s₂ => TurnsAt prog w A h₀ env target body Q E it s₂) E s := by
  have e := mk2_of hx hy
  rw [e] at F
  have N1 : News h₀ env.locals s.heap [(D, lD), (T, lo)] := fun p hp => by
    simp only [List.mem_cons, List.not_mem_nil, or_false] at hp
    rcases hp with h | h
    · subst h; exact N _ hD
    · subst h; exact N _ hm
  refine iter_tupTurns hh F N1 (List.mem_cons_of_mem _ (List.mem_cons_self ..)) hc hd fun I hI => ?_
  exact turns_rest (hI (T, lo) (List.mem_cons_of_mem _ (List.mem_cons_self ..))) (hI (D, lD) (List.mem_cons_self ..)) (fun k t oI u h tk a b F N => turn I k t oI T lo u h tk a b (hI (D, lD) (List.mem_cons_self ..)) (hI (T, lo) (List.mem_cons_of_mem _ (List.mem_cons_self ..))) F N) done vs hv _
end
section
variable {M : Model} {A : Around} {E : Value → Shared → Prop} {s : Shared} {env : Env} {h₀ : Heap} {L : Addr} {Q : Flow → Shared → Prop} {m : Str → Option Value}
/-- a statement that sets one name and goes on -/
def NextEnd (h₀ : Heap) (L : Addr) (x : Str) (m : Str → Option Value) (keep : List (Addr × Obj)) (P : Value → List (Addr × Obj) → Prop) (s₁ : Shared) (f : Flow) (s₂ : Shared) : Prop :=
  f = .next ∧ ∃ h' tk v news', s₂ = { s₁ with heap := h', toks := tk } ∧ Fr h₀ L h' (fun z => if z = x then some v else m z) ∧ News h₀ L h' news' ∧ (∀ p ∈ keep, p ∈ news') ∧ P v news'
theorem merge_at (x : Str) (keep : List (Addr × Obj)) (P : Value → List (Addr × Obj) → Prop) {st : Stmt} (_F : Fr h₀ L s.heap m)
    (h : wpAny M A (exec st env) (NextEnd h₀ L x m keep P s) E s)
    (hn : ∀ h' tk v news', Fr h₀ L h' (fun z => if z = x then some v else m z) → News h₀ L h' news' → (∀ p ∈ keep, p ∈ news') → P v news' → Q .next { s with heap := h', toks := tk }) :
    wpAny M A (exec st env) Q E s := by
  refine wpAny_mono h (fun f s₂ h2 => ?_) fun _ _ e => e
  obtain ⟨rfl, h', tk, v, news', rfl, F', N', hs, hp⟩ := h2
  exact hn h' tk v news' F' N' hs hp
theorem self_map {x : Str} {v : Value} {m : Str → Option Value} (hx : m x = some v) : m = fun z => if z = x then some v else m z := by
  funext z
  by_cases h1 : z = x
  · rw [if_pos h1, h1, hx]
  · rw [if_neg h1]
theorem same_map {x : Str} {v : Value} {m m' : Str → Option Value} (hx : m x = some v) (hm : ∀ z, z ≠ x → m z = m' z) : m = fun z => if z = x then some v else m' z := by
  funext z
  by_cases h1 : z = x
  · rw [if_pos h1, h1, hx]
  · rw [if_neg h1]; exact hm z h1
end
section
variable {s₁ : Shared} {h₀ : Heap} {L : Addr} {m : Str → Option Value} {x : Str} {keep news' : List (Addr × Obj)} {P : Value → List (Addr × Obj) → Prop} {h' : Heap} {tk : Nat} {v : Value}
theorem NextEnd.set (F : Fr h₀ L h' (fun z => if z = x then some v else m z)) (N : News h₀ L h' news') (hs : ∀ p ∈ keep, p ∈ news') (hp : P v news') : NextEnd h₀ L x m keep P s₁ .next { s₁ with heap := h', toks := tk } :=
  ⟨rfl, h', tk, v, news', rfl, F, N, hs, hp⟩
theorem NextEnd.self (F : Fr h₀ L h' m) (N : News h₀ L h' news') (hx : m x = some v) (hs : ∀ p ∈ keep, p ∈ news') (hp : P v news') : NextEnd h₀ L x m keep P s₁ .next { s₁ with heap := h', toks := tk } :=
  ⟨rfl, h', tk, v, news', rfl, (self_map hx) ▸ F, N, hs, hp⟩
end
theorem TurnPost.done {h₀ : Heap} {L : Addr} {x y : Str} {a b : Value} {keep news' : List (Addr × Obj)} {s₁ : Shared} {Q : Flow → Shared → Prop} {m' : Str → Option Value} {h' : Heap} {tk : Nat} (F : Fr h₀ L h' m') (hx : m' x = some a) (hy : m' y = some b)
    (N : News h₀ L h' news') (hs : ∀ p ∈ keep, p ∈ news') : TurnPost h₀ L x a y b keep s₁ Q .next { s₁ with heap := h', toks := tk } :=
  ⟨h', tk, m', rfl, (mk2_of hx hy) ▸ F, fun p hp => N p (hs p hp)⟩
theorem bne_no {x : Str} (h : (x != x) = true) : False := by
  rw [bne_self_eq_false] at h
  cases h
end
section
/-- m is a over b, put right to a whole number, halves to the even one -/
structure IsR (a b m : Int) : Prop where
  lo : (2 * m - 1) * b ≤ 2 * a
  hi : 2 * a ≤ (2 * m + 1) * b
  ev : (2 * a = (2 * m + 1) * b ∨ 2 * a = (2 * m - 1) * b) → m % 2 = 0
theorem IsR.uniq {a b m k : Int} (hb : 0 < b) (h : IsR a b m) (h' : IsR a b k) : m = k := by
  have key : ∀ m k : Int, IsR a b m → IsR a b k → ¬ m < k := by
    intro m k h h' hlt
    have h1 : (2 * m + 1) * b ≤ (2 * k - 1) * b := Int.mul_le_mul_of_nonneg_right (by omega) (Int.le_of_lt hb)
    have e1 : 2 * a = (2 * m + 1) * b := Int.le_antisymm h.hi (Int.le_trans h1 h'.lo)
    have e2 : 2 * a = (2 * k - 1) * b := Int.le_antisymm (Int.le_trans h.hi h1) h'.lo
    have e3 : 2 * m + 1 = 2 * k - 1 := Int.eq_of_mul_eq_mul_right (Int.ne_of_gt hb) (e1.symm.trans e2)
    have e4 := h.ev (.inl e1)
    have e5 := h'.ev (.inr e2)
    omega
  have h1 := key m k h h'
  have h2 := key k m h' h
  omega
theorem IsR.scale {a b m c : Int} (hc : 0 < c) (h : IsR a b m) : IsR (a * c) (b * c) m := by
  have hc' := Int.le_of_lt hc
  refine ⟨?_, ?_, fun e => h.ev ?_⟩
  · have := Int.mul_le_mul_of_nonneg_right h.lo hc'
    rw [Int.mul_assoc, Int.mul_assoc] at this
    exact this
  · have := Int.mul_le_mul_of_nonneg_right h.hi hc'
    rw [Int.mul_assoc, Int.mul_assoc] at this
    exact this
  · rcases e with e | e
    · left
      refine Int.eq_of_mul_eq_mul_right (Int.ne_of_gt hc) ?_
      rw [Int.mul_assoc, Int.mul_assoc]; exact e
    · right
      refine Int.eq_of_mul_eq_mul_right (Int.ne_of_gt hc) ?_
      rw [Int.mul_assoc, Int.mul_assoc]; exact e
theorem IsR.unscale {a b m c : Int} (hc : 0 < c) (h : IsR (a * c) (b * c) m) : IsR a b m := by
  refine ⟨?_, ?_, fun e => h.ev ?_⟩
  · have := h.lo
    rw [← Int.mul_assoc, ← Int.mul_assoc] at this
    exact Int.le_of_mul_le_mul_right this hc
  · have := h.hi
    rw [← Int.mul_assoc, ← Int.mul_assoc] at this
    exact Int.le_of_mul_le_mul_right this hc
  · rcases e with e | e
    · left; rw [← Int.mul_assoc, ← Int.mul_assoc, e]
    · right; rw [← Int.mul_assoc, ← Int.mul_assoc, e]
/-- equal quotients, equal roundings -/
theorem IsR.ratio {a b a' b' m : Int} (hb : 0 < b) (hb' : 0 < b') (e : a * b' = a' * b) (h : IsR a b m) : IsR a' b' m := by
  have h1 := h.scale hb'
  rw [e, Int.mul_comm b b'] at h1
  exact h1.unscale hb
theorem IsR.neg {a b m : Int} (h : IsR a b m) : IsR (-a) b (-m) := by
  refine ⟨?_, ?_, fun e => ?_⟩
  · have := h.hi
    have e : (2 * -m - 1) * b = -((2 * m + 1) * b) := by rw [← Int.neg_mul]; congr 1; omega
    rw [e]; omega
  · have := h.lo
    have e : (2 * -m + 1) * b = -((2 * m - 1) * b) := by rw [← Int.neg_mul]; congr 1; omega
    rw [e]; omega
  · have e1 : (2 * -m - 1) * b = -((2 * m + 1) * b) := by rw [← Int.neg_mul]; congr 1; omega
    have e2 : (2 * -m + 1) * b = -((2 * m - 1) * b) := by rw [← Int.neg_mul]; congr 1; omega
    rw [e1, e2] at e
    have := h.ev (by omega)
    omega
/-- quotient, rest and the choice made from them -/
theorem isR_of {a b q r m : Int} (hb : 0 < b) (e : a = b * q + r) (h0 : 0 ≤ r) (h1 : r < b) (hm : (m = q + 1 ∧ (2 * r > b ∨ (2 * r = b ∧ q % 2 = 1))) ∨ (m = q ∧ ¬ (2 * r > b ∨ (2 * r = b ∧ q % 2 = 1)))) : IsR a b m := by
  have hq : b * q = q * b := Int.mul_comm _ _
  rcases hm with ⟨hm, hc⟩ | ⟨hm, hc⟩
  · subst hm
    have e1 : (2 * (q + 1) - 1) * b = 2 * (q * b) + b := by rw [show 2 * (q + 1) - 1 = 2 * q + 1 by omega, Int.add_mul, Int.one_mul, Int.mul_assoc]
    have e2 : (2 * (q + 1) + 1) * b = 2 * (q * b) + 3 * b := by rw [show 2 * (q + 1) + 1 = 2 * q + 3 by omega, Int.add_mul, Int.mul_assoc]
    refine ⟨?_, ?_, fun e => ?_⟩
    · rw [e1]; omega
    · rw [e2]; omega
    · rw [e1, e2] at e; omega
  · subst hm
    have e1 : (2 * m - 1) * b = 2 * (m * b) - b := by rw [Int.sub_mul, Int.one_mul, Int.mul_assoc]
    have e2 : (2 * m + 1) * b = 2 * (m * b) + b := by rw [Int.add_mul, Int.one_mul, Int.mul_assoc]
    refine ⟨?_, ?_, fun e => ?_⟩
    · rw [e1]; omega
    · rw [e2]; omega
    · rw [e1, e2] at e; omega
theorem fdm (a b : Int) : a = b * a.fdiv b + a.fmod b := (Int.mul_fdiv_add_fmod a b).symm
theorem fm_ge (a : Int) {b : Int} (hb : 0 < b) : 0 ≤ a.fmod b := by
  rw [Int.fmod_eq_emod_of_nonneg _ (Int.le_of_lt hb)]; exact Int.emod_nonneg _ (Int.ne_of_gt hb)
theorem fm_lt (a : Int) {b : Int} (hb : 0 < b) : a.fmod b < b := by
  rw [Int.fmod_eq_emod_of_nonneg _ (Int.le_of_lt hb)]; exact Int.emod_lt_of_pos _ hb
theorem rnd_isR {a b : Int} (hb : 0 < b) : IsR a b (rnd a b) := by
  refine isR_of hb (fdm a b) (fm_ge a hb) (fm_lt a hb) ?_
  have e2 : (a.fdiv b).fmod 2 = a.fdiv b % 2 := Int.fmod_eq_emod_of_nonneg _ (by decide)
  unfold rnd
  rw [e2]
  split
  · exact .inl ⟨rfl, by assumption⟩
  · exact .inr ⟨rfl, by assumption⟩
theorem rnd_eq {a b m : Int} (hb : 0 < b) (h : IsR a b m) : rnd a b = m := (rnd_isR hb).uniq hb h
theorem lput_rnd (n d g : Int) : lput n d g = rnd (n * 10 ^ g.toNat) d := by
  unfold lput rnd
  have e := fdm (n * 10 ^ g.toNat) d
  generalize n * 10 ^ g.toNat = N at *
  have e' : N - N.fdiv d * d = N.fmod d := by rw [Int.mul_comm]; omega
  rw [e']
theorem IsR.ge {a b m k : Int} (hb : 0 < b) (h : IsR a b m) (hk : k * b ≤ a) : k ≤ m := by
  rcases Int.lt_or_le m k with q | q
  · have h1 : (2 * m + 1) * b < 2 * k * b := Int.mul_lt_mul_of_pos_right (by omega) hb
    have h2 := h.hi
    rw [Int.mul_assoc] at h1
    omega
  · exact q
theorem IsR.le {a b m k : Int} (hb : 0 < b) (h : IsR a b m) (hk : a ≤ k * b) : m ≤ k := by
  rcases Int.lt_or_le k m with q | q
  · have h1 : 2 * k * b < (2 * m - 1) * b := Int.mul_lt_mul_of_pos_right (by omega) hb
    have h2 := h.lo
    rw [Int.mul_assoc] at h1
    omega
  · exact q
theorem isR_exact {a b m : Int} (hb : 0 < b) (e : a = m * b) : IsR a b m := by
  have e1 : (2 * m - 1) * b = 2 * (m * b) - b := by rw [Int.sub_mul, Int.one_mul, Int.mul_assoc]
  have e2 : (2 * m + 1) * b = 2 * (m * b) + b := by rw [Int.add_mul, Int.one_mul, Int.mul_assoc]
  refine ⟨?_, ?_, fun e => ?_⟩
  · rw [e1]; omega
  · rw [e2]; omega
  · rw [e1, e2] at e; omega
end
section
/-- a base's power, all exponents lifted by 1000 -/
def sb (b k : Int) : Int := b ^ (k + 1000).toNat
theorem sb_pos {b : Int} (hb : 0 < b) (k : Int) : 0 < sb b k := Int.pow_pos hb
theorem sb_up {b s : Int} (h1 : -1000 ≤ s) (h2 : s ≤ 1000) : b ^ (mx0 s).toNat * b ^ (1000 - mx0 (-s)).toNat = sb b s := by
  unfold sb
  rw [← Int.pow_add]
  congr 1
  unfold mx0
  split <;> split <;> omega
theorem sb_dn {b s : Int} (h1 : -1000 ≤ s) (h2 : s ≤ 1000) : b ^ (mx0 (-s)).toNat * b ^ (1000 - mx0 (-s)).toNat = sb b 0 := by
  unfold sb
  rw [← Int.pow_add]
  congr 1
  unfold mx0
  split <;> omega
theorem isR_shift {b n d s m : Int} (hb : 0 < b) (h1 : -1000 ≤ s) (h2 : s ≤ 1000) : IsR (n * b ^ (mx0 s).toNat) (d * b ^ (mx0 (-s)).toNat) m ↔ IsR (n * sb b s) (d * sb b 0) m := by
  rw [← sb_up h1 h2, ← sb_dn h1 h2 (b := b), ← Int.mul_assoc, ← Int.mul_assoc]
  exact ⟨fun h => h.scale (Int.pow_pos hb), fun h => h.unscale (Int.pow_pos hb)⟩
theorem sb_add {b i j : Int} (hi : -1000 ≤ i) (hj : -1000 ≤ j) (h : -1000 ≤ i + j) : sb b (i + j) * sb b 0 = sb b i * sb b j := by
  unfold sb
  rw [← Int.pow_add, ← Int.pow_add]
  congr 1
  omega
theorem sb_lift {b i : Int} {j : Nat} (hi : -1000 ≤ i) : sb b (i + j) = b ^ j * sb b i := by
  unfold sb
  rw [← Int.pow_add]
  congr 1
  omega
theorem sb_mono {b i j : Int} (hb : 1 ≤ b) (hi : -1000 ≤ i) (h : i ≤ j) : sb b i ≤ sb b j := by
  have e : j = i + ((j - i).toNat : Int) := by omega
  rw [e, sb_lift hi]
  have h1 : (1 : Int) ≤ b ^ (j - i).toNat := by
    have : (0 : Int) < b ^ (j - i).toNat := Int.pow_pos (by omega)
    omega
  have h2 := Int.mul_le_mul_of_nonneg_right h1 (Int.le_of_lt (sb_pos (b := b) (by omega) i))
  rw [Int.one_mul] at h2
  exact h2
theorem bl_spec {n : Int} (hn : 0 < n) : 1 ≤ bl n ∧ 2 ^ (bl n - 1).toNat ≤ n ∧ n < 2 ^ (bl n).toNat := by
  have h1 : n.natAbs < 2 ^ (Builtin.Int.intBits n) := intBits_le_iff.mp (Nat.le_refl _)
  have h0 : 1 ≤ Builtin.Int.intBits n := by
    rcases Nat.eq_zero_or_pos (Builtin.Int.intBits n) with q | q
    · rw [q] at h1; omega
    · exact q
  have h2 : ¬ n.natAbs < 2 ^ (Builtin.Int.intBits n - 1) := fun h => by
    have := intBits_le_iff.mpr h
    omega
  have e1 : (bl n - 1).toNat = Builtin.Int.intBits n - 1 := by unfold bl; omega
  have e2 : (bl n).toNat = Builtin.Int.intBits n := by unfold bl; omega
  refine ⟨by unfold bl; omega, ?_, ?_⟩
  · rw [e1]
    have e := ipow 2 (Builtin.Int.intBits n - 1)
    simp only [Int.cast_ofNat_Int] at e
    rw [e]; omega
  · rw [e2]
    have e := ipow 2 (Builtin.Int.intBits n)
    simp only [Int.cast_ofNat_Int] at e
    rw [e]; omega
theorem mul_cancel_ge {a b c : Int} (hc : 0 < c) : (a * c ≥ b * c) ↔ a ≥ b := ⟨fun h => Int.le_of_mul_le_mul_right h hc, fun h => Int.mul_le_mul_of_nonneg_right h (Int.le_of_lt hc)⟩
theorem shA_mid {n d : Int} (hn : 0 < n) (hd : 0 < d) (hn2 : Sz n 250) (hd2 : Sz d 250) : shA n d = 53 - bl n + bl d ∧ -250 ≤ 53 - bl n + bl d ∧ 53 - bl n + bl d ≤ 302 := by
  have e : iabs n = n := by unfold iabs; rw [if_neg (by omega)]
  have h1 := (bl_spec hn).1
  have h2 := (bl_spec hd).1
  have h3 := hn2.bl_le
  have h4 := hd2.bl_le
  unfold shA
  rw [e]
  split <;> omega
theorem shF_spec {n d : Int} (hn : 0 < n) (hd : 0 < d) (hn2 : Sz n 250) (hd2 : Sz d 250) :
    -252 ≤ shF n d ∧ shF n d ≤ 302 ∧ 2 ^ 52 * (d * sb 2 0) ≤ n * sb 2 (shF n d) ∧ n * sb 2 (shF n d) < 2 ^ 53 * (d * sb 2 0) := by
  have e : iabs n = n := by unfold iabs; rw [if_neg (by omega)]
  obtain ⟨eA, hA1, hA2⟩ := shA_mid hn hd hn2 hd2
  obtain ⟨hL, hL1, hL2⟩ := bl_spec hn
  obtain ⟨hM, hM1, hM2⟩ := bl_spec hd
  generalize hs0 : 53 - bl n + bl d = s0 at *
  have lo : 2 ^ 52 * (d * sb 2 0) ≤ n * sb 2 s0 := by
    have h1 : 2 ^ (bl n - 1).toNat * sb 2 s0 ≤ n * sb 2 s0 := Int.mul_le_mul_of_nonneg_right hL1 (Int.le_of_lt (sb_pos (by decide) _))
    have h2 : d * sb 2 0 ≤ 2 ^ (bl d).toNat * sb 2 0 := Int.mul_le_mul_of_nonneg_right (Int.le_of_lt hM2) (Int.le_of_lt (sb_pos (by decide) _))
    have h3 : (2 : Int) ^ (bl n - 1).toNat * sb 2 s0 = 2 ^ 52 * (2 ^ (bl d).toNat * sb 2 0) := by
      unfold sb
      rw [← Int.pow_add, ← Int.pow_add, ← Int.pow_add]
      congr 1
      omega
    have h4 : (2 : Int) ^ 52 * (d * sb 2 0) ≤ 2 ^ 52 * (2 ^ (bl d).toNat * sb 2 0) := Int.mul_le_mul_of_nonneg_left h2 (by decide)
    omega
  have hi : n * sb 2 s0 < 2 ^ 54 * (d * sb 2 0) := by
    have h1 : n * sb 2 s0 < 2 ^ (bl n).toNat * sb 2 s0 := Int.mul_lt_mul_of_pos_right hL2 (sb_pos (by decide) _)
    have h2 : 2 ^ (bl d - 1).toNat * sb 2 0 ≤ d * sb 2 0 := Int.mul_le_mul_of_nonneg_right hM1 (Int.le_of_lt (sb_pos (by decide) _))
    have h3 : (2 : Int) ^ (bl n).toNat * sb 2 s0 = 2 ^ 54 * (2 ^ (bl d - 1).toNat * sb 2 0) := by
      unfold sb
      rw [← Int.pow_add, ← Int.pow_add, ← Int.pow_add]
      congr 1
      omega
    have h4 : (2 : Int) ^ 54 * (2 ^ (bl d - 1).toNat * sb 2 0) ≤ 2 ^ 54 * (d * sb 2 0) := Int.mul_le_mul_of_nonneg_left h2 (by decide)
    omega
  have test : (iabs n * 2 ^ (mx0 (shA n d)).toNat ≥ d * 2 ^ (mx0 (-(shA n d)) + 53).toNat) ↔ n * sb 2 s0 ≥ 2 ^ 53 * (d * sb 2 0) := by
    rw [e, eA, ← sb_up (b := 2) (s := s0) (by omega) (by omega), ← sb_dn (b := 2) (s := s0) (by omega) (by omega)]
    have e2 : (2 : Int) ^ 53 * (d * (2 ^ (mx0 (-s0)).toNat * 2 ^ (1000 - mx0 (-s0)).toNat)) = d * 2 ^ (mx0 (-s0) + 53).toNat * 2 ^ (1000 - mx0 (-s0)).toNat := by
      have e3 : (mx0 (-s0) + 53).toNat = 53 + (mx0 (-s0)).toNat := by unfold mx0; split <;> omega
      rw [e3, Int.pow_add, Int.mul_left_comm, ← Int.mul_assoc (2 ^ 53), Int.mul_assoc d]
    rw [e2, ← Int.mul_assoc]
    exact (mul_cancel_ge (Int.pow_pos (by decide))).symm
  unfold shF
  by_cases c : iabs n * 2 ^ (mx0 (shA n d)).toNat ≥ d * 2 ^ (mx0 (-(shA n d)) + 53).toNat
  · rw [if_pos c, eA]
    have c' := test.mp c
    have e5 : sb 2 s0 = 2 * sb 2 (s0 - 1) := by
      have := sb_lift (b := 2) (i := s0 - 1) (j := 1) (by omega)
      rw [show s0 - 1 + ((1 : Nat) : Int) = s0 by omega] at this
      rw [this]; rfl
    have e6 : n * sb 2 s0 = 2 * (n * sb 2 (s0 - 1)) := by rw [e5, Int.mul_left_comm]
    refine ⟨by omega, by omega, ?_, ?_⟩ <;> omega
  · rw [if_neg c, eA]
    have c' : ¬ n * sb 2 s0 ≥ 2 ^ 53 * (d * sb 2 0) := fun h => c (test.mpr h)
    exact ⟨by omega, by omega, lo, by omega⟩
theorem sh_uniq {n d s t : Int} (hn : 0 < n) (hs : -1000 ≤ s) (ht : -1000 ≤ t) (h1 : 2 ^ 52 * (d * sb 2 0) ≤ n * sb 2 s) (h2 : n * sb 2 s < 2 ^ 53 * (d * sb 2 0)) (h3 : 2 ^ 52 * (d * sb 2 0) ≤ n * sb 2 t) (h4 : n * sb 2 t < 2 ^ 53 * (d * sb 2 0)) : s = t := by
  have key : ∀ s t : Int, -1000 ≤ s → 2 ^ 52 * (d * sb 2 0) ≤ n * sb 2 s → n * sb 2 t < 2 ^ 53 * (d * sb 2 0) → ¬ s < t := by
    intro s t hs h1 h4 hlt
    have h5 : sb 2 (s + 1) ≤ sb 2 t := sb_mono (by decide) (by omega) (by omega)
    have h6 : sb 2 (s + 1) = 2 * sb 2 s := sb_lift (b := 2) (i := s) (j := 1) hs
    have h7 : n * sb 2 (s + 1) ≤ n * sb 2 t := Int.mul_le_mul_of_nonneg_left h5 (Int.le_of_lt hn)
    rw [h6, Int.mul_left_comm] at h7
    omega
  have := key s t hs h1 h4
  have := key t s ht h3 h2
  omega
end
section
theorem whl_spec {n d : Int} (hn : 0 < n) (hd : 0 < d) (hn2 : Sz n 250) (hd2 : Sz d 250) : IsR (n * sb 2 (shF n d)) (d * sb 2 0) (whl n d) ∧ 2 ^ 52 ≤ whl n d ∧ whl n d ≤ 2 ^ 53 := by
  obtain ⟨h1, h2, h3, h4⟩ := shF_spec hn hd hn2 hd2
  have hR : IsR (n * sb 2 (shF n d)) (d * sb 2 0) (whl n d) := by
    refine (isR_shift (b := 2) (by decide) (by omega) (by omega)).mp ?_
    exact rnd_isR (Int.mul_pos hd (Int.pow_pos (by decide)))
  have hD : 0 < d * sb 2 0 := Int.mul_pos hd (sb_pos (by decide) 0)
  exact ⟨hR, hR.ge hD h3, hR.le hD (Int.le_of_lt h4)⟩
theorem shF_le {n d : Int} {k : Nat} (hn : 0 < n) (hd : 0 < d) (hn2 : Sz n 250) (hd2 : Sz d 250) (hk : Sz d k) : shF n d ≤ 52 + k := by
  obtain ⟨eA, hA1, hA2⟩ := shA_mid hn hd hn2 hd2
  have h1 := (bl_spec hn).1
  have h2 := hk.bl_le
  unfold shF
  split <;> omega
theorem shF_ge {n d : Int} {k : Nat} (hn : 0 < n) (hd : 0 < d) (hn2 : Sz n 250) (hd2 : Sz d 250) (hk : Sz n k) : 53 - (k : Int) ≤ shF n d := by
  obtain ⟨eA, hA1, hA2⟩ := shA_mid hn hd hn2 hd2
  have h1 := (bl_spec hd).1
  have h2 := hk.bl_le
  unfold shF
  split <;> omega
theorem places_spec {n d : Int} (hn : 0 < n) (hd : 0 < d) (hn2 : Sz n 250) (hd2 : Sz d 140) : lnDrop n d = 200 - shF n d := by
  have hP1 : d * lnPlaces n d ≤ n * 2 ^ 200 := by
    have e : n * 2 ^ (200 : Int).toNat = d * lnPlaces n d + lnRest n d := fdm (n * 2 ^ (200 : Int).toNat) d
    have h0 : 0 ≤ lnRest n d := fm_ge _ hd
    have e2 : (2 : Int) ^ (200 : Int).toNat = 2 ^ 200 := rfl
    rw [e2] at e
    omega
  have hP2 : n * 2 ^ 200 < d * (lnPlaces n d + 1) := by
    have e : n * 2 ^ (200 : Int).toNat = d * lnPlaces n d + lnRest n d := fdm (n * 2 ^ (200 : Int).toNat) d
    have h0 : lnRest n d < d := fm_lt _ hd
    have e2 : (2 : Int) ^ (200 : Int).toNat = 2 ^ 200 := rfl
    rw [e2] at e
    rw [Int.mul_add, Int.mul_one]
    omega
  have hd3 := hd2.out
  have hn3 := hn2.out
  have hdl : d < 2 ^ 140 := by
    have e := ipow 2 140
    simp only [Int.cast_ofNat_Int] at e
    rw [e]; omega
  have hPpos : 0 < lnPlaces n d := by
    rcases Int.lt_or_le 0 (lnPlaces n d) with q | q
    · exact q
    · have h5 : d * (lnPlaces n d + 1) ≤ d * 1 := Int.mul_le_mul_of_nonneg_left (by omega) (Int.le_of_lt hd)
      have h6 : 1 * 2 ^ 200 ≤ n * 2 ^ 200 := Int.mul_le_mul_of_nonneg_right (by omega) (by decide)
      have h7 : (2 : Int) ^ 140 < 1 * 2 ^ 200 := by decide
      omega
  have hPsz : Sz (lnPlaces n d) 452 := by
    have h5 : 1 * lnPlaces n d ≤ d * lnPlaces n d := Int.mul_le_mul_of_nonneg_right (by omega) (Int.le_of_lt hPpos)
    have h6 : Sz (n * 2 ^ 200) (250 + 201) := hn2.mul ⟨by decide⟩
    have h7 := h6.out
    exact Sz.le (k := 451) ⟨by omega⟩ (by decide)
  obtain ⟨hL, hL1, hL2⟩ := bl_spec hPpos
  have hLs := hPsz.bl_le
  have hs := shF_spec hn hd hn2 (hd2.le (by decide))
  have e : lnDrop n d = bl (lnPlaces n d) - 53 := rfl
  generalize hLL : bl (lnPlaces n d) = L at *
  have c1 : 2 ^ 52 * (d * sb 2 0) ≤ n * sb 2 (253 - L) := by
    have h1 : 2 ^ (L - 1).toNat * d ≤ n * 2 ^ 200 := by
      have := Int.mul_le_mul_of_nonneg_left hL1 (Int.le_of_lt hd)
      rw [Int.mul_comm d] at this
      omega
    have h2 := Int.mul_le_mul_of_nonneg_right h1 (Int.le_of_lt (sb_pos (b := 2) (by decide) (53 - L)))
    have e1 : (2 : Int) ^ (L - 1).toNat * d * sb 2 (53 - L) = 2 ^ 52 * (d * sb 2 0) := by
      rw [Int.mul_right_comm, Int.mul_left_comm, Int.mul_comm d]
      congr 1
      unfold sb
      rw [← Int.pow_add, ← Int.pow_add]
      congr 1
      omega
    have e2 : n * 2 ^ 200 * sb 2 (53 - L) = n * sb 2 (253 - L) := by
      rw [Int.mul_assoc]
      congr 1
      unfold sb
      rw [← Int.pow_add]
      congr 1
      omega
    rw [e1, e2] at h2
    exact h2
  have c2 : n * sb 2 (253 - L) < 2 ^ 53 * (d * sb 2 0) := by
    have h1 : n * 2 ^ 200 < 2 ^ L.toNat * d := by
      have := Int.mul_le_mul_of_nonneg_left (show lnPlaces n d + 1 ≤ 2 ^ L.toNat by omega) (Int.le_of_lt hd)
      rw [Int.mul_comm d (2 ^ L.toNat)] at this
      omega
    have h2 := Int.mul_lt_mul_of_pos_right h1 (sb_pos (b := 2) (by decide) (53 - L))
    have e1 : (2 : Int) ^ L.toNat * d * sb 2 (53 - L) = 2 ^ 53 * (d * sb 2 0) := by
      rw [Int.mul_right_comm, Int.mul_left_comm, Int.mul_comm d]
      congr 1
      unfold sb
      rw [← Int.pow_add, ← Int.pow_add]
      congr 1
      omega
    have e2 : n * 2 ^ 200 * sb 2 (53 - L) = n * sb 2 (253 - L) := by
      rw [Int.mul_assoc]
      congr 1
      unfold sb
      rw [← Int.pow_add]
      congr 1
      omega
    rw [e1, e2] at h2
    exact h2
  have := sh_uniq hn (by omega) (by omega) c1 c2 hs.2.2.1 hs.2.2.2
  omega
theorem lnHead_isR {n d : Int} (hd : 0 < d) (hdr : 1 ≤ lnDrop n d) : IsR (n * 2 ^ 200) (d * 2 ^ (lnDrop n d).toNat) (lnHead n d) := by
  have e1 : n * 2 ^ 200 = d * lnPlaces n d + lnRest n d := fdm (n * 2 ^ (200 : Int).toNat) d
  have r0 : 0 ≤ lnRest n d := fm_ge _ hd
  have r1 : lnRest n d < d := fm_lt _ hd
  have hU : lnUnit n d = 2 ^ (lnDrop n d).toNat := by unfold lnUnit; exact Int.one_mul _
  have hU2 : ∃ V, lnUnit n d = 2 * V ∧ 0 < V := by
    refine ⟨2 ^ ((lnDrop n d).toNat - 1), ?_, Int.pow_pos (by decide)⟩
    rw [hU]
    have e : (lnDrop n d).toNat = ((lnDrop n d).toNat - 1) + 1 := by omega
    rw [e, Int.pow_succ, Int.mul_comm]
    congr 2
  obtain ⟨V, hV, hV0⟩ := hU2
  have hUp : 0 < lnUnit n d := by omega
  have e2 := fdm (lnPlaces n d) (lnUnit n d)
  have t0 := fm_ge (lnPlaces n d) hUp
  have t1 := fm_lt (lnPlaces n d) hUp
  have eP : ((lnPlaces n d).fdiv (lnUnit n d)).fmod 2 = (lnPlaces n d).fdiv (lnUnit n d) % 2 := Int.fmod_eq_emod_of_nonneg _ (by decide)
  rw [← hU]
  unfold lnHead
  simp only []
  rw [eP]
  generalize lnUnit n d = U at *
  generalize (lnPlaces n d).fdiv U = q at *
  generalize (lnPlaces n d).fmod U = t at *
  generalize lnRest n d = r at *
  generalize lnPlaces n d = P at *
  subst hV
  have ea : n * 2 ^ 200 = (d * (2 * V)) * q + (d * t + r) := by rw [e1, e2, Int.mul_add, ← Int.mul_assoc, Int.add_assoc]
  have hdt : 0 ≤ d * t := Int.mul_nonneg (Int.le_of_lt hd) t0
  have hlt : d * t + r < d * (2 * V) := by
    have h1 : d * (t + 1) ≤ d * (2 * V) := Int.mul_le_mul_of_nonneg_left (by omega) (Int.le_of_lt hd)
    rw [Int.mul_add, Int.mul_one] at h1
    omega
  refine isR_of (Int.mul_pos hd (by omega)) ea (by omega) hlt ?_
  have eV : d * (2 * V) = 2 * (d * V) := Int.mul_left_comm _ _ _
  by_cases c1 : t > V
  · have h1 : d * (V + 1) ≤ d * t := Int.mul_le_mul_of_nonneg_left (by omega) (Int.le_of_lt hd)
    rw [Int.mul_add, Int.mul_one] at h1
    left
    refine ⟨if_pos (.inl (by omega)), .inl ?_⟩
    rw [eV]; omega
  · by_cases c2 : t = V
    · subst c2
      by_cases c3 : r > 0
      · left
        refine ⟨if_pos (.inr ⟨rfl, .inl c3⟩), .inl ?_⟩
        rw [eV]; omega
      · have r' : r = 0 := by omega
        subst r'
        by_cases c4 : q % 2 = 1
        · left
          refine ⟨if_pos (.inr ⟨rfl, .inr c4⟩), .inr ⟨?_, c4⟩⟩
          rw [eV]; omega
        · right
          refine ⟨if_neg (by omega), ?_⟩
          rw [eV]; omega
    · right
      have h1 : d * (t + 1) ≤ d * V := Int.mul_le_mul_of_nonneg_left (by omega) (Int.le_of_lt hd)
      rw [Int.mul_add, Int.mul_one] at h1
      refine ⟨if_neg (by omega), ?_⟩
      rw [eV]; omega
theorem head_whl {n d : Int} (hn : 0 < n) (hd : 0 < d) (hn2 : Sz n 250) (hd2 : Sz d 140) : lnHead n d = whl n d := by
  have hdr := places_spec hn hd hn2 hd2
  have hs := shF_le hn hd hn2 (hd2.le (by decide)) hd2
  have hw := (whl_spec hn hd hn2 (hd2.le (by decide))).1
  have hsp := shF_spec hn hd hn2 (hd2.le (by decide))
  have hh := lnHead_isR (n := n) hd (by omega)
  have hh2 : IsR (n * sb 2 (shF n d)) (d * sb 2 0) (lnHead n d) := by
    refine hh.ratio (Int.mul_pos hd (Int.pow_pos (by decide))) (Int.mul_pos hd (sb_pos (by decide) 0)) ?_
    have e : (2 : Int) ^ 200 * sb 2 0 = sb 2 (shF n d) * 2 ^ (lnDrop n d).toNat := by
      unfold sb
      rw [← Int.pow_add, ← Int.pow_add]
      congr 1
      omega
    calc n * 2 ^ 200 * (d * sb 2 0) = (n * d) * (2 ^ 200 * sb 2 0) := by ac_rfl
      _ = (n * d) * (sb 2 (shF n d) * 2 ^ (lnDrop n d).toNat) := by rw [e]
      _ = n * sb 2 (shF n d) * (d * 2 ^ (lnDrop n d).toNat) := by ac_rfl
  exact hh2.uniq (Int.mul_pos hd (sb_pos (by decide) 0)) hw
/-- both ways to round give the same quotient -/
theorem val_eq {n d : Int} (hn : 0 < n) (hd : 0 < d) (hn2 : Sz n 250) (hd2 : Sz d 140) : lnN n d * nrD n d = nrN n d * lnD := by
  have hdr := places_spec hn hd hn2 hd2
  have hs := shF_le hn hd hn2 (hd2.le (by decide)) hd2
  unfold lnN nrD nrN lnD
  rw [head_whl hn hd hn2 hd2, Int.one_mul, Int.one_mul]
  have e : (2 : Int) ^ (lnDrop n d).toNat * 2 ^ (mx0 (shF n d)).toNat = 2 ^ (mx0 (-(shF n d))).toNat * 2 ^ (200 : Int).toNat := by
    rw [← Int.pow_add, ← Int.pow_add]
    congr 1
    unfold mx0
    split <;> split <;> omega
  rw [Int.mul_assoc, e, Int.mul_assoc]
end
section
theorem rnd_neg {a b : Int} (hb : 0 < b) : rnd (-a) b = -rnd a b := rnd_eq hb (rnd_isR hb).neg
theorem iabs_pos {n : Int} (h : 0 < n) : iabs n = n := by unfold iabs; rw [if_neg (by omega)]
theorem iabs_negp {n : Int} (h : 0 < n) : iabs (-n) = n := by unfold iabs; rw [if_pos (by omega)]; omega
theorem shF_neg {n d : Int} (hn : 0 < n) : shF (-n) d = shF n d := by
  unfold shF shA
  rw [iabs_pos hn, iabs_negp hn]
theorem nr_neg {n d : Int} (hn : 0 < n) (hd : 0 < d) : whl (-n) d = -whl n d ∧ nrN (-n) d = -nrN n d ∧ nrD (-n) d = nrD n d := by
  have h1 : whl (-n) d = -whl n d := by
    unfold whl
    rw [shF_neg hn, Int.neg_mul]
    exact rnd_neg (Int.mul_pos hd (Int.pow_pos (by decide)))
  refine ⟨h1, ?_, ?_⟩
  · unfold nrN; rw [h1, shF_neg hn, Int.neg_mul]
  · unfold nrD; rw [shF_neg hn]
theorem le_two53 {a : Int} (h : a ≤ 2 ^ 53) (h0 : 0 ≤ a) : Sz a 54 := ⟨by
  have e : (2 : Int) ^ 53 = 9007199254740992 := by decide
  have e2 : (2 : Nat) ^ 54 = 18014398509481984 := by decide
  omega⟩
theorem nr_sz {n d : Int} (hn : 0 < n) (hd : 0 < d) (hn2 : Sz n 200) (hd2 : Sz d 140) : 0 < nrN n d ∧ 0 < nrD n d ∧ Sz (nrN n d) 202 ∧ Sz (nrD n d) 193 := by
  have hs1 := shF_le hn hd (hn2.le (by decide)) (hd2.le (by decide)) hd2
  have hs2 := shF_ge hn hd (hn2.le (by decide)) (hd2.le (by decide)) hn2
  obtain ⟨_, hw1, hw2⟩ := whl_spec hn hd (hn2.le (by decide)) (hd2.le (by decide))
  have hw0 : 0 < whl n d := Int.lt_of_lt_of_le (by decide) hw1
  refine ⟨Int.mul_pos hw0 (Int.pow_pos (by decide)), ?_, ?_, ?_⟩
  · unfold nrD; rw [Int.one_mul]; exact Int.pow_pos (by decide)
  · have h1 : Sz (2 ^ (mx0 (-(shF n d))).toNat) 148 := ⟨by
      rw [Int.natAbs_pow]
      exact Nat.pow_lt_pow_right (by decide) (by unfold mx0; split <;> omega)⟩
    exact (le_two53 hw2 (Int.le_of_lt hw0)).mul h1
  · unfold nrD
    rw [Int.one_mul]
    exact ⟨by
      rw [Int.natAbs_pow]
      exact Nat.pow_lt_pow_right (by decide) (by unfold mx0; split <;> omega)⟩
/-- a double is its own double -/
theorem exact_nr {n d : Int} (hn : 0 < n) (hd : 0 < d) (hn2 : Sz n 200) (hd2 : Sz d 140) : nrN (nrN n d) (nrD n d) * nrD n d = nrN n d * nrD (nrN n d) (nrD n d) ∧ whl (nrN n d) (nrD n d) ≤ 2 ^ 53 ∧ 0 < whl (nrN n d) (nrD n d) ∧ -300 ≤ shF (nrN n d) (nrD n d) ∧ shF (nrN n d) (nrD n d) ≤ 302 := by
  obtain ⟨hA, hB, hAs, hBs⟩ := nr_sz hn hd hn2 hd2
  have hs1 := shF_le hn hd (hn2.le (by decide)) (hd2.le (by decide)) hd2
  have hs2 := shF_ge hn hd (hn2.le (by decide)) (hd2.le (by decide)) hn2
  obtain ⟨_, hw1, hw2⟩ := whl_spec hn hd (hn2.le (by decide)) (hd2.le (by decide))
  have eW : nrN n d * sb 2 (shF n d) = whl n d * (nrD n d * sb 2 0) := by
    unfold nrN nrD
    rw [Int.one_mul, Int.mul_assoc]
    congr 1
    unfold sb
    rw [← Int.pow_add, ← Int.pow_add]
    congr 1
    unfold mx0
    split <;> split <;> omega
  generalize nrN n d = A at *
  generalize nrD n d = B at *
  generalize whl n d = w at *
  generalize shF n d = s at *
  obtain ⟨g1, g2, g3, g4⟩ := shF_spec hA hB (hAs.le (by decide)) (hBs.le (by decide))
  obtain ⟨hR, hw1', hw2'⟩ := whl_spec hA hB (hAs.le (by decide)) (hBs.le (by decide))
  have hD0 : 0 < B * sb 2 0 := Int.mul_pos hB (sb_pos (by decide) 0)
  have ex : A * sb 2 (shF A B) = whl A B * (B * sb 2 0) := by
    by_cases c : w < 2 ^ 53
    · have e : shF A B = s := sh_uniq hA (by omega) (by omega) g3 g4 (by rw [eW]; exact Int.mul_le_mul_of_nonneg_right hw1 (Int.le_of_lt hD0)) (by rw [eW]; exact Int.mul_lt_mul_of_pos_right c hD0)
      rw [e] at hR ⊢
      rw [hR.uniq hD0 (isR_exact hD0 eW)]
      exact eW
    · have cw : w = 2 ^ 53 := Int.le_antisymm hw2 (Int.not_lt.mp c)
      have e6 : sb 2 s = 2 * sb 2 (s - 1) := by
        have := sb_lift (b := 2) (i := s - 1) (j := 1) (by omega)
        rw [show s - 1 + ((1 : Nat) : Int) = s by omega] at this
        rw [this]; rfl
      have e7 : A * sb 2 (s - 1) = 2 ^ 52 * (B * sb 2 0) := by
        rw [e6, cw, Int.mul_left_comm] at eW
        omega
      have e : shF A B = s - 1 := sh_uniq hA (by omega) (by omega) g3 g4 (by rw [e7]; exact Int.le_refl _) (by rw [e7]; exact Int.mul_lt_mul_of_pos_right (by decide) hD0)
      rw [e] at hR ⊢
      rw [hR.uniq hD0 (isR_exact hD0 e7)]
      exact e7
  refine ⟨?_, hw2', Int.lt_of_lt_of_le (by decide) hw1', by omega, by omega⟩
  rw [← sb_up (b := 2) (s := shF A B) (by omega) (by omega), ← sb_dn (b := 2) (s := shF A B) (by omega) (by omega)] at ex
  unfold nrN nrD
  rw [Int.one_mul]
  have hX : (0 : Int) < 2 ^ (1000 - mx0 (-(shF A B))).toNat := Int.pow_pos (by decide)
  refine Int.eq_of_mul_eq_mul_right (Int.ne_of_gt hX) ?_
  calc whl A B * 2 ^ (mx0 (-(shF A B))).toNat * B * 2 ^ (1000 - mx0 (-(shF A B))).toNat = whl A B * (B * (2 ^ (mx0 (-(shF A B))).toNat * 2 ^ (1000 - mx0 (-(shF A B))).toNat)) := by ac_rfl
    _ = A * (2 ^ (mx0 (shF A B)).toNat * 2 ^ (1000 - mx0 (-(shF A B))).toNat) := ex.symm
    _ = A * 2 ^ (mx0 (shF A B)).toNat * 2 ^ (1000 - mx0 (-(shF A B))).toNat := by ac_rfl
end
section
theorem le_ratio {a b a' b' u v : Int} (hb : 0 < b) (hb' : 0 < b') (e : a * b' = a' * b) (h : b * u ≤ a * v) : b' * u ≤ a' * v := by
  have h1 := Int.mul_le_mul_of_nonneg_right h (Int.le_of_lt hb')
  refine Int.le_of_mul_le_mul_right (a := b) ?_ hb
  calc b' * u * b = b * u * b' := by ac_rfl
    _ ≤ a * v * b' := h1
    _ = a * b' * v := by ac_rfl
    _ = a' * b * v := by rw [e]
    _ = a' * v * b := by ac_rfl
theorem lt_ratio {a b a' b' u v : Int} (hb : 0 < b) (hb' : 0 < b') (e : a * b' = a' * b) (h : a * v < b * u) : a' * v < b' * u := by
  have h1 := Int.mul_lt_mul_of_pos_right h hb'
  refine Int.lt_of_mul_lt_mul_right (a := b) ?_ (Int.le_of_lt hb)
  calc a' * v * b = a' * b * v := by ac_rfl
    _ = a * b' * v := by rw [e]
    _ = a * v * b' := by ac_rfl
    _ < b * u * b' := h1
    _ = b' * u * b := by ac_rfl
/-- the power of ten, with lifted exponents -/
structure Lg (a b k : Int) : Prop where
  lo : b * sb 10 k ≤ a * sb 10 0
  hi : a * sb 10 0 < b * sb 10 (k + 1)
theorem isLog_iff {a b k : Int} (h1 : -900 ≤ k) (h2 : k ≤ 900) : IsLog a b k ↔ Lg a b k := by
  have e0 : ∀ j : Int, j.toNat = (mx0 j).toNat := fun j => by unfold mx0; split <;> omega
  have c1 : b * 10 ^ k.toNat ≤ a * 10 ^ (-k).toNat ↔ b * sb 10 k ≤ a * sb 10 0 := by
    rw [e0 k, e0 (-k), ← sb_up (b := 10) (s := k) (by omega) (by omega), ← sb_dn (b := 10) (s := k) (by omega) (by omega), ← Int.mul_assoc, ← Int.mul_assoc]
    exact (mul_cancel_ge (Int.pow_pos (by decide))).symm
  have c2 : a * 10 ^ (-(k + 1)).toNat < b * 10 ^ (k + 1).toNat ↔ a * sb 10 0 < b * sb 10 (k + 1) := by
    rw [e0 (k + 1), e0 (-(k + 1)), ← sb_up (b := 10) (s := k + 1) (by omega) (by omega), ← sb_dn (b := 10) (s := k + 1) (by omega) (by omega), ← Int.mul_assoc, ← Int.mul_assoc]
    exact ⟨fun h => Int.mul_lt_mul_of_pos_right h (Int.pow_pos (by decide)), fun h => Int.lt_of_mul_lt_mul_right h (Int.le_of_lt (Int.pow_pos (by decide)))⟩
  unfold IsLog
  rw [c1, c2]
  exact ⟨fun h => ⟨h.1, h.2⟩, fun h => ⟨h.lo, h.hi⟩⟩
theorem Lg.ratio {a b a' b' k : Int} (hb : 0 < b) (hb' : 0 < b') (e : a * b' = a' * b) (h : Lg a b k) : Lg a' b' k := ⟨le_ratio hb hb' e h.lo, lt_ratio hb hb' e h.hi⟩
theorem Lg.uniq {a b k l : Int} (hb : 0 < b) (hk : -900 ≤ k) (hl : -900 ≤ l) (h : Lg a b k) (h' : Lg a b l) : k = l := by
  have key : ∀ k l : Int, -900 ≤ k → Lg a b k → Lg a b l → ¬ k < l := by
    intro k l hk h h' hlt
    have h1 : sb 10 (k + 1) ≤ sb 10 l := sb_mono (by decide) (by omega) (by omega)
    have h2 := Int.mul_le_mul_of_nonneg_left h1 (Int.le_of_lt hb)
    have h3 := h.hi
    have h4 := h'.lo
    omega
  have := key k l hk h h'
  have := key l k hl h' h
  omega
theorem Lg.ex {a b lo : Int} (hlo : -900 ≤ lo) (h1 : b * sb 10 lo ≤ a * sb 10 0) : ∀ n : Nat, a * sb 10 0 < b * sb 10 (lo + n) → ∃ k, lo ≤ k ∧ k < lo + n ∧ Lg a b k := by
  intro n
  induction n with
  | zero => intro h; rw [show lo + ((0 : Nat) : Int) = lo by omega] at h; omega
  | succ n ih =>
    intro h
    by_cases c : a * sb 10 0 < b * sb 10 (lo + n)
    · obtain ⟨k, h2, h3, h4⟩ := ih c
      exact ⟨k, h2, by omega, h4⟩
    · exact ⟨lo + n, by omega, by omega, ⟨by omega, by rw [show lo + (n : Int) + 1 = lo + ((n + 1 : Nat) : Int) by omega]; exact h⟩⟩
/-- the number put right to g digits at the power p -/
def Wd (a b g p : Int) : Int := rnd (a * sb 10 (g - p)) (b * sb 10 0)
theorem wd_isR {a b g p : Int} (hb : 0 < b) : IsR (a * sb 10 (g - p)) (b * sb 10 0) (Wd a b g p) := rnd_isR (Int.mul_pos hb (sb_pos (by decide) 0))
theorem wd_ratio {a b a' b' g p : Int} (hb : 0 < b) (hb' : 0 < b') (e : a * b' = a' * b) : Wd a' b' g p = Wd a b g p := by
  refine rnd_eq (Int.mul_pos hb' (sb_pos (by decide) 0)) ((wd_isR (a := a) hb).ratio (Int.mul_pos hb (sb_pos (by decide) 0)) (Int.mul_pos hb' (sb_pos (by decide) 0)) ?_)
  calc a * sb 10 (g - p) * (b' * sb 10 0) = a * b' * (sb 10 (g - p) * sb 10 0) := by ac_rfl
    _ = a' * b * (sb 10 (g - p) * sb 10 0) := by rw [e]
    _ = a' * sb 10 (g - p) * (b * sb 10 0) := by ac_rfl
theorem wd_mant {a b g p : Int} (hb : 0 < b) (h1 : -900 ≤ g - p) (h2 : g - p ≤ 900) : rnd (a * 10 ^ (mx0 (g - p)).toNat) (b * 10 ^ (mx0 (p - g)).toNat) = Wd a b g p := by
  rw [show p - g = -(g - p) by omega]
  refine rnd_eq (Int.mul_pos hb (Int.pow_pos (by decide))) ?_
  exact (isR_shift (b := 10) (by decide) (by omega) (by omega)).mpr (wd_isR hb)
theorem wd_lput {a b g p : Int} (hb : 0 < b) (hg0 : 0 ≤ g) (h1 : -900 ≤ p) (h2 : p ≤ 900) (hg : g ≤ 50) : lput (a * 10 ^ (mx0 (-p)).toNat) (b * 10 ^ (mx0 p).toNat) g = Wd a b g p := by
  rw [lput_rnd]
  refine rnd_eq (Int.mul_pos hb (Int.pow_pos (by decide))) ((wd_isR (a := a) (g := g) (p := p) hb).ratio (Int.mul_pos hb (sb_pos (by decide) 0)) (Int.mul_pos hb (Int.pow_pos (by decide))) ?_)
  have e : sb 10 (g - p) * 10 ^ (mx0 p).toNat = 10 ^ (mx0 (-p)).toNat * 10 ^ g.toNat * sb 10 0 := by
    unfold sb
    rw [← Int.pow_add, ← Int.pow_add, ← Int.pow_add]
    congr 1
    unfold mx0
    split <;> split <;> omega
  calc a * sb 10 (g - p) * (b * 10 ^ (mx0 p).toNat) = a * b * (sb 10 (g - p) * 10 ^ (mx0 p).toNat) := by ac_rfl
    _ = a * b * (10 ^ (mx0 (-p)).toNat * 10 ^ g.toNat * sb 10 0) := by rw [e]
    _ = a * 10 ^ (mx0 (-p)).toNat * 10 ^ g.toNat * (b * sb 10 0) := by ac_rfl
theorem lift_ge {a b g p j : Int} (hj : -900 ≤ j) (hp : -900 ≤ g - p) (he : 0 ≤ g - p + j) (h : b * sb 10 j ≤ a * sb 10 0) : 10 ^ (g - p + j).toNat * (b * sb 10 0) ≤ a * sb 10 (g - p) := by
  have h1 := Int.mul_le_mul_of_nonneg_right h (Int.le_of_lt (sb_pos (b := 10) (by decide) (g - p)))
  refine Int.le_of_mul_le_mul_right (a := sb 10 0) ?_ (sb_pos (by decide) 0)
  have e1 : sb 10 j * sb 10 (g - p) = 10 ^ (g - p + j).toNat * sb 10 0 * sb 10 0 := by
    unfold sb
    rw [← Int.pow_add, ← Int.pow_add, ← Int.pow_add]
    congr 1
    omega
  calc 10 ^ (g - p + j).toNat * (b * sb 10 0) * sb 10 0 = b * (10 ^ (g - p + j).toNat * sb 10 0 * sb 10 0) := by ac_rfl
    _ = b * (sb 10 j * sb 10 (g - p)) := by rw [e1]
    _ = b * sb 10 j * sb 10 (g - p) := by ac_rfl
    _ ≤ a * sb 10 0 * sb 10 (g - p) := h1
    _ = a * sb 10 (g - p) * sb 10 0 := by ac_rfl
theorem lift_lt {a b g p j : Int} (hj : -900 ≤ j) (hp : -900 ≤ g - p) (he : 0 ≤ g - p + j) (h : a * sb 10 0 < b * sb 10 j) : a * sb 10 (g - p) < 10 ^ (g - p + j).toNat * (b * sb 10 0) := by
  have h1 := Int.mul_lt_mul_of_pos_right h (sb_pos (b := 10) (by decide) (g - p))
  refine Int.lt_of_mul_lt_mul_right (a := sb 10 0) ?_ (Int.le_of_lt (sb_pos (by decide) 0))
  have e1 : sb 10 j * sb 10 (g - p) = 10 ^ (g - p + j).toNat * sb 10 0 * sb 10 0 := by
    unfold sb
    rw [← Int.pow_add, ← Int.pow_add, ← Int.pow_add]
    congr 1
    omega
  calc a * sb 10 (g - p) * sb 10 0 = a * sb 10 0 * sb 10 (g - p) := by ac_rfl
    _ < b * sb 10 j * sb 10 (g - p) := h1
    _ = b * (sb 10 j * sb 10 (g - p)) := by ac_rfl
    _ = b * (10 ^ (g - p + j).toNat * sb 10 0 * sb 10 0) := by rw [e1]
    _ = 10 ^ (g - p + j).toNat * (b * sb 10 0) * sb 10 0 := by ac_rfl
/-- what the power and the digits are -/
theorem digits_law {a b g k : Int} (hb : 0 < b) (hg0 : 0 ≤ g) (hg6 : g ≤ 6) (hk1 : -500 ≤ k) (hk2 : k ≤ 500) (hL : Lg a b k) :
    0 ≤ Wd a b g k ∧ Wd a b g k ≤ 10 ^ (g + 1).toNat ∧
    ∃ K m, Wd a b g K = m ∧ 10 ^ g.toNat ≤ m ∧ m < 10 ^ (g + 1).toNat ∧ (K = k ∨ K = k + 1) ∧ (∀ p, -500 ≤ p → p < K → 10 ^ (g + 1).toNat ≤ Wd a b g p) ∧
      (∀ W T, ((Wd a b g k = 10 ^ (g + 1).toNat ∧ W = 10 ^ g.toNat ∧ T = k + 1) ∨ (Wd a b g k ≠ 10 ^ (g + 1).toNat ∧ W = Wd a b g k ∧ T = k)) → W = m ∧ T = K) := by
  have hD : 0 < b * sb 10 0 := Int.mul_pos hb (sb_pos (by decide) 0)
  have e1 : (10 : Int) ^ (g + 1).toNat = 10 * 10 ^ g.toNat := by rw [show (g + 1).toNat = g.toNat + 1 by omega, Int.pow_succ, Int.mul_comm]
  have hlo := lift_ge (g := g) (p := k) (j := k) (by omega) (by omega) (by omega) hL.lo
  have hhi := lift_lt (g := g) (p := k) (j := k + 1) (by omega) (by omega) (by omega) hL.hi
  rw [show g - k + k = g by omega] at hlo
  rw [show g - k + (k + 1) = g + 1 by omega] at hhi
  have hR := wd_isR (a := a) (g := g) (p := k) hb
  have w1 := hR.ge hD hlo
  have w2 := hR.le hD (Int.le_of_lt hhi)
  have hp0 : (0 : Int) < 10 ^ g.toNat := Int.pow_pos (by decide)
  have below : ∀ p, -500 ≤ p → p < k → 10 ^ (g + 1).toNat ≤ Wd a b g p := by
    intro p hp hpk
    have h1 := lift_ge (g := g) (p := p) (j := k) (by omega) (by omega) (by omega) hL.lo
    have h2 := (wd_isR (a := a) (g := g) (p := p) hb).ge hD h1
    have h3 := pow10_le (a := (g + 1).toNat) (b := (g - p + k).toNat) (by omega)
    omega
  refine ⟨by omega, w2, ?_⟩
  by_cases c : Wd a b g k = 10 ^ (g + 1).toNat
  · refine ⟨k + 1, 10 ^ g.toNat, ?_, Int.le_refl _, by omega, .inr rfl, ?_, ?_⟩
    · have e2 : sb 10 (g - k) = 10 * sb 10 (g - (k + 1)) := by
        have := sb_lift (b := 10) (i := g - (k + 1)) (j := 1) (by omega)
        rw [show g - (k + 1) + ((1 : Nat) : Int) = g - k by omega] at this
        rw [this]; rfl
      have hR1 := wd_isR (a := a) (g := g) (p := k + 1) hb
      have l1 := hR.lo
      rw [c, e1, e2] at l1
      rw [e1, e2] at hhi
      have e3 : a * (10 * sb 10 (g - (k + 1))) = 10 * (a * sb 10 (g - (k + 1))) := Int.mul_left_comm _ _ _
      rw [e3] at l1 hhi
      generalize hX : a * sb 10 (g - (k + 1)) = X at *
      generalize hY : b * sb 10 0 = Y at *
      generalize (10 : Int) ^ g.toNat = G at *
      have u1 : Wd a b g (k + 1) ≤ G := hR1.le hD (by
        have : 10 * G * Y = 10 * (G * Y) := Int.mul_assoc _ _ _
        omega)
      have u2 : G ≤ Wd a b g (k + 1) := by
        rcases Int.lt_or_le (Wd a b g (k + 1)) G with q | q
        · have v1 := hR1.hi
          have v2 : (2 * Wd a b g (k + 1) + 1) * Y ≤ (2 * G - 1) * Y := Int.mul_le_mul_of_nonneg_right (by omega) (Int.le_of_lt hD)
          have v3 : (2 * G - 1) * Y = 2 * (G * Y) - Y := by rw [Int.sub_mul, Int.one_mul, Int.mul_assoc]
          have v4 : (2 * (10 * G) - 1) * Y = 20 * (G * Y) - Y := by rw [Int.sub_mul, Int.one_mul, show 2 * (10 * G) = 20 * G by omega, Int.mul_assoc]
          omega
        · exact q
      omega
    · intro p hp hpk
      rcases Int.lt_or_le p k with q | q
      · exact below p hp q
      · have : p = k := by omega
        subst this
        omega
    · intro W T h
      rcases h with ⟨_, h1, h2⟩ | ⟨h1, _⟩
      · exact ⟨h1, h2⟩
      · exact absurd c h1
  · refine ⟨k, Wd a b g k, rfl, w1, by omega, .inl rfl, below, ?_⟩
    intro W T h
    rcases h with ⟨h1, _⟩ | ⟨_, h1, h2⟩
    · exact absurd h1 c
    · exact ⟨h1, h2⟩
end
section
theorem v_bounds {n d : Int} (hn : 0 < n) (hd : 0 < d) (hn2 : Sz n 200) (hd2 : Sz d 140) : n * nrD n d ≤ 10 * (nrN n d * d) ∧ nrN n d * d ≤ 2 * (n * nrD n d) := by
  have hs1 := shF_le hn hd (hn2.le (by decide)) (hd2.le (by decide)) hd2
  have hs2 := shF_ge hn hd (hn2.le (by decide)) (hd2.le (by decide)) hn2
  obtain ⟨hR, hw1, hw2⟩ := whl_spec hn hd (hn2.le (by decide)) (hd2.le (by decide))
  obtain ⟨hA, hB, _, _⟩ := nr_sz hn hd hn2 hd2
  have eW : nrN n d * sb 2 (shF n d) = whl n d * (nrD n d * sb 2 0) := by
    unfold nrN nrD
    rw [Int.one_mul, Int.mul_assoc]
    congr 1
    unfold sb
    rw [← Int.pow_add, ← Int.pow_add]
    congr 1
    unfold mx0
    split <;> split <;> omega
  generalize nrN n d = A at *
  generalize nrD n d = B at *
  generalize whl n d = w at *
  have hS : 0 < sb 2 (shF n d) := sb_pos (by decide) _
  have hY : 0 < d * sb 2 0 := Int.mul_pos hd (sb_pos (by decide) 0)
  have hw52 : (2 : Int) ^ 52 = 4503599627370496 := by decide
  rw [hw52] at hw1
  have b1 : n * sb 2 (shF n d) ≤ 10 * (w * (d * sb 2 0)) := by
    have h1 : (2 * w + 1) * (d * sb 2 0) ≤ 20 * w * (d * sb 2 0) := Int.mul_le_mul_of_nonneg_right (by omega) (Int.le_of_lt hY)
    have h2 := hR.hi
    rw [Int.mul_assoc 20] at h1
    omega
  have b2 : w * (d * sb 2 0) ≤ 2 * (n * sb 2 (shF n d)) := by
    have h1 : w * (d * sb 2 0) ≤ (2 * w - 1) * (d * sb 2 0) := Int.mul_le_mul_of_nonneg_right (by omega) (Int.le_of_lt hY)
    have h2 := hR.lo
    omega
  have e1 : A * d * sb 2 (shF n d) = w * (d * sb 2 0) * B := by
    calc A * d * sb 2 (shF n d) = A * sb 2 (shF n d) * d := by ac_rfl
      _ = w * (B * sb 2 0) * d := by rw [eW]
      _ = w * (d * sb 2 0) * B := by ac_rfl
  constructor
  · refine Int.le_of_mul_le_mul_right (a := sb 2 (shF n d)) ?_ hS
    have := Int.mul_le_mul_of_nonneg_right b1 (Int.le_of_lt hB)
    calc n * B * sb 2 (shF n d) = n * sb 2 (shF n d) * B := by ac_rfl
      _ ≤ 10 * (w * (d * sb 2 0)) * B := this
      _ = 10 * (w * (d * sb 2 0) * B) := Int.mul_assoc _ _ _
      _ = 10 * (A * d * sb 2 (shF n d)) := by rw [e1]
      _ = 10 * (A * d) * sb 2 (shF n d) := (Int.mul_assoc _ _ _).symm
  · refine Int.le_of_mul_le_mul_right (a := sb 2 (shF n d)) ?_ hS
    have := Int.mul_le_mul_of_nonneg_right b2 (Int.le_of_lt hB)
    calc A * d * sb 2 (shF n d) = w * (d * sb 2 0) * B := e1
      _ ≤ 2 * (n * sb 2 (shF n d)) * B := this
      _ = 2 * (n * B) * sb 2 (shF n d) := by ac_rfl
theorem v_low {n d A B j : Int} (hd : 0 < d) (hB : 0 < B) (hj : -900 ≤ j) (hv : n * B ≤ 10 * (A * d)) (h : d * sb 10 (j + 1) ≤ n * sb 10 0) : B * sb 10 j ≤ A * sb 10 0 := by
  have e : sb 10 (j + 1) = 10 * sb 10 j := sb_lift (b := 10) (i := j) (j := 1) (by omega)
  rw [e] at h
  refine Int.le_of_mul_le_mul_right (a := 10 * d) ?_ (by omega)
  have h1 := Int.mul_le_mul_of_nonneg_right h (Int.le_of_lt hB)
  have h2 := Int.mul_le_mul_of_nonneg_right hv (Int.le_of_lt (sb_pos (b := 10) (by decide) 0))
  calc B * sb 10 j * (10 * d) = d * (10 * sb 10 j) * B := by ac_rfl
    _ ≤ n * sb 10 0 * B := h1
    _ = n * B * sb 10 0 := by ac_rfl
    _ ≤ 10 * (A * d) * sb 10 0 := h2
    _ = A * sb 10 0 * (10 * d) := by ac_rfl
theorem v_high {n d A B : Int} (hd : 0 < d) (hA : 0 < A) (hB : 0 < B) (hn : n ≤ 10 ^ 58) (hv : A * d ≤ 2 * (n * B)) : A < B * 10 ^ 59 := by
  have h1 : A * 1 ≤ A * d := Int.mul_le_mul_of_nonneg_left (by omega) (Int.le_of_lt hA)
  have h2 : n * B ≤ 10 ^ 58 * B := Int.mul_le_mul_of_nonneg_right hn (Int.le_of_lt hB)
  have h3 : B * 10 ^ 59 = 10 * (10 ^ 58 * B) := by
    rw [Int.mul_comm B, ← Int.mul_assoc]; rfl
  have h4 : 1 * B ≤ 10 ^ 58 * B := Int.mul_le_mul_of_nonneg_right (by decide) (Int.le_of_lt hB)
  omega
theorem n_len {n : Int} (h : 0 < n) : 10 ^ ((dtx n).length - 1) ≤ n := by
  have e : n = ((n.natAbs : Nat) : Int) := by omega
  rw [e, dtx_len]
  have h1 := dg10_pos n.natAbs
  rcases Nat.lt_or_ge n.natAbs (10 ^ ((dg10 n.natAbs).length - 1)) with q | q
  · by_cases c : (dg10 n.natAbs).length - 1 = 0
    · rw [c]; omega
    · have := dg10_le (k := (dg10 n.natAbs).length - 1) (m := n.natAbs) (by omega) q
      omega
  · have e2 := ipow 10 ((dg10 n.natAbs).length - 1)
    simp only [Int.cast_ofNat_Int] at e2
    rw [e2]
    exact Int.ofNat_le.mpr q
/-- the power of the number told, from below -/
theorem tl_low {n pw top low : Int} (hn : 0 < n) (hpw : -40 ≤ pw ∧ pw ≤ 40) (hlow : low = 10 ^ (mx0 (-pw)).toNat) (htop : top = n * 10 ^ (mx0 pw).toNat) : low * sb 10 ((((dtx n).length : Int) - 2 + pw) + 1) ≤ top * sb 10 0 := by
  have h1 := n_len hn
  have hl : 1 ≤ (dtx n).length := by
    have e : n = ((n.natAbs : Nat) : Int) := by omega
    rw [e, dtx_len]; exact dg10_pos _
  subst hlow htop
  have h2 := Int.mul_le_mul_of_nonneg_right h1 (Int.le_of_lt (Int.mul_pos (show (0 : Int) < 10 ^ (mx0 pw).toNat from Int.pow_pos (by decide)) (sb_pos (b := 10) (by decide) 0)))
  have e1 : (10 : Int) ^ (mx0 (-pw)).toNat * sb 10 ((((dtx n).length : Int) - 2 + pw) + 1) = 10 ^ ((dtx n).length - 1) * (10 ^ (mx0 pw).toNat * sb 10 0) := by
    unfold sb
    rw [← Int.pow_add, ← Int.pow_add, ← Int.pow_add]
    congr 1
    unfold mx0
    split <;> split <;> omega
  rw [e1, Int.mul_assoc]
  exact h2
end
section
theorem nr_sz2 {a b : Int} (h1 : whl a b ≤ 2 ^ 53) (h2 : 0 < whl a b) (h3 : -300 ≤ shF a b) (h4 : shF a b ≤ 302) : 0 < nrN a b ∧ 0 < nrD a b ∧ Sz (nrN a b) 400 ∧ Sz (nrD a b) 400 ∧ iabs (whl a b) * 2 ^ (mx0 (-(shF a b))).toNat < 1 * 2 ^ Int.toNat 1024 := by
  have hp : Sz (2 ^ (mx0 (-(shF a b))).toNat) 302 := ⟨by
    rw [Int.natAbs_pow]
    exact Nat.pow_lt_pow_right (by decide) (by unfold mx0; split <;> omega)⟩
  have hN : Sz (nrN a b) (54 + 302) := (le_two53 h1 (Int.le_of_lt h2)).mul hp
  refine ⟨Int.mul_pos h2 (Int.pow_pos (by decide)), ?_, hN.le (by decide), ?_, ?_⟩
  · unfold nrD; rw [Int.one_mul]; exact Int.pow_pos (by decide)
  · unfold nrD
    rw [Int.one_mul]
    exact ⟨by
      rw [Int.natAbs_pow]
      exact Nat.pow_lt_pow_right (by decide) (by unfold mx0; split <;> omega)⟩
  · rw [iabs_pos h2]
    have h5 := hN.out
    have h6 : (2 : Nat) ^ (54 + 302) < 2 ^ 1024 := Nat.pow_lt_pow_right (by decide) (by decide)
    have h7 : nrN a b = whl a b * 2 ^ (mx0 (-(shF a b))).toNat := rfl
    rw [← h7, Int.one_mul]
    have e := ipow 2 1024
    simp only [Int.cast_ofNat_Int] at e
    rw [show Int.toNat 1024 = 1024 from rfl, e]
    omega
/-- all that the law needs of the numbers -/
structure Nums (n pw g top low least K m : Int) : Prop where
  tpos : 0 < top
  lpos : 0 < low
  tsz : Sz top 200
  lsz : Sz low 140
  val : lM top low g K = m
  mlo : 10 ^ g.toNat ≤ m
  mhi : m < 10 ^ (g + 1).toNat
  llo : -250 ≤ least
  lK : least ≤ K
  Khi : K ≤ 350
  min : ∀ p, least ≤ p → p < K → 10 ^ (g + 1).toNat ≤ lM top low g p
  whole : ∀ ten, -400 ≤ ten → ten ≤ 400 → IsLog (nrN (nrN top low) (nrD top low)) (nrD (nrN top low) (nrD top low)) ten → 0 ≤ rnd (nrN top low * 10 ^ (mx0 (g - ten)).toNat) (nrD top low * 10 ^ (mx0 (ten - g)).toNat) ∧ rnd (nrN top low * 10 ^ (mx0 (g - ten)).toNat) (nrD top low * 10 ^ (mx0 (ten - g)).toNat) ≤ 10 ^ (g + 1).toNat
  up : nrN (nrN top low) (nrD top low) < nrD (nrN top low) (nrD top low) * 10 ^ (309 : Int).toNat
  dn : nrD (nrN top low) (nrD top low) ≤ nrN (nrN top low) (nrD top low) * 10 ^ (-(-200 : Int)).toNat
  rel : ∀ ten W T, -400 ≤ ten → ten ≤ 400 → IsLog (nrN (nrN top low) (nrD top low)) (nrD (nrN top low) (nrD top low)) ten →
    ((rnd (nrN top low * 10 ^ (mx0 (g - ten)).toNat) (nrD top low * 10 ^ (mx0 (ten - g)).toNat) = 10 ^ (g + 1).toNat ∧ W = 10 ^ g.toNat ∧ T = ten + 1) ∨ (rnd (nrN top low * 10 ^ (mx0 (g - ten)).toNat) (nrD top low * 10 ^ (mx0 (ten - g)).toNat) ≠ 10 ^ (g + 1).toNat ∧ W = rnd (nrN top low * 10 ^ (mx0 (g - ten)).toNat) (nrD top low * 10 ^ (mx0 (ten - g)).toNat) ∧ T = ten)) → W = m ∧ T = K
theorem pow10_sz {j : Nat} (k : Nat) (h : 10 ^ j < 2 ^ k) {i : Int} (hi : i ≤ j) : Sz (10 ^ i.toNat) k := ⟨by
  rw [Int.natAbs_pow]
  exact Nat.lt_of_le_of_lt (Nat.pow_le_pow_right (by decide) (by omega)) h⟩
theorem nums_of {n pw g top low : Int} (hn : 0 < n ∧ n ≤ 1000000000000000000) (hpw : -40 ≤ pw ∧ pw ≤ 40) (hg0 : 0 ≤ g) (hg6 : g ≤ 6) (hlow : low = 10 ^ (mx0 (-pw)).toNat) (htop : top = n * 10 ^ (mx0 pw).toNat) :
    ∃ K m, Nums n pw g top low (((dtx n).length : Int) - 2 + pw) K m := by
  have hm1 : mx0 (-pw) ≤ (40 : Nat) := by unfold mx0; split <;> omega
  have hm2 : mx0 pw ≤ (40 : Nat) := by unfold mx0; split <;> omega
  have lpos : 0 < low := by rw [hlow]; exact Int.pow_pos (by decide)
  have tpos : 0 < top := by rw [htop]; exact Int.mul_pos hn.1 (Int.pow_pos (by decide))
  have lsz : Sz low 140 := by rw [hlow]; exact pow10_sz 140 (by decide) hm1
  have hn60 : Sz n 60 := ⟨by
    have e : (2 : Nat) ^ 60 = 1152921504606846976 := by decide
    omega⟩
  have tsz : Sz top 200 := by rw [htop]; exact hn60.mul (pow10_sz 140 (by decide) hm2)
  have t58 : top ≤ 10 ^ 58 := by
    rw [htop]
    have h1 : n * 10 ^ (mx0 pw).toNat ≤ 10 ^ 18 * 10 ^ (mx0 pw).toNat := Int.mul_le_mul_of_nonneg_right (by
      have e : (10 : Int) ^ 18 = 1000000000000000000 := by decide
      omega) (Int.le_of_lt (Int.pow_pos (by decide)))
    rw [← Int.pow_add] at h1
    exact Int.le_trans h1 (pow10_le (by omega))
  have hll : 1 ≤ (dtx n).length ∧ (dtx n).length ≤ 25 := by
    have h1 := n_len hn.1
    have e : n = ((n.natAbs : Nat) : Int) := by omega
    rw [e, dtx_len]
    have := dg10_pos n.natAbs
    have := dg10_le (k := 19) (m := n.natAbs) (by decide) (by
      have e : (10 : Nat) ^ 19 = 10000000000000000000 := by decide
      omega)
    omega
  obtain ⟨hA, hB, hAs, hBs⟩ := nr_sz tpos lpos tsz lsz
  obtain ⟨hv1, hv2⟩ := v_bounds tpos lpos tsz lsz
  obtain ⟨hx, hw1, hw0, hw2, hw3⟩ := exact_nr tpos lpos tsz lsz
  obtain ⟨hA', hB', _, _, _⟩ := nr_sz2 hw1 hw0 hw2 hw3
  have hval := val_eq tpos lpos (tsz.le (by decide)) lsz
  have hlnD : 0 < lnD := by unfold lnD; decide
  have hlow1 := tl_low hn.1 hpw hlow htop
  generalize hle : ((dtx n).length : Int) - 2 + pw = least at *
  have hlow2 := v_low lpos hB (by omega) hv1 hlow1
  have hhi := v_high lpos hA hB t58 hv2
  have hlow3 : ∃ k, least ≤ k ∧ k < least + ((70 - least).toNat : Nat) ∧ Lg (nrN top low) (nrD top low) k := by
    refine Lg.ex (by omega) hlow2 _ ?_
    rw [show least + ((70 - least).toNat : Int) = 0 + ((70 : Nat) : Int) by omega, sb_lift (by omega)]
    have h1 := Int.mul_lt_mul_of_pos_right hhi (sb_pos (b := 10) (by decide) 0)
    have h2 : nrD top low * 10 ^ 59 * sb 10 0 ≤ nrD top low * (10 ^ 70 * sb 10 0) := by
      rw [Int.mul_assoc]
      exact Int.mul_le_mul_of_nonneg_left (Int.mul_le_mul_of_nonneg_right (by decide) (Int.le_of_lt (sb_pos (by decide) 0))) (Int.le_of_lt hB)
    exact Int.lt_of_lt_of_le h1 h2
  obtain ⟨k, hk1, hk2, hk3⟩ := hlow3
  have hk4 : k < 70 := by omega
  obtain ⟨_, _, K, m, hK, hm1', hm2', hKk, hmin, hrel⟩ := digits_law hB hg0 hg6 (by omega) (by omega) hk3
  have hlM : ∀ p, -500 ≤ p → p ≤ 500 → lM top low g p = Wd (nrN top low) (nrD top low) g p := by
    intro p hp1 hp2
    unfold lM
    rw [wd_lput hlnD hg0 (by omega) (by omega) (by omega)]
    exact (wd_ratio hlnD hB hval).symm
  have hlog : ∀ ten, -400 ≤ ten → ten ≤ 400 → IsLog (nrN (nrN top low) (nrD top low)) (nrD (nrN top low) (nrD top low)) ten → ten = k := by
    intro ten h1 h2 h3
    have h4 := (isLog_iff (by omega) (by omega)).mp h3
    exact (h4.ratio hB' hB hx).uniq hB (by omega) (by omega) hk3
  have hwd : rnd (nrN top low * 10 ^ (mx0 (g - k)).toNat) (nrD top low * 10 ^ (mx0 (k - g)).toNat) = Wd (nrN top low) (nrD top low) g k := wd_mant hB (by omega) (by omega)
  refine ⟨K, m, ⟨tpos, lpos, tsz, lsz, ?_, hm1', hm2', by omega, by omega, by omega, ?_, ?_, ?_, ?_, ?_⟩⟩
  · rw [hlM K (by omega) (by omega)]; exact hK
  · intro p h1 h2
    rw [hlM p (by omega) (by omega)]
    exact hmin p (by omega) h2
  · intro ten h1 h2 h3
    have := hlog ten h1 h2 h3
    subst this
    rw [hwd]
    exact ⟨by assumption, by assumption⟩
  · have h1 : nrN top low * 1 < nrD top low * 10 ^ 59 := by omega
    have h2 := lt_ratio hB hB' hx.symm h1
    have h3 : nrD (nrN top low) (nrD top low) * 10 ^ 59 ≤ nrD (nrN top low) (nrD top low) * 10 ^ (309 : Int).toNat := Int.mul_le_mul_of_nonneg_left (pow10_le (by decide)) (Int.le_of_lt hB')
    omega
  · have h1 : nrD top low * 1 ≤ nrN top low * 10 ^ 200 := by
      have h2 : sb 10 (-200) ≤ sb 10 least := sb_mono (by decide) (by decide) (by omega)
      have h3 := Int.mul_le_mul_of_nonneg_left h2 (Int.le_of_lt hB)
      have h4 : sb 10 0 = 10 ^ 200 * sb 10 (-200) := by show sb 10 (-200 + ((200 : Nat) : Int)) = _; exact sb_lift (by decide)
      refine Int.le_of_mul_le_mul_right (a := sb 10 (-200)) ?_ (sb_pos (by decide) _)
      rw [Int.mul_one, Int.mul_assoc, ← h4]
      exact Int.le_trans h3 hlow2
    have h2 := le_ratio hB hB' hx.symm h1
    have e : (-(-200 : Int)).toNat = 200 := rfl
    rw [e]
    omega
  · intro ten W T h1 h2 h3 h4
    have := hlog ten h1 h2 h3
    subst this
    rw [hwd] at h4
    exact hrel W T h4
end
section
theorem str_ext {x y : Str} (h : x.cps.toList = y.cps.toList) : x = y := PySem.Str.ext' (Array.toList_inj.mp h)
theorem part_one {X A B : Str} {c : Nat} (hX : X.cps.toList = A.cps.toList ++ c :: B.cps.toList) (hA : c ∉ A.cps.toList) : Txt.partition X ⟨#[c]⟩ = (A, ⟨#[c]⟩, B) := by
  have hat : ∀ i, StrLaws.At X ⟨#[c]⟩ X.length i ↔ X.cps.toList[i]? = some c := fun i => by
    constructor
    · intro h
      have := (StrLaws.subAt_one X c i).mp
      exact this h
    · intro h
      exact (StrLaws.subAt_one X c i).mpr h
  have hlen : X.cps.toList[A.cps.toList.length]? = some c := by rw [hX]; simp
  rcases partition_whole X ⟨#[c]⟩ with ⟨_, hn⟩ | ⟨i, hp, hi, hn⟩
  · exact absurd ((hat _).mpr hlen) (hn _)
  · have h1 : ¬ A.cps.toList.length < i := fun h => hn _ h ((hat _).mpr hlen)
    have h2 : ¬ i < A.cps.toList.length := fun h => by
      have h3 := (hat i).mp hi
      rw [hX, List.getElem?_append_left h] at h3
      exact hA (List.mem_of_getElem? h3)
    have e : i = A.cps.toList.length := by omega
    rw [hp]
    subst e
    have hXl : X.length = A.cps.toList.length + (1 + B.cps.toList.length) := by rw [str_len_list, hX, List.length_append, List.length_cons]; omega
    congr 1
    · apply str_ext
      rw [StrLaws.strSub_toList, hX]
      simp
    · congr 1
      apply str_ext
      rw [StrLaws.strSub_toList, hX]
      show ((A.cps.toList ++ c :: B.cps.toList).drop (A.cps.toList.length + 1)).take (X.length - (A.cps.toList.length + 1)) = _
      have e : A.cps.toList ++ c :: B.cps.toList = (A.cps.toList ++ [c]) ++ B.cps.toList := by simp
      rw [e, List.drop_left' (by simp), List.take_of_length_le (by omega)]
theorem part_none {X : Str} {c : Nat} (hA : c ∉ X.cps.toList) : Txt.partition X ⟨#[c]⟩ = (X, Str.empty, Str.empty) := by
  rcases partition_whole X ⟨#[c]⟩ with ⟨h, _⟩ | ⟨i, _, hi, _⟩
  · exact h
  · exact absurd ((mem_iff_at X c).mpr ⟨i, hi⟩) hA
theorem strip_self {X : Str} (h : ∀ c ∈ X.cps.toList, Unicode.isSpace c = false) : Txt.strip X = X := by
  have tw : ∀ l : List Nat, (∀ c ∈ l, Unicode.isSpace c = false) → l.takeWhile Unicode.isSpace = [] := fun l hl => by
    cases l with
    | nil => rfl
    | cons c r => rw [List.takeWhile_cons, hl c (List.mem_cons_self ..)]; rfl
  unfold Txt.strip Txt.stripBy
  rw [if_pos]
  unfold stripSame stripLo
  rw [if_pos rfl, tw _ h]
  unfold stripHi
  rw [if_pos rfl, tw _ (fun c hc => h c (List.mem_of_mem_drop (List.mem_reverse.mp hc)))]
  simp
end
section
theorem mkList (l : List Nat) : (⟨l.toArray⟩ : Str).cps.toList = l := rfl
theorem len_mk (l : List Nat) : (⟨l.toArray⟩ : Str).length = l.length := by rw [str_len_list, mkList]
theorem digs_ne {m c : Nat} (h : c < 48 ∨ 57 < c) : c ∉ dg10 m := fun hc => by have := dg10_all hc; omega
theorem dtx_pos_list {a : Int} (h : 0 ≤ a) : (dtx a).cps.toList = dg10 a.natAbs := by
  have := dtx_nat a.natAbs
  rw [show ((a.natAbs : Nat) : Int) = a by omega] at this
  exact this
theorem dtx_neg_list {a : Int} (h : a < 0) : (dtx a).cps.toList = 45 :: dg10 a.natAbs := by
  have := dtx_neg (m := a.natAbs) (by omega)
  rw [show -((a.natAbs : Nat) : Int) = a by omega] at this
  exact this
theorem dig_val (m : Nat) : PySem.intText? (⟨(dg10 m).toArray⟩ : Str) = some (m : Int) → True := fun _ => trivial
theorem whole_of {m : Nat} (h : (dg10 m).length ≤ 4300) : PySem.intText? (⟨(dg10 m).toArray⟩ : Str) = some (m : Int) := by
  have e := intText_digits (x := (⟨(dg10 m).toArray⟩ : Str)) (fun c hc => dg10_all hc) (by
    rw [mkList]; intro h0; have := dg10_pos m; rw [h0] at this; simp at this) (by rw [len_mk]; exact h)
  rw [e, mkList, dg10_val]
theorem isSp {c : Nat} (h : c = 43 ∨ c = 45 ∨ (48 ≤ c ∧ c ≤ 57) ∨ c = 69 ∨ c = 101) : Unicode.isSpace c = false := by
  have d : ∀ c, c < 102 → (c = 43 ∨ c = 45 ∨ (48 ≤ c ∧ c ≤ 57) ∨ c = 69 ∨ c = 101) → Unicode.isSpace c = false := by decide +kernel
  exact d c (by omega) h
end
section
theorem first1 {x : Str} {c : Nat} {r : List Nat} (h : x.cps.toList = c :: r) : Txt.slice x none (some 1) = ⟨#[c]⟩ := by
  have hl : x.length = r.length + 1 := by rw [str_len_list, h]; rfl
  have e1 := beq_iff_eq.mp (slice_closes_to (x := x) (j := 1) ⟨by decide, by rw [h, List.length_cons]; omega⟩)
  rw [e1, h]
  rfl
theorem rest1 {x : Str} {c : Nat} {r : List Nat} (h : x.cps.toList = c :: r) : Txt.slice x (some 1) none = ⟨r.toArray⟩ := by
  have hl : x.length = r.length + 1 := by rw [str_len_list, h]; rfl
  rw [slice_from_eq (b := (x.length : Int)) (by decide) (by omega) rfl, h]
  show (⟨(List.take (((x.length : Int)) - 1).toNat r).toArray⟩ : Str) = _
  rw [List.take_of_length_le (by omega)]
theorem head_ne {x y : Str} {c d : Nat} {r s : List Nat} (hx : x.cps.toList = c :: r) (hy : y.cps.toList = d :: s) (h : c ≠ d) : (x == y) = false := by
  rw [beq_eq_false_iff_ne]
  intro e
  rw [e, hy] at hx
  exact h (List.cons.inj hx).1.symm
theorem dg10_head (m : Nat) : ∃ c r, dg10 m = c :: r ∧ 48 ≤ c ∧ c ≤ 57 := by
  cases h : dg10 m with
  | nil => have := dg10_pos m; rw [h] at this; simp at this
  | cons c r => exact ⟨c, r, rfl, dg10_all (m := m) (by rw [h]; exact List.mem_cons_self ..)⟩
def preL (neg : Bool) : List Nat := if neg = true then [45] else []
theorem lo_digs (m : Nat) : (dg10 m).map lo1 = dg10 m := by
  have : ∀ c ∈ dg10 m, lo1 c = id c := fun c hc => by
    have := dg10_all hc
    unfold lo1
    rw [if_neg (by omega)]
    rfl
  rw [List.map_congr_left this, List.map_id]
theorem lo_dtx (a : Int) : ((dtx a).cps.toList).map lo1 = (dtx a).cps.toList := by
  rcases Int.lt_or_le a 0 with q | q
  · rw [dtx_neg_list q, List.map_cons, lo_digs]; rfl
  · rw [dtx_pos_list q, lo_digs]
theorem dtx_chars {a : Int} {c : Nat} (h : c ∈ (dtx a).cps.toList) : c = 45 ∨ (48 ≤ c ∧ c ≤ 57) := by
  rcases Int.lt_or_le a 0 with q | q
  · rw [dtx_neg_list q] at h
    rcases List.mem_cons.mp h with e | e
    · exact .inl e
    · exact .inr (dg10_all e)
  · rw [dtx_pos_list q] at h
    exact .inr (dg10_all h)
theorem int_back {a : Int} (h : (dg10 a.natAbs).length ≤ 100) : PySem.intText? (dtx a) = some a := by
  have hne : dg10 a.natAbs ≠ [] := fun h0 => by have := dg10_pos a.natAbs; rw [h0] at this; simp at this
  rcases Int.lt_or_le a 0 with q | q
  · have e := intText_neg (dtx_neg_list q) (fun c hc => dg10_all hc) hne (by rw [str_len_list, dtx_neg_list q, List.length_cons]; omega)
    rw [e, dg10_val]
    congr 1
    omega
  · have e := intText_digits (x := dtx a) (by rw [dtx_pos_list q]; exact fun c hc => dg10_all hc) (by rw [dtx_pos_list q]; exact hne) (by rw [str_len_list, dtx_pos_list q]; omega)
    rw [e, dtx_pos_list q, dg10_val]
    congr 1
    omega
theorem lstrip_signs (a : Int) : Txt.lstripChars (dtx a) (Str.ofString "+-") = ⟨(dg10 a.natAbs).toArray⟩ := by
  obtain ⟨c0, r0, hc0, hc1, hc2⟩ := dg10_head a.natAbs
  have eS : (Str.ofString "+-").cps = #[43, 45] := rfl
  have g1 : (#[43, 45] : Array Nat).contains 45 = true := by simp
  have g2 : (#[43, 45] : Array Nat).contains c0 = false := by
    rw [Bool.eq_false_iff]
    intro h
    have := Array.contains_iff_mem.mp h
    simp at this
    omega
  unfold Txt.lstripChars
  rw [PyProof.Rows.stripBy_eq, eS]
  apply str_ext
  rw [StrLaws.strSub_toList, mkList]
  unfold stripLo stripHi
  rw [if_pos rfl, if_neg (by decide)]
  rcases Int.lt_or_le a 0 with q | q
  · rw [str_len_list, dtx_neg_list q, List.takeWhile_cons, g1, if_pos rfl, hc0, List.takeWhile_cons, g2, if_neg Bool.false_ne_true]
    simp
  · rw [str_len_list, dtx_pos_list q, hc0, List.takeWhile_cons, g2, if_neg Bool.false_ne_true]
    simp
theorem rf_e {X : Str} {neg : Bool} {n : Nat} {pw : Int} {k : Nat} (hk : k = 69 ∨ k = 101) (hX : X.cps.toList = preL neg ++ (dg10 n ++ k :: (dtx pw).cps.toList)) (hn : n < 10 ^ 19) (hp : -40 ≤ pw ∧ pw ≤ 40) :
    RF X ⟨(preL neg ++ (dg10 n ++ 101 :: (dtx pw).cps.toList)).toArray⟩ ⟨(dg10 n ++ 101 :: (dtx pw).cps.toList).toArray⟩ ⟨(dg10 n).toArray⟩ (Str.ofString "e") (dtx pw) ⟨(dg10 pw.natAbs).toArray⟩ neg (n : Int) pw := by
  have hnl := dg10_le (k := 19) (m := n) (by decide) hn
  have hpl := dg10_le (k := 2) (m := pw.natAbs) (by decide) (by omega)
  have hpl2 : (dtx pw).cps.toList.length ≤ 3 := by
    rcases Int.lt_or_le pw 0 with q | q
    · rw [dtx_neg_list q, List.length_cons]; omega
    · rw [dtx_pos_list q]; omega
  have hprl : (preL neg).length ≤ 1 := by cases neg <;> decide
  obtain ⟨c0, r0, hc0, hc1, hc2⟩ := dg10_head n
  have hpre : ∀ c ∈ preL neg, c = 45 := fun c hc => by cases neg <;> simp [preL] at hc; exact hc
  have hXc : ∀ c ∈ X.cps.toList, c = 43 ∨ c = 45 ∨ (48 ≤ c ∧ c ≤ 57) ∨ c = 69 ∨ c = 101 := fun c hc => by
    rw [hX, List.mem_append, List.mem_append, List.mem_cons] at hc
    rcases hc with h | h | h | h
    · have := hpre c h; omega
    · have := dg10_all h; omega
    · omega
    · have := dtx_chars h; omega
  have eE : (Str.ofString "e") = ⟨#[101]⟩ := rfl
  have hneg0 : neg = true → (⟨(preL neg ++ (dg10 n ++ 101 :: (dtx pw).cps.toList)).toArray⟩ : Str).cps.toList = 45 :: (dg10 n ++ 101 :: (dtx pw).cps.toList) := fun h => by subst h; rfl
  have hpos0 : neg = false → (⟨(preL neg ++ (dg10 n ++ 101 :: (dtx pw).cps.toList)).toArray⟩ : Str).cps.toList = c0 :: (r0 ++ 101 :: (dtx pw).cps.toList) := fun h => by subst h; rw [mkList, hc0]; rfl
  have hW : (⟨(dg10 n ++ 101 :: (dtx pw).cps.toList).toArray⟩ : Str).cps.toList = c0 :: (r0 ++ 101 :: (dtx pw).cps.toList) := by rw [mkList, hc0]; rfl
  have hem : (⟨(dg10 n).toArray⟩ : Str) ++ Str.empty = ⟨(dg10 n).toArray⟩ := str_ext (by rw [PySem.Str.cps_append]; simp [Str.empty])
  constructor
  case lower =>
    rw [strip_self (fun c hc => isSp (hXc c hc)), lower_ascii (fun c hc => by have := hXc c hc; omega)]
    apply str_ext
    rw [mkList, Array.toList_map, hX, List.map_append, List.map_append, List.map_cons, lo_digs, lo_dtx]
    have e1 : (preL neg).map lo1 = preL neg := by cases neg <;> rfl
    have e2 : lo1 k = 101 := by rcases hk with h | h <;> subst h <;> rfl
    rw [e1, e2]
  case lenX => rw [str_len_list, hX, List.length_append, List.length_append, List.length_cons]; omega
  case lenW0 => rw [len_mk, List.length_append, List.length_append, List.length_cons]; omega
  case minus =>
    cases hng : neg with
    | true => rw [← hng, first1 (hneg0 hng), hng]; rfl
    | false =>
      rw [← hng, first1 (hpos0 hng), hng, beq_eq_false_iff_ne]
      intro e
      have := congrArg (fun s : Str => s.cps.toList) e
      have : [c0] = [45] := this
      simp at this
      omega
  case signs =>
    cases hng : neg with
    | true => rw [← hng, first1 (hneg0 hng), hng]; rfl
    | false =>
      rw [← hng, first1 (hpos0 hng), hng]
      have e1 : (Str.ofString "-" == (⟨#[c0]⟩ : Str)) = false := head_ne (c := 45) (r := []) (s := []) rfl rfl (by omega)
      have e2 : (Str.ofString "+" == (⟨#[c0]⟩ : Str)) = false := head_ne (c := 43) (r := []) (s := []) rfl rfl (by omega)
      simp only [List.any_cons, List.any_nil, e1, e2, Bool.or_false]
  case cut =>
    cases hng : neg with
    | true => rw [if_pos rfl, ← hng, rest1 (hneg0 hng)]
    | false => rw [if_neg (by decide)]; rfl
  case lenW => rw [len_mk, List.length_append, List.length_cons]; omega
  case inf =>
    have e1 : (Str.ofString "inf" == (⟨(dg10 n ++ 101 :: (dtx pw).cps.toList).toArray⟩ : Str)) = false := head_ne (c := 105) (r := [110, 102]) rfl hW (by omega)
    have e2 : (Str.ofString "infinity" == (⟨(dg10 n ++ 101 :: (dtx pw).cps.toList).toArray⟩ : Str)) = false := head_ne (c := 105) (r := [110, 102, 105, 110, 105, 116, 121]) rfl hW (by omega)
    simp only [List.any_cons, List.any_nil, e1, e2, Bool.or_false]
  case nan => exact head_ne hW (d := 110) (s := [97, 110]) rfl (by omega)
  case part =>
    rw [eE]
    exact part_one (by rw [mkList, mkList]) (by rw [mkList]; exact digs_ne (.inr (by decide)))
  case dot => exact part_none (c := 46) (by rw [mkList]; exact digs_ne (.inl (by decide)))
  case lenD => rw [len_mk]; omega
  case digs => rw [hem, mkList]; exact fun c hc => dg10_all hc
  case dne =>
    rw [hem]
    have : ((⟨(dg10 n).toArray⟩ : Str) == Str.ofString "") = false := by
      rw [beq_eq_false_iff_ne]
      intro e
      have := congrArg Str.length e
      rw [len_mk] at this
      have h0 : (Str.ofString "").length = 0 := rfl
      rw [h0, hc0] at this
      simp at this
    simp only [bne, this, Bool.not_false]
  case lenM => decide
  case lenP => rw [str_len_list]; omega
  case mark =>
    right
    refine ⟨rfl, ?_, ?_, ?_, ?_, ?_, ?_⟩
    · rw [str_len_list]
      rcases Int.lt_or_le pw 0 with q | q
      · rw [dtx_neg_list q, List.length_cons]; omega
      · rw [dtx_pos_list q]; have := dg10_pos pw.natAbs; omega
    · exact lstrip_signs pw
    · rw [len_mk]; omega
    · have : ((⟨(dg10 pw.natAbs).toArray⟩ : Str) == Str.ofString "") = false := by
        rw [beq_eq_false_iff_ne]
        intro e
        have := congrArg Str.length e
        rw [len_mk] at this
        have h0 : (Str.ofString "").length = 0 := rfl
        have := dg10_pos pw.natAbs
        omega
      simp only [bne, this, Bool.not_false]
    · rw [mkList]; exact fun c hc => dg10_all hc
    · exact int_back (by omega)
  case whole => rw [hem]; exact whole_of (by omega)
theorem rf_i {X : Str} {n : Nat} (hX : X.cps.toList = dg10 n) (hn : n < 10 ^ 19) : RF X X X X Str.empty Str.empty Str.empty false (n : Int) 0 := by
  have hnl := dg10_le (k := 19) (m := n) (by decide) hn
  obtain ⟨c0, r0, hc0, hc1, hc2⟩ := dg10_head n
  have hl : X.length = (dg10 n).length := by rw [str_len_list, hX]
  have hX0 : X.cps.toList = c0 :: r0 := by rw [hX, hc0]
  have eX : (⟨(dg10 n).toArray⟩ : Str) = X := str_ext (by rw [mkList, hX])
  have hem : X ++ Str.empty = X := str_ext (by rw [PySem.Str.cps_append]; simp [Str.empty])
  have hXc : ∀ c ∈ X.cps.toList, 48 ≤ c ∧ c ≤ 57 := fun c hc => by rw [hX] at hc; exact dg10_all hc
  constructor
  case lower =>
    rw [strip_self (fun c hc => isSp (.inr (.inr (.inl (hXc c hc))))), lower_ascii (fun c hc => by have := hXc c hc; omega)]
    apply str_ext
    show (X.cps.map lo1).toList = X.cps.toList
    rw [Array.toList_map, hX, lo_digs]
  case lenX => omega
  case lenW0 => omega
  case minus =>
    rw [first1 hX0]
    exact head_ne (c := c0) (d := 45) (r := []) (s := []) rfl rfl (by omega)
  case signs =>
    rw [first1 hX0]
    have e1 : (Str.ofString "-" == (⟨#[c0]⟩ : Str)) = false := head_ne (c := 45) (r := []) (s := []) rfl rfl (by omega)
    have e2 : (Str.ofString "+" == (⟨#[c0]⟩ : Str)) = false := head_ne (c := 43) (r := []) (s := []) rfl rfl (by omega)
    simp only [List.any_cons, List.any_nil, e1, e2, Bool.or_false]
  case cut => rfl
  case lenW => omega
  case inf =>
    have e1 : (Str.ofString "inf" == X) = false := head_ne (c := 105) (r := [110, 102]) rfl hX0 (by omega)
    have e2 : (Str.ofString "infinity" == X) = false := head_ne (c := 105) (r := [110, 102, 105, 110, 105, 116, 121]) rfl hX0 (by omega)
    simp only [List.any_cons, List.any_nil, e1, e2, Bool.or_false]
  case nan => exact head_ne hX0 (d := 110) (s := [97, 110]) rfl (by omega)
  case part => exact part_none (c := 101) (fun h => by have := hXc 101 h; omega)
  case dot => exact part_none (c := 46) (fun h => by have := hXc 46 h; omega)
  case lenD => omega
  case digs => rw [hem]; exact hXc
  case dne =>
    rw [hem]
    have : (X == Str.ofString "") = false := by
      rw [beq_eq_false_iff_ne]
      intro e
      have := congrArg Str.length e
      have h0 : (Str.ofString "").length = 0 := rfl
      rw [h0, hl, hc0] at this
      simp at this
    simp only [bne, this, Bool.not_false]
  case lenM => decide
  case lenP => decide
  case mark => exact .inl ⟨rfl, rfl, rfl⟩
  case whole =>
    rw [hem, ← eX]
    exact whole_of (by omega)
end
section
theorem sl1 {x : Str} (h : 1 ≤ x.length) : Txt.slice x none (some 1) = Txt.item x 0 := by
  have h1 : x.cps.toList.length = x.length := Array.length_toList
  have e1 := beq_iff_eq.mp (slice_closes_to (x := x) (j := 1) ⟨by decide, by omega⟩)
  rw [e1]
  unfold Txt.item Txt.charAt
  rw [seqIndex?_zero (by omega)]
  cases hx : x.cps.toList with
  | nil => rw [hx] at h1; simp at h1; omega
  | cons c r =>
    have e2 : x.cps = (c :: r).toArray := by rw [← hx]
    simp [e2]
theorem zf_self {x : Str} {i : Int} (h : (x.length : Int) = i) : Txt.zfill x i = x := by
  unfold Txt.zfill
  rw [if_pos (by omega)]
theorem rj_self {x : Str} {i : Int} {c : Nat} (h : (x.length : Int) = i) : Txt.rjustF x i c = x := by
  unfold Txt.rjustF
  rw [if_pos (by omega)]
theorem fold_app (l : List Str) (a : Array Nat) : List.foldl (fun acc (p : Str) => acc ++ p.cps) a l = a ++ List.foldl (fun acc (p : Str) => acc ++ p.cps) #[] l := by
  induction l generalizing a with
  | nil => simp
  | cons x r ih =>
    rw [List.foldl_cons, List.foldl_cons, ih (a ++ x.cps), ih (#[] ++ x.cps)]
    simp
theorem join_fold (l : List Str) : Txt.join (Str.ofString "") l = ⟨List.foldl (fun acc (p : Str) => acc ++ p.cps) #[] l⟩ := by
  unfold Txt.join Builtin.Str.glued
  have e : (Str.ofString "").cps = #[] := rfl
  rw [e]
  cases l with
  | nil => rfl
  | cons x r =>
    show (⟨List.foldl (fun acc p => acc ++ #[] ++ p.cps) x.cps r⟩ : Str) = ⟨List.foldl (fun acc (p : Str) => acc ++ p.cps) (#[] ++ x.cps) r⟩
    simp
theorem trT_eq (K : Int) : trT K = (if K < 0 then Str.ofString "⁻" else Str.ofString "") ++ raisedT K := by
  have hs : ∀ m : Nat, (dg10 m).map supC = (dg10 m).map supD := fun m => List.map_congr_left fun c hc => by
    have := dg10_all hc
    unfold supC
    rw [if_neg (by omega)]
  unfold trT raisedT
  rw [join_fold]
  rcases Int.lt_or_le K 0 with q | q
  · have e : (dtx K).cps.toList = 45 :: dg10 K.natAbs := by
      have := dtx_neg (m := K.natAbs) (by omega)
      rw [show -((K.natAbs : Nat) : Int) = K by omega] at this
      exact this
    rw [e, List.map_cons, hs, if_pos q, List.foldl_cons, fold_app]
    apply PySem.Str.ext'
    rw [PySem.Str.cps_append]
    simp [supC]
  · have e : (dtx K).cps.toList = dg10 K.natAbs := by
      have := dtx_nat K.natAbs
      rw [show ((K.natAbs : Nat) : Int) = K by omega] at this
      exact this
    rw [e, hs, if_neg (by omega)]
    apply PySem.Str.ext'
    rw [PySem.Str.cps_append]
    have e0 : (Str.ofString "").cps = #[] := rfl
    rw [e0]
    simp
theorem dtx_full {m g : Int} (hg0 : 0 ≤ g) (h1 : 10 ^ g.toNat ≤ m) (h2 : m < 10 ^ (g + 1).toNat) : ((dtx m).length : Int) = g + 1 := by
  have h0 : (0 : Int) < 10 ^ g.toNat := Int.pow_pos (by decide)
  have h3 := dtx_le (by omega) hg0 h2
  have e : m = ((m.natAbs : Nat) : Int) := by omega
  have e2 := ipow 10 g.toNat
  simp only [Int.cast_ofNat_Int] at e2
  rw [e2] at h1
  have h4 := dg10_ge (k := g.toNat) (m := m.natAbs) (by omega)
  rw [e, dtx_len] at h3 ⊢
  omega
theorem app3 (a b c : Str) : a ++ b ++ c = a ++ (b ++ c) := by
  apply PySem.Str.ext'
  simp only [PySem.Str.cps_append, Array.append_assoc]
def sgnT (sg : Int) : Str := if sg < 0 then Str.ofString "-" else Str.ofString ""
theorem same_text {N g m K sg : Int} (hs : N < 0 ↔ sg < 0) (hg0 : 0 ≤ g) (h1 : 10 ^ g.toNat ≤ m) (h2 : m < 10 ^ (g + 1).toNat) : mTxt N g m ++ Str.ofString " x 10" ++ trT K = sgnT sg ++ sTxt m g K := by
  have hl := dtx_full hg0 h1 h2
  unfold mTxt sTxt lTxt ljust0 sgnT
  rw [zf_self hl, rj_self hl, sl1 (by omega), trT_eq]
  by_cases c : N < 0
  · rw [if_pos c, if_pos (hs.mp c)]
    simp only [app3]
  · rw [if_neg c, if_neg (fun h => c (hs.mpr h))]
    simp only [app3]
theorem zero_text {g : Int} (hg0 : 0 ≤ g) (hg6 : g ≤ 6) : mTxt 0 g 0 ++ Str.ofString " x 10" ++ trT 0 = sgnT 1 ++ s0Txt g := by
  have : g = 0 ∨ g = 1 ∨ g = 2 ∨ g = 3 ∨ g = 4 ∨ g = 5 ∨ g = 6 := by omega
  rcases this with h | h | h | h | h | h | h <;> subst h <;> decide +kernel
theorem mTxt_le {n g W : Int} (h0 : 0 ≤ W) (hg0 : 0 ≤ g) (hg6 : g ≤ 6) (h1 : W < 10 ^ (g + 1).toNat) : (mTxt n g W).length ≤ 30 := by
  have hl := zfill_len h0 hg0 h1
  have h3 := PyProof.Txt.length_slice_le (Txt.zfill (dtx W) (g + 1)) (some 1) none
  have e1 : (Str.ofString ".").length = 1 := rfl
  have e2 : (Str.ofString "").length = 0 := rfl
  have e3 : (Str.ofString "-").length = 1 := rfl
  have e4 : (Txt.item (Txt.zfill (dtx W) (g + 1)) 0).length = 1 := rfl
  unfold mTxt
  split <;> split <;> simp only [PySem.Str.length_append] <;> omega
end
section
/-- a call that gives back one text -/
abbrev strR (S : Str) (news : List (Addr × Obj)) : Heap → Addr → (Str → Option Value) → Shared → (Value → Shared → Prop) → Prop := fun h₀ L m s Q =>
  ∀ (t : Tok) (h' : Heap) (tk' : Nat), Fr h₀ L h' m → News h₀ L h' news → Q (.str S t) { s with heap := h', toks := tk' }
/-- scientific of this value, with g digits, says S -/
def SciS (w : World) (g : Int) (S : Str) (v : Value) (news : List (Addr × Obj)) : Prop :=
  ∀ (p : Program) (loose : List Str) (mean : ExcName → Option Value) (mg mb : Str → Option Value), (∀ tg, FnC w p loose mean mg mb 183 news 18 220 [v, .int g tg] (strR S news)) ∧ (g = 2 → FnC w p loose mean mg mb 183 news 18 220 [v] (strR S news))
def DblS (w : World) (N D : Int) (v : Value) (news : List (Addr × Obj)) : Prop := ∀ (p : Program) (loose : List Str) (mean : ExcName → Option Value) (mg mb : Str → Option Value), FnC w p loose mean mg mb 120 news 14 180 [v] (DblR w news N D)
def ManS (w : World) (N D g : Int) (S : Str) : Prop := ∀ (p : Program) (loose : List Str) (mean : ExcName → Option Value) (mg mb : Str → Option Value) (news' : List (Addr × Obj)) (x dx : Addr) (k1 k2 t1 t2 tg : Tok), (x, instObj 109 dx) ∈ news' → (dx, dblDict w k1 k2 N D t1 t2) ∈ news' →
  FnC w p loose mean mg mb 167 news' 8 60 [.ref x, .int g tg] (ManR news' (fun T U => T ++ Str.ofString " x 10" ++ trT U = S))
def SaidS (w : World) (n d g least : Int) (S : Str) : Prop := ∀ (p : Program) (loose : List Str) (mean : ExcName → Option Value) (mg mb : Str → Option Value) (news : List (Addr × Obj)) (tn td tg tl : Tok), FnC w p loose mean mg mb 209 news 4 30 [.int n tn, .int d td, .int g tg, .int least tl] (strR S news)
theorem strR_of {w : World} {p : Program} {loose : List Str} {mean : ExcName → Option Value} {mg mb : Str → Option Value} {news : List (Addr × Obj)} {vs : List Value} {S : Str}
    (h : FnC w p loose mean mg mb 183 news 18 220 vs fun h₀ L m s Q => ∀ (t : Tok) (h' : Heap) (tk' : Nat) (T : Str) (U : Int), T ++ Str.ofString " x 10" ++ trT U = S → T.length ≤ 30 → -200 ≤ U → U ≤ 310 → Fr h₀ L h' m → News h₀ L h' news → Q (.str (T ++ Str.ofString " x 10" ++ trT U) t) { s with heap := h', toks := tk' }) :
    FnC w p loose mean mg mb 183 news 18 220 vs (strR S news) := by
  unfold FnC at h ⊢
  intro dp un gd cn cs a ccd cl outer A₀ base h₀ L m s Q E B F X N T hk hdp hun hret
  refine h dp un gd cn cs a ccd cl outer A₀ base h₀ L m s Q E B F X N T hk hdp hun ?_
  intro t h' tk' T U hS _ _ _ F' N'
  rw [hS]
  exact hret t h' tk' F' N'
theorem sciS_of {w : World} {N D g : Int} {S : Str} {v : Value} {news : List (Addr × Obj)} (hd : DblS w N D v news) (hm : ManS w N D g S) (hD : D ≠ 0) (hg : Sz g 64) : SciS w g S v news := by
  intro p loose mean mg mb
  constructor
  · intro tg
    exact strR_of (sci_ok v N D g tg _ hD hg (hd p loose mean mg mb) fun news' x dx k1 k2 t1 t2 tg hx hdx => hm p loose mean mg mb news' x dx k1 k2 t1 t2 tg hx hdx)
  · intro e
    subst e
    exact strR_of (sci2_ok v N D _ hD (hd p loose mean mg mb) fun news' x dx k1 k2 t1 t2 tg hx hdx => hm p loose mean mg mb news' x dx k1 k2 t1 t2 tg hx hdx)
/-- what the law hands over: all its facts in one record -/
structure Pack (w : World) (N g top low least : Int) (S0 S : Str) : Prop where
  said : SaidS w top low g least S0
  man : ManS w (dbN N low) (dbD N low) g S
  ne : dbD N low ≠ 0
  szN : Sz N 700
  szD : Sz low 700
  pos : 0 < low
  hov : ¬ 1 * 2 ^ Int.toNat 1024 ≤ iabs (whl N low) * 2 ^ (mx0 (-(shF N low))).toNat
theorem log_range {a b ten : Int} (ha : 0 < a) (hb : 0 < b) (hup : a < b * 10 ^ (309 : Int).toNat) (hdn : b ≤ a * 10 ^ (-(-200 : Int)).toNat) (h : IsLog a b ten) : -400 ≤ ten ∧ ten ≤ 400 := by
  constructor
  · rcases Int.lt_or_le ten (-400) with q | q
    · have h1 := h.2
      have e : (ten + 1).toNat = 0 := by omega
      rw [e, Int.pow_zero, Int.mul_one] at h1
      have h2 : a * 10 ^ (-(-200 : Int)).toNat ≤ a * 10 ^ (-(ten + 1)).toNat := Int.mul_le_mul_of_nonneg_left (pow10_le (by omega)) (Int.le_of_lt ha)
      omega
    · exact q
  · rcases Int.lt_or_le 400 ten with q | q
    · have h1 := h.1
      have e : (-ten).toNat = 0 := by omega
      rw [e, Int.pow_zero, Int.mul_one] at h1
      have h2 : b * 10 ^ (309 : Int).toNat ≤ b * 10 ^ ten.toNat := Int.mul_le_mul_of_nonneg_left (pow10_le (by omega)) (Int.le_of_lt hb)
      omega
    · exact q
theorem hov_pos {n d : Int} (hw : 0 < whl n d) (hs : Sz (nrN n d) 202) : iabs (whl n d) * 2 ^ (mx0 (-(shF n d))).toNat < 1 * 2 ^ Int.toNat 1024 := by
  rw [iabs_pos hw]
  have h5 := hs.out
  have h6 : (2 : Nat) ^ 202 < 2 ^ 1024 := Nat.pow_lt_pow_right (by decide) (by decide)
  have h7 : nrN n d = whl n d * 2 ^ (mx0 (-(shF n d))).toNat := rfl
  rw [← h7, Int.one_mul]
  have e := ipow 2 1024
  simp only [Int.cast_ofNat_Int] at e
  rw [show Int.toNat 1024 = 1024 from rfl, e]
  omega
theorem nrD_pos (n d : Int) : 0 < nrD n d := by unfold nrD; rw [Int.one_mul]; exact Int.pow_pos (by decide)
theorem whl_zero {d : Int} (hd : 0 < d) : whl (1 * 0) d = 0 := by
  unfold whl
  refine rnd_eq (Int.mul_pos hd (Int.pow_pos (by decide))) (isR_exact (Int.mul_pos hd (Int.pow_pos (by decide))) ?_)
  rw [Int.mul_zero, Int.zero_mul, Int.zero_mul]
theorem dbN_ne {n d : Int} (h : n ≠ 0) : dbN n d = nrN n d := if_neg h
theorem dbD_ne {n d : Int} (h : n ≠ 0) : dbD n d = nrD n d := if_neg h
/-- mantissa_and_power of the double, when it is not nought -/
theorem man_of {w : World} {n pw sg g top low least K m : Int} (H : Nums n pw g top low least K m) (hsg : sg = 1 ∨ sg = -1) (hg0 : 0 ≤ g) (hg6 : g ≤ 6) : ManS w (dbN (sg * top) low) (dbD (sg * top) low) g (sgnT sg ++ sTxt m g K) := by
  have hne : sg * top ≠ 0 := by
    rcases hsg with h | h <;> subst h <;> have := H.tpos <;> omega
  obtain ⟨hA, hB, hAs, hBs⟩ := nr_sz H.tpos H.lpos H.tsz H.lsz
  obtain ⟨hx, hw1, hw0, hw2, hw3⟩ := exact_nr H.tpos H.lpos H.tsz H.lsz
  obtain ⟨hA', hB', hAs', hBs', hov⟩ := nr_sz2 hw1 hw0 hw2 hw3
  have hN : (sg = 1 ∧ dbN (sg * top) low = nrN top low ∨ sg = -1 ∧ dbN (sg * top) low = -nrN top low) ∧ dbD (sg * top) low = nrD top low := by
    rw [dbN_ne hne, dbD_ne hne]
    rcases hsg with h | h
    · subst h
      rw [Int.one_mul]
      exact ⟨.inl ⟨rfl, rfl⟩, rfl⟩
    · subst h
      rw [show (-1 : Int) * top = -top by omega]
      have := nr_neg H.tpos H.lpos
      exact ⟨.inr ⟨rfl, this.2.1⟩, this.2.2⟩
  obtain ⟨hN1, hN2⟩ := hN
  rw [hN2]
  generalize hNN : dbN (sg * top) low = N at *
  have hi : iabs N = nrN top low := by
    rcases hN1 with ⟨_, h⟩ | ⟨_, h⟩
    · rw [h]; exact iabs_pos hA
    · rw [h]; exact iabs_negp hA
  have hNs : Sz N 700 := by
    rcases hN1 with ⟨_, h⟩ | ⟨_, h⟩
    · rw [h]; exact hAs.le (by decide)
    · rw [h]; exact hAs.neg.le (by decide)
  have hN0 : N ≠ 0 := by rcases hN1 with ⟨_, h⟩ | ⟨_, h⟩ <;> omega
  have hNsg : N < 0 ↔ sg < 0 := by rcases hN1 with ⟨h1, h2⟩ | ⟨h1, h2⟩ <;> omega
  have hA0 : nrN top low ≠ 0 := by omega
  have eN : dbN (iabs N) (nrD top low) = nrN (nrN top low) (nrD top low) := by rw [hi]; exact dbN_ne hA0
  have eD : dbD (iabs N) (nrD top low) = nrD (nrN top low) (nrD top low) := by rw [hi]; exact dbD_ne hA0
  have hW : ∀ ten, mWhole N (nrD top low) g ten = rnd (nrN top low * 10 ^ (mx0 (g - ten)).toNat) (nrD top low * 10 ^ (mx0 (ten - g)).toNat) := fun ten => by unfold mWhole; rw [hi]
  intro p loose mean mg mb news' x dx k1 k2 t1 t2 tg hx' hdx'
  have hlogs : ∀ ten, IsLog (nrN (nrN top low) (nrD top low)) (nrD (nrN top low) (nrD top low)) ten → -400 ≤ ten ∧ ten ≤ 400 := by
    intro ten h
    exact log_range hA' hB' H.up H.dn h
  have H1 := mant_ok (w := w) (p := p) (loose := loose) (mean := mean) (mg := mg) (mb := mb) (news := news') (x := x) (dx := dx) (k1 := k1) (k2 := k2) (t1 := t1) (t2 := t2) (tg := tg) N (nrD top low) g hB hNs (hi ▸ hAs.le (by decide)) (hBs.le (by decide)) hx' hdx' hg0 hg6
    (fun ten h => by
      rw [eN, eD] at h
      rw [hW]
      exact H.whole ten (hlogs ten h).1 (hlogs ten h).2 h)
    (by rw [hi]; omega) (by rw [eD]; exact hB') (by rw [eN]; exact hAs'.le (by decide)) (by rw [eD]; exact hBs'.le (by decide)) (by rw [eN, eD]; exact H.up) hN0 (by rw [eN, eD]; exact H.dn)
  unfold FnC at H1 ⊢
  intro dp un gd cn cs a ccd cl outer A₀ base h₀ L m' s Q E B F X NN T hk hdp hun hret
  refine H1 dp un gd cn cs a ccd cl outer A₀ base h₀ L m' s Q E B F X NN T hk hdp hun ?_
  intro D ta tb c h' tk' W U hR hU1 hU2 F' N'
  obtain ⟨ten, h1, h2, h3, h4⟩ := hR
  rw [eN, eD] at h1
  rw [hW] at h4
  obtain ⟨e1, e2⟩ := H.rel ten W U (by omega) (by omega) h1 h4
  subst e1 e2
  have hm0 : 0 ≤ W := Int.le_trans (Int.le_of_lt (pow10_pos _)) H.mlo
  exact hret D ta tb c h' tk' (mTxt N g W) U (same_text hNsg hg0 H.mlo H.mhi) (mTxt_le hm0 hg0 hg6 H.mhi) hU1 hU2 F' N'
theorem said_of {w : World} {n pw g top low least K m : Int} (H : Nums n pw g top low least K m) (hg0 : 0 ≤ g) (hg6 : g ≤ 6) : SaidS w top low g least (sTxt m g K) := by
  intro p loose mean mg mb news tn td tg tl
  have h1 := places_spec H.tpos H.lpos (H.tsz.le (by decide)) H.lsz
  have h2 := shF_le H.tpos H.lpos (H.tsz.le (by decide)) (H.lsz.le (by decide)) H.lsz
  have h3 := shF_ge H.tpos H.lpos (H.tsz.le (by decide)) (H.lsz.le (by decide)) H.tsz
  have hw := whl_spec H.tpos H.lpos (H.tsz.le (by decide)) (H.lsz.le (by decide))
  have hw0 : 0 < whl top low := Int.lt_of_lt_of_le (by decide) hw.2.1
  have ha : Sz (lnN top low) 2000 := by
    unfold lnN
    rw [head_whl H.tpos H.lpos (H.tsz.le (by decide)) H.lsz]
    exact Sz.le ((le_two53 hw.2.2 (Int.le_of_lt hw0)).mul (Sz.pow2 (by omega))) (by decide)
  have := said_ok (w := w) (p := p) (loose := loose) (mean := mean) (mg := mg) (mb := mb) (news := news) top low g least K tn td tg tl H.lpos (Int.ne_of_gt H.lpos) (Int.ne_of_gt H.tpos) (H.tsz.le (by decide)) (H.lsz.le (by decide)) (by omega) (by omega) hg0 hg6
    ha ⟨by unfold lnD; decide⟩ (by unfold lnD; decide) H.llo H.lK H.Khi (by rw [H.val]; exact Int.le_trans (Int.le_of_lt (pow10_pos _)) H.mlo) (by rw [H.val]; exact H.mhi) H.min
  rw [H.val] at this
  exact this
theorem sTxt_le {m g K : Int} (hg0 : 0 ≤ g) (hg6 : g ≤ 6) (h1 : 10 ^ g.toNat ≤ m) (h2 : m < 10 ^ (g + 1).toNat) (hk1 : -400 ≤ K) (hk2 : K ≤ 400) : (sTxt m g K).length ≤ 60 := by
  have hm0 : 0 ≤ m := Int.le_trans (Int.le_of_lt (pow10_pos _)) h1
  have e := same_text (N := 1) (g := g) (m := m) (K := K) (sg := 1) (by omega) hg0 h1 h2
  have h3 := mTxt_le (n := 1) hm0 hg0 hg6 h2
  have h4 := trT_len (U := K) (by omega) (by omega)
  have e1 : (Str.ofString " x 10").length = 5 := rfl
  have e2 := congrArg Str.length e
  simp only [PySem.Str.length_append] at e2
  omega
theorem pack_of {w : World} {n pw sg g top low : Int} (hn : 0 ≤ n ∧ n ≤ 1000000000000000000) (hpw : -40 ≤ pw ∧ pw ≤ 40) (hsg : sg = 1 ∨ (sg = -1 ∧ 0 < n)) (hg0 : 0 ≤ g) (hg6 : g ≤ 6)
    (hlow : low = 10 ^ (mx0 (-pw)).toNat) (htop : top = n * 10 ^ (mx0 pw).toNat) : ∃ S0, Pack w (sg * top) g top low (((dtx n).length : Int) - 2 + pw) S0 (sgnT sg ++ S0) ∧ S0.length ≤ 60 := by
  by_cases h0 : n = 0
  · have es : sg = 1 := by omega
    have et : top = 0 := by rw [htop, h0, Int.zero_mul]
    have lpos : 0 < low := by rw [hlow]; exact Int.pow_pos (by decide)
    have lsz : Sz low 140 := by rw [hlow]; exact pow10_sz 140 (j := 40) (by decide) (by unfold mx0; split <;> omega)
    subst es et
    refine ⟨s0Txt g, ⟨?_, ?_, ?_, ⟨by decide⟩, lsz.le (by decide), lpos, ?_⟩, ?_⟩
    · intro p loose mean mg mb news tn td tg tl
      exact said0_ok low g _ tn td tg tl hg0 hg6
    · intro p loose mean mg mb news' x dx k1 k2 t1 t2 tg hx' hdx'
      have e1 : dbN (1 * 0) low = 0 := rfl
      have e2 : dbD (1 * 0) low = low := rfl
      rw [e1, e2] at hdx'
      have H1 := mant0_ok (w := w) (p := p) (loose := loose) (mean := mean) (mg := mg) (mb := mb) (news := news') (x := x) (dx := dx) (k1 := k1) (k2 := k2) (t1 := t1) (t2 := t2) (tg := tg) low g lpos (lsz.le (by decide)) hx' hdx' hg0 hg6
      unfold FnC at H1 ⊢
      intro dp un gd cn cs a ccd cl outer A₀ base h₀ L m' s Q E B F X NN T hk hdp hun hret
      refine H1 dp un gd cn cs a ccd cl outer A₀ base h₀ L m' s Q E B F X NN T hk hdp hun ?_
      intro D ta tb c h' tk' F' N'
      exact hret D ta tb c h' tk' (mTxt 0 g 0) 0 (zero_text hg0 hg6) (mTxt_le (by decide) hg0 hg6 (pow10_pos _)) (by decide) (by decide) F' N'
    · exact Int.ne_of_gt lpos
    · rw [whl_zero lpos]
      have e : iabs 0 = 0 := rfl
      rw [e, Int.zero_mul, Int.one_mul]
      exact Int.not_le.mpr (Int.pow_pos (by decide))
    · have e := zero_text hg0 hg6
      have h3 := mTxt_le (n := 0) (W := 0) (by decide) hg0 hg6 (pow10_pos _)
      have h4 := trT_len (U := 0) (by decide) (by decide)
      have e1 : (Str.ofString " x 10").length = 5 := rfl
      have e2 := congrArg Str.length e
      simp only [PySem.Str.length_append] at e2
      omega
  · obtain ⟨K, m, H⟩ := nums_of ⟨by omega, hn.2⟩ hpw hg0 hg6 hlow htop
    have hsg' : sg = 1 ∨ sg = -1 := by omega
    have hw := whl_spec H.tpos H.lpos (H.tsz.le (by decide)) (H.lsz.le (by decide))
    refine ⟨sTxt m g K, ⟨said_of H hg0 hg6, man_of H hsg' hg0 hg6, ?_, ?_, H.lsz.le (by decide), H.lpos, ?_⟩, sTxt_le hg0 hg6 H.mlo H.mhi (by have := H.llo; have := H.lK; omega) (by have := H.Khi; omega)⟩
    · have hne : sg * top ≠ 0 := by
        rcases hsg' with h | h <;> subst h <;> have := H.tpos <;> omega
      rw [dbD_ne hne]
      exact Int.ne_of_gt (nrD_pos _ _)
    · rcases hsg' with h | h <;> subst h
      · rw [Int.one_mul]; exact H.tsz.le (by decide)
      · rw [show (-1 : Int) * top = -top by omega]; exact H.tsz.neg.le (by decide)
    · have hw0 : 0 < whl top low := Int.lt_of_lt_of_le (by decide) hw.2.1
      have hb := hov_pos hw0 (nr_sz H.tpos H.lpos H.tsz H.lsz).2.2.1
      rcases hsg' with h | h <;> subst h
      · rw [show (1 : Int) * top = top from Int.one_mul _]; exact Int.not_le.mpr hb
      · rw [show (-1 : Int) * top = -top by omega, (nr_neg H.tpos H.lpos).1, shF_neg H.tpos, iabs_negp hw0]
        rw [iabs_pos hw0] at hb
        exact Int.not_le.mpr hb
theorem sg_list {n sg : Int} (hn : 0 ≤ n) (hsg : sg = 1 ∨ (sg = -1 ∧ 0 < n)) : (dtx (sg * n)).cps.toList = preL (decide (sg < 0)) ++ dg10 n.natAbs := by
  rcases hsg with h | ⟨h, h0⟩ <;> subst h
  · rw [Int.one_mul, dtx_pos_list hn]; rfl
  · have e : (-1 : Int) * n = -n := by omega
    rw [e, dtx_neg_list (by omega), Int.natAbs_neg]; rfl
theorem sg_top {n pw sg top : Int} (hsg : sg = 1 ∨ (sg = -1 ∧ 0 < n)) (htop : top = n * 10 ^ (mx0 pw).toNat) : (if decide (sg < 0) = true then -1 else 1) * n * 10 ^ (mx0 pw).toNat = sg * top := by
  rw [htop, Int.mul_assoc]
  rcases hsg with h | ⟨h, _⟩ <;> subst h
  · rw [if_neg (by decide)]
  · rw [if_pos (by decide)]
theorem sciS_k {w : World} {n pw sg g top low least : Int} {S0 S : Str} (hn : 0 ≤ n ∧ n ≤ 1000000000000000000) (hpw : -40 ≤ pw ∧ pw ≤ 40) (hsg : sg = 1 ∨ (sg = -1 ∧ 0 < n)) (hg0 : 0 ≤ g) (hg6 : g ≤ 6)
    (hlow : low = 10 ^ (mx0 (-pw)).toNat) (htop : top = n * 10 ^ (mx0 pw).toNat) (hP : Pack w (sg * top) g top low least S0 S) (t : Tok) (k : Nat) (hk : k = 69 ∨ k = 101) (C : Str) (hC : C.cps = #[k]) (news : List (Addr × Obj)) :
    SciS w g S (.str (dtx (sg * n) ++ C ++ dtx pw) t) news := by
  have hX : (dtx (sg * n) ++ C ++ dtx pw).cps.toList = preL (decide (sg < 0)) ++ (dg10 n.natAbs ++ k :: (dtx pw).cps.toList) := by
    rw [PySem.Str.cps_append, PySem.Str.cps_append, hC, Array.toList_append, Array.toList_append, sg_list hn.1 hsg]
    simp
  have H := rf_e hk hX (by omega) hpw
  rw [show ((n.natAbs : Nat) : Int) = n by omega] at H
  exact sciS_of (fun p loose mean mg mb => dbl_str _ _ _ _ _ _ _ _ n pw (sg * top) low t H ⟨by omega, by omega⟩ ⟨by omega⟩ (sg_top hsg htop) hlow.symm hP.szN hP.pos hP.szD hP.hov) hP.man hP.ne ⟨by omega⟩
theorem sciS_e {w : World} {n pw sg g top low least : Int} {S0 S : Str} (hn : 0 ≤ n ∧ n ≤ 1000000000000000000) (hpw : -40 ≤ pw ∧ pw ≤ 40) (hsg : sg = 1 ∨ (sg = -1 ∧ 0 < n)) (hg0 : 0 ≤ g) (hg6 : g ≤ 6)
    (hlow : low = 10 ^ (mx0 (-pw)).toNat) (htop : top = n * 10 ^ (mx0 pw).toNat) (hP : Pack w (sg * top) g top low least S0 S) (t : Tok) (c : String) (hc : c = "e" ∨ c = "E") (news : List (Addr × Obj)) :
    SciS w g S (.str (dtx (sg * n) ++ Str.ofString c ++ dtx pw) t) news := by
  rcases hc with h | h <;> subst h
  · exact sciS_k hn hpw hsg hg0 hg6 hlow htop hP t 101 (.inr rfl) _ rfl news
  · exact sciS_k hn hpw hsg hg0 hg6 hlow htop hP t 69 (.inl rfl) _ rfl news
theorem sciS_int {w : World} {pw sg g top low least : Int} {S0 S : Str} (hpw : 0 ≤ pw) (hg0 : 0 ≤ g) (hg6 : g ≤ 6) (hlow : low = 10 ^ (mx0 (-pw)).toNat) (hP : Pack w (sg * top) g top low least S0 S) (t : Tok) (news : List (Addr × Obj)) :
    SciS w g S (.int (sg * top) t) news := by
  have e : low = 1 := by
    rw [hlow]
    have : (mx0 (-pw)).toNat = 0 := by unfold mx0; split <;> omega
    rw [this]; rfl
  subst e
  exact sciS_of (fun p loose mean mg mb => dbl_int (sg * top) t hP.szN hP.hov) hP.man hP.ne ⟨by omega⟩
theorem sciS_ref {w : World} {sg g top low least : Int} {S0 S : Str} (hg0 : 0 ≤ g) (hg6 : g ≤ 6) (hP : Pack w (sg * top) g top low least S0 S) {x dx : Addr} {k1 k2 t1 t2 : Tok} {news : List (Addr × Obj)} (hx : (x, instObj 109 dx) ∈ news)
    (hdx : (dx, dblDict w k1 k2 (dbN (sg * top) low) (dbD (sg * top) low) t1 t2) ∈ news) : SciS w g S (.ref x) news :=
  sciS_of (fun p loose mean mg mb => dbl_ref (dbN (sg * top) low) (dbD (sg * top) low) hx hdx) hP.man hP.ne ⟨by omega⟩
theorem dtx_len25 {a : Int} (h : Sz a 64) : (dtx a).length ≤ 25 ∧ 1 ≤ (dtx a).length := by
  have h1 := h.out
  have h2 : (2 : Nat) ^ 64 ≤ 10 ^ 20 := by decide
  rcases Int.lt_or_le a 0 with q | q
  · have e : a = -((a.natAbs : Nat) : Int) := by omega
    rw [e, str_len_list, dtx_neg (by omega), List.length_cons]
    have := dg10_le (k := 20) (m := a.natAbs) (by decide) (by omega)
    omega
  · have e : a = ((a.natAbs : Nat) : Int) := by omega
    rw [e, dtx_len]
    have := dg10_le (k := 20) (m := a.natAbs) (by decide) (by omega)
    have := dg10_pos a.natAbs
    omega
theorem str_dtx {prog : Program} {w : World} {A : Around} {E : Value → Shared → Prop} {s : Shared} {a : Int} {t : Tok} {Q : Value → Shared → Prop} (ha : Sz a 64)
    (h : ∀ d tk k, d = dtx a → d.length ≤ 25 → 1 ≤ d.length → Q (.str d tk) { s with toks := k }) : wpAny (model prog w) A (call (.type "str") [.int a t]) Q E s :=
  P.str_of_int (Sz.shown ha (by decide)) (h _ _ _ rfl (dtx_len25 ha).1 (dtx_len25 ha).2)
theorem lenOf_e : (Str.ofString "e").length = 1 := rfl
theorem lenOf_E : (Str.ofString "E").length = 1 := rfl
theorem lenOf_m : (Str.ofString "-").length = 1 := rfl
theorem lenOf_0 : (Str.ofString "").length = 0 := rfl
theorem sciS_e' {w : World} {n pw sg g top low least : Int} {S0 S : Str} (hn : 0 ≤ n ∧ n ≤ 1000000000000000000) (hpw : -40 ≤ pw ∧ pw ≤ 40) (hsg : sg = 1 ∨ (sg = -1 ∧ 0 < n)) (hg0 : 0 ≤ g) (hg6 : g ≤ 6)
    (hlow : low = 10 ^ (mx0 (-pw)).toNat) (htop : top = n * 10 ^ (mx0 pw).toNat) (hP : Pack w (sg * top) g top low least S0 S) (d1 d2 : Str) (h1 : d1 = dtx (sg * n)) (h2 : d2 = dtx pw) (t : Tok) (c : String) (hc : c = "e" ∨ c = "E") (news : List (Addr × Obj)) :
    SciS w g S (.str (d1 ++ Str.ofString c ++ d2) t) news := by
  subst h1 h2
  exact sciS_e hn hpw hsg hg0 hg6 hlow htop hP t c hc news
theorem sgn_m {sg : Int} {S0 : Str} {t : Tok} (h : sg < 0) : Value.str (Str.ofString "-" ++ S0) t = Value.str (sgnT sg ++ S0) t := by unfold sgnT; rw [if_pos h]
theorem sgn_p {sg : Int} {S0 : Str} {t : Tok} (h : ¬ sg < 0) : Value.str (Str.ofString "" ++ S0) t = Value.str (sgnT sg ++ S0) t := by unfold sgnT; rw [if_neg h]
theorem last_pack {w : World} {r : Int} (hr : 1000 ≤ r ∧ r ≤ 1999) : ∃ S0 : Str, SaidS w r 1 3 2 S0 ∧ (∀ t news, SciS w 3 S0 (.str (Str.ofString (toString r)) t) news) := by
  obtain ⟨S0, hP, _⟩ := pack_of (w := w) (n := r) (pw := 0) (sg := 1) (g := 3) (top := r) (low := 1) ⟨by omega, by omega⟩ (by decide) (.inl rfl) (by decide) (by decide) rfl (by show r = r * 1; rw [Int.mul_one])
  have hl : ((dtx r).length : Int) = 3 + 1 := dtx_full (by decide) (by show (1000 : Int) ≤ r; omega) (by show r < (10000 : Int); omega)
  rw [hl] at hP
  have e0 : sgnT 1 ++ S0 = S0 := str_ext (by
    rw [PySem.Str.cps_append]
    have : (sgnT 1).cps = #[] := rfl
    rw [this]; simp)
  rw [e0] at hP
  have hs := hP.said
  refine ⟨S0, hs, fun t news => ?_⟩
  have hX : (Str.ofString (toString r)).cps.toList = dg10 r.natAbs := dtx_pos_list (by omega)
  have H := rf_i hX (by omega)
  rw [show ((r.natAbs : Nat) : Int) = r by omega] at H
  exact sciS_of (fun p loose mean mg mb => dbl_str _ _ _ _ _ _ _ _ r 0 (1 * r) 1 t H (by decide) ⟨by omega⟩ (by rw [if_neg (by decide)]; show 1 * r * 1 = 1 * r; rw [Int.mul_one]) rfl hP.szN hP.pos hP.szD hP.hov) hP.man hP.ne ⟨by omega⟩
end
section
local macro_rules | `(tactic| walk_at "dummy 576") => `(tactic| skip)
local macro_rules | `(tactic| walk_at "dummy 577") => `(tactic| skip)
local macro_rules | `(tactic| walk_at "dummy 578") => `(tactic| skip)
local macro_rules | `(tactic| walk_at "dummy 579") => `(tactic| skip)
local macro_rules | `(tactic| walk_at "dummy 580") => `(tactic| skip)
local macro_rules | `(tactic| walk_at "dummy 581") => `(tactic| skip)
local macro_rules | `(tactic| walk_at "dummy 582") => `(tactic| skip)
local macro_rules | `(tactic| walk_at "dummy 583") => `(tactic| skip)
local macro_rules | `(tactic| walk_at "dummy 584") => `(tactic| skip)
local macro_rules | `(tactic| walk_at "dummy 585") => `(tactic| skip)
local macro_rules | `(tactic| walk_at "dummy 586") => `(tactic| skip)
local macro_rules | `(tactic| walk_at "dummy 587") => `(tactic| skip)
local macro_rules | `(tactic| walk_at "dummy 588") => `(tactic| skip)
local macro_rules | `(tactic| walk_at "dummy 589") => `(tactic| skip)
local macro_rules | `(tactic| walk_at "dummy 590") => `(tactic| skip)
local macro_rules | `(tactic| walk_at "dummy 591") => `(tactic| skip)
local macro_rules | `(tactic| walk_at "dummy 592") => `(tactic| skip)
local macro_rules | `(tactic| walk_at "dummy 593") => `(tactic| skip)
local macro_rules | `(tactic| walk_at "dummy 594") => `(tactic| skip)
local macro_rules | `(tactic| walk_at "dummy 595") => `(tactic| skip)
local macro_rules | `(tactic| walk_at "dummy 596") => `(tactic| skip)
local macro_rules | `(tactic| walk_at "dummy 597") => `(tactic| skip)
local macro_rules | `(tactic| walk_at "dummy 598") => `(tactic| skip)
local macro_rules | `(tactic| walk_at "dummy 599") => `(tactic| skip)
local macro_rules | `(tactic| walk_at "dummy 600") => `(tactic| skip)
local macro_rules | `(tactic| walk_at "dummy 601") => `(tactic| skip)
local macro_rules | `(tactic| walk_at "dummy 602") => `(tactic| skip)
local macro_rules | `(tactic| walk_at "dummy 603") => `(tactic| skip)
local macro_rules | `(tactic| walk_at "dummy 604") => `(tactic| skip)
local macro_rules | `(tactic| walk_at "dummy 605") => `(tactic| skip)
local macro_rules | `(tactic| walk_at "dummy 606") => `(tactic| skip)
local macro_rules | `(tactic| walk_at "dummy 607") => `(tactic| skip)
local macro_rules | `(tactic| walk_at "dummy 608") => `(tactic| skip)
local macro_rules | `(tactic| walk_at "dummy 609") => `(tactic| skip)
local macro_rules | `(tactic| walk_at "dummy 610") => `(tactic| skip)
local macro_rules | `(tactic| walk_at "dummy 611") => `(tactic| skip)
local macro_rules | `(tactic| walk_at "dummy 612") => `(tactic| skip)
local macro_rules | `(tactic| walk_at "dummy 613") => `(tactic| skip)
local macro_rules | `(tactic| walk_at "dummy 614") => `(tactic| skip)
local macro_rules | `(tactic| walk_at "dummy 615") => `(tactic| skip)
local macro_rules | `(tactic| walk_at "dummy 616") => `(tactic| skip)
local macro_rules | `(tactic| walk_at "dummy 617") => `(tactic| skip)
local macro_rules | `(tactic| walk_at "dummy 618") => `(tactic| skip)
local macro_rules | `(tactic| walk_at "dummy 619") => `(tactic| skip)
local macro_rules | `(tactic| walk_at "dummy 620") => `(tactic| skip)
local macro_rules | `(tactic| walk_at "dummy 621") => `(tactic| skip)
local macro_rules | `(tactic| walk_at "dummy 622") => `(tactic| skip)
local macro_rules | `(tactic| walk_at "dummy 623") => `(tactic| skip)
local macro_rules | `(tactic| walk_at "dummy 624") => `(tactic| skip)
local macro_rules | `(tactic| walk_at "dummy 625") => `(tactic| skip)
local macro_rules | `(tactic| walk_at "dummy 626") => `(tactic| skip)
local macro_rules | `(tactic| walk_at "dummy 627") => `(tactic| skip)
local macro_rules | `(tactic| walk_at "dummy 628") => `(tactic| skip)
local macro_rules | `(tactic| walk_at "dummy 629") => `(tactic| skip)
local macro_rules | `(tactic| walk_at "dummy 630") => `(tactic| skip)
local macro_rules | `(tactic| walk_at "dummy 631") => `(tactic| skip)
local macro_rules | `(tactic| walk_at "dummy 632") => `(tactic| skip)
local macro_rules | `(tactic| walk_at "dummy 633") => `(tactic| skip)
local macro_rules | `(tactic| walk_at "dummy 634") => `(tactic| skip)
local macro_rules | `(tactic| walk_at "dummy 635") => `(tactic| skip)
local macro_rules | `(tactic| walk_at "dummy 636") => `(tactic| skip)
local macro_rules | `(tactic| walk_at "dummy 637") => `(tactic| skip)
local macro_rules | `(tactic| walk_at "dummy 638") => `(tactic| skip)
local macro_rules | `(tactic| walk_at "dummy 639") => `(tactic| skip)
local macro_rules | `(tactic| walk_at "dummy 640") => `(tactic| skip)
local macro_rules | `(tactic| walk_at "dummy 641") => `(tactic| skip)
local macro_rules | `(tactic| walk_at "dummy 642") => `(tactic| skip)
local macro_rules | `(tactic| walk_at "dummy 643") => `(tactic| skip)
local macro_rules | `(tactic| walk_at "dummy 644") => `(tactic| skip)
theorem fresh_MLaw : True := by
  w_top off
  trivial
local macro_rules | `(tactic| walk_at "exec For") => `(tactic| (k_here; refine brk ?_))
local macro_rules | `(tactic| walk_at "exec For Name Tuple cons nil") => `(tactic| (k_here; refine brk ?_))
local macro_rules | `(tactic| walk_at "subscriptTail") => `(tactic| (k_here; (with_reducible show wpAny _ _ (subscriptTail _ (PySem.Expr.Slice _ _ none _) (Value.ref _) (Value.ref _)) _ _ _); refine brk ?_))
local macro_rules | `(tactic| walk_at "subscriptTail BinOp Slice ref ref") => `(tactic| (k_here; (with_reducible show wpAny _ _ (subscriptTail _ (PySem.Expr.Slice _ _ none _) (Value.ref _) (Value.ref _)) _ _ _); refine brk ?_))
local macro_rules | `(tactic| walk_at "pyIter ref") => `(tactic| (k_here; (with_reducible show wpAny _ _ (pyIter (Value.ref _)) (fun it s₂ => TurnsAt _ _ _ _ _ _ _ _ _ it s₂) _ _); refine brk ?_))
local macro_rules | `(tactic| walk_at "my store") => `(tactic| (k_dflt (refine storeX_L (by k_asm) (by k_asm) ?_ (by rfl) (by rfl)); intro h' F' N'; (try k_sweep); (try dsimp only)))
local macro_rules | `(tactic| walk_at "storeName") => `(tactic| (k_here; (first | (with_reducible show wpAny _ _ (storeName _ (Str.ofString "n") _) _ _ _) | (with_reducible show wpAny _ _ (storeName _ (Str.ofString "kind") _) _ _ _)  | (with_reducible show wpAny _ _ (storeName _ (Str.ofString "power") _) _ _ _)  | (with_reducible show wpAny _ _ (storeName _ (Str.ofString "sign") _) _ _ _) | (with_reducible show wpAny _ _ (storeName _ (Str.ofString "way") _) _ _ _) | (with_reducible show wpAny _ _ (storeName _ (Str.ofString "top") _) _ _ _) | (with_reducible show wpAny _ _ (storeName _ (Str.ofString "low") _) _ _ _)); refine brk ?_))
local macro_rules | `(tactic| walk_at "exec Assign") => `(tactic| (k_here; (first | (with_reducible show wpAny _ _ (exec (Stmt.Assign [Expr.Name (Str.ofString "power") _] _ _) _) _ _ _) | (with_reducible show wpAny _ _ (exec (Stmt.Assign [Expr.Name (Str.ofString "sign") _] _ _) _) _ _ _) | (with_reducible show wpAny _ _ (exec (Stmt.Assign [Expr.Name (Str.ofString "said") _] _ _) _) _ _ _)); (fail_if_success (with_reducible show wpAny _ _ _ (NextEnd _ _ _ _ _ _ _) _ _)); refine brk ?_))
local macro_rules | `(tactic| walk_at "exec If") => `(tactic| (k_here; (fail_if_success (with_reducible show wpAny _ _ (exec (Stmt.If (Expr.BoolOp _ _ _) _ _ _) _) _ _ _)); (fail_if_success (with_reducible show wpAny _ _ _ (NextEnd _ _ _ _ _ _ _) _ _)); refine brk ?_))
theorem sg_size {n sg : Int} (hn : 0 ≤ n ∧ n ≤ 1000000000000000000) (hsg : sg = 1 ∨ (sg = -1 ∧ 0 < n)) : Sz (sg * n) 64 := by
  rcases hsg with h | ⟨h, _⟩ <;> subst h <;> exact ⟨by omega⟩
theorem fmod_ge (a : Int) {b : Int} (hb : 0 < b) : 0 ≤ a.fmod b := by
  rw [Int.fmod_eq_emod_of_nonneg _ (Int.le_of_lt hb)]; exact Int.emod_nonneg _ (Int.ne_of_gt hb)
theorem fmod_lt (a : Int) {b : Int} (hb : 0 < b) : a.fmod b < b := by
  rw [Int.fmod_eq_emod_of_nonneg _ (Int.le_of_lt hb)]; exact Int.emod_lt_of_pos _ hb
theorem n_nines {n v : Int} (h : v = 10 ^ (n.fmod 18 + 1).toNat - (n.fdiv 18).fmod 3) : 0 ≤ v ∧ v ≤ 1000000000000000000 := by
  have h1 := fmod_ge n (show (0 : Int) < 18 by decide)
  have h2 := fmod_lt n (show (0 : Int) < 18 by decide)
  have h3 := fmod_ge (n.fdiv 18) (show (0 : Int) < 3 by decide)
  have h4 := fmod_lt (n.fdiv 18) (show (0 : Int) < 3 by decide)
  have h5 := pow10_le (a := (n.fmod 18 + 1).toNat) (b := 18) (by omega)
  have h6 := pow10_le (a := 1) (b := (n.fmod 18 + 1).toNat) (by omega)
  have e : (10 : Int) ^ 18 = 1000000000000000000 := by decide
  have e1 : (10 : Int) ^ 1 = 10 := by decide
  omega
theorem News.sub {h₀ h : Heap} {L : Addr} {a b : List (Addr × Obj)} (N : News h₀ L h a) (hs : ∀ p ∈ b, p ∈ a) : News h₀ L h b := fun p hp => N p (hs p hp)
theorem n_half {n v g : Int} (hg0 : 0 ≤ g) (hg6 : g ≤ 6) (h : v = (n.fmod 9 + 1) * 10 ^ (g + 1).toNat + (n.fdiv 9).fmod (10 ^ g.toNat) * 10 + 5) : 0 ≤ v ∧ v ≤ 1000000000000000000 := by
  have h1 := fmod_ge n (show (0 : Int) < 9 by decide)
  have h2 := fmod_lt n (show (0 : Int) < 9 by decide)
  have h3 := fmod_ge (n.fdiv 9) (pow10_pos g.toNat)
  have h4 := fmod_lt (n.fdiv 9) (pow10_pos g.toNat)
  have h5 := pow10_le (a := (g + 1).toNat) (b := 7) (by omega)
  have h6 := pow10_le (a := g.toNat) (b := 6) (by omega)
  have h7 := pow10_pos (g + 1).toNat
  have e : (10 : Int) ^ 7 = 10000000 := by decide
  have e1 : (10 : Int) ^ 6 = 1000000 := by decide
  have h8 : 0 ≤ (n.fmod 9 + 1) * 10 ^ (g + 1).toNat := Int.mul_nonneg (by omega) (by omega)
  have h9 : (n.fmod 9 + 1) * 10 ^ (g + 1).toNat ≤ 9 * 10 ^ (g + 1).toNat := Int.mul_le_mul_of_nonneg_right (by omega) (by omega)
  omega
theorem pw_a {b v : Int} (h : v = b.fmod 81 - 40) : -40 ≤ v ∧ v ≤ 40 := by
  have h1 := fmod_ge b (show (0 : Int) < 81 by decide)
  have h2 := fmod_lt b (show (0 : Int) < 81 by decide)
  omega
theorem pw_b {b v : Int} (h : v = b.fmod 5) : -40 ≤ v ∧ v ≤ 40 := by
  have h1 := fmod_ge b (show (0 : Int) < 5 by decide)
  have h2 := fmod_lt b (show (0 : Int) < 5 by decide)
  omega
local macro_rules | `(tactic| walk_at "call type:str") => `(tactic| (k_here; (refine str_dtx (by assumption) ?_); intro d9 t9 k9 hd9 hl9 hm9; (try dsimp only)))
local macro_rules | `(tactic| walk_at "binaryOp Add str str") => `(tactic| (k_here; (with_reducible show wpAny _ _ (binaryOp Operator.Add (Value.str _ _) (Value.str _ _)) _ _ _); (refine KOpn.add (by have := lenOf_e; have := lenOf_E; have := lenOf_m; have := lenOf_0; omega) ?_); intro t9 k9 hl9; (try dsimp only)))
local macro_rules | `(tactic| walk_at "call ref") => `(tactic| (k_here; (with_reducible show wpAny _ _ (call (Value.ref 183) _) _ _ _); refine brk ?_))
local macro_rules | `(tactic| walk_at "call ref") => `(tactic| (k_here; (with_reducible show wpAny _ _ (call (Value.ref 109) _) _ _ _); refine brk ?_))
local macro_rules | `(tactic| walk_at "call ref") => `(tactic| (k_here; (with_reducible show wpAny _ _ (call (Value.ref 209) _) _ _ _); refine brk ?_))
local macro_rules | `(tactic| walk_at "my room") => `(tactic| ((simp only [depth_deeper, depth_caller]); decide))
local macro_rules | `(tactic| walk_at "my units") => `(tactic| ((simp only [units_deeper, units_caller]); decide))
theorem n_range {a n : Int} (h : n = a.fmod (10 ^ Int.toNat 18)) : 0 ≤ n ∧ n ≤ 1000000000000000000 := by
  have e : (10 : Int) ^ Int.toNat 18 = 1000000000000000000 := by decide
  rw [e] at h
  have h1 := fmod_ge a (show (0 : Int) < 1000000000000000000 by decide)
  have h2 := fmod_lt a (show (0 : Int) < 1000000000000000000 by decide)
  omega
theorem gen_intT {M : Model} {A : Around} {E : Value → Shared → Prop} {s : Shared} {env : Env} {x : Str} {e : Int} {t : Tok} {Q : Unit → Shared → Prop} (h : ∀ v t, v = e → wpAny M A (storeName env x (.int v t)) Q E s) : wpAny M A (storeName env x (.int e t)) Q E s := h e t rfl
theorem three_ok {t1 t4 t7 : Tok} : ∀ v ∈ [Value.int 1 t1, Value.int 4 t4, Value.int 7 t7], ∃ k t, v = .int k t ∧ 0 ≤ k ∧ k ≤ 7 := by
  intro v hv
  simp only [List.mem_cons, List.not_mem_nil, or_false] at hv
  rcases hv with h | h | h
  · exact ⟨_, _, h, by decide, by decide⟩
  · exact ⟨_, _, h, by decide, by decide⟩
  · exact ⟨_, _, h, by decide, by decide⟩
theorem ten_len (l : List Int) : (List.take (Int.toNat 10) (l ++ (List.replicate (Int.toNat 10) [(0 : Int)]).flatten)).length = 10 := by
  have e : ((List.replicate (Int.toNat 10) [(0 : Int)]).flatten).length = 10 := by decide
  rw [List.length_take, List.length_append, e]
  show min 10 _ = 10
  omega
theorem ten_ints {ws : List Value} {l : List Int} (h : IntsAre ws (List.take (Int.toNat 10) (l ++ (List.replicate (Int.toNat 10) [(0 : Int)]).flatten))) : ∃ rs, IntsAre ws rs ∧ rs.length = 10 := ⟨_, h, ten_len _⟩
theorem law_holds : PySem.Challenge.rw_ez0115_01.Holds := by
  refine Mine.hd ?_
  w_strict (k_go0; (all_goals try k_fold); walk_at "my steps"; unfold Brk; (try dsimp only);
            k_dflt (refine kba_turn (value' := PySem.Expr.Name (PySem.Str.ofString "_") ⟨0, 0, 0, 0⟩) (fun _ => rfl) ?_); k_dflt (refine' kmk_slice_ints (s := Shared.mk _ _ _ _ _) ?sF ?sN ?sl9 ?sp ?sq ?si ?sm ?sc ?_ ?ss ?st9 ?sz9; (case sF => k_asm); (case sN => k_asm); (case sl9 => kmk_list); (case sp => kmk_part); (case sq => kmk_part); (case si => l_ints); (case sm => exact kmk_upto (by l_ints) (by decide)); (case sc => exact rfl); (case ss => with_unfolding_all rfl); (case st9 => kmk_pure); (case sz9 => kmk_size)); intro D' ws' h' F' N' l1 hI' hC' hL'; (try k_lt l1); (try k_sweep);
            obtain ⟨rs, hI9, hlen⟩ := ten_ints hI'; clear hC' hL' hI';
            walk_at "my steps"; unfold Brk; (try dsimp only); ((rename Fr _ _ _ _ => lF'); (with_unfolding_all refine' For_turns lF' ?_; k_whole)); walk_at "my steps"; unfold Brk; (try dsimp only);
            k_dflt (refine' iter_turns (x := Str.ofString "row") (y := Str.ofString "digits") (D := D') (lD := W.listOf ws'.toArray 0) (vs := [Value.int 1 _, Value.int 4 _, Value.int 7 _]) ?ia (by k_asm) ?ib ?ic (by k_asm) ?id ?ie ?ig ?ih three_ok ?_ ?_; (case ia => exact rfl); (case ib => exact rfl); (case ic => exact rfl); (case id => exact List.mem_cons_self ..); (case ie => k_mem); (case ig => exact rfl); (case ih => exact rfl))
            · intro I k t oI T oT u h tk hk0 hk7 hDI hTI F N; (try k_sweep); delta mk2 at F; (try dsimp only [PyProof.Rows.envOf] at F N ⊢)
              generalize hg : (rs.getD (Int.toNat 0) 0).fmod 7 = g at F
              have hg0 : 0 ≤ g := by rw [← hg]; exact fmod_ge _ (by decide)
              have hg6 : g ≤ 6 := by have := fmod_lt (rs.getD (Int.toNat 0) 0) (show (0 : Int) < 7 by decide); omega
              walk_at "my steps"
              unfold Brk
              refine gen_intT ?_
              intro kind tkd hkd
              clear hkd
              walk_at "my store"
              walk_at "my steps"
              unfold Brk
              refine gen_intT ?_
              intro n tn9 hn
              have hnb : 0 ≤ n ∧ n ≤ 1000000000000000000 := n_range hn
              clear hn
              walk_at "my store"
              walk_at "my steps"
              unfold Brk
              k_dflt (refine merge_at (Str.ofString "n") [(D', W.listOf ws'.toArray 0), (T, oT), (I, oI)] (fun v _ => ∃ n t, v = Value.int n t ∧ 0 ≤ n ∧ n ≤ 1000000000000000000) (by k_asm) ?_ ?_)
              · walk_at "my steps"
                · unfold Brk
                  refine gen_int ?_
                  intro v hv
                  have hvb : 0 ≤ v ∧ v ≤ 1000000000000000000 := n_nines hv
                  clear hv
                  walk_at "my store"
                  walk_at "my steps"
                  k_dflt (refine NextEnd.set (by assumption) (by assumption) (fun p hp => ?_) ⟨_, _, rfl, hvb⟩)
                  exact List.mem_cons_of_mem _ hp
                · k_dflt (refine NextEnd.self (by assumption) (by assumption) rfl (fun p hp => ?_) ⟨_, _, rfl, hnb⟩)
                  exact List.mem_cons_of_mem _ hp
              · intro h1 tk1 v news1 F1 N1 hs1 hP1
                obtain ⟨n1, tn1, rfl, hn1⟩ := hP1
                have N2 := News.sub N1 hs1
                clear N1 hs1 hnb
                try k_sweep
                try dsimp only
                walk_at "my steps"
                unfold Brk
                k_dflt (refine merge_at (Str.ofString "n") [(D', W.listOf ws'.toArray 0), (T, oT), (I, oI)] (fun v _ => ∃ n t, v = Value.int n t ∧ 0 ≤ n ∧ n ≤ 1000000000000000000) (by k_asm) ?_ ?_)
                · walk_at "my steps"
                  · unfold Brk
                    refine gen_int ?_
                    intro v hv
                    have hvb : 0 ≤ v ∧ v ≤ 1000000000000000000 := n_half hg0 hg6 hv
                    clear hv
                    walk_at "my store"
                    walk_at "my steps"
                    k_dflt (refine NextEnd.set (by assumption) (by assumption) (fun p hp => ?_) ⟨_, _, rfl, hvb⟩)
                    exact hp
                  · k_dflt (refine NextEnd.self (by assumption) (by assumption) rfl (fun p hp => ?_) ⟨_, _, rfl, hn1⟩)
                    exact hp
                · intro h2 tk2 v news1 F3 N1 hs1 hP1
                  obtain ⟨n2, tn2, rfl, hn2⟩ := hP1
                  have N3 := News.sub N1 hs1
                  clear N1 hs1 hn1
                  try k_sweep
                  try dsimp only
                  walk_at "my steps"
                  unfold Brk
                  k_dflt (refine merge_at (Str.ofString "power") [(D', W.listOf ws'.toArray 0), (T, oT), (I, oI)] (fun v _ => ∃ n t, v = Value.int n t ∧ -40 ≤ n ∧ n ≤ 40) (by k_asm) ?_ ?_)
                  · walk_at "my steps"
                    all_goals unfold Brk
                    all_goals (refine gen_int ?_; intro v hv; have hvb : -40 ≤ v ∧ v ≤ 40 := by first | exact pw_a hv | exact pw_b hv)
                    all_goals (clear hv; walk_at "my store"; walk_at "my steps"; k_dflt (refine NextEnd.set (by assumption) (by assumption) (fun p hp => ?_) ⟨_, _, rfl, hvb⟩); exact hp)
                  · intro h3 tk3 v news1 F4 N1 hs1 hP1
                    obtain ⟨pw, tpw, rfl, hpw⟩ := hP1
                    have N4 := News.sub N1 hs1
                    clear N1 hs1
                    try k_sweep
                    try dsimp only
                    walk_at "my steps"
                    unfold Brk
                    refine gen_intT ?_
                    intro way tway hway
                    clear hway
                    walk_at "my store"
                    walk_at "my steps"
                    unfold Brk
                    k_dflt (refine merge_at (Str.ofString "sign") [(D', W.listOf ws'.toArray 0), (T, oT), (I, oI)] (fun v _ => ∃ n t, v = Value.int n t ∧ (n = 1 ∨ (n = -1 ∧ 0 < n2))) (by k_asm) ?_ ?_)
                    · walk_at "my steps"
                      all_goals unfold Brk
                      all_goals (refine gen_int ?_; intro v hv; have hvb : v = 1 ∨ (v = -1 ∧ 0 < n2) := by omega)
                      all_goals (clear hv; walk_at "my store"; walk_at "my steps"; k_dflt (refine NextEnd.set (by assumption) (by assumption) (fun p hp => ?_) ⟨_, _, rfl, hvb⟩); exact hp)
                    · intro h4 tk4 v news1 F5 N1 hs1 hP1
                      obtain ⟨sg, tsg, rfl, hsg⟩ := hP1
                      have N5 := News.sub N1 hs1
                      clear N1 hs1
                      try k_sweep
                      try dsimp only
                      walk_at "my steps"
                      unfold Brk
                      refine gen_intT ?_
                      intro low tlow hlow
                      walk_at "my store"
                      walk_at "my steps"
                      unfold Brk
                      refine gen_intT ?_
                      intro top ttop htop
                      walk_at "my store"
                      walk_at "my steps"
                      unfold Brk
                      rename World => w9
                      have hz1 : Sz (sg * n2) 64 := sg_size hn2 hsg
                      have hz2 : Sz pw 64 := ⟨by omega⟩
                      have hz3 : Sz n2 64 := ⟨by omega⟩
                      obtain ⟨S0, hP, hS0⟩ := pack_of (w := w9) hn2 hpw hsg hg0 hg6 hlow htop
                      k_dflt (refine merge_at (Str.ofString "handed") [(D', W.listOf ws'.toArray 0), (T, oT), (I, oI)] (fun v nw => ∀ nw2, (∀ p ∈ nw, p ∈ nw2) → SciS w9 g (sgnT sg ++ S0) v nw2) (by k_asm) ?_ ?_)
                      · walk_at "my steps"
                        · k_dflt (refine NextEnd.set (by assumption) (by assumption) (fun p hp => List.mem_cons_of_mem _ hp) (fun nw2 _ => ?_))
                          exact sciS_e' hn2 hpw hsg hg0 hg6 hlow htop hP _ _ (by assumption) (by assumption) _ "e" (.inl rfl) _
                        · k_dflt (refine NextEnd.set (by assumption) (by assumption) (fun p hp => List.mem_cons_of_mem _ hp) (fun nw2 _ => ?_))
                          exact sciS_e' hn2 hpw hsg hg0 hg6 hlow htop hP _ _ (by assumption) (by assumption) _ "E" (.inr rfl) _
                        · k_dflt (refine NextEnd.set (by assumption) (by assumption) (fun p hp => List.mem_cons_of_mem _ hp) (fun nw2 _ => ?_))
                          exact sciS_int (by omega) hg0 hg6 hlow hP _ _
                        all_goals unfold Brk
                        all_goals (k_dflt (refine' double_new _ _ _ _ hP.pos hP.szN hP.szD hP.hov _ _ _ _ _ _ _ _ _ _ _ _ _ _ _ _ _ ?k1 ?k2 ?k3 ?k4 ?k5 ?kK ?kd9 ?ku9 ?_; (case k1 => k_asm); (case k2 => k_asm); (case k3 => k_asm); (case k4 => k_asm); (case k5 => k_asm); (case kK => first | exact rfl | assumption); (case kd9 => walk_at "my room"); (case ku9 => walk_at "my units")))
                        all_goals (intro x9 dx9 q1 q2 q3 q4 h9 tk9 F9 N9; (try dsimp only); walk_at "my steps")
                        all_goals (k_dflt (refine NextEnd.set (by assumption) (by assumption) (fun p hp => List.mem_cons_of_mem _ (List.mem_cons_of_mem _ (List.mem_cons_of_mem _ hp))) (fun nw2 hs2 => ?_)); exact sciS_ref hg0 hg6 hP (hs2 _ (by k_mem)) (hs2 _ (by k_mem)))
                      · intro h5 tk5 hv5 news5 F6 N6 hs6 hP6
                        try k_sweep
                        try dsimp only
                        walk_at "my steps"
                        unfold Brk
                        k_dflt (refine merge_at (Str.ofString "said") news5 (fun v _ => ∃ t, v = Value.str (sgnT sg ++ S0) t) (by k_asm) ?_ ?_)
                        · walk_at "my steps"
                          all_goals unfold Brk
                          all_goals ((rename _ = dtx n2 => hd8); subst hd8)
                          all_goals (k_dflt (refine' hP.said _ _ _ _ _ _ _ _ _ _ _ _ _ _ _ _ _ _ _ _ _ _ _ _ _ _ _ ?k1 ?k2 ?k3 ?k4 ?k5 ?kK ?kd9 ?ku9 ?_; (case k1 => k_asm); (case k2 => k_asm); (case k3 => k_asm); (case k4 => k_asm); (case k5 => k_asm); (case kK => first | exact rfl | assumption); (case kd9 => walk_at "my room"); (case ku9 => walk_at "my units")))
                          all_goals (intro t8 h8 tk8 F8 N8; (try dsimp only); walk_at "my steps")
                          all_goals (k_dflt (refine NextEnd.set (by assumption) (by assumption) (fun p hp => hp) ⟨_, by first | exact sgn_m (by omega) | exact sgn_p (by omega)⟩))
                        · intro h6 tk6 sv6 news6 F7 N7 hs7 hP7
                          obtain ⟨tsv, rfl⟩ := hP7
                          try k_sweep
                          try dsimp only
                          walk_at "my steps"
                          unfold Brk
                          k_dflt (refine' (hP6 news6 hs7 _ _ _ _ _).1 _ _ _ _ _ _ _ _ _ _ _ _ _ _ _ _ _ _ ?k1 ?k2 ?k3 ?k4 ?k5 ?kK ?kd9 ?ku9 ?_; (case k1 => k_asm); (case k2 => k_asm); (case k3 => k_asm); (case k4 => k_asm); (case k5 => k_asm); (case kK => first | exact rfl | assumption); (case kd9 => walk_at "my room"); (case ku9 => walk_at "my units"))
                          intro t8 h8 tk8 F8 N8
                          try dsimp only
                          walk_at "my steps"
                          · exact (bne_no (by assumption)).elim
                          · unfold Brk
                            k_dflt (refine' (hP6 news6 hs7 _ _ _ _ _).2 (by assumption) _ _ _ _ _ _ _ _ _ _ _ _ _ _ _ _ _ ?k1 ?k2 ?k3 ?k4 ?k5 ?kK ?kd9 ?ku9 ?_; (case k1 => k_asm); (case k2 => k_asm); (case k3 => k_asm); (case k4 => k_asm); (case k5 => k_asm); (case kK => first | exact rfl | assumption); (case kd9 => walk_at "my room"); (case ku9 => walk_at "my units"))
                            intro t10 h10 tk10 F10 N10
                            try dsimp only
                            walk_at "my steps"
                            all_goals first | exact (bne_no (by assumption)).elim | k_dflt (refine TurnPost.done F10 rfl rfl N10 (fun p hp => hs7 p (hs6 p hp)))
                          · k_dflt (refine TurnPost.done F8 rfl rfl N8 (fun p hp => hs7 p (hs6 p hp)))
            · intro u h tk F N; (try k_sweep); delta mk2 at F; (try dsimp only [PyProof.Rows.envOf] at F N ⊢)
              have hr0 : 1000 ≤ (rs.getD (Int.toNat 0) 0).fmod 1000 + 1000 ∧ (rs.getD (Int.toNat 0) 0).fmod 1000 + 1000 ≤ 1999 := by
                have h1 := fmod_ge (rs.getD (Int.toNat 0) 0) (show (0 : Int) < 1000 by decide)
                have h2 := fmod_lt (rs.getD (Int.toNat 0) 0) (show (0 : Int) < 1000 by decide)
                omega
              walk_at "my steps"
              unfold Brk
              rename World => w9
              obtain ⟨S0, hsaid, hsci⟩ := last_pack (w := w9) hr0
              k_dflt (refine' (hsci _ _ _ _ _ _ _).1 _ _ _ _ _ _ _ _ _ _ _ _ _ _ _ _ _ _ ?k1 ?k2 ?k3 ?k4 ?k5 ?kK ?kd9 ?ku9 ?_; (case k1 => k_asm); (case k2 => k_asm); (case k3 => k_asm); (case k4 => k_asm); (case k5 => k_asm); (case kK => first | exact rfl | assumption); (case kd9 => walk_at "my room"); (case ku9 => walk_at "my units"))
              intro t10 h10 tk10 F10 N10
              try dsimp only
              walk_at "my steps"
              unfold Brk
              k_dflt (refine' hsaid _ _ _ _ _ _ _ _ _ _ _ _ _ _ _ _ _ _ _ _ _ _ _ _ _ _ _ ?k1 ?k2 ?k3 ?k4 ?k5 ?kK ?kd9 ?ku9 ?_; (case k1 => k_asm); (case k2 => k_asm); (case k3 => k_asm); (case k4 => k_asm); (case k5 => k_asm); (case kK => first | exact rfl | assumption); (case kd9 => walk_at "my room"); (case ku9 => walk_at "my units"))
              intro t11 h11 tk11 F11 N11
              try dsimp only
              walk_at "my steps"
              simp only [beq_self_eq_true]
              k_steps)
end
end
end Mine
theorem PySem.Challenge.cw_ez0115_01_holds : PySem.Challenge.rw_ez0115_01.Holds :=
  Mine.law_holds
