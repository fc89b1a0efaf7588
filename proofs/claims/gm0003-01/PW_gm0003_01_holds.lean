import PyProof.Rows.All
import Wide.All
import OpenK.AllK
import Wide.FinOn
import PySem.Challenge.RW_gm0003_01

-- part Top1
section
open PySem PySem.W PyProof.Rows
set_option Elab.async false
namespace Mine
set_option maxRecDepth 100000
set_option maxHeartbeats 8000000
open_top hd for PySem.Challenge.rw_gm0003_01
end Mine
end

-- part I1
section
open PySem PySem.W PyProof.Rows
set_option Elab.async false
namespace Mine
set_option maxRecDepth 100000

def firstDef : List Stmt → Option (Arguments × List Stmt × Scope)
  | [] => none
  | .FunctionDef _ args body _ _ _ scope _ _ _ :: _ => some (args, body, scope)
  | _ :: r => firstDef r
def partsOf (p : Program) (k : Nat) : Option (Arguments × List Stmt × Scope) := match p.main.body[k]? with
  | some (.FunctionDef _ _ body ..) => firstDef body
  | _ => none

def Put (ns : List Int) (lo hi x : Int) (ns' : List Int) : Prop :=
  ns'.length = ns.length ∧ ∀ i : Nat, ns'.getD i 0 = if lo ≤ (i : Int) ∧ (i : Int) < hi then x / 2 ^ (i - lo.toNat) % 2 else ns.getD i 0

theorem cast_pow2 (k : Nat) : ((2 ^ k : Nat) : Int) = 2 ^ k := by simp
theorem low_digit {x : Int} {s j : Nat} (hx0 : 0 ≤ x) (hx1 : x < 64) (hs : s ≤ 6) (hj : j < s) : x % 2 ^ s / 2 ^ j % 2 = x / 2 ^ j % 2 := by
  have h : ∀ (a : Fin 64) (b : Fin 7) (c : Fin 7), c.val < b.val → a.val % 2 ^ b.val / 2 ^ c.val % 2 = a.val / 2 ^ c.val % 2 := by decide +kernel
  have q := h ⟨x.toNat, by omega⟩ ⟨s, by omega⟩ ⟨j, by omega⟩ hj
  have e : x = ((x.toNat : Nat) : Int) := by omega
  rw [e]
  simp only at q
  exact_mod_cast q
theorem high_digit {x : Int} {s j : Nat} : x / 2 ^ s / 2 ^ j % 2 = x / 2 ^ (s + j) % 2 := by
  rw [Int.pow_add, Int.ediv_ediv_of_nonneg (Int.le_of_lt (Int.pow_pos (by decide)))]

theorem put_one {ns : List Int} {lo hi x : Int} (h0 : 0 ≤ lo) (h1 : lo + 1 = hi) (hl : hi ≤ ns.length) (hx0 : 0 ≤ x) (hx : x < 2 ^ (hi - lo).toNat) : Put ns lo hi x (ns.set lo.toNat x) := by
  refine ⟨List.length_set .., fun i => ?_⟩
  have e : (hi - lo).toNat = 1 := by omega
  rw [e] at hx
  have hx2 : x < 2 := by simpa using hx
  by_cases h : lo ≤ (i : Int) ∧ (i : Int) < hi
  · have ei : i = lo.toNat := by omega
    subst ei
    rw [if_pos h, Nat.sub_self, List.getD_eq_getElem?_getD, List.getElem?_set_self (by omega)]
    simp
    omega
  · rw [if_neg h, List.getD_eq_getElem?_getD, List.getElem?_set_ne (by omega), ← List.getD_eq_getElem?_getD]

theorem put_step {ns ns1 ns2 : List Int} {lo mid hi x up low : Int} (h0 : 0 ≤ lo) (h1 : lo < mid) (h2 : mid < hi) (h6 : hi ≤ 6) (hx0 : 0 ≤ x) (hx1 : x < 64)
    (hup : up = x / 2 ^ (mid - lo).toNat) (hlow : low = x % 2 ^ (mid - lo).toNat) (P1 : Put ns lo mid low ns1) (P2 : Put ns1 mid hi up ns2) : Put ns lo hi x ns2 := by
  refine ⟨P2.1.trans P1.1, fun i => ?_⟩
  rw [P2.2 i, P1.2 i]
  by_cases a : mid ≤ (i : Int) ∧ (i : Int) < hi
  · rw [if_pos a, if_pos ⟨by omega, a.2⟩, hup, high_digit]
    congr 3
    omega
  · rw [if_neg a]
    by_cases b : lo ≤ (i : Int) ∧ (i : Int) < mid
    · rw [if_pos b, if_pos ⟨b.1, by omega⟩, hlow]
      exact low_digit hx0 hx1 (by omega) (by omega)
    · rw [if_neg b, if_neg (by omega)]
theorem up_lt {x lo mid hi : Int} (hx0 : 0 ≤ x) (h1 : lo < mid) (h2 : mid < hi) (hx : x < 2 ^ (hi - lo).toNat) : x / 2 ^ (mid - lo).toNat < 2 ^ (hi - mid).toNat := by
  apply Int.ediv_lt_of_lt_mul (Int.pow_pos (by decide))
  rw [← Int.pow_add]
  have e : (hi - mid).toNat + (mid - lo).toNat = (hi - lo).toNat := by omega
  rw [e]; exact hx
theorem low_lt {x : Int} (s : Nat) : x % 2 ^ s < 2 ^ s := Int.emod_lt_of_pos _ (Int.pow_pos (by decide))
theorem pow_le64 {k : Nat} (h : k ≤ 6) : (2 : Int) ^ k ≤ 64 := by
  have h' : ∀ a : Fin 7, (2 : Int) ^ a.val ≤ 64 := by decide
  exact h' ⟨k, by omega⟩
theorem xor_low {x : Int} {s : Nat} (hx0 : 0 ≤ x) (hx1 : x < 64) (hs : s ≤ 6) : Builtin.bitXor x (x / 2 ^ s * 2 ^ s) = x % 2 ^ s := by
  have h : ∀ (a : Fin 64) (b : Fin 7), Builtin.bitXor (a.val : Int) ((a.val : Int) / 2 ^ b.val * 2 ^ b.val) = (a.val : Int) % 2 ^ b.val := by decide +kernel
  have q := h ⟨x.toNat, by omega⟩ ⟨s, by omega⟩
  have e : x = ((x.toNat : Nat) : Int) := by omega
  rw [e]; exact q

section
variable {prog : Program} {w : World} {A : Around} {E : Value → Shared → Prop} {s : Shared} {a n b : Int} {t u : Tok} {Q : Value → Shared → Prop}
theorem rs_one (h : ∀ mid : Int, 2 * mid ≤ a → a < 2 * mid + 2 → Q (.int mid s.toks) { s with toks := s.toks + 1 }) : wpAny (model prog w) A (binaryOp .RShift (.int a t) (.int 1 u)) Q E s := by
  refine rshift_int (by decide) ?_
  have e : a.fdiv (2 ^ (1 : Int).toNat) = a / 2 := by
    show a.fdiv (2 ^ 1) = a / 2
    rw [Int.fdiv_eq_ediv_of_nonneg _ (by decide)]; rfl
  rw [e]
  exact h _ (by omega) (by omega)
theorem rs_some (hn : 0 ≤ n) (ha0 : 0 ≤ a) (ha1 : a < 64) (h : ∀ up : Int, 0 ≤ up → up < 64 → up = a / 2 ^ n.toNat → Q (.int up s.toks) { s with toks := s.toks + 1 }) : wpAny (model prog w) A (binaryOp .RShift (.int a t) (.int n u)) Q E s := by
  refine rshift_int hn ?_
  rw [Int.fdiv_eq_ediv_of_nonneg _ (Int.le_of_lt (Int.pow_pos (by decide)))]
  exact h _ (Int.ediv_nonneg ha0 (Int.le_of_lt (Int.pow_pos (by decide)))) (Int.lt_of_le_of_lt (Int.ediv_le_self _ ha0) ha1) rfl
theorem ls_some (hn : 0 ≤ n) (hn2 : n ≤ 1000) (ha0 : 0 ≤ a) (ha1 : a < 64) (h : ∀ v : Int, v = a * 2 ^ n.toNat → Q (.int v s.toks) { s with toks := s.toks + 1 }) : wpAny (model prog w) A (binaryOp .LShift (.int a t) (.int n u)) Q E s :=
  lshift_int_small hn (by omega) (by omega) (h _ rfl)
theorem xor_some {up : Int} (hn : 0 ≤ n) (hn2 : n ≤ 6) (ha0 : 0 ≤ a) (ha1 : a < 64) (hup : up = a / 2 ^ n.toNat) (hb : b = up * 2 ^ n.toNat) (h : ∀ low : Int, 0 ≤ low → low < 64 → low = a % 2 ^ n.toNat → Q (.int low s.toks) { s with toks := s.toks + 1 }) :
    wpAny (model prog w) A (binaryOp .BitXor (.int a t) (.int b u)) Q E s := by
  refine xor_int ?_
  rw [hb, hup, xor_low ha0 ha1 (by omega)]
  exact h _ (Int.emod_nonneg _ (Int.ne_of_gt (Int.pow_pos (by decide)))) (Int.lt_of_lt_of_le (low_lt _) (pow_le64 (by omega))) rfl
end

abbrev innerClos (c1 c2 c3 : Addr) : List (Str × Addr) := [(Str.ofString "n", c1), (Str.ofString "inner", c3), (Str.ofString "a_digits", c2)]

def InnerAt (w : World) (p : Program) (loose : List Str) (mean : ExcName → Option Value) (mg mb : Str → Option Value) (params : Arguments) (body : List Stmt) (scope : Scope) (k : Nat) : Prop :=
  ∀ (x lo hi : Int) (tx tl tr tn : Tok) (vs : List Value) (ns : List Int) (n : Nat) (l f c1 c2 c3 c' : Addr) (oc o1 o2 o3 : Obj) (vq : Array Value) (qual : Str) (tq : Tok) (doc pm ctv : Value) (news : List (Addr × Obj))
  (dp un : Nat) (gd : Option (List Code)) (cn : Str) (cs : Scope) (a : Addr) (ccd : Value) (cl : List (Str × Addr)) (outer : List Env) (A₀ : Around) (base h₀ : Heap) (L : Addr) (m : Str → Option Value) (s : Shared) (Q E : Value → Shared → Prop),
  0 ≤ x → x < 64 → x < 2 ^ (hi - lo).toNat → 0 ≤ lo → lo < hi → hi ≤ 6 → hi - lo ≤ k → hi ≤ ns.length → IntsAre vs ns → OwnOff news [l] →
  (f, fnMade (Str.ofString "inner") qual params body scope (innerClos c1 c2 c3) doc pm c' ctv) ∈ news → (c', oc) ∈ news → oc.data = .fields vq → vq[1]? = some (.str qual tq) →
  (c1, o1) ∈ news → o1.data = .cell (some (.int 1 tn)) → (c2, o2) ∈ news → o2.data = .cell (some (.ref l)) → (c3, o3) ∈ news → o3.data = .cell (some (.ref f)) →
  Below A₀ base outer h₀ → Fr h₀ L s.heap m → (hd.heap_39 w.params).In h₀ → News h₀ L s.heap ((l, listOf vs.toArray n) :: news) → Top p loose mean mg mb h₀ → cs.kind = .function → CodeHd base 20 16 →
  dp + k < recursionLimit → un + 8 * k < cLine →
  (∀ vs' ns' h' tk', IntsAre vs' ns' → Put ns lo hi x ns' → Fr h₀ L h' m → News h₀ L h' ((l, listOf vs'.toArray n) :: news) → Q .none { s with heap := h', toks := tk' }) →
  wpAny (model PySem.Challenge.rw_gm0003_01.row.prog w) (ktrTop dp un gd cn cs L a ccd cl outer) (call (.ref f) [.int x tx, .int lo tl, .int hi tr]) Q E s

theorem InnerAt.use {w : World} {p : Program} {loose : List Str} {mean : ExcName → Option Value} {mg mb : Str → Option Value} {params : Arguments} {body : List Stmt} {scope : Scope} {k : Nat} (ih : InnerAt w p loose mean mg mb params body scope k)
  {x lo hi : Int} {tx tl tr tn : Tok} {vs : List Value} {ns : List Int} {n : Nat} {l f c1 c2 c3 c' : Addr} {oc o1 o2 o3 : Obj} {vq : Array Value} {qual : Str} {tq : Tok} {doc pm ctv : Value} {news : List (Addr × Obj)}
  {dp un : Nat} {gd : Option (List Code)} {cn : Str} {cs : Scope} {a : Addr} {ccd : Value} {cl : List (Str × Addr)} {outer : List Env} {A₀ : Around} {base h₀ : Heap} {L : Addr} {m : Str → Option Value} {s : Shared} {Q E : Value → Shared → Prop}
  (F : Fr h₀ L s.heap m) (N : News h₀ L s.heap ((l, listOf vs.toArray n) :: news)) (B : Below A₀ base outer h₀)  (X : (hd.heap_39 w.params).In h₀) (T : Top p loose mean mg mb h₀) (hk : cs.kind = .function) (C : CodeHd base 20 16)
  (hf : (f, fnMade (Str.ofString "inner") qual params body scope (innerClos c1 c2 c3) doc pm c' ctv) ∈ news) (h1 : (c', oc) ∈ news) (h2 : oc.data = .fields vq) (h3 : vq[1]? = some (.str qual tq)) 
  (h4 : (c1, o1) ∈ news) (h5 : o1.data = .cell (some (.int 1 tn))) (h6 : (c2, o2) ∈ news) (h7 : o2.data = .cell (some (.ref l))) (h8 : (c3, o3) ∈ news) (h9 : o3.data = .cell (some (.ref f))) 
  (hvs : IntsAre vs ns) (hoff : OwnOff news [l]) (hx0 : 0 ≤ x) (hx1 : x < 64) (hxl : x < 2 ^ (hi - lo).toNat) (hlo : 0 ≤ lo) (hlh : lo < hi) (hhi : hi ≤ 6) (hkk : hi - lo ≤ k) (hlen : hi ≤ ns.length)
  (hd : dp + k < recursionLimit) (hu : un + 8 * k < cLine)
  (h : ∀ vs' ns' h' tk', IntsAre vs' ns' → Put ns lo hi x ns' → Fr h₀ L h' m → News h₀ L h' ((l, listOf vs'.toArray n) :: news) → Q .none { s with heap := h', toks := tk' }) :
  wpAny (model PySem.Challenge.rw_gm0003_01.row.prog w) (ktrTop dp un gd cn cs L a ccd cl outer) (call (.ref f) [.int x tx, .int lo tl, .int hi tr]) Q E s :=
  ih _ _ _ _ _ _ _ _ _ _ _ _ _ _ _ _ _ _ _ _ _ _ _ _ _ _ _ _ _ _ _ _ _ _ _ _ _ _ _ _ _ _ _ _ hx0 hx1 hxl hlo hlh hhi hkk hlen hvs hoff hf h1 h2 h3 h4 h5 h6 h7 h8 h9 B F X N T hk C hd hu h

local macro_rules | `(tactic| k_mem) => `(tactic| first | assumption | exact List.mem_cons_self | (refine' List.mem_cons_of_mem _ ?_; k_mem))
local macro_rules | `(tactic| walk_at "eval Name") => `(tactic| (k_here; kc_free; k_dflt (refine' nameX_F ?N ?c ?m ?d ?_ ?a ?b; (case a => rfl); (case b => rfl); (case N => k_asm); (case c => rfl); (case m => k_mem); (case d => k_asm); k_whole)))
local macro_rules | `(tactic| walk_at "MY enterN") => `(tactic| (refine' code_nest ?k1 ?k2 ?k3 ?k4 ?k5 ?kA ?kF ?kK ?k6 ?k7 ?k8 ?k9 ?kB ?_ ?c2 ?c3 ?c4 ?c5; (case kA => exact rfl); (case kF => exact rfl); (case kK => assumption); (case k1 => k_asm); (case k2 => k_asm); (case k3 => k_asm); (case k4 => k_asm); (case k5 => k_asm); (case k6 => k_mem); (case k7 => exact codeRec_news (by k_asm) (by k_mem) (by assumption) (by assumption)); (case k8 => ktr_room); (case k9 => exact BindsTo.of_eq rfl); (case c5 => decide); (case kB => exact locs rfl); (case c2 => exact rfl); (case c3 => exact rfl); (case c4 => exact rfl); k_whole; intro g' L' h' FG' F' N' B' X' T'; (try dsimp only); (try k_lift B'); (try k_fold)))
local macro_rules | `(tactic| walk_at "binaryOp RShift int int") => `(tactic| first
  | (with_reducible refine rs_one ?_; intro mid' hm1' hm2')
  | (refine' rs_some ?k1 ?k2 ?k3 ?_; (case k1 => omega); (case k2 => assumption); (case k3 => assumption); intro up' hu1' hu2' hu3'))
local macro_rules | `(tactic| walk_at "binaryOp LShift int int") => `(tactic| (refine' ls_some ?k1 ?k4 ?k2 ?k3 ?_; (case k1 => omega); (case k4 => omega); (case k2 => assumption); (case k3 => assumption); intro v' hv'))
local macro_rules | `(tactic| walk_at "binaryOp BitXor int int") => `(tactic| (refine' xor_some ?k1 ?k4 ?k2 ?k3 ?k5 ?k6 ?_; (case k6 => assumption); (case k5 => assumption); (case k1 => omega); (case k4 => omega); (case k2 => assumption); (case k3 => assumption); intro low' hl1' hl2' hl3'))
local macro_rules | `(tactic| walk_at "call ref") => `(tactic| (k_here; (rename InnerAt _ _ _ _ _ _ _ _ _ _ => ih'); k_dflt (refine' InnerAt.use ih' ?F ?N ?B ?X ?T ?hk ?C ?hf ?h1 ?h2 ?h3 ?h4 ?h5 ?h6 ?h7 ?h8 ?h9 ?vs ?off ?x0 ?x1 ?xl ?lo ?lh ?hi ?kk ?len ?dd ?uu ?_; (case F => k_asm); (case N => k_asm); (case B => k_asm); (case X => k_asm); (case T => k_asm); (case hk => exact rfl); (case C => assumption); (case hf => assumption); (case h1 => assumption); (case h2 => assumption); (case h3 => assumption); (case h4 => assumption); (case h5 => assumption); (case h6 => assumption); (case h7 => assumption); (case h8 => assumption); (case h9 => assumption); (case vs => assumption); (case off => assumption); (case x0 => assumption); (case x1 => assumption); (case xl => walk_at "MY size"); (case lo => omega); (case lh => omega); (case hi => omega); (case kk => omega); (case len => walk_at "MY len"); (case dd => ktr_room); (case uu => ktr_units); k_whole); intro vs' ns' h' tk' I' P' F' N'))
local macro_rules | `(tactic| walk_at "MY len") => `(tactic| first | omega | ((rename Put _ _ _ _ _ => pp'); have pl' := pp'.1; omega))
local macro_rules | `(tactic| walk_at "MY size") => `(tactic| first
  | (rename _ = _ % _ => q'; rw [q']; simp only [Int.mul_one]; exact low_lt _)
  | (rename _ = _ / _ => q'; rw [q']; simp only [Int.mul_one]; exact up_lt (by assumption) (by omega) (by omega) (by assumption)))

set_option maxHeartbeats 1000000 in
theorem inner_spec (w : World) (p : Program) (loose : List Str) (mean : ExcName → Option Value) (mg mb : Str → Option Value) (params : Arguments) (body : List Stmt) (scope : Scope) (hp : partsOf PySem.Challenge.rw_gm0003_01.row.prog 1 = some (params, body, scope)) (k : Nat) :
    InnerAt w p loose mean mg mb params body scope k := by
  induction k with
  | zero => 
    intro x lo hi tx tl tr tn vs ns n l f c1 c2 c3 c' oc o1 o2 o3 vq qual tq doc pm ctv news dp un gd cn cs a ccd cl outer A₀ base h₀ L m s Q E hx0 hx1 hxl hlo hlh hhi hkk
    exfalso; omega
  | succ k ih =>
    intro x lo hi tx tl tr tn vs ns n l f c1 c2 c3 c' oc o1 o2 o3 vq qual tq doc pm ctv news dp un gd cn cs a ccd cl outer A₀ base h₀ L m s Q E hx0 hx1 hxl hlo hlh hhi hkk hlen hvs hl hf hoc hoc1 hoc2 hc1 hd1 hc2 hd2 hc3 hd3 B F X N T hk C1 hdp hu hret
    revert X; k_fill; intro X
    have hMk := kstMark
    cases hp
    refine wpAny_call ?_
    k_dflt (walk_at "MY enterN")
    k_steps
    · refine hret _ _ _ _ ?_ (put_one hlo (by assumption) hlen hx0 hxl) (by k_asm) (by k_asm)
      assumption
    · (rename Put ns _ _ _ _ => P1)
      (rename Put _ _ hi _ _ => P2)
      (rename _ = _ / _ => hup)
      (rename _ = _ % _ => hlow)
      simp only [Int.mul_one] at hup hlow
      refine hret _ _ _ _ ?_ (put_step hlo (by omega) (by omega) hhi hx0 hx1 hup hlow P1 P2) (by k_asm) (by k_asm)
      assumption
end Mine
end

-- part C1
section
open PySem PySem.W PyProof.Rows
set_option Elab.async false
namespace Mine
set_option maxRecDepth 100000

theorem lt_up1 {L : Nat} {l : List (Addr × Obj)} (h : ∀ p ∈ l, p.1 < L) : ∀ p ∈ l, p.1 < L + 1 := fun p hp => Nat.lt_succ_of_lt (h p hp)
theorem ownOff_one {own : List (Addr × Obj)} {l : Addr} (h : ∀ p ∈ own, p.1 ≠ l) : OwnOff own [l] := fun p hp b hb => by
  rw [List.mem_singleton.mp hb]; exact h p hp
theorem allLt_at {d : Addr} : ∀ {l : List (Addr × Obj)}, AllLt d l → ∀ p ∈ l, p.1 < d
  | [], _, _, h => nomatch h
  | _ :: _, a, _, .head _ => a.1
  | _ :: _, a, p, .tail _ h => allLt_at a.2 p h

theorem intBits_le {x : Int} (h0 : 0 ≤ x) (h1 : x < 64) : Builtin.Int.intBits x ≤ 6 := by
  have : ∀ k : Fin 64, Builtin.Int.intBits ((k.val : Nat) : Int) ≤ 6 := by decide +kernel
  have e := this ⟨x.toNat, by omega⟩
  have e2 : ((x.toNat : Nat) : Int) = x := by omega
  simpa [e2] using e
theorem intBits_lt {x : Int} (h0 : 0 ≤ x) (h1 : x < 64) : x < 2 ^ Builtin.Int.intBits x := by
  have : ∀ k : Fin 64, ((k.val : Nat) : Int) < 2 ^ Builtin.Int.intBits ((k.val : Nat) : Int) := by decide +kernel
  have e := this ⟨x.toNat, by omega⟩
  have e2 : ((x.toNat : Nat) : Int) = x := by omega
  simpa [e2] using e
theorem intBits_pos {x : Int} (h0 : 0 ≤ x) (h1 : x < 64) (hne : x ≠ 0) : 0 < Builtin.Int.intBits x := by
  have : ∀ k : Fin 64, 0 < k.val → 0 < Builtin.Int.intBits ((k.val : Nat) : Int) := by decide +kernel
  have e := this ⟨x.toNat, by omega⟩ (by simp; omega)
  have e2 : ((x.toNat : Nat) : Int) = x := by omega
  simpa [e2] using e
theorem repl_flat (c : Value) : ∀ k : Nat, (List.replicate k [c]).flatten = List.replicate k c
  | 0 => rfl
  | k + 1 => by rw [List.replicate_succ, List.flatten_cons, repl_flat c k, List.replicate_succ]; rfl
theorem ints_repl (tk : Tok) : ∀ k : Nat, IntsAre (List.replicate k (Value.int 0 tk)) (List.replicate k 0)
  | 0 => .nil
  | k + 1 => .cons 0 tk (ints_repl tk k)
theorem mul_bits {prog : Program} {w : World} {A : Around} {E : Value → Shared → Prop} {s : Shared} {h₀ : Heap} {L : Addr} {m : Str → Option Value} {news : List (Addr × Obj)} {l : Addr} {x : Int} {u tk : Tok} {Q : Value → Shared → Prop}
    (Fm : Fr h₀ L s.heap m) (N : News h₀ L s.heap news) (hl : s.heap.IsList l [Value.int 0 tk].toArray) (hx0 : 0 ≤ x) (hx1 : x < 64)
    (h : ∀ D h', Fr h₀ L h' m → News h₀ L h' ((D, listOf (List.replicate (Builtin.Int.intBits x) (Value.int 0 tk)).toArray 0) :: news) → (∀ p ∈ news, p.1 < D) → Q (.ref D) { s with heap := h' }) :
    wpAny (model prog w) A (binaryOp .Mult (.ref l) (.int (((Builtin.Int.intBits x : Nat) + 1 - 1 : Int).fdiv 1) u)) Q E s := by
  have e : ((Builtin.Int.intBits x : Nat) + 1 - 1 : Int).fdiv 1 = ((Builtin.Int.intBits x : Nat) : Int) := by
    rw [Int.add_sub_cancel, Int.fdiv_one]
  have hb := intBits_le hx0 hx1
  rw [e]
  refine KMa.mul Fm N hl (by omega) (by omega) (by simp; omega) ?_ h
  rw [Int.toNat_natCast]
  exact repl_flat _ _

def LtAll (news : List (Addr × Obj)) (l : Addr) : Prop := ∀ p ∈ news, p.1 < l
theorem LtAll.sub {led pre : List (Addr × Obj)} {l : Addr} (h : LtAll led l) (hs : ∀ p ∈ pre, p ∈ led) : ∀ p ∈ pre, p.1 < l := fun p hp => h p (hs p hp)
/-- the digits of x by ones -/
def digs (x : Int) : List Int := (List.range (Builtin.Int.intBits x)).map fun i => x / 2 ^ i % 2
theorem digs_of_put {x : Int} {ns : List Int} (h : Put (List.replicate (Builtin.Int.intBits x) 0) 0 (Builtin.Int.intBits x : Nat) x ns) : ns = digs x := by
  obtain ⟨h1, h2⟩ := h
  rw [List.length_replicate] at h1
  apply List.ext_getElem
  · rw [h1]; simp [digs]
  · intro i a b
    have q := h2 i
    rw [if_pos ⟨by omega, by omega⟩, List.getD_eq_getElem?_getD, List.getElem?_eq_getElem a] at q
    simp only [Option.getD_some] at q
    rw [q]
    simp [digs]
theorem digs_zero : digs 0 = [] := rfl

abbrev qualA : Str := Str.ofString "_int2digits" ++ ".<locals>." ++ Str.ofString "inner"
def TabFull (P ln co : Nat) (q : Str) (T : List (Addr × Obj)) : Prop :=
  ∃ (c' : Addr) (oc : Obj) (vq : Array Value) (tq : Tok), T = [(P, tabObj #[rawInt ln, rawInt co, .ref c']), (c', oc)] ∧ oc.data = .fields vq ∧ vq[1]? = some (.str q tq)
def TabKeeps (T0 news T' : List (Addr × Obj)) : Prop := ∀ (d : Addr) (o : Obj), (d, o) ∈ news → (∀ p ∈ T0, p.1 ≠ d) → ∀ p ∈ T', p.1 ≠ d
theorem TabKeeps.use {T0 news T' : List (Addr × Obj)} {d : Addr} {o : Obj} (h : TabKeeps T0 news T') (hm : (d, o) ∈ news) (h0 : ∀ p ∈ T0, p.1 ≠ d) : ∀ p ∈ T', p.1 ≠ d := h d o hm h0
theorem tabKeeps_new {news : List (Addr × Obj)} {P c' : Addr} {o1 o2 oc : Obj} (h : ∀ p ∈ news, p.1 ≠ c') : TabKeeps [(P, o1)] news [(P, o2), (c', oc)] := fun d _ hm h0 =>
  List.forall_mem_cons.mpr ⟨h0 (P, o1) (.head _), List.forall_mem_cons.mpr ⟨fun e => h _ hm e.symm, List.forall_mem_nil _⟩⟩
theorem tabKeeps_same {news T0 : List (Addr × Obj)} : TabKeeps T0 news T0 := fun _ _ _ h0 => h0
def TabSt (P ln co : Nat) (q : Str) (T : List (Addr × Obj)) : Prop := T = [(P, tabObj #[])] ∨ TabFull P ln co q T

theorem news_sub {h₀ h : Heap} {L : Addr} {a b : List (Addr × Obj)} (N : News h₀ L h a) (hs : ∀ p ∈ b, p ∈ a) : News h₀ L h b := fun p hp => N p (hs p hp)
theorem news_rot2 {h₀ h : Heap} {L : Addr} {a b c : Addr × Obj} {r : List (Addr × Obj)} (N : News h₀ L h (a :: b :: c :: r)) : News h₀ L h (c :: a :: b :: r) := by
  refine news_sub N fun p hp => ?_
  simp only [List.mem_cons] at hp ⊢
  rcases hp with h | h | h | h <;> simp [h]
theorem news_rot1 {h₀ h : Heap} {L : Addr} {a c : Addr × Obj} {r : List (Addr × Obj)} (N : News h₀ L h (a :: c :: r)) : News h₀ L h (c :: a :: r) := by
  refine news_sub N fun p hp => ?_
  simp only [List.mem_cons] at hp ⊢
  rcases hp with h | h | h <;> simp [h]

local macro_rules | `(tactic| k_mem) => `(tactic| first | assumption | exact List.mem_cons_self | (refine' List.mem_cons_of_mem _ ?_; k_mem))
local macro_rules | `(tactic| walk_at "MY enterC") => `(tactic| (refine' code_defC ?k1 ?k2 ?k3 ?k4 ?k5 ?kA ?kF ?kK ?k6 ?k7 ?k8 ?k9 ?kB ?kD ?_ ?c2 ?c3 ?c4; (case kA => exact rfl); (case kF => exact rfl); (case kK => assumption); (case k1 => k_asm); (case k2 => k_asm); (case k3 => k_asm); (case k4 => k_asm); (case k5 => k_asm); (case k6 => k_is); (case k7 => k_is); (case k8 => ktr_room); (case k9 => exact BindsTo.of_eq rfl); (case kB => exact rfl); (case kD => decide +kernel); (case c2 => exact rfl); (case c3 => exact rfl); (case c4 => exact rfl); k_whole; intro g' L' h' tk' cells' FG' F' N' Y' B' X' T' l1; have l2 := lt_up1 l1; have l3 := lt_up1 l2; have l4 := lt_up1 l3; (try k_lt l1); (try k_lt l2); (try k_lt l3); (try k_lt l4); k_cells Y'; (try simp only [List.cons_append, List.nil_append] at N'); (try dsimp only); (try k_lift B'); (try k_fold)))
local macro_rules | `(tactic| walk_at "binaryOp Mult ref int") => `(tactic| (k_here; k_dflt (refine' mul_bits ?F ?N ?l ?lo ?hi ?_; (case F => k_asm); (case N => k_asm); (case l => is_list); (case lo => assumption); (case hi => assumption); k_whole); intro l' h' F' N' l1; have lS' : LtAll _ _ := l1; (try k_lt l1)))
local macro_rules | `(tactic| walk_at "call builtin:len") => `(tactic| (k_here; k_dflt (refine' kst_len ?k1 ?k2 List.length_replicate ?k4 ?_; (case k1 => k_asm); (case k2 => k_mem); (case k4 => (have hb := intBits_le (by assumption) (by assumption); omega)); k_whole)))
local macro_rules | `(tactic| walk_at "MY sub") => `(tactic| first | (refine List.forall_mem_cons.mpr ⟨by k_mem, ?_⟩; walk_at "MY sub") | exact List.forall_mem_nil _ | (intro p hp; k_mem))
local macro_rules | `(tactic| walk_at "MY ne") => `(tactic| first | exact List.forall_mem_nil _ | (refine List.forall_mem_cons.mpr ⟨by k_ne, ?_⟩; walk_at "MY ne"))
local macro_rules | `(tactic| walk_at "MY news") => `(tactic| first | exact news_rot1 (by assumption) | exact news_rot2 (by assumption))
local macro_rules | `(tactic| walk_at "call ref") => `(tactic| (k_here; (rename InnerAt _ _ _ _ _ _ _ _ _ _ => ih'); have hb1 := intBits_le (by assumption) (by assumption); have hb2 := intBits_lt (by assumption) (by assumption); have hb3 := intBits_pos (by assumption) (by assumption) (by assumption); k_dflt (refine' InnerAt.use ih' ?F ?N ?B ?X ?T ?hk ?C ?hf ?h1 ?h2 ?h3 ?h4 ?h5 ?h6 ?h7 ?h8 ?h9 ?vs ?off ?x0 ?x1 ?xl ?lo ?lh ?hi ?kk ?len ?dd ?uu ?_; (case F => k_asm); (case N => walk_at "MY news"); (case B => k_asm); (case X => k_asm); (case T => k_asm); (case hk => exact rfl); (case C => assumption); (case hf => k_mem); (case h1 => k_mem); (case h2 => assumption); (case h3 => assumption); (case h4 => k_mem); (case h5 => assumption); (case h6 => k_mem); (case h7 => assumption); (case h8 => k_mem); (case h9 => assumption); (case vs => exact ints_repl _ _); (case off => exact ownOff_one (by k_all)); (case x0 => assumption); (case x1 => assumption); (case xl => simpa using hb2); (case lo => decide); (case lh => omega); (case hi => omega); (case kk => (simp only [Int.sub_zero]; exact Int.le_refl _)); (case len => (rw [List.length_replicate]; exact Int.le_refl _)); (case dd => ktr_room); (case uu => ktr_units); k_whole); intro vs' ns' h' tk' I' P' F' N'))
set_option maxHeartbeats 1000000 in
theorem i2d_new (w : World) (p : Program) (loose : List Str) (mean : ExcName → Option Value) (mg mb : Str → Option Value)
  (x : Int) (tx tn : Tok) (hx0 : 0 ≤ x) (hx1 : x < 64) (news : List (Addr × Obj)) (hnews : OwnOff news [16])
  (dp un : Nat) (gd : Option (List Code)) (cn : Str) (cs : Scope) (a : Addr) (ccd : Value) (cl : List (Str × Addr)) (outer : List Env) (A₀ : Around) (base h₀ : Heap) (L : Addr) (m : Str → Option Value) (s : Shared) (Q E : Value → Shared → Prop)
  (B : Below A₀ base outer h₀) (F : Fr h₀ L s.heap m) (X : (hd.heap_39 w.params).In h₀) (N : News h₀ L s.heap ((16, tabObj #[]) :: news))
  (T : Top p loose mean mg mb h₀) (hk : cs.kind = .function) (C1 : CodeHd base 20 16)
  (hdp : dp + 8 < recursionLimit) (hu : un + 64 < cLine)
  (hret : ∀ (r : Addr) (vs' : List Value) (T' : List (Addr × Obj)) (h' : Heap) (tk' : Nat), IntsAre vs' (digs x) → TabFull 16 5 4 qualA T' → Fr h₀ L h' m → News h₀ L h' ((r, listOf vs'.toArray 0) :: (T' ++ news)) → (∀ p ∈ (((16, tabObj #[]) : Addr × Obj) :: news), p.1 < r) → OwnOff T' [r] → TabKeeps ([(16, tabObj #[])]) news T' → Q (.ref r) { s with heap := h', toks := tk' }) :
    wpAny (model PySem.Challenge.rw_gm0003_01.row.prog w) (ktrTop dp un gd cn cs L a ccd cl outer) (call (.ref 21) [.int x tx, .int 1 tn]) Q E s := by
  revert X; k_fill; intro X
  have hMk := kstMark
  obtain ⟨⟨params, body, scope⟩, hp⟩ : ∃ q, partsOf PySem.Challenge.rw_gm0003_01.row.prog 1 = some q := ⟨_, rfl⟩
  have IH := inner_spec w p loose mean mg mb params body scope hp (Builtin.Int.intBits x)
  have hb1 := intBits_le hx0 hx1
  cases hp
  refine wpAny_call ?_
  k_dflt (walk_at "MY enterC")
  k_steps
  · (rename Put _ _ _ _ _ => P')
    (rename LtAll _ _ => lS)
    have e := digs_of_put P'
    subst e
    refine' hret _ _ [(16, tabObj #[rawInt (5 : Nat), rawInt (4 : Nat), .ref _]), (_, _)] _ _ ?i ⟨_, _, _, _, rfl, ?d1, ?d2⟩ (by k_asm) (news_sub (by k_asm) ?sub) (lS.sub ?lt) (ownOff_one ?ne) ?tk
    case i => assumption
    case sub => exact List.forall_mem_cons.mpr ⟨by k_mem, List.forall_mem_cons.mpr ⟨by k_mem, List.forall_mem_cons.mpr ⟨by k_mem, by intro p hp; k_mem⟩⟩⟩
    case d1 => assumption
    case d2 => assumption
    case lt => walk_at "MY sub"
    case ne => walk_at "MY ne"
    case tk => first | exact tabKeeps_same | exact tabKeeps_new (by k_all)
  · (rename x = 0 => e)
    subst e
    (rename LtAll _ _ => lS)
    refine' hret _ _ [(16, tabObj #[rawInt (5 : Nat), rawInt (4 : Nat), .ref _]), (_, _)] _ _ ?i ⟨_, _, _, _, rfl, ?d1, ?d2⟩ (by k_asm) (news_sub (by k_asm) ?sub) (lS.sub ?lt) (ownOff_one ?ne) ?tk
    case i => exact IntsAre.nil
    case sub => exact List.forall_mem_cons.mpr ⟨by k_mem, List.forall_mem_cons.mpr ⟨by k_mem, List.forall_mem_cons.mpr ⟨by k_mem, by intro p hp; k_mem⟩⟩⟩
    case d1 => assumption
    case d2 => assumption
    case lt => walk_at "MY sub"
    case ne => walk_at "MY ne"
    case tk => first | exact tabKeeps_same | exact tabKeeps_new (by k_all)
set_option maxHeartbeats 1000000 in
theorem i2d_old (w : World) (p : Program) (loose : List Str) (mean : ExcName → Option Value) (mg mb : Str → Option Value)
  (x : Int) (tx tn : Tok) (hx0 : 0 ≤ x) (hx1 : x < 64) (news : List (Addr × Obj)) (hnews : OwnOff news [16]) (c' : Addr) (oc : Obj) (vq : Array Value) (tq : Tok) (ho1 : oc.data = .fields vq) (ho2 : vq[1]? = some (.str qualA tq))
  (dp un : Nat) (gd : Option (List Code)) (cn : Str) (cs : Scope) (a : Addr) (ccd : Value) (cl : List (Str × Addr)) (outer : List Env) (A₀ : Around) (base h₀ : Heap) (L : Addr) (m : Str → Option Value) (s : Shared) (Q E : Value → Shared → Prop)
  (B : Below A₀ base outer h₀) (F : Fr h₀ L s.heap m) (X : (hd.heap_39 w.params).In h₀) (N : News h₀ L s.heap ((16, tabObj #[rawInt (5 : Nat), rawInt (4 : Nat), .ref c']) :: (c', oc) :: news))
  (T : Top p loose mean mg mb h₀) (hk : cs.kind = .function) (C1 : CodeHd base 20 16)
  (hdp : dp + 8 < recursionLimit) (hu : un + 64 < cLine)
  (hret : ∀ (r : Addr) (vs' : List Value) (T' : List (Addr × Obj)) (h' : Heap) (tk' : Nat), IntsAre vs' (digs x) → TabFull 16 5 4 qualA T' → Fr h₀ L h' m → News h₀ L h' ((r, listOf vs'.toArray 0) :: (T' ++ news)) → (∀ p ∈ (((16, tabObj #[rawInt (5 : Nat), rawInt (4 : Nat), .ref c']) : Addr × Obj) :: (c', oc) :: news), p.1 < r) → OwnOff T' [r] → TabKeeps ([(16, tabObj #[rawInt (5 : Nat), rawInt (4 : Nat), .ref c']), (c', oc)]) news T' → Q (.ref r) { s with heap := h', toks := tk' }) :
    wpAny (model PySem.Challenge.rw_gm0003_01.row.prog w) (ktrTop dp un gd cn cs L a ccd cl outer) (call (.ref 21) [.int x tx, .int 1 tn]) Q E s := by
  revert X; k_fill; intro X
  have hMk := kstMark
  obtain ⟨⟨params, body, scope⟩, hp⟩ : ∃ q, partsOf PySem.Challenge.rw_gm0003_01.row.prog 1 = some q := ⟨_, rfl⟩
  have IH := inner_spec w p loose mean mg mb params body scope hp (Builtin.Int.intBits x)
  have hb1 := intBits_le hx0 hx1
  cases hp
  refine wpAny_call ?_
  k_dflt (walk_at "MY enterC")
  k_steps
  · (rename Put _ _ _ _ _ => P')
    (rename LtAll _ _ => lS)
    have e := digs_of_put P'
    subst e
    refine' hret _ _ [(16, tabObj #[rawInt (5 : Nat), rawInt (4 : Nat), .ref _]), (_, _)] _ _ ?i ⟨_, _, _, _, rfl, ?d1, ?d2⟩ (by k_asm) (news_sub (by k_asm) ?sub) (lS.sub ?lt) (ownOff_one ?ne) ?tk
    case i => assumption
    case sub => exact List.forall_mem_cons.mpr ⟨by k_mem, List.forall_mem_cons.mpr ⟨by k_mem, List.forall_mem_cons.mpr ⟨by k_mem, by intro p hp; k_mem⟩⟩⟩
    case d1 => assumption
    case d2 => assumption
    case lt => walk_at "MY sub"
    case ne => walk_at "MY ne"
    case tk => first | exact tabKeeps_same | exact tabKeeps_new (by k_all)
  · (rename x = 0 => e)
    subst e
    (rename LtAll _ _ => lS)
    refine' hret _ _ [(16, tabObj #[rawInt (5 : Nat), rawInt (4 : Nat), .ref _]), (_, _)] _ _ ?i ⟨_, _, _, _, rfl, ?d1, ?d2⟩ (by k_asm) (news_sub (by k_asm) ?sub) (lS.sub ?lt) (ownOff_one ?ne) ?tk
    case i => exact IntsAre.nil
    case sub => exact List.forall_mem_cons.mpr ⟨by k_mem, List.forall_mem_cons.mpr ⟨by k_mem, List.forall_mem_cons.mpr ⟨by k_mem, by intro p hp; k_mem⟩⟩⟩
    case d1 => assumption
    case d2 => assumption
    case lt => walk_at "MY sub"
    case ne => walk_at "MY ne"
    case tk => first | exact tabKeeps_same | exact tabKeeps_new (by k_all)

theorem i2d (w : World) (p : Program) (loose : List Str) (mean : ExcName → Option Value) (mg mb : Str → Option Value)
  (x : Int) (tx tn : Tok) (hx0 : 0 ≤ x) (hx1 : x < 64) (news : List (Addr × Obj)) (hnews : OwnOff news [16]) (T0 : List (Addr × Obj)) (hT : TabSt 16 5 4 qualA T0)
  (dp un : Nat) (gd : Option (List Code)) (cn : Str) (cs : Scope) (a : Addr) (ccd : Value) (cl : List (Str × Addr)) (outer : List Env) (A₀ : Around) (base h₀ : Heap) (L : Addr) (m : Str → Option Value) (s : Shared) (Q E : Value → Shared → Prop)
  (B : Below A₀ base outer h₀) (F : Fr h₀ L s.heap m) (X : (hd.heap_39 w.params).In h₀) (N : News h₀ L s.heap (T0 ++ news))
  (T : Top p loose mean mg mb h₀) (hk : cs.kind = .function) (C1 : CodeHd base 20 16)
  (hdp : dp + 8 < recursionLimit) (hu : un + 64 < cLine)
  (hret : ∀ (r : Addr) (vs' : List Value) (T' : List (Addr × Obj)) (h' : Heap) (tk' : Nat), IntsAre vs' (digs x) → TabFull 16 5 4 qualA T' → Fr h₀ L h' m → News h₀ L h' ((r, listOf vs'.toArray 0) :: (T' ++ news)) → (∀ p ∈ T0 ++ news, p.1 < r) → OwnOff T' [r] → TabKeeps T0 news T' → Q (.ref r) { s with heap := h', toks := tk' }) :
    wpAny (model PySem.Challenge.rw_gm0003_01.row.prog w) (ktrTop dp un gd cn cs L a ccd cl outer) (call (.ref 21) [.int x tx, .int 1 tn]) Q E s := by
  rcases hT with rfl | ⟨c', oc, vq, tq, rfl, e1, e2⟩
  · exact i2d_new w p loose mean mg mb x tx tn hx0 hx1 news hnews dp un gd cn cs a ccd cl outer A₀ base h₀ L m s Q E B F X N T hk C1 hdp hu hret
  · exact i2d_old w p loose mean mg mb x tx tn hx0 hx1 news hnews c' oc vq tq e1 e2 dp un gd cn cs a ccd cl outer A₀ base h₀ L m s Q E B F X N T hk C1 hdp hu hret
end Mine
end

-- part D1
section
open PySem PySem.W PyProof.Rows
set_option Elab.async false
namespace Mine
set_option maxRecDepth 100000
local macro_rules | `(tactic| walk_at "MY idleD10") => `(tactic| fail "idle")
local macro_rules | `(tactic| walk_at "MY idleD11") => `(tactic| fail "idle")
local macro_rules | `(tactic| walk_at "MY idleD12") => `(tactic| fail "idle")

def valN (ds : List Int) : Nat → Nat → Int
  | _, 0 => 0
  | lo, n + 1 => ds.getD lo 0 + 2 * valN ds (lo + 1) n
theorem valN_add (ds : List Int) : ∀ (a b lo : Nat), valN ds lo (a + b) = valN ds lo a + 2 ^ a * valN ds (lo + a) b
  | 0, b, lo => by simp [valN]
  | a + 1, b, lo => by
    have e : a + 1 + b = (a + b) + 1 := by omega
    rw [e]
    simp only [valN]
    rw [valN_add ds a b (lo + 1), show lo + 1 + a = lo + (a + 1) by omega, Int.pow_succ]
    generalize valN ds (lo + 1) a = p
    generalize valN ds (lo + (a + 1)) b = q
    generalize (2 : Int) ^ a = r
    rw [show r * 2 * q = 2 * (r * q) by rw [Int.mul_comm r 2, Int.mul_assoc]]
    omega
def Bits (ds : List Int) : Prop := ∀ i : Nat, 0 ≤ ds.getD i 0 ∧ ds.getD i 0 ≤ 1
theorem valN_bnd {ds : List Int} (h : Bits ds) : ∀ (n lo : Nat), 0 ≤ valN ds lo n ∧ valN ds lo n < 2 ^ n
  | 0, _ => by simp [valN]
  | n + 1, lo => by
    have q := valN_bnd h n (lo + 1)
    have r := h lo
    simp only [valN, Int.pow_succ]
    omega
theorem valN_one {ds : List Int} {lo hi : Int} (h0 : 0 ≤ lo) (h1 : lo + 1 = hi) : ds.getD lo.toNat 0 = valN ds lo.toNat (hi - lo).toNat := by
  have e : (hi - lo).toNat = 1 := by omega
  rw [e]; simp [valN]
theorem valN_step {ds : List Int} {lo mid hi u v w : Int} (h0 : 0 ≤ lo) (h1 : lo < mid) (h2 : mid < hi) (hu : u = valN ds mid.toNat (hi - mid).toNat) (hv : v = u * 2 ^ (mid - lo).toNat) (hw : w = valN ds lo.toNat (mid - lo).toNat) :
    v + w = valN ds lo.toNat (hi - lo).toNat := by
  have e : (hi - lo).toNat = (mid - lo).toNat + (hi - mid).toNat := by omega
  have e2 : lo.toNat + (mid - lo).toNat = mid.toNat := by omega
  rw [e, valN_add, e2, hv, hu, hw, Int.mul_comm, Int.add_comm]

section
variable {prog : Program} {w : World} {A : Around} {E : Value → Shared → Prop} {s : Shared} {a n b : Int} {t u : Tok} {Q : Value → Shared → Prop}
theorem ls_some2 (hn : 0 ≤ n) (hn2 : n ≤ 1000) (ha0 : 0 ≤ a) (ha1 : a < 128) (h : ∀ v : Int, v = a * 2 ^ n.toNat → Q (.int v s.toks) { s with toks := s.toks + 1 }) : wpAny (model prog w) A (binaryOp .LShift (.int a t) (.int n u)) Q E s :=
  lshift_int_small hn (by omega) (by omega) (h _ rfl)
theorem truthy_some {h₀ : Heap} {L l : Addr} {news : List (Addr × Obj)} {vs : List Value} {c : Nat} {Q : Bool → Shared → Prop} (N : News h₀ L s.heap news) (hm : (l, listOf vs.toArray c) ∈ news) (h1 : 0 < vs.length) (h2 : vs.length < 1000)
    (h : ∀ tk, Q true { s with toks := tk }) : wpAny (model prog w) A (truthy (.ref l)) Q E s := by
  have hl : s.heap.IsList l vs.toArray := ⟨_, (N _ hm).1, rfl, c, rfl⟩
  refine wpAny_truthy_list hl (by simp; omega) ?_
  have e : (!vs.toArray.isEmpty) = true := by
    cases vs with
    | nil => simp at h1
    | cons _ _ => simp
  rw [e]
  exact h _
end

abbrev innerClosD (c1 c2 c3 : Addr) : List (Str × Addr) := [(Str.ofString "n", c1), (Str.ofString "inner", c3), (Str.ofString "digits", c2)]

def InnerD (w : World) (p : Program) (loose : List Str) (mean : ExcName → Option Value) (mg mb : Str → Option Value) (params : Arguments) (body : List Stmt) (scope : Scope) (k : Nat) : Prop :=
  ∀ (lo hi : Int) (tl tr tn : Tok) (dv : List Value) (ds : List Int) (nn : Nat) (l0 f c1 c2 c3 c' : Addr) (oc o1 o2 o3 : Obj) (vq : Array Value) (qual : Str) (tq : Tok) (doc pm ctv : Value) (news : List (Addr × Obj))
  (dp un : Nat) (gd : Option (List Code)) (cn : Str) (cs : Scope) (a : Addr) (ccd : Value) (cl : List (Str × Addr)) (outer : List Env) (A₀ : Around) (base h₀ : Heap) (L : Addr) (m : Str → Option Value) (s : Shared) (Q E : Value → Shared → Prop),
  0 ≤ lo → lo < hi → hi ≤ 7 → hi - lo ≤ k → hi ≤ ds.length → IntsAre dv ds → Bits ds → (l0, listOf dv.toArray nn) ∈ news →
  (f, fnMade (Str.ofString "inner") qual params body scope (innerClosD c1 c2 c3) doc pm c' ctv) ∈ news → (c', oc) ∈ news → oc.data = .fields vq → vq[1]? = some (.str qual tq) →
  (c1, o1) ∈ news → o1.data = .cell (some (.int 1 tn)) → (c2, o2) ∈ news → o2.data = .cell (some (.ref l0)) → (c3, o3) ∈ news → o3.data = .cell (some (.ref f)) →
  Below A₀ base outer h₀ → Fr h₀ L s.heap m → (hd.heap_39 w.params).In h₀ → News h₀ L s.heap news → Top p loose mean mg mb h₀ → cs.kind = .function → CodeHd base 27 23 →
  dp + k < recursionLimit → un + 8 * k < cLine →
  (∀ v tv h' tk', v = valN ds lo.toNat (hi - lo).toNat → 0 ≤ v → v < 2 ^ (hi - lo).toNat → Fr h₀ L h' m → News h₀ L h' news → Q (.int v tv) { s with heap := h', toks := tk' }) →
  wpAny (model PySem.Challenge.rw_gm0003_01.row.prog w) (ktrTop dp un gd cn cs L a ccd cl outer) (call (.ref f) [.int lo tl, .int hi tr]) Q E s

theorem InnerD.use {w : World} {p : Program} {loose : List Str} {mean : ExcName → Option Value} {mg mb : Str → Option Value} {params : Arguments} {body : List Stmt} {scope : Scope} {k : Nat} (ih : InnerD w p loose mean mg mb params body scope k)
  {lo hi : Int} {tl tr tn : Tok} {dv : List Value} {ds : List Int} {nn : Nat} {l0 f c1 c2 c3 c' : Addr} {oc o1 o2 o3 : Obj} {vq : Array Value} {qual : Str} {tq : Tok} {doc pm ctv : Value} {news : List (Addr × Obj)}
  {dp un : Nat} {gd : Option (List Code)} {cn : Str} {cs : Scope} {a : Addr} {ccd : Value} {cl : List (Str × Addr)} {outer : List Env} {A₀ : Around} {base h₀ : Heap} {L : Addr} {m : Str → Option Value} {s : Shared} {Q E : Value → Shared → Prop}
  (F : Fr h₀ L s.heap m) (N : News h₀ L s.heap news) (B : Below A₀ base outer h₀)  (X : (hd.heap_39 w.params).In h₀) (T : Top p loose mean mg mb h₀) (hk : cs.kind = .function) (C : CodeHd base 27 23)
  (hf : (f, fnMade (Str.ofString "inner") qual params body scope (innerClosD c1 c2 c3) doc pm c' ctv) ∈ news) (h1 : (c', oc) ∈ news) (h2 : oc.data = .fields vq) (h3 : vq[1]? = some (.str qual tq)) 
  (h4 : (c1, o1) ∈ news) (h5 : o1.data = .cell (some (.int 1 tn))) (h6 : (c2, o2) ∈ news) (h7 : o2.data = .cell (some (.ref l0))) (h8 : (c3, o3) ∈ news) (h9 : o3.data = .cell (some (.ref f))) 
  (hl0 : (l0, listOf dv.toArray nn) ∈ news) (hvs : IntsAre dv ds) (hb : Bits ds) (hlo : 0 ≤ lo) (hlh : lo < hi) (hhi : hi ≤ 7) (hkk : hi - lo ≤ k) (hlen : hi ≤ ds.length)
  (hd : dp + k < recursionLimit) (hu : un + 8 * k < cLine)
  (h : ∀ v tv h' tk', v = valN ds lo.toNat (hi - lo).toNat → 0 ≤ v → v < 2 ^ (hi - lo).toNat → Fr h₀ L h' m → News h₀ L h' news → Q (.int v tv) { s with heap := h', toks := tk' }) :
  wpAny (model PySem.Challenge.rw_gm0003_01.row.prog w) (ktrTop dp un gd cn cs L a ccd cl outer) (call (.ref f) [.int lo tl, .int hi tr]) Q E s :=
  ih _ _ _ _ _ _ _ _ _ _ _ _ _ _ _ _ _ _ _ _ _ _ _ _ _ _ _ _ _ _ _ _ _ _ _ _ _ _ _ _ _ _ hlo hlh hhi hkk hlen hvs hb hl0 hf h1 h2 h3 h4 h5 h6 h7 h8 h9 B F X N T hk C hd hu h

local macro_rules | `(tactic| k_mem) => `(tactic| first | assumption | exact List.mem_cons_self | (refine' List.mem_cons_of_mem _ ?_; k_mem))
local macro_rules | `(tactic| walk_at "eval Name") => `(tactic| (k_here; kc_free; k_dflt (refine' nameX_F ?N ?c ?m ?d ?_ ?a ?b; (case a => rfl); (case b => rfl); (case N => k_asm); (case c => rfl); (case m => k_mem); (case d => k_asm); k_whole)))
local macro_rules | `(tactic| walk_at "MY enterN") => `(tactic| (refine' code_nest ?k1 ?k2 ?k3 ?k4 ?k5 ?kA ?kF ?kK ?k6 ?k7 ?k8 ?k9 ?kB ?_ ?c2 ?c3 ?c4 ?c5; (case kA => exact rfl); (case kF => exact rfl); (case kK => assumption); (case k1 => k_asm); (case k2 => k_asm); (case k3 => k_asm); (case k4 => k_asm); (case k5 => k_asm); (case k6 => k_mem); (case k7 => exact codeRec_news (by k_asm) (by k_mem) (by assumption) (by assumption)); (case k8 => ktr_room); (case k9 => exact BindsTo.of_eq rfl); (case c5 => decide); (case kB => exact locs rfl); (case c2 => exact rfl); (case c3 => exact rfl); (case c4 => exact rfl); k_whole; intro g' L' h' FG' F' N' B' X' T'; (try dsimp only); (try k_lift B'); (try k_fold)))
local macro_rules | `(tactic| walk_at "binaryOp RShift int int") => `(tactic| (with_reducible refine rs_one ?_; intro mid' hm1' hm2'))
local macro_rules | `(tactic| walk_at "MY bnd") => `(tactic| ((rename _ < _ ^ _ => q'); refine Int.lt_of_lt_of_le q' (Int.le_trans (pow_le64 ?_) ?_) <;> omega))
local macro_rules | `(tactic| walk_at "binaryOp LShift int int") => `(tactic| (refine' ls_some2 ?k1 ?k4 ?k2 ?k3 ?_; (case k1 => omega); (case k4 => omega); (case k2 => assumption); (case k3 => walk_at "MY bnd"); intro v' hv'))
local macro_rules | `(tactic| walk_at "subscriptTail") => `(tactic| (k_here; (with_reducible show wpAny _ _ (subscriptTail _ _ (Value.ref _) (Value.int _ _)) _ _ _); k_dflt (refine' ksa_sub ?k1 ?k2 ?k3 ?k4 ?k5 ?k6 ?_ ?k7; (case k1 => k_asm); (case k2 => k_mem); (case k3 => assumption); (case k4 => omega); (case k5 => omega); (case k6 => omega); (case k7 => with_unfolding_all rfl); k_whole); intro _))
local macro_rules | `(tactic| walk_at "call ref") => `(tactic| (k_here; (rename InnerD _ _ _ _ _ _ _ _ _ _ => ih'); k_dflt (refine' InnerD.use ih' ?F ?N ?B ?X ?T ?hk ?C ?hf ?h1 ?h2 ?h3 ?h4 ?h5 ?h6 ?h7 ?h8 ?h9 ?l0 ?vs ?hb ?lo ?lh ?hi ?kk ?len ?dd ?uu ?_; (case F => k_asm); (case N => k_asm); (case B => k_asm); (case X => k_asm); (case T => k_asm); (case hk => exact rfl); (case C => assumption); (case hf => k_mem); (case h1 => k_mem); (case h2 => assumption); (case h3 => assumption); (case h4 => k_mem); (case h5 => assumption); (case h6 => k_mem); (case h7 => assumption); (case h8 => k_mem); (case h9 => assumption); (case l0 => k_mem); (case vs => assumption); (case hb => assumption); (case lo => omega); (case lh => omega); (case hi => omega); (case kk => omega); (case len => omega); (case dd => ktr_room); (case uu => ktr_units); k_whole); intro v' tv' h' tk' hv1' hv2' hv3' F' N'))

set_option maxHeartbeats 1000000 in
theorem innerD_spec (w : World) (p : Program) (loose : List Str) (mean : ExcName → Option Value) (mg mb : Str → Option Value) (params : Arguments) (body : List Stmt) (scope : Scope) (hp : partsOf PySem.Challenge.rw_gm0003_01.row.prog 2 = some (params, body, scope)) (k : Nat) :
    InnerD w p loose mean mg mb params body scope k := by
  induction k with
  | zero => 
    intro lo hi tl tr tn dv ds nn l0 f c1 c2 c3 c' oc o1 o2 o3 vq qual tq doc pm ctv news dp un gd cn cs a ccd cl outer A₀ base h₀ L m s Q E hlo hlh hhi hkk
    exfalso; omega
  | succ k ih =>
    intro lo hi tl tr tn dv ds nn l0 f c1 c2 c3 c' oc o1 o2 o3 vq qual tq doc pm ctv news dp un gd cn cs a ccd cl outer A₀ base h₀ L m s Q E hlo hlh hhi hkk hlen hvs hbits hl0 hf hoc hoc1 hoc2 hc1 hd1 hc2 hd2 hc3 hd3 B F X N T hk C1 hdp hu hret
    revert X; k_fill; intro X
    have hMk := kstMark
    cases hp
    refine wpAny_call ?_
    k_dflt (walk_at "MY enterN")
    k_steps
    · have e := valN_one (ds := ds) hlo (show lo + 1 = hi by assumption)
      have q := valN_bnd hbits (hi - lo).toNat lo.toNat
      exact hret _ _ _ _ e (by rw [e]; exact q.1) (by rw [e]; exact q.2) (by k_asm) (by k_asm)
    · (rename _ = valN _ lo.toNat _ => hw)
      (rename _ = valN _ _ (hi - _).toNat => hu)
      (rename _ = _ * 2 ^ _ => hv)
      simp only [Int.mul_one] at hv
      have e := valN_step hlo (by omega) (by omega) hu hv hw
      have q := valN_bnd hbits (hi - lo).toNat lo.toNat
      exact hret _ _ _ _ e (by rw [e]; exact q.1) (by rw [e]; exact q.2) (by k_asm) (by k_asm)
end Mine
end

-- part D2
section
open PySem PySem.W PyProof.Rows
set_option Elab.async false
namespace Mine
set_option maxRecDepth 100000
abbrev qualD : Str := Str.ofString "_digits2int" ++ ".<locals>." ++ Str.ofString "inner"

local macro_rules | `(tactic| k_mem) => `(tactic| first | assumption | exact List.mem_cons_self | (refine' List.mem_cons_of_mem _ ?_; k_mem))
local macro_rules | `(tactic| walk_at "MY enterC") => `(tactic| (refine' code_defC ?k1 ?k2 ?k3 ?k4 ?k5 ?kA ?kF ?kK ?k6 ?k7 ?k8 ?k9 ?kB ?kD ?_ ?c2 ?c3 ?c4; (case kA => exact rfl); (case kF => exact rfl); (case kK => assumption); (case k1 => k_asm); (case k2 => k_asm); (case k3 => k_asm); (case k4 => k_asm); (case k5 => k_asm); (case k6 => k_is); (case k7 => k_is); (case k8 => ktr_room); (case k9 => exact BindsTo.of_eq rfl); (case kB => exact rfl); (case kD => decide +kernel); (case c2 => exact rfl); (case c3 => exact rfl); (case c4 => exact rfl); k_whole; intro g' L' h' tk' cells' FG' F' N' Y' B' X' T' l1; have l2 := lt_up1 l1; have l3 := lt_up1 l2; have l4 := lt_up1 l3; (try k_lt l1); (try k_lt l2); (try k_lt l3); (try k_lt l4); k_cells Y'; (try simp only [List.cons_append, List.nil_append] at N'); (try dsimp only); (try k_lift B'); (try k_fold)))
local macro_rules | `(tactic| walk_at "MY sub") => `(tactic| first | (refine List.forall_mem_cons.mpr ⟨by k_mem, ?_⟩; walk_at "MY sub") | exact List.forall_mem_nil _ | (intro p hp; k_mem))
local macro_rules | `(tactic| walk_at "truthy ref") => `(tactic| (k_here; k_dflt (refine' truthy_some ?k1 ?k2 ?k3 ?k4 ?_; (case k1 => k_asm); (case k2 => k_mem); (case k3 => omega); (case k4 => omega); k_whole); intro tk'))
local macro_rules | `(tactic| walk_at "call builtin:len") => `(tactic| (k_here; k_dflt (refine' kst_len ?k1 ?k2 ?k3 ?k4 ?_; (case k1 => k_asm); (case k2 => k_mem); (case k3 => assumption); (case k4 => decide); k_whole)))
local macro_rules | `(tactic| walk_at "call ref") => `(tactic| (k_here; (rename InnerD _ _ _ _ _ _ _ _ _ _ => ih'); k_dflt (refine' InnerD.use ih' ?F ?N ?B ?X ?T ?hk ?C ?hf ?h1 ?h2 ?h3 ?h4 ?h5 ?h6 ?h7 ?h8 ?h9 ?l0 ?vs ?hb ?lo ?lh ?hi ?kk ?len ?dd ?uu ?_; (case F => k_asm); (case N => k_asm); (case B => k_asm); (case X => k_asm); (case T => k_asm); (case hk => exact rfl); (case C => assumption); (case hf => k_mem); (case h1 => k_mem); (case h2 => assumption); (case h3 => assumption); (case h4 => k_mem); (case h5 => assumption); (case h6 => k_mem); (case h7 => assumption); (case h8 => k_mem); (case h9 => assumption); (case l0 => k_mem); (case vs => assumption); (case hb => assumption); (case lo => decide); (case lh => decide); (case hi => decide); (case kk => decide); (case len => omega); (case dd => ktr_room); (case uu => ktr_units); k_whole); intro v' tv' h' tk' hv1' hv2' hv3' F' N'))
set_option maxHeartbeats 1000000 in
theorem d2i_new (w : World) (p : Program) (loose : List Str) (mean : ExcName → Option Value) (mg mb : Str → Option Value)
  (tn : Tok) (l0 : Addr) (dv : List Value) (ds : List Int) (nn : Nat) (hds : IntsAre dv ds) (hb : Bits ds) (hdv : dv.length = 7) (hlen : ds.length = 7) (news : List (Addr × Obj)) (hnews : OwnOff news [23]) (hl0 : (l0, listOf dv.toArray nn) ∈ news)
  (dp un : Nat) (gd : Option (List Code)) (cn : Str) (cs : Scope) (a : Addr) (ccd : Value) (cl : List (Str × Addr)) (outer : List Env) (A₀ : Around) (base h₀ : Heap) (L : Addr) (m : Str → Option Value) (s : Shared) (Q E : Value → Shared → Prop)
  (B : Below A₀ base outer h₀) (F : Fr h₀ L s.heap m) (X : (hd.heap_39 w.params).In h₀) (N : News h₀ L s.heap ((23, tabObj #[]) :: news))
  (T : Top p loose mean mg mb h₀) (hk : cs.kind = .function) (C1 : CodeHd base 27 23)
  (hdp : dp + 8 < recursionLimit) (hu : un + 70 < cLine)
  (hret : ∀ (tv : Tok) (T' : List (Addr × Obj)) (h' : Heap) (tk' : Nat), TabFull 23 20 4 qualD T' → Fr h₀ L h' m → News h₀ L h' (T' ++ news) → TabKeeps ([(23, tabObj #[])]) news T' → Q (.int (valN ds 0 7) tv) { s with heap := h', toks := tk' }) :
    wpAny (model PySem.Challenge.rw_gm0003_01.row.prog w) (ktrTop dp un gd cn cs L a ccd cl outer) (call (.ref 28) [.ref l0, .int 1 tn]) Q E s := by
  revert X; k_fill; intro X
  have hMk := kstMark
  obtain ⟨⟨params, body, scope⟩, hp⟩ : ∃ q, partsOf PySem.Challenge.rw_gm0003_01.row.prog 2 = some q := ⟨_, rfl⟩
  have IH := innerD_spec w p loose mean mg mb params body scope hp 7
  cases hp
  refine wpAny_call ?_
  k_dflt (walk_at "MY enterC")
  k_steps
  · (rename _ = valN _ _ _ => hv)
    subst hv
    refine' hret _ [(23, tabObj #[rawInt (20 : Nat), rawInt (4 : Nat), .ref _]), (_, _)] _ _ ⟨_, _, _, _, rfl, ?d1, ?d2⟩ (by k_asm) (news_sub (by k_asm) ?sub) ?tk
    case sub => exact List.forall_mem_cons.mpr ⟨by k_mem, List.forall_mem_cons.mpr ⟨by k_mem, by intro p hp; k_mem⟩⟩
    case d1 => assumption
    case d2 => assumption
    case tk => first | exact tabKeeps_same | exact tabKeeps_new (by k_all)
set_option maxHeartbeats 1000000 in
theorem d2i_old (w : World) (p : Program) (loose : List Str) (mean : ExcName → Option Value) (mg mb : Str → Option Value)
  (tn : Tok) (l0 : Addr) (dv : List Value) (ds : List Int) (nn : Nat) (hds : IntsAre dv ds) (hb : Bits ds) (hdv : dv.length = 7) (hlen : ds.length = 7) (news : List (Addr × Obj)) (hnews : OwnOff news [23]) (hl0 : (l0, listOf dv.toArray nn) ∈ news) (c' : Addr) (oc : Obj) (vq : Array Value) (tq : Tok) (ho1 : oc.data = .fields vq) (ho2 : vq[1]? = some (.str qualD tq))
  (dp un : Nat) (gd : Option (List Code)) (cn : Str) (cs : Scope) (a : Addr) (ccd : Value) (cl : List (Str × Addr)) (outer : List Env) (A₀ : Around) (base h₀ : Heap) (L : Addr) (m : Str → Option Value) (s : Shared) (Q E : Value → Shared → Prop)
  (B : Below A₀ base outer h₀) (F : Fr h₀ L s.heap m) (X : (hd.heap_39 w.params).In h₀) (N : News h₀ L s.heap ((23, tabObj #[rawInt (20 : Nat), rawInt (4 : Nat), .ref c']) :: (c', oc) :: news))
  (T : Top p loose mean mg mb h₀) (hk : cs.kind = .function) (C1 : CodeHd base 27 23)
  (hdp : dp + 8 < recursionLimit) (hu : un + 70 < cLine)
  (hret : ∀ (tv : Tok) (T' : List (Addr × Obj)) (h' : Heap) (tk' : Nat), TabFull 23 20 4 qualD T' → Fr h₀ L h' m → News h₀ L h' (T' ++ news) → TabKeeps ([(23, tabObj #[rawInt (20 : Nat), rawInt (4 : Nat), .ref c']), (c', oc)]) news T' → Q (.int (valN ds 0 7) tv) { s with heap := h', toks := tk' }) :
    wpAny (model PySem.Challenge.rw_gm0003_01.row.prog w) (ktrTop dp un gd cn cs L a ccd cl outer) (call (.ref 28) [.ref l0, .int 1 tn]) Q E s := by
  revert X; k_fill; intro X
  have hMk := kstMark
  obtain ⟨⟨params, body, scope⟩, hp⟩ : ∃ q, partsOf PySem.Challenge.rw_gm0003_01.row.prog 2 = some q := ⟨_, rfl⟩
  have IH := innerD_spec w p loose mean mg mb params body scope hp 7
  cases hp
  refine wpAny_call ?_
  k_dflt (walk_at "MY enterC")
  k_steps
  · (rename _ = valN _ _ _ => hv)
    subst hv
    refine' hret _ [(23, tabObj #[rawInt (20 : Nat), rawInt (4 : Nat), .ref _]), (_, _)] _ _ ⟨_, _, _, _, rfl, ?d1, ?d2⟩ (by k_asm) (news_sub (by k_asm) ?sub) ?tk
    case sub => exact List.forall_mem_cons.mpr ⟨by k_mem, List.forall_mem_cons.mpr ⟨by k_mem, by intro p hp; k_mem⟩⟩
    case d1 => assumption
    case d2 => assumption
    case tk => first | exact tabKeeps_same | exact tabKeeps_new (by k_all)
theorem d2i (w : World) (p : Program) (loose : List Str) (mean : ExcName → Option Value) (mg mb : Str → Option Value)
  (tn : Tok) (l0 : Addr) (dv : List Value) (ds : List Int) (nn : Nat) (hds : IntsAre dv ds) (hb : Bits ds) (hdv : dv.length = 7) (hlen : ds.length = 7) (news : List (Addr × Obj)) (hnews : OwnOff news [23]) (hl0 : (l0, listOf dv.toArray nn) ∈ news) (T0 : List (Addr × Obj)) (hT : TabSt 23 20 4 qualD T0)
  (dp un : Nat) (gd : Option (List Code)) (cn : Str) (cs : Scope) (a : Addr) (ccd : Value) (cl : List (Str × Addr)) (outer : List Env) (A₀ : Around) (base h₀ : Heap) (L : Addr) (m : Str → Option Value) (s : Shared) (Q E : Value → Shared → Prop)
  (B : Below A₀ base outer h₀) (F : Fr h₀ L s.heap m) (X : (hd.heap_39 w.params).In h₀) (N : News h₀ L s.heap (T0 ++ news))
  (T : Top p loose mean mg mb h₀) (hk : cs.kind = .function) (C1 : CodeHd base 27 23)
  (hdp : dp + 8 < recursionLimit) (hu : un + 70 < cLine)
  (hret : ∀ (tv : Tok) (T' : List (Addr × Obj)) (h' : Heap) (tk' : Nat), TabFull 23 20 4 qualD T' → Fr h₀ L h' m → News h₀ L h' (T' ++ news) → TabKeeps (T0) news T' → Q (.int (valN ds 0 7) tv) { s with heap := h', toks := tk' }) :
    wpAny (model PySem.Challenge.rw_gm0003_01.row.prog w) (ktrTop dp un gd cn cs L a ccd cl outer) (call (.ref 28) [.ref l0, .int 1 tn]) Q E s := by
  rcases hT with rfl | ⟨c', oc, vq, tq, rfl, e1, e2⟩
  · exact d2i_new w p loose mean mg mb tn l0 dv ds nn hds hb hdv hlen news hnews hl0 dp un gd cn cs a ccd cl outer A₀ base h₀ L m s Q E B F X N T hk C1 hdp hu hret
  · exact d2i_old w p loose mean mg mb tn l0 dv ds nn hds hb hdv hlen news hnews hl0 c' oc vq tq e1 e2 dp un gd cn cs a ccd cl outer A₀ base h₀ L m s Q E B F X N T hk C1 hdp hu hret
end Mine
end

-- part L0
section
open PySem PySem.W PyProof.Rows
set_option Elab.async false
namespace Mine
set_option maxRecDepth 100000

theorem tab_lt {P ln co : Nat} {q : Str} {T0 : List (Addr × Obj)} {L : Addr} (h : TabSt P ln co q T0) : ∀ {l : List (Addr × Obj)}, (∀ p ∈ T0, p ∈ l) → (∀ p ∈ l, p.1 < L) → P < L := by
  intro l hs hl
  rcases h with rfl | ⟨c', oc, vq, tq, rfl, _, _⟩
  · exact hl _ (hs _ (.head _))
  · exact hl _ (hs _ (.head _))

theorem news_in1 {h₀ h : Heap} {L : Addr} {a0 : Addr × Obj} {T0 r : List (Addr × Obj)} (N : News h₀ L h (a0 :: (T0 ++ r))) : News h₀ L h (T0 ++ (a0 :: r)) := news_sub N fun p hp => by
  simp only [List.mem_append, List.mem_cons] at hp ⊢
  grind
theorem news_out1 {h₀ h : Heap} {L : Addr} {x a0 : Addr × Obj} {T0 r : List (Addr × Obj)} (N : News h₀ L h (x :: (T0 ++ (a0 :: r)))) : News h₀ L h (x :: a0 :: (T0 ++ r)) := news_sub N fun p hp => by
  simp only [List.mem_append, List.mem_cons] at hp ⊢
  grind
theorem news_out01 {h₀ h : Heap} {L : Addr} {a0 : Addr × Obj} {T0 r : List (Addr × Obj)} (N : News h₀ L h ((T0 ++ (a0 :: r)))) : News h₀ L h (a0 :: (T0 ++ r)) := news_sub N fun p hp => by
  simp only [List.mem_append, List.mem_cons] at hp ⊢
  grind
theorem lt_out1 {d : Addr} {a0 : Addr × Obj} {T0 r : List (Addr × Obj)} (N : ∀ p ∈ T0 ++ (a0 :: r), p.1 < d) : ∀ p ∈ a0 :: (T0 ++ r), p.1 < d := fun p hp => N p (by
  simp only [List.mem_append, List.mem_cons] at hp ⊢
  grind)

theorem news_in2 {h₀ h : Heap} {L : Addr} {a0 a1 : Addr × Obj} {T0 r : List (Addr × Obj)} (N : News h₀ L h (a0 :: a1 :: (T0 ++ r))) : News h₀ L h (T0 ++ (a0 :: a1 :: r)) := news_sub N fun p hp => by
  simp only [List.mem_append, List.mem_cons] at hp ⊢
  grind
theorem news_out2 {h₀ h : Heap} {L : Addr} {x a0 a1 : Addr × Obj} {T0 r : List (Addr × Obj)} (N : News h₀ L h (x :: (T0 ++ (a0 :: a1 :: r)))) : News h₀ L h (x :: a0 :: a1 :: (T0 ++ r)) := news_sub N fun p hp => by
  simp only [List.mem_append, List.mem_cons] at hp ⊢
  grind
theorem news_out02 {h₀ h : Heap} {L : Addr} {a0 a1 : Addr × Obj} {T0 r : List (Addr × Obj)} (N : News h₀ L h ((T0 ++ (a0 :: a1 :: r)))) : News h₀ L h (a0 :: a1 :: (T0 ++ r)) := news_sub N fun p hp => by
  simp only [List.mem_append, List.mem_cons] at hp ⊢
  grind
theorem lt_out2 {d : Addr} {a0 a1 : Addr × Obj} {T0 r : List (Addr × Obj)} (N : ∀ p ∈ T0 ++ (a0 :: a1 :: r), p.1 < d) : ∀ p ∈ a0 :: a1 :: (T0 ++ r), p.1 < d := fun p hp => N p (by
  simp only [List.mem_append, List.mem_cons] at hp ⊢
  grind)

theorem news_in3 {h₀ h : Heap} {L : Addr} {a0 a1 a2 : Addr × Obj} {T0 r : List (Addr × Obj)} (N : News h₀ L h (a0 :: a1 :: a2 :: (T0 ++ r))) : News h₀ L h (T0 ++ (a0 :: a1 :: a2 :: r)) := news_sub N fun p hp => by
  simp only [List.mem_append, List.mem_cons] at hp ⊢
  grind
theorem news_out3 {h₀ h : Heap} {L : Addr} {x a0 a1 a2 : Addr × Obj} {T0 r : List (Addr × Obj)} (N : News h₀ L h (x :: (T0 ++ (a0 :: a1 :: a2 :: r)))) : News h₀ L h (x :: a0 :: a1 :: a2 :: (T0 ++ r)) := news_sub N fun p hp => by
  simp only [List.mem_append, List.mem_cons] at hp ⊢
  grind
theorem news_out03 {h₀ h : Heap} {L : Addr} {a0 a1 a2 : Addr × Obj} {T0 r : List (Addr × Obj)} (N : News h₀ L h ((T0 ++ (a0 :: a1 :: a2 :: r)))) : News h₀ L h (a0 :: a1 :: a2 :: (T0 ++ r)) := news_sub N fun p hp => by
  simp only [List.mem_append, List.mem_cons] at hp ⊢
  grind
theorem lt_out3 {d : Addr} {a0 a1 a2 : Addr × Obj} {T0 r : List (Addr × Obj)} (N : ∀ p ∈ T0 ++ (a0 :: a1 :: a2 :: r), p.1 < d) : ∀ p ∈ a0 :: a1 :: a2 :: (T0 ++ r), p.1 < d := fun p hp => N p (by
  simp only [List.mem_append, List.mem_cons] at hp ⊢
  grind)

theorem news_in4 {h₀ h : Heap} {L : Addr} {a0 a1 a2 a3 : Addr × Obj} {T0 r : List (Addr × Obj)} (N : News h₀ L h (a0 :: a1 :: a2 :: a3 :: (T0 ++ r))) : News h₀ L h (T0 ++ (a0 :: a1 :: a2 :: a3 :: r)) := news_sub N fun p hp => by
  simp only [List.mem_append, List.mem_cons] at hp ⊢
  grind
theorem news_out4 {h₀ h : Heap} {L : Addr} {x a0 a1 a2 a3 : Addr × Obj} {T0 r : List (Addr × Obj)} (N : News h₀ L h (x :: (T0 ++ (a0 :: a1 :: a2 :: a3 :: r)))) : News h₀ L h (x :: a0 :: a1 :: a2 :: a3 :: (T0 ++ r)) := news_sub N fun p hp => by
  simp only [List.mem_append, List.mem_cons] at hp ⊢
  grind
theorem news_out04 {h₀ h : Heap} {L : Addr} {a0 a1 a2 a3 : Addr × Obj} {T0 r : List (Addr × Obj)} (N : News h₀ L h ((T0 ++ (a0 :: a1 :: a2 :: a3 :: r)))) : News h₀ L h (a0 :: a1 :: a2 :: a3 :: (T0 ++ r)) := news_sub N fun p hp => by
  simp only [List.mem_append, List.mem_cons] at hp ⊢
  grind
theorem lt_out4 {d : Addr} {a0 a1 a2 a3 : Addr × Obj} {T0 r : List (Addr × Obj)} (N : ∀ p ∈ T0 ++ (a0 :: a1 :: a2 :: a3 :: r), p.1 < d) : ∀ p ∈ a0 :: a1 :: a2 :: a3 :: (T0 ++ r), p.1 < d := fun p hp => N p (by
  simp only [List.mem_append, List.mem_cons] at hp ⊢
  grind)

theorem news_in5 {h₀ h : Heap} {L : Addr} {a0 a1 a2 a3 a4 : Addr × Obj} {T0 r : List (Addr × Obj)} (N : News h₀ L h (a0 :: a1 :: a2 :: a3 :: a4 :: (T0 ++ r))) : News h₀ L h (T0 ++ (a0 :: a1 :: a2 :: a3 :: a4 :: r)) := news_sub N fun p hp => by
  simp only [List.mem_append, List.mem_cons] at hp ⊢
  grind
theorem news_out5 {h₀ h : Heap} {L : Addr} {x a0 a1 a2 a3 a4 : Addr × Obj} {T0 r : List (Addr × Obj)} (N : News h₀ L h (x :: (T0 ++ (a0 :: a1 :: a2 :: a3 :: a4 :: r)))) : News h₀ L h (x :: a0 :: a1 :: a2 :: a3 :: a4 :: (T0 ++ r)) := news_sub N fun p hp => by
  simp only [List.mem_append, List.mem_cons] at hp ⊢
  grind
theorem news_out05 {h₀ h : Heap} {L : Addr} {a0 a1 a2 a3 a4 : Addr × Obj} {T0 r : List (Addr × Obj)} (N : News h₀ L h ((T0 ++ (a0 :: a1 :: a2 :: a3 :: a4 :: r)))) : News h₀ L h (a0 :: a1 :: a2 :: a3 :: a4 :: (T0 ++ r)) := news_sub N fun p hp => by
  simp only [List.mem_append, List.mem_cons] at hp ⊢
  grind
theorem lt_out5 {d : Addr} {a0 a1 a2 a3 a4 : Addr × Obj} {T0 r : List (Addr × Obj)} (N : ∀ p ∈ T0 ++ (a0 :: a1 :: a2 :: a3 :: a4 :: r), p.1 < d) : ∀ p ∈ a0 :: a1 :: a2 :: a3 :: a4 :: (T0 ++ r), p.1 < d := fun p hp => N p (by
  simp only [List.mem_append, List.mem_cons] at hp ⊢
  grind)

theorem news_in6 {h₀ h : Heap} {L : Addr} {a0 a1 a2 a3 a4 a5 : Addr × Obj} {T0 r : List (Addr × Obj)} (N : News h₀ L h (a0 :: a1 :: a2 :: a3 :: a4 :: a5 :: (T0 ++ r))) : News h₀ L h (T0 ++ (a0 :: a1 :: a2 :: a3 :: a4 :: a5 :: r)) := news_sub N fun p hp => by
  simp only [List.mem_append, List.mem_cons] at hp ⊢
  grind
theorem news_out6 {h₀ h : Heap} {L : Addr} {x a0 a1 a2 a3 a4 a5 : Addr × Obj} {T0 r : List (Addr × Obj)} (N : News h₀ L h (x :: (T0 ++ (a0 :: a1 :: a2 :: a3 :: a4 :: a5 :: r)))) : News h₀ L h (x :: a0 :: a1 :: a2 :: a3 :: a4 :: a5 :: (T0 ++ r)) := news_sub N fun p hp => by
  simp only [List.mem_append, List.mem_cons] at hp ⊢
  grind
theorem news_out06 {h₀ h : Heap} {L : Addr} {a0 a1 a2 a3 a4 a5 : Addr × Obj} {T0 r : List (Addr × Obj)} (N : News h₀ L h ((T0 ++ (a0 :: a1 :: a2 :: a3 :: a4 :: a5 :: r)))) : News h₀ L h (a0 :: a1 :: a2 :: a3 :: a4 :: a5 :: (T0 ++ r)) := news_sub N fun p hp => by
  simp only [List.mem_append, List.mem_cons] at hp ⊢
  grind
theorem lt_out6 {d : Addr} {a0 a1 a2 a3 a4 a5 : Addr × Obj} {T0 r : List (Addr × Obj)} (N : ∀ p ∈ T0 ++ (a0 :: a1 :: a2 :: a3 :: a4 :: a5 :: r), p.1 < d) : ∀ p ∈ a0 :: a1 :: a2 :: a3 :: a4 :: a5 :: (T0 ++ r), p.1 < d := fun p hp => N p (by
  simp only [List.mem_append, List.mem_cons] at hp ⊢
  grind)

theorem news_in7 {h₀ h : Heap} {L : Addr} {a0 a1 a2 a3 a4 a5 a6 : Addr × Obj} {T0 r : List (Addr × Obj)} (N : News h₀ L h (a0 :: a1 :: a2 :: a3 :: a4 :: a5 :: a6 :: (T0 ++ r))) : News h₀ L h (T0 ++ (a0 :: a1 :: a2 :: a3 :: a4 :: a5 :: a6 :: r)) := news_sub N fun p hp => by
  simp only [List.mem_append, List.mem_cons] at hp ⊢
  grind
theorem news_out7 {h₀ h : Heap} {L : Addr} {x a0 a1 a2 a3 a4 a5 a6 : Addr × Obj} {T0 r : List (Addr × Obj)} (N : News h₀ L h (x :: (T0 ++ (a0 :: a1 :: a2 :: a3 :: a4 :: a5 :: a6 :: r)))) : News h₀ L h (x :: a0 :: a1 :: a2 :: a3 :: a4 :: a5 :: a6 :: (T0 ++ r)) := news_sub N fun p hp => by
  simp only [List.mem_append, List.mem_cons] at hp ⊢
  grind
theorem news_out07 {h₀ h : Heap} {L : Addr} {a0 a1 a2 a3 a4 a5 a6 : Addr × Obj} {T0 r : List (Addr × Obj)} (N : News h₀ L h ((T0 ++ (a0 :: a1 :: a2 :: a3 :: a4 :: a5 :: a6 :: r)))) : News h₀ L h (a0 :: a1 :: a2 :: a3 :: a4 :: a5 :: a6 :: (T0 ++ r)) := news_sub N fun p hp => by
  simp only [List.mem_append, List.mem_cons] at hp ⊢
  grind
theorem lt_out7 {d : Addr} {a0 a1 a2 a3 a4 a5 a6 : Addr × Obj} {T0 r : List (Addr × Obj)} (N : ∀ p ∈ T0 ++ (a0 :: a1 :: a2 :: a3 :: a4 :: a5 :: a6 :: r), p.1 < d) : ∀ p ∈ a0 :: a1 :: a2 :: a3 :: a4 :: a5 :: a6 :: (T0 ++ r), p.1 < d := fun p hp => N p (by
  simp only [List.mem_append, List.mem_cons] at hp ⊢
  grind)

theorem news_in8 {h₀ h : Heap} {L : Addr} {a0 a1 a2 a3 a4 a5 a6 a7 : Addr × Obj} {T0 r : List (Addr × Obj)} (N : News h₀ L h (a0 :: a1 :: a2 :: a3 :: a4 :: a5 :: a6 :: a7 :: (T0 ++ r))) : News h₀ L h (T0 ++ (a0 :: a1 :: a2 :: a3 :: a4 :: a5 :: a6 :: a7 :: r)) := news_sub N fun p hp => by
  simp only [List.mem_append, List.mem_cons] at hp ⊢
  grind
theorem news_out8 {h₀ h : Heap} {L : Addr} {x a0 a1 a2 a3 a4 a5 a6 a7 : Addr × Obj} {T0 r : List (Addr × Obj)} (N : News h₀ L h (x :: (T0 ++ (a0 :: a1 :: a2 :: a3 :: a4 :: a5 :: a6 :: a7 :: r)))) : News h₀ L h (x :: a0 :: a1 :: a2 :: a3 :: a4 :: a5 :: a6 :: a7 :: (T0 ++ r)) := news_sub N fun p hp => by
  simp only [List.mem_append, List.mem_cons] at hp ⊢
  grind
theorem news_out08 {h₀ h : Heap} {L : Addr} {a0 a1 a2 a3 a4 a5 a6 a7 : Addr × Obj} {T0 r : List (Addr × Obj)} (N : News h₀ L h ((T0 ++ (a0 :: a1 :: a2 :: a3 :: a4 :: a5 :: a6 :: a7 :: r)))) : News h₀ L h (a0 :: a1 :: a2 :: a3 :: a4 :: a5 :: a6 :: a7 :: (T0 ++ r)) := news_sub N fun p hp => by
  simp only [List.mem_append, List.mem_cons] at hp ⊢
  grind
theorem lt_out8 {d : Addr} {a0 a1 a2 a3 a4 a5 a6 a7 : Addr × Obj} {T0 r : List (Addr × Obj)} (N : ∀ p ∈ T0 ++ (a0 :: a1 :: a2 :: a3 :: a4 :: a5 :: a6 :: a7 :: r), p.1 < d) : ∀ p ∈ a0 :: a1 :: a2 :: a3 :: a4 :: a5 :: a6 :: a7 :: (T0 ++ r), p.1 < d := fun p hp => N p (by
  simp only [List.mem_append, List.mem_cons] at hp ⊢
  grind)

def XY (_ _ : Int) : Prop := True
/-- the digits, and seven noughts -/
def pad (x : Int) : List Int := digs x ++ List.replicate 7 0
theorem digs_len {x : Int} (h0 : 0 ≤ x) (h1 : x < 64) : (digs x).length ≤ 6 := by
  simp only [digs, List.length_map, List.length_range]; exact intBits_le h0 h1
theorem pad_len {x : Int} (h0 : 0 ≤ x) (h1 : x < 64) : 7 ≤ (pad x).length ∧ (pad x).length ≤ 13 := by
  have := digs_len h0 h1
  simp only [pad, List.length_append, List.length_replicate]; omega
theorem pad_idx {x k : Int} (h0 : 0 ≤ x) (h1 : x < 64) (hk : k < 7) : k < ((pad x).length : Int) := by
  have := pad_len h0 h1; omega
/-- which figures turn -/
def turnF (x y k : Int) : Int := if (pad x).getD k.toNat 0 = (pad y).getD k.toNat 0 then 0 else 1
theorem turnF_eq {x y k : Int} : turnF x y k = if ((pad x).getD k.toNat 0 != (pad y).getD k.toNat 0) = true then 1 else 0 := by
  unfold turnF; by_cases h : (pad x).getD k.toNat 0 = (pad y).getD k.toNat 0 <;> simp [h]
theorem off1_all {D : Addr} : ∀ {l : List (Addr × Obj)}, LCg.Off1 D l → ∀ p ∈ l, p.1 ≠ D
  | [], _, _, h => nomatch h
  | _ :: _, x, p, h => by
    rcases List.mem_cons.mp h with rfl | h
    · exact x.1
    · exact off1_all x.2 p h
def turnL (x y : Int) : List Int := (rangeKs 0 7).map (turnF x y)
theorem mul_seven {prog : Program} {w : World} {A : Around} {E : Value → Shared → Prop} {s : Shared} {h₀ : Heap} {L : Addr} {m : Str → Option Value} {news : List (Addr × Obj)} {l : Addr} {u tk : Tok} {Q : Value → Shared → Prop}
    (Fm : Fr h₀ L s.heap m) (N : News h₀ L s.heap news) (hm : (l, listOf [Value.int 0 tk].toArray 0) ∈ news)
    (h : ∀ D h', Fr h₀ L h' m → News h₀ L h' ((D, listOf (List.replicate 7 (Value.int 0 tk)).toArray 0) :: news) → (∀ p ∈ news, p.1 < D) → Q (.ref D) { s with heap := h' }) :
    wpAny (model prog w) A (binaryOp .Mult (.ref l) (.int 7 u)) Q E s := 
  KMa.mul Fm N ⟨_, (N _ hm).1, rfl, 0, rfl⟩ (by decide) (by decide) (by show 7 ≤ 256; decide) (by rfl) h
theorem add_pad {prog : Program} {w : World} {A : Around} {E : Value → Shared → Prop} {s : Shared} {h₀ : Heap} {L : Addr} {m : Str → Option Value} {news : List (Addr × Obj)} {a b : Addr} {vs : List Value} {n n2 : Nat} {x : Int} {tk : Tok} {Q : Value → Shared → Prop}
    (F : Fr h₀ L s.heap m) (N : News h₀ L s.heap news) (ha : (a, listOf vs.toArray n) ∈ news) (hb : (b, listOf (List.replicate 7 (Value.int 0 tk)).toArray n2) ∈ news) (hi : IntsAre vs (digs x)) (h0 : 0 ≤ x) (h1 : x < 64)
    (h : ∀ D us h', Fr h₀ L h' m → News h₀ L h' ((D, listOf (List.toArray us) 0) :: news) → (∀ p ∈ news, p.1 < D) → IntsAre us (pad x) → Q (.ref D) { s with heap := h' }) :
    wpAny (model prog w) A (binaryOp .Add (.ref a) (.ref b)) Q E s :=
  kmk_add_ints F N ⟨_, (N _ ha).1, rfl, n, rfl⟩ ⟨_, (N _ hb).1, rfl, n2, rfl⟩ hi (ints_repl tk 7) h (by have := digs_len h0 h1; simp only [List.length_replicate, sizeLine_eq]; omega)
theorem news_in0 {h₀ h : Heap} {L : Addr} {T0 r : List (Addr × Obj)} (N : News h₀ L h (T0 ++ r)) : News h₀ L h (T0 ++ r) := N
theorem news_out0 {h₀ h : Heap} {L : Addr} {x : Addr × Obj} {T0 r : List (Addr × Obj)} (N : News h₀ L h (x :: (T0 ++ r))) : News h₀ L h (x :: (T0 ++ r)) := N
theorem lt_out0 {d : Addr} {T0 r : List (Addr × Obj)} (N : ∀ p ∈ T0 ++ r, p.1 < d) : ∀ p ∈ T0 ++ r, p.1 < d := N

theorem i2d_use {w : World} {p : Program} {loose : List Str} {mean : ExcName → Option Value} {mg mb : Str → Option Value}
  {x : Int} {tx tn : Tok} {news : List (Addr × Obj)} {T0 : List (Addr × Obj)} (hT : TabSt 16 5 4 qualA T0)
  {dp un : Nat} {gd : Option (List Code)} {cn : Str} {cs : Scope} {a : Addr} {ccd : Value} {cl : List (Str × Addr)} {outer : List Env} {A₀ : Around} {base h₀ : Heap} {L : Addr} {m : Str → Option Value} {s : Shared} {Q E : Value → Shared → Prop}
  (F : Fr h₀ L s.heap m) (N : News h₀ L s.heap (T0 ++ news)) (B : Below A₀ base outer h₀) (X : (hd.heap_39 w.params).In h₀)
  (T : Top p loose mean mg mb h₀) (hk : cs.kind = .function) (C1 : CodeHd base 20 16) (hnews : OwnOff news [16]) (hx0 : 0 ≤ x) (hx1 : x < 64)
  (hdp : dp + 8 < recursionLimit) (hu : un + 64 < cLine)
  (hret : ∀ (r : Addr) (vs' : List Value) (T' : List (Addr × Obj)) (h' : Heap) (tk' : Nat), IntsAre vs' (digs x) → TabSt 16 5 4 qualA T' → Fr h₀ L h' m → News h₀ L h' ((r, listOf vs'.toArray 0) :: (T' ++ news)) → (∀ p ∈ T0 ++ news, p.1 < r) → OwnOff T' [r] → TabKeeps T0 news T' → Q (.ref r) { s with heap := h', toks := tk' }) :
    wpAny (model PySem.Challenge.rw_gm0003_01.row.prog w) (ktrTop dp un gd cn cs L a ccd cl outer) (call (.ref 21) [.int x tx, .int 1 tn]) Q E s :=
  i2d w p loose mean mg mb x tx tn hx0 hx1 news hnews T0 hT dp un gd cn cs a ccd cl outer A₀ base h₀ L m s Q E B F X N T hk C1 hdp hu fun r vs' T' h' tk' i t => hret r vs' T' h' tk' i (.inr t)
end Mine
end

-- part L1
section
open PySem PySem.W PyProof.Rows
set_option Elab.async false
namespace Mine
set_option maxRecDepth 100000

local macro_rules | `(tactic| k_mem) => `(tactic| first | assumption | exact List.mem_cons_self | (refine' List.mem_cons_of_mem _ ?_; k_mem))
local macro_rules | `(tactic| k_all) => `(tactic| first | exact TabKeeps.use (by assumption) (by k_mem) (by k_all) | fail "k_all: no table")
local macro_rules | `(tactic| walk_at "MY enterC") => `(tactic| (refine' code_defC ?k1 ?k2 ?k3 ?k4 ?k5 ?kA ?kF ?kK ?k6 ?k7 ?k8 ?k9 ?kB ?kD ?_ ?c2 ?c3 ?c4; (case kA => exact rfl); (case kF => exact rfl); (case kK => assumption); (case k1 => k_asm); (case k2 => k_asm); (case k3 => k_asm); (case k4 => k_asm); (case k5 => k_asm); (case k6 => k_is); (case k7 => k_is); (case k8 => ktr_room); (case k9 => exact BindsTo.of_eq rfl); (case kB => exact rfl); (case kD => decide +kernel); (case c2 => exact rfl); (case c3 => exact rfl); (case c4 => exact rfl); k_whole; intro g' L' h' tk' cells' FG' F' N' Y' B' X' T' l1; have lP := tab_lt (by assumption) (fun p hp => List.mem_append_left _ hp) l1; have l2 := lt_up1 l1; have l3 := lt_up1 l2; have l4 := lt_up1 l3; (try k_lt l1); (try k_lt l2); (try k_lt l3); (try k_lt l4); k_cells Y'; (try simp only [List.cons_append, List.nil_append] at N'); (try dsimp only); (try k_lift B'); (try k_fold)))

local macro_rules | `(tactic| walk_at "MY i2d0") => `(tactic| ((rename TabSt 16 _ _ _ _ => hT'); k_dflt (refine' i2d_use hT' ?F ?N ?B ?X ?T ?hk ?C ?off ?x0 ?x1 ?dd ?uu ?_; (case F => k_asm); (case N => exact news_in0 (by assumption)); (case B => k_asm); (case X => k_asm); (case T => k_asm); (case hk => first | exact rfl | assumption); (case C => assumption); (case off => exact ownOff_one (by k_all)); (case x0 => first | assumption | omega); (case x1 => first | assumption | omega); (case dd => ktr_room); (case uu => ktr_units); k_whole); intro r' vs' Tn' h' tk' I' hTn' F' N' l1 oT' kT'; replace N' := news_out0 N'; replace l1 := lt_out0 l1; clear hT'; (try k_lt l1)))

local macro_rules | `(tactic| walk_at "MY i2d1") => `(tactic| ((rename TabSt 16 _ _ _ _ => hT'); k_dflt (refine' i2d_use hT' ?F ?N ?B ?X ?T ?hk ?C ?off ?x0 ?x1 ?dd ?uu ?_; (case F => k_asm); (case N => exact news_in1 (by assumption)); (case B => k_asm); (case X => k_asm); (case T => k_asm); (case hk => first | exact rfl | assumption); (case C => assumption); (case off => exact ownOff_one (by k_all)); (case x0 => first | assumption | omega); (case x1 => first | assumption | omega); (case dd => ktr_room); (case uu => ktr_units); k_whole); intro r' vs' Tn' h' tk' I' hTn' F' N' l1 oT' kT'; replace N' := news_out1 N'; replace l1 := lt_out1 l1; clear hT'; (try k_lt l1)))

local macro_rules | `(tactic| walk_at "MY i2d2") => `(tactic| ((rename TabSt 16 _ _ _ _ => hT'); k_dflt (refine' i2d_use hT' ?F ?N ?B ?X ?T ?hk ?C ?off ?x0 ?x1 ?dd ?uu ?_; (case F => k_asm); (case N => exact news_in2 (by assumption)); (case B => k_asm); (case X => k_asm); (case T => k_asm); (case hk => first | exact rfl | assumption); (case C => assumption); (case off => exact ownOff_one (by k_all)); (case x0 => first | assumption | omega); (case x1 => first | assumption | omega); (case dd => ktr_room); (case uu => ktr_units); k_whole); intro r' vs' Tn' h' tk' I' hTn' F' N' l1 oT' kT'; replace N' := news_out2 N'; replace l1 := lt_out2 l1; clear hT'; (try k_lt l1)))

local macro_rules | `(tactic| walk_at "MY i2d3") => `(tactic| ((rename TabSt 16 _ _ _ _ => hT'); k_dflt (refine' i2d_use hT' ?F ?N ?B ?X ?T ?hk ?C ?off ?x0 ?x1 ?dd ?uu ?_; (case F => k_asm); (case N => exact news_in3 (by assumption)); (case B => k_asm); (case X => k_asm); (case T => k_asm); (case hk => first | exact rfl | assumption); (case C => assumption); (case off => exact ownOff_one (by k_all)); (case x0 => first | assumption | omega); (case x1 => first | assumption | omega); (case dd => ktr_room); (case uu => ktr_units); k_whole); intro r' vs' Tn' h' tk' I' hTn' F' N' l1 oT' kT'; replace N' := news_out3 N'; replace l1 := lt_out3 l1; clear hT'; (try k_lt l1)))

local macro_rules | `(tactic| walk_at "MY i2d4") => `(tactic| ((rename TabSt 16 _ _ _ _ => hT'); k_dflt (refine' i2d_use hT' ?F ?N ?B ?X ?T ?hk ?C ?off ?x0 ?x1 ?dd ?uu ?_; (case F => k_asm); (case N => exact news_in4 (by assumption)); (case B => k_asm); (case X => k_asm); (case T => k_asm); (case hk => first | exact rfl | assumption); (case C => assumption); (case off => exact ownOff_one (by k_all)); (case x0 => first | assumption | omega); (case x1 => first | assumption | omega); (case dd => ktr_room); (case uu => ktr_units); k_whole); intro r' vs' Tn' h' tk' I' hTn' F' N' l1 oT' kT'; replace N' := news_out4 N'; replace l1 := lt_out4 l1; clear hT'; (try k_lt l1)))

local macro_rules | `(tactic| walk_at "MY i2d5") => `(tactic| ((rename TabSt 16 _ _ _ _ => hT'); k_dflt (refine' i2d_use hT' ?F ?N ?B ?X ?T ?hk ?C ?off ?x0 ?x1 ?dd ?uu ?_; (case F => k_asm); (case N => exact news_in5 (by assumption)); (case B => k_asm); (case X => k_asm); (case T => k_asm); (case hk => first | exact rfl | assumption); (case C => assumption); (case off => exact ownOff_one (by k_all)); (case x0 => first | assumption | omega); (case x1 => first | assumption | omega); (case dd => ktr_room); (case uu => ktr_units); k_whole); intro r' vs' Tn' h' tk' I' hTn' F' N' l1 oT' kT'; replace N' := news_out5 N'; replace l1 := lt_out5 l1; clear hT'; (try k_lt l1)))

local macro_rules | `(tactic| walk_at "MY i2d6") => `(tactic| ((rename TabSt 16 _ _ _ _ => hT'); k_dflt (refine' i2d_use hT' ?F ?N ?B ?X ?T ?hk ?C ?off ?x0 ?x1 ?dd ?uu ?_; (case F => k_asm); (case N => exact news_in6 (by assumption)); (case B => k_asm); (case X => k_asm); (case T => k_asm); (case hk => first | exact rfl | assumption); (case C => assumption); (case off => exact ownOff_one (by k_all)); (case x0 => first | assumption | omega); (case x1 => first | assumption | omega); (case dd => ktr_room); (case uu => ktr_units); k_whole); intro r' vs' Tn' h' tk' I' hTn' F' N' l1 oT' kT'; replace N' := news_out6 N'; replace l1 := lt_out6 l1; clear hT'; (try k_lt l1)))

local macro_rules | `(tactic| walk_at "MY i2d7") => `(tactic| ((rename TabSt 16 _ _ _ _ => hT'); k_dflt (refine' i2d_use hT' ?F ?N ?B ?X ?T ?hk ?C ?off ?x0 ?x1 ?dd ?uu ?_; (case F => k_asm); (case N => exact news_in7 (by assumption)); (case B => k_asm); (case X => k_asm); (case T => k_asm); (case hk => first | exact rfl | assumption); (case C => assumption); (case off => exact ownOff_one (by k_all)); (case x0 => first | assumption | omega); (case x1 => first | assumption | omega); (case dd => ktr_room); (case uu => ktr_units); k_whole); intro r' vs' Tn' h' tk' I' hTn' F' N' l1 oT' kT'; replace N' := news_out7 N'; replace l1 := lt_out7 l1; clear hT'; (try k_lt l1)))

local macro_rules | `(tactic| walk_at "MY i2d8") => `(tactic| ((rename TabSt 16 _ _ _ _ => hT'); k_dflt (refine' i2d_use hT' ?F ?N ?B ?X ?T ?hk ?C ?off ?x0 ?x1 ?dd ?uu ?_; (case F => k_asm); (case N => exact news_in8 (by assumption)); (case B => k_asm); (case X => k_asm); (case T => k_asm); (case hk => first | exact rfl | assumption); (case C => assumption); (case off => exact ownOff_one (by k_all)); (case x0 => first | assumption | omega); (case x1 => first | assumption | omega); (case dd => ktr_room); (case uu => ktr_units); k_whole); intro r' vs' Tn' h' tk' I' hTn' F' N' l1 oT' kT'; replace N' := news_out8 N'; replace l1 := lt_out8 l1; clear hT'; (try k_lt l1)))

local macro_rules | `(tactic| walk_at "call ref") => `(tactic| (k_here; (with_reducible show wpAny _ _ (call (Value.ref 21) _) _ _ _); first | walk_at "MY i2d0" | walk_at "MY i2d1" | walk_at "MY i2d2" | walk_at "MY i2d3" | walk_at "MY i2d4" | walk_at "MY i2d5" | walk_at "MY i2d6" | walk_at "MY i2d7" | walk_at "MY i2d8"))

theorem kcf_XY {prog : Program} {w : World} {A : Around} {h₀ : Heap} {L : Addr} {m : Str → Option Value} {env : Env} {elt : Expr} {z : Str} {scope : Scope} {cl : List (Str × Addr)} {s : Shared} {S : List (Addr × Obj) → Prop} {Fin : List Value → List (Addr × Obj) → Prop} {news : List (Addr × Obj)} {x y : Int} (_ : XY x y)
    (turn : ∀ k t I oI C oC D m₂ ys h tk (E' : Value → Shared → Prop), 0 ≤ k → k < 0 + ((7 : Nat) : Int) → LCg.NsObj oC m₂ → m₂ z = some (.int k t) → Fr h₀ L h m → News h₀ L h ((I, oI) :: (C, oC) :: (D, LCg.lst ys) :: news) → LCg.Off3 I C D news → ((@Ne Nat I C) ∧ (@Ne Nat I D) ∧ (@Ne Nat C D)) → KPfMark →
      wpAny (model prog w) A (eval elt (compEnvC scope cl C env)) (LCg.CompEnd h₀ L m { s with heap := h, toks := tk } I oI C oC D (LCg.lst ys) S (fun y' news' => KCfEl news (turnF x y k) y' news')) E' { s with heap := h, toks := tk })
    (fin : KPfDone (∀ ys, IntsAre ys (turnL x y) → Fin ys news)) : LCg.CompRest prog w A h₀ L m env elt z scope cl s S (fun i v => ∃ t, v = .int (0 + (i : Int)) t) Fin 7 0 [] news := kcf_range (turnF x y) turn fin
local macro_rules | `(tactic| walk_at "subscriptTail Name Name ref int") => `(tactic| (k_here; (with_reducible show wpAny _ _ (subscriptTail _ _ (Value.ref _) (Value.int _ _)) _ _ _); k_dflt (refine' ksa_sub ?k1 ?k2 ?k3 ?k4 ?k5 ?k6 ?_ ?k7; (case k1 => k_asm); (case k2 => k_mem); (case k3 => assumption); (case k4 => omega); (case k5 => exact pad_idx (by assumption) (by assumption) (by omega)); (case k6 => omega); (case k7 => with_unfolding_all rfl); k_whole); intro _))
local macro_rules | `(tactic| walk_at "KCfEl") => `(tactic| exact kcf_el turnF_eq rfl rfl)
local macro_rules | `(tactic| walk_at "CompSrc") => `(tactic| (k_here; (rename XY _ _ => xy'); k_dflt (refine LCg.CompSrc.range (by rfl) (by k_asm) (by k_asm) (by assumption) (by decide) (by rfl) (by exact Nat.le_of_ble_eq_true rfl) ?_; intro g'; (refine' kcf_XY xy' (fun k' t' I' oI' C' oC' D' m' ys' h' tk' E' hlo' hhi' hC' hx' F' N' off' ne' hMark' => ?_) ?_))))
local macro_rules | `(tactic| walk_at "binaryOp Mult ref int") => `(tactic| (k_here; k_dflt (refine' mul_seven ?F ?N ?l ?_; (case F => k_asm); (case N => k_asm); (case l => k_mem); k_whole); intro l' h' F' N' l1; (try k_lt l1)))
local macro_rules | `(tactic| walk_at "binaryOp Add ref ref") => `(tactic| (k_here; k_dflt (refine' add_pad ?F ?N ?a ?b ?i ?x0 ?x1 ?_; (case F => k_asm); (case N => k_asm); (case a => k_mem); (case b => k_mem); (case i => assumption); (case x0 => assumption); (case x1 => assumption); k_whole); intro D' us' h' F' N' l1 I'; (try k_lt l1)))
set_option maxHeartbeats 1000000 in
theorem turned_spec (w : World) (p : Program) (loose : List Str) (mean : ExcName → Option Value) (mg mb : Str → Option Value)
  (x y : Int) (tx ty : Tok) (hx0 : 0 ≤ x) (hx1 : x < 64) (hy0 : 0 ≤ y) (hy1 : y < 64) (news : List (Addr × Obj)) (hnews : OwnOff news [16]) (T0 : List (Addr × Obj)) (hT : TabSt 16 5 4 qualA T0)
  (dp un : Nat) (gd : Option (List Code)) (cn : Str) (cs : Scope) (a : Addr) (ccd : Value) (cl : List (Str × Addr)) (outer : List Env) (A₀ : Around) (base h₀ : Heap) (L : Addr) (m : Str → Option Value) (s : Shared) (Q E : Value → Shared → Prop)
  (B : Below A₀ base outer h₀) (F : Fr h₀ L s.heap m) (X : (hd.heap_39 w.params).In h₀) (N : News h₀ L s.heap (T0 ++ news))
  (T : Top p loose mean mg mb h₀) (hk : cs.kind = .function) (C1 : CodeHd base 20 16)
  (hdp : dp + 12 < recursionLimit) (hu : un + 100 < cLine)
  (hret : ∀ (r : Addr) (vs' : List Value) (T' : List (Addr × Obj)) (h' : Heap) (tk' : Nat), IntsAre vs' (turnL x y) → TabSt 16 5 4 qualA T' → Fr h₀ L h' m → News h₀ L h' ((r, LCg.lst vs') :: (T' ++ news)) → OwnOff (T' ++ news) [r] → TabKeeps T0 news T' → Q (.ref r) { s with heap := h', toks := tk' }) :
    wpAny (model PySem.Challenge.rw_gm0003_01.row.prog w) (ktrTop dp un gd cn cs L a ccd cl outer) (call (.ref 47) [.int x tx, .int y ty]) Q E s := by
  revert X; k_fill; intro X
  have hMk := kstMark
  have hxy : XY x y := trivial
  refine wpAny_call ?_
  k_dflt (walk_at "MY enterC")
  k_steps
  · (rename _ ≠ _ ∧ _ => o1)
    (rename TabSt 16 _ _ _ _ => hT')
    (rename IntsAre _ (turnL _ _) => I')
    refine hret _ _ _ _ _ I' hT' (by k_asm) (news_sub (by k_asm) ?sub) (ownOff_one (off1_all (D := _) ?off)) ?tk
    case sub => exact List.forall_mem_cons.mpr ⟨List.mem_cons_self, by intro p hp; k_mem⟩
    case off => exact o1.2.2.2.2.2.2.2.2.2.2.2
    case tk =>
      (rename TabKeeps T0 _ _ => k1)
      (rename TabKeeps _ _ _ => k2)
      exact fun d o hm h0 => k2 d o (by k_mem) (k1 d o (by k_mem) h0)
end Mine
end

-- part A1
section
open PySem PySem.W PyProof.Rows
set_option Elab.async false
namespace Mine
set_option maxRecDepth 100000

structure EmptyD (w : World) (d : Addr) (o : Obj) : Prop where
  low : (d == sysModules) = false
  s1 : o.IsDictOf (strKind PySem.Challenge.rw_gm0003_01.row.prog w) []
  s2 : PyProof.V.FlatPairs PyData.str [] []
  i1 : o.IsDictOf (intKind PySem.Challenge.rw_gm0003_01.row.prog w) []
  i2 : PyProof.V.FlatPairs PyData.int [] []

theorem for_items_empty {w : World} {A : Around} {E : Value → Shared → Prop} {s : Shared} {h₀ : Heap} {env : Env} {L : Addr} (hL : env.locals = L) {m : Str → Option Value} {news : List (Addr × Obj)} {elts : List Expr} {kk : Nat} {tp np ap cp pos : Pos} {x : Str} {d : Addr} {o : Obj} {body : List Stmt} {pl : Sem Bool} {Q : Flow → Shared → Prop}
    (hh : A.handled = none) (F : Fr h₀ L s.heap m) (N : News h₀ L s.heap news) (hn : ∀ Q : Value → Shared → Prop, wpAny (model PySem.Challenge.rw_gm0003_01.row.prog w) A (getMethod (.ref d) (Str.ofString "items") pl) (fun fx s₂ => wpAny (model PySem.Challenge.rw_gm0003_01.row.prog w) A (callWith cp fx.1 fx.2 (backTo cp (starEach [] env)) []) Q E s₂) E s → wpAny (model PySem.Challenge.rw_gm0003_01.row.prog w) A (eval (.Call (.Attribute (.Name x np) (Str.ofString "items") ap) [] [] cp) env) Q E s) (hm : (d, o) ∈ news) (e : EmptyD w d o)
    (hs : ∀ y, foldedSetIterable (.Call (.Attribute (.Name x np) (Str.ofString "items") ap) [] [] cp) env y = pure y) (hE : PassesOwn (model PySem.Challenge.rw_gm0003_01.row.prog w) A env E)
    (hQ : ∀ h tk, Fr h₀ L h m → News h₀ L h news → Q .next { s with heap := h, toks := tk }) :
    wpAny (model PySem.Challenge.rw_gm0003_01.row.prog w) A (exec (.For (.Tuple elts kk tp) (.Call (.Attribute (.Name x np) (Str.ofString "items") ap) [] [] cp) body [] pos) env) Q E s := by
  subst hL
  have T : TabAt (strKind PySem.Challenge.rw_gm0003_01.row.prog w) PyData.str s.heap d [] := TabAt.ofNews N hm e.low e.s1 e.s2
  refine For_turns F ?_ hs hE
  refine hn _ ?_
  refine getMethod_tab PySem.F.slot_dict_items PySem.F.type_dict_items T ?_
  refine callWith_method0 ?_
  refine call_items_tab T F N ?_
  intro h' o' hv' F' N'
  replace N' := kti_tail N'
  have T' : TabAt (strKind PySem.Challenge.rw_gm0003_01.row.prog w) PyData.str h' d [] := TabAt.ofNews N' hm e.low e.s1 e.s2
  refine kti_items (xs := []) hh F' N' hv' T' hm (fun _ _ h => Value.isStrOf_shape h) rfl ?_
  intro I l1
  refine ItemsRest.zero ?_
  intro h tk F2 N2
  exact hQ h tk F2 N2
local macro_rules | `(tactic| k_mem) => `(tactic| first | assumption | exact List.mem_cons_self | (refine' List.mem_cons_of_mem _ ?_; k_mem))

local macro_rules | `(tactic| walk_at "exec For Tuple Call cons nil") => `(tactic| (k_here; k_dflt (refine' for_items_empty rfl ?hh ?F ?N ?hn ?hm ?e ?hs ?hE ?_; (case hh => exact rfl); (case F => k_asm); (case N => k_asm); (case hn => exact fun Q' h' => MethodCall_ (ld (by k_asm) (by rfl) h')); (case hm => k_mem); (case e => assumption); (case hs => intro _; with_unfolding_all rfl); (case hE => passes_own); k_whole); intro h' tk' F' N'))
set_option maxHeartbeats 1000000 in
theorem add_callers_spec (w : World) (p : Program) (loose : List Str) (mean : ExcName → Option Value) (mg mb : Str → Option Value)
  (d1 d2 : Addr) (o1 o2 : Obj) (e1 : EmptyD w d1 o1) (e2 : EmptyD w d2 o2) (news : List (Addr × Obj))
  (dp un : Nat) (gd : Option (List Code)) (cn : Str) (cs : Scope) (a : Addr) (ccd : Value) (cl : List (Str × Addr)) (outer : List Env) (A₀ : Around) (base h₀ : Heap) (L : Addr) (m : Str → Option Value) (s : Shared) (Q E : Value → Shared → Prop)
  (B : Below A₀ base outer h₀) (F : Fr h₀ L s.heap m) (X : (hd.heap_39 w.params).In h₀) (N : News h₀ L s.heap ((d1, o1) :: (d2, o2) :: news))
  (T : Top p loose mean mg mb h₀) (hk : cs.kind = .function)
  (hdp : dp + 12 < recursionLimit) (hu : un + 100 < cLine)
  (hret : ∀ (r : Addr) (o : Obj) (h' : Heap) (tk' : Nat), EmptyD w r o → Fr h₀ L h' m → News h₀ L h' ((r, o) :: (d1, o1) :: (d2, o2) :: news) → (∀ p ∈ ((d1, o1) : Addr × Obj) :: (d2, o2) :: news, p.1 < r) → Q (.ref r) { s with heap := h', toks := tk' }) :
    wpAny (model PySem.Challenge.rw_gm0003_01.row.prog w) (ktrTop dp un gd cn cs L a ccd cl outer) (call (.ref 42) [.ref d1, .ref d2]) Q E s := by
  revert X; k_fill; intro X
  have hMk := kstMark
  refine wpAny_call ?_
  k_dflt cell_enter
  k_steps
  · exact hret _ _ _ _ ⟨by assumption, by assumption, by assumption, by assumption, by assumption⟩ (by k_asm) (by k_asm) (allLt_at (by assumption))
end Mine
end

-- part A2
section
open PySem PySem.W PyProof.Rows
set_option Elab.async false
namespace Mine
set_option maxRecDepth 100000
local macro_rules | `(tactic| walk_at "MY idleA20") => `(tactic| fail "idle")

theorem keep_two {h₀ h : Heap} {L : Addr} {x y a b c d : Addr × Obj} {news : List (Addr × Obj)} (N : News h₀ L h (x :: y :: a :: b :: c :: d :: news)) : News h₀ L h (x :: y :: news) :=
  news_sub N (List.forall_mem_cons.mpr ⟨.head _, List.forall_mem_cons.mpr ⟨.tail _ (.head _), fun p hp => .tail _ (.tail _ (.tail _ (.tail _ (.tail _ (.tail _ hp)))))⟩⟩)
abbrev tup5 (a b c d : Int) (ta tb tc td : Tok) (r : Addr) : Obj := { cls := .type "tuple", data := .seq #[.int a ta, .int b tb, .int c tc, .int d td, .ref r] }
theorem add_callers_use {w : World} {p : Program} {loose : List Str} {mean : ExcName → Option Value} {mg mb : Str → Option Value}
  {d1 d2 : Addr} {o1 o2 : Obj} {news : List (Addr × Obj)}
  {dp un : Nat} {gd : Option (List Code)} {cn : Str} {cs : Scope} {a : Addr} {ccd : Value} {cl : List (Str × Addr)} {outer : List Env} {A₀ : Around} {base h₀ : Heap} {L : Addr} {m : Str → Option Value} {s : Shared} {Q E : Value → Shared → Prop}
  (F : Fr h₀ L s.heap m) (N : News h₀ L s.heap news) (hm1 : (d1, o1) ∈ news) (hm2 : (d2, o2) ∈ news) (e1 : EmptyD w d1 o1) (e2 : EmptyD w d2 o2) 
  (B : Below A₀ base outer h₀) (X : (hd.heap_39 w.params).In h₀) (T : Top p loose mean mg mb h₀) (hk : cs.kind = .function)
  (hdp : dp + 12 < recursionLimit) (hu : un + 100 < cLine)
  (hret : ∀ (r : Addr) (o : Obj) (h' : Heap) (tk' : Nat), EmptyD w r o → Fr h₀ L h' m → News h₀ L h' ((r, o) :: news) → (∀ p ∈ news, p.1 < r) → Q (.ref r) { s with heap := h', toks := tk' }) :
    wpAny (model PySem.Challenge.rw_gm0003_01.row.prog w) (ktrTop dp un gd cn cs L a ccd cl outer) (call (.ref 42) [.ref d1, .ref d2]) Q E s := by
  refine add_callers_spec w p loose mean mg mb d1 d2 o1 o2 e1 e2 news dp un gd cn cs a ccd cl outer A₀ base h₀ L m s Q E B F X (news_sub N ?_) T hk hdp hu ?_
  · exact List.forall_mem_cons.mpr ⟨hm1, List.forall_mem_cons.mpr ⟨hm2, fun p hp => hp⟩⟩
  · intro r o h' tk' e F' N' l1
    refine hret r o h' tk' e F' (news_sub N' ?_) (fun p hp => l1 p (.tail _ (.tail _ hp)))
    exact List.forall_mem_cons.mpr ⟨.head _, fun p hp => .tail _ (.tail _ (.tail _ hp))⟩
local macro_rules | `(tactic| k_mem) => `(tactic| first | assumption | exact List.mem_cons_self | (refine' List.mem_cons_of_mem _ ?_; k_mem))
local macro_rules | `(tactic| walk_at "call ref") => `(tactic| (k_here; k_dflt (refine' add_callers_use ?F ?N ?m1 ?m2 ?e1 ?e2 ?B ?X ?T ?hk ?dd ?uu ?_; (case F => k_asm); (case N => k_asm); (case m1 => k_mem); (case m2 => k_mem); (case e1 => assumption); (case e2 => assumption); (case B => k_asm); (case X => k_asm); (case T => k_asm); (case hk => exact rfl); (case dd => ktr_room); (case uu => ktr_units); k_whole); intro r' o' h' tk' e' F' N' l1; (try k_lt l1)))
set_option maxHeartbeats 1000000 in
theorem add_func_stats_spec (w : World) (p : Program) (loose : List Str) (mean : ExcName → Option Value) (mg mb : Str → Option Value)
  (t1 t2 d1 d2 : Addr) (o1 o2 : Obj) (e1 : EmptyD w d1 o1) (e2 : EmptyD w d2 o2) (a1 a2 a3 a4 b1 b2 b3 b4 : Int) (u1 u2 u3 u4 v1 v2 v3 v4 : Tok) (news : List (Addr × Obj))
  (dp un : Nat) (gd : Option (List Code)) (cn : Str) (cs : Scope) (a : Addr) (ccd : Value) (cl : List (Str × Addr)) (outer : List Env) (A₀ : Around) (base h₀ : Heap) (L : Addr) (m : Str → Option Value) (s : Shared) (Q E : Value → Shared → Prop)
  (B : Below A₀ base outer h₀) (F : Fr h₀ L s.heap m) (X : (hd.heap_39 w.params).In h₀) (N : News h₀ L s.heap ((t1, tup5 a1 a2 a3 a4 u1 u2 u3 u4 d1) :: (t2, tup5 b1 b2 b3 b4 v1 v2 v3 v4 d2) :: (d1, o1) :: (d2, o2) :: news))
  (T : Top p loose mean mg mb h₀) (hk : cs.kind = .function)
  (hdp : dp + 14 < recursionLimit) (hu : un + 120 < cLine)
  (hret : ∀ (r d : Addr) (o : Obj) (w1 w2 w3 w4 : Tok) (h' : Heap) (tk' : Nat), EmptyD w d o → Fr h₀ L h' m → News h₀ L h' ((r, tup5 (b1 + a1) (b2 + a2) (b3 + a3) (b4 + a4) w1 w2 w3 w4 d) :: (d, o) :: news) → (∀ p ∈ ((t1, tup5 a1 a2 a3 a4 u1 u2 u3 u4 d1) : Addr × Obj) :: (t2, tup5 b1 b2 b3 b4 v1 v2 v3 v4 d2) :: (d1, o1) :: (d2, o2) :: news, p.1 < d) → (@LT.lt Nat _ d r) → Q (.ref r) { s with heap := h', toks := tk' }) :
    wpAny (model PySem.Challenge.rw_gm0003_01.row.prog w) (ktrTop dp un gd cn cs L a ccd cl outer) (call (.ref 35) [.ref t1, .ref t2]) Q E s := by
  revert X; k_fill; intro X
  have hMk := kstMark
  refine wpAny_call ?_
  k_dflt cell_enter
  k_steps
  · (rename EmptyD _ _ _ => e9)
    (rename News _ _ _ _ => N9)
    exact hret _ _ _ _ _ _ _ _ _ e9 (by k_asm) (keep_two N9) (allLt_at (by first | assumption | exact ⟨by omega, by omega, by omega, by omega, by assumption⟩)) (by omega)
end Mine
end

-- part R0
section
open PySem PySem.W PyProof.Rows PySem.Calls
set_option Elab.async false
namespace Mine
set_option maxRecDepth 100000

def EndR (h₀ : Heap) (L I : Addr) (oI : Obj) (J : (Str → Option Value) → List (Addr × Obj) → Prop) (s₁ s₂ : Shared) : Prop :=
  ∃ h' tk m' nx, s₂ = { s₁ with heap := h', toks := tk } ∧ Fr h₀ L h' m' ∧ News h₀ L h' ((I, oI) :: nx) ∧ (∀ p ∈ nx, p.1 ≠ I) ∧ J m' nx
def PostR (h₀ : Heap) (L I : Addr) (oI : Obj) (J : (Str → Option Value) → List (Addr × Obj) → Prop) (s₁ : Shared) (Q : Flow → Shared → Prop) (f : Flow) (s₂ : Shared) : Prop :=
  match f with
  | .ret v => Q (.ret v) s₂
  | .brk => Q .next s₂
  | _ => EndR h₀ L I oI J s₁ s₂

section
variable {prog : Program} {w : World} {A : Around} {E : Value → Shared → Prop} {s : Shared} {env : Env} {h₀ : Heap} {x : Str} {body : List Stmt} {Q : Flow → Shared → Prop}
theorem range_turns {r : Addr} {a₀ b₀ : Int} {t₀ u₀ v₀ : Tok} {n : Nat} {m₀ : Str → Option Value} {news : List (Addr × Obj)} (J : Nat → (Str → Option Value) → List (Addr × Obj) → Prop)
    (hh : A.handled = none) (hr : IsRange s.heap r a₀ b₀ 1 t₀ u₀ v₀) (hsmall : Builtin.Range.small a₀ b₀ 1 = true) (hn : Builtin.Range.rangeSize a₀ b₀ 1 = (n : Int)) (F : Fr h₀ env.locals s.heap m₀) (N : News h₀ env.locals s.heap news) (hj : J 0 m₀ news)
    (turn : ∀ (i : Nat) t m₁ nx I oI h tk, i < n → J i m₁ nx → (∀ p ∈ nx, p.1 ≠ I) → Fr h₀ env.locals h (fun y => if y = x then some (.int (a₀ + i) t) else m₁ y) → News h₀ env.locals h ((I, oI) :: nx) →
      wpAny (model prog w) A (execs body env) (PostR h₀ env.locals I oI (J (i + 1)) { s with heap := h, toks := tk } Q) E { s with heap := h, toks := tk })
    (done : ∀ m₁ nx h tk, J n m₁ nx → Fr h₀ env.locals h m₁ → News h₀ env.locals h nx → Q .next { s with heap := h, toks := tk }) :
    wpAny (model prog w) A (pyIter (.ref r)) (fun it s₂ => LoopAtV prog w A h₀ env x body Q E it s₂) E s := by
  refine wpAny_pyIter_range hr hsmall ?_
  have W : Walks prog w A s.heap.objs.size [s.heap.objs.size] [s.heap.objs.size] n (fun i v => i < n ∧ ∃ t, v = .int (a₀ + i * 1) t)
      (fun i h => IsRangeIter h s.heap.objs.size (a₀ + (i : Nat) * 1) ((n : Int) - (i : Nat)) 1) := (Walks.range hh _ a₀ 1 n).bound
  refine ⟨_, _, _, n, _, _, m₀, news, J, rfl, W, ?_, ?_, ?_, (by show IsRangeIter _ _ _ _ _; rw [hn]; simpa using Heap.get?_push_size _ rfl), F.push _, (fun p hp => ⟨Heap.get?_push_of_some _ (N p hp).1, (N p hp).2⟩), hj, ?_, ?_⟩
  · intro hm
    exact absurd F.ns.lt ((List.mem_singleton.mp hm) ▸ Nat.lt_irrefl _)
  · intro b hb
    rw [List.mem_singleton.mp hb]
    exact next_is_new F
  · intro p hp hI
    exact absurd (Heap.lt_size (N p hp).1) ((List.mem_singleton.mp hI) ▸ Nat.lt_irrefl _)
  · rintro i v m₁ nx s₁ own ⟨hh', tk', rfl⟩ hin ⟨_, t, rfl⟩ hJ hoff hown hget hall hst F₁ N₁
    have e1 : a₀ + (i : Int) * 1 = a₀ + (i : Int) := by omega
    rw [e1] at F₁
    obtain ⟨oI, hst'⟩ : ∃ oI, hh'.get? s.heap.objs.size = some oI := ⟨_, hst⟩
    have hI₀ := next_is_new F
    have hmem := hall s.heap.objs.size (.head _) hI₀ _ hst'
    refine wpAny_mono (turn i t m₁ nx s.heap.objs.size oI hh' tk' hin hJ (fun p hp e => hoff p hp (e ▸ .head _)) F₁ (fun p hp => ?_)) (fun f s₂ p => ?_) fun _ _ e => e
    · rcases List.mem_cons.mp hp with rfl | hp
      · exact N₁ _ (List.mem_append_left _ hmem)
      · exact N₁ _ (List.mem_append_right _ hp)
    · have fin : EndR h₀ env.locals s.heap.objs.size oI (J (i + 1)) { s with heap := hh', toks := tk' } s₂ → LoopStepU h₀ env.locals [s.heap.objs.size] own (J (i + 1)) { s with heap := hh', toks := tk' } .next s₂ := by
        rintro ⟨h', tk, m', nx', e, F', N', ho, hm⟩
        refine ⟨rfl, h', tk, m', nx', e, F', fun p hp => ?_, fun p hp hq => ho p hp (List.mem_singleton.mp hq), hm⟩
        rcases List.mem_append.mp hp with hp | hp
        · have e2 := List.mem_singleton.mp (hown p hp)
          have e3 := hget p hp
          rw [e2, hst'] at e3
          have e4 : p = (s.heap.objs.size, oI) := Prod.ext e2 (Option.some.inj e3).symm
          rw [e4]
          exact N' _ (.head _)
        · exact N' p (.tail _ hp)
      cases f with
      | ret v => exact .ret p
      | brk => exact .brk p
      | next => exact .next (fin p)
      | cont => exact .cont (fin p)
  · rintro h' tk m' nx F' N' _ hJ
    exact done m' nx h' tk hJ F' N'
end
end Mine
end

-- part W0
section
open PySem PySem.W PyProof.Rows
set_option Elab.async false
namespace Mine
set_option maxRecDepth 100000

def sumTo (f : Int → Int) (a : Int) : Nat → Int
  | 0 => 0
  | i + 1 => f (a + i) + sumTo f a i
def fl1 (k : Int) : Int := (turnL k (k + 1)).sum
def fl2 (_ : Int) : Int := 1
def fl3 (k : Int) : Int := (turnL k (k + 1)).getD 0 0
def fl4 (k : Int) : Int := (turnL k (k + 1)).getD 1 0

theorem turned_use {w : World} {p : Program} {loose : List Str} {mean : ExcName → Option Value} {mg mb : Str → Option Value}
  {x y : Int} {tx ty : Tok} {news : List (Addr × Obj)} {T0 : List (Addr × Obj)} (hT : TabSt 16 5 4 qualA T0)
  {dp un : Nat} {gd : Option (List Code)} {cn : Str} {cs : Scope} {a : Addr} {ccd : Value} {cl : List (Str × Addr)} {outer : List Env} {A₀ : Around} {base h₀ : Heap} {L : Addr} {m : Str → Option Value} {s : Shared} {Q E : Value → Shared → Prop}
  (F : Fr h₀ L s.heap m) (N : News h₀ L s.heap (T0 ++ news)) (B : Below A₀ base outer h₀) (X : (hd.heap_39 w.params).In h₀)
  (T : Top p loose mean mg mb h₀) (hk : cs.kind = .function) (C1 : CodeHd base 20 16) (hnews : OwnOff news [16]) (hx0 : 0 ≤ x) (hx1 : x < 64) (hy0 : 0 ≤ y) (hy1 : y < 64)
  (hdp : dp + 12 < recursionLimit) (hu : un + 100 < cLine)
  (hret : ∀ (r : Addr) (vs' : List Value) (T' : List (Addr × Obj)) (h' : Heap) (tk' : Nat), IntsAre vs' (turnL x y) → TabSt 16 5 4 qualA T' → Fr h₀ L h' m → News h₀ L h' ((r, LCg.lst vs') :: (T' ++ news)) → OwnOff (T' ++ news) [r] → TabKeeps T0 news T' → Q (.ref r) { s with heap := h', toks := tk' }) :
    wpAny (model PySem.Challenge.rw_gm0003_01.row.prog w) (ktrTop dp un gd cn cs L a ccd cl outer) (call (.ref 47) [.int x tx, .int y ty]) Q E s :=
  turned_spec w p loose mean mg mb x y tx ty hx0 hx1 hy0 hy1 news hnews T0 hT dp un gd cn cs a ccd cl outer A₀ base h₀ L m s Q E B F X N T hk C1 hdp hu hret

theorem add_func_stats_use {w : World} {p : Program} {loose : List Str} {mean : ExcName → Option Value} {mg mb : Str → Option Value}
  {t1 t2 d1 d2 : Addr} {o1 o2 : Obj} {a1 a2 a3 a4 b1 b2 b3 b4 : Int} {u1 u2 u3 u4 v1 v2 v3 v4 : Tok} {news : List (Addr × Obj)}
  {dp un : Nat} {gd : Option (List Code)} {cn : Str} {cs : Scope} {a : Addr} {ccd : Value} {cl : List (Str × Addr)} {outer : List Env} {A₀ : Around} {base h₀ : Heap} {L : Addr} {m : Str → Option Value} {s : Shared} {Q E : Value → Shared → Prop}
  (F : Fr h₀ L s.heap m) (N : News h₀ L s.heap news) (hm1 : (t1, tup5 a1 a2 a3 a4 u1 u2 u3 u4 d1) ∈ news) (hm2 : (t2, tup5 b1 b2 b3 b4 v1 v2 v3 v4 d2) ∈ news) (hm3 : (d1, o1) ∈ news) (hm4 : (d2, o2) ∈ news) (e1 : EmptyD w d1 o1) (e2 : EmptyD w d2 o2)
  (B : Below A₀ base outer h₀) (X : (hd.heap_39 w.params).In h₀) (T : Top p loose mean mg mb h₀) (hk : cs.kind = .function)
  (hdp : dp + 14 < recursionLimit) (hu : un + 120 < cLine)
  (hret : ∀ (r d : Addr) (o : Obj) (w1 w2 w3 w4 : Tok) (h' : Heap) (tk' : Nat), EmptyD w d o → Fr h₀ L h' m → News h₀ L h' ((r, tup5 (b1 + a1) (b2 + a2) (b3 + a3) (b4 + a4) w1 w2 w3 w4 d) :: (d, o) :: news) → (∀ p ∈ news, p.1 < d) → (@LT.lt Nat _ d r) → Q (.ref r) { s with heap := h', toks := tk' }) :
    wpAny (model PySem.Challenge.rw_gm0003_01.row.prog w) (ktrTop dp un gd cn cs L a ccd cl outer) (call (.ref 35) [.ref t1, .ref t2]) Q E s := by
  refine add_func_stats_spec w p loose mean mg mb t1 t2 d1 d2 o1 o2 e1 e2 a1 a2 a3 a4 b1 b2 b3 b4 u1 u2 u3 u4 v1 v2 v3 v4 news dp un gd cn cs a ccd cl outer A₀ base h₀ L m s Q E B F X (news_sub N ?_) T hk hdp hu ?_
  · exact List.forall_mem_cons.mpr ⟨hm1, List.forall_mem_cons.mpr ⟨hm2, List.forall_mem_cons.mpr ⟨hm3, List.forall_mem_cons.mpr ⟨hm4, fun p hp => hp⟩⟩⟩⟩
  · intro r d o w1 w2 w3 w4 h' tk' e F' N' l1 l2
    exact hret r d o w1 w2 w3 w4 h' tk' e F' N' (fun p hp => l1 p (.tail _ (.tail _ (.tail _ (.tail _ hp))))) l2

def JW (w : World) (T0 news : List (Addr × Obj)) (a : Int) (i : Nat) (m : Str → Option Value) (nx : List (Addr × Obj)) : Prop :=
  ∃ (t d : Addr) (o : Obj) (u1 u2 u3 u4 : Tok) (T : List (Addr × Obj)), nx = (t, tup5 (sumTo fl1 a i) (sumTo fl2 a i) (sumTo fl3 a i) (sumTo fl4 a i) u1 u2 u3 u4 d) :: (d, o) :: (T ++ news) ∧ EmptyD w d o ∧ TabSt 16 5 4 qualA T ∧ m (Str.ofString "whole") = some (.ref t) ∧ (@LT.lt Nat _ 16 t) ∧ (@LT.lt Nat _ 16 d) ∧ TabKeeps T0 news T
abbrev tup4 (a b c d : Int) (ta tb tc td : Tok) : Obj := { cls := .type "tuple", data := .seq #[.int a ta, .int b tb, .int c tc, .int d td] }
def WM (_ : World) (_ _ : List (Addr × Obj)) (_ _ : Int) : Prop := True
def Cs (a : Int) (i : Nat) (c1 c2 c3 c4 : Int) : Prop := c1 = sumTo fl1 a i ∧ c2 = sumTo fl2 a i ∧ c3 = sumTo fl3 a i ∧ c4 = sumTo fl4 a i
theorem Cs.next {a : Int} {i : Nat} {c1 c2 c3 c4 : Int} (h : Cs a i c1 c2 c3 c4) {k : Int} (hk : k = a + i) : Cs a (i + 1) ((turnL k (k + 1)).sum + c1) (1 + c2) ((turnL k (k + 1)).getD 0 0 + c3) ((turnL k (k + 1)).getD 1 0 + c4) := by
  obtain ⟨rfl, rfl, rfl, rfl⟩ := h
  subst hk
  exact ⟨rfl, rfl, rfl, rfl⟩
theorem map_whole {m : Str → Option Value} {v : Value} (h : m (Str.ofString "whole") = some v) : (fun y => if y = Str.ofString "whole" then some v else m y) = m := by
  funext y
  by_cases e : y = Str.ofString "whole"
  · rw [if_pos e, e, h]
  · rw [if_neg e]

theorem map_whole2 {m : Str → Option Value} {v v9 : Value} {x : Str} (h : m (Str.ofString "whole") = some v) : (fun y => if y = x then some v9 else if y = Str.ofString "whole" then some v else m y) = fun y => if y = x then some v9 else m y := by
  funext y
  have := congrFun (map_whole h) y
  by_cases e : y = x
  · rw [if_pos e, if_pos e]
  · rw [if_neg e, if_neg e]; exact this
theorem tab_ne {P ln co : Nat} {q : Str} {T0 : List (Addr × Obj)} {I : Addr} (h : TabSt P ln co q T0) (hl : ∀ p ∈ T0, p.1 ≠ I) : @Ne Nat I P := by
  rcases h with rfl | ⟨c', oc, vq, tq, rfl, _, _⟩
  · exact fun e => hl _ (.head _) e.symm
  · exact fun e => hl _ (.head _) e.symm
theorem whole_loop {w : World} {A : Around} {E : Value → Shared → Prop} {s : Shared} {env : Env} {h₀ : Heap} {body : List Stmt} {Q : Flow → Shared → Prop} {r : Addr} {a b : Int} {t₀ u₀ v₀ : Tok} {m₀ : Str → Option Value} {news : List (Addr × Obj)}
    {t d : Addr} {o : Obj} {u1 u2 u3 u4 : Tok} {T : List (Addr × Obj)} (_ : WM w T news a b) (ha : 0 ≤ a) (hab : a ≤ b) (hb : b ≤ 41)
    (hh : A.handled = none) (hr : IsRange s.heap r a b 1 t₀ u₀ v₀) (F : Fr h₀ env.locals s.heap m₀) (N : News h₀ env.locals s.heap ((t, tup5 0 0 0 0 u1 u2 u3 u4 d) :: (d, o) :: (T ++ news))) (hw : m₀ (Str.ofString "whole") = some (.ref t)) (e : EmptyD w d o) (hT : TabSt 16 5 4 qualA T) (g1 : @LT.lt Nat _ 16 t) (g2 : @LT.lt Nat _ 16 d)
    (turn : ∀ (i : Nat) (k : Int) tk9 (m₁ : Str → Option Value) I oI h tk t d o c1 c2 c3 c4 u1 u2 u3 u4 T', 0 ≤ k → k < 41 → k = a + i → Cs a i c1 c2 c3 c4 → EmptyD w d o → TabSt 16 5 4 qualA T' → TabKeeps T news T' → (@Ne Nat t I) → (@Ne Nat d I) → OwnOff T' [I] → OwnOff news [I] → (@LT.lt Nat _ 16 t) → (@LT.lt Nat _ 16 d) → (@Ne Nat I 16) →
      Fr h₀ env.locals h (fun y => if y = Str.ofString "number" then some (.int k tk9) else if y = Str.ofString "whole" then some (.ref t) else m₁ y) → News h₀ env.locals h ((I, oI) :: (t, tup5 c1 c2 c3 c4 u1 u2 u3 u4 d) :: (d, o) :: (T' ++ news)) →
      wpAny (model PySem.Challenge.rw_gm0003_01.row.prog w) A (execs body env) (PostR h₀ env.locals I oI (JW w T news a (i + 1)) { s with heap := h, toks := tk } Q) E { s with heap := h, toks := tk })
    (done : ∀ (m₁ : Str → Option Value) t d o c1 c2 c3 c4 u1 u2 u3 u4 T' h tk, Cs a (b - a).toNat c1 c2 c3 c4 → TabSt 16 5 4 qualA T' → TabKeeps T news T' → Fr h₀ env.locals h (fun y => if y = Str.ofString "whole" then some (.ref t) else m₁ y) → News h₀ env.locals h ((t, tup5 c1 c2 c3 c4 u1 u2 u3 u4 d) :: (d, o) :: (T' ++ news)) → Q .next { s with heap := h, toks := tk }) :
    wpAny (model PySem.Challenge.rw_gm0003_01.row.prog w) A (pyIter (.ref r)) (fun it s₂ => LoopAtV PySem.Challenge.rw_gm0003_01.row.prog w A h₀ env (Str.ofString "number") body Q E it s₂) E s := by
  refine range_turns (n := (b - a).toNat) (JW w T news a) hh hr (small_one (by omega) (by omega) (by omega) (by omega)) (rangeSize_nat _ _) F N ⟨t, d, o, u1, u2, u3, u4, T, rfl, e, hT, hw, g1, g2, tabKeeps_same⟩ ?_ ?_
  · rintro i tk9 m₁ nx I oI h tk hi ⟨t, d, o, u1, u2, u3, u4, T', rfl, e, hT, hw, g1, g2, kT⟩ hoff F₁ N₁
    refine turn i (a + i) tk9 m₁ I oI h tk t d o _ _ _ _ u1 u2 u3 u4 T' (by omega) (by omega) rfl ⟨rfl, rfl, rfl, rfl⟩ e hT kT (hoff _ (.head _)) (hoff _ (.tail _ (.head _))) (ownOff_one fun p hp => hoff p (.tail _ (.tail _ (List.mem_append_left _ hp)))) (ownOff_one fun p hp => hoff p (.tail _ (.tail _ (List.mem_append_right _ hp)))) g1 g2 (tab_ne hT fun p hp => hoff p (.tail _ (.tail _ (List.mem_append_left _ hp)))) ?_ N₁
    rw [map_whole2 hw]; exact F₁
  · rintro m₁ nx h tk ⟨t, d, o, u1, u2, u3, u4, T', rfl, e, hT, hw, g1, g2, kT⟩ F₁ N₁
    refine done m₁ t d o _ _ _ _ u1 u2 u3 u4 T' h tk ⟨rfl, rfl, rfl, rfl⟩ hT kT ?_ N₁
    rw [map_whole hw]; exact F₁
theorem whole_end {w : World} {T0 news : List (Addr × Obj)} {a : Int} {i : Nat} {h₀ h' : Heap} {L I : Addr} {oI : Obj} {s : Shared} {tk : Nat} {m : Str → Option Value} {Q : Flow → Shared → Prop} {t d : Addr} {o : Obj} {c1 c2 c3 c4 : Int} {u1 u2 u3 u4 : Tok} {T led : List (Addr × Obj)}
    (F : Fr h₀ L h' m) (N : News h₀ L h' led) (hc : Cs a i c1 c2 c3 c4) (e : EmptyD w d o) (hT : TabSt 16 5 4 qualA T) (hw : m (Str.ofString "whole") = some (.ref t)) (h1 : (I, oI) ∈ led) (h2 : (t, tup5 c1 c2 c3 c4 u1 u2 u3 u4 d) ∈ led) (h3 : (d, o) ∈ led) (h4 : ∀ p ∈ T ++ news, p ∈ led)
    (n1 : @Ne Nat t I) (n2 : @Ne Nat d I) (n3 : ∀ p ∈ T ++ news, p.1 ≠ I) (g1 : @LT.lt Nat _ 16 t) (g2 : @LT.lt Nat _ 16 d) (kT : TabKeeps T0 news T) : PostR h₀ L I oI (JW w T0 news a i) s Q .next { s with heap := h', toks := tk } := by
  obtain ⟨rfl, rfl, rfl, rfl⟩ := hc
  refine ⟨h', tk, m, _, rfl, F, news_sub N (List.forall_mem_cons.mpr ⟨h1, List.forall_mem_cons.mpr ⟨h2, List.forall_mem_cons.mpr ⟨h3, h4⟩⟩⟩), List.forall_mem_cons.mpr ⟨n1, List.forall_mem_cons.mpr ⟨n2, n3⟩⟩, t, d, o, u1, u2, u3, u4, T, rfl, e, hT, hw, g1, g2, kT⟩
theorem TabKeeps.trans {T0 T1 T2 news led : List (Addr × Obj)} (h1 : TabKeeps T0 news T1) (h2 : TabKeeps T1 led T2) (hs : ∀ p ∈ news, p ∈ led) : TabKeeps T0 news T2 := fun d o hm h0 => h2 d o (hs _ hm) (h1 d o hm h0)
theorem turnL_len (x y : Int) : (turnL x y).length = 7 := by simp [turnL, rangeKs_length]
theorem turnL_idx {x y k : Int} (hk : k < 7) : k < ((turnL x y).length : Int) := by rw [turnL_len]; exact hk
end Mine
end

-- part S0
section
open PySem PySem.W PyProof.Rows PySem.Calls
set_option Elab.async false
namespace Mine
set_option maxRecDepth 100000
section
variable {prog : Program} {w : World} {A : Around} {E : Value → Shared → Prop} {s : Shared}
theorem applied_upto {sl : Addr} {b n : Nat} {u : Tok} {Q : Int × Int × Nat → Shared → Prop} (hs : s.heap.IsSliceOf sl .none (.int b u) .none) (hb : b ≤ n) (h : Q (0, 1, b) s) :
    wpAny (model prog w) A (Builtin.Slice.sliceApplied (.ref sl) (pure (n : Int))) Q E s := by
  obtain ⟨os, hos, _, hds⟩ := id hs
  unfold Builtin.Slice.sliceApplied Builtin.Slice.sliceFields
  refine wpAny_bind (wpAny_bind (wpAny_field hos hds (x := .none) rfl (wpAny_bind (wpAny_field hos hds (x := .int b u) rfl (wpAny_bind (wpAny_field hos hds (x := .none) rfl (wpAny_pure ?_)))))))
  refine wpAny_bind (slicePart_none ?_)
  show wpAny _ _ (if ((1 : Int) == 0) = true then _ else _) _ _ s
  rw [if_neg (by decide)]
  refine wpAny_bind (slicePart_none (wpAny_bind (slicePart_int (wpAny_bind (wpAny_pure ?_)))))
  have ea : Builtin.Slice.sliceAdjust none (some (b : Int)) 1 (n : Int) = (0, (b : Int)) := by
    unfold Builtin.Slice.sliceAdjust
    have h1 : ¬ ((1 : Int) < 0) := by omega
    have h2 : ¬ ((b : Int) < 0) := by omega
    simp only [h1, h2, if_false]
    congr 1
    omega
  have ep : Builtin.Slice.slicePlaces 0 (b : Int) 1 = b := by
    unfold Builtin.Slice.slicePlaces
    have h1 : (1 : Int) > 0 := by omega
    simp only [h1, if_true, Int.ediv_one]
    split <;> omega
  show wpAny _ _ (match Builtin.Slice.sliceAdjust none (some (b : Int)) 1 (n : Int) with | (lo, hi) => pure (lo, (1 : Int), Builtin.Slice.slicePlaces lo hi 1)) _ _ s
  rw [ea]
  show wpAny _ _ (pure ((0 : Int), (1 : Int), Builtin.Slice.slicePlaces 0 (b : Int) 1)) _ _ s
  rw [ep]
  exact wpAny_pure h

theorem pick_four (a b c d e : Value) : ((List.range 4).filterMap fun (k : Nat) => (#[a, b, c, d, e] : Array Value)[((0 : Int) + (k : Int) * 1).toNat]?).toArray = #[a, b, c, d] := rfl

theorem getItem_four {t sl : Addr} {a b c d e : Value} {u : Tok} {Q : Value → Shared → Prop} (ht : IsTup s.heap t #[a, b, c, d, e]) (hs : s.heap.IsSliceOf sl .none (.int 4 u) .none)
    (h : Q (.ref s.heap.objs.size) { s with heap := s.heap.push { cls := .type "tuple", data := .seq #[a, b, c, d] } }) : wpAny (model prog w) A (getItem (.ref t) (.ref sl)) Q E s := by
  have hz : sizeOk (.seq #[a, b, c, d]) := by show 4 ≤ sizeLine; rw [sizeLine_eq]; decide
  obtain ⟨os, hos, hcs, hds⟩ := id hs
  have hTs : s.TypeIs (.ref sl) "slice" := ⟨os, hos, hcs⟩
  unfold getItem
  try with_reducible refine wpAny_holding ?_
  first | refine wpAny_bind (wpAny_pure ?_) | skip
  refine wpAny_bind (wpAny_sequenceKey ht.typeIs (by decide) ?_)
  refine wpAny_bind (wpAny_callSpecial?_slot (name := Str.ofString "__getitem__") ht.typeIs PyProof.Rows.slot_tuple_getitem
    (wpAny_call_entry PyProof.Rows.slot_tuple_getitem ht.typeIs PyProof.Rows.entry_tuple_getitem ?_ (PyProof.Rows.args_tuple_getitem _ _)))
  show wpAny _ _ (Builtin.Tuple.tupleItemsOf (.ref t) >>= _) _ _ s
  refine wpAny_bind (tupleItemsOf_ ht ?_)
  refine wpAny_bind (wpAny_typeOf hTs ?_)
  rw [if_pos (by decide)]
  refine wpAny_bind (applied_upto (n := 5) (b := 4) hs (by decide) ?_)
  show wpAny _ _ (if ((0 : Int) == 0 && (1 : Int) == 1 && (4 : Nat) == 5) = true then _ else _) _ _ s
  rw [if_neg (by decide), pick_four]
  first
    | exact wpAny_bind (m := Builtin.Tuple.tupleExact _) (wpAny_newObj_type (wpAny_pure ⟨_, rfl, wpAny_pure h⟩) hz)
    | exact wpAny_bind (m := Builtin.Tuple.tupleExact _) (wpAny_newObj_type (wpAny_bind (wpAny_pure (wpAny_pure ⟨_, rfl, wpAny_pure h⟩))) hz)
    | exact wpAny_bind (wpAny_bind (m := Builtin.Tuple.tupleExact _) (wpAny_newObj_type (wpAny_pure (wpAny_pure ⟨_, rfl, wpAny_pure h⟩)) hz))
    | exact wpAny_bind (wpAny_bind (m := Builtin.Tuple.tupleExact _) (wpAny_newObj_type (wpAny_pure ⟨_, rfl, wpAny_pure h⟩) hz))
end

section
variable {prog : Program} {w : World} {A : Around} {E : Value → Shared → Prop} {s : Shared} {h₀ : Heap} {L : Addr} {m : Str → Option Value} {news : List (Addr × Obj)}
theorem slice_four {value slice : Expr} {t : Addr} {a b c d e : Value} {u : Tok} {Q : Value → Shared → Prop}
    (F : Fr h₀ L s.heap m) (N : News h₀ L s.heap news) (hm : (t, ({ cls := .type "tuple", data := .seq #[a, b, c, d, e] } : Obj)) ∈ news)
    (h : ∀ r h', Fr h₀ L h' m → News h₀ L h' ((r, { cls := .type "tuple", data := .seq #[a, b, c, d] }) :: news) → (∀ p ∈ news, p.1 < r) → Q (.ref r) { s with heap := h' })
    (hs : subscripted slice false (.ref t) (.ref s.heap.objs.size) = operate [.ref s.heap.objs.size, .ref t] (getItem (.ref t) (.ref s.heap.objs.size)))
    (hg : ∀ r, letTemporaryGo value (.ref t) r = pure ()) :
    wpAny (model prog w) A (subscriptTail value slice (.ref t) (.ref s.heap.objs.size)) Q E { s with heap := s.heap.push { cls := .type "slice", data := .fields #[.none, .int 4 u, .none] } } := by
  have ht : IsTup s.heap t #[a, b, c, d, e] := ⟨_, (N _ hm).1, rfl, _, rfl⟩
  have ht' : IsTup (s.heap.push { cls := .type "slice", data := .fields #[.none, .int 4 u, .none] }) t #[a, b, c, d, e] := ht.keeps fun _ _ e => Heap.get?_push_of_some _ e
  refine subscriptTail_ops (s := { s with heap := s.heap.push { cls := .type "slice", data := .fields #[.none, .int 4 u, .none] } }) ht'.typeIs PyProof.Rows.slot_tuple_getitem.lookup
    (getItem_four ht' (Heap.IsSliceOf.new ..) ?_) hs hg
  have N1 := News.push (F.push { cls := .type "slice", data := .fields #[.none, .int 4 u, .none] }) (N.grown fun _ _ e => Heap.get?_push_of_some _ e) { cls := .type "tuple", data := .seq #[a, b, c, d] }
  exact h _ _ ((F.push _).push _) N1 fun p hp => by
    rw [Heap.size_push]
    exact Nat.lt_succ_of_lt (Heap.lt_size (N p hp).1)
/-- x[1:] of a tuple of four -/
theorem slice_tail {value slice : Expr} {t : Addr} {a b c d : Value} {u : Tok} {Q : Value → Shared → Prop}
    (F : Fr h₀ L s.heap m) (N : News h₀ L s.heap news) (hm : (t, ({ cls := .type "tuple", data := .seq #[a, b, c, d] } : Obj)) ∈ news)
    (h : ∀ r h', Fr h₀ L h' m → News h₀ L h' ((r, { cls := .type "tuple", data := .seq #[b, c, d] }) :: news) → (∀ p ∈ news, p.1 < r) → Q (.ref r) { s with heap := h' })
    (hs : subscripted slice false (.ref t) (.ref s.heap.objs.size) = operate [.ref s.heap.objs.size, .ref t] (getItem (.ref t) (.ref s.heap.objs.size)))
    (hg : ∀ r, letTemporaryGo value (.ref t) r = pure ()) :
    wpAny (model prog w) A (subscriptTail value slice (.ref t) (.ref s.heap.objs.size)) Q E { s with heap := s.heap.push { cls := .type "slice", data := .fields #[.int 1 u, .none, .none] } } := by
  have ht : IsTup s.heap t #[a, b, c, d] := ⟨_, (N _ hm).1, rfl, _, rfl⟩
  exact slice_tuple_from (a := 1) F N ht (by decide) (by show 1 ≤ 4; decide) (fun h' F' N' => h _ h' F' N' fun p hp => Nat.lt_succ_of_lt (Heap.lt_size (N p hp).1)) hs hg (by show 4 ≤ sizeLine; rw [sizeLine_eq]; decide)
end
end Mine
end

-- part W1
section
open PySem PySem.W PyProof.Rows
set_option Elab.async false
namespace Mine
set_option maxRecDepth 100000

local macro_rules | `(tactic| k_mem) => `(tactic| first | assumption | exact List.mem_cons_self | (refine' List.mem_cons_of_mem _ ?_; k_mem))
local macro_rules | `(tactic| k_all) => `(tactic| first | exact TabKeeps.use (by assumption) (by k_mem) (by k_all) | fail "k_all: no table")
local macro_rules | `(tactic| walk_at "MY sub") => `(tactic| first | (refine List.forall_mem_cons.mpr ⟨by k_mem, ?_⟩; walk_at "MY sub") | exact List.forall_mem_nil _ | (intro p hp; k_mem))

local macro_rules | `(tactic| walk_at "MY turned0") => `(tactic| ((rename TabSt 16 _ _ _ _ => hT'); k_dflt (refine' turned_use hT' ?F ?N ?B ?X ?T ?hk ?C ?off ?x0 ?x1 ?y0 ?y1 ?dd ?uu ?_; (case F => k_asm); (case N => exact news_in0 (by assumption)); (case B => k_asm); (case X => k_asm); (case T => k_asm); (case hk => first | exact rfl | assumption); (case C => assumption); (case off => exact ownOff_one (by k_all)); (case x0 => omega); (case x1 => omega); (case y0 => omega); (case y1 => omega); (case dd => ktr_room); (case uu => ktr_units); k_whole); intro r' vs' Tn' h' tk' I' hTn' F' N' oR' kT'; replace N' := news_out0 N'; clear hT'))

local macro_rules | `(tactic| walk_at "MY turned1") => `(tactic| ((rename TabSt 16 _ _ _ _ => hT'); k_dflt (refine' turned_use hT' ?F ?N ?B ?X ?T ?hk ?C ?off ?x0 ?x1 ?y0 ?y1 ?dd ?uu ?_; (case F => k_asm); (case N => exact news_in1 (by assumption)); (case B => k_asm); (case X => k_asm); (case T => k_asm); (case hk => first | exact rfl | assumption); (case C => assumption); (case off => exact ownOff_one (by k_all)); (case x0 => omega); (case x1 => omega); (case y0 => omega); (case y1 => omega); (case dd => ktr_room); (case uu => ktr_units); k_whole); intro r' vs' Tn' h' tk' I' hTn' F' N' oR' kT'; replace N' := news_out1 N'; clear hT'))

local macro_rules | `(tactic| walk_at "MY turned2") => `(tactic| ((rename TabSt 16 _ _ _ _ => hT'); k_dflt (refine' turned_use hT' ?F ?N ?B ?X ?T ?hk ?C ?off ?x0 ?x1 ?y0 ?y1 ?dd ?uu ?_; (case F => k_asm); (case N => exact news_in2 (by assumption)); (case B => k_asm); (case X => k_asm); (case T => k_asm); (case hk => first | exact rfl | assumption); (case C => assumption); (case off => exact ownOff_one (by k_all)); (case x0 => omega); (case x1 => omega); (case y0 => omega); (case y1 => omega); (case dd => ktr_room); (case uu => ktr_units); k_whole); intro r' vs' Tn' h' tk' I' hTn' F' N' oR' kT'; replace N' := news_out2 N'; clear hT'))

local macro_rules | `(tactic| walk_at "MY turned3") => `(tactic| ((rename TabSt 16 _ _ _ _ => hT'); k_dflt (refine' turned_use hT' ?F ?N ?B ?X ?T ?hk ?C ?off ?x0 ?x1 ?y0 ?y1 ?dd ?uu ?_; (case F => k_asm); (case N => exact news_in3 (by assumption)); (case B => k_asm); (case X => k_asm); (case T => k_asm); (case hk => first | exact rfl | assumption); (case C => assumption); (case off => exact ownOff_one (by k_all)); (case x0 => omega); (case x1 => omega); (case y0 => omega); (case y1 => omega); (case dd => ktr_room); (case uu => ktr_units); k_whole); intro r' vs' Tn' h' tk' I' hTn' F' N' oR' kT'; replace N' := news_out3 N'; clear hT'))

local macro_rules | `(tactic| walk_at "MY turned4") => `(tactic| ((rename TabSt 16 _ _ _ _ => hT'); k_dflt (refine' turned_use hT' ?F ?N ?B ?X ?T ?hk ?C ?off ?x0 ?x1 ?y0 ?y1 ?dd ?uu ?_; (case F => k_asm); (case N => exact news_in4 (by assumption)); (case B => k_asm); (case X => k_asm); (case T => k_asm); (case hk => first | exact rfl | assumption); (case C => assumption); (case off => exact ownOff_one (by k_all)); (case x0 => omega); (case x1 => omega); (case y0 => omega); (case y1 => omega); (case dd => ktr_room); (case uu => ktr_units); k_whole); intro r' vs' Tn' h' tk' I' hTn' F' N' oR' kT'; replace N' := news_out4 N'; clear hT'))

local macro_rules | `(tactic| walk_at "MY turned5") => `(tactic| ((rename TabSt 16 _ _ _ _ => hT'); k_dflt (refine' turned_use hT' ?F ?N ?B ?X ?T ?hk ?C ?off ?x0 ?x1 ?y0 ?y1 ?dd ?uu ?_; (case F => k_asm); (case N => exact news_in5 (by assumption)); (case B => k_asm); (case X => k_asm); (case T => k_asm); (case hk => first | exact rfl | assumption); (case C => assumption); (case off => exact ownOff_one (by k_all)); (case x0 => omega); (case x1 => omega); (case y0 => omega); (case y1 => omega); (case dd => ktr_room); (case uu => ktr_units); k_whole); intro r' vs' Tn' h' tk' I' hTn' F' N' oR' kT'; replace N' := news_out5 N'; clear hT'))

local macro_rules | `(tactic| walk_at "MY turned6") => `(tactic| ((rename TabSt 16 _ _ _ _ => hT'); k_dflt (refine' turned_use hT' ?F ?N ?B ?X ?T ?hk ?C ?off ?x0 ?x1 ?y0 ?y1 ?dd ?uu ?_; (case F => k_asm); (case N => exact news_in6 (by assumption)); (case B => k_asm); (case X => k_asm); (case T => k_asm); (case hk => first | exact rfl | assumption); (case C => assumption); (case off => exact ownOff_one (by k_all)); (case x0 => omega); (case x1 => omega); (case y0 => omega); (case y1 => omega); (case dd => ktr_room); (case uu => ktr_units); k_whole); intro r' vs' Tn' h' tk' I' hTn' F' N' oR' kT'; replace N' := news_out6 N'; clear hT'))

local macro_rules | `(tactic| walk_at "MY turned7") => `(tactic| ((rename TabSt 16 _ _ _ _ => hT'); k_dflt (refine' turned_use hT' ?F ?N ?B ?X ?T ?hk ?C ?off ?x0 ?x1 ?y0 ?y1 ?dd ?uu ?_; (case F => k_asm); (case N => exact news_in7 (by assumption)); (case B => k_asm); (case X => k_asm); (case T => k_asm); (case hk => first | exact rfl | assumption); (case C => assumption); (case off => exact ownOff_one (by k_all)); (case x0 => omega); (case x1 => omega); (case y0 => omega); (case y1 => omega); (case dd => ktr_room); (case uu => ktr_units); k_whole); intro r' vs' Tn' h' tk' I' hTn' F' N' oR' kT'; replace N' := news_out7 N'; clear hT'))

local macro_rules | `(tactic| walk_at "MY turned8") => `(tactic| ((rename TabSt 16 _ _ _ _ => hT'); k_dflt (refine' turned_use hT' ?F ?N ?B ?X ?T ?hk ?C ?off ?x0 ?x1 ?y0 ?y1 ?dd ?uu ?_; (case F => k_asm); (case N => exact news_in8 (by assumption)); (case B => k_asm); (case X => k_asm); (case T => k_asm); (case hk => first | exact rfl | assumption); (case C => assumption); (case off => exact ownOff_one (by k_all)); (case x0 => omega); (case x1 => omega); (case y0 => omega); (case y1 => omega); (case dd => ktr_room); (case uu => ktr_units); k_whole); intro r' vs' Tn' h' tk' I' hTn' F' N' oR' kT'; replace N' := news_out8 N'; clear hT'))

local macro_rules | `(tactic| walk_at "MY stats") => `(tactic| (k_dflt (refine' add_func_stats_use ?F ?N ?m1 ?m2 ?m3 ?m4 ?e1 ?e2 ?B ?X ?T ?hk ?dd ?uu ?_; (case F => k_asm); (case N => k_asm); (case m1 => k_mem); (case m2 => k_mem); (case m3 => k_mem); (case m4 => k_mem); (case e1 => assumption); (case e2 => exact ⟨by assumption, by assumption, by assumption, by assumption, by assumption⟩); (case B => k_asm); (case X => k_asm); (case T => k_asm); (case hk => exact rfl); (case dd => ktr_room); (case uu => ktr_units); k_whole); intro r' d' o' w1' w2' w3' w4' h' tk' e' F' N' l1 l2; (try k_lt l1); (try k_lt2 l2)))
local macro_rules | `(tactic| walk_at "call ref") => `(tactic| (k_here; (with_reducible show wpAny _ _ (call (Value.ref 35) _) _ _ _); walk_at "MY stats"))
local macro_rules | `(tactic| walk_at "call ref") => `(tactic| (k_here; (with_reducible show wpAny _ _ (call (Value.ref 47) _) _ _ _); first | walk_at "MY turned0" | walk_at "MY turned1" | walk_at "MY turned2" | walk_at "MY turned3" | walk_at "MY turned4" | walk_at "MY turned5" | walk_at "MY turned6" | walk_at "MY turned7" | walk_at "MY turned8"))
local macro_rules | `(tactic| walk_at "subscriptTail Name Constant ref int") => `(tactic| (k_here; (with_reducible show wpAny _ _ (subscriptTail _ _ (Value.ref _) (Value.int _ _)) _ _ _); k_dflt (refine' ksa_sub ?k1 ?k2 ?k3 ?k4 ?k5 ?k6 ?_ ?k7; (case k1 => k_asm); (case k2 => k_mem); (case k3 => assumption); (case k4 => decide); (case k5 => exact turnL_idx (by decide)); (case k6 => decide); (case k7 => with_unfolding_all rfl); k_whole); intro _))
local macro_rules | `(tactic| walk_at "subscriptTail Name Slice ref ref") => `(tactic| (k_here; k_dflt (refine' slice_four ?F ?N ?m ?_ ?s ?g; (case F => k_asm); (case N => k_asm); (case m => k_mem); (case s => with_unfolding_all rfl); (case g => intro _; with_unfolding_all rfl)); intro r' h' F' N' l1; have lS' : LtAll _ _ := l1; (try k_lt l1)))
local macro_rules | `(tactic| walk_at "pyIter ref") => `(tactic| (k_here; (with_reducible show wpAny _ _ (pyIter (Value.ref _)) (fun it s₂ => LoopAtV _ _ _ _ _ _ _ _ _ it s₂) _ _); (rename WM _ _ _ _ _ => wm'); have lP' := tab_lt (by assumption) (fun p hp => List.mem_append_left _ hp) (by assumption); k_dflt (refine' whole_loop wm' ?k1 ?k2 ?k3 ?k4 ?k5 ?F ?N ?k6 ?k7 ?k8 ?k9 ?k10 ?turn ?done; (case k1 => assumption); (case k2 => assumption); (case k3 => assumption); (case k4 => exact rfl); (case k5 => assumption); (case F => k_asm); (case N => k_asm); (case k6 => exact rfl); (case k7 => exact ⟨by assumption, by assumption, by assumption, by assumption, by assumption⟩); (case k8 => assumption); (case k9 => omega); (case k10 => omega)); (case' turn => (intro i' k' tk9' m' I' oI' h' tk' t' d' o' c1' c2' c3' c4' u1' u2' u3' u4' T' hk0' hk1' hk2' hC' e' hT' kT' n1' n2' off' off2' g1' g2' g3' F' N'; try k_fold)); (case' done => (intro m' t' d' o' c1' c2' c3' c4' u1' u2' u3' u4' T' h' tk' hC' hT' kT' F' N'; try k_fold))))
local macro_rules | `(tactic| walk_at "PostR") => `(tactic| (k_dflt (refine' whole_end ?F ?N ?hc ?e ?hT ?hw ?h1 ?h2 ?h3 ?h4 ?n1 ?n2 ?n3 ?g1 ?g2 ?kT; (case F => k_asm); (case N => k_asm); (case hw => exact rfl); (case h2 => k_mem); (case hc => exact Cs.next (by assumption) (by assumption)); (case e => assumption); (case hT => assumption); (case h1 => k_mem); (case h3 => k_mem); (case h4 => (intro p hp; k_mem)); (case n1 => k_ne); (case n2 => k_ne); (case n3 => k_all); (case g1 => omega); (case g2 => omega); (case kT => exact TabKeeps.trans (by assumption) (by assumption) (by (intro p hp; k_mem))))))
set_option maxHeartbeats 1000000 in
theorem whole_spec (w : World) (p : Program) (loose : List Str) (mean : ExcName → Option Value) (mg mb : Str → Option Value)
  (x y : Int) (tx ty : Tok) (hx0 : 0 ≤ x) (hxy : x ≤ y) (hy : y ≤ 41) (news : List (Addr × Obj)) (hnews : OwnOff news [16]) (T0 : List (Addr × Obj)) (hT : TabSt 16 5 4 qualA T0)
  (dp un : Nat) (gd : Option (List Code)) (cn : Str) (cs : Scope) (a : Addr) (ccd : Value) (cl : List (Str × Addr)) (outer : List Env) (A₀ : Around) (base h₀ : Heap) (L : Addr) (m : Str → Option Value) (s : Shared) (Q E : Value → Shared → Prop)
  (B : Below A₀ base outer h₀) (F : Fr h₀ L s.heap m) (X : (hd.heap_39 w.params).In h₀) (N : News h₀ L s.heap (T0 ++ news))
  (T : Top p loose mean mg mb h₀) (hk : cs.kind = .function) (C1 : CodeHd base 20 16)
  (hdp : dp + 20 < recursionLimit) (hu : un + 200 < cLine)
  (hret : ∀ (r : Addr) (c1 c2 c3 c4 : Int) (u1 u2 u3 u4 : Tok) (T' : List (Addr × Obj)) (h' : Heap) (tk' : Nat), Cs x (y - x).toNat c1 c2 c3 c4 → TabSt 16 5 4 qualA T' → Fr h₀ L h' m → News h₀ L h' ((r, tup4 c1 c2 c3 c4 u1 u2 u3 u4) :: (T' ++ news)) → (∀ p ∈ T' ++ news, p.1 < r) → TabKeeps T0 news T' → Q (.ref r) { s with heap := h', toks := tk' }) :
    wpAny (model PySem.Challenge.rw_gm0003_01.row.prog w) (ktrTop dp un gd cn cs L a ccd cl outer) (call (.ref 54) [.int x tx, .int y ty]) Q E s := by
  revert X; k_fill; intro X
  have hMk := kstMark
  have hWM : WM w T0 news x y := trivial
  refine wpAny_call ?_
  k_dflt cell_enter
  k_steps
  · (rename Cs _ _ _ _ _ _ => hC)
    (rename TabSt 16 _ _ _ _ => hT')
    (rename TabKeeps _ _ _ => kT9)
    (rename LtAll _ _ => lS)
    (rename News _ _ _ _ => N9)
    exact hret _ _ _ _ _ _ _ _ _ _ _ _ hC hT' (by k_asm) (news_sub N9 (List.forall_mem_cons.mpr ⟨.head _, fun p hp => .tail _ (.tail _ (.tail _ hp))⟩)) (fun p hp => lS p (.tail _ (.tail _ hp))) kT9
end Mine
end

-- part M0
section
open PySem PySem.W PyProof.Rows
set_option Elab.async false
namespace Mine
set_option maxRecDepth 100000

theorem fl_all : ∀ a : Fin 42, fl1 (a.val : Int) = 2 - (digs ((a.val : Int) + 1)).sum + (digs (a.val : Int)).sum ∧ fl3 (a.val : Int) = 1 ∧ fl4 (a.val : Int) = ((a.val : Int) + 1).fdiv 2 - (a.val : Int).fdiv 2 := by decide +kernel
theorem fl_of {k : Int} (h0 : 0 ≤ k) (h1 : k < 42) : fl1 k = 2 - (digs (k + 1)).sum + (digs k).sum ∧ fl3 k = 1 ∧ fl4 k = (k + 1).fdiv 2 - k.fdiv 2 := by
  have q := fl_all ⟨k.toNat, by omega⟩
  have e : ((k.toNat : Nat) : Int) = k := by omega
  simp only [e] at q
  exact q
theorem sums_of {a : Int} (h0 : 0 ≤ a) : ∀ (n : Nat), a + n ≤ 42 → sumTo fl1 a n = 2 * n - (digs (a + n)).sum + (digs a).sum ∧ sumTo fl2 a n = n ∧ sumTo fl3 a n = n ∧ sumTo fl4 a n = (a + n).fdiv 2 - a.fdiv 2
  | 0, _ => by simp [sumTo]; omega
  | n + 1, h => by
    obtain ⟨e1, e2, e3, e4⟩ := sums_of h0 n (by omega)
    obtain ⟨g1, g3, g4⟩ := fl_of (k := a + n) (by omega) (by omega)
    have e : a + ((n + 1 : Nat) : Int) = a + n + 1 := by omega
    simp only [sumTo, e, e1, e2, e3, e4, g1, g3, g4, fl2]
    omega
/-- what a whole tells, closed -/
theorem Cs.closed {a b c1 c2 c3 c4 : Int} (h : Cs a (b - a).toNat c1 c2 c3 c4) (h0 : 0 ≤ a) (h1 : a ≤ b) (h2 : b ≤ 41) :
    c1 = 2 * (b - a) - (digs b).sum + (digs a).sum ∧ c2 = b - a ∧ c3 = b - a ∧ c4 = b.fdiv 2 - a.fdiv 2 := by
  obtain ⟨rfl, rfl, rfl, rfl⟩ := h
  have q := sums_of h0 (b - a).toNat (by omega)
  have e : ((b - a).toNat : Int) = b - a := by omega
  have e2 : a + (b - a) = b := by omega
  rw [e, e2] at q
  exact q
theorem Cs.zero {b c1 c2 c3 c4 : Int} (h : Cs 0 (b - 0).toNat c1 c2 c3 c4) (h1 : 0 ≤ b) (h2 : b ≤ 41) :
    c1 = 2 * b - (digs b).sum ∧ c2 = b ∧ c3 = b ∧ c4 = b.fdiv 2 := by
  obtain ⟨e1, e2, e3, e4⟩ := h.closed (Int.le_refl _) h1 h2
  have d0 : (digs 0).sum = 0 := rfl
  have f0 : (0 : Int).fdiv 2 = 0 := by decide
  rw [d0] at e1
  rw [f0] at e4
  omega
/-- the place of the first nought -/
def noughtAt (k : Int) : Nat := (digs k ++ [0]).idxOf 0
theorem turn_all : ∀ a : Fin 41, (turnL (a.val : Int) ((a.val : Int) + 1)).sum = (noughtAt (a.val : Int) : Int) + 1 ∧ valN (turnL (a.val : Int) ((a.val : Int) + 1)) 0 7 = 2 ^ (noughtAt (a.val : Int) + 1) - 1 ∧ noughtAt (a.val : Int) ≤ 6 := by decide +kernel
theorem turn_of {k : Int} (h0 : 0 ≤ k) (h1 : k < 41) : (turnL k (k + 1)).sum = (noughtAt k : Int) + 1 ∧ valN (turnL k (k + 1)) 0 7 = 2 ^ (noughtAt k + 1) - 1 ∧ noughtAt k ≤ 6 := by
  have q := turn_all ⟨k.toNat, by omega⟩
  have e : ((k.toNat : Nat) : Int) = k := by omega
  simp only [e] at q
  exact q
theorem turnF_bit (x y k : Int) : turnF x y k = 0 ∨ turnF x y k = 1 := by unfold turnF; split <;> simp
theorem turnL_bits (x y : Int) : Bits (turnL x y) := by
  intro i
  unfold turnL
  rw [List.getD_eq_getElem?_getD, List.getElem?_map]
  cases h : (rangeKs 0 7)[i]? with
  | none => simp
  | some k => simp only [Option.map_some, Option.getD_some]; rcases turnF_bit x y k with e | e <;> rw [e] <;> decide
theorem two_of {s : Int} (h0 : 0 ≤ s) (h1 : s < 6) : 2 * 2 ^ s.toNat - (digs (2 ^ s.toNat)).sum = 2 ^ (s + 1).toNat - 1 ∧ (0 : Int) ≤ 2 ^ s.toNat ∧ (2 : Int) ^ s.toNat ≤ 41 := by
  have h : ∀ a : Fin 6, 2 * (2 : Int) ^ a.val - (digs (2 ^ a.val)).sum = 2 ^ (a.val + 1) - 1 ∧ (0 : Int) ≤ 2 ^ a.val ∧ (2 : Int) ^ a.val ≤ 41 := by decide +kernel
  have q := h ⟨s.toNat, by omega⟩
  have e : (s + 1).toNat = s.toNat + 1 := by omega
  rw [e]
  exact q
end Mine
end

-- part LW0
section
open PySem PySem.W PyProof.Rows
set_option Elab.async false
namespace Mine
set_option maxRecDepth 100000

theorem tab_mem {P ln co : Nat} {q : Str} {T : List (Addr × Obj)} (h : TabSt P ln co q T) : ∃ o, ((P : Addr), o) ∈ T := by
  rcases h with rfl | ⟨c', oc, vq, tq, rfl, _, _⟩
  · exact ⟨_, .head _⟩
  · exact ⟨_, .head _⟩
/-- both tables, each apart from the other's place -/
structure LT (Ta Tb : List (Addr × Obj)) : Prop where
  a : TabSt 16 5 4 qualA Ta
  b : TabSt 23 20 4 qualD Tb
  ab : OwnOff Ta [23]
  ba : OwnOff Tb [16]
theorem at1 {l : List (Addr × Obj)} {d : Addr} (h : OwnOff l [d]) : ∀ p ∈ l, p.1 ≠ d := fun p hp => h p hp d (.head _)
theorem LT.keepA {Ta Tb Ta' news : List (Addr × Obj)} (h : LT Ta Tb) (h' : TabSt 16 5 4 qualA Ta') (k : TabKeeps Ta news Ta') (hs : ∀ p ∈ Tb, p ∈ news) : LT Ta' Tb := by
  obtain ⟨o, ho⟩ := tab_mem h.b
  exact ⟨h', h.b, ownOff_one (k 23 o (hs _ ho) (at1 h.ab)), h.ba⟩
theorem LT.keepB {Ta Tb Tb' news : List (Addr × Obj)} (h : LT Ta Tb) (h' : TabSt 23 20 4 qualD Tb') (k : TabKeeps Tb news Tb') (hs : ∀ p ∈ Ta, p ∈ news) : LT Ta Tb' := by
  obtain ⟨o, ho⟩ := tab_mem h.a
  exact ⟨h.a, h', h.ab, ownOff_one (k 16 o (hs _ ho) (at1 h.ba))⟩
/-- what stood apart from the tables stands apart -/
def Kept (pre T T' : List (Addr × Obj)) : Prop := ∀ (d : Addr) (o : Obj), (d, o) ∈ pre → (∀ p ∈ T, p.1 ≠ d) → ∀ p ∈ T', p.1 ≠ d
theorem news_perm {h₀ h : Heap} {L : Addr} {a b : List (Addr × Obj)} (N : News h₀ L h a) (hs : ∀ p, p ∈ b → p ∈ a) : News h₀ L h b := fun p hp => N p (hs p hp)
theorem start_tabs {h₀ h : Heap} {L c : Addr} {o : Obj} (N : News h₀ L h [(c, o), (23, tabObj #[]), (16, tabObj #[])]) (h1 : @LT.lt Nat _ 16 c) (h2 : @LT.lt Nat _ 23 c) : ∃ Ta Tb, LT Ta Tb ∧ News h₀ L h ((c, o) :: (Ta ++ Tb)) ∧ OwnOff Ta [c] ∧ OwnOff Tb [c] := by
  refine ⟨[(16, tabObj #[])], [(23, tabObj #[])], ⟨.inl rfl, .inl rfl, ownOff_one ?_, ownOff_one ?_⟩, news_perm N ?_, ownOff_one ?_, ownOff_one ?_⟩
  · exact List.forall_mem_cons.mpr ⟨by decide, List.forall_mem_nil _⟩
  · exact List.forall_mem_cons.mpr ⟨by decide, List.forall_mem_nil _⟩
  · intro p hp
    simp only [List.cons_append, List.nil_append, List.mem_cons, List.not_mem_nil, or_false] at hp ⊢
    rcases hp with h | h | h <;> simp [h]
  · exact List.forall_mem_cons.mpr ⟨Nat.ne_of_lt h1, List.forall_mem_nil _⟩
  · exact List.forall_mem_cons.mpr ⟨Nat.ne_of_lt h2, List.forall_mem_nil _⟩
theorem ne_same {prog : Program} {w : World} {A : Around} {E : Value → Shared → Prop} {s : Shared} {a b : Int} {t u : Tok} {Q : Value → Shared → Prop} (e : a = b) (h : Q (.bool false) s) :
    wpAny (model prog w) A (compareOp .NotEq (.int a t) (.int b u)) Q E s := by
  refine ne_int ?_
  subst e
  have e2 : (a != a) = false := by simp
  rw [e2]; exact h
def JL (told c : Addr) (O1 o : Obj) (_ : Nat) (m : Str → Option Value) (nx : List (Addr × Obj)) : Prop :=
  ∃ Ta Tb, nx = (told, O1) :: (c, o) :: (Ta ++ Tb) ∧ LT Ta Tb ∧ m (Str.ofString "told") = some (.ref told)
theorem map_told {m : Str → Option Value} {v : Value} (h : m (Str.ofString "told") = some v) : (fun y => if y = Str.ofString "told" then some v else m y) = m := by
  funext y
  by_cases e : y = Str.ofString "told"
  · rw [if_pos e, e, h]
  · rw [if_neg e]
theorem map_told2 {m : Str → Option Value} {v v9 : Value} {x : Str} (h : m (Str.ofString "told") = some v) : (fun y => if y = x then some v9 else if y = Str.ofString "told" then some v else m y) = fun y => if y = x then some v9 else m y := by
  funext y
  have := congrFun (map_told h) y
  by_cases e : y = x
  · rw [if_pos e, if_pos e]
  · rw [if_neg e, if_neg e]; exact this
theorem law_loop {w : World} {A : Around} {E : Value → Shared → Prop} {s : Shared} {env : Env} {h₀ : Heap} {body : List Stmt} {Q : Flow → Shared → Prop} {r : Addr} {a b : Int} {t₀ u₀ v₀ : Tok} {m₀ : Str → Option Value} 
    {told c : Addr} {O1 o : Obj} {Ta Tb led : List (Addr × Obj)} (hT : LT Ta Tb) (F : Fr h₀ env.locals s.heap m₀) (N : News h₀ env.locals s.heap led) (hw : m₀ (Str.ofString "told") = some (.ref told)) (h1 : (told, O1) ∈ led) (h2 : (c, o) ∈ led) (h3 : ∀ p ∈ Ta ++ Tb, p ∈ led)
    (hh : A.handled = none) (hr : IsRange s.heap r a b 1 t₀ u₀ v₀) (ha : 0 ≤ a) (hab : a ≤ b) (hb : b ≤ 41)
    (turn : ∀ (i : Nat) (k : Int) tk9 (m₁ : Str → Option Value) I oI h tk Ta Tb, 0 ≤ k → k < 41 → LT Ta Tb → (@Ne Nat told I) → (@Ne Nat c I) → OwnOff Ta [I] → OwnOff Tb [I] → (@Ne Nat I 16) → (@Ne Nat I 23) →
      Fr h₀ env.locals h (fun y => if y = Str.ofString "here" then some (.int k tk9) else if y = Str.ofString "told" then some (.ref told) else m₁ y) → News h₀ env.locals h ((I, oI) :: (told, O1) :: (c, o) :: (Ta ++ Tb)) →
      wpAny (model PySem.Challenge.rw_gm0003_01.row.prog w) A (execs body env) (PostR h₀ env.locals I oI (JL told c O1 o (i + 1)) { s with heap := h, toks := tk } Q) E { s with heap := h, toks := tk })
    (done : ∀ (m₁ : Str → Option Value) Ta Tb h tk, LT Ta Tb → Fr h₀ env.locals h (fun y => if y = Str.ofString "told" then some (.ref told) else m₁ y) → News h₀ env.locals h ((told, O1) :: (c, o) :: (Ta ++ Tb)) → Q .next { s with heap := h, toks := tk }) :
    wpAny (model PySem.Challenge.rw_gm0003_01.row.prog w) A (pyIter (.ref r)) (fun it s₂ => LoopAtV PySem.Challenge.rw_gm0003_01.row.prog w A h₀ env (Str.ofString "here") body Q E it s₂) E s := by
  refine range_turns (n := (b - a).toNat) (JL told c O1 o) hh hr (small_one (by omega) (by omega) (by omega) (by omega)) (rangeSize_nat _ _) F (news_perm N (List.forall_mem_cons.mpr ⟨h1, List.forall_mem_cons.mpr ⟨h2, h3⟩⟩)) ⟨Ta, Tb, rfl, hT, hw⟩ ?_ ?_
  · rintro i tk9 m₁ nx I oI h tk hi ⟨Ta, Tb, rfl, hT, hw⟩ hoff F₁ N₁
    have oa : ∀ p ∈ Ta, p.1 ≠ I := fun p hp => hoff p (.tail _ (.tail _ (List.mem_append_left _ hp)))
    have ob : ∀ p ∈ Tb, p.1 ≠ I := fun p hp => hoff p (.tail _ (.tail _ (List.mem_append_right _ hp)))
    refine turn i (a + i) tk9 m₁ I oI h tk Ta Tb (by omega) (by omega) hT (hoff _ (.head _)) (hoff _ (.tail _ (.head _))) (ownOff_one oa) (ownOff_one ob) (tab_ne hT.a oa) (tab_ne hT.b ob) ?_ N₁
    rw [map_told2 hw]; exact F₁
  · rintro m₁ nx h tk ⟨Ta, Tb, rfl, hT, hw⟩ F₁ N₁
    refine done m₁ Ta Tb h tk hT ?_ N₁
    rw [map_told hw]; exact F₁
theorem law_end {told c : Addr} {O1 o : Obj} {i : Nat} {h₀ h' : Heap} {L I : Addr} {oI : Obj} {s : Shared} {tk : Nat} {m : Str → Option Value} {Q : Flow → Shared → Prop} {Ta Tb led : List (Addr × Obj)}
    (hT : LT Ta Tb) (F : Fr h₀ L h' m) (N : News h₀ L h' led) (hw : m (Str.ofString "told") = some (.ref told)) (h0 : (I, oI) ∈ led) (h1 : (told, O1) ∈ led) (h2 : (c, o) ∈ led) (h3 : ∀ p ∈ Ta ++ Tb, p ∈ led)
    (n1 : @Ne Nat told I) (n2 : @Ne Nat c I) (n3 : ∀ p ∈ Ta, p.1 ≠ I) (n4 : ∀ p ∈ Tb, p.1 ≠ I) : PostR h₀ L I oI (JL told c O1 o i) s Q .next { s with heap := h', toks := tk } :=
  ⟨h', tk, m, _, rfl, F, news_perm N (List.forall_mem_cons.mpr ⟨h0, List.forall_mem_cons.mpr ⟨h1, List.forall_mem_cons.mpr ⟨h2, h3⟩⟩⟩), List.forall_mem_cons.mpr ⟨n1, List.forall_mem_cons.mpr ⟨n2, List.forall_mem_append.mpr ⟨n3, n4⟩⟩⟩, Ta, Tb, rfl, hT, hw⟩
theorem grownA {h₀ h : Heap} {L : Addr} {led T : List (Addr × Obj)} {P ln co : Nat} {q : Str} (N : News h₀ L h led) (hT : TabSt P ln co q T) (hs : ∀ p ∈ T, p ∈ led) : GrownAt P h := by
  rcases hT with rfl | ⟨c', oc, vq, tq, rfl, _, _⟩
  · exact ⟨_, (N _ (hs _ (.head _))).1⟩
  · exact ⟨_, (N _ (hs _ (.head _))).1⟩

theorem grownAll_two {h₀ h : Heap} {L : Addr} {led Ta Tb : List (Addr × Obj)} (N : News h₀ L h led) (hT : LT Ta Tb) (hs : ∀ p ∈ Ta ++ Tb, p ∈ led) : GrownAll [(27, 23), (20, 16)] h :=
  ⟨grownA N hT.b fun p hp => hs p (List.mem_append_right _ hp), grownA N hT.a fun p hp => hs p (List.mem_append_left _ hp), trivial⟩

section
variable {w : World} {p : Program} {loose : List Str} {mean : ExcName → Option Value} {mg mb : Str → Option Value} {Ta Tb pre : List (Addr × Obj)} 
  {dp un : Nat} {gd : Option (List Code)} {cn : Str} {cs : Scope} {a : Addr} {ccd : Value} {cl : List (Str × Addr)} {outer : List Env} {A₀ : Around} {base h₀ : Heap} {L : Addr} {m : Str → Option Value} {s : Shared} {Q E : Value → Shared → Prop}

theorem mv1 {x : Addr × Obj} : x ∈ Ta ++ (pre ++ Tb) → x ∈ pre ++ (Ta ++ Tb) := by simp only [List.mem_append]; rintro (h | h | h) <;> simp [h]
theorem mv2 {Ta' : List (Addr × Obj)} {x : Addr × Obj} : x ∈ pre ++ (Ta' ++ Tb) → x ∈ Ta' ++ (pre ++ Tb) := by simp only [List.mem_append]; rintro (h | h | h) <;> simp [h]
theorem mv3 {x : Addr × Obj} : x ∈ Tb ++ (pre ++ Ta) → x ∈ pre ++ (Ta ++ Tb) := by simp only [List.mem_append]; rintro (h | h | h) <;> simp [h]
theorem mv4 {Tb' : List (Addr × Obj)} {x : Addr × Obj} : x ∈ pre ++ (Ta ++ Tb') → x ∈ Tb' ++ (pre ++ Ta) := by simp only [List.mem_append]; rintro (h | h | h) <;> simp [h]
theorem offA (hT : LT Ta Tb) (hp : ∀ p ∈ pre, p.1 ≠ 16) : OwnOff (pre ++ Tb) [16] := ownOff_one (List.forall_mem_append.mpr ⟨hp, (at1 hT.ba)⟩)
theorem offB (hT : LT Ta Tb) (hp : ∀ p ∈ pre, p.1 ≠ 23) : OwnOff (pre ++ Ta) [23] := ownOff_one (List.forall_mem_append.mpr ⟨hp, (at1 hT.ab)⟩)

theorem law_i2d (pre : List (Addr × Obj)) {x : Int} {tx tn : Tok} (hT : LT Ta Tb) (F : Fr h₀ L s.heap m) (N : News h₀ L s.heap (pre ++ (Ta ++ Tb))) (B : Below A₀ base outer h₀) (X : (hd.heap_39 w.params).In h₀)
  (T : Top p loose mean mg mb h₀) (hk : cs.kind = .function) (C1 : CodeHd base 20 16) (hp : ∀ p ∈ pre, p.1 ≠ 16) (hx0 : 0 ≤ x) (hx1 : x < 64)
  (hdp : dp + 8 < recursionLimit) (hu : un + 64 < cLine)
  (hret : ∀ (r : Addr) (vs' : List Value) (Ta' : List (Addr × Obj)) (h' : Heap) (tk' : Nat), IntsAre vs' (digs x) → LT Ta' Tb → Kept pre Ta Ta' → Fr h₀ L h' m → News h₀ L h' ((r, listOf vs'.toArray 0) :: (pre ++ (Ta' ++ Tb))) → (∀ p ∈ pre, p.1 < r) → (@LT.lt Nat _ 16 r) → (@LT.lt Nat _ 23 r) → Q (.ref r) { s with heap := h', toks := tk' }) :
    wpAny (model PySem.Challenge.rw_gm0003_01.row.prog w) (ktrTop dp un gd cn cs L a ccd cl outer) (call (.ref 21) [.int x tx, .int 1 tn]) Q E s := by
  refine i2d_use hT.a F (news_perm N fun _ => mv1) B X T hk C1 (offA hT hp) hx0 hx1 hdp hu ?_
  intro r vs' Ta' h' tk' I hTa' F' N' lt _ kT
  obtain ⟨o1, m1⟩ := tab_mem hT.a
  obtain ⟨o2, m2⟩ := tab_mem hT.b
  refine hret r vs' Ta' h' tk' I (hT.keepA hTa' kT fun _ h => List.mem_append_right _ h) (fun d o hm h0 => kT d o (List.mem_append_left _ hm) h0) F' (news_perm N' ?_) (fun p hp => lt p (List.mem_append_right _ (List.mem_append_left _ hp))) (lt _ (List.mem_append_left _ m1)) (lt _ (List.mem_append_right _ (List.mem_append_right _ m2)))
  intro x hx
  rcases List.mem_cons.mp hx with h | h
  · rw [h]; exact .head _
  · exact .tail _ (mv2 h)

theorem law_turned (pre : List (Addr × Obj)) {x y : Int} {tx tn : Tok} (hT : LT Ta Tb) (F : Fr h₀ L s.heap m) (N : News h₀ L s.heap (pre ++ (Ta ++ Tb))) (B : Below A₀ base outer h₀) (X : (hd.heap_39 w.params).In h₀)
  (T : Top p loose mean mg mb h₀) (hk : cs.kind = .function) (C1 : CodeHd base 20 16) (hp : ∀ p ∈ pre, p.1 ≠ 16) (hx0 : 0 ≤ x) (hx1 : x < 64) (hy0 : 0 ≤ y) (hy1 : y < 64)
  (hdp : dp + 12 < recursionLimit) (hu : un + 100 < cLine)
  (hret : ∀ (r : Addr) (vs' : List Value) (Ta' : List (Addr × Obj)) (h' : Heap) (tk' : Nat), IntsAre vs' (turnL x y) → LT Ta' Tb → Kept pre Ta Ta' → Fr h₀ L h' m → News h₀ L h' ((r, LCg.lst vs') :: (pre ++ (Ta' ++ Tb))) → (@Ne Nat r 16) → (@Ne Nat r 23) → Q (.ref r) { s with heap := h', toks := tk' }) :
    wpAny (model PySem.Challenge.rw_gm0003_01.row.prog w) (ktrTop dp un gd cn cs L a ccd cl outer) (call (.ref 47) [.int x tx, .int y tn]) Q E s := by
  refine turned_use hT.a F (news_perm N fun _ => mv1) B X T hk C1 (offA hT hp) hx0 hx1 hy0 hy1 hdp hu ?_
  intro r vs' Ta' h' tk' I hTa' F' N' off kT
  refine hret r vs' Ta' h' tk' I (hT.keepA hTa' kT fun _ h => List.mem_append_right _ h) (fun d o hm h0 => kT d o (List.mem_append_left _ hm) h0) F' (news_perm N' ?_) (tab_ne hTa' fun p hp => at1 off p (List.mem_append_left _ hp)) (tab_ne hT.b fun p hp => at1 off p (List.mem_append_right _ (List.mem_append_right _ hp)))
  intro x hx
  rcases List.mem_cons.mp hx with h | h
  · rw [h]; exact .head _
  · exact .tail _ (mv2 h)

theorem law_d2i (pre : List (Addr × Obj)) {l0 : Addr} {dv : List Value} {ds : List Int} {tn : Tok} (hT : LT Ta Tb) (F : Fr h₀ L s.heap m) (N : News h₀ L s.heap (pre ++ (Ta ++ Tb))) (hl0 : (l0, LCg.lst dv) ∈ pre) (hds : IntsAre dv ds) (hb : Bits ds) (hlen : ds.length = 7) (B : Below A₀ base outer h₀) (X : (hd.heap_39 w.params).In h₀)
  (T : Top p loose mean mg mb h₀) (hk : cs.kind = .function) (C1 : CodeHd base 27 23) (hp : ∀ p ∈ pre, p.1 ≠ 23)
  (hdp : dp + 8 < recursionLimit) (hu : un + 70 < cLine)
  (hret : ∀ (tv : Tok) (Tb' : List (Addr × Obj)) (h' : Heap) (tk' : Nat), LT Ta Tb' → Kept pre Tb Tb' → Fr h₀ L h' m → News h₀ L h' (pre ++ (Ta ++ Tb')) → Q (.int (valN ds 0 7) tv) { s with heap := h', toks := tk' }) :
    wpAny (model PySem.Challenge.rw_gm0003_01.row.prog w) (ktrTop dp un gd cn cs L a ccd cl outer) (call (.ref 28) [.ref l0, .int 1 tn]) Q E s := by
  refine d2i w p loose mean mg mb tn l0 dv ds dv.length hds hb (hds.length.trans hlen) hlen (pre ++ Ta) (offB hT hp) (List.mem_append_left _ hl0) Tb hT.b dp un gd cn cs a ccd cl outer A₀ base h₀ L m s Q E B F X (news_perm N fun _ => mv3) T hk C1 hdp hu ?_
  intro tv Tb' h' tk' hTb' F' N' kT
  exact hret tv Tb' h' tk' (hT.keepB (.inr hTb') kT fun _ h => List.mem_append_right _ h) (fun d o hm h0 => kT d o (List.mem_append_left _ hm) h0) F' (news_perm N' fun _ => mv4)

theorem law_whole0 (pre : List (Addr × Obj)) {y : Int} {tx tn : Tok} (hT : LT Ta Tb) (F : Fr h₀ L s.heap m) (N : News h₀ L s.heap (pre ++ (Ta ++ Tb))) (B : Below A₀ base outer h₀) (X : (hd.heap_39 w.params).In h₀)
  (T : Top p loose mean mg mb h₀) (hk : cs.kind = .function) (C1 : CodeHd base 20 16) (hp : ∀ p ∈ pre, p.1 ≠ 16) (hy0 : 0 ≤ y) (hy1 : y ≤ 41)
  (hdp : dp + 20 < recursionLimit) (hu : un + 200 < cLine)
  (hret : ∀ (r : Addr) (u1 u2 u3 u4 : Tok) (Ta' : List (Addr × Obj)) (h' : Heap) (tk' : Nat), LT Ta' Tb → Kept pre Ta Ta' → Fr h₀ L h' m → News h₀ L h' ((r, tup4 (2 * y - (digs y).sum) y y (y.fdiv 2) u1 u2 u3 u4) :: (pre ++ (Ta' ++ Tb))) → (∀ p ∈ pre, p.1 < r) → (@LT.lt Nat _ 16 r) → (@LT.lt Nat _ 23 r) → Q (.ref r) { s with heap := h', toks := tk' }) :
    wpAny (model PySem.Challenge.rw_gm0003_01.row.prog w) (ktrTop dp un gd cn cs L a ccd cl outer) (call (.ref 54) [.int 0 tx, .int y tn]) Q E s := by
  refine whole_spec w p loose mean mg mb 0 y tx tn (Int.le_refl _) hy0 hy1 (pre ++ Tb) (offA hT hp) Ta hT.a dp un gd cn cs a ccd cl outer A₀ base h₀ L m s Q E B F X (news_perm N fun _ => mv1) T hk C1 hdp hu ?_
  intro r c1 c2 c3 c4 u1 u2 u3 u4 Ta' h' tk' hC hTa' F' N' lt kT
  obtain ⟨rfl, e2, e3, rfl⟩ := hC.zero hy0 hy1
  rw [e2, e3] at N'
  obtain ⟨o1, m1⟩ := tab_mem hTa'
  obtain ⟨o2, m2⟩ := tab_mem hT.b
  refine hret r u1 u2 u3 u4 Ta' h' tk' (hT.keepA hTa' kT fun _ h => List.mem_append_right _ h) (fun d o hm h0 => kT d o (List.mem_append_left _ hm) h0) F' (news_perm N' ?_) (fun p hp => lt p (List.mem_append_right _ (List.mem_append_left _ hp))) (lt _ (List.mem_append_left _ m1)) (lt _ (List.mem_append_right _ (List.mem_append_right _ m2)))
  intro x hx
  rcases List.mem_cons.mp hx with h | h
  · rw [h]; exact .head _
  · exact .tail _ (mv2 h)
theorem law_whole (pre : List (Addr × Obj)) {x y : Int} {tx tn : Tok} (hT : LT Ta Tb) (F : Fr h₀ L s.heap m) (N : News h₀ L s.heap (pre ++ (Ta ++ Tb))) (B : Below A₀ base outer h₀) (X : (hd.heap_39 w.params).In h₀)
  (T : Top p loose mean mg mb h₀) (hk : cs.kind = .function) (C1 : CodeHd base 20 16) (hp : ∀ p ∈ pre, p.1 ≠ 16) (hx0 : 0 ≤ x) (hxy : x ≤ y) (hy1 : y ≤ 41)
  (hdp : dp + 20 < recursionLimit) (hu : un + 200 < cLine)
  (hret : ∀ (r : Addr) (c2 c3 c4 : Int) (u1 u2 u3 u4 : Tok) (Ta' : List (Addr × Obj)) (h' : Heap) (tk' : Nat), LT Ta' Tb → Kept pre Ta Ta' → Fr h₀ L h' m → News h₀ L h' ((r, tup4 (2 * (y - x) - (digs y).sum + (digs x).sum) c2 c3 c4 u1 u2 u3 u4) :: (pre ++ (Ta' ++ Tb))) → (∀ p ∈ pre, p.1 < r) → (@LT.lt Nat _ 16 r) → (@LT.lt Nat _ 23 r) → Q (.ref r) { s with heap := h', toks := tk' }) :
    wpAny (model PySem.Challenge.rw_gm0003_01.row.prog w) (ktrTop dp un gd cn cs L a ccd cl outer) (call (.ref 54) [.int x tx, .int y tn]) Q E s := by
  refine whole_spec w p loose mean mg mb x y tx tn hx0 hxy hy1 (pre ++ Tb) (offA hT hp) Ta hT.a dp un gd cn cs a ccd cl outer A₀ base h₀ L m s Q E B F X (news_perm N fun _ => mv1) T hk C1 hdp hu ?_
  intro r c1 c2 c3 c4 u1 u2 u3 u4 Ta' h' tk' hC hTa' F' N' lt kT
  obtain ⟨rfl, _, _, _⟩ := hC.closed hx0 hxy hy1
  obtain ⟨o1, m1⟩ := tab_mem hTa'
  obtain ⟨o2, m2⟩ := tab_mem hT.b
  refine hret r c2 c3 c4 u1 u2 u3 u4 Ta' h' tk' (hT.keepA hTa' kT fun _ h => List.mem_append_right _ h) (fun d o hm h0 => kT d o (List.mem_append_left _ hm) h0) F' (news_perm N' ?_) (fun p hp => lt p (List.mem_append_right _ (List.mem_append_left _ hp))) (lt _ (List.mem_append_left _ m1)) (lt _ (List.mem_append_right _ (List.mem_append_right _ m2)))
  intro x hx
  rcases List.mem_cons.mp hx with h | h
  · rw [h]; exact .head _
  · exact .tail _ (mv2 h)
end
end Mine
end

-- part CC0
section
open PySem PySem.W PyProof.Rows PySem.Calls
set_option Elab.async false
namespace Mine
set_option maxRecDepth 100000

section
variable {prog : Program} {w : World} {A : Around} {E : Value → Shared → Prop} {s : Shared} {env : Env} {h₀ : Heap} {L : Addr} {m : Str → Option Value}

/-- a comprehension's own frame, where its one name is a cell -/
theorem newEnv_oneCell {M : Model} {scope : Scope} {globals : Addr} {cl : List (Str × Addr)} {qual : Str} {x : Str} {Q : Env → Shared → Prop} (hcf : ∀ n, cellsFrom n scope.names cl = (x, n) :: cl) (hpc : ∀ h, pushCells h scope.names = h.push { cls := .type "cell", data := .cell none })
    (h : Q { scope := scope, locals := s.heap.objs.size, globals := globals, cells := (x, s.heap.objs.size + 1) :: cl, qual := qual, func := none, code := env.code, frame := env.frame, builtins := env.builtins } { s with heap := (s.heap.push { cls := .type "dict", data := .dict #[] }).push { cls := .type "cell", data := .cell none } }) :
    wpAny M A (newFunctionEnv scope globals cl [] qual none .none (some env)) Q E s := by
  simp only [newFunctionEnv, Option.isSome_some, if_true]
  refine wpAny_bind (wpAny_alloc ?_)
  refine wpAny_bind (wpAny_layCells _ (fun name kind cells => by cases hkc : kind == NameKind.cell <;> simp [hkc]) _ _ _ _ ?_)
  rw [hpc, hcf]
  dsimp only
  rw [Heap.size_push]
  exact wpAny_bind (wpAny_pure (wpAny_pure h))

def CellEnd (h₀ : Heap) (L : Addr) (m : Str → Option Value) (led : List (Addr × Obj)) (r : Int) (s₁ : Shared) (y : Value) (s₂ : Shared) : Prop :=
  ∃ h' tk' t, s₂ = { s₁ with heap := h', toks := tk' } ∧ Fr h₀ L h' m ∧ News h₀ L h' led ∧ y = .int r t
def CellTurn (prog : Program) (w : World) (A : Around) (h₀ : Heap) (L : Addr) (m : Str → Option Value) (env : Env) (elt : Expr) (x : Str) (scope : Scope) (cl : List (Str × Addr)) (news : List (Addr × Obj)) (a : Int) (n : Nat) (g : Int → Int) (s₁ : Shared) : Prop :=
  ∀ (k : Int) (t : Tok) I oI C oC Kc oK D ys h tk (E' : Value → Shared → Prop), a ≤ k → k < a + (n : Int) → oK.data = .cell (some (.int k t)) → Fr h₀ L h m → News h₀ L h ((I, oI) :: (C, oC) :: (Kc, oK) :: (D, LCg.lst ys) :: news) →
    wpAny (model prog w) A (eval elt (compEnvC scope ((x, Kc) :: cl) C env)) (CellEnd h₀ L m ((I, oI) :: (C, oC) :: (Kc, oK) :: (D, LCg.lst ys) :: news) (g k) { s₁ with heap := h, toks := tk }) E' { s₁ with heap := h, toks := tk }
def CellFin (h₀ : Heap) (L : Addr) (m : Str → Option Value) (news : List (Addr × Obj)) (a : Int) (n : Nat) (g : Int → Int) (s₁ : Shared) (Q : Value → Shared → Prop) : Prop :=
  ∀ D ys h tk, IntsAre ys ((rangeKs a n).map g) → Fr h₀ L h m → News h₀ L h ((D, LCg.lst ys) :: news) → (∀ p ∈ news, p.1 < D) → Q (.ref D) { s₁ with heap := h, toks := tk }
def CompCellG (prog : Program) (w : World) (A : Around) (h₀ : Heap) (L : Addr) (m : Str → Option Value) (env : Env) (elt : Expr) (x : Str) (scope : Scope) (cl : List (Str × Addr)) (g : Int → Int) (Fin : List (Addr × Obj) → Int → Nat → Shared → Prop) (xv : Value) (s₁ : Shared) : Prop :=
  ∃ r a b t u v n news, xv = .ref r ∧ A.handled = none ∧ Fr h₀ L s₁.heap m ∧ News h₀ L s₁.heap news ∧ IsRange s₁.heap r a b 1 t u v ∧ Builtin.Range.small a b 1 = true ∧ Builtin.Range.rangeSize a b 1 = ((n : Nat) : Int) ∧ n ≤ sizeLine ∧
    CellTurn prog w A h₀ L m env elt x scope cl news a n g s₁ ∧ Fin news a n s₁
def CellFinA (h₀ : Heap) (L : Addr) (m : Str → Option Value) (z : Str) (g : Int → Int) (Q : Flow → Shared → Prop) (news : List (Addr × Obj)) (a : Int) (n : Nat) (s₁ : Shared) : Prop :=
  ∀ D ys h tk, IntsAre ys ((rangeKs a n).map g) → Fr h₀ L h (fun y => if y = z then some (.ref D) else m y) → News h₀ L h ((D, LCg.lst ys) :: news) → (∀ p ∈ news, p.1 < D) → Q .next { s₁ with heap := h, toks := tk }
theorem news_off {h h' : Heap} {X : Addr} {l : List (Addr × Obj)} (N : News h₀ L h l) (hk : ∀ b o, b ≠ X → h.get? b = some o → h'.get? b = some o) (off : ∀ p ∈ l, p.1 ≠ X) : News h₀ L h' l := fun p hp => ⟨hk _ _ (off p hp) (N p hp).1, (N p hp).2⟩
theorem news_put {h h' : Heap} {X : Addr} {o o' : Obj} {l : List (Addr × Obj)} (N : News h₀ L h l) (hm : (X, o) ∈ l) (e : h'.get? X = some o') : News h₀ L h' [(X, o')] := fun p hp => by
  rw [List.mem_singleton.mp hp]; exact ⟨e, (N _ hm).2⟩

theorem block_cell {elt iter : Expr} {x : Str} {px : Pos} {scope : Scope} {cl : List (Str × Addr)} {pos : Pos} {g : Int → Int} {RR : Value → Addr → Result → Shared → Prop} {E : Value → Shared → Prop} {s₁ : Shared} {r : Addr} {a b : Int} {t u v : Tok} {n : Nat} {news : List (Addr × Obj)}
    (hkind : scope.kind = .function) (hcf : ∀ n, cellsFrom n scope.names cl = (x, n) :: cl) (hpc : ∀ h, pushCells h scope.names = h.push { cls := .type "cell", data := .cell none })
    (hx : (relabel scope env).names.lookup x = some .cell) (hh : A.handled = none) (F : Fr h₀ L s₁.heap m) (N : News h₀ L s₁.heap news) (hr : IsRange s₁.heap r a b 1 t u v) (hsm : Builtin.Range.small a b 1 = true) (hn : Builtin.Range.rangeSize a b 1 = ((n : Nat) : Int)) (hsz : n ≤ sizeLine)
    (turn : CellTurn prog w A h₀ L m env elt x scope cl news a n g s₁)
    (hRR : ∀ D C ys h tk m', IntsAre ys ((rangeKs a n).map g) → Fr h₀ L h m → News h₀ L h ((D, LCg.lst ys) :: news) → (∀ p ∈ news, p.1 < D) → h.Ns C m' → h₀.get? C = none → C ≠ L → D ≠ C → (∀ p ∈ news, p.1 ≠ C) → RR (.ref D) C (.ok .next) { s₁ with heap := h, toks := tk }) :
    wpAny (model prog w) A (pyIter (.ref r)) (fun it s₂ => wpAny (model prog w) A (newList []) (fun acc s₃ => wpAny (model prog w) A (newFunctionEnv scope env.globals cl [] env.qual none .none (some env)) (fun cenv s₄ =>
      codeAny (model prog w) A (.compStart (.ListComp elt [⟨.Name x px, iter, [], 0⟩] scope pos) 0 it acc { cenv with scope := relabel scope env }) (RR acc cenv.locals) s₄) E s₃) E s₂) E s₁ := by
  refine wpAny_pyIter_range hr hsm ?_
  refine wpAny_newObj_type (newEnv_oneCell hcf hpc ?_)
  dsimp only
  -- the four new objects
  have hLz : L < s₁.heap.objs.size := F.ns.lt
  have hnz : ∀ p ∈ news, p.1 < s₁.heap.objs.size := fun p hp => Heap.lt_size (N p hp).1
  obtain ⟨H1, hH1⟩ : ∃ H, H = s₁.heap.push { cls := .type "range_iterator", data := .fields #[rawInt a, rawInt (Builtin.Range.rangeSize a b 1), rawInt 1] } := ⟨_, rfl⟩
  have F1 : Fr h₀ L H1 m := hH1 ▸ F.push _
  have N1 : News h₀ L H1 ((s₁.heap.objs.size, { cls := .type "range_iterator", data := .fields #[rawInt a, rawInt (Builtin.Range.rangeSize a b 1), rawInt 1] }) :: news) := hH1 ▸ News.push F N _
  have z1 : H1.objs.size = s₁.heap.objs.size + 1 := by rw [hH1, Heap.size_push]
  have st1 : IsRangeIter H1 s₁.heap.objs.size (a + ((0 : Nat) : Int) * 1) ((n : Int) - ((0 : Nat) : Int)) 1 := by
    show H1.get? _ = some _
    rw [(N1 _ (.head _)).1, hn]
    simp
  rw [← hH1]
  obtain ⟨H2, hH2⟩ : ∃ H, H = H1.push { cls := .type "list", data := .seq ([] : List Value).toArray } := ⟨_, rfl⟩
  have F2 : Fr h₀ L H2 m := hH2 ▸ F1.push _
  have N2 : News h₀ L H2 ((H1.objs.size, LCg.lst []) :: (s₁.heap.objs.size, { cls := .type "range_iterator", data := .fields #[rawInt a, rawInt (Builtin.Range.rangeSize a b 1), rawInt 1] }) :: news) := hH2 ▸ News.push F1 N1 _
  have z2 : H2.objs.size = s₁.heap.objs.size + 2 := by rw [hH2, Heap.size_push, z1]
  have st2 : IsRangeIter H2 s₁.heap.objs.size (a + ((0 : Nat) : Int) * 1) ((n : Int) - ((0 : Nat) : Int)) 1 := by rw [hH2]; exact Heap.get?_push_of_some _ st1
  rw [← hH2]
  obtain ⟨H3, hH3⟩ : ∃ H, H = H2.push { cls := .type "dict", data := .dict #[] } := ⟨_, rfl⟩
  have F3 : Fr h₀ L H3 m := hH3 ▸ F2.push _
  have N3 : News h₀ L H3 ((H2.objs.size, { cls := .type "dict", data := .dict #[] }) :: (H1.objs.size, LCg.lst []) :: (s₁.heap.objs.size, { cls := .type "range_iterator", data := .fields #[rawInt a, rawInt (Builtin.Range.rangeSize a b 1), rawInt 1] }) :: news) := hH3 ▸ News.push F2 N2 _
  have z3 : H3.objs.size = H2.objs.size + 1 := by rw [hH3, Heap.size_push]
  have st3 : IsRangeIter H3 s₁.heap.objs.size (a + ((0 : Nat) : Int) * 1) ((n : Int) - ((0 : Nat) : Int)) 1 := by rw [hH3]; exact Heap.get?_push_of_some _ st2
  rw [← hH3]
  obtain ⟨H4, hH4⟩ : ∃ H, H = H3.push { cls := .type "cell", data := .cell none } := ⟨_, rfl⟩
  have F4 : Fr h₀ L H4 m := hH4 ▸ F3.push _
  have N4 : News h₀ L H4 ((H2.objs.size + 1, { cls := .type "cell", data := .cell none }) :: (H2.objs.size, { cls := .type "dict", data := .dict #[] }) :: (H1.objs.size, LCg.lst []) :: (s₁.heap.objs.size, { cls := .type "range_iterator", data := .fields #[rawInt a, rawInt (Builtin.Range.rangeSize a b 1), rawInt 1] }) :: news) := by
    rw [hH4, ← z3]; exact News.push F3 N3 _
  have st4 : IsRangeIter H4 s₁.heap.objs.size (a + ((0 : Nat) : Int) * 1) ((n : Int) - ((0 : Nat) : Int)) 1 := by rw [hH4]; exact Heap.get?_push_of_some _ st3
  rw [← hH4]
  generalize hI : s₁.heap.objs.size = I at *
  generalize hD : H1.objs.size = D at *
  generalize hC : H2.objs.size = C at *
  have W := LCg.range_walks (prog := prog) (w := w) (I := I) hh a n
  have eD : D = I + 1 := z1
  have eC : C = I + 2 := z2
  have offs : ∀ p ∈ news, p.1 ≠ I ∧ p.1 ≠ D ∧ p.1 ≠ C ∧ p.1 ≠ C + 1 := fun p hp => by
    have q : @LT.lt Nat _ p.1 I := hnz p hp
    refine ⟨?_, ?_, ?_, ?_⟩ <;> (refine Nat.ne_of_lt ?_; omega)
  have ne1 : C ≠ I := by omega
  have ne2 : C + 1 ≠ I := by omega
  have ne3 : D ≠ I := by omega
  have ne4 : C ≠ C + 1 := by omega
  have ne5 : D ≠ C + 1 := by omega
  have ne6 : I ≠ C + 1 := by omega
  have ne7 : C ≠ D := by omega
  have ne8 : C + 1 ≠ D := by omega
  have ne9 : I ≠ D := by omega
  have ne10 : D ≠ C := by omega
  have neL : I ≠ L ∧ D ≠ L ∧ C ≠ L ∧ C + 1 ≠ L := by
    have q : @LT.lt Nat _ L I := hLz
    refine ⟨?_, ?_, ?_, ?_⟩ <;> (refine Ne.symm (Nat.ne_of_lt ?_); omega)
  have fI : h₀.get? I = none := (N4 (I, _) (.tail _ (.tail _ (.tail _ (.head _))))).2.2
  have fD : h₀.get? D = none := (N4 (D, _) (.tail _ (.tail _ (.head _)))).2.2
  have fC : h₀.get? C = none := (N4 (C, _) (.tail _ (.head _))).2.2
  have fK : h₀.get? (C + 1) = none := (N4 (C + 1, _) (.head _)).2.2
  have N5 : News h₀ L H4 ((I, { cls := .type "range_iterator", data := .fields #[rawInt a, rawInt (Builtin.Range.rangeSize a b 1), rawInt 1] }) :: (C, { cls := .type "dict", data := .dict #[] }) :: (C + 1, { cls := .type "cell", data := .cell none }) :: (D, LCg.lst []) :: news) := news_perm N4 (by
    intro p hp
    simp only [List.mem_cons] at hp ⊢
    rcases hp with h | h | h | h | h <;> simp [h])
  have loop : codeAny (model prog w) A (.compLoop (.ListComp elt [⟨.Name x px, iter, [], 0⟩] scope pos) 0 (.ref I) (.ref D) (compEnvC scope ((x, C + 1) :: cl) C env))
      (RR (.ref D) C) { s₁ with heap := H4 } := by
    refine codeAny_compLoop_tests (fun idx s' => ∃ h' tk i ys oI oK vK, s' = { s₁ with heap := h', toks := tk } ∧ i ≤ n ∧ idx = n + 1 - i ∧ ys.length = i ∧ IntsAre ys (((rangeKs a n).take i).map g) ∧
      IsRangeIter h' I (a + ((i : Nat) : Int) * 1) ((n : Int) - ((i : Nat) : Int)) 1 ∧ oK.data = .cell vK ∧ Fr h₀ L h' m ∧ News h₀ L h' ((I, oI) :: (C, { cls := .type "dict", data := .dict #[] }) :: (C + 1, oK) :: (D, LCg.lst ys) :: news)) ?_ (n + 1)
      ⟨H4, _, 0, [], _, { cls := .type "cell", data := .cell none }, none, rfl, Nat.zero_le _, rfl, rfl, by simp only [List.take_zero, List.map_nil]; exact .nil, st4, rfl, F4, N5⟩
    · rintro idx s' ⟨h', tk, i, ys, oI, oK, vK, rfl, hi, rfl, hyl, hI', hst, hoK, F', N'⟩
      by_cases hlt : i < n
      · refine W.item i _ _ _ hlt hst fun v h₂ tk₂ hPv hst₂ hk₂ => ?_
        obtain ⟨t, rfl⟩ := hPv
        have q2 : h₂.get? I = some _ := hst₂
        obtain ⟨oI2, hoI2⟩ : ∃ o, h₂.get? I = some o := ⟨_, q2⟩
        have eI2 := hoI2.symm.trans q2
        have F₂ : Fr h₀ L h₂ m := LCg.fr_but F' hk₂ (Ne.symm neL.1) fI
        have N₂ : News h₀ L h₂ ((I, oI2) :: (C, { cls := .type "dict", data := .dict #[] }) :: (C + 1, oK) :: (D, LCg.lst ys) :: news) := fun p hp => by
          rcases List.mem_cons.mp hp with rfl | hp
          · exact ⟨hoI2, neL.1, fI⟩
          · refine ⟨hk₂ _ _ ?_ (N' p (.tail _ hp)).1, (N' p (.tail _ hp)).2⟩
            rw [List.mem_singleton]
            rcases List.mem_cons.mp hp with rfl | hp
            · exact ne1
            · rcases List.mem_cons.mp hp with rfl | hp
              · exact ne2
              · rcases List.mem_cons.mp hp with rfl | hp
                · exact ne3
                · exact (offs p hp).1
        refine wpAny_assign_Name (wpAny_storeName_cell (env := compEnvC scope ((x, C + 1) :: cl) C env) (c := C + 1) (v₀ := vK) (show (relabel scope env).kind = _ from hkind) hx (by simp [compEnvC]) ⟨oK, (N₂ _ (.tail _ (.tail _ (.head _)))).1, hoK⟩ (fun h₃ hv₃ hs₃ => ?_))
        obtain ⟨oK3, hoK3, hdK3⟩ := hv₃
        have F₃ : Fr h₀ L h₃ m := F₂.change hs₃ neL.2.2.2 fK
        have N₃ : News h₀ L h₃ ((I, oI2) :: (C, { cls := .type "dict", data := .dict #[] }) :: (C + 1, oK3) :: (D, LCg.lst ys) :: news) := fun p hp => by
          have keep : ∀ q : Addr × Obj, q.1 ≠ C + 1 → q ∈ (I, oI2) :: (C, ({ cls := .type "dict", data := .dict #[] } : Obj)) :: (C + 1, oK) :: (D, LCg.lst ys) :: news → h₃.get? q.1 = some q.2 ∧ q.1 ≠ L ∧ h₀.get? q.1 = none := fun q hq hm => ⟨(hs₃.2 q.1 hq).trans (N₂ q hm).1, (N₂ q hm).2⟩
          rcases List.mem_cons.mp hp with rfl | hp
          · exact keep _ ne6 (.head _)
          · rcases List.mem_cons.mp hp with rfl | hp
            · exact keep _ ne4 (.tail _ (.head _))
            · rcases List.mem_cons.mp hp with rfl | hp
              · exact ⟨hoK3, neL.2.2.2, fK⟩
              · rcases List.mem_cons.mp hp with rfl | hp
                · exact keep _ ne5 (.tail _ (.tail _ (.tail _ (.head _))))
                · exact keep _ (offs p hp).2.2.2 (.tail _ (.tail _ (.tail _ (.tail _ hp))))
        refine wpAny_tests_nil ?_
        simp only [if_true]
        refine wpAny_mono (turn (a + (i : Int)) t I oI2 C _ (C + 1) oK3 D ys h₃ _ _ (by omega) (by omega) hdK3 F₃ N₃) (fun y s₄ h₄ => ?_) fun _ _ e => e
        obtain ⟨h₄, tk₄, t₄, rfl, F₄, N₄', rfl⟩ := h₄
        refine append_at (hsz := by show ys.toArray.size ≤ sizeLine; rw [List.size_toArray, hyl]; exact Nat.le_trans hi hsz) (N₄' _ (.tail _ (.tail _ (.tail _ (.head _))))).1 fun h₅ hs₅ hD₅ => ?_
        refine ⟨n + 1 - (i + 1), by omega, h₅, tk₄, i + 1, ys ++ [.int (g (a + (i : Int))) t₄], oI2, oK3, _, rfl, hlt, rfl, by rw [List.length_append, List.length_singleton, hyl], ?_, ?_, hdK3, F₄.change hs₅ neL.2.1 fD, fun p hp => ?_⟩
        · have e : (rangeKs a n)[i]? = some (a + (i : Int)) := by simp [rangeKs, hlt]
          rw [List.take_add_one, e]
          simpa using IntsAre.append hI' (.cons (g (a + (i : Int))) t₄ .nil)
        · show h₅.get? I = some _
          exact ((hs₅.2 I ne9).trans (N₄' _ (.head _)).1).trans eI2
        · have keep : ∀ q : Addr × Obj, q.1 ≠ D → q ∈ (I, oI2) :: (C, ({ cls := .type "dict", data := .dict #[] } : Obj)) :: (C + 1, oK3) :: (D, LCg.lst ys) :: news → h₅.get? q.1 = some q.2 ∧ q.1 ≠ L ∧ h₀.get? q.1 = none := fun q hq hm => ⟨(hs₅.2 q.1 hq).trans (N₄' q hm).1, (N₄' q hm).2⟩
          rcases List.mem_cons.mp hp with rfl | hp
          · exact keep _ ne9 (.head _)
          · rcases List.mem_cons.mp hp with rfl | hp
            · exact keep _ ne7 (.tail _ (.head _))
            · rcases List.mem_cons.mp hp with rfl | hp
              · exact keep _ ne8 (.tail _ (.tail _ (.head _)))
              · rcases List.mem_cons.mp hp with rfl | hp
                · exact ⟨hD₅.trans (congrArg some (LCg.lst_snoc ys _)), neL.2.1, fD⟩
                · exact keep _ (offs p hp).2.1 (.tail _ (.tail _ (.tail _ (.tail _ hp))))
      · obtain rfl : i = n := Nat.le_antisymm hi (Nat.not_lt.mp hlt)
        refine W.done _ _ _ hst fun h₂ tk₂ hk₂ => ?_
        have hCk : h₂.get? C = some { cls := .type "dict", data := .dict #[] } := hk₂ _ _ (by rw [List.mem_singleton]; exact ne1) (N' _ (.tail _ (.head _))).1
        refine hRR D C ys h₂ tk₂ (fun _ => none) ?_ (LCg.fr_but F' hk₂ (Ne.symm neL.1) fI) ?_ ?_ ⟨_, #[], _, hCk, rfl, by simp [StrKeys], fun _ => rfl⟩ fC neL.2.2.1 ne10 (fun p hp => (offs p hp).2.2.1)
        · rw [List.take_of_length_le (Nat.le_of_eq (rangeKs_length a i))] at hI'
          exact hI'
        · intro p hp
          rcases List.mem_cons.mp hp with rfl | hp
          · exact ⟨hk₂ _ _ (by rw [List.mem_singleton]; exact ne3) (N' _ (.tail _ (.tail _ (.tail _ (.head _))))).1, neL.2.1, fD⟩
          · have q := N' p (.tail _ (.tail _ (.tail _ (.tail _ hp))))
            exact ⟨hk₂ _ _ (by rw [List.mem_singleton]; exact (offs p hp).1) q.1, q.2⟩
        · intro p hp
          have q : @LT.lt Nat _ p.1 I := hnz p hp
          show @LT.lt Nat _ p.1 D
          omega
  exact codeAny_compStart_list loop (W.self 0 _ _ _ st4 loop)

theorem ListComp_cell {elt iter : Expr} {x : Str} {px : Pos} {scope : Scope} {cl : List (Str × Addr)} {pos : Pos} {g : Int → Int} {Q : Value → Shared → Prop} 
    (hclos : closureFor scope env = pure cl) (hkind : scope.kind = .function)
    (hnames : ∀ y ∈ scope.names, y.2 = .local → scope.names.lookup y.1 = some .local) (hcf : ∀ n, cellsFrom n scope.names cl = (x, n) :: cl) (hpc : ∀ h, pushCells h scope.names = h.push { cls := .type "cell", data := .cell none })
    (hx : (relabel scope env).names.lookup x = some .cell)
    (h : wpAny (model prog w) A (eval iter env) (CompCellG prog w A h₀ L m env elt x scope cl g (fun news a n s₁ => CellFin h₀ L m news a n g s₁ Q)) E s)
    (hs : ∀ x, foldedSetIterable iter env x = pure x) :
    wpAny (model prog w) A (eval (.ListComp elt [⟨.Name x px, iter, [], 0⟩] scope pos) env) Q E s := by
  rw [eval_ListComp]
  refine wpAny_comprehension_free (use := none) rfl hs hclos hkind hnames (wpAny_mono h (fun xv s₁ h₁ => ?_) fun _ _ e => e)
  obtain ⟨r, a, b, t, u, v, n, news, rfl, hh, F, N, hr, hsm, hn, hsz, turn, fin⟩ := h₁
  refine block_cell hkind hcf hpc hx hh F N hr hsm hn hsz turn ?_
  intro D C ys h tk m' hI F' N' lt hC hC₀ hCL hDC off
  refine ⟨m', hC, fun h'' hs'' => fin D ys h'' tk hI (F'.change hs'' hCL hC₀) (fun p hp => ?_) lt⟩
  rcases List.mem_cons.mp hp with rfl | hp
  · exact ⟨(hs''.2 _ hDC).trans (N' _ (.head _)).1, (N' _ (.head _)).2⟩
  · exact ⟨(hs''.2 _ (off p hp)).trans (N' _ (.tail _ hp)).1, (N' _ (.tail _ hp)).2⟩

theorem Assign_ListComp_cell {elt iter : Expr} {x z : Str} {px pz : Pos} {scope : Scope} {cl : List (Str × Addr)} {pos spos : Pos} {g : Int → Int} {Q : Flow → Shared → Prop} (hLe : env.locals = L)
    (hsw : swapsWith (.ListComp elt [⟨.Name x px, iter, [], 0⟩] scope pos) (some (.Name z pz)) spos.line env = pure true)
    (hclos : closureFor scope env = pure cl) (hkind : scope.kind = .function)
    (hnames : ∀ y ∈ scope.names, y.2 = .local → scope.names.lookup y.1 = some .local) (hcf : ∀ n, cellsFrom n scope.names cl = (x, n) :: cl) (hpc : ∀ h, pushCells h scope.names = h.push { cls := .type "cell", data := .cell none })
    (hx : (relabel scope env).names.lookup x = some .cell) (hz : env.kindOf z = some .local) (hp : (env.scope.kind == .class || (env.scope.kind == .module && env.locals != env.globals)) = false)
    (h : wpAny (model prog w) A (eval iter env) (CompCellG prog w A h₀ L m env elt x scope cl g (CellFinA h₀ L m z g Q)) E s)
    (hs : ∀ x, foldedSetIterable iter env x = pure x) :
    wpAny (model prog w) A (exec (.Assign [.Name z pz] (.ListComp elt [⟨.Name x px, iter, [], 0⟩] scope pos) spos) env) Q E s := by
  subst hLe
  rw [exec_Assign_Name_used _ _ _ _ hsw]
  refine wpAny_bind (wpAny_standAt (wpAny_bind ?_))
  show wpAny _ A (do let _ ← comprehension (.ListComp elt [⟨.Name x px, iter, [], 0⟩] scope pos) scope env _ (newList []) false (eval iter env) (some (assign (.Name z pz) env))) _ _ s
  refine wpAny_bind (wpAny_mono (wpAny_comprehension_free (use := some (assign (.Name z pz) env)) (Q := fun _ s' => Q .next s') rfl hs hclos hkind hnames
    (wpAny_mono h (fun xv s₁ h₁ => ?_) fun _ _ e => e)) (fun _ s' hq => wpAny_pure (wpAny_pure hq)) fun _ _ e => e)
  obtain ⟨r, a, b, t, u, v, n, news, rfl, hh, F, N, hr, hsm, hn, hsz, turn, fin⟩ := h₁
  refine block_cell hkind hcf hpc hx hh F N hr hsm hn hsz turn ?_
  intro D C ys h tk m' hI F' N' lt hC hC₀ hCL hDC off
  show wpAny _ A (assign (.Name z pz) env (.ref D)) _ _ _
  refine wpAny_assign_Name (wpAny_storeName_local hz F'.ns (fun h₂ hn₂ hs₂ => ?_) hp)
  have hL₀ : h₀.get? env.locals = none := Heap.get?_none_of_le F'.above
  have F₂ : Fr h₀ env.locals h₂ (fun y => if y = z then some (.ref D) else m y) := ⟨hn₂, fun b o e => hs₂.extBut b o (fun q => by rw [q, hL₀] at e; cases e) (F'.keep b o e), F'.above⟩
  refine ⟨m', hC.sameBut hs₂ hCL, fun h'' hs'' => fin D ys h'' _ hI (F₂.change hs'' hCL hC₀) (fun p hp => ?_) lt⟩
  rcases List.mem_cons.mp hp with rfl | hp
  · exact ⟨(hs''.2 _ hDC).trans ((hs₂.2 _ (N' _ (.head _)).2.1).trans (N' _ (.head _)).1), (N' _ (.head _)).2⟩
  · exact ⟨(hs''.2 _ (off p hp)).trans ((hs₂.2 _ (N' _ (.tail _ hp)).2.1).trans (N' _ (.tail _ hp)).1), (N' _ (.tail _ hp)).2⟩
end
end Mine
end

-- part M1
section
open PySem PySem.W PyProof.Rows
set_option Elab.async false
namespace Mine
set_option maxRecDepth 100000

theorem idx_lay_all : ∀ a : Fin 64, PyData.layable0 (.list ((digs (a.val : Int) ++ [0]).map .int)) = true := by decide +kernel
theorem idx_lay {k : Int} (h0 : 0 ≤ k) (h1 : k < 64) : PyData.layable0 (.list ((digs k ++ [0]).map .int)) = true := by
  have q := idx_lay_all ⟨k.toNat, by omega⟩
  have e : ((k.toNat : Nat) : Int) = k := by omega
  simp only [e] at q
  exact q
theorem turn_val {k : Int} (h0 : 0 ≤ k) (h1 : k < 41) : valN (turnL k (k + 1)) 0 7 = (2 : Int) ^ ((noughtAt k : Int) + 1).toNat - 1 := by
  have e : ((noughtAt k : Int) + 1).toNat = noughtAt k + 1 := by omega
  rw [e]; exact (turn_of h0 h1).2.1
def NB (_ : Int) : Prop := True
def KK (_ : Int) : Prop := True
def cntG (nb k : Int) : Int := nb.fdiv (2 ^ k.toNat)
def cntF (kk : Int) (l : List Int) (h : Int) : List Int := if (h + 1).fmod (2 ^ kk.toNat) = 0 then l ++ [h] else l
theorem cntF_yes {kk h : Int} {l : List Int} (e : (h + 1).fmod (2 ^ kk.toNat) = 0) : cntF kk l h = l ++ [h] := if_pos e
theorem cntF_no {kk h : Int} {l : List Int} (e : ¬ (h + 1).fmod (2 ^ kk.toNat) = 0) : cntF kk l h = l := if_neg e
theorem cntF_grows (kk : Int) : KPfGrows (cntF kk) := by
  intro l h
  unfold cntF
  split <;> simp
theorem cnt_all : ∀ a : Fin 32, ∀ b : Fin 7, (((rangeKs 0 a.val).foldl (cntF (b.val : Int)) []).length : Int) = cntG (a.val : Int) (b.val : Int) := by decide +kernel
theorem cnt_of {nb k : Int} {n : Nat} (e : n = nb.toNat) (h0 : 0 ≤ nb) (h1 : nb < 32) (k0 : 0 ≤ k) (k1 : k < 7) : (((rangeKs 0 n).foldl (cntF k) []).length : Int) = cntG nb k := by
  subst e
  have q := cnt_all ⟨nb.toNat, by omega⟩ ⟨k.toNat, by omega⟩
  have e : ((nb.toNat : Nat) : Int) = nb := by omega
  have e2 : ((k.toNat : Nat) : Int) = k := by omega
  simp only [e, e2] at q
  exact q
theorem sumc_all : ∀ a : Fin 32, ((rangeKs 0 7).map (cntG (a.val : Int))).sum = 2 * (a.val : Int) - (digs (a.val : Int)).sum := by decide +kernel
theorem sumc_of {nb : Int} (h0 : 0 ≤ nb) (h1 : nb < 32) : ((rangeKs 0 7).map (cntG nb)).sum = 2 * nb - (digs nb).sum := by
  have q := sumc_all ⟨nb.toNat, by omega⟩
  have e : ((nb.toNat : Nat) : Int) = nb := by omega
  simp only [e] at q
  exact q
theorem pow_ne (k : Int) : (2 : Int) ^ k.toNat ≠ 0 := Int.ne_of_gt (Int.pow_pos (by decide))

section
variable {prog : Program} {w : World} {A : Around} {E : Value → Shared → Prop} {s : Shared} {h₀ : Heap} {L : Addr} {m : Str → Option Value} {news : List (Addr × Obj)}
theorem idx_zero {l : Addr} {vs : List Value} {k : Int} {t : Tok} {n : Nat} {Q : Value → Shared → Prop} (N : News h₀ L s.heap news) (hl : (l, listOf vs.toArray n) ∈ news) (hi : IntsAre vs (digs k ++ [0])) (h0 : 0 ≤ k) (h1 : k < 41)
    (h : noughtAt k ≤ 6 → Q (.int (noughtAt k : Nat) s.toks) { s with toks := s.toks + 1 }) : wpAny (model prog w) A (call (.builtin "list.index") [.ref l, .int 0 t]) Q E s :=
  index_list_ints (k := 0) ⟨_, (N _ hl).1, rfl, n, rfl⟩ hi (idx_lay h0 (by omega)) (List.mem_append_right _ (List.mem_singleton.mpr rfl)) (h (turn_of h0 h1).2.2)
theorem add_zero {a b : Addr} {vs : List Value} {k : Int} {t : Tok} {n n2 : Nat} {Q : Value → Shared → Prop} (F : Fr h₀ L s.heap m) (N : News h₀ L s.heap news) (ha : (a, listOf vs.toArray n) ∈ news) (hb : (b, listOf #[.int 0 t] n2) ∈ news) (hi : IntsAre vs (digs k)) (h0 : 0 ≤ k) (h1 : k < 64)
    (h : ∀ D us h', Fr h₀ L h' m → News h₀ L h' ((D, listOf (List.toArray us) 0) :: news) → (∀ p ∈ news, p.1 < D) → IntsAre us (digs k ++ [0]) → Q (.ref D) { s with heap := h' }) : wpAny (model prog w) A (binaryOp .Add (.ref a) (.ref b)) Q E s :=
  kmk_add_ints F N ⟨_, (N _ ha).1, rfl, n, rfl⟩ (ws := [.int 0 t]) ⟨_, (N _ hb).1, rfl, n2, rfl⟩ hi (.cons 0 t .nil) h (by have := digs_len h0 h1; simp only [List.length_cons, List.length_nil, sizeLine_eq]; omega)
theorem pow_two {n : Int} {t u : Tok} {Q : Value → Shared → Prop} (h0 : 0 ≤ n) (h1 : n ≤ 1000) (h : Q (.int (2 ^ n.toNat) s.toks) { s with toks := s.toks + 1 }) : wpAny (model prog w) A (binaryOp .Pow (.int 2 t) (.int n u)) Q E s :=
  pow_int_small h0 (by omega) (by decide) h
theorem mod_pow {a k : Int} {t u : Tok} {Q : Value → Shared → Prop} (h : Q (.int (a.fmod (2 ^ k.toNat)) s.toks) { s with toks := s.toks + 1 }) : wpAny (model prog w) A (binaryOp .Mod (.int a t) (.int (2 ^ k.toNat) u)) Q E s := mod_int' (pow_ne k) h
theorem mod_32 {a : Int} {t u : Tok} {Q : Value → Shared → Prop} (h : ∀ v : Int, 0 ≤ v → v < 32 → NB v → Q (.int v s.toks) { s with toks := s.toks + 1 }) :
    wpAny (model prog w) A (binaryOp .Mod (.int a t) (.int 32 u)) Q E s := by
  refine mod_int' (by decide) ?_
  exact h _ (fmod_lo a (by decide)) (fmod_hi a (by decide)) trivial
theorem mod_some {a n : Int} {t u : Tok} {Q : Value → Shared → Prop} (hn : 0 < n) (h : ∀ v : Int, 0 ≤ v → v < n → Q (.int v s.toks) { s with toks := s.toks + 1 }) :
    wpAny (model prog w) A (binaryOp .Mod (.int a t) (.int n u)) Q E s := by
  refine mod_int' (Int.ne_of_gt hn) ?_
  exact h _ (fmod_lo a hn) (fmod_hi a hn)
end
theorem Kept.use {pre T T' : List (Addr × Obj)} {d : Addr} {o : Obj} (h : Kept pre T T') (hm : (d, o) ∈ pre) (h0 : ∀ p ∈ T, p.1 ≠ d) : ∀ p ∈ T', p.1 ≠ d := h d o hm h0

section
variable {prog : Program} {w : World} {A : Around} {h₀ : Heap} {L : Addr} {m : Str → Option Value} {env : Env} {ct elt : Expr} {x : Str} {scope : Scope} {cl : List (Str × Addr)} {s : Shared} {S : List (Addr × Obj) → Prop} {Fin : List Value → List (Addr × Obj) → Prop} {news : List (Addr × Obj)}
theorem kci_cnt {n : Nat} {a kk : Int} (_ : KK kk)
    (turn : ∀ k t I oI C oC D m₂ ys l h tk (E' : Value → Shared → Prop), a ≤ k → k < a + (n : Int) → IntsAre ys l → LCg.NsObj oC m₂ → m₂ x = some (.int k t) → Fr h₀ L h m → News h₀ L h ((I, oI) :: (C, oC) :: (D, LCg.lst ys) :: news) → LCg.Off3 I C D news → ((@Ne Nat I C) ∧ (@Ne Nat I D) ∧ (@Ne Nat C D)) → KPfMark →
      wpAny (model prog w) A (isTrue ct (compEnvC scope cl C env) (eval ct (compEnvC scope cl C env))) (fun b s' => if b = true then wpAny (model prog w) A (eval elt (compEnvC scope cl C env)) (LCg.CompEnd h₀ L m { s with heap := h, toks := tk } I oI C oC D (LCg.lst ys) S (fun y news' => KCiEl news l (cntF kk l k) y news')) E' s'
        else LCg.CompEnd h₀ L m { s with heap := h, toks := tk } I oI C oC D (LCg.lst ys) S (fun _ news' => KCiNo news l (cntF kk l k) news') Value.none s') E' { s with heap := h, toks := tk })
    (fin : KPfDone (∀ ys, IntsAre ys ((rangeKs a n).foldl (cntF kk) []) → ys.length ≤ n → Fin ys news)) : LCt.CompRestT prog w A h₀ L m env ct elt x scope cl s S (fun i v => ∃ t, v = .int (a + (i : Int)) t) Fin n 0 [] news :=
  kci_range (cntF kk) turn fin (cntF_grows kk)
theorem kcf_cnt {nb : Int} (_ : NB nb)
    (turn : ∀ k t I oI C oC D m₂ ys h tk (E' : Value → Shared → Prop), 0 ≤ k → k < 0 + ((7 : Nat) : Int) → LCg.NsObj oC m₂ → m₂ x = some (.int k t) → Fr h₀ L h m → News h₀ L h ((I, oI) :: (C, oC) :: (D, LCg.lst ys) :: news) → LCg.Off3 I C D news → ((@Ne Nat I C) ∧ (@Ne Nat I D) ∧ (@Ne Nat C D)) → KPfMark →
      wpAny (model prog w) A (eval elt (compEnvC scope cl C env)) (LCg.CompEnd h₀ L m { s with heap := h, toks := tk } I oI C oC D (LCg.lst ys) S (fun y' news' => KCfEl news (cntG nb k) y' news')) E' { s with heap := h, toks := tk })
    (fin : KPfDone (∀ ys, IntsAre ys ((rangeKs 0 7).map (cntG nb)) → Fin ys news)) : LCg.CompRest prog w A h₀ L m env elt x scope cl s S (fun i v => ∃ t, v = .int (0 + (i : Int)) t) Fin 7 0 [] news := kcf_range (cntG nb) turn fin
end
end Mine
end

-- part M2
section
open PySem PySem.W PyProof.Rows
set_option Elab.async false
namespace Mine
set_option maxRecDepth 100000
section
variable {prog : Program} {w : World} {A : Around} {E : Value → Shared → Prop} {s : Shared} {env : Env} {h₀ : Heap} {L : Addr} {m : Str → Option Value}
theorem cell_seven {elt : Expr} {x z : Str} {scope : Scope} {cl : List (Str × Addr)} {g : Int → Int} {Q : Flow → Shared → Prop} {s₁ : Shared} {r : Addr} {t u v : Tok} {news : List (Addr × Obj)}
    (hh : A.handled = none) (F : Fr h₀ L s₁.heap m) (N : News h₀ L s₁.heap news) (hr : IsRange s₁.heap r 0 7 1 t u v)
    (turn : ∀ (k : Int) (t : Tok) I oI C oC Kc oK D ys h tk (E' : Value → Shared → Prop), 0 ≤ k → k < 7 → KK k → oK.data = .cell (some (.int k t)) → Fr h₀ L h m → News h₀ L h ((I, oI) :: (C, oC) :: (Kc, oK) :: (D, LCg.lst ys) :: news) →
      wpAny (model prog w) A (eval elt (compEnvC scope ((x, Kc) :: cl) C env)) (CellEnd h₀ L m ((I, oI) :: (C, oC) :: (Kc, oK) :: (D, LCg.lst ys) :: news) (g k) { s₁ with heap := h, toks := tk }) E' { s₁ with heap := h, toks := tk })
    (fin : ∀ D ys h tk, IntsAre ys ((rangeKs 0 7).map g) → Fr h₀ L h (fun y => if y = z then some (.ref D) else m y) → News h₀ L h ((D, LCg.lst ys) :: news) → (∀ p ∈ news, p.1 < D) → Q .next { s₁ with heap := h, toks := tk }) :
    CompCellG prog w A h₀ L m env elt x scope cl g (CellFinA h₀ L m z g Q) (.ref r) s₁ :=
  ⟨r, 0, 7, t, u, v, 7, news, rfl, hh, F, N, hr, by decide, by decide, Nat.le_of_ble_eq_true rfl, fun k t I oI C oC Kc oK D ys h tk E' h0 h1 hd F' N' => turn k t I oI C oC Kc oK D ys h tk E' h0 (by simpa using h1) trivial hd F' N', fin⟩
theorem cell_end {led all : List (Addr × Obj)} {r r' : Int} {s₁ : Shared} {h' : Heap} {tk' : Nat} {t : Tok} (F : Fr h₀ L h' m) (N : News h₀ L h' all) (sub : ∀ p ∈ led, p ∈ all) (e : r' = r) : CellEnd h₀ L m led r s₁ (.int r' t) { s₁ with heap := h', toks := tk' } := by
  subst e; exact ⟨h', tk', t, rfl, F, news_perm N sub, rfl⟩
theorem Assign_cnt {elt iter : Expr} {x z : Str} {px pz : Pos} {scope : Scope} {cl : List (Str × Addr)} {pos spos : Pos} {nb : Int} {Q : Flow → Shared → Prop} (_ : NB nb) (_ : Fr h₀ L s.heap m) (hLe : env.locals = L)
    (hsw : swapsWith (.ListComp elt [⟨.Name x px, iter, [], 0⟩] scope pos) (some (.Name z pz)) spos.line env = pure true)
    (hclos : closureFor scope env = pure cl) (hkind : scope.kind = .function)
    (hnames : ∀ y ∈ scope.names, y.2 = .local → scope.names.lookup y.1 = some .local) (hcf : ∀ n, cellsFrom n scope.names cl = (x, n) :: cl) (hpc : ∀ h, pushCells h scope.names = h.push { cls := .type "cell", data := .cell none })
    (hx : (relabel scope env).names.lookup x = some .cell) (hz : env.kindOf z = some .local) (hp : (env.scope.kind == .class || (env.scope.kind == .module && env.locals != env.globals)) = false)
    (h : wpAny (model prog w) A (eval iter env) (CompCellG prog w A h₀ L m env elt x scope cl (cntG nb) (CellFinA h₀ L m z (cntG nb) Q)) E s)
    (hs : ∀ x, foldedSetIterable iter env x = pure x) :
    wpAny (model prog w) A (exec (.Assign [.Name z pz] (.ListComp elt [⟨.Name x px, iter, [], 0⟩] scope pos) spos) env) Q E s :=
  Assign_ListComp_cell hLe hsw hclos hkind hnames hcf hpc hx hz hp h hs
theorem pow_six {n : Int} {t u : Tok} {Q : Value → Shared → Prop} (h0 : 0 ≤ n) (h1 : n < 6) (h : ∀ v : Int, 0 ≤ v → v ≤ 41 → 2 * v - (digs v).sum = 2 ^ (n + 1).toNat - 1 → Q (.int v s.toks) { s with toks := s.toks + 1 }) : wpAny (model prog w) A (binaryOp .Pow (.int 2 t) (.int n u)) Q E s :=
  pow_two h0 (by omega) (h _ (two_of h0 h1).2.1 (two_of h0 h1).2.2 (two_of h0 h1).1)
theorem end_yes {kk h : Int} {t : Tok} {l : List Int} {s₁ : Shared} {I C D : Addr} {oI oC oD : Obj} {news all : List (Addr × Obj)} {h' : Heap} {tk' : Nat} (F : Fr h₀ L h' m) (N : News h₀ L h' all) (sub : ∀ p ∈ (I, oI) :: (C, oC) :: (D, oD) :: news, p ∈ all) (off : LCg.Off3 I C D news) (e : (h + 1).fmod (2 ^ kk.toNat) = 0) :
    LCg.CompEnd h₀ L m s₁ I oI C oC D oD (fun _ => True) (fun y news' => KCiEl news l (cntF kk l h) y news') (.int h t) { s₁ with heap := h', toks := tk' } := LCg.CompEnd.intro F N news sub off trivial (kci_el (cntF_yes e) rfl rfl)
theorem end_no {kk h : Int} {l : List Int} {s₁ : Shared} {I C D : Addr} {oI oC oD : Obj} {news all : List (Addr × Obj)} {h' : Heap} {tk' : Nat} (F : Fr h₀ L h' m) (N : News h₀ L h' all) (sub : ∀ p ∈ (I, oI) :: (C, oC) :: (D, oD) :: news, p ∈ all) (off : LCg.Off3 I C D news) (e : (h + 1).fmod (2 ^ kk.toNat) ≠ 0) :
    LCg.CompEnd h₀ L m s₁ I oI C oC D oD (fun _ => True) (fun _ news' => KCiNo news l (cntF kk l h) news') Value.none { s₁ with heap := h', toks := tk' } := LCg.CompEnd.intro F N news sub off trivial (kci_no (cntF_no e) rfl)
theorem mem_of_cell {c : Addr} {o : Obj} {l : List (Addr × Obj)} {v : Value} (_ : o.data = Data.cell (some v)) (h : (c, o) ∈ l) : (c, o) ∈ l := h
theorem pow_small {k : Int} (k0 : 0 ≤ k) (k1 : k < 7) : ((2 : Int) ^ k.toNat).natAbs < 1073741824 :=
  (by decide +kernel : ∀ a : Fin 7, ((2 : Int) ^ a.val).natAbs < 1073741824) ⟨k.toNat, by omega⟩
theorem floor_pow {a k : Int} {t u : Tok} {Q : Value → Shared → Prop} (k0 : 0 ≤ k) (k1 : k < 7) (h : Q (.int (cntG a k) s.toks) { s with toks := s.toks + 1 }) : wpAny (model prog w) A (binaryOp .FloorDiv (.int a t) (.int (2 ^ k.toNat) u)) Q E s :=
  floordiv_int (pow_ne k) h (.inl (PyProof.noPylong_small (pow_small k0 k1)))
theorem eq_same {a b : Int} {t u : Tok} {Q : Value → Shared → Prop} (e : a = b) (h : Q (.bool true) s) : wpAny (model prog w) A (compareOp .Eq (.int a t) (.int b u)) Q E s := by
  refine eq_int ?_
  subst e
  have e2 : (a == a) = true := by simp
  rw [e2]; exact h
end
end Mine
end

-- part M3
section
open PySem PySem.W PyProof.Rows
set_option Elab.async false
namespace Mine
set_option maxRecDepth 100000
section
variable {prog : Program} {w : World} {A : Around} {E : Value → Shared → Prop} {s : Shared} {h₀ : Heap} {L : Addr} {m : Str → Option Value} {news : List (Addr × Obj)}
theorem news_tl {x : Addr × Obj} {h : Heap} (N : News h₀ L h (x :: news)) : News h₀ L h news := fun p hp => N p (.tail _ hp)
theorem ne_cnt {a b : Addr} {xs ys : List Value} {ns : List Int} {k j : Nat} {Q : Value → Shared → Prop} (N : News h₀ L s.heap news) (ha : (a, listOf xs.toArray k) ∈ news) (hb : (b, listOf ys.toArray j) ∈ news) (hi : IntsAre xs ns) (hj : IntsAre ys ns) (hu : A.units + 64 < cLine) (h : Q (.bool false) s) :
    wpAny (model prog w) A (compareOp .NotEq (.ref a) (.ref b)) Q E s := by
  refine ke_ne_ints ⟨_, (N _ ha).1, rfl, k, rfl⟩ ⟨_, (N _ hb).1, rfl, j, rfl⟩ hi hj hu ?_
  have e : (!decide (ns = ns)) = false := by simp
  rw [e]; exact h
end
end Mine
end

-- part LW1
section
open PySem PySem.W PyProof.Rows
set_option Elab.async false
namespace Mine
set_option maxRecDepth 100000

local macro_rules | `(tactic| k_mem) => `(tactic| first | assumption | exact List.mem_cons_self | (refine' List.mem_cons_of_mem _ ?_; k_mem))
local macro_rules | `(tactic| k_all) => `(tactic| first | exact Kept.use (by assumption) (by k_mem) (by k_all) | fail "k_all: no table")
local macro_rules | `(tactic| walk_at "binaryOp Mod int int") => `(tactic| (k_here; (refine' mod_some ?k ?_; (case k => decide); k_whole); intro v' hv1' hv2'))

local macro_rules | `(tactic| walk_at "MY i2d1") => `(tactic| ((rename LT _ _ => hT'); k_dflt (refine' law_i2d [_] hT' ?F ?N ?B ?X ?T ?hk ?C ?hp ?x0 ?x1 ?dd ?uu ?_; (case F => k_asm); (case N => assumption); (case B => k_asm); (case X => k_asm); (case T => k_asm); (case hk => first | exact rfl | assumption); (case C => assumption); (case hp => k_all); (case x0 => omega); (case x1 => omega); (case dd => ktr_room); (case uu => ktr_units); k_whole); intro r' vs' Ta' h' tk' I' hT2' kp' F' N' l1 l2' l3'; (simp only [List.cons_append, List.nil_append] at N'); clear hT'; (try k_lt l1)))
local macro_rules | `(tactic| walk_at "MY turned1") => `(tactic| ((rename LT _ _ => hT'); k_dflt (refine' law_turned [_] hT' ?F ?N ?B ?X ?T ?hk ?C ?hp ?x0 ?x1 ?y0 ?y1 ?dd ?uu ?_; (case F => k_asm); (case N => assumption); (case B => k_asm); (case X => k_asm); (case T => k_asm); (case hk => first | exact rfl | assumption); (case C => assumption); (case hp => k_all); (case x0 => omega); (case x1 => omega); (case y0 => omega); (case y1 => omega); (case dd => ktr_room); (case uu => ktr_units); k_whole); intro r' vs' Ta' h' tk' I' hT2' kp' F' N' l2' l3'; (simp only [List.cons_append, List.nil_append] at N'); clear hT'))
local macro_rules | `(tactic| walk_at "MY d2i1") => `(tactic| ((rename LT _ _ => hT'); k_dflt (refine' law_d2i [_] hT' ?F ?N ?l0 ?ds ?bb ?ln ?B ?X ?T ?hk ?C ?hp ?dd ?uu ?_; (case F => k_asm); (case N => assumption); (case B => k_asm); (case X => k_asm); (case T => k_asm); (case hk => first | exact rfl | assumption); (case C => assumption); (case hp => k_all); (case l0 => k_mem); (case ds => assumption); (case bb => exact turnL_bits _ _); (case ln => exact turnL_len _ _); (case dd => ktr_room); (case uu => ktr_units); k_whole); intro tv' Tb' h' tk' hT2' kp' F' N'; (simp only [List.cons_append, List.nil_append] at N'); clear hT'))
local macro_rules | `(tactic| walk_at "MY wholeZ1") => `(tactic| ((rename LT _ _ => hT'); k_dflt (refine' law_whole0 [_] hT' ?F ?N ?B ?X ?T ?hk ?C ?hp ?y0 ?y1 ?dd ?uu ?_; (case F => k_asm); (case N => assumption); (case B => k_asm); (case X => k_asm); (case T => k_asm); (case hk => first | exact rfl | assumption); (case C => assumption); (case hp => k_all); (case y0 => omega); (case y1 => omega); (case dd => ktr_room); (case uu => ktr_units); k_whole); intro r' u1' u2' u3' u4' Ta' h' tk' hT2' kp' F' N' l1 l2' l3'; (simp only [List.cons_append, List.nil_append] at N'); clear hT'; (try k_lt l1)))
local macro_rules | `(tactic| walk_at "MY whole1") => `(tactic| ((rename LT _ _ => hT'); k_dflt (refine' law_whole [_] hT' ?F ?N ?B ?X ?T ?hk ?C ?hp ?x0 ?xy ?y1 ?dd ?uu ?_; (case F => k_asm); (case N => assumption); (case B => k_asm); (case X => k_asm); (case T => k_asm); (case hk => first | exact rfl | assumption); (case C => assumption); (case hp => k_all); (case x0 => omega); (case xy => omega); (case y1 => omega); (case dd => ktr_room); (case uu => ktr_units); k_whole); intro r' c2' c3' c4' u1' u2' u3' u4' Ta' h' tk' hT2' kp' F' N' l1 l2' l3'; (simp only [List.cons_append, List.nil_append] at N'); clear hT'; (try k_lt l1)))

local macro_rules | `(tactic| walk_at "MY i2d2") => `(tactic| ((rename LT _ _ => hT'); k_dflt (refine' law_i2d [_, _] hT' ?F ?N ?B ?X ?T ?hk ?C ?hp ?x0 ?x1 ?dd ?uu ?_; (case F => k_asm); (case N => assumption); (case B => k_asm); (case X => k_asm); (case T => k_asm); (case hk => first | exact rfl | assumption); (case C => assumption); (case hp => k_all); (case x0 => omega); (case x1 => omega); (case dd => ktr_room); (case uu => ktr_units); k_whole); intro r' vs' Ta' h' tk' I' hT2' kp' F' N' l1 l2' l3'; (simp only [List.cons_append, List.nil_append] at N'); clear hT'; (try k_lt l1)))
local macro_rules | `(tactic| walk_at "MY turned2") => `(tactic| ((rename LT _ _ => hT'); k_dflt (refine' law_turned [_, _] hT' ?F ?N ?B ?X ?T ?hk ?C ?hp ?x0 ?x1 ?y0 ?y1 ?dd ?uu ?_; (case F => k_asm); (case N => assumption); (case B => k_asm); (case X => k_asm); (case T => k_asm); (case hk => first | exact rfl | assumption); (case C => assumption); (case hp => k_all); (case x0 => omega); (case x1 => omega); (case y0 => omega); (case y1 => omega); (case dd => ktr_room); (case uu => ktr_units); k_whole); intro r' vs' Ta' h' tk' I' hT2' kp' F' N' l2' l3'; (simp only [List.cons_append, List.nil_append] at N'); clear hT'))
local macro_rules | `(tactic| walk_at "MY d2i2") => `(tactic| ((rename LT _ _ => hT'); k_dflt (refine' law_d2i [_, _] hT' ?F ?N ?l0 ?ds ?bb ?ln ?B ?X ?T ?hk ?C ?hp ?dd ?uu ?_; (case F => k_asm); (case N => assumption); (case B => k_asm); (case X => k_asm); (case T => k_asm); (case hk => first | exact rfl | assumption); (case C => assumption); (case hp => k_all); (case l0 => k_mem); (case ds => assumption); (case bb => exact turnL_bits _ _); (case ln => exact turnL_len _ _); (case dd => ktr_room); (case uu => ktr_units); k_whole); intro tv' Tb' h' tk' hT2' kp' F' N'; (simp only [List.cons_append, List.nil_append] at N'); clear hT'))
local macro_rules | `(tactic| walk_at "MY wholeZ2") => `(tactic| ((rename LT _ _ => hT'); k_dflt (refine' law_whole0 [_, _] hT' ?F ?N ?B ?X ?T ?hk ?C ?hp ?y0 ?y1 ?dd ?uu ?_; (case F => k_asm); (case N => assumption); (case B => k_asm); (case X => k_asm); (case T => k_asm); (case hk => first | exact rfl | assumption); (case C => assumption); (case hp => k_all); (case y0 => omega); (case y1 => omega); (case dd => ktr_room); (case uu => ktr_units); k_whole); intro r' u1' u2' u3' u4' Ta' h' tk' hT2' kp' F' N' l1 l2' l3'; (simp only [List.cons_append, List.nil_append] at N'); clear hT'; (try k_lt l1)))
local macro_rules | `(tactic| walk_at "MY whole2") => `(tactic| ((rename LT _ _ => hT'); k_dflt (refine' law_whole [_, _] hT' ?F ?N ?B ?X ?T ?hk ?C ?hp ?x0 ?xy ?y1 ?dd ?uu ?_; (case F => k_asm); (case N => assumption); (case B => k_asm); (case X => k_asm); (case T => k_asm); (case hk => first | exact rfl | assumption); (case C => assumption); (case hp => k_all); (case x0 => omega); (case xy => omega); (case y1 => omega); (case dd => ktr_room); (case uu => ktr_units); k_whole); intro r' c2' c3' c4' u1' u2' u3' u4' Ta' h' tk' hT2' kp' F' N' l1 l2' l3'; (simp only [List.cons_append, List.nil_append] at N'); clear hT'; (try k_lt l1)))

local macro_rules | `(tactic| walk_at "MY i2d3") => `(tactic| ((rename LT _ _ => hT'); k_dflt (refine' law_i2d [_, _, _] hT' ?F ?N ?B ?X ?T ?hk ?C ?hp ?x0 ?x1 ?dd ?uu ?_; (case F => k_asm); (case N => assumption); (case B => k_asm); (case X => k_asm); (case T => k_asm); (case hk => first | exact rfl | assumption); (case C => assumption); (case hp => k_all); (case x0 => omega); (case x1 => omega); (case dd => ktr_room); (case uu => ktr_units); k_whole); intro r' vs' Ta' h' tk' I' hT2' kp' F' N' l1 l2' l3'; (simp only [List.cons_append, List.nil_append] at N'); clear hT'; (try k_lt l1)))
local macro_rules | `(tactic| walk_at "MY turned3") => `(tactic| ((rename LT _ _ => hT'); k_dflt (refine' law_turned [_, _, _] hT' ?F ?N ?B ?X ?T ?hk ?C ?hp ?x0 ?x1 ?y0 ?y1 ?dd ?uu ?_; (case F => k_asm); (case N => assumption); (case B => k_asm); (case X => k_asm); (case T => k_asm); (case hk => first | exact rfl | assumption); (case C => assumption); (case hp => k_all); (case x0 => omega); (case x1 => omega); (case y0 => omega); (case y1 => omega); (case dd => ktr_room); (case uu => ktr_units); k_whole); intro r' vs' Ta' h' tk' I' hT2' kp' F' N' l2' l3'; (simp only [List.cons_append, List.nil_append] at N'); clear hT'))
local macro_rules | `(tactic| walk_at "MY d2i3") => `(tactic| ((rename LT _ _ => hT'); k_dflt (refine' law_d2i [_, _, _] hT' ?F ?N ?l0 ?ds ?bb ?ln ?B ?X ?T ?hk ?C ?hp ?dd ?uu ?_; (case F => k_asm); (case N => assumption); (case B => k_asm); (case X => k_asm); (case T => k_asm); (case hk => first | exact rfl | assumption); (case C => assumption); (case hp => k_all); (case l0 => k_mem); (case ds => assumption); (case bb => exact turnL_bits _ _); (case ln => exact turnL_len _ _); (case dd => ktr_room); (case uu => ktr_units); k_whole); intro tv' Tb' h' tk' hT2' kp' F' N'; (simp only [List.cons_append, List.nil_append] at N'); clear hT'))
local macro_rules | `(tactic| walk_at "MY wholeZ3") => `(tactic| ((rename LT _ _ => hT'); k_dflt (refine' law_whole0 [_, _, _] hT' ?F ?N ?B ?X ?T ?hk ?C ?hp ?y0 ?y1 ?dd ?uu ?_; (case F => k_asm); (case N => assumption); (case B => k_asm); (case X => k_asm); (case T => k_asm); (case hk => first | exact rfl | assumption); (case C => assumption); (case hp => k_all); (case y0 => omega); (case y1 => omega); (case dd => ktr_room); (case uu => ktr_units); k_whole); intro r' u1' u2' u3' u4' Ta' h' tk' hT2' kp' F' N' l1 l2' l3'; (simp only [List.cons_append, List.nil_append] at N'); clear hT'; (try k_lt l1)))
local macro_rules | `(tactic| walk_at "MY whole3") => `(tactic| ((rename LT _ _ => hT'); k_dflt (refine' law_whole [_, _, _] hT' ?F ?N ?B ?X ?T ?hk ?C ?hp ?x0 ?xy ?y1 ?dd ?uu ?_; (case F => k_asm); (case N => assumption); (case B => k_asm); (case X => k_asm); (case T => k_asm); (case hk => first | exact rfl | assumption); (case C => assumption); (case hp => k_all); (case x0 => omega); (case xy => omega); (case y1 => omega); (case dd => ktr_room); (case uu => ktr_units); k_whole); intro r' c2' c3' c4' u1' u2' u3' u4' Ta' h' tk' hT2' kp' F' N' l1 l2' l3'; (simp only [List.cons_append, List.nil_append] at N'); clear hT'; (try k_lt l1)))

local macro_rules | `(tactic| walk_at "MY i2d4") => `(tactic| ((rename LT _ _ => hT'); k_dflt (refine' law_i2d [_, _, _, _] hT' ?F ?N ?B ?X ?T ?hk ?C ?hp ?x0 ?x1 ?dd ?uu ?_; (case F => k_asm); (case N => assumption); (case B => k_asm); (case X => k_asm); (case T => k_asm); (case hk => first | exact rfl | assumption); (case C => assumption); (case hp => k_all); (case x0 => omega); (case x1 => omega); (case dd => ktr_room); (case uu => ktr_units); k_whole); intro r' vs' Ta' h' tk' I' hT2' kp' F' N' l1 l2' l3'; (simp only [List.cons_append, List.nil_append] at N'); clear hT'; (try k_lt l1)))
local macro_rules | `(tactic| walk_at "MY turned4") => `(tactic| ((rename LT _ _ => hT'); k_dflt (refine' law_turned [_, _, _, _] hT' ?F ?N ?B ?X ?T ?hk ?C ?hp ?x0 ?x1 ?y0 ?y1 ?dd ?uu ?_; (case F => k_asm); (case N => assumption); (case B => k_asm); (case X => k_asm); (case T => k_asm); (case hk => first | exact rfl | assumption); (case C => assumption); (case hp => k_all); (case x0 => omega); (case x1 => omega); (case y0 => omega); (case y1 => omega); (case dd => ktr_room); (case uu => ktr_units); k_whole); intro r' vs' Ta' h' tk' I' hT2' kp' F' N' l2' l3'; (simp only [List.cons_append, List.nil_append] at N'); clear hT'))
local macro_rules | `(tactic| walk_at "MY d2i4") => `(tactic| ((rename LT _ _ => hT'); k_dflt (refine' law_d2i [_, _, _, _] hT' ?F ?N ?l0 ?ds ?bb ?ln ?B ?X ?T ?hk ?C ?hp ?dd ?uu ?_; (case F => k_asm); (case N => assumption); (case B => k_asm); (case X => k_asm); (case T => k_asm); (case hk => first | exact rfl | assumption); (case C => assumption); (case hp => k_all); (case l0 => k_mem); (case ds => assumption); (case bb => exact turnL_bits _ _); (case ln => exact turnL_len _ _); (case dd => ktr_room); (case uu => ktr_units); k_whole); intro tv' Tb' h' tk' hT2' kp' F' N'; (simp only [List.cons_append, List.nil_append] at N'); clear hT'))
local macro_rules | `(tactic| walk_at "MY wholeZ4") => `(tactic| ((rename LT _ _ => hT'); k_dflt (refine' law_whole0 [_, _, _, _] hT' ?F ?N ?B ?X ?T ?hk ?C ?hp ?y0 ?y1 ?dd ?uu ?_; (case F => k_asm); (case N => assumption); (case B => k_asm); (case X => k_asm); (case T => k_asm); (case hk => first | exact rfl | assumption); (case C => assumption); (case hp => k_all); (case y0 => omega); (case y1 => omega); (case dd => ktr_room); (case uu => ktr_units); k_whole); intro r' u1' u2' u3' u4' Ta' h' tk' hT2' kp' F' N' l1 l2' l3'; (simp only [List.cons_append, List.nil_append] at N'); clear hT'; (try k_lt l1)))
local macro_rules | `(tactic| walk_at "MY whole4") => `(tactic| ((rename LT _ _ => hT'); k_dflt (refine' law_whole [_, _, _, _] hT' ?F ?N ?B ?X ?T ?hk ?C ?hp ?x0 ?xy ?y1 ?dd ?uu ?_; (case F => k_asm); (case N => assumption); (case B => k_asm); (case X => k_asm); (case T => k_asm); (case hk => first | exact rfl | assumption); (case C => assumption); (case hp => k_all); (case x0 => omega); (case xy => omega); (case y1 => omega); (case dd => ktr_room); (case uu => ktr_units); k_whole); intro r' c2' c3' c4' u1' u2' u3' u4' Ta' h' tk' hT2' kp' F' N' l1 l2' l3'; (simp only [List.cons_append, List.nil_append] at N'); clear hT'; (try k_lt l1)))

local macro_rules | `(tactic| walk_at "MY i2d5") => `(tactic| ((rename LT _ _ => hT'); k_dflt (refine' law_i2d [_, _, _, _, _] hT' ?F ?N ?B ?X ?T ?hk ?C ?hp ?x0 ?x1 ?dd ?uu ?_; (case F => k_asm); (case N => assumption); (case B => k_asm); (case X => k_asm); (case T => k_asm); (case hk => first | exact rfl | assumption); (case C => assumption); (case hp => k_all); (case x0 => omega); (case x1 => omega); (case dd => ktr_room); (case uu => ktr_units); k_whole); intro r' vs' Ta' h' tk' I' hT2' kp' F' N' l1 l2' l3'; (simp only [List.cons_append, List.nil_append] at N'); clear hT'; (try k_lt l1)))
local macro_rules | `(tactic| walk_at "MY turned5") => `(tactic| ((rename LT _ _ => hT'); k_dflt (refine' law_turned [_, _, _, _, _] hT' ?F ?N ?B ?X ?T ?hk ?C ?hp ?x0 ?x1 ?y0 ?y1 ?dd ?uu ?_; (case F => k_asm); (case N => assumption); (case B => k_asm); (case X => k_asm); (case T => k_asm); (case hk => first | exact rfl | assumption); (case C => assumption); (case hp => k_all); (case x0 => omega); (case x1 => omega); (case y0 => omega); (case y1 => omega); (case dd => ktr_room); (case uu => ktr_units); k_whole); intro r' vs' Ta' h' tk' I' hT2' kp' F' N' l2' l3'; (simp only [List.cons_append, List.nil_append] at N'); clear hT'))
local macro_rules | `(tactic| walk_at "MY d2i5") => `(tactic| ((rename LT _ _ => hT'); k_dflt (refine' law_d2i [_, _, _, _, _] hT' ?F ?N ?l0 ?ds ?bb ?ln ?B ?X ?T ?hk ?C ?hp ?dd ?uu ?_; (case F => k_asm); (case N => assumption); (case B => k_asm); (case X => k_asm); (case T => k_asm); (case hk => first | exact rfl | assumption); (case C => assumption); (case hp => k_all); (case l0 => k_mem); (case ds => assumption); (case bb => exact turnL_bits _ _); (case ln => exact turnL_len _ _); (case dd => ktr_room); (case uu => ktr_units); k_whole); intro tv' Tb' h' tk' hT2' kp' F' N'; (simp only [List.cons_append, List.nil_append] at N'); clear hT'))
local macro_rules | `(tactic| walk_at "MY wholeZ5") => `(tactic| ((rename LT _ _ => hT'); k_dflt (refine' law_whole0 [_, _, _, _, _] hT' ?F ?N ?B ?X ?T ?hk ?C ?hp ?y0 ?y1 ?dd ?uu ?_; (case F => k_asm); (case N => assumption); (case B => k_asm); (case X => k_asm); (case T => k_asm); (case hk => first | exact rfl | assumption); (case C => assumption); (case hp => k_all); (case y0 => omega); (case y1 => omega); (case dd => ktr_room); (case uu => ktr_units); k_whole); intro r' u1' u2' u3' u4' Ta' h' tk' hT2' kp' F' N' l1 l2' l3'; (simp only [List.cons_append, List.nil_append] at N'); clear hT'; (try k_lt l1)))
local macro_rules | `(tactic| walk_at "MY whole5") => `(tactic| ((rename LT _ _ => hT'); k_dflt (refine' law_whole [_, _, _, _, _] hT' ?F ?N ?B ?X ?T ?hk ?C ?hp ?x0 ?xy ?y1 ?dd ?uu ?_; (case F => k_asm); (case N => assumption); (case B => k_asm); (case X => k_asm); (case T => k_asm); (case hk => first | exact rfl | assumption); (case C => assumption); (case hp => k_all); (case x0 => omega); (case xy => omega); (case y1 => omega); (case dd => ktr_room); (case uu => ktr_units); k_whole); intro r' c2' c3' c4' u1' u2' u3' u4' Ta' h' tk' hT2' kp' F' N' l1 l2' l3'; (simp only [List.cons_append, List.nil_append] at N'); clear hT'; (try k_lt l1)))

local macro_rules | `(tactic| walk_at "MY i2d6") => `(tactic| ((rename LT _ _ => hT'); k_dflt (refine' law_i2d [_, _, _, _, _, _] hT' ?F ?N ?B ?X ?T ?hk ?C ?hp ?x0 ?x1 ?dd ?uu ?_; (case F => k_asm); (case N => assumption); (case B => k_asm); (case X => k_asm); (case T => k_asm); (case hk => first | exact rfl | assumption); (case C => assumption); (case hp => k_all); (case x0 => omega); (case x1 => omega); (case dd => ktr_room); (case uu => ktr_units); k_whole); intro r' vs' Ta' h' tk' I' hT2' kp' F' N' l1 l2' l3'; (simp only [List.cons_append, List.nil_append] at N'); clear hT'; (try k_lt l1)))
local macro_rules | `(tactic| walk_at "MY turned6") => `(tactic| ((rename LT _ _ => hT'); k_dflt (refine' law_turned [_, _, _, _, _, _] hT' ?F ?N ?B ?X ?T ?hk ?C ?hp ?x0 ?x1 ?y0 ?y1 ?dd ?uu ?_; (case F => k_asm); (case N => assumption); (case B => k_asm); (case X => k_asm); (case T => k_asm); (case hk => first | exact rfl | assumption); (case C => assumption); (case hp => k_all); (case x0 => omega); (case x1 => omega); (case y0 => omega); (case y1 => omega); (case dd => ktr_room); (case uu => ktr_units); k_whole); intro r' vs' Ta' h' tk' I' hT2' kp' F' N' l2' l3'; (simp only [List.cons_append, List.nil_append] at N'); clear hT'))
local macro_rules | `(tactic| walk_at "MY d2i6") => `(tactic| ((rename LT _ _ => hT'); k_dflt (refine' law_d2i [_, _, _, _, _, _] hT' ?F ?N ?l0 ?ds ?bb ?ln ?B ?X ?T ?hk ?C ?hp ?dd ?uu ?_; (case F => k_asm); (case N => assumption); (case B => k_asm); (case X => k_asm); (case T => k_asm); (case hk => first | exact rfl | assumption); (case C => assumption); (case hp => k_all); (case l0 => k_mem); (case ds => assumption); (case bb => exact turnL_bits _ _); (case ln => exact turnL_len _ _); (case dd => ktr_room); (case uu => ktr_units); k_whole); intro tv' Tb' h' tk' hT2' kp' F' N'; (simp only [List.cons_append, List.nil_append] at N'); clear hT'))
local macro_rules | `(tactic| walk_at "MY wholeZ6") => `(tactic| ((rename LT _ _ => hT'); k_dflt (refine' law_whole0 [_, _, _, _, _, _] hT' ?F ?N ?B ?X ?T ?hk ?C ?hp ?y0 ?y1 ?dd ?uu ?_; (case F => k_asm); (case N => assumption); (case B => k_asm); (case X => k_asm); (case T => k_asm); (case hk => first | exact rfl | assumption); (case C => assumption); (case hp => k_all); (case y0 => omega); (case y1 => omega); (case dd => ktr_room); (case uu => ktr_units); k_whole); intro r' u1' u2' u3' u4' Ta' h' tk' hT2' kp' F' N' l1 l2' l3'; (simp only [List.cons_append, List.nil_append] at N'); clear hT'; (try k_lt l1)))
local macro_rules | `(tactic| walk_at "MY whole6") => `(tactic| ((rename LT _ _ => hT'); k_dflt (refine' law_whole [_, _, _, _, _, _] hT' ?F ?N ?B ?X ?T ?hk ?C ?hp ?x0 ?xy ?y1 ?dd ?uu ?_; (case F => k_asm); (case N => assumption); (case B => k_asm); (case X => k_asm); (case T => k_asm); (case hk => first | exact rfl | assumption); (case C => assumption); (case hp => k_all); (case x0 => omega); (case xy => omega); (case y1 => omega); (case dd => ktr_room); (case uu => ktr_units); k_whole); intro r' c2' c3' c4' u1' u2' u3' u4' Ta' h' tk' hT2' kp' F' N' l1 l2' l3'; (simp only [List.cons_append, List.nil_append] at N'); clear hT'; (try k_lt l1)))

local macro_rules | `(tactic| walk_at "MY i2d7") => `(tactic| ((rename LT _ _ => hT'); k_dflt (refine' law_i2d [_, _, _, _, _, _, _] hT' ?F ?N ?B ?X ?T ?hk ?C ?hp ?x0 ?x1 ?dd ?uu ?_; (case F => k_asm); (case N => assumption); (case B => k_asm); (case X => k_asm); (case T => k_asm); (case hk => first | exact rfl | assumption); (case C => assumption); (case hp => k_all); (case x0 => omega); (case x1 => omega); (case dd => ktr_room); (case uu => ktr_units); k_whole); intro r' vs' Ta' h' tk' I' hT2' kp' F' N' l1 l2' l3'; (simp only [List.cons_append, List.nil_append] at N'); clear hT'; (try k_lt l1)))
local macro_rules | `(tactic| walk_at "MY turned7") => `(tactic| ((rename LT _ _ => hT'); k_dflt (refine' law_turned [_, _, _, _, _, _, _] hT' ?F ?N ?B ?X ?T ?hk ?C ?hp ?x0 ?x1 ?y0 ?y1 ?dd ?uu ?_; (case F => k_asm); (case N => assumption); (case B => k_asm); (case X => k_asm); (case T => k_asm); (case hk => first | exact rfl | assumption); (case C => assumption); (case hp => k_all); (case x0 => omega); (case x1 => omega); (case y0 => omega); (case y1 => omega); (case dd => ktr_room); (case uu => ktr_units); k_whole); intro r' vs' Ta' h' tk' I' hT2' kp' F' N' l2' l3'; (simp only [List.cons_append, List.nil_append] at N'); clear hT'))
local macro_rules | `(tactic| walk_at "MY d2i7") => `(tactic| ((rename LT _ _ => hT'); k_dflt (refine' law_d2i [_, _, _, _, _, _, _] hT' ?F ?N ?l0 ?ds ?bb ?ln ?B ?X ?T ?hk ?C ?hp ?dd ?uu ?_; (case F => k_asm); (case N => assumption); (case B => k_asm); (case X => k_asm); (case T => k_asm); (case hk => first | exact rfl | assumption); (case C => assumption); (case hp => k_all); (case l0 => k_mem); (case ds => assumption); (case bb => exact turnL_bits _ _); (case ln => exact turnL_len _ _); (case dd => ktr_room); (case uu => ktr_units); k_whole); intro tv' Tb' h' tk' hT2' kp' F' N'; (simp only [List.cons_append, List.nil_append] at N'); clear hT'))
local macro_rules | `(tactic| walk_at "MY wholeZ7") => `(tactic| ((rename LT _ _ => hT'); k_dflt (refine' law_whole0 [_, _, _, _, _, _, _] hT' ?F ?N ?B ?X ?T ?hk ?C ?hp ?y0 ?y1 ?dd ?uu ?_; (case F => k_asm); (case N => assumption); (case B => k_asm); (case X => k_asm); (case T => k_asm); (case hk => first | exact rfl | assumption); (case C => assumption); (case hp => k_all); (case y0 => omega); (case y1 => omega); (case dd => ktr_room); (case uu => ktr_units); k_whole); intro r' u1' u2' u3' u4' Ta' h' tk' hT2' kp' F' N' l1 l2' l3'; (simp only [List.cons_append, List.nil_append] at N'); clear hT'; (try k_lt l1)))
local macro_rules | `(tactic| walk_at "MY whole7") => `(tactic| ((rename LT _ _ => hT'); k_dflt (refine' law_whole [_, _, _, _, _, _, _] hT' ?F ?N ?B ?X ?T ?hk ?C ?hp ?x0 ?xy ?y1 ?dd ?uu ?_; (case F => k_asm); (case N => assumption); (case B => k_asm); (case X => k_asm); (case T => k_asm); (case hk => first | exact rfl | assumption); (case C => assumption); (case hp => k_all); (case x0 => omega); (case xy => omega); (case y1 => omega); (case dd => ktr_room); (case uu => ktr_units); k_whole); intro r' c2' c3' c4' u1' u2' u3' u4' Ta' h' tk' hT2' kp' F' N' l1 l2' l3'; (simp only [List.cons_append, List.nil_append] at N'); clear hT'; (try k_lt l1)))

local macro_rules | `(tactic| walk_at "MY i2d8") => `(tactic| ((rename LT _ _ => hT'); k_dflt (refine' law_i2d [_, _, _, _, _, _, _, _] hT' ?F ?N ?B ?X ?T ?hk ?C ?hp ?x0 ?x1 ?dd ?uu ?_; (case F => k_asm); (case N => assumption); (case B => k_asm); (case X => k_asm); (case T => k_asm); (case hk => first | exact rfl | assumption); (case C => assumption); (case hp => k_all); (case x0 => omega); (case x1 => omega); (case dd => ktr_room); (case uu => ktr_units); k_whole); intro r' vs' Ta' h' tk' I' hT2' kp' F' N' l1 l2' l3'; (simp only [List.cons_append, List.nil_append] at N'); clear hT'; (try k_lt l1)))
local macro_rules | `(tactic| walk_at "MY turned8") => `(tactic| ((rename LT _ _ => hT'); k_dflt (refine' law_turned [_, _, _, _, _, _, _, _] hT' ?F ?N ?B ?X ?T ?hk ?C ?hp ?x0 ?x1 ?y0 ?y1 ?dd ?uu ?_; (case F => k_asm); (case N => assumption); (case B => k_asm); (case X => k_asm); (case T => k_asm); (case hk => first | exact rfl | assumption); (case C => assumption); (case hp => k_all); (case x0 => omega); (case x1 => omega); (case y0 => omega); (case y1 => omega); (case dd => ktr_room); (case uu => ktr_units); k_whole); intro r' vs' Ta' h' tk' I' hT2' kp' F' N' l2' l3'; (simp only [List.cons_append, List.nil_append] at N'); clear hT'))
local macro_rules | `(tactic| walk_at "MY d2i8") => `(tactic| ((rename LT _ _ => hT'); k_dflt (refine' law_d2i [_, _, _, _, _, _, _, _] hT' ?F ?N ?l0 ?ds ?bb ?ln ?B ?X ?T ?hk ?C ?hp ?dd ?uu ?_; (case F => k_asm); (case N => assumption); (case B => k_asm); (case X => k_asm); (case T => k_asm); (case hk => first | exact rfl | assumption); (case C => assumption); (case hp => k_all); (case l0 => k_mem); (case ds => assumption); (case bb => exact turnL_bits _ _); (case ln => exact turnL_len _ _); (case dd => ktr_room); (case uu => ktr_units); k_whole); intro tv' Tb' h' tk' hT2' kp' F' N'; (simp only [List.cons_append, List.nil_append] at N'); clear hT'))
local macro_rules | `(tactic| walk_at "MY wholeZ8") => `(tactic| ((rename LT _ _ => hT'); k_dflt (refine' law_whole0 [_, _, _, _, _, _, _, _] hT' ?F ?N ?B ?X ?T ?hk ?C ?hp ?y0 ?y1 ?dd ?uu ?_; (case F => k_asm); (case N => assumption); (case B => k_asm); (case X => k_asm); (case T => k_asm); (case hk => first | exact rfl | assumption); (case C => assumption); (case hp => k_all); (case y0 => omega); (case y1 => omega); (case dd => ktr_room); (case uu => ktr_units); k_whole); intro r' u1' u2' u3' u4' Ta' h' tk' hT2' kp' F' N' l1 l2' l3'; (simp only [List.cons_append, List.nil_append] at N'); clear hT'; (try k_lt l1)))
local macro_rules | `(tactic| walk_at "MY whole8") => `(tactic| ((rename LT _ _ => hT'); k_dflt (refine' law_whole [_, _, _, _, _, _, _, _] hT' ?F ?N ?B ?X ?T ?hk ?C ?hp ?x0 ?xy ?y1 ?dd ?uu ?_; (case F => k_asm); (case N => assumption); (case B => k_asm); (case X => k_asm); (case T => k_asm); (case hk => first | exact rfl | assumption); (case C => assumption); (case hp => k_all); (case x0 => omega); (case xy => omega); (case y1 => omega); (case dd => ktr_room); (case uu => ktr_units); k_whole); intro r' c2' c3' c4' u1' u2' u3' u4' Ta' h' tk' hT2' kp' F' N' l1 l2' l3'; (simp only [List.cons_append, List.nil_append] at N'); clear hT'; (try k_lt l1)))

local macro_rules | `(tactic| walk_at "MY i2d9") => `(tactic| ((rename LT _ _ => hT'); k_dflt (refine' law_i2d [_, _, _, _, _, _, _, _, _] hT' ?F ?N ?B ?X ?T ?hk ?C ?hp ?x0 ?x1 ?dd ?uu ?_; (case F => k_asm); (case N => assumption); (case B => k_asm); (case X => k_asm); (case T => k_asm); (case hk => first | exact rfl | assumption); (case C => assumption); (case hp => k_all); (case x0 => omega); (case x1 => omega); (case dd => ktr_room); (case uu => ktr_units); k_whole); intro r' vs' Ta' h' tk' I' hT2' kp' F' N' l1 l2' l3'; (simp only [List.cons_append, List.nil_append] at N'); clear hT'; (try k_lt l1)))
local macro_rules | `(tactic| walk_at "MY turned9") => `(tactic| ((rename LT _ _ => hT'); k_dflt (refine' law_turned [_, _, _, _, _, _, _, _, _] hT' ?F ?N ?B ?X ?T ?hk ?C ?hp ?x0 ?x1 ?y0 ?y1 ?dd ?uu ?_; (case F => k_asm); (case N => assumption); (case B => k_asm); (case X => k_asm); (case T => k_asm); (case hk => first | exact rfl | assumption); (case C => assumption); (case hp => k_all); (case x0 => omega); (case x1 => omega); (case y0 => omega); (case y1 => omega); (case dd => ktr_room); (case uu => ktr_units); k_whole); intro r' vs' Ta' h' tk' I' hT2' kp' F' N' l2' l3'; (simp only [List.cons_append, List.nil_append] at N'); clear hT'))
local macro_rules | `(tactic| walk_at "MY d2i9") => `(tactic| ((rename LT _ _ => hT'); k_dflt (refine' law_d2i [_, _, _, _, _, _, _, _, _] hT' ?F ?N ?l0 ?ds ?bb ?ln ?B ?X ?T ?hk ?C ?hp ?dd ?uu ?_; (case F => k_asm); (case N => assumption); (case B => k_asm); (case X => k_asm); (case T => k_asm); (case hk => first | exact rfl | assumption); (case C => assumption); (case hp => k_all); (case l0 => k_mem); (case ds => assumption); (case bb => exact turnL_bits _ _); (case ln => exact turnL_len _ _); (case dd => ktr_room); (case uu => ktr_units); k_whole); intro tv' Tb' h' tk' hT2' kp' F' N'; (simp only [List.cons_append, List.nil_append] at N'); clear hT'))
local macro_rules | `(tactic| walk_at "MY wholeZ9") => `(tactic| ((rename LT _ _ => hT'); k_dflt (refine' law_whole0 [_, _, _, _, _, _, _, _, _] hT' ?F ?N ?B ?X ?T ?hk ?C ?hp ?y0 ?y1 ?dd ?uu ?_; (case F => k_asm); (case N => assumption); (case B => k_asm); (case X => k_asm); (case T => k_asm); (case hk => first | exact rfl | assumption); (case C => assumption); (case hp => k_all); (case y0 => omega); (case y1 => omega); (case dd => ktr_room); (case uu => ktr_units); k_whole); intro r' u1' u2' u3' u4' Ta' h' tk' hT2' kp' F' N' l1 l2' l3'; (simp only [List.cons_append, List.nil_append] at N'); clear hT'; (try k_lt l1)))
local macro_rules | `(tactic| walk_at "MY whole9") => `(tactic| ((rename LT _ _ => hT'); k_dflt (refine' law_whole [_, _, _, _, _, _, _, _, _] hT' ?F ?N ?B ?X ?T ?hk ?C ?hp ?x0 ?xy ?y1 ?dd ?uu ?_; (case F => k_asm); (case N => assumption); (case B => k_asm); (case X => k_asm); (case T => k_asm); (case hk => first | exact rfl | assumption); (case C => assumption); (case hp => k_all); (case x0 => omega); (case xy => omega); (case y1 => omega); (case dd => ktr_room); (case uu => ktr_units); k_whole); intro r' c2' c3' c4' u1' u2' u3' u4' Ta' h' tk' hT2' kp' F' N' l1 l2' l3'; (simp only [List.cons_append, List.nil_append] at N'); clear hT'; (try k_lt l1)))

local macro_rules | `(tactic| walk_at "MY i2d10") => `(tactic| ((rename LT _ _ => hT'); k_dflt (refine' law_i2d [_, _, _, _, _, _, _, _, _, _] hT' ?F ?N ?B ?X ?T ?hk ?C ?hp ?x0 ?x1 ?dd ?uu ?_; (case F => k_asm); (case N => assumption); (case B => k_asm); (case X => k_asm); (case T => k_asm); (case hk => first | exact rfl | assumption); (case C => assumption); (case hp => k_all); (case x0 => omega); (case x1 => omega); (case dd => ktr_room); (case uu => ktr_units); k_whole); intro r' vs' Ta' h' tk' I' hT2' kp' F' N' l1 l2' l3'; (simp only [List.cons_append, List.nil_append] at N'); clear hT'; (try k_lt l1)))
local macro_rules | `(tactic| walk_at "MY turned10") => `(tactic| ((rename LT _ _ => hT'); k_dflt (refine' law_turned [_, _, _, _, _, _, _, _, _, _] hT' ?F ?N ?B ?X ?T ?hk ?C ?hp ?x0 ?x1 ?y0 ?y1 ?dd ?uu ?_; (case F => k_asm); (case N => assumption); (case B => k_asm); (case X => k_asm); (case T => k_asm); (case hk => first | exact rfl | assumption); (case C => assumption); (case hp => k_all); (case x0 => omega); (case x1 => omega); (case y0 => omega); (case y1 => omega); (case dd => ktr_room); (case uu => ktr_units); k_whole); intro r' vs' Ta' h' tk' I' hT2' kp' F' N' l2' l3'; (simp only [List.cons_append, List.nil_append] at N'); clear hT'))
local macro_rules | `(tactic| walk_at "MY d2i10") => `(tactic| ((rename LT _ _ => hT'); k_dflt (refine' law_d2i [_, _, _, _, _, _, _, _, _, _] hT' ?F ?N ?l0 ?ds ?bb ?ln ?B ?X ?T ?hk ?C ?hp ?dd ?uu ?_; (case F => k_asm); (case N => assumption); (case B => k_asm); (case X => k_asm); (case T => k_asm); (case hk => first | exact rfl | assumption); (case C => assumption); (case hp => k_all); (case l0 => k_mem); (case ds => assumption); (case bb => exact turnL_bits _ _); (case ln => exact turnL_len _ _); (case dd => ktr_room); (case uu => ktr_units); k_whole); intro tv' Tb' h' tk' hT2' kp' F' N'; (simp only [List.cons_append, List.nil_append] at N'); clear hT'))
local macro_rules | `(tactic| walk_at "MY wholeZ10") => `(tactic| ((rename LT _ _ => hT'); k_dflt (refine' law_whole0 [_, _, _, _, _, _, _, _, _, _] hT' ?F ?N ?B ?X ?T ?hk ?C ?hp ?y0 ?y1 ?dd ?uu ?_; (case F => k_asm); (case N => assumption); (case B => k_asm); (case X => k_asm); (case T => k_asm); (case hk => first | exact rfl | assumption); (case C => assumption); (case hp => k_all); (case y0 => omega); (case y1 => omega); (case dd => ktr_room); (case uu => ktr_units); k_whole); intro r' u1' u2' u3' u4' Ta' h' tk' hT2' kp' F' N' l1 l2' l3'; (simp only [List.cons_append, List.nil_append] at N'); clear hT'; (try k_lt l1)))
local macro_rules | `(tactic| walk_at "MY whole10") => `(tactic| ((rename LT _ _ => hT'); k_dflt (refine' law_whole [_, _, _, _, _, _, _, _, _, _] hT' ?F ?N ?B ?X ?T ?hk ?C ?hp ?x0 ?xy ?y1 ?dd ?uu ?_; (case F => k_asm); (case N => assumption); (case B => k_asm); (case X => k_asm); (case T => k_asm); (case hk => first | exact rfl | assumption); (case C => assumption); (case hp => k_all); (case x0 => omega); (case xy => omega); (case y1 => omega); (case dd => ktr_room); (case uu => ktr_units); k_whole); intro r' c2' c3' c4' u1' u2' u3' u4' Ta' h' tk' hT2' kp' F' N' l1 l2' l3'; (simp only [List.cons_append, List.nil_append] at N'); clear hT'; (try k_lt l1)))

local macro_rules | `(tactic| walk_at "MY i2d11") => `(tactic| ((rename LT _ _ => hT'); k_dflt (refine' law_i2d [_, _, _, _, _, _, _, _, _, _, _] hT' ?F ?N ?B ?X ?T ?hk ?C ?hp ?x0 ?x1 ?dd ?uu ?_; (case F => k_asm); (case N => assumption); (case B => k_asm); (case X => k_asm); (case T => k_asm); (case hk => first | exact rfl | assumption); (case C => assumption); (case hp => k_all); (case x0 => omega); (case x1 => omega); (case dd => ktr_room); (case uu => ktr_units); k_whole); intro r' vs' Ta' h' tk' I' hT2' kp' F' N' l1 l2' l3'; (simp only [List.cons_append, List.nil_append] at N'); clear hT'; (try k_lt l1)))
local macro_rules | `(tactic| walk_at "MY turned11") => `(tactic| ((rename LT _ _ => hT'); k_dflt (refine' law_turned [_, _, _, _, _, _, _, _, _, _, _] hT' ?F ?N ?B ?X ?T ?hk ?C ?hp ?x0 ?x1 ?y0 ?y1 ?dd ?uu ?_; (case F => k_asm); (case N => assumption); (case B => k_asm); (case X => k_asm); (case T => k_asm); (case hk => first | exact rfl | assumption); (case C => assumption); (case hp => k_all); (case x0 => omega); (case x1 => omega); (case y0 => omega); (case y1 => omega); (case dd => ktr_room); (case uu => ktr_units); k_whole); intro r' vs' Ta' h' tk' I' hT2' kp' F' N' l2' l3'; (simp only [List.cons_append, List.nil_append] at N'); clear hT'))
local macro_rules | `(tactic| walk_at "MY d2i11") => `(tactic| ((rename LT _ _ => hT'); k_dflt (refine' law_d2i [_, _, _, _, _, _, _, _, _, _, _] hT' ?F ?N ?l0 ?ds ?bb ?ln ?B ?X ?T ?hk ?C ?hp ?dd ?uu ?_; (case F => k_asm); (case N => assumption); (case B => k_asm); (case X => k_asm); (case T => k_asm); (case hk => first | exact rfl | assumption); (case C => assumption); (case hp => k_all); (case l0 => k_mem); (case ds => assumption); (case bb => exact turnL_bits _ _); (case ln => exact turnL_len _ _); (case dd => ktr_room); (case uu => ktr_units); k_whole); intro tv' Tb' h' tk' hT2' kp' F' N'; (simp only [List.cons_append, List.nil_append] at N'); clear hT'))
local macro_rules | `(tactic| walk_at "MY wholeZ11") => `(tactic| ((rename LT _ _ => hT'); k_dflt (refine' law_whole0 [_, _, _, _, _, _, _, _, _, _, _] hT' ?F ?N ?B ?X ?T ?hk ?C ?hp ?y0 ?y1 ?dd ?uu ?_; (case F => k_asm); (case N => assumption); (case B => k_asm); (case X => k_asm); (case T => k_asm); (case hk => first | exact rfl | assumption); (case C => assumption); (case hp => k_all); (case y0 => omega); (case y1 => omega); (case dd => ktr_room); (case uu => ktr_units); k_whole); intro r' u1' u2' u3' u4' Ta' h' tk' hT2' kp' F' N' l1 l2' l3'; (simp only [List.cons_append, List.nil_append] at N'); clear hT'; (try k_lt l1)))
local macro_rules | `(tactic| walk_at "MY whole11") => `(tactic| ((rename LT _ _ => hT'); k_dflt (refine' law_whole [_, _, _, _, _, _, _, _, _, _, _] hT' ?F ?N ?B ?X ?T ?hk ?C ?hp ?x0 ?xy ?y1 ?dd ?uu ?_; (case F => k_asm); (case N => assumption); (case B => k_asm); (case X => k_asm); (case T => k_asm); (case hk => first | exact rfl | assumption); (case C => assumption); (case hp => k_all); (case x0 => omega); (case xy => omega); (case y1 => omega); (case dd => ktr_room); (case uu => ktr_units); k_whole); intro r' c2' c3' c4' u1' u2' u3' u4' Ta' h' tk' hT2' kp' F' N' l1 l2' l3'; (simp only [List.cons_append, List.nil_append] at N'); clear hT'; (try k_lt l1)))

local macro_rules | `(tactic| walk_at "MY i2d12") => `(tactic| ((rename LT _ _ => hT'); k_dflt (refine' law_i2d [_, _, _, _, _, _, _, _, _, _, _, _] hT' ?F ?N ?B ?X ?T ?hk ?C ?hp ?x0 ?x1 ?dd ?uu ?_; (case F => k_asm); (case N => assumption); (case B => k_asm); (case X => k_asm); (case T => k_asm); (case hk => first | exact rfl | assumption); (case C => assumption); (case hp => k_all); (case x0 => omega); (case x1 => omega); (case dd => ktr_room); (case uu => ktr_units); k_whole); intro r' vs' Ta' h' tk' I' hT2' kp' F' N' l1 l2' l3'; (simp only [List.cons_append, List.nil_append] at N'); clear hT'; (try k_lt l1)))
local macro_rules | `(tactic| walk_at "MY turned12") => `(tactic| ((rename LT _ _ => hT'); k_dflt (refine' law_turned [_, _, _, _, _, _, _, _, _, _, _, _] hT' ?F ?N ?B ?X ?T ?hk ?C ?hp ?x0 ?x1 ?y0 ?y1 ?dd ?uu ?_; (case F => k_asm); (case N => assumption); (case B => k_asm); (case X => k_asm); (case T => k_asm); (case hk => first | exact rfl | assumption); (case C => assumption); (case hp => k_all); (case x0 => omega); (case x1 => omega); (case y0 => omega); (case y1 => omega); (case dd => ktr_room); (case uu => ktr_units); k_whole); intro r' vs' Ta' h' tk' I' hT2' kp' F' N' l2' l3'; (simp only [List.cons_append, List.nil_append] at N'); clear hT'))
local macro_rules | `(tactic| walk_at "MY d2i12") => `(tactic| ((rename LT _ _ => hT'); k_dflt (refine' law_d2i [_, _, _, _, _, _, _, _, _, _, _, _] hT' ?F ?N ?l0 ?ds ?bb ?ln ?B ?X ?T ?hk ?C ?hp ?dd ?uu ?_; (case F => k_asm); (case N => assumption); (case B => k_asm); (case X => k_asm); (case T => k_asm); (case hk => first | exact rfl | assumption); (case C => assumption); (case hp => k_all); (case l0 => k_mem); (case ds => assumption); (case bb => exact turnL_bits _ _); (case ln => exact turnL_len _ _); (case dd => ktr_room); (case uu => ktr_units); k_whole); intro tv' Tb' h' tk' hT2' kp' F' N'; (simp only [List.cons_append, List.nil_append] at N'); clear hT'))
local macro_rules | `(tactic| walk_at "MY wholeZ12") => `(tactic| ((rename LT _ _ => hT'); k_dflt (refine' law_whole0 [_, _, _, _, _, _, _, _, _, _, _, _] hT' ?F ?N ?B ?X ?T ?hk ?C ?hp ?y0 ?y1 ?dd ?uu ?_; (case F => k_asm); (case N => assumption); (case B => k_asm); (case X => k_asm); (case T => k_asm); (case hk => first | exact rfl | assumption); (case C => assumption); (case hp => k_all); (case y0 => omega); (case y1 => omega); (case dd => ktr_room); (case uu => ktr_units); k_whole); intro r' u1' u2' u3' u4' Ta' h' tk' hT2' kp' F' N' l1 l2' l3'; (simp only [List.cons_append, List.nil_append] at N'); clear hT'; (try k_lt l1)))
local macro_rules | `(tactic| walk_at "MY whole12") => `(tactic| ((rename LT _ _ => hT'); k_dflt (refine' law_whole [_, _, _, _, _, _, _, _, _, _, _, _] hT' ?F ?N ?B ?X ?T ?hk ?C ?hp ?x0 ?xy ?y1 ?dd ?uu ?_; (case F => k_asm); (case N => assumption); (case B => k_asm); (case X => k_asm); (case T => k_asm); (case hk => first | exact rfl | assumption); (case C => assumption); (case hp => k_all); (case x0 => omega); (case xy => omega); (case y1 => omega); (case dd => ktr_room); (case uu => ktr_units); k_whole); intro r' c2' c3' c4' u1' u2' u3' u4' Ta' h' tk' hT2' kp' F' N' l1 l2' l3'; (simp only [List.cons_append, List.nil_append] at N'); clear hT'; (try k_lt l1)))

local macro_rules | `(tactic| walk_at "MY i2d13") => `(tactic| ((rename LT _ _ => hT'); k_dflt (refine' law_i2d [_, _, _, _, _, _, _, _, _, _, _, _, _] hT' ?F ?N ?B ?X ?T ?hk ?C ?hp ?x0 ?x1 ?dd ?uu ?_; (case F => k_asm); (case N => assumption); (case B => k_asm); (case X => k_asm); (case T => k_asm); (case hk => first | exact rfl | assumption); (case C => assumption); (case hp => k_all); (case x0 => omega); (case x1 => omega); (case dd => ktr_room); (case uu => ktr_units); k_whole); intro r' vs' Ta' h' tk' I' hT2' kp' F' N' l1 l2' l3'; (simp only [List.cons_append, List.nil_append] at N'); clear hT'; (try k_lt l1)))
local macro_rules | `(tactic| walk_at "MY turned13") => `(tactic| ((rename LT _ _ => hT'); k_dflt (refine' law_turned [_, _, _, _, _, _, _, _, _, _, _, _, _] hT' ?F ?N ?B ?X ?T ?hk ?C ?hp ?x0 ?x1 ?y0 ?y1 ?dd ?uu ?_; (case F => k_asm); (case N => assumption); (case B => k_asm); (case X => k_asm); (case T => k_asm); (case hk => first | exact rfl | assumption); (case C => assumption); (case hp => k_all); (case x0 => omega); (case x1 => omega); (case y0 => omega); (case y1 => omega); (case dd => ktr_room); (case uu => ktr_units); k_whole); intro r' vs' Ta' h' tk' I' hT2' kp' F' N' l2' l3'; (simp only [List.cons_append, List.nil_append] at N'); clear hT'))
local macro_rules | `(tactic| walk_at "MY d2i13") => `(tactic| ((rename LT _ _ => hT'); k_dflt (refine' law_d2i [_, _, _, _, _, _, _, _, _, _, _, _, _] hT' ?F ?N ?l0 ?ds ?bb ?ln ?B ?X ?T ?hk ?C ?hp ?dd ?uu ?_; (case F => k_asm); (case N => assumption); (case B => k_asm); (case X => k_asm); (case T => k_asm); (case hk => first | exact rfl | assumption); (case C => assumption); (case hp => k_all); (case l0 => k_mem); (case ds => assumption); (case bb => exact turnL_bits _ _); (case ln => exact turnL_len _ _); (case dd => ktr_room); (case uu => ktr_units); k_whole); intro tv' Tb' h' tk' hT2' kp' F' N'; (simp only [List.cons_append, List.nil_append] at N'); clear hT'))
local macro_rules | `(tactic| walk_at "MY wholeZ13") => `(tactic| ((rename LT _ _ => hT'); k_dflt (refine' law_whole0 [_, _, _, _, _, _, _, _, _, _, _, _, _] hT' ?F ?N ?B ?X ?T ?hk ?C ?hp ?y0 ?y1 ?dd ?uu ?_; (case F => k_asm); (case N => assumption); (case B => k_asm); (case X => k_asm); (case T => k_asm); (case hk => first | exact rfl | assumption); (case C => assumption); (case hp => k_all); (case y0 => omega); (case y1 => omega); (case dd => ktr_room); (case uu => ktr_units); k_whole); intro r' u1' u2' u3' u4' Ta' h' tk' hT2' kp' F' N' l1 l2' l3'; (simp only [List.cons_append, List.nil_append] at N'); clear hT'; (try k_lt l1)))
local macro_rules | `(tactic| walk_at "MY whole13") => `(tactic| ((rename LT _ _ => hT'); k_dflt (refine' law_whole [_, _, _, _, _, _, _, _, _, _, _, _, _] hT' ?F ?N ?B ?X ?T ?hk ?C ?hp ?x0 ?xy ?y1 ?dd ?uu ?_; (case F => k_asm); (case N => assumption); (case B => k_asm); (case X => k_asm); (case T => k_asm); (case hk => first | exact rfl | assumption); (case C => assumption); (case hp => k_all); (case x0 => omega); (case xy => omega); (case y1 => omega); (case dd => ktr_room); (case uu => ktr_units); k_whole); intro r' c2' c3' c4' u1' u2' u3' u4' Ta' h' tk' hT2' kp' F' N' l1 l2' l3'; (simp only [List.cons_append, List.nil_append] at N'); clear hT'; (try k_lt l1)))

local macro_rules | `(tactic| walk_at "MY i2d14") => `(tactic| ((rename LT _ _ => hT'); k_dflt (refine' law_i2d [_, _, _, _, _, _, _, _, _, _, _, _, _, _] hT' ?F ?N ?B ?X ?T ?hk ?C ?hp ?x0 ?x1 ?dd ?uu ?_; (case F => k_asm); (case N => assumption); (case B => k_asm); (case X => k_asm); (case T => k_asm); (case hk => first | exact rfl | assumption); (case C => assumption); (case hp => k_all); (case x0 => omega); (case x1 => omega); (case dd => ktr_room); (case uu => ktr_units); k_whole); intro r' vs' Ta' h' tk' I' hT2' kp' F' N' l1 l2' l3'; (simp only [List.cons_append, List.nil_append] at N'); clear hT'; (try k_lt l1)))
local macro_rules | `(tactic| walk_at "MY turned14") => `(tactic| ((rename LT _ _ => hT'); k_dflt (refine' law_turned [_, _, _, _, _, _, _, _, _, _, _, _, _, _] hT' ?F ?N ?B ?X ?T ?hk ?C ?hp ?x0 ?x1 ?y0 ?y1 ?dd ?uu ?_; (case F => k_asm); (case N => assumption); (case B => k_asm); (case X => k_asm); (case T => k_asm); (case hk => first | exact rfl | assumption); (case C => assumption); (case hp => k_all); (case x0 => omega); (case x1 => omega); (case y0 => omega); (case y1 => omega); (case dd => ktr_room); (case uu => ktr_units); k_whole); intro r' vs' Ta' h' tk' I' hT2' kp' F' N' l2' l3'; (simp only [List.cons_append, List.nil_append] at N'); clear hT'))
local macro_rules | `(tactic| walk_at "MY d2i14") => `(tactic| ((rename LT _ _ => hT'); k_dflt (refine' law_d2i [_, _, _, _, _, _, _, _, _, _, _, _, _, _] hT' ?F ?N ?l0 ?ds ?bb ?ln ?B ?X ?T ?hk ?C ?hp ?dd ?uu ?_; (case F => k_asm); (case N => assumption); (case B => k_asm); (case X => k_asm); (case T => k_asm); (case hk => first | exact rfl | assumption); (case C => assumption); (case hp => k_all); (case l0 => k_mem); (case ds => assumption); (case bb => exact turnL_bits _ _); (case ln => exact turnL_len _ _); (case dd => ktr_room); (case uu => ktr_units); k_whole); intro tv' Tb' h' tk' hT2' kp' F' N'; (simp only [List.cons_append, List.nil_append] at N'); clear hT'))
local macro_rules | `(tactic| walk_at "MY wholeZ14") => `(tactic| ((rename LT _ _ => hT'); k_dflt (refine' law_whole0 [_, _, _, _, _, _, _, _, _, _, _, _, _, _] hT' ?F ?N ?B ?X ?T ?hk ?C ?hp ?y0 ?y1 ?dd ?uu ?_; (case F => k_asm); (case N => assumption); (case B => k_asm); (case X => k_asm); (case T => k_asm); (case hk => first | exact rfl | assumption); (case C => assumption); (case hp => k_all); (case y0 => omega); (case y1 => omega); (case dd => ktr_room); (case uu => ktr_units); k_whole); intro r' u1' u2' u3' u4' Ta' h' tk' hT2' kp' F' N' l1 l2' l3'; (simp only [List.cons_append, List.nil_append] at N'); clear hT'; (try k_lt l1)))
local macro_rules | `(tactic| walk_at "MY whole14") => `(tactic| ((rename LT _ _ => hT'); k_dflt (refine' law_whole [_, _, _, _, _, _, _, _, _, _, _, _, _, _] hT' ?F ?N ?B ?X ?T ?hk ?C ?hp ?x0 ?xy ?y1 ?dd ?uu ?_; (case F => k_asm); (case N => assumption); (case B => k_asm); (case X => k_asm); (case T => k_asm); (case hk => first | exact rfl | assumption); (case C => assumption); (case hp => k_all); (case x0 => omega); (case xy => omega); (case y1 => omega); (case dd => ktr_room); (case uu => ktr_units); k_whole); intro r' c2' c3' c4' u1' u2' u3' u4' Ta' h' tk' hT2' kp' F' N' l1 l2' l3'; (simp only [List.cons_append, List.nil_append] at N'); clear hT'; (try k_lt l1)))

local macro_rules | `(tactic| walk_at "call ref") => `(tactic| (k_here; (with_reducible show wpAny _ _ (call (Value.ref 21) _) _ _ _); first | walk_at "MY i2d1" | walk_at "MY i2d2" | walk_at "MY i2d3" | walk_at "MY i2d4" | walk_at "MY i2d5" | walk_at "MY i2d6" | walk_at "MY i2d7" | walk_at "MY i2d8" | walk_at "MY i2d9" | walk_at "MY i2d10" | walk_at "MY i2d11" | walk_at "MY i2d12" | walk_at "MY i2d13" | walk_at "MY i2d14"))

local macro_rules | `(tactic| walk_at "call ref") => `(tactic| (k_here; (with_reducible show wpAny _ _ (call (Value.ref 47) _) _ _ _); first | walk_at "MY turned1" | walk_at "MY turned2" | walk_at "MY turned3" | walk_at "MY turned4" | walk_at "MY turned5" | walk_at "MY turned6" | walk_at "MY turned7" | walk_at "MY turned8" | walk_at "MY turned9" | walk_at "MY turned10" | walk_at "MY turned11" | walk_at "MY turned12" | walk_at "MY turned13" | walk_at "MY turned14"))

local macro_rules | `(tactic| walk_at "call ref") => `(tactic| (k_here; (with_reducible show wpAny _ _ (call (Value.ref 28) _) _ _ _); first | walk_at "MY d2i1" | walk_at "MY d2i2" | walk_at "MY d2i3" | walk_at "MY d2i4" | walk_at "MY d2i5" | walk_at "MY d2i6" | walk_at "MY d2i7" | walk_at "MY d2i8" | walk_at "MY d2i9" | walk_at "MY d2i10" | walk_at "MY d2i11" | walk_at "MY d2i12" | walk_at "MY d2i13" | walk_at "MY d2i14"))

local macro_rules | `(tactic| walk_at "call ref") => `(tactic| (k_here; (with_reducible show wpAny _ _ (call (Value.ref 54) _) _ _ _); first | walk_at "MY wholeZ1" | walk_at "MY wholeZ2" | walk_at "MY wholeZ3" | walk_at "MY wholeZ4" | walk_at "MY wholeZ5" | walk_at "MY wholeZ6" | walk_at "MY wholeZ7" | walk_at "MY wholeZ8" | walk_at "MY wholeZ9" | walk_at "MY wholeZ10" | walk_at "MY wholeZ11" | walk_at "MY wholeZ12" | walk_at "MY wholeZ13" | walk_at "MY wholeZ14" | walk_at "MY whole1" | walk_at "MY whole2" | walk_at "MY whole3" | walk_at "MY whole4" | walk_at "MY whole5" | walk_at "MY whole6" | walk_at "MY whole7" | walk_at "MY whole8" | walk_at "MY whole9" | walk_at "MY whole10" | walk_at "MY whole11" | walk_at "MY whole12" | walk_at "MY whole13" | walk_at "MY whole14"))

local macro_rules | `(tactic| walk_at "compareOp NotEq int int") => `(tactic| (k_here; (refine' ne_same ?e ?_; (case e => walk_at "MY eq"); k_whole)))
local macro_rules | `(tactic| walk_at "MY eq") => `(tactic| first | with_reducible rfl | with_reducible exact (turn_of (by omega) (by omega)).1 | with_reducible exact turn_val (by omega) (by omega) | with_reducible exact sumc_of (by omega) (by omega) | omega | exact (turn_of (by omega) (by omega)).1 | exact turn_val (by omega) (by omega) | rfl)
local macro_rules | `(tactic| walk_at "subscriptTail Name Slice ref ref") => `(tactic| (k_here; k_dflt (refine' slice_tail ?F ?N ?m ?_ ?s ?g; (case F => k_asm); (case N => k_asm); (case m => k_mem); (case s => with_unfolding_all rfl); (case g => intro _; with_unfolding_all rfl)); intro r' h' F' N' l1; (try k_lt l1)))
local macro_rules | `(tactic| walk_at "GrownAll") => `(tactic| (k_dflt exact grownAll_two (by k_asm) (by assumption) (by (intro p hp; k_mem))))
local macro_rules | `(tactic| walk_at "pyIter ref") => `(tactic| (k_here; (with_reducible show wpAny _ _ (pyIter (Value.ref _)) (fun it s₂ => LoopAtV _ _ _ _ _ _ _ _ _ it s₂) _ _); (rename LT _ _ => hT'); k_dflt (refine' law_loop hT' ?F ?N ?hw ?h1 ?h2 ?h3 ?hh ?hr ?k1 ?k2 ?k3 ?turn ?done; (case F => k_asm); (case N => k_asm); (case hw => exact rfl); (case h1 => k_mem); (case h2 => exact mem_of_cell (by assumption) (by k_mem)); (case h3 => (intro p hp; k_mem)); (case hh => exact rfl); (case hr => assumption); (case k1 => omega); (case k2 => omega); (case k3 => omega)); (case' turn => (clear hT'; intro i' k' tk9' m' I' oI' h' tk' Ta' Tb' hk0' hk1' hT2' n1' n2' o1' o2' g1' g2' F' N'; try k_fold)); (case' done => (clear hT'; intro m' Ta' Tb' h' tk' hT2' F' N'; try k_fold))))
local macro_rules | `(tactic| walk_at "MY cell") => `(tactic| exact List.mem_cons_self)

local macro_rules | `(tactic| walk_at "binaryOp Add ref ref") => `(tactic| (k_here; k_dflt (refine' add_zero ?F ?N ?a ?b ?i ?x0 ?x1 ?_; (case F => k_asm); (case N => k_asm); (case a => k_mem); (case b => k_mem); (case i => assumption); (case x0 => omega); (case x1 => omega); k_whole); intro D' us' h' F' N' l1 I'; (try k_lt l1)))
local macro_rules | `(tactic| walk_at "call builtin:list.index") => `(tactic| (k_here; k_dflt (refine' idx_zero ?N ?a ?i ?x0 ?x1 ?_; (case N => k_asm); (case a => k_mem); (case i => assumption); (case x0 => omega); (case x1 => omega); k_whole); intro hno'))
local macro_rules | `(tactic| walk_at "binaryOp Pow int int") => `(tactic| (k_here; k_dflt (refine' pow_two ?x0 ?x1 ?_; (case x0 => omega); (case x1 => omega); k_whole)))
local macro_rules | `(tactic| walk_at "PostR") => `(tactic| (k_here; (rename LT _ _ => hT'); k_dflt exact law_end hT' (by k_asm) (by k_asm) rfl (by k_mem) (by k_mem) (by k_mem) (by (intro p hp; k_mem)) (by first | assumption | k_ne) (by first | assumption | k_ne) (by k_all) (by k_all)))

local macro_rules | `(tactic| walk_at "exec Assign cons ListComp") => `(tactic| (k_here; (rename NB _ => nb'); k_dflt (refine' Assign_cnt nb' (by k_asm) (by rfl) (by with_unfolding_all rfl) (by with_unfolding_all rfl) (by rfl) (by decide) (fun _ => rfl) (fun _ => rfl) (by rfl) (by rfl) (by rfl) ?_ (by intro _; rfl))))
local macro_rules | `(tactic| walk_at "CompCellG") => `(tactic| (k_here; k_dflt (refine' cell_seven ?hh ?F ?N ?R ?turn ?fin; (case hh => exact rfl); (case F => k_asm); (case N => k_asm); (case R => assumption)); (case' turn => (intro k' t' I' oI' C' oC' Kc' oK' D' ys' h' tk' E' hk0' hk1' hKK' hoK' F' N'; try k_fold)); (case' fin => (intro D' ys' h' tk' I' F' N' l1; (try k_lt l1); try k_fold))))
local macro_rules | `(tactic| walk_at "CellEnd") => `(tactic| (k_here; (rename KK _ => kk'); k_dflt (exact cell_end (by k_asm) (by k_asm) (by first | (intro p hp; k_mem) | kcf_all) (cnt_of (by omega) (by omega) (by omega) (by omega) (by omega)))))
local macro_rules | `(tactic| walk_at "CompSrcT") => `(tactic| (k_here; (rename KK _ => kk'); k_dflt (refine LCt.CompSrcT.range (by rfl) (by k_asm) (by k_asm) (by assumption) (small_one (by omega) (by omega) (by omega) (by omega)) (rangeSize_nat _ _) (by rw [PySem.sizeLine_eq]; omega) ?_; intro g'; (refine' kci_cnt kk' (fun k' t' I' oI' C' oC' D' m' ys' l' h' tk' E' hlo' hhi' hI' hC' hx' F' N' off' ne' => ?_) ?_); (all_goals (try (simp only [LCg.Off3, and_true] at off'))); (all_goals (try ((show KPfMark → _); intro hMark'))); kcf_last)))
local macro_rules | `(tactic| walk_at "KCiEl") => `(tactic| exact kci_el (cntF_yes (by first | assumption | omega | simp_all)) rfl rfl)
local macro_rules | `(tactic| walk_at "KCiNo") => `(tactic| exact kci_no (cntF_no (by first | assumption | omega | simp_all)) rfl)
local macro_rules | `(tactic| walk_at "eval ListComp") => `(tactic| (k_here; (with_reducible show wpAny _ _ (eval (Expr.ListComp _ [⟨_, _, [_], _⟩] _ _) _) _ _ _); k_dflt (refine LCt.ListComp_T (F₀ := by k_asm) (by with_unfolding_all rfl) (by decide) (by rfl) (by decide) (by rfl) ?_)))
local macro_rules | `(tactic| walk_at "CompSrc") => `(tactic| (k_here; (rename NB _ => nb'); k_dflt (refine LCg.CompSrc.range (by rfl) (by k_asm) (by k_asm) (by assumption) (by decide) (by rfl) (by exact Nat.le_of_ble_eq_true rfl) ?_; intro g'; (refine' kcf_cnt nb' (fun k' t' I' oI' C' oC' D' m' ys' h' tk' E' hlo' hhi' hC' hx' F' N' off' ne' hMark' => ?_) ?_))))
local macro_rules | `(tactic| walk_at "KCfEl") => `(tactic| exact kcf_el rfl rfl rfl)
local macro_rules | `(tactic| walk_at "binaryOp Pow int int") => `(tactic| (k_here; k_dflt (refine' pow_six ?x0 ?x1 ?_; (case x0 => omega); (case x1 => omega); k_whole); intro v' hv1' hv2' hv3'))
local macro_rules | `(tactic| walk_at "binaryOp Mod int int") => `(tactic| (k_here; (with_reducible refine' mod_pow ?_); k_whole))
local macro_rules | `(tactic| walk_at "binaryOp FloorDiv int int") => `(tactic| (k_here; ((with_reducible refine' floor_pow ?k0 ?k1 ?_); (case k0 => omega); (case k1 => omega); k_whole)))
local macro_rules | `(tactic| walk_at "compareOp Eq int int") => `(tactic| (k_here; (refine' eq_same ?e ?_; (case e => with_reducible assumption); k_whole)))

local macro_rules | `(tactic| walk_at "CompEnd") => `(tactic| (k_here; first | (with_reducible refine' end_yes ?F ?N ?sub ?off ?e; (case F => k_asm); (case N => k_asm); (case sub => kcf_all); (case off => first | assumption | (simp only [LCg.Off3, and_true]; assumption)); (case e => assumption); done) | (with_reducible refine' end_no ?F ?N ?sub ?off ?e; (case F => k_asm); (case N => k_asm); (case sub => kcf_all); (case off => first | assumption | (simp only [LCg.Off3, and_true]; assumption)); (case e => assumption); done) | kcf_end))
local macro_rules | `(tactic| walk_at "binaryOp Mod int int") => `(tactic| (k_here; (with_reducible refine' mod_32 ?_); k_whole; intro v' hv1' hv2' hNB'))

local macro_rules | `(tactic| walk_at "compareOp NotEq ref ref") => `(tactic| (k_here; (with_reducible show wpAny _ _ (compareOp CmpOp.NotEq (Value.ref _) (Value.ref _)) _ _ _); k_dflt (refine' ne_cnt ?N ?a ?b ?i ?j ?u ?_; (case N => k_asm); (case a => k_mem); (case b => k_mem); (case i => assumption); (case j => assumption); (case u => first | ktr_units | ke_room); k_whole); (rename News _ _ _ _ => N8'); replace N8' := news_tl N8'))

set_option maxHeartbeats 8000000 in
theorem law_done : PySem.Challenge.rw_gm0003_01.Holds := hd (by
  k_go0
  (all_goals try k_fold)
  (rename News _ _ _ _ => N9)
  obtain ⟨Ta, Tb, hLT, N10, oTa, oTb⟩ := start_tabs N9 (by omega) (by omega)
  clear N9
  have hMk := kstMark
  k_steps)
end Mine
end

theorem PySem.Challenge.cw_gm0003_01_holds : PySem.Challenge.rw_gm0003_01.Holds := by
  exact Mine.law_done
