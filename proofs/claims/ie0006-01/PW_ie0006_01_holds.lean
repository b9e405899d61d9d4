import PyProof.Rows.All
import Wide.All
import OpenK.AllK
import Wide.FinOn
import Lean
import PySem.Challenge.RW_ie0006_01
set_option Elab.async false
namespace Mine
section
open PySem PySem.W PyProof.Rows
set_option maxRecDepth 100000 in
set_option maxHeartbeats 8000000 in
open_top hd for PySem.Challenge.rw_ie0006_01
end
section
open PySem PySem.W PyProof.Rows
/-- what a call of a def of the text's does, in any def's frame -/
def CallS (prog : Program) (w : World) (p : Program) (loose : List Str) (mean : ExcName → Option Value) (mg mb : Str → Option Value) (f : Addr) (args : List Value) (dep units : Nat)
    (news : List (Addr × Obj)) (Post : List (Addr × Obj) → Value → Prop) : Prop :=
  ∀ (dp un : Nat) (gd : Option (List Code)) (cn : Str) (cs : Scope) (a : Addr) (ccd : Value) (cl : List (Str × Addr)) (outer : List Env) (A₀ : Around) (base h₀ : Heap) (L : Addr) (m : Str → Option Value) (s : Shared)
    (Q E : Value → Shared → Prop),
    Below A₀ base outer h₀ → Fr h₀ L s.heap m → (hd.heap_39 w.params).In h₀ → News h₀ L s.heap news → Top p loose mean mg mb h₀ → cs.kind = .function → dp + dep < recursionLimit → un + units < cLine →
    (∀ r news' h' tk', Fr h₀ L h' m → News h₀ L h' news' → Post news' r → Q r { s with heap := h', toks := tk' }) →
    wpAny (model prog w) (ktrTop dp un gd cn cs L a ccd cl outer) (call (.ref f) args) Q E s
/-- a code table: empty, or it holds the one inner code -/
def TabS (ln col : Int) (qual : Str) (ps : Array Value) (cds : List (Addr × Obj)) : Prop :=
  ps = #[] ∨ ∃ c' oc vs t, ps = #[rawInt ln, rawInt col, .ref c'] ∧ (c', oc) ∈ cds ∧ oc.data = .fields vs ∧ vs[1]? = some (.str qual t)
theorem TabS.mono {ln col : Int} {qual : Str} {ps : Array Value} {cds cds' : List (Addr × Obj)} (h : TabS ln col qual ps cds) (hs : ∀ p ∈ cds, p ∈ cds') : TabS ln col qual ps cds' := by
  rcases h with h | ⟨c', oc, vs, t, h1, h2, h3⟩
  · exact .inl h
  · exact .inr ⟨c', oc, vs, t, h1, hs _ h2, h3⟩
theorem allne_of {r : List (Addr × Obj)} {d e : Nat} (h : AllLt e r) (hd : e ≤ d) : ∀ p ∈ r, p.1 ≠ d := by
  induction r with
  | nil => intro p hp; cases hp
  | cons q r ih =>
    intro p hp
    rcases List.mem_cons.mp hp with rfl | hp
    · exact Nat.ne_of_lt (Nat.lt_of_lt_of_le h.1 hd)
    · exact ih h.2 p hp
/-- add is newer than all of news -/
def FreshOver (add news : List (Addr × Obj)) : Prop := ∀ p ∈ add, ∀ q ∈ news, q.1 < p.1
theorem FreshOver.ne {add news : List (Addr × Obj)} {d : Addr} {o : Obj} (h : FreshOver add news) (hq : (d, o) ∈ news) : ∀ p ∈ add, p.1 ≠ d := fun p hp => Nat.ne_of_gt (h p hp _ hq)
theorem allne_append {r t : List (Addr × Obj)} {d : Addr} (h : ∀ p ∈ r, p.1 ≠ d) (h' : ∀ p ∈ t, p.1 ≠ d) : ∀ p ∈ r ++ t, p.1 ≠ d := fun p hp => (List.mem_append.mp hp).elim (h p) (h' p)
/-- a written front, then the tail r0 -/
inductive Pre (r0 : List (Addr × Obj)) : List (Addr × Obj) → (List (Addr × Obj) → List (Addr × Obj)) → Prop
  | nil : Pre r0 r0 (fun r => r)
  | cons {p r k} : Pre r0 r k → Pre r0 (p :: r) (fun r' => p :: k r')
inductive Cut (d : Addr) (o : Obj) (r0 : List (Addr × Obj)) : List (Addr × Obj) → (Obj → List (Addr × Obj) → List (Addr × Obj)) → Prop
  | head {r k} : Pre r0 r k → (∀ p ∈ r, p.1 ≠ d) → Cut d o r0 ((d, o) :: r) (fun o' r' => (d, o') :: k r')
  | tail {p r g} : p.1 ≠ d → Cut d o r0 r g → Cut d o r0 (p :: r) (fun o' r' => p :: g o' r')
theorem Pre.split {r0 l : List (Addr × Obj)} {k : List (Addr × Obj) → List (Addr × Obj)} (h : Pre r0 l k) : ∃ pre, l = pre ++ r0 ∧ ∀ r, k r = pre ++ r := by
  induction h with
  | nil => exact ⟨[], rfl, fun _ => rfl⟩
  | @cons p r k _ ih => obtain ⟨pre, e, hk⟩ := ih; exact ⟨p :: pre, by rw [e]; rfl, fun r' => by show p :: k r' = _; rw [hk]; rfl⟩
theorem Cut.split {d : Addr} {o : Obj} {r0 l : List (Addr × Obj)} {g : Obj → List (Addr × Obj) → List (Addr × Obj)} (h : Cut d o r0 l g) :
    ∃ g1, UpdF d o l g1 ∧ ∀ o' add, ∀ p ∈ g o' (add ++ r0), p ∈ add ∨ p ∈ g1 o' := by
  induction h with
  | @head r k hp hne =>
    obtain ⟨pre, e, hk⟩ := hp.split
    refine ⟨_, .head hne, fun o' add p hp => ?_⟩
    rcases List.mem_cons.mp hp with rfl | hp
    · exact .inr (.head _)
    · replace hp : p ∈ k (add ++ r0) := hp
      rw [hk] at hp
      rcases List.mem_append.mp hp with hp | hp
      · exact .inr (.tail _ (by rw [e]; exact List.mem_append.mpr (.inl hp)))
      · rcases List.mem_append.mp hp with hp | hp
        · exact .inl hp
        · exact .inr (.tail _ (by rw [e]; exact List.mem_append.mpr (.inr hp)))
  | @tail q r g hne _ ih =>
    obtain ⟨g1, hu, hm⟩ := ih
    refine ⟨_, .tail hne hu, fun o' add p hp => ?_⟩
    rcases List.mem_cons.mp hp with rfl | hp
    · exact .inr (.head _)
    · exact (hm o' add p hp).imp id (.tail _)
section
variable {M : Model} {A : Around} {E : Value → Shared → Prop} {s : Shared} {h₀ : Heap} {L a c P : Addr} {m mg mb : Str → Option Value} {cn : Str} {cs : Scope} {ccd : Value} {cl : List (Str × Addr)} {news r0 cds : List (Addr × Obj)} {g : Obj → List (Addr × Obj) → List (Addr × Obj)}
  {p : Program} {loose : List Str} {mean : ExcName → Option Value} {name qual : Str} {params : Arguments} {body : List Stmt} {scope : Scope} {ps : Array Value} {pos : Pos} {firstLine : Nat} {clos : List (Str × Addr)}
/-- a def in a body, the code table as it is or with the one code -/
theorem nest_S {Q : Value → Shared → Prop} (F : Fr h₀ L s.heap m) (N : News h₀ L s.heap news) (T : Top p loose mean mg mb h₀) (C : CodeHd h₀ c P) (hcd : ccd = .ref c) (U : Cut P (tabObj ps) r0 news g)
    (hS : TabS pos.line pos.col qual ps cds) (hsub : ∀ p ∈ cds, p ∈ r0)
    (hcl : closureFor scope (envX cn cs L a ccd cl) = pure clos)
    (h : ∀ f c' oc vs t ctv doc ps' add h' tk, Fr h₀ L h' m →
      News h₀ L h' ((f, fnMade name qual params body scope clos doc ((mg "__name__").getD .none) c' ctv) :: g (tabObj ps') (add ++ r0)) → TabS pos.line pos.col qual ps' (add ++ cds) →
      (c', oc) ∈ add ++ r0 → oc.data = .fields vs → vs[1]? = some (.str qual t) → FreshOver add news → (∀ q ∈ news, q.1 < f) → (∀ p ∈ add, p.1 < f) → Q (.ref f) { s with heap := h', toks := tk }) :
    wpAny M A (makeFunction name qual params (.stmts body) scope (envX cn cs L a ccd cl) [] [] [] pos firstLine) Q E s := by
  obtain ⟨g1, hu, hm⟩ := U.split
  have hsplit := hu.split
  rcases hS with rfl | ⟨c', oc, vs, t, rfl, hmem, hd, hv⟩
  · refine nest_K F N T C hcd hu trivial rfl hcl fun f c' oc vs t ctv doc h' tk F' N' hd hv h1 h2 => ?_
    refine h f c' oc vs t ctv doc _ [(c', oc)] h' tk F' (fun p hp => ?_) (.inr ⟨c', oc, vs, t, rfl, .head _, hd, hv⟩) (.head _) hd hv ?_ ?_ ?_
    · rcases List.mem_cons.mp hp with rfl | hp
      · exact N' _ (.head _)
      · rcases hm _ _ p hp with hp | hp
        · rw [List.mem_singleton.mp hp]; exact N' _ (.tail _ (.head _))
        · exact N' _ (.tail _ (.tail _ hp))
    · intro p hp; rw [List.mem_singleton.mp hp]; exact h1
    · exact fun q hq => Nat.lt_trans (h1 q hq) h2
    · intro p hp; rw [List.mem_singleton.mp hp]; exact h2
  · obtain ⟨pre, post, e, hg, h1, h2⟩ := hsplit
    refine nestHit_K (c' := c') F N T C hcd (ps := #[rawInt pos.line, rawInt pos.col, .ref c']) (by rw [e]; exact List.mem_append.mpr (.inr (.head _))) (by simp [TriplesOk, rawInt]) (by simp [codeAmong, rawInt]) hcl fun f ctv doc h' tk F' N' hl => ?_
    refine h f c' oc vs t ctv doc _ [] h' tk F' (fun p hp => ?_) (.inr ⟨c', oc, vs, t, rfl, hmem, hd, hv⟩) (hsub _ hmem) hd hv (fun _ h => nomatch h) hl (fun _ h => nomatch h)
    rcases List.mem_cons.mp hp with rfl | hp
    · exact N' _ (.head _)
    · rcases hm _ _ p hp with hp | hp
      · cases hp
      · rw [hg, ← e] at hp
        exact N' _ (.tail _ hp)
end
end
open PySem PySem.W PyProof.Rows
local macro_rules | `(tactic| k_enter) => `(tactic| first
  | (refine' code_def ?k1 ?k2 ?k3 ?k4 ?k5 ?kA ?kF ?kK ?k6 ?k7 ?k8 ?k9 ?kB ?_ ?c2 ?c3 ?c4 ?c5; (case kA | kF => exact rfl); (case kK => first | exact rfl | assumption); (case k1 | k2 | k3 | k4 | k5 => k_asm); (case k6 | k7 => k_is); (case k8 => ktr_room); (case k9 => first | exact BindsTo.of_eq rfl | (refine' kp_binds ?kx ?ke; (case kx => k_in); (case ke => exact fun _ => rfl)) | exact binds_K (by k_in) rfl (by k_is) rfl rfl rfl | fail "k_enter: no rule for these arguments"); (case c5 => decide); (case kB => exact locs rfl); (case c2 | c3 | c4 => exact rfl); k_whole; intro g' L' h' FG' F' N' B' X' T'; (try dsimp only); (try k_lift B'); (try k_fold))
  | (refine' code_defC ?k1 ?k2 ?k3 ?k4 ?k5 ?kA ?kF ?kK ?k6 ?k7 ?k8 ?k9 ?kB ?kD ?_ ?c2 ?c3 ?c4; (case kA | kF => exact rfl); (case kK => first | exact rfl | assumption); (case k1 | k2 | k3 | k4 | k5 => k_asm); (case k6 | k7 => k_is); (case k8 => ktr_room); (case k9 => first | exact BindsTo.of_eq rfl | (refine' kp_binds ?kx ?ke; (case kx => k_in); (case ke => exact fun _ => rfl)) | exact binds_K (by k_in) rfl (by k_is) rfl rfl rfl | fail "k_enter: no rule for these arguments"); (case kB => exact rfl); (case kD => decide +kernel); (case c2 | c3 | c4 => exact rfl); k_whole; intro g' L' h' tk' cells' FG' F' N' Y' B' X' T' l1; (try k_lt l1); k_cells Y'; (try simp only [List.cons_append, List.nil_append] at N'); (try dsimp only); (try k_lift B'); (try k_fold)))
local macro_rules | `(tactic| k_room) => `(tactic| ktr_room)
local macro_rules | `(tactic| k_mem) => `(tactic| ((show (_ : Addr × Obj) ∈ (_ : List (Addr × Obj))); with_reducible assumption))
local macro_rules | `(tactic| k_all) => `(tactic| first | assumption | (refine' allne_append ?a ?b; (case a | b => k_all)) | (refine' FreshOver.ne ?a ?b; (case a => assumption); (case b => k_mem)) | (tbn_letter; refine' allne_of ?h ?hd; (case h => tbn_find); (case hd => omega)))
local macro_rules | `(tactic| k_updF) => `(tactic| first | (refine' Cut.head ?a ?b; (case a => k_updF); (case b => k_all)) | (refine' Cut.tail ?a ?b; (case a => k_ne); (case b => k_updF)) | (refine' Pre.cons ?a; (case a => k_updF)) | exact Pre.nil)
local macro_rules | `(tactic| walk_at "exec FunctionDef") => `(tactic| (k_here; (with_unfolding_all refine' nestDef_K ?d0 ?k0 ?a0 ?_; (case d0 | k0 | a0 => exact rfl)); k_dflt (refine' nest_S ?F ?N ?T ?C ?cd ?U ?S ?sub ?cl ?_; (case F | N | T => k_asm); (case cd => exact rfl); (case C => first | with_reducible assumption | exact CodeHd.keeps (by assumption) (Fr.keep (by assumption))); (case U => k_updF); (case S | sub => assumption); (case cl => exact rfl); k_whole); intro f' c' oc' vs' t' ct' dc' ps' add' h' tk' F' N' S' m' d1' d2' a1' l1 l2'; (try dsimp only at N'); (try k_lt l1)))
section
open PySem PySem.W PyProof.Rows
theorem shift1 (n : Int) : ((0 + 2 : Int).fdiv (2 ^ Int.toNat 1) - 0) * n = n := by
  have : ((0 + 2 : Int).fdiv (2 ^ Int.toNat 1) - 0) = 1 := by decide
  rw [this, Int.one_mul]
theorem fdiv_small {x : Int} {k : Nat} (h0 : 0 ≤ x) (h : x < 4096) : (x.fdiv (2 ^ k)).natAbs < 2 ^ 64 := by
  have := natAbs_fdiv_le x (2 ^ k)
  omega
theorem bits_le {x n : Int} (_hx : 0 ≤ x) (hn : 0 ≤ n) (h : x.natAbs < 2 ^ (2 * n.toNat)) : (Builtin.Int.intBits x : Int) ≤ 2 * n := by
  have := intBits_le_iff.mpr h
  omega
theorem dsplit {x n : Int} (hx : 0 ≤ x) (hn : 2 ≤ n) (hn2 : n ≤ 6) (h : x.natAbs < 2 ^ (2 * n.toNat)) :
    (x = 0 ∧ (↑(Builtin.Int.intBits x) + n - 1).fdiv n = 0) ∨ (x ≠ 0 ∧ (↑(Builtin.Int.intBits x) + n - 1).fdiv n = 1) ∨ (x ≠ 0 ∧ (↑(Builtin.Int.intBits x) + n - 1).fdiv n = 2) := by
  have hb := bits_le hx (by omega) h
  rw [Int.fdiv_eq_ediv_of_nonneg _ (by omega)]
  by_cases h0 : x = 0
  · subst h0
    left
    refine ⟨rfl, ?_⟩
    have : Builtin.Int.intBits 0 = 0 := by decide
    rw [this]
    have h6 : n = 2 ∨ n = 3 ∨ n = 4 ∨ n = 5 ∨ n = 6 := by omega
    rcases h6 with rfl | rfl | rfl | rfl | rfl <;> decide
  · right
    have h1 : 1 ≤ (Builtin.Int.intBits x : Int) := by
      have : ¬ Builtin.Int.intBits x ≤ 0 := fun q => by
        have := intBits_le_iff.mp q
        simp at this
        exact h0 this
      omega
    generalize (Builtin.Int.intBits x : Int) = B at *
    have h6 : n = 2 ∨ n = 3 ∨ n = 4 ∨ n = 5 ∨ n = 6 := by omega
    rcases h6 with rfl | rfl | rfl | rfl | rfl <;> omega
theorem and_high (x k : Nat) : x &&& (x / 2 ^ k * 2 ^ k) = x / 2 ^ k * 2 ^ k := by
  apply Nat.eq_of_testBit_eq
  intro i
  rw [Nat.testBit_and, Nat.mul_comm (x / 2 ^ k), Nat.testBit_two_pow_mul, Nat.testBit_div_two_pow]
  by_cases hi : k ≤ i
  · have : i - k + k = i := by omega
    simp [hi, this]
  · simp [hi]
theorem xor_low {x : Int} (hx : 0 ≤ x) (k : Nat) : Builtin.bitXor x (x.fdiv (2 ^ k) * 2 ^ k) = x - x.fdiv (2 ^ k) * 2 ^ k := by
  obtain ⟨m, rfl⟩ := Int.eq_ofNat_of_zero_le hx
  have e : (m : Int).fdiv (2 ^ k) * 2 ^ k = ((m / 2 ^ k * 2 ^ k : Nat) : Int) := by
    rw [Int.fdiv_eq_ediv_of_nonneg _ (by exact_mod_cast Nat.zero_le _)]
    push_cast
    rfl
  rw [e, bitXor_and]
  have a : Builtin.bitAnd (m : Int) ((m / 2 ^ k * 2 ^ k : Nat) : Int) = ((m / 2 ^ k * 2 ^ k : Nat) : Int) := by
    have q := and_high m k
    generalize m / 2 ^ k * 2 ^ k = y at q ⊢
    unfold Builtin.bitAnd
    have h1 : decide (0 ≤ (m : Int)) = true := by simp
    have h2 : decide (0 ≤ (y : Int)) = true := by simp
    rw [h1, h2]
    simp only [Int.toNat_natCast]
    rw [q]
  rw [a]
  omega
end
section
open PySem PySem.W PyProof.Rows
set_option maxRecDepth 100000
set_option maxHeartbeats 4000000
theorem storeName_int {M : Model} {A : Around} {E : Value → Shared → Prop} {s : Shared} {env : Env} {y : Str} {v v' : Int} {t : Tok} {Q : Unit → Shared → Prop} (e : v = v') (k : wpAny M A (storeName env y (.int v' t)) Q E s) : wpAny M A (storeName env y (.int v t)) Q E s := by rw [e]; exact k
local macro_rules | `(tactic| walk_at "storeName") => `(tactic| (with_reducible refine storeName_int (shift1 _) ?_))
local macro_rules | `(tactic| walk_at "binaryOp LShift int int") => `(tactic| (k_here; refine' lshift_int_small ?a ?b ?c ?_; (case a | b => omega); (case c => exact fdiv_small (by omega) (by omega))))
theorem binop_int {M : Model} {A : Around} {E : Value → Shared → Prop} {s : Shared} {op : Operator} {l : Value} {v v' : Int} {t : Tok} {Q : Value → Shared → Prop} (e : v = v') (k : wpAny M A (binaryOp op l (.int v' t)) Q E s) : wpAny M A (binaryOp op l (.int v t)) Q E s := by rw [e]; exact k
local macro_rules | `(tactic| walk_at "binaryOp Mult ref int") => `(tactic| (with_reducible refine' binop_int ?h ?_; (case h => assumption)))
theorem ints2 (a b : Int) (t u : Tok) : IntsAre [.int a t, .int b u] [a, b] := .cons a t (.cons b u .nil)
/-- the digits of x to the base 2 ^ n -/
def Digs (x n : Int) (ds : List Int) : Prop := (x = 0 ∧ ds = []) ∨ (x ≠ 0 ∧ ds = [x]) ∨ (x ≠ 0 ∧ ds = [x - x.fdiv (2 ^ n.toNat) * 2 ^ n.toNat, x.fdiv (2 ^ n.toNat)])
def I2Post (x n : Int) (rest cds : List (Addr × Obj)) (news' : List (Addr × Obj)) (r : Value) : Prop :=
  ∃ l vs ds k ps' add, news' = (l, listOf vs.toArray k) :: (30, tabObj ps') :: (add ++ rest) ∧ r = .ref l ∧ TabS 32 4 "_int2digits.<locals>.inner" ps' (add ++ cds) ∧ FreshOver add rest ∧ (∀ p ∈ add, 30 < p.1) ∧ (∀ p ∈ add, l < p.1) ∧ AllLt l rest ∧ 30 < l ∧ IntsAre vs ds ∧ Digs x n ds
theorem FreshOver.sub {add news news' : List (Addr × Obj)} (h : FreshOver add news) (hs : ∀ p ∈ news', p ∈ news) : FreshOver add news' := fun p hp q hq => h p hp q (hs q hq)
theorem i2_end {x n : Int} {rest cds add : List (Addr × Obj)} {h₀ h' : Heap} {L l : Addr} {m : Str → Option Value} {s : Shared} {Q : Value → Shared → Prop} {tk k : Nat} {vs : List Value} {ds : List Int} {ps' : Array Value} {news news1 : List (Addr × Obj)} {o1 o2 : Obj}
    (hret : ∀ r news' h' tk', Fr h₀ L h' m → News h₀ L h' news' → I2Post x n rest cds news' r → Q r { s with heap := h', toks := tk' }) (F : Fr h₀ L h' m) (N : News h₀ L h' news) (ml : (l, listOf vs.toArray k) ∈ news) (mt : (30, tabObj ps') ∈ news) (ma : ∀ p ∈ add ++ rest, p ∈ news)
    (hS : TabS 32 4 "_int2digits.<locals>.inner" ps' (add ++ cds)) (hf : FreshOver add news1) (h1 : (l, o1) ∈ news1) (h2 : (30, o2) ∈ news1) (h3 : ∀ p ∈ rest, p ∈ news1) (hl : AllLt l rest) (h30 : @LT.lt Nat _ 30 l) (i : IntsAre vs ds) (hd : Digs x n ds) : Q (.ref l) { s with heap := h', toks := tk } :=
  hret _ ((l, listOf vs.toArray k) :: (30, tabObj ps') :: (add ++ rest)) _ _ F (fun p hp => by
    rcases List.mem_cons.mp hp with rfl | hp
    · exact N _ ml
    · rcases List.mem_cons.mp hp with rfl | hp
      · exact N _ mt
      · exact N _ (ma p hp)) ⟨l, vs, ds, k, ps', add, rfl, rfl, hS, hf.sub h3, fun p hp => hf p hp _ h2, fun p hp => hf p hp _ h1, hl, h30, i, hd⟩
set_option maxRecDepth 100000 in
set_option maxHeartbeats 4000000 in
theorem i2d (prog : Program) (w : World) (p : Program) (loose : List Str) (mean : ExcName → Option Value) (mg mb : Str → Option Value) (x n : Int) (tx tn : Tok) (hx : 0 ≤ x) (hn : 2 ≤ n) (hn2 : n ≤ 6) (hx2 : x < 4096) (hx3 : x.natAbs < 2 ^ (2 * n.toNat)) (rest cds : List (Addr × Obj)) (ps : Array Value)
   (hO : ∀ p ∈ rest, p.1 ≠ 30) (hS : TabS 32 4 "_int2digits.<locals>.inner" ps cds) (hsub : ∀ p ∈ cds, p ∈ rest) :
   CallS prog w p loose mean mg mb 35 [.int x tx, .int n tn] 5 10 ((30, tabObj ps) :: rest) (I2Post x n rest cds) := by
  unfold CallS
  intro dp un gd cn cs a ccd cl outer A₀ base h₀ L m s Q E B F X N T hk hd hu hret
  have C1 : CodeHd h₀ 34 30 := codeHd_of_K X (by kernel_rfl)
  have hq := dsplit hx hn hn2 hx3
  clear hx3
  refine wpAny_call ?_
  k_dflt k_enter
  rcases hq with ⟨rfl, hq⟩ | ⟨h0, hq⟩ | ⟨h0, hq⟩
  all_goals k_steps
  all_goals (try (exfalso; omega))
  · (refine' i2_end hret ?F ?N ?ml ?mt ?ma ?S ?f ?m1 ?m2 ?m3 ?hl ?h30 ?i ?d; (case F => assumption); (case N => assumption); (case ml => k_mem); (case mt => k_mem); (case S => assumption); (case f => assumption); (case m1 => k_mem); (case m2 => k_mem); (case m3 => (intro p hp; repeat (first | exact hp | apply List.Mem.tail))); (case ma => (intro p hp; repeat (first | exact hp | apply List.Mem.tail))); (case hl => tbn_find); (case h30 => omega); (case i => first | assumption | exact ints2 _ _ _ _); (case d => exact Or.inl ⟨rfl, rfl⟩))
  · (refine' i2_end hret ?F ?N ?ml ?mt ?ma ?S ?f ?m1 ?m2 ?m3 ?hl ?h30 ?i ?d; (case F => assumption); (case N => assumption); (case ml => k_mem); (case mt => k_mem); (case S => assumption); (case f => assumption); (case m1 => k_mem); (case m2 => k_mem); (case m3 => (intro p hp; repeat (first | exact hp | apply List.Mem.tail))); (case ma => (intro p hp; repeat (first | exact hp | apply List.Mem.tail))); (case hl => tbn_find); (case h30 => omega); (case i => first | assumption | exact ints2 _ _ _ _); (case d => exact Or.inr (Or.inl ⟨h0, rfl⟩)))
  · (refine' i2_end hret ?F ?N ?ml ?mt ?ma ?S ?f ?m1 ?m2 ?m3 ?hl ?h30 ?i ?d; (case F => assumption); (case N => assumption); (case ml => k_mem); (case mt => k_mem); (case S => assumption); (case f => assumption); (case m1 => k_mem); (case m2 => k_mem); (case m3 => (intro p hp; repeat (first | exact hp | apply List.Mem.tail))); (case ma => (intro p hp; repeat (first | exact hp | apply List.Mem.tail))); (case hl => tbn_find); (case h30 => omega); (case i => first | assumption | exact ints2 _ _ _ _); (case d => (refine Or.inr (Or.inr ⟨h0, ?_⟩); rw [← xor_low hx])))
end
section
open PySem PySem.W PyProof.Rows
set_option maxRecDepth 100000
set_option maxHeartbeats 4000000
local macro_rules | `(tactic| walk_at "storeName") => `(tactic| (with_reducible refine storeName_int (shift1 _) ?_))
local macro_rules | `(tactic| walk_at "binaryOp LShift int int") => `(tactic| (k_here; refine' lshift_int_small ?a ?b ?c ?_; (case a | b | c => omega)))
def D2Post (l : Addr) (o : Obj) (rest cds : List (Addr × Obj)) (news' : List (Addr × Obj)) (r : Value) : Prop :=
  ∃ q tq qs' add, news' = (37, tabObj qs') :: (l, o) :: (add ++ rest) ∧ r = .int q tq ∧ TabS 47 4 "_digits2int.<locals>.inner" qs' (add ++ cds) ∧ FreshOver add rest ∧ (∀ p ∈ add, 37 < p.1) ∧ (∀ p ∈ add, l < p.1)
theorem d2_end {l : Addr} {o : Obj} {rest cds add : List (Addr × Obj)} {h₀ h' : Heap} {L : Addr} {m : Str → Option Value} {s : Shared} {Q : Value → Shared → Prop} {tk : Nat} {q : Int} {tq : Tok} {qs' : Array Value} {news news1 : List (Addr × Obj)} {o1 o2 : Obj}
    (hret : ∀ r news' h' tk', Fr h₀ L h' m → News h₀ L h' news' → D2Post l o rest cds news' r → Q r { s with heap := h', toks := tk' }) (F : Fr h₀ L h' m) (N : News h₀ L h' news) (mt : (37, tabObj qs') ∈ news) (ml : (l, o) ∈ news) (ma : ∀ p ∈ add ++ rest, p ∈ news)
    (hS : TabS 47 4 "_digits2int.<locals>.inner" qs' (add ++ cds)) (hf : FreshOver add news1) (h1 : (l, o1) ∈ news1) (h2 : (37, o2) ∈ news1) (h3 : ∀ p ∈ rest, p ∈ news1) : Q (.int q tq) { s with heap := h', toks := tk } :=
  hret _ ((37, tabObj qs') :: (l, o) :: (add ++ rest)) _ _ F (fun p hp => by
    rcases List.mem_cons.mp hp with rfl | hp
    · exact N _ mt
    · rcases List.mem_cons.mp hp with rfl | hp
      · exact N _ ml
      · exact N _ (ma p hp)) ⟨q, tq, qs', add, rfl, rfl, hS, hf.sub h3, fun p hp => hf p hp _ h2, fun p hp => hf p hp _ h1⟩
theorem d2i (prog : Program) (w : World) (p : Program) (loose : List Str) (mean : ExcName → Option Value) (mg mb : Str → Option Value) (l : Addr) (k : Nat) (vs : List Value) (n : Int) (tn : Tok) (hn : 2 ≤ n) (hn2 : n ≤ 6) (x y : Int) (tx ty : Tok) (hx : x.natAbs < 1000000) (hy : y.natAbs < 1000000)
   (hv : vs = [] ∨ vs = [.int x tx] ∨ vs = [.int x tx, .int y ty]) (rest cds : List (Addr × Obj)) (qs : Array Value)
   (hO : ∀ p ∈ rest, p.1 ≠ 37) (hl : @Ne Nat l 37) (hS : TabS 47 4 "_digits2int.<locals>.inner" qs cds) (hsub : ∀ p ∈ cds, p ∈ rest) :
   CallS prog w p loose mean mg mb 42 [.ref l, .int n tn] 5 10 ((37, tabObj qs) :: (l, listOf vs.toArray k) :: rest) (D2Post l (listOf vs.toArray k) rest cds) := by
  unfold CallS
  intro dp un gd cn cs a ccd cl outer A₀ base h₀ L m s Q E B F X N T hk hd hu hret
  have C1 : CodeHd h₀ 41 37 := codeHd_of_K X (by kernel_rfl)
  refine wpAny_call ?_
  k_dflt k_enter
  rcases hv with rfl | rfl | rfl
  · k_steps
    (refine' d2_end hret ?F ?N ?mt ?ml ?ma ?S ?f ?m1 ?m2 ?m3; (case F => assumption); (case N => assumption); (case mt => k_mem); (case ml => k_mem); (case S => assumption); (case f => assumption); (case m1 => k_mem); (case m2 => k_mem); (case m3 => (intro p hp; repeat (first | exact hp | apply List.Mem.tail))); (case ma => (intro p hp; repeat (first | exact hp | apply List.Mem.tail))))
  · k_steps
    (refine' d2_end hret ?F ?N ?mt ?ml ?ma ?S ?f ?m1 ?m2 ?m3; (case F => assumption); (case N => assumption); (case mt => k_mem); (case ml => k_mem); (case S => assumption); (case f => assumption); (case m1 => k_mem); (case m2 => k_mem); (case m3 => (intro p hp; repeat (first | exact hp | apply List.Mem.tail))); (case ma => (intro p hp; repeat (first | exact hp | apply List.Mem.tail))))
  · k_steps
    (refine' d2_end hret ?F ?N ?mt ?ml ?ma ?S ?f ?m1 ?m2 ?m3; (case F => assumption); (case N => assumption); (case mt => k_mem); (case ml => k_mem); (case S => assumption); (case f => assumption); (case m1 => k_mem); (case m2 => k_mem); (case m3 => (intro p hp; repeat (first | exact hp | apply List.Mem.tail))); (case ma => (intro p hp; repeat (first | exact hp | apply List.Mem.tail))))
end
section
open PySem PySem.W PyProof.Rows PySem.Calls
structure Tabs (ps qs : Array Value) (cds rest : List (Addr × Obj)) : Prop where
  s30 : TabS 32 4 "_int2digits.<locals>.inner" ps cds
  s37 : TabS 47 4 "_digits2int.<locals>.inner" qs cds
  off : OwnOff rest [30, 37]
  sub : ∀ p ∈ cds, p ∈ rest
def Grown (rest cds rest' cds' : List (Addr × Obj)) : Prop := ∃ add, rest' = add ++ rest ∧ cds' = add ++ cds ∧ FreshOver add rest ∧ ∀ p ∈ add, 37 < p.1
theorem Grown.refl {rest cds : List (Addr × Obj)} : Grown rest cds rest cds := ⟨[], rfl, rfl, (fun p h => by cases h), (fun p h => by cases h)⟩
theorem Grown.trans {r c r' c' r'' c'' : List (Addr × Obj)} (h : Grown r c r' c') (k : Grown r' c' r'' c'') : Grown r c r'' c'' := by
  obtain ⟨a, rfl, rfl, f, g⟩ := h
  obtain ⟨b, rfl, rfl, f', g'⟩ := k
  refine ⟨b ++ a, (List.append_assoc _ _ _).symm, (List.append_assoc _ _ _).symm, fun p hp q hq => ?_, fun p hp => ?_⟩
  · rcases List.mem_append.mp hp with hp | hp
    · exact f' p hp q (List.mem_append.mpr (.inr hq))
    · exact f p hp q hq
  · exact (List.mem_append.mp hp).elim (g' p) (g p)
/-- the digits, as values -/
def DigV (x n : Int) (vs : List Value) : Prop := (x = 0 ∧ vs = []) ∨ (∃ t, vs = [.int x t]) ∨ ∃ lo hi t u, 0 ≤ lo ∧ lo < 64 ∧ 0 ≤ hi ∧ hi < 4096 ∧ lo + hi * 2 ^ n.toNat = x ∧ vs = [.int lo t, .int hi u]
theorem two_pow_le {n : Int} (h : 2 ≤ n) (h2 : n ≤ 6) : (2 : Int) ^ n.toNat = 4 ∨ (2 : Int) ^ n.toNat = 8 ∨ (2 : Int) ^ n.toNat = 16 ∨ (2 : Int) ^ n.toNat = 32 ∨ (2 : Int) ^ n.toNat = 64 := by
  have : n = 2 ∨ n = 3 ∨ n = 4 ∨ n = 5 ∨ n = 6 := by omega
  rcases this with rfl | rfl | rfl | rfl | rfl <;> simp
theorem digV_of {x n : Int} {vs : List Value} {ds : List Int} (hx : 0 ≤ x) (hx2 : x < 4096) (hn : 2 ≤ n) (hn2 : n ≤ 6) (h : Digs x n ds) (i : IntsAre vs ds) : DigV x n vs := by
  rcases h with ⟨h, rfl⟩ | ⟨h, rfl⟩ | ⟨h, rfl⟩
  · cases i; exact .inl ⟨h, rfl⟩
  · cases i with | cons a t i => cases i; exact .inr (.inl ⟨_, rfl⟩)
  · cases i with
    | cons a t i => cases i with
      | cons b u i =>
        cases i
        refine .inr (.inr ⟨_, _, _, _, ?_, ?_, ?_, ?_, ?_, rfl⟩)
        all_goals (rw [Int.fdiv_eq_ediv_of_nonneg _ (Int.pow_nonneg (by decide))])
        all_goals (rcases two_pow_le hn hn2 with e | e | e | e | e <;> rw [e] <;> omega)
def DigOk (vs : List Value) : Prop := ∃ (x y : Int) (tx ty : Tok), x.natAbs < 1000000 ∧ y.natAbs < 1000000 ∧ (vs = [] ∨ vs = [.int x tx] ∨ vs = [.int x tx, .int y ty])
theorem dig0 : DigOk [] := ⟨0, 0, 0, 0, by decide, by decide, .inl rfl⟩
theorem dig1 {x : Int} {t : Tok} (h : x.natAbs < 1000000) : DigOk [.int x t] := ⟨x, 0, t, 0, h, by decide, .inr (.inl rfl)⟩
theorem dig2 {x y : Int} {t u : Tok} (h : x.natAbs < 1000000) (h' : y.natAbs < 1000000) : DigOk [.int x t, .int y u] := ⟨x, y, t, u, h, h', .inr (.inr rfl)⟩
section
variable {prog : Program} {w : World} {p : Program} {loose : List Str} {mean : ExcName → Option Value} {mg mb : Str → Option Value} {dp un : Nat} {gd : Option (List Code)} {cn : Str} {cs : Scope} {a : Addr} {ccd : Value} {cl : List (Str × Addr)} {outer : List Env} {A₀ : Around} {base h₀ : Heap} {L : Addr} {m : Str → Option Value} {s : Shared}
    {Q E : Value → Shared → Prop} {rest cds : List (Addr × Obj)} {ps qs : Array Value}
theorem i2_use {x n : Int} {tx tn : Tok} (B : Below A₀ base outer h₀) (F : Fr h₀ L s.heap m) (X : (hd.heap_39 w.params).In h₀) (N : News h₀ L s.heap ((30, tabObj ps) :: (37, tabObj qs) :: rest)) (T : Top p loose mean mg mb h₀) (hk : cs.kind = .function) (hd : dp + 5 < recursionLimit) (hu : un + 10 < cLine)
    (hT : Tabs ps qs cds rest) (hx : 0 ≤ x) (hx2 : x < 4096) (hn : 2 ≤ n) (hn2 : n ≤ 6) (hx3 : x.natAbs < 2 ^ (2 * n.toNat))
    (ret : ∀ l vs k ps' rest' cds' h' tk', Fr h₀ L h' m → News h₀ L h' ((l, listOf vs.toArray k) :: (30, tabObj ps') :: (37, tabObj qs) :: rest') → Tabs ps' qs cds' rest' → Grown rest cds rest' cds' → OwnOff rest' [l] → AllLt l rest → @LT.lt Nat _ 37 l → DigV x n vs → Q (.ref l) { s with heap := h', toks := tk' }) :
    wpAny (model prog w) (ktrTop dp un gd cn cs L a ccd cl outer) (call (.ref 35) [.int x tx, .int n tn]) Q E s := by
  refine i2d prog w p loose mean mg mb x n tx tn hx hn hn2 hx2 hx3 ((37, tabObj qs) :: rest) cds ps ?_ hT.s30 (fun p hp => .tail _ (hT.sub p hp)) dp un gd cn cs a ccd cl outer A₀ base h₀ L m s Q E B F X N T hk hd hu ?_
  · intro p hp
    rcases List.mem_cons.mp hp with rfl | hp
    · exact (by decide : (37 : Nat) ≠ 30)
    · exact hT.off p hp 30 (.head _)
  · rintro r news' h' tk' F' N' ⟨l, vs, ds, k, ps', add, rfl, rfl, hS, hf, ha, hal, hl, h30, hi, hD⟩
    refine ret l vs k ps' (add ++ rest) (add ++ cds) h' tk' F' (fun p hp => ?_) ⟨hS, hT.s37.mono fun p hp => List.mem_append.mpr (.inr hp), ?_, ?_⟩ ⟨add, rfl, rfl, hf.sub fun p hp => .tail _ hp, fun p hp => hf p hp _ (.head _)⟩ ?_ hl.2 hl.1 (digV_of hx hx2 hn hn2 hD hi)
    · rcases List.mem_cons.mp hp with rfl | hp
      · exact N' _ (.head _)
      · rcases List.mem_cons.mp hp with rfl | hp
        · exact N' _ (.tail _ (.head _))
        · rcases List.mem_cons.mp hp with rfl | hp
          · exact N' _ (.tail _ (.tail _ (List.mem_append.mpr (.inr (.head _)))))
          · rcases List.mem_append.mp hp with hp | hp
            · exact N' _ (.tail _ (.tail _ (List.mem_append.mpr (.inl hp))))
            · exact N' _ (.tail _ (.tail _ (List.mem_append.mpr (.inr (.tail _ hp)))))
    · intro p hp b hb
      rcases List.mem_append.mp hp with hp | hp
      · rcases List.mem_cons.mp hb with rfl | hb
        · exact Nat.ne_of_gt (ha p hp)
        · rw [List.mem_singleton.mp hb]; exact Nat.ne_of_gt (hf p hp _ (.head _))
      · exact hT.off p hp b hb
    · intro p hp
      rcases List.mem_append.mp hp with hp | hp
      · exact List.mem_append.mpr (.inl hp)
      · exact List.mem_append.mpr (.inr (hT.sub p hp))
    · intro p hp b hb
      rw [List.mem_singleton.mp hb]
      rcases List.mem_append.mp hp with hp | hp
      · exact Nat.ne_of_gt (hal p hp)
      · exact Nat.ne_of_lt (tb_ltOf hl.2 p hp)
def I2Ret (h₀ : Heap) (L : Addr) (m : Str → Option Value) (s : Shared) (Q : Value → Shared → Prop) (rest cds : List (Addr × Obj)) (qs : Array Value) (vs : List Value) : Prop :=
  ∀ l k ps' rest' cds' h' tk', Fr h₀ L h' m → News h₀ L h' ((l, listOf vs.toArray k) :: (30, tabObj ps') :: (37, tabObj qs) :: rest') → Tabs ps' qs cds' rest' → Grown rest cds rest' cds' → OwnOff rest' [30, 37] → OwnOff rest' [l] → AllLt l rest → @LT.lt Nat _ 37 l → Q (.ref l) { s with heap := h', toks := tk' }
theorem i2_use3 {x n : Int} {tx tn : Tok} (B : Below A₀ base outer h₀) (F : Fr h₀ L s.heap m) (X : (hd.heap_39 w.params).In h₀) (N : News h₀ L s.heap ((30, tabObj ps) :: (37, tabObj qs) :: rest)) (T : Top p loose mean mg mb h₀) (hk : cs.kind = .function) (hd : dp + 5 < recursionLimit) (hu : un + 10 < cLine)
    (hT : Tabs ps qs cds rest) (hx : 0 ≤ x) (hx2 : x < 4096) (hn : 2 ≤ n) (hn2 : n ≤ 6) (hx3 : x.natAbs < 2 ^ (2 * n.toNat))
    (ret0 : x = 0 → I2Ret h₀ L m s Q rest cds qs []) (ret1 : ∀ t, I2Ret h₀ L m s Q rest cds qs [.int x t]) (ret2 : ∀ lo hi t u, 0 ≤ lo → lo < 64 → 0 ≤ hi → hi < 4096 → lo + hi * 2 ^ n.toNat = x → I2Ret h₀ L m s Q rest cds qs [.int lo t, .int hi u]) :
    wpAny (model prog w) (ktrTop dp un gd cn cs L a ccd cl outer) (call (.ref 35) [.int x tx, .int n tn]) Q E s := by
  refine i2_use B F X N T hk hd hu hT hx hx2 hn hn2 hx3 fun l vs k ps' rest' cds' h' tk' F' N' Tb' Gr' o1' l1 l2 dv' => ?_
  rcases dv' with ⟨e, rfl⟩ | ⟨t9, rfl⟩ | ⟨lo, hi, t9, u9, g1, g2, g3, g4, g5, rfl⟩
  · exact ret0 e l k ps' rest' cds' h' tk' F' N' Tb' Gr' Tb'.off o1' l1 l2
  · exact ret1 t9 l k ps' rest' cds' h' tk' F' N' Tb' Gr' Tb'.off o1' l1 l2
  · exact ret2 lo hi t9 u9 g1 g2 g3 g4 g5 l k ps' rest' cds' h' tk' F' N' Tb' Gr' Tb'.off o1' l1 l2
theorem d2_use {l : Addr} {k : Nat} {vs : List Value} {n : Int} {tn : Tok} {x y : Int} {tx ty : Tok} (B : Below A₀ base outer h₀) (F : Fr h₀ L s.heap m) (X : (hd.heap_39 w.params).In h₀) (N : News h₀ L s.heap ((l, listOf vs.toArray k) :: (30, tabObj ps) :: (37, tabObj qs) :: rest)) (T : Top p loose mean mg mb h₀) (hk : cs.kind = .function) (hd : dp + 5 < recursionLimit) (hu : un + 10 < cLine)
    (hT : Tabs ps qs cds rest) (hn : 2 ≤ n) (hn2 : n ≤ 6) (hx : x.natAbs < 1000000) (hy : y.natAbs < 1000000) (hv : vs = [] ∨ vs = [.int x tx] ∨ vs = [.int x tx, .int y ty]) (hl : @LT.lt Nat _ 37 l)
    (ret : ∀ q tq qs' rest' cds' h' tk', Fr h₀ L h' m → News h₀ L h' ((30, tabObj ps) :: (37, tabObj qs') :: rest') → Tabs ps qs' cds' rest' → Grown rest cds rest' cds' → Q (.int q tq) { s with heap := h', toks := tk' }) :
    wpAny (model prog w) (ktrTop dp un gd cn cs L a ccd cl outer) (call (.ref 42) [.ref l, .int n tn]) Q E s := by
  refine d2i prog w p loose mean mg mb l k vs n tn hn hn2 x y tx ty hx hy hv ((30, tabObj ps) :: rest) cds qs ?_ (Nat.ne_of_gt hl) hT.s37 (fun p hp => .tail _ (hT.sub p hp)) dp un gd cn cs a ccd cl outer A₀ base h₀ L m s Q E B F X (fun p hp => ?_) T hk hd hu ?_
  · intro p hp
    rcases List.mem_cons.mp hp with rfl | hp
    · exact (by decide : (30 : Nat) ≠ 37)
    · exact hT.off p hp 37 (.tail _ (.head _))
  · rcases List.mem_cons.mp hp with rfl | hp
    · exact N _ (.tail _ (.tail _ (.head _)))
    · rcases List.mem_cons.mp hp with rfl | hp
      · exact N _ (.head _)
      · rcases List.mem_cons.mp hp with rfl | hp
        · exact N _ (.tail _ (.head _))
        · exact N _ (.tail _ (.tail _ (.tail _ hp)))
  · rintro r news' h' tk' F' N' ⟨q, tq, qs', add, rfl, rfl, hS, hf, ha, hal⟩
    refine ret q tq qs' (add ++ rest) (add ++ cds) h' tk' F' (fun p hp => ?_) ⟨hT.s30.mono fun p hp => List.mem_append.mpr (.inr hp), hS, ?_, ?_⟩ ⟨add, rfl, rfl, hf.sub fun p hp => .tail _ hp, ha⟩
    · rcases List.mem_cons.mp hp with rfl | hp
      · exact N' _ (.tail _ (.tail _ (List.mem_append.mpr (.inr (.head _)))))
      · rcases List.mem_cons.mp hp with rfl | hp
        · exact N' _ (.head _)
        · rcases List.mem_append.mp hp with hp | hp
          · exact N' _ (.tail _ (.tail _ (List.mem_append.mpr (.inl hp))))
          · exact N' _ (.tail _ (.tail _ (List.mem_append.mpr (.inr (.tail _ hp)))))
    · intro p hp b hb
      rcases List.mem_append.mp hp with hp | hp
      · rcases List.mem_cons.mp hb with rfl | hb
        · exact Nat.ne_of_gt (hf p hp _ (.head _))
        · rw [List.mem_singleton.mp hb]; exact Nat.ne_of_gt (ha p hp)
      · exact hT.off p hp b hb
    · intro p hp
      rcases List.mem_append.mp hp with hp | hp
      · exact List.mem_append.mpr (.inl hp)
      · exact List.mem_append.mpr (.inr (hT.sub p hp))
theorem d2_useG {l : Addr} {k : Nat} {vs : List Value} {n : Int} {tn : Tok} {x y : Int} {tx ty : Tok} {all : List (Addr × Obj)} (B : Below A₀ base outer h₀) (F : Fr h₀ L s.heap m) (X : (hd.heap_39 w.params).In h₀) (T : Top p loose mean mg mb h₀) (hk : cs.kind = .function) (hd : dp + 5 < recursionLimit) (hu : un + 10 < cLine)
    (hT : Tabs ps qs cds rest) (N : News h₀ L s.heap all) (ml : (l, listOf vs.toArray k) ∈ all) (m30 : (30, tabObj ps) ∈ all) (m37 : (37, tabObj qs) ∈ all) (mr : ∀ p ∈ rest, p ∈ all) (hn : 2 ≤ n) (hn2 : n ≤ 6) (hx : x.natAbs < 1000000) (hy : y.natAbs < 1000000) (hv : vs = [] ∨ vs = [.int x tx] ∨ vs = [.int x tx, .int y ty]) (hl : @LT.lt Nat _ 37 l)
    (ret : ∀ q tq qs' rest' cds' h' tk', Fr h₀ L h' m → News h₀ L h' ((30, tabObj ps) :: (37, tabObj qs') :: rest') → Tabs ps qs' cds' rest' → Grown rest cds rest' cds' → Q (.int q tq) { s with heap := h', toks := tk' }) :
    wpAny (model prog w) (ktrTop dp un gd cn cs L a ccd cl outer) (call (.ref 42) [.ref l, .int n tn]) Q E s := by
  refine d2_use (k := k) B F X (fun p hp => ?_) T hk hd hu hT hn hn2 hx hy hv hl ret
  rcases List.mem_cons.mp hp with rfl | hp
  · exact N _ ml
  · rcases List.mem_cons.mp hp with rfl | hp
    · exact N _ m30
    · rcases List.mem_cons.mp hp with rfl | hp
      · exact N _ m37
      · exact N _ (mr p hp)
theorem d2_useD {l : Addr} {k : Nat} {vs : List Value} {n : Int} {tn : Tok} {all : List (Addr × Obj)} (B : Below A₀ base outer h₀) (F : Fr h₀ L s.heap m) (X : (hd.heap_39 w.params).In h₀) (T : Top p loose mean mg mb h₀) (hk : cs.kind = .function) (hd : dp + 5 < recursionLimit) (hu : un + 10 < cLine)
    (hT : Tabs ps qs cds rest) (N : News h₀ L s.heap all) (ml : (l, listOf vs.toArray k) ∈ all) (m30 : (30, tabObj ps) ∈ all) (m37 : (37, tabObj qs) ∈ all) (mr : ∀ p ∈ rest, p ∈ all) (hn : 2 ≤ n) (hn2 : n ≤ 6) (hv : DigOk vs) (hl : @LT.lt Nat _ 37 l)
    (ret : ∀ q tq qs' rest' cds' h' tk', Fr h₀ L h' m → News h₀ L h' ((30, tabObj ps) :: (37, tabObj qs') :: rest') → Tabs ps qs' cds' rest' → Grown rest cds rest' cds' → Q (.int q tq) { s with heap := h', toks := tk' }) :
    wpAny (model prog w) (ktrTop dp un gd cn cs L a ccd cl outer) (call (.ref 42) [.ref l, .int n tn]) Q E s := by
  obtain ⟨x, y, tx, ty, hx, hy, hv⟩ := hv
  exact d2_useG B F X T hk hd hu hT N ml m30 m37 mr hn hn2 hx hy hv hl ret
end
/-- words that keep what is known of a letter -/
def IsBits (a B : Int) : Prop := B = (Builtin.Int.intBits a : Int)
def RestIs (a b r : Int) : Prop := r = a.fmod b
def ShlIs (r n z : Int) : Prop := z = r * 2 ^ n.toNat
theorem isBits_sq {a b n : Int} (h : IsBits b n) (hb : 2 ≤ b) (ha : 0 ≤ a) (hab : a < b * b) : a.natAbs < 2 ^ (2 * n.toNat) := by
  unfold IsBits at h
  subst h
  have h1 : b.natAbs < 2 ^ Builtin.Int.intBits b := intBits_le_iff.mp (Nat.le_refl _)
  rw [Int.toNat_natCast, Nat.two_mul, Nat.pow_add]
  have h2 : a.natAbs < b.natAbs * b.natAbs := by
    obtain ⟨i, rfl⟩ := Int.eq_ofNat_of_zero_le ha
    obtain ⟨j, rfl⟩ := Int.eq_ofNat_of_zero_le (show 0 ≤ b by omega)
    simp only [Int.natAbs_natCast]
    exact_mod_cast hab
  exact Nat.lt_of_lt_of_le h2 (Nat.mul_le_mul (Nat.le_of_lt h1) (Nat.le_of_lt h1))
section
variable {prog : Program} {w : World} {A : Around} {E : Value → Shared → Prop} {s : Shared} {h₀ : Heap} {L : Addr} {m : Str → Option Value} {news : List (Addr × Obj)}
theorem bits_R {a : Int} {t : Tok} {Q : Value → Shared → Prop} (ha : a.natAbs < 2 ^ 64) (h : ∀ B : Int, IsBits a B → 0 ≤ B → B ≤ 64 → (¬ (2 ≤ a ∧ a ≤ 52) ∨ (2 ≤ B ∧ B ≤ 6)) → Q (.int B s.toks) { s with toks := s.toks + 1 }) :
    wpAny (model prog w) A (call (.builtin "int.bit_length") [.int a t]) Q E s := by
  refine call_int_bit_length (h _ rfl (by omega) ?_ ?_)
  · have := intBits_le_iff.mpr ha; omega
  · by_cases q : 2 ≤ a ∧ a ≤ 52
    · right
      have h1 : ¬ Builtin.Int.intBits a ≤ 1 := fun e => by have := intBits_le_iff.mp e; omega
      have h2 : Builtin.Int.intBits a ≤ 6 := intBits_le_iff.mpr (by omega)
      omega
    · exact .inl q
theorem shl_R {r n : Int} {t u : Tok} {Q : Value → Shared → Prop} (hr : 0 ≤ r) (hr2 : r < 64) (hn : 2 ≤ n) (hn2 : n ≤ 6) (h : ∀ z : Int, ShlIs r n z → 0 ≤ z → z < 4096 → Q (.int z s.toks) { s with toks := s.toks + 1 }) :
    wpAny (model prog w) A (binaryOp .LShift (.int r t) (.int n u)) Q E s := by
  refine lshift_int_small (by omega) (by omega) (by omega) (h _ rfl ?_ ?_)
  all_goals (rcases two_pow_le hn hn2 with e | e | e | e | e <;> rw [e] <;> omega)
theorem divmod_R {a b : Int} {t u : Tok} {Q : Value → Shared → Prop} (F : Fr h₀ L s.heap m) (N : News h₀ L s.heap news) (hb : 0 < b) (hb2 : b < 1000) (ha : 0 ≤ a) (ha2 : a < 10000)
    (h : ∀ d h' q r, Fr h₀ L h' m → News h₀ L h' ((d, { cls := .type "tuple", data := .seq #[.int q s.toks, .int r (s.toks + 1)] }) :: news) → (∀ p ∈ news, p.1 < d) → 0 ≤ r → r < b → 0 ≤ q → q ≤ a → RestIs a b r → Q (.ref d) { s with toks := s.toks + 1 + 1, heap := h' }) :
    wpAny (model prog w) A (call (.builtin "divmod") [.int a t, .int b u]) Q E s := by
  refine divmod_N F N (by omega) (fun h' F' N' => h _ h' _ _ F' N' (fun p hp => Heap.lt_size (N p hp).1) ?_ ?_ ?_ ?_ rfl) (Or.inl (PyProof.noPylong_small (by omega)))
  · rw [Int.fmod_eq_emod_of_nonneg _ (by omega)]; exact Int.emod_nonneg _ (by omega)
  · rw [Int.fmod_eq_emod_of_nonneg _ (by omega)]; exact Int.emod_lt_of_pos _ hb
  · rw [Int.fdiv_eq_ediv_of_nonneg _ (by omega)]; exact Int.ediv_nonneg ha (by omega)
  · rw [Int.fdiv_eq_ediv_of_nonneg _ (by omega)]; exact Int.ediv_le_self _ ha
end
theorem rest_two {a b n lo hi r1 r2 z1 z2 : Int} (hb : 0 < b) (h0 : ShlIs 0 n z1) (h1 : RestIs (z1 + hi) b r1) (h2 : ShlIs r1 n z2) (h3 : RestIs (z2 + lo) b r2) (hx : lo + hi * 2 ^ n.toNat = a) : r2 = a % b := by
  unfold ShlIs at h0 h2
  unfold RestIs at h1 h3
  rw [Int.fmod_eq_emod_of_nonneg _ (by omega)] at h1 h3
  rw [Int.zero_mul] at h0
  subst h0 h1 h2 h3 hx
  rw [Int.zero_add, Int.add_comm lo, Int.add_emod, Int.mul_emod, Int.emod_emod_of_dvd _ (Int.dvd_refl b), ← Int.mul_emod, ← Int.add_emod]
theorem rest_one {a b n r1 z1 : Int} (hb : 0 < b) (h0 : ShlIs 0 n z1) (h1 : RestIs (z1 + a) b r1) : r1 = a % b := by
  unfold ShlIs at h0
  unfold RestIs at h1
  rw [Int.fmod_eq_emod_of_nonneg _ (by omega)] at h1
  rw [Int.zero_mul] at h0
  subst h0 h1
  rw [Int.zero_add]
/-- the ledger less the iterator -/
inductive Drop (I : Addr) (it : Obj) : List (Addr × Obj) → List (Addr × Obj) → Prop
  | head {r : List (Addr × Obj)} : (∀ p ∈ r, p.1 ≠ I) → Drop I it ((I, it) :: r) r
  | tail {p : Addr × Obj} {r r' : List (Addr × Obj)} : p.1 ≠ I → Drop I it r r' → Drop I it (p :: r) (p :: r')
theorem Drop.facts {I : Addr} {it : Obj} {l l' : List (Addr × Obj)} (h : Drop I it l l') : (I, it) ∈ l ∧ (∀ p ∈ l', p ∈ l) ∧ ∀ p ∈ l', p.1 ≠ I := by
  induction h with
  | head hne => exact ⟨.head _, fun p hp => .tail _ hp, hne⟩
  | tail hne _ ih =>
    refine ⟨.tail _ ih.1, fun p hp => ?_, fun p hp => ?_⟩
    · rcases List.mem_cons.mp hp with rfl | hp
      · exact .head _
      · exact .tail _ (ih.2.1 p hp)
    · rcases List.mem_cons.mp hp with rfl | hp
      · exact hne
      · exact ih.2.2 p hp
theorem unrEnd_drop {h₀ : Heap} {L I : Addr} {it : Obj} {rest : (Str → Option Value) → List (Addr × Obj) → Prop} {s₁ : Shared} {h' : Heap} {tk : Nat} {m' : Str → Option Value} {all news' : List (Addr × Obj)} (F : Fr h₀ L h' m') (N : News h₀ L h' all)
    (d : Drop I it all news') (r : rest m' news') : UnrEnd h₀ L s₁ I it rest { s₁ with heap := h', toks := tk } :=
  UnrEnd.intro F N news' (fun p hp => by
    rcases List.mem_cons.mp hp with rfl | hp
    · exact d.facts.1
    · exact d.facts.2.1 p hp) d.facts.2.2 r
theorem offI_of {I : Addr} {it : Obj} : ∀ {l : List (Addr × Obj)}, (∀ p ∈ l, p.1 ≠ I) → OffI I it l := by
  intro l
  induction l with
  | nil => intro _; trivial
  | cons p r ih => intro h; exact ⟨.inl (h p (.head _)), ih fun q hq => h q (.tail _ hq)⟩
end
section
open PySem PySem.W PyProof.Rows
set_option maxRecDepth 100000
set_option maxHeartbeats 4000000
local macro_rules | `(tactic| walk_at "call builtin:int.bit_length") => `(tactic| (k_here; refine' bits_R ?a ?_; (case a => omega); intro B' hB' b1' b2' b3'; (first | (replace b3' := Or.resolve_left b3' (not_not_intro ⟨by assumption, by assumption⟩)) | clear b3'); (try dsimp only)))
local macro_rules | `(tactic| walk_at "binaryOp LShift int int") => `(tactic| (k_here; refine' shl_R ?a ?b ?c ?d ?_; (case a | b | c | d => omega); intro z' hz' z1' z2'; (try dsimp only)))
local macro_rules | `(tactic| walk_at "call builtin:list.append") => `(tactic| (k_here; k_dflt (refine' append_K ?ap1 ?ap2 ?ap3 ?_ ?apz; (case ap1 | ap2 => k_asm); (case ap3 => k_upd); (case apz => size_fits); k_whole); intro h' F' N'; (try k_sweep)))
local macro_rules | `(tactic| walk_at "call builtin:divmod") => `(tactic| (k_here; k_dflt (refine' divmod_R ?F ?N ?a ?b ?c ?d ?_; (case F | N => k_asm); (case a | b | c | d => omega); k_whole); intro t' h' q' r' F' N' l1 r1' r2' q1' q2' hr'; (try k_lt l1); (try dsimp only); (try k_sweep)))
local macro_rules | `(tactic| walk_at "call ref") => `(tactic| (k_here; (with_reducible show wpAny _ _ (call (Value.ref 35) _) _ _ _); k_dflt (refine' i2_use3 ?B ?F ?X ?N ?T ?k ?d ?u ?Tb ?x ?x2 ?n ?n2 ?x3 ?_ ?_ ?_; (case B | F | X | N | T => k_asm); (case k => exact rfl); (case d => ktr_room); (case u => ktr_units); (case Tb => assumption); (case x | x2 | n | n2 => omega); (case x3 => exact isBits_sq (by assumption) (by omega) (by omega) (by assumption)); (all_goals k_whole)); (all_goals (unfold I2Ret; intros; (try dsimp only)))))
local macro_rules | `(tactic| walk_at "call ref") => `(tactic| (k_here; (with_reducible show wpAny _ _ (call (Value.ref 42) _) _ _ _); k_dflt (refine' d2_useD ?B ?F ?X ?T ?k ?d ?u ?Tb ?N ?ml ?m30 ?m37 ?mr ?n ?n2 ?v ?hl ?_; (case B | F | X | T => k_asm); (case k => exact rfl); (case d => ktr_room); (case u => ktr_units); (case Tb => assumption); (case N => k_asm); (case ml | m30 | m37 => k_mem); (case mr => (intro p hp; repeat (first | exact hp | apply List.Mem.tail))); (case v => first | exact dig0 | exact dig1 (by omega) | exact dig2 (by omega) (by omega)); (case n | n2 | hl => omega); k_whole); intro q' tq' qs' rest' cds' h' tk' F' N' Tb' Gr'; have O1 := Tabs.off Tb'; (try dsimp only)))
local macro_rules | `(tactic| k_updF) => `(tactic| first | (refine' Drop.head ?a; (case a => k_all)) | (refine' Drop.tail ?a ?b; (case a => k_ne); (case b => k_updF)))
local macro_rules | `(tactic| walk_at "UnrEnd") => `(tactic| (k_here; k_dflt (refine' unrEnd_drop ?F ?N ?D ?_; (case F | N => k_asm); (case D => k_updF); k_whole); refine ⟨by k_mem, ?_⟩))
local macro_rules | `(tactic| walk_at "pyIter ref") => `(tactic| (k_here; (with_reducible show wpAny _ _ (pyIter (Value.ref _)) (fun it s₂ => LoopAtV _ _ _ _ _ _ _ _ _ it s₂) _ _); (rename Fr _ _ _ _ => lF'); (rename News _ _ _ _ => lN'); (with_unfolding_all refine' iter_revUnr ?a lF' lN' ?b ?c ?d ?e ?_; (case a => exact rfl); (case b => exact offI_of (by k_all)); (case c => k_mem); (case d | e => exact rfl)); (clear lF' lN')))
def tupObj (vs : List Value) : Obj := { cls := .type "tuple", data := .seq vs.toArray }
def DmPost (a b : Int) (rest cds : List (Addr × Obj)) (news' : List (Addr × Obj)) (r : Value) : Prop :=
  ∃ ps' qs' rest' cds' t q tq tr, news' = (t, tupObj [.int q tq, .int (a % b) tr]) :: (30, tabObj ps') :: (37, tabObj qs') :: rest' ∧ r = .ref t ∧ Tabs ps' qs' cds' rest' ∧ Grown rest cds rest' cds' ∧ OwnOff rest' [t] ∧ AllLt t rest ∧ @LT.lt Nat _ 37 t
theorem Grown.mem {r c r' c' : List (Addr × Obj)} (g : Grown r c r' c') : ∀ p ∈ r, p ∈ r' := by
  obtain ⟨add, rfl, _⟩ := g
  exact fun p hp => List.mem_append.mpr (.inr hp)
theorem allLt_sub {d : Nat} {r r' : List (Addr × Obj)} (h : AllLt d r') (hs : ∀ p ∈ r, p ∈ r') : AllLt d r := allLt_of fun p hp => tb_ltOf h p (hs p hp)
theorem dm_end {x b : Int} {rest cds rest1 cds1 rest' cds' : List (Addr × Obj)} {h₀ h' : Heap} {L t : Addr} {m : Str → Option Value} {s : Shared} {Q : Value → Shared → Prop} {tk : Nat} {q r : Int} {tq tr : Tok} {ps' qs' : Array Value}
    (hret : ∀ r news' h' tk', Fr h₀ L h' m → News h₀ L h' news' → DmPost x b rest cds news' r → Q r { s with heap := h', toks := tk' }) (F : Fr h₀ L h' m) (hT : Tabs ps' qs' cds' rest') (g2 : Grown rest1 cds1 rest' cds') (g1 : Grown rest cds rest1 cds1)
    (hl : AllLt t rest') (h37 : @LT.lt Nat _ 37 t) (N : News h₀ L h' ((t, tupObj [.int q tq, .int r tr]) :: (30, tabObj ps') :: (37, tabObj qs') :: rest')) (hr : r = x % b) : Q (.ref t) { s with heap := h', toks := tk } := by
  subst hr
  refine hret _ _ _ _ F N ⟨ps', qs', rest', cds', t, q, tq, tr, rfl, rfl, hT, g1.trans g2, fun p hp c hc => ?_, allLt_sub hl (g1.trans g2).mem, h37⟩
  rw [List.mem_singleton.mp hc]
  exact Nat.ne_of_lt (tb_ltOf hl p hp)
theorem dmp (prog : Program) (w : World) (p : Program) (loose : List Str) (mean : ExcName → Option Value) (mg mb : Str → Option Value) (x b : Int) (tx tb : Tok) (hx : 0 ≤ x) (hb : 2 ≤ b) (hb2 : b ≤ 52) (hx2 : x < 2704) (hxb : x < b * b) (rest cds : List (Addr × Obj)) (ps qs : Array Value)
   (hT : Tabs ps qs cds rest) :
   CallS prog w p loose mean mg mb 49 [.int x tx, .int b tb] 8 20 ((30, tabObj ps) :: (37, tabObj qs) :: rest) (DmPost x b rest cds) := by
  unfold CallS
  intro dp un gd cn cs a ccd cl outer A₀ base h₀ L m s Q E B F X N T hk hd hu hret
  have O0 := hT.off
  refine wpAny_call ?_
  k_dflt k_enter
  k_steps
  · (refine' dm_end hret ?F ?T ?g2 ?g1 ?l ?h ?N ?r; (case F => assumption); (case T => assumption); (case g2 => assumption); (case g1 => assumption); (case l => tbn_find); (case h => omega); (case N => assumption); (case r => (rw [show x = 0 by assumption, Int.zero_emod])))
  · (refine' dm_end hret ?F ?T ?g2 ?g1 ?l ?h ?N ?r; (case F => assumption); (case T => assumption); (case g2 => assumption); (case g1 => assumption); (case l => tbn_find); (case h => omega); (case N => assumption); (case r => exact rest_one (by omega) (by assumption) (by assumption)))
  · (refine' dm_end hret ?F ?T ?g2 ?g1 ?l ?h ?N ?r; (case F => assumption); (case T => assumption); (case g2 => assumption); (case g1 => assumption); (case l => tbn_find); (case h => omega); (case N => assumption); (case r => exact rest_two (by omega) (by assumption) (by assumption) (by assumption) (by assumption) (by assumption)))
end
section
open PySem PySem.W PyProof.Rows PySem.Calls
def ModIs (x b r : Int) : Prop := r = x % b
theorem invert_R {prog : Program} {w : World} {A : Around} {E : Value → Shared → Prop} {s : Shared} {a : Int} {t : Tok} {Q : Value → Shared → Prop} (h : Q (.int (-a - 1) s.toks) { s with toks := s.toks + 1 }) : wpAny (model prog w) A (unaryOp .Invert (.int a t)) Q E s := invert_int h
theorem modIs_neg {x b r : Int} (hb : 0 < b) (h : ModIs (-x - 1) b r) : ModIs x b (b + (-r - 1)) := by
  unfold ModIs at h ⊢
  have e : x = b * (-((-x - 1) / b) - 1) + (b + (-r - 1)) := by
    have := Int.mul_ediv_add_emod (-x - 1) b
    rw [Int.mul_sub, Int.mul_neg, Int.mul_one]
    omega
  have h0 := Int.emod_nonneg (-x - 1) (show b ≠ 0 by omega)
  have h1 := Int.emod_lt_of_pos (-x - 1) hb
  rw [← h] at h0 h1
  have k : ∀ K R : Int, (b * K + R) % b = R % b := fun K R => by rw [Int.add_comm, Int.add_mul_emod_self_left]
  rw [e, k, Int.emod_eq_of_lt (by omega) (by omega)]
section
variable {prog : Program} {w : World} {p : Program} {loose : List Str} {mean : ExcName → Option Value} {mg mb : Str → Option Value} {dp un : Nat} {gd : Option (List Code)} {cn : Str} {cs : Scope} {a : Addr} {ccd : Value} {cl : List (Str × Addr)} {outer : List Env} {A₀ : Around} {base h₀ : Heap} {L : Addr} {m : Str → Option Value} {s : Shared}
    {Q E : Value → Shared → Prop} {rest cds : List (Addr × Obj)} {ps qs : Array Value}
def DmRet (h₀ : Heap) (L : Addr) (m : Str → Option Value) (s : Shared) (Q : Value → Shared → Prop) (rest cds : List (Addr × Obj)) (x b : Int) : Prop :=
  ∀ ps' qs' rest' cds' t q tq r tr h' tk', Fr h₀ L h' m → News h₀ L h' ((t, ({ cls := .type "tuple", data := .seq [.int q tq, .int r tr].toArray } : Obj)) :: (30, tabObj ps') :: (37, tabObj qs') :: rest') → Tabs ps' qs' cds' rest' → Grown rest cds rest' cds' → OwnOff rest' [30, 37] → OwnOff rest' [t] → AllLt t rest → @LT.lt Nat _ 37 t → ModIs x b r → 0 ≤ r → r < b → Q (.ref t) { s with heap := h', toks := tk' }
theorem dmRet_of {x b : Int} (hb : 0 < b) (ret : DmRet h₀ L m s Q rest cds x b) (r : Value) (news' : List (Addr × Obj)) (h' : Heap) (tk' : Nat) (F' : Fr h₀ L h' m) (N' : News h₀ L h' news') (P : DmPost x b rest cds news' r) : Q r { s with heap := h', toks := tk' } := by
  obtain ⟨ps', qs', rest', cds', t, q, tq, tr, rfl, rfl, hT, hg, ho, hl, h37⟩ := P
  exact ret ps' qs' rest' cds' t q tq _ tr h' tk' F' N' hT hg hT.off ho hl h37 rfl (Int.emod_nonneg _ (by omega)) (Int.emod_lt_of_pos _ hb)
theorem dm_use {x b : Int} {tx tb : Tok} {all : List (Addr × Obj)} (B : Below A₀ base outer h₀) (F : Fr h₀ L s.heap m) (X : (hd.heap_39 w.params).In h₀) (T : Top p loose mean mg mb h₀) (hk : cs.kind = .function) (hd : dp + 8 < recursionLimit) (hu : un + 20 < cLine)
    (hT : Tabs ps qs cds rest) (N : News h₀ L s.heap all) (m30 : (30, tabObj ps) ∈ all) (m37 : (37, tabObj qs) ∈ all) (mr : ∀ p ∈ rest, p ∈ all) (hx : 0 ≤ x) (hb : 2 ≤ b) (hb2 : b ≤ 52) (hx2 : x < 2704) (hxb : x < b * b)
    (ret : DmRet h₀ L m s Q rest cds x b) :
    wpAny (model prog w) (ktrTop dp un gd cn cs L a ccd cl outer) (call (.ref 49) [.int x tx, .int b tb]) Q E s := by
  refine dmp prog w p loose mean mg mb x b tx tb hx hb hb2 hx2 hxb rest cds ps qs hT dp un gd cn cs a ccd cl outer A₀ base h₀ L m s Q E B F X (fun p hp => ?_) T hk hd hu (dmRet_of (by omega) ret)
  rcases List.mem_cons.mp hp with rfl | hp
  · exact N _ m30
  · rcases List.mem_cons.mp hp with rfl | hp
    · exact N _ m37
    · exact N _ (mr p hp)
end
end
local macro_rules | `(tactic| walk_at "ite") => `(tactic| (k_here; k_openite; ((first | (with_reducible refine split_ieq ?_ ?_) | (with_reducible refine split_ine ?_ ?_) | (with_reducible refine split_dec ?_ ?_)) <;> intro _ <;> (try (exfalso; omega)))))
section
open PySem PySem.W PyProof.Rows
set_option maxRecDepth 100000
set_option maxHeartbeats 4000000
local macro_rules | `(tactic| walk_at "call ref") => `(tactic| (k_here; (with_reducible show wpAny _ _ (call (Value.ref 49) _) _ _ _); k_dflt (refine' dm_use ?B ?F ?X ?T ?k ?d ?u ?Tb ?N ?m30 ?m37 ?mr ?x ?b ?b2 ?x2 ?xb ?_; (case B | F | X | T => k_asm); (case k => exact rfl); (case d => ktr_room); (case u => ktr_units); (case Tb => assumption); (case N => k_asm); (case m30 | m37 => k_mem); (case mr => (intro p hp; repeat (first | exact hp | apply List.Mem.tail))); (case x | b | b2 | x2 => omega); (case xb => first | assumption | omega); k_whole); (unfold DmRet; intros; (try dsimp only))))
local macro_rules | `(tactic| walk_at "unaryOp Invert int") => `(tactic| with_reducible refine invert_R ?_)
theorem id_end {x b : Int} {rest cds rest' cds' : List (Addr × Obj)} {h₀ h' : Heap} {L t : Addr} {m : Str → Option Value} {s : Shared} {Q : Value → Shared → Prop} {tk : Nat} {q r : Int} {tq tr : Tok} {ps' qs' : Array Value}
    (hret : ∀ r news' h' tk', Fr h₀ L h' m → News h₀ L h' news' → DmPost x b rest cds news' r → Q r { s with heap := h', toks := tk' }) (F : Fr h₀ L h' m) (hT : Tabs ps' qs' cds' rest') (g : Grown rest cds rest' cds')
    (ho : OwnOff rest' [t]) (hl : AllLt t rest) (h37 : @LT.lt Nat _ 37 t) (N : News h₀ L h' ((t, tupObj [.int q tq, .int r tr]) :: (30, tabObj ps') :: (37, tabObj qs') :: rest')) (hr : r = x % b) : Q (.ref t) { s with heap := h', toks := tk } := by
  subst hr
  exact hret _ _ _ _ F N ⟨ps', qs', rest', cds', t, q, tq, tr, rfl, rfl, hT, g, ho, hl, h37⟩
theorem off_of_lt {t : Addr} {r : List (Addr × Obj)} (h : AllLt t r) : OwnOff r [t] := fun p hp c hc => by
  rw [List.mem_singleton.mp hc]
  exact Nat.ne_of_lt (tb_ltOf h p hp)
theorem idm (prog : Program) (w : World) (p : Program) (loose : List Str) (mean : ExcName → Option Value) (mg mb : Str → Option Value) (x b : Int) (tx tb : Tok) (hb : 2 ≤ b) (hb2 : b ≤ 52) (hx : -2704 ≤ x) (hx2 : x < 2704) (hxb : x < b * b) (hxb2 : -x - 1 < b * b) (rest cds : List (Addr × Obj)) (ps qs : Array Value)
   (hT : Tabs ps qs cds rest) :
   CallS prog w p loose mean mg mb 56 [.int x tx, .int b tb] 12 30 ((30, tabObj ps) :: (37, tabObj qs) :: rest) (DmPost x b rest cds) := by
  unfold CallS
  intro dp un gd cn cs a ccd cl outer A₀ base h₀ L m s Q E B F X N T hk hd hu hret
  have O0 := hT.off
  refine wpAny_call ?_
  k_dflt k_enter
  k_steps
  · (refine' id_end hret ?F ?T ?g ?o ?l ?h ?N ?r; (case F => assumption); (case T => assumption); (case g => assumption); (case o => exact off_of_lt (by tbn_find)); (case l => exact allLt_sub (by tbn_find) (Grown.mem (by assumption))); (case h => omega); (case N => refine cb_drop (by assumption) ?_; intro p hp; rcases List.mem_cons.mp hp with rfl | hp; exact List.Mem.head _; repeat (first | exact hp | apply List.Mem.tail)); (case r => exact modIs_neg (by omega) (by assumption)))
  · (refine' id_end hret ?F ?T ?g ?o ?l ?h ?N ?r; (case F => assumption); (case T => assumption); (case g => assumption); (case o => assumption); (case l => assumption); (case h => omega); (case N => assumption); (case r => assumption))
end
section
open PySem PySem.W PyProof.Rows PySem.Calls
/-- the order of Python on tuples of three ints -/
def lt3 (x y : Int × Int × Int) : Bool := if x.1 = y.1 then (if x.2.1 = y.2.1 then decide (x.2.2 < y.2.2) else decide (x.2.1 < y.2.1)) else decide (x.1 < y.1)
section
variable {prog : Program} {w : World} {A : Around} {E : Value → Shared → Prop} {s : Shared}
theorem lt3_tree {r1 o1 p1 r2 o2 p2 : Int} {t1 t2 t3 u1 u2 u3 : Tok} {a b : Addr} {oa ob : Obj} {na nb : Nat} {P : Fin → Shared → Prop} (hoa : s.heap.get? a = some oa) (hda : oa.data = .seq #[.int r1 t1, .int o1 t2, .int p1 t3] na) (hob : s.heap.get? b = some ob) (hcb : ob.cls = .type "tuple") (hdb : ob.data = .seq #[.int r2 u1, .int o2 u2, .int p2 u3] nb)
    (h : P (.done (.ret (.bool (lt3 (r1, o1, p1) (r2, o2, p2))))) s) :
    wpAny (model prog w) A (Builtin.«tuple.__lt__» ⟨[.ref a, .ref b], []⟩) P E s := by
  show wpAny _ _ (isInstance (.ref b) (.type "tuple") >>= _) _ _ s
  refine wpAny_bind (wpAny_isInstance (show s.TypeIs (.ref b) "tuple" from ⟨ob, hob, hcb⟩) isSubtype_tuple_tuple ?_)
  simp only [Bool.not_true, Bool.false_eq_true, if_false]
  refine wpAny_bind (wpAny_tupleItemsOf hoa hda ?_)
  refine wpAny_bind (wpAny_tupleItemsOf hob hdb ?_)
  refine wpAny_bind ?_
  show wpAny _ _ (forIn [(Value.int r1 t1, Value.int r2 u1), (Value.int o1 t2, Value.int o2 u2), (Value.int p1 t3, Value.int p2 u3)] _ _) _ _ s
  rw [List.forIn_cons]
  refine wpAny_bind ?_
  refine wpAny_bind (wpAny_eqBool_int ?_)
  by_cases h1 : r1 = r2
  · subst h1
    simp only [beq_self_eq_true, Bool.not_true, Bool.false_eq_true, if_false]
    refine wpAny_pure ?_
    simp only [List.forIn_cons]
    refine wpAny_bind (wpAny_bind (wpAny_eqBool_int ?_))
    by_cases h2 : o1 = o2
    · subst h2
      simp only [beq_self_eq_true, Bool.not_true, Bool.false_eq_true, if_false]
      refine wpAny_pure ?_
      refine wpAny_bind (wpAny_bind (wpAny_eqBool_int ?_))
      by_cases h3 : p1 = p2
      · subst h3
        simp only [beq_self_eq_true, Bool.not_true, Bool.false_eq_true, if_false, List.forIn_nil]
        refine wpAny_pure (wpAny_pure (wpAny_pure ?_))
        have e : lt3 (r1, o1, p1) (r1, o1, p1) = false := by simp [lt3]
        rw [e] at h
        exact h
      · rw [show (p1 == p2) = false by simp [h3]]
        simp only [Bool.not_false, if_true]
        refine wpAny_bind (wpAny_rule (wpAny_bind ?_))
        refine (show wpAny _ _ (compareOp .Lt _ _) _ _ _ from lt_int ?_)
        have e : lt3 (r1, o1, p1) (r1, o1, p2) = decide (p1 < p2) := by simp [lt3]
        rw [e] at h
        exact wpAny_bind (wpAny_pure (wpAny_pure (wpAny_pure (wpAny_pure h))))
    · rw [show (o1 == o2) = false by simp [h2]]
      simp only [Bool.not_false, if_true]
      refine wpAny_bind (wpAny_rule (wpAny_bind ?_))
      refine (show wpAny _ _ (compareOp .Lt _ _) _ _ _ from lt_int ?_)
      have e : lt3 (r1, o1, p1) (r1, o2, p2) = decide (o1 < o2) := by simp [lt3, h2]
      rw [e] at h
      exact wpAny_bind (wpAny_pure (wpAny_pure (wpAny_pure (wpAny_pure h))))
  · rw [show (r1 == r2) = false by simp [h1]]
    simp only [Bool.not_false, if_true]
    refine wpAny_bind (wpAny_rule (wpAny_bind ?_))
    refine (show wpAny _ _ (compareOp .Lt _ _) _ _ _ from lt_int ?_)
    have e : lt3 (r1, o1, p1) (r2, o2, p2) = decide (r1 < r2) := by simp [lt3, h1]
    rw [e] at h
    exact wpAny_bind (wpAny_pure (wpAny_pure (wpAny_pure (wpAny_pure h))))
theorem lt3_R {r1 o1 p1 r2 o2 p2 : Int} {t1 t2 t3 u1 u2 u3 : Tok} {a b : Addr} {Q : Value → Shared → Prop} (ha : IsTup s.heap a #[.int r1 t1, .int o1 t2, .int p1 t3]) (hb : IsTup s.heap b #[.int r2 u1, .int o2 u2, .int p2 u3]) (hu : A.units < cLine)
    (h : Q (.bool (lt3 (r1, o1, p1) (r2, o2, p2))) s) : wpAny (model prog w) A (compareOp .Lt (.ref a) (.ref b)) Q E s := by
  obtain ⟨oa, hoa, hca, na, hda⟩ := ha
  obtain ⟨ob, hob, hcb, nb, hdb⟩ := hb
  have Ta : s.TypeIs (.ref a) "tuple" := ⟨oa, hoa, hca⟩
  have Tb : s.TypeIs (.ref b) "tuple" := ⟨ob, hob, hcb⟩
  exact wpAny_richCompare_same_room (op := .Lt) Ta Tb F.slot_tuple_lt (wpAny_call_entry F.slot_tuple_lt Ta F.entry_tuple_lt (lt3_tree hoa hda hob hcb hdb ⟨_, rfl, (fun e => nomatch e), h⟩) (F.args_tuple_lt_2 _ _)) hu
end
end
section
open PySem PySem.W PyProof.Rows PySem.Calls
inductive TripAll (all : List (Addr × Obj)) : List Value → List (Int × Int × Int) → Prop
  | nil : TripAll all [] []
  | cons {a : Addr} {r o p : Int} {t1 t2 t3 : Tok} {n : Nat} {vs : List Value} {ds : List (Int × Int × Int)} : (a, ({ cls := .type "tuple", data := .seq #[.int r t1, .int o t2, .int p t3] n } : Obj)) ∈ all → TripAll all vs ds → TripAll all (.ref a :: vs) ((r, o, p) :: ds)
theorem TripAll.length {all : List (Addr × Obj)} {vs : List Value} {ds : List (Int × Int × Int)} (h : TripAll all vs ds) : vs.length = ds.length := by
  induction h with
  | nil => rfl
  | cons _ _ ih => simp [ih]
theorem TripAll.mono {all all' : List (Addr × Obj)} {vs : List Value} {ds : List (Int × Int × Int)} (h : TripAll all vs ds) (hs : ∀ p ∈ all, p ∈ all') : TripAll all' vs ds := by
  induction h with
  | nil => exact .nil
  | cons hm _ ih => exact .cons (hs _ hm) ih
theorem TripAll.get {all : List (Addr × Obj)} {vs : List Value} {ds : List (Int × Int × Int)} (h : TripAll all vs ds) : ∀ {i : Nat}, i < ds.length →
    ∃ a r o p t1 t2 t3 n, vs[i]? = some (.ref a) ∧ (a, ({ cls := .type "tuple", data := .seq #[.int r t1, .int o t2, .int p t3] n } : Obj)) ∈ all ∧ ds.getD i (0, 0, 0) = (r, o, p) := by
  induction h with
  | nil => intro i hi; cases hi
  | @cons a r o p t1 t2 t3 n vs ds hm _ ih =>
    intro i hi
    cases i with
    | zero => exact ⟨a, r, o, p, t1, t2, t3, n, rfl, hm, rfl⟩
    | succ i =>
      obtain ⟨a, r, o, p, t1, t2, t3, n, h1, h2, h3⟩ := ih (Nat.lt_of_succ_lt_succ hi)
      exact ⟨a, r, o, p, t1, t2, t3, n, by simpa using h1, h2, by simpa using h3⟩
/-- the first place whose tuple is not below x -/
def Place (ds : List (Int × Int × Int)) (x : Int × Int × Int) (i : Int) : Prop :=
  0 ≤ i ∧ i ≤ ds.length ∧ (∀ j : Nat, (j : Int) < i → lt3 (ds.getD j (0, 0, 0)) x = true) ∧ ∀ j : Nat, i ≤ j → j < ds.length → lt3 (ds.getD j (0, 0, 0)) x = false
/-- between the turns -/
def Mid (ds : List (Int × Int × Int)) (x : Int × Int × Int) (lo hi : Int) : Prop :=
  (∀ j : Nat, (j : Int) < lo → lt3 (ds.getD j (0, 0, 0)) x = true) ∧ ∀ j : Nat, hi ≤ j → j < ds.length → lt3 (ds.getD j (0, 0, 0)) x = false
/-- what is below x lies in front -/
def Cuts (ds : List (Int × Int × Int)) (x : Int × Int × Int) : Prop :=
  ∀ i j : Nat, i ≤ j → j < ds.length → lt3 (ds.getD j (0, 0, 0)) x = true → lt3 (ds.getD i (0, 0, 0)) x = true
def AtIs (ds : List (Int × Int × Int)) (i : Int) (d : Int × Int × Int) : Prop := ds.getD i.toNat (0, 0, 0) = d
theorem Mid.up {ds : List (Int × Int × Int)} {x d : Int × Int × Int} {lo hi m : Int} (h : Mid ds x lo hi) (c : Cuts ds x) (h0 : 0 ≤ m) (h1 : m < ds.length) (e : AtIs ds m d) (b : lt3 d x = true) : Mid ds x (m + 1) hi := by
  refine ⟨fun j hj => ?_, h.2⟩
  unfold AtIs at e
  subst e
  exact c j m.toNat (by omega) (by omega) b
theorem Mid.down {ds : List (Int × Int × Int)} {x d : Int × Int × Int} {lo hi m : Int} (h : Mid ds x lo hi) (c : Cuts ds x) (h0 : 0 ≤ m) (e : AtIs ds m d) (b : lt3 d x = false) : Mid ds x lo m := by
  refine ⟨h.1, fun j hj hl => ?_⟩
  unfold AtIs at e
  subst e
  cases q : lt3 (ds.getD j (0, 0, 0)) x with
  | false => rfl
  | true =>
    have := c m.toNat j (by omega) hl q
    rw [this] at b
    cases b
theorem Mid.done {ds : List (Int × Int × Int)} {x : Int × Int × Int} {lo hi : Int} (h : Mid ds x lo hi) (h0 : 0 ≤ lo) (h1 : lo ≤ hi) (h2 : hi ≤ ds.length) (h3 : ¬ lo < hi) : Place ds x lo := by
  have e : lo = hi := by omega
  subst e
  exact ⟨h0, h2, h.1, h.2⟩
section
variable {prog : Program} {w : World} {A : Around} {E : Value → Shared → Prop} {s : Shared} {h₀ : Heap} {L l : Addr}
theorem trip_item {value slice : PySem.Expr} {all : List (Addr × Obj)} {vs : List Value} {ds : List (Int × Int × Int)} {n : Nat} {k : Int} {u : Tok} {Q : Value → Shared → Prop} (N : News h₀ L s.heap all) (hm : (l, listOf vs.toArray n) ∈ all) (hd : TripAll all vs ds)
    (h0 : 0 ≤ k) (h1 : k < (ds.length : Int)) (hl : ds.length < 1000)
    (h : ∀ a r o p t1 t2 t3 n', (a, ({ cls := .type "tuple", data := .seq #[.int r t1, .int o t2, .int p t3] n' } : Obj)) ∈ all → AtIs ds k (r, o, p) → IsTup s.heap a #[.int r t1, .int o t2, .int p t3] → Q (.ref a) s)
    (hs : subscripted slice false (.ref l) (.int k u) = operate [.ref l, .int k u] (getItem (.ref l) (.int k u)) := by with_unfolding_all rfl) :
    wpAny (model prog w) A (subscriptTail value slice (.ref l) (.int k u)) Q E s := by
  have hL : s.heap.IsList l vs.toArray := ⟨_, (N _ hm).1, rfl, n, rfl⟩
  obtain ⟨a, r, o, p, t1, t2, t3, n', e1, e2, e3⟩ := hd.get (i := k.toNat) (by omega)
  exact tail_any hL.typeIs slot_list_getitem.lookup (wpAny_getItem_list hL h0 (by omega) (by simpa using e1) (h a r o p t1 t2 t3 n' e2 e3 ⟨_, (N _ e2).1, rfl, _, rfl⟩)) hs
theorem half_R {a : Int} {t u : Tok} {Q : Value → Shared → Prop} (ha : 0 ≤ a) (h : ∀ m : Int, 2 * m ≤ a → a < 2 * m + 2 → Q (.int m s.toks) { s with toks := s.toks + 1 }) :
    wpAny (model prog w) A (binaryOp .FloorDiv (.int a t) (.int 2 u)) Q E s := by
  have e := h (a.fdiv 2) (by rw [Int.fdiv_eq_ediv_of_nonneg _ (by decide)]; omega) (by rw [Int.fdiv_eq_ediv_of_nonneg _ (by decide)]; omega)
  exact floordiv_int (by decide) e
theorem trip_len {all : List (Addr × Obj)} {vs : List Value} {ds : List (Int × Int × Int)} {n : Nat} {Q : Value → Shared → Prop} (N : News h₀ L s.heap all) (hm : (l, listOf vs.toArray n) ∈ all) (hd : TripAll all vs ds) (hfit : ds.length < 1000)
    (h : Q (.int (ds.length : Int) (s.toks + 1)) { s with toks := s.toks + 1 + 1 }) : wpAny (model prog w) A (call (.builtin "len") [.ref l]) Q E s := by
  have hl : s.heap.IsList l vs.toArray := ⟨_, (N _ hm).1, rfl, n, rfl⟩
  have e : vs.toArray.size = ds.length := by rw [List.size_toArray, hd.length]
  exact len_list hl (by rw [e]; omega) (by rw [e]; exact h)
end
section
variable {prog : Program} {w : World} {A : Around} {E : Value → Shared → Prop} {s : Shared} {h₀ : Heap} {L l : Addr} {m : Str → Option Value}
theorem kl_ins_at {vs : List Value} {i : Int} {y : Value} (h0 : 0 ≤ i) (h1 : i ≤ vs.length) : kl_ins vs i y = vs.take i.toNat ++ y :: vs.drop i.toNat := by
  unfold kl_ins
  have e : (if i < 0 then (i + (vs.length : Int)).toNat else min i.toNat vs.length) = i.toNat := by
    rw [if_neg (by omega)]
    omega
  rw [e]
theorem trip_insert {rest : List (Addr × Obj)} {vs : List Value} {ds : List (Int × Int × Int)} {x : Int × Int × Int} {k : Nat} {i : Int} {u : Tok} {y : Value} {Q : Value → Shared → Prop} (F : Fr h₀ L s.heap m) (N : News h₀ L s.heap ((l, listOf vs.toArray k) :: rest)) (hl : ∀ p ∈ rest, p.1 ≠ l)
    (hd : TripAll rest vs ds) (hlen : ds.length < 1000) (hp : Place ds x i) (h : ∀ h', Fr h₀ L h' m → News h₀ L h' ((l, listOf (vs.take i.toNat ++ y :: vs.drop i.toNat).toArray (k + 1)) :: rest) → Q .none { s with heap := h' }) :
    wpAny (model prog w) A (call (.builtin "list.insert") [.ref l, .int i u, y]) Q E s := by
  have hlv := hd.length
  obtain ⟨p0, p1, _⟩ := hp
  refine kl_insert F N ?_ (kl_ins_at (vs := vs) p0 (by omega)) (Upd.head hl) ?_ h
  · unfold Builtin.List.listFitsIndex
    simp
    omega
  · show vs.length ≤ sizeLine
    rw [sizeLine_eq]
    omega
end
def BisEnd (h₀ : Heap) (L : Addr) (s : Shared) (all : List (Addr × Obj)) (ds : List (Int × Int × Int)) (x : Int × Int × Int) (m₀ : Str → Option Value) (lo hi : Int) (f : Flow) (s₂ : Shared) : Prop :=
  f = .next ∧ ∃ lo' hi' tl' th' h' tk m', s₂ = { s with heap := h', toks := tk } ∧ Fr h₀ L h' m' ∧ News h₀ L h' all ∧ m' (Str.ofString "lo") = some (.int lo' tl') ∧ m' (Str.ofString "hi") = some (.int hi' th') ∧
    (∀ z, z ≠ Str.ofString "lo" → z ≠ Str.ofString "hi" → z ≠ Str.ofString "mid" → m' z = m₀ z) ∧ Mid ds x lo' hi' ∧ 0 ≤ lo' ∧ lo' ≤ hi' ∧ hi' ≤ ds.length ∧ (hi' - lo').toNat < (hi - lo).toNat
theorem BisEnd.intro {h₀ : Heap} {L : Addr} {s : Shared} {all : List (Addr × Obj)} {ds : List (Int × Int × Int)} {x : Int × Int × Int} {m₀ m' : Str → Option Value} {lo hi lo' hi' : Int} {tl' th' : Tok} {h' : Heap} {tk : Nat}
    (F : Fr h₀ L h' m') (N : News h₀ L h' all) (e1 : m' (Str.ofString "lo") = some (.int lo' tl')) (e2 : m' (Str.ofString "hi") = some (.int hi' th')) (e3 : ∀ z, z ≠ Str.ofString "lo" → z ≠ Str.ofString "hi" → z ≠ Str.ofString "mid" → m' z = m₀ z)
    (hm : Mid ds x lo' hi') (h0 : 0 ≤ lo') (h1 : lo' ≤ hi') (h2 : hi' ≤ ds.length) (h3 : hi' - lo' < hi - lo) : BisEnd h₀ L s all ds x m₀ lo hi .next { s with heap := h', toks := tk } :=
  ⟨rfl, lo', hi', tl', th', h', tk, m', rfl, F, N, e1, e2, e3, hm, h0, h1, h2, by omega⟩
section
variable {prog : Program} {w : World} {A : Around} {E : Value → Shared → Prop} {Q : Flow → Shared → Prop} {s : Shared} {env : Env} {h₀ : Heap} {L : Addr}
theorem bis_while {test : Expr} {body : List Stmt} {pos : Pos} {m₀ : Str → Option Value} {all : List (Addr × Obj)} {vs : List Value} {ds : List (Int × Int × Int)} {x : Int × Int × Int} {tl th : Tok}
    (F : Fr h₀ L s.heap m₀) (N : News h₀ L s.heap all) (hd : TripAll all vs ds) (hc : Cuts ds x) (hlo : m₀ (Str.ofString "lo") = some (.int 0 tl)) (hhi : m₀ (Str.ofString "hi") = some (.int ds.length th))
    (turn : ∀ lo hi tl th (u : Str → Option Value) h tk, Mid ds x lo hi → 0 ≤ lo → lo ≤ hi → hi ≤ ds.length → Fr h₀ L h (fun z => if z = Str.ofString "lo" then some (.int lo tl) else if z = Str.ofString "hi" then some (.int hi th) else if z = Str.ofString "mid" then u z else m₀ z) → News h₀ L h all →
      wpAny (model prog w) A (isTrue test env (eval test env)) (fun b s₂ =>
        if b = true then wpAny (model prog w) A (execs body env) (BisEnd h₀ L s all ds x m₀ lo hi) E s₂ else Q .next s₂) E { s with heap := h, toks := tk })
    (hE : PassesOwn (model prog w) A env E := by passes_own) :
    wpAny (model prog w) A (exec (.While test body [] pos) env) Q E s := by
  have _ := hc
  refine ksw_while (σ := Int × Int × Tok × Tok) (fun _ => all) (fun c => [(Str.ofString "lo", .int c.1 c.2.2.1), (Str.ofString "hi", .int c.2.1 c.2.2.2)]) (fun _ => True) [Str.ofString "mid"] (fun c => Mid ds x c.1 c.2.1 ∧ 0 ≤ c.1 ∧ c.1 ≤ c.2.1 ∧ c.2.1 ≤ ds.length) (fun c => (c.2.1 - c.1).toNat) (0, ds.length, tl, th) F N trivial ?_ ?_ ?_ hE
  · intro p hp
    rcases List.mem_cons.mp hp with rfl | hp
    · exact hlo
    · rw [List.mem_singleton.mp hp]; exact hhi
  · refine ⟨⟨fun j hj => ?_, fun j hj hl => ?_⟩, Int.le_refl _, ?_, ?_⟩
    · exact absurd hj (by omega)
    · exact absurd hj (by show ¬ ((ds.length : Nat) : Int) ≤ (j : Int); omega)
    · show (0 : Int) ≤ ((ds.length : Nat) : Int); omega
    · exact Int.le_refl _
  · rintro ⟨lo, hi, tl, th⟩ u h tk _ ⟨hm, h0, h1, h2⟩ F₁ N₁
    have em : (kstB (fun z => if ([Str.ofString "mid"] : List Str).contains z then u z else m₀ z) [(Str.ofString "lo", Value.int lo tl), (Str.ofString "hi", Value.int hi th)]) = (fun z => if z = Str.ofString "lo" then some (.int lo tl) else if z = Str.ofString "hi" then some (.int hi th) else if z = Str.ofString "mid" then u z else m₀ z) := by
      funext z
      simp only [kstB, List.contains_cons, List.contains_nil, Bool.or_false, beq_iff_eq]
    have F₂ : Fr h₀ L h (kstB (fun z => if ([Str.ofString "mid"] : List Str).contains z then u z else m₀ z) [(Str.ofString "lo", Value.int lo tl), (Str.ofString "hi", Value.int hi th)]) := F₁
    rw [em] at F₂
    refine wpAny_mono (turn lo hi tl th u h tk hm h0 h1 h2 F₂ N₁) (fun b s₂ p => ?_) fun _ _ e => e
    cases b with
    | false => exact p
    | true =>
      simp only [if_true] at p ⊢
      refine wpAny_mono p (fun f s₃ q => ?_) fun _ _ e => e
      obtain ⟨rfl, lo', hi', tl', th', h', tk', m', rfl, F', N', e1, e2, e3, hm', h0', h1', h2', h3'⟩ := q
      refine ksw_end (lo', hi', tl', th') F' N' (fun p hp => hp) trivial (fun p hp => ?_) (fun z hz hz2 => ?_) ⟨hm', h0', h1', h2'⟩ h3'
      · rcases List.mem_cons.mp hp with rfl | hp
        · exact e1
        · rw [List.mem_singleton.mp hp]; exact e2
      · refine e3 z (hz _ (.head _)) (hz _ (.tail _ (.head _))) ?_
        intro e
        rw [e] at hz2
        simp at hz2
end
end
section
open PySem PySem.W PyProof.Rows
set_option maxRecDepth 100000
set_option maxHeartbeats 4000000
local macro_rules | `(tactic| walk_at "call builtin:len") => `(tactic| (k_here; k_dflt (refine' trip_len ?N ?m ?d ?l ?_; (case N => k_asm); (case m | d | l => assumption); k_whole); (try dsimp only)))
local macro_rules | `(tactic| walk_at "subscriptTail") => `(tactic| (k_here; (with_reducible show wpAny _ _ (subscriptTail _ _ (Value.ref _) (Value.int _ _)) _ _ _); (with_unfolding_all refine' trip_item ?N ?m ?d ?a ?b ?l ?_ ?hs; (case N => k_asm); (case m | d | l => assumption); (case a | b => omega); (case hs => with_unfolding_all rfl); k_whole); intro a' r' o' p' t1' t2' t3' n' m' e' T'; (try dsimp only)))
local macro_rules | `(tactic| walk_at "compareOp Lt ref ref") => `(tactic| (k_here; (with_reducible show wpAny _ _ (compareOp CmpOp.Lt (Value.ref _) (Value.ref _)) _ _ _); (with_unfolding_all refine' lt3_R ?a ?b ?u ?_; (case a => assumption); (case b => exact ⟨_, (News.get (by assumption) (by assumption)), rfl, _, rfl⟩); (case u => ktr_units); k_whole); (try dsimp only)))
local macro_rules | `(tactic| walk_at "exec While Compare cons nil") => `(tactic| (k_here; (rename Fr _ _ _ _ => lF'); (rename News _ _ _ _ => lN'); (with_unfolding_all refine' bis_while lF' lN' ?d ?c ?lo ?hi ?_; (case d | c => assumption); (case lo | hi => rfl)); (clear lF' lN'); intro lo' hi' tl' th' u' h' tk' M' b1 b2 b3 F' N'; (try k_fold)))
local macro_rules | `(tactic| walk_at "binaryOp FloorDiv int int") => `(tactic| (k_here; refine' half_R ?a ?_; (case a => omega); intro m' m1 m2; (try dsimp only)))
theorem bis (prog : Program) (w : World) (p : Program) (loose : List Str) (mean : ExcName → Option Value) (mg mb : Str → Option Value) (l x : Addr) (r o q : Int) (t1 t2 t3 : Tok) (n k : Nat) (vs : List Value) (ds : List (Int × Int × Int)) (all : List (Addr × Obj))
   (hl : (l, listOf vs.toArray k) ∈ all) (hx : (x, ({ cls := .type "tuple", data := .seq #[.int r t1, .int o t2, .int q t3] n } : Obj)) ∈ all) (hd : TripAll all vs ds) (hlen : ds.length < 1000) (hc : Cuts ds (r, o, q)) :
   CallS prog w p loose mean mg mb 83 [.ref l, .ref x] 3 30 all (fun news' v => news' = all ∧ ∃ i t, v = .int i t ∧ Place ds (r, o, q) i) := by
  unfold CallS
  intro dp un gd cn cs a ccd cl outer A₀ base h₀ L m s Q E B F X N T hk hd hu hret
  refine wpAny_call ?_
  k_dflt k_enter
  k_steps
  · (refine' BisEnd.intro ?F ?N ?lo ?hi ?e3 ?M ?a ?b ?c ?d; (case F => assumption); (case N => assumption); (case lo => rfl); (case hi => rfl); (case e3 => (intro z h1 h2 h3; simp only [h1, h2, h3, if_false])); (case M => exact Mid.up (by assumption) hc (by omega) (by omega) (by assumption) (by assumption)); (case a => omega); (case b => omega); (case c => omega); (case d => omega))
  · (refine' BisEnd.intro ?F ?N ?lo ?hi ?e3 ?M ?a ?b ?c ?d; (case F => assumption); (case N => assumption); (case lo => rfl); (case hi => rfl); (case e3 => (intro z h1 h2 h3; simp only [h1, h2, h3, if_false])); (case M => exact Mid.down (by assumption) hc (by omega) (by assumption) (by assumption)); (case a => omega); (case b => omega); (case c => omega); (case d => omega))
  · refine hret _ _ _ _ (by assumption) (by assumption) ⟨rfl, _, _, rfl, Mid.done (by assumption) (by assumption) (by assumption) (by assumption) (by assumption)⟩
theorem bis4 (prog : Program) (w : World) (p : Program) (loose : List Str) (mean : ExcName → Option Value) (mg mb : Str → Option Value) (l x : Addr) (r o q : Int) (t1 t2 t3 : Tok) (n k : Nat) (t4 : Tok) (vs : List Value) (ds : List (Int × Int × Int)) (all : List (Addr × Obj))
   (hl : (l, listOf vs.toArray k) ∈ all) (hx : (x, ({ cls := .type "tuple", data := .seq #[.int r t1, .int o t2, .int q t3] n } : Obj)) ∈ all) (hd : TripAll all vs ds) (hlen : ds.length < 1000) (hc : Cuts ds (r, o, q)) :
   CallS prog w p loose mean mg mb 83 [.ref l, .ref x, .int 0 t4, .none] 3 30 all (fun news' v => news' = all ∧ ∃ i t, v = .int i t ∧ Place ds (r, o, q) i) := by
  unfold CallS
  intro dp un gd cn cs a ccd cl outer A₀ base h₀ L m s Q E B F X N T hk hd hu hret
  refine wpAny_call ?_
  k_dflt k_enter
  k_steps
  · (refine' BisEnd.intro ?F ?N ?lo ?hi ?e3 ?M ?a ?b ?c ?d; (case F => assumption); (case N => assumption); (case lo => rfl); (case hi => rfl); (case e3 => (intro z h1 h2 h3; simp only [h1, h2, h3, if_false])); (case M => exact Mid.up (by assumption) hc (by omega) (by omega) (by assumption) (by assumption)); (case a => omega); (case b => omega); (case c => omega); (case d => omega))
  · (refine' BisEnd.intro ?F ?N ?lo ?hi ?e3 ?M ?a ?b ?c ?d; (case F => assumption); (case N => assumption); (case lo => rfl); (case hi => rfl); (case e3 => (intro z h1 h2 h3; simp only [h1, h2, h3, if_false])); (case M => exact Mid.down (by assumption) hc (by omega) (by assumption) (by assumption)); (case a => omega); (case b => omega); (case c => omega); (case d => omega))
  · refine hret _ _ _ _ (by assumption) (by assumption) ⟨rfl, _, _, rfl, Mid.done (by assumption) (by assumption) (by assumption) (by assumption) (by assumption)⟩
section
variable {prog : Program} {w : World} {p : Program} {loose : List Str} {mean : ExcName → Option Value} {mg mb : Str → Option Value} {dp un : Nat} {gd : Option (List Code)} {cn : Str} {cs : Scope} {a : Addr} {ccd : Value} {cl : List (Str × Addr)} {outer : List Env} {A₀ : Around} {base h₀ : Heap} {L : Addr} {m : Str → Option Value} {s : Shared}
    {Q E : Value → Shared → Prop} {all : List (Addr × Obj)} {l x : Addr} {r o q : Int} {t1 t2 t3 : Tok} {n k : Nat} {vs : List Value} {ds : List (Int × Int × Int)}
theorem bis_use (B : Below A₀ base outer h₀) (F : Fr h₀ L s.heap m) (X : (hd.heap_39 w.params).In h₀) (N : News h₀ L s.heap all) (T : Top p loose mean mg mb h₀) (hk : cs.kind = .function) (hd : dp + 3 < recursionLimit) (hu : un + 30 < cLine)
    (hl : (l, listOf vs.toArray k) ∈ all) (hx : (x, ({ cls := .type "tuple", data := .seq #[.int r t1, .int o t2, .int q t3] n } : Obj)) ∈ all) (hd' : TripAll all vs ds) (hlen : ds.length < 1000) (hc : Cuts ds (r, o, q))
    (ret : ∀ i t h' tk', Fr h₀ L h' m → News h₀ L h' all → Place ds (r, o, q) i → Q (.int i t) { s with heap := h', toks := tk' }) :
    wpAny (model prog w) (ktrTop dp un gd cn cs L a ccd cl outer) (call (.ref 83) [.ref l, .ref x]) Q E s :=
  bis prog w p loose mean mg mb l x r o q t1 t2 t3 n k vs ds all hl hx hd' hlen hc dp un gd cn cs a ccd cl outer A₀ base h₀ L m s Q E B F X N T hk hd hu (fun v news' h' tk' F' N' P => by
    obtain ⟨rfl, i, t, rfl, P⟩ := P
    exact ret i t h' tk' F' N' P)
theorem bis4_use {t4 : Tok} (B : Below A₀ base outer h₀) (F : Fr h₀ L s.heap m) (X : (hd.heap_39 w.params).In h₀) (N : News h₀ L s.heap all) (T : Top p loose mean mg mb h₀) (hk : cs.kind = .function) (hd : dp + 3 < recursionLimit) (hu : un + 30 < cLine)
    (hl : (l, listOf vs.toArray k) ∈ all) (hx : (x, ({ cls := .type "tuple", data := .seq #[.int r t1, .int o t2, .int q t3] n } : Obj)) ∈ all) (hd' : TripAll all vs ds) (hlen : ds.length < 1000) (hc : Cuts ds (r, o, q))
    (ret : ∀ i t h' tk', Fr h₀ L h' m → News h₀ L h' all → Place ds (r, o, q) i → Q (.int i t) { s with heap := h', toks := tk' }) :
    wpAny (model prog w) (ktrTop dp un gd cn cs L a ccd cl outer) (call (.ref 83) [.ref l, .ref x, .int 0 t4, .none]) Q E s :=
  bis4 prog w p loose mean mg mb l x r o q t1 t2 t3 n k t4 vs ds all hl hx hd' hlen hc dp un gd cn cs a ccd cl outer A₀ base h₀ L m s Q E B F X N T hk hd hu (fun v news' h' tk' F' N' P => by
    obtain ⟨rfl, i, t, rfl, P⟩ := P
    exact ret i t h' tk' F' N' P)
end
end
section
open PySem PySem.W PyProof.Rows
set_option maxRecDepth 100000
set_option maxHeartbeats 4000000
local macro_rules | `(tactic| walk_at "call ref") => `(tactic| (k_here; (with_reducible show wpAny _ _ (call (Value.ref 83) _) _ _ _); k_dflt (refine' bis4_use ?B ?F ?X ?N ?T ?k ?d ?u ?l ?x ?t ?n ?c ?_; (case B | F | X | N | T => k_asm); (case k => exact rfl); (case d => ktr_room); (case u => ktr_units); (case l => exact List.Mem.head _); (case x => exact List.Mem.tail _ (by assumption)); (case t => exact TripAll.mono (by assumption) (fun _ h => List.Mem.tail _ h)); (case n | c => assumption); k_whole); intro i' t' h' tk' F' N' P'; (try dsimp only)))
local macro_rules | `(tactic| walk_at "call builtin:list.insert") => `(tactic| (k_here; k_dflt (refine' trip_insert ?F ?N ?l ?d ?n ?p ?_; (case F | N => k_asm); (case l | d | n | p => assumption); k_whole); intro h' F' N'; (try dsimp only)))
theorem ins (prog : Program) (w : World) (p : Program) (loose : List Str) (mean : ExcName → Option Value) (mg mb : Str → Option Value) (l x : Addr) (r o q : Int) (t1 t2 t3 : Tok) (n k : Nat) (vs : List Value) (ds : List (Int × Int × Int)) (rest : List (Addr × Obj))
   (hl : ∀ p ∈ rest, p.1 ≠ l) (hx : (x, ({ cls := .type "tuple", data := .seq #[.int r t1, .int o t2, .int q t3] n } : Obj)) ∈ rest) (hd : TripAll rest vs ds) (hlen : ds.length < 1000) (hc : Cuts ds (r, o, q)) :
   CallS prog w p loose mean mg mb 74 [.ref l, .ref x] 6 50 ((l, listOf vs.toArray k) :: rest) (fun news' v => v = .none ∧ ∃ i : Int, Place ds (r, o, q) i ∧ news' = (l, listOf (vs.take i.toNat ++ .ref x :: vs.drop i.toNat).toArray (k + 1)) :: rest) := by
  unfold CallS
  intro dp un gd cn cs a ccd cl outer A₀ base h₀ L m s Q E B F X N T hk hd hu hret
  refine wpAny_call ?_
  k_dflt k_enter
  k_steps
  · exact hret _ _ _ _ (by assumption) (by assumption) ⟨rfl, _, by assumption, rfl⟩
section
variable {prog : Program} {w : World} {p : Program} {loose : List Str} {mean : ExcName → Option Value} {mg mb : Str → Option Value} {dp un : Nat} {gd : Option (List Code)} {cn : Str} {cs : Scope} {a : Addr} {ccd : Value} {cl : List (Str × Addr)} {outer : List Env} {A₀ : Around} {base h₀ : Heap} {L : Addr} {m : Str → Option Value} {s : Shared}
    {Q E : Value → Shared → Prop} {rest : List (Addr × Obj)} {l x : Addr} {r o q : Int} {t1 t2 t3 : Tok} {n k : Nat} {vs : List Value} {ds : List (Int × Int × Int)}
theorem ins_use (B : Below A₀ base outer h₀) (F : Fr h₀ L s.heap m) (X : (hd.heap_39 w.params).In h₀) (N : News h₀ L s.heap ((l, listOf vs.toArray k) :: rest)) (T : Top p loose mean mg mb h₀) (hk : cs.kind = .function) (hd : dp + 6 < recursionLimit) (hu : un + 50 < cLine)
    (hl : ∀ p ∈ rest, p.1 ≠ l) (hx : (x, ({ cls := .type "tuple", data := .seq #[.int r t1, .int o t2, .int q t3] n } : Obj)) ∈ rest) (hd' : TripAll rest vs ds) (hlen : ds.length < 1000) (hc : Cuts ds (r, o, q))
    (ret : ∀ i h' tk', Fr h₀ L h' m → News h₀ L h' ((l, listOf (vs.take i.toNat ++ .ref x :: vs.drop i.toNat).toArray (k + 1)) :: rest) → Place ds (r, o, q) i → Q .none { s with heap := h', toks := tk' }) :
    wpAny (model prog w) (ktrTop dp un gd cn cs L a ccd cl outer) (call (.ref 74) [.ref l, .ref x]) Q E s :=
  ins prog w p loose mean mg mb l x r o q t1 t2 t3 n k vs ds rest hl hx hd' hlen hc dp un gd cn cs a ccd cl outer A₀ base h₀ L m s Q E B F X N T hk hd hu (fun v news' h' tk' F' N' P => by
    obtain ⟨rfl, i, P, rfl⟩ := P
    exact ret i h' tk' F' N' P)
end
end
section
open PySem PySem.W PyProof.Rows PySem.Calls
def leB (d x : Int) : Bool := !decide (x < d)
/-- the first place whose tuple is not below x -/
def PlaceI (ds : List Int) (x : Int) (i : Int) : Prop :=
  0 ≤ i ∧ i ≤ ds.length ∧ (∀ j : Nat, (j : Int) < i → leB (ds.getD j 0) x = true) ∧ ∀ j : Nat, i ≤ j → j < ds.length → leB (ds.getD j 0) x = false
/-- between the turns -/
def MidI (ds : List Int) (x : Int) (lo hi : Int) : Prop :=
  (∀ j : Nat, (j : Int) < lo → leB (ds.getD j 0) x = true) ∧ ∀ j : Nat, hi ≤ j → j < ds.length → leB (ds.getD j 0) x = false
/-- what is below x lies in front -/
def CutsI (ds : List Int) (x : Int) : Prop :=
  ∀ i j : Nat, i ≤ j → j < ds.length → leB (ds.getD j 0) x = true → leB (ds.getD i 0) x = true
def AtIsI (ds : List Int) (i : Int) (d : Int) : Prop := ds.getD i.toNat 0 = d
theorem MidI.up {ds : List Int} {x d : Int} {lo hi m : Int} (h : MidI ds x lo hi) (c : CutsI ds x) (h0 : 0 ≤ m) (h1 : m < ds.length) (e : AtIsI ds m d) (b : leB d x = true) : MidI ds x (m + 1) hi := by
  refine ⟨fun j hj => ?_, h.2⟩
  unfold AtIsI at e
  subst e
  exact c j m.toNat (by omega) (by omega) b
theorem MidI.down {ds : List Int} {x d : Int} {lo hi m : Int} (h : MidI ds x lo hi) (c : CutsI ds x) (h0 : 0 ≤ m) (e : AtIsI ds m d) (b : leB d x = false) : MidI ds x lo m := by
  refine ⟨h.1, fun j hj hl => ?_⟩
  unfold AtIsI at e
  subst e
  cases q : leB (ds.getD j 0) x with
  | false => rfl
  | true =>
    have := c m.toNat j (by omega) hl q
    rw [this] at b
    cases b
theorem MidI.done {ds : List Int} {x : Int} {lo hi : Int} (h : MidI ds x lo hi) (h0 : 0 ≤ lo) (h1 : lo ≤ hi) (h2 : hi ≤ ds.length) (h3 : ¬ lo < hi) : PlaceI ds x lo := by
  have e : lo = hi := by omega
  subst e
  exact ⟨h0, h2, h.1, h.2⟩
def BisEndI (h₀ : Heap) (L : Addr) (s : Shared) (all : List (Addr × Obj)) (ds : List Int) (x : Int) (m₀ : Str → Option Value) (lo hi : Int) (f : Flow) (s₂ : Shared) : Prop :=
  f = .next ∧ ∃ lo' hi' tl' th' h' tk m', s₂ = { s with heap := h', toks := tk } ∧ Fr h₀ L h' m' ∧ News h₀ L h' all ∧ m' (Str.ofString "lo") = some (.int lo' tl') ∧ m' (Str.ofString "hi") = some (.int hi' th') ∧
    (∀ z, z ≠ Str.ofString "lo" → z ≠ Str.ofString "hi" → z ≠ Str.ofString "mid" → m' z = m₀ z) ∧ MidI ds x lo' hi' ∧ 0 ≤ lo' ∧ lo' ≤ hi' ∧ hi' ≤ ds.length ∧ (hi' - lo').toNat < (hi - lo).toNat
theorem BisEndI.intro {h₀ : Heap} {L : Addr} {s : Shared} {all : List (Addr × Obj)} {ds : List Int} {x : Int} {m₀ m' : Str → Option Value} {lo hi lo' hi' : Int} {tl' th' : Tok} {h' : Heap} {tk : Nat}
    (F : Fr h₀ L h' m') (N : News h₀ L h' all) (e1 : m' (Str.ofString "lo") = some (.int lo' tl')) (e2 : m' (Str.ofString "hi") = some (.int hi' th')) (e3 : ∀ z, z ≠ Str.ofString "lo" → z ≠ Str.ofString "hi" → z ≠ Str.ofString "mid" → m' z = m₀ z)
    (hm : MidI ds x lo' hi') (h0 : 0 ≤ lo') (h1 : lo' ≤ hi') (h2 : hi' ≤ ds.length) (h3 : hi' - lo' < hi - lo) : BisEndI h₀ L s all ds x m₀ lo hi .next { s with heap := h', toks := tk } :=
  ⟨rfl, lo', hi', tl', th', h', tk, m', rfl, F, N, e1, e2, e3, hm, h0, h1, h2, by omega⟩
section
variable {prog : Program} {w : World} {A : Around} {E : Value → Shared → Prop} {Q : Flow → Shared → Prop} {s : Shared} {env : Env} {h₀ : Heap} {L : Addr}
theorem bis_whileI {test : Expr} {body : List Stmt} {pos : Pos} {m₀ : Str → Option Value} {all : List (Addr × Obj)} {ds : List Int} {x : Int} {tl th : Tok}
    (F : Fr h₀ L s.heap m₀) (N : News h₀ L s.heap all) (hc : CutsI ds x) (hlo : m₀ (Str.ofString "lo") = some (.int 0 tl)) (hhi : m₀ (Str.ofString "hi") = some (.int ds.length th))
    (turn : ∀ lo hi tl th (u : Str → Option Value) h tk, MidI ds x lo hi → 0 ≤ lo → lo ≤ hi → hi ≤ ds.length → Fr h₀ L h (fun z => if z = Str.ofString "lo" then some (.int lo tl) else if z = Str.ofString "hi" then some (.int hi th) else if z = Str.ofString "mid" then u z else m₀ z) → News h₀ L h all →
      wpAny (model prog w) A (isTrue test env (eval test env)) (fun b s₂ =>
        if b = true then wpAny (model prog w) A (execs body env) (BisEndI h₀ L s all ds x m₀ lo hi) E s₂ else Q .next s₂) E { s with heap := h, toks := tk })
    (hE : PassesOwn (model prog w) A env E := by passes_own) :
    wpAny (model prog w) A (exec (.While test body [] pos) env) Q E s := by
  have _ := hc
  refine ksw_while (σ := Int × Int × Tok × Tok) (fun _ => all) (fun c => [(Str.ofString "lo", .int c.1 c.2.2.1), (Str.ofString "hi", .int c.2.1 c.2.2.2)]) (fun _ => True) [Str.ofString "mid"] (fun c => MidI ds x c.1 c.2.1 ∧ 0 ≤ c.1 ∧ c.1 ≤ c.2.1 ∧ c.2.1 ≤ ds.length) (fun c => (c.2.1 - c.1).toNat) (0, ds.length, tl, th) F N trivial ?_ ?_ ?_ hE
  · intro p hp
    rcases List.mem_cons.mp hp with rfl | hp
    · exact hlo
    · rw [List.mem_singleton.mp hp]; exact hhi
  · refine ⟨⟨fun j hj => ?_, fun j hj hl => ?_⟩, Int.le_refl _, ?_, ?_⟩
    · exact absurd hj (by omega)
    · exact absurd hj (by show ¬ ((ds.length : Nat) : Int) ≤ (j : Int); omega)
    · show (0 : Int) ≤ ((ds.length : Nat) : Int); omega
    · exact Int.le_refl _
  · rintro ⟨lo, hi, tl, th⟩ u h tk _ ⟨hm, h0, h1, h2⟩ F₁ N₁
    have em : (kstB (fun z => if ([Str.ofString "mid"] : List Str).contains z then u z else m₀ z) [(Str.ofString "lo", Value.int lo tl), (Str.ofString "hi", Value.int hi th)]) = (fun z => if z = Str.ofString "lo" then some (.int lo tl) else if z = Str.ofString "hi" then some (.int hi th) else if z = Str.ofString "mid" then u z else m₀ z) := by
      funext z
      simp only [kstB, List.contains_cons, List.contains_nil, Bool.or_false, beq_iff_eq]
    have F₂ : Fr h₀ L h (kstB (fun z => if ([Str.ofString "mid"] : List Str).contains z then u z else m₀ z) [(Str.ofString "lo", Value.int lo tl), (Str.ofString "hi", Value.int hi th)]) := F₁
    rw [em] at F₂
    refine wpAny_mono (turn lo hi tl th u h tk hm h0 h1 h2 F₂ N₁) (fun b s₂ p => ?_) fun _ _ e => e
    cases b with
    | false => exact p
    | true =>
      simp only [if_true] at p ⊢
      refine wpAny_mono p (fun f s₃ q => ?_) fun _ _ e => e
      obtain ⟨rfl, lo', hi', tl', th', h', tk', m', rfl, F', N', e1, e2, e3, hm', h0', h1', h2', h3'⟩ := q
      refine ksw_end (lo', hi', tl', th') F' N' (fun p hp => hp) trivial (fun p hp => ?_) (fun z hz hz2 => ?_) ⟨hm', h0', h1', h2'⟩ h3'
      · rcases List.mem_cons.mp hp with rfl | hp
        · exact e1
        · rw [List.mem_singleton.mp hp]; exact e2
      · refine e3 z (hz _ (.head _)) (hz _ (.tail _ (.head _))) ?_
        intro e
        rw [e] at hz2
        simp at hz2
end
theorem halfI_R {prog : Program} {w : World} {A : Around} {E : Value → Shared → Prop} {s : Shared} {a : Int} {t u : Tok} {Q : Value → Shared → Prop} (ha : 0 ≤ a) (h : ∀ m : Int, 2 * m ≤ a → a < 2 * m + 2 → Q (.int m s.toks) { s with toks := s.toks + 1 }) :
    wpAny (model prog w) A (binaryOp .FloorDiv (.int a t) (.int 2 u)) Q E s := by
  have e := h (a.fdiv 2) (by rw [Int.fdiv_eq_ediv_of_nonneg _ (by decide)]; omega) (by rw [Int.fdiv_eq_ediv_of_nonneg _ (by decide)]; omega)
  exact floordiv_int (by decide) e
section
variable {prog : Program} {w : World} {A : Around} {E : Value → Shared → Prop} {s : Shared} {h₀ : Heap} {L l : Addr}
theorem ints_item {value slice : PySem.Expr} {all : List (Addr × Obj)} {vs : List Value} {ds : List Int} {n : Nat} {k : Int} {u : Tok} {Q : Value → Shared → Prop} (N : News h₀ L s.heap all) (hm : (l, listOf vs.toArray n) ∈ all) (hd : IntsAre vs ds)
    (h0 : 0 ≤ k) (h1 : k < (ds.length : Int)) (hl : ds.length < 1000)
    (h : ∀ r t, AtIsI ds k r → Q (.int r t) s)
    (hs : subscripted slice false (.ref l) (.int k u) = operate [.ref l, .int k u] (getItem (.ref l) (.int k u)) := by with_unfolding_all rfl) :
    wpAny (model prog w) A (subscriptTail value slice (.ref l) (.int k u)) Q E s := by
  have hL : s.heap.IsList l vs.toArray := ⟨_, (N _ hm).1, rfl, n, rfl⟩
  have hk : k.toNat < ds.length := by omega
  obtain ⟨t, ht⟩ := hd.get k.toNat (ds[k.toNat]'hk) (by simp [hk])
  exact tail_any hL.typeIs slot_list_getitem.lookup (wpAny_getItem_list hL h0 (by omega) (by simpa using ht) (h _ t (by unfold AtIsI; simp [hk]))) hs
theorem ints_len {all : List (Addr × Obj)} {vs : List Value} {ds : List Int} {n : Nat} {Q : Value → Shared → Prop} (N : News h₀ L s.heap all) (hm : (l, listOf vs.toArray n) ∈ all) (hd : IntsAre vs ds) (hfit : ds.length < 1000)
    (h : Q (.int (ds.length : Int) (s.toks + 1)) { s with toks := s.toks + 1 + 1 }) : wpAny (model prog w) A (call (.builtin "len") [.ref l]) Q E s := by
  have hl : s.heap.IsList l vs.toArray := ⟨_, (N _ hm).1, rfl, n, rfl⟩
  have e : vs.toArray.size = ds.length := by rw [List.size_toArray, hd.length]
  exact len_list hl (by rw [e]; omega) (by rw [e]; exact h)
end
end
section
open PySem PySem.W PyProof.Rows
set_option maxRecDepth 100000
set_option maxHeartbeats 4000000
local macro_rules | `(tactic| walk_at "call builtin:len") => `(tactic| (k_here; k_dflt (refine' ints_len ?N ?m ?d ?l ?_; (case N => k_asm); (case m | d | l => assumption); k_whole); (try dsimp only)))
local macro_rules | `(tactic| walk_at "subscriptTail") => `(tactic| (k_here; (with_reducible show wpAny _ _ (subscriptTail _ _ (Value.ref _) (Value.int _ _)) _ _ _); (with_unfolding_all refine' ints_item ?N ?m ?d ?a ?b ?l ?_ ?hs; (case N => k_asm); (case m | d | l => assumption); (case a | b => omega); (case hs => with_unfolding_all rfl); k_whole); intro r' t1' e'; (try dsimp only)))
local macro_rules | `(tactic| walk_at "exec While Compare cons nil") => `(tactic| (k_here; (rename Fr _ _ _ _ => lF'); (rename News _ _ _ _ => lN'); (with_unfolding_all refine' bis_whileI lF' lN' ?c ?lo ?hi ?_; (case c => assumption); (case lo | hi => rfl)); (clear lF' lN'); intro lo' hi' tl' th' u' h' tk' M' b1 b2 b3 F' N'; (try k_fold)))
local macro_rules | `(tactic| walk_at "binaryOp FloorDiv int int") => `(tactic| (k_here; refine' halfI_R ?a ?_; (case a => omega); intro m' m1 m2; (try dsimp only)))
theorem leB_t {d x : Int} (h : ¬ x < d) : leB d x = true := by simp [leB]; omega
theorem leB_f {d x : Int} (h : x < d) : leB d x = false := by simp [leB]; omega
theorem bir (prog : Program) (w : World) (p : Program) (loose : List Str) (mean : ExcName → Option Value) (mg mb : Str → Option Value) (l : Addr) (x : Int) (tx : Tok) (k : Nat) (vs : List Value) (ds : List Int) (all : List (Addr × Obj))
   (hl : (l, listOf vs.toArray k) ∈ all) (hd : IntsAre vs ds) (hlen : ds.length < 1000) (hc : CutsI ds x) :
   CallS prog w p loose mean mg mb 65 [.ref l, .int x tx] 3 30 all (fun news' v => news' = all ∧ ∃ i t, v = .int i t ∧ PlaceI ds x i) := by
  unfold CallS
  intro dp un gd cn cs a ccd cl outer A₀ base h₀ L m s Q E B F X N T hk hd hu hret
  refine wpAny_call ?_
  k_dflt k_enter
  k_steps
  · (refine' BisEndI.intro ?F ?N ?lo ?hi ?e3 ?M ?a ?b ?c ?d; (case F => assumption); (case N => assumption); (case lo => rfl); (case hi => rfl); (case e3 => (intro z h1 h2 h3; simp only [h1, h2, h3, if_false])); (case M => exact MidI.down (by assumption) hc (by omega) (by assumption) (leB_f (by assumption))); (case a => omega); (case b => omega); (case c => omega); (case d => omega))
  · (refine' BisEndI.intro ?F ?N ?lo ?hi ?e3 ?M ?a ?b ?c ?d; (case F => assumption); (case N => assumption); (case lo => rfl); (case hi => rfl); (case e3 => (intro z h1 h2 h3; simp only [h1, h2, h3, if_false])); (case M => exact MidI.up (by assumption) hc (by omega) (by omega) (by assumption) (leB_t (by assumption))); (case a => omega); (case b => omega); (case c => omega); (case d => omega))
  · refine hret _ _ _ _ (by assumption) (by assumption) ⟨rfl, _, _, rfl, MidI.done (by assumption) (by assumption) (by assumption) (by assumption) (by assumption)⟩
section
variable {prog : Program} {w : World} {p : Program} {loose : List Str} {mean : ExcName → Option Value} {mg mb : Str → Option Value} {dp un : Nat} {gd : Option (List Code)} {cn : Str} {cs : Scope} {a : Addr} {ccd : Value} {cl : List (Str × Addr)} {outer : List Env} {A₀ : Around} {base h₀ : Heap} {L : Addr} {m : Str → Option Value} {s : Shared}
    {Q E : Value → Shared → Prop} {all : List (Addr × Obj)} {l : Addr} {x : Int} {tx : Tok} {k : Nat} {vs : List Value} {ds : List Int}
theorem bir_use (B : Below A₀ base outer h₀) (F : Fr h₀ L s.heap m) (X : (hd.heap_39 w.params).In h₀) (N : News h₀ L s.heap all) (T : Top p loose mean mg mb h₀) (hk : cs.kind = .function) (hd : dp + 3 < recursionLimit) (hu : un + 30 < cLine)
    (hl : (l, listOf vs.toArray k) ∈ all) (hd' : IntsAre vs ds) (hlen : ds.length < 1000) (hc : CutsI ds x)
    (ret : ∀ i t h' tk', Fr h₀ L h' m → News h₀ L h' all → PlaceI ds x i → Q (.int i t) { s with heap := h', toks := tk' }) :
    wpAny (model prog w) (ktrTop dp un gd cn cs L a ccd cl outer) (call (.ref 65) [.ref l, .int x tx]) Q E s :=
  bir prog w p loose mean mg mb l x tx k vs ds all hl hd' hlen hc dp un gd cn cs a ccd cl outer A₀ base h₀ L m s Q E B F X N T hk hd hu (fun v news' h' tk' F' N' P => by
    obtain ⟨rfl, i, t, rfl, P⟩ := P
    exact ret i t h' tk' F' N' P)
end
def sqs : List Int := [0, 1, 4, 9, 16, 25, 36, 49, 64, 81]
theorem sqs_is : List.map (fun k' => k' * k') (rangeKs 0 (10 - 0 : Int).toNat) = sqs := by decide
theorem sqs_up : ∀ i : Nat, i < 10 → ∀ j : Nat, j < 10 → i ≤ j → sqs.getD i 0 ≤ sqs.getD j 0 := by decide
theorem sqs_cuts (x : Int) : CutsI sqs x := by
  intro i j hij hj h
  have hj' : j < 10 := hj
  have := sqs_up i (by omega) j hj' hij
  unfold leB at h ⊢
  simp only [Bool.not_eq_true', decide_eq_false_iff_not] at h ⊢
  omega
theorem root_of {c i : Int} (h : PlaceI sqs c i) (h0 : 1 ≤ c) (h1 : c < 64) : 1 ≤ i - 1 ∧ i - 1 ≤ 7 ∧ (i - 1) * (i - 1) ≤ c ∧ c < (i - 1 + 1) * (i - 1 + 1) := by
  obtain ⟨a, b, l, u⟩ := h
  have b' : i ≤ 10 := b
  have hl : ∀ j : Nat, (j : Int) < i → sqs.getD j 0 ≤ c := fun j hj => by
    have := l j hj
    unfold leB at this
    simp only [Bool.not_eq_true', decide_eq_false_iff_not] at this
    omega
  have hu : ∀ j : Nat, i ≤ j → j < 10 → c < sqs.getD j 0 := fun j hj hj' => by
    have := u j hj hj'
    unfold leB at this
    simp only [Bool.not_eq_false', decide_eq_true_eq] at this
    exact this
  have s0 : sqs.getD 0 0 = 0 := rfl
  have s1 : sqs.getD 1 0 = 1 := rfl
  have s8 : sqs.getD 8 0 = 64 := rfl
  have i2 : 2 ≤ i := by
    rcases Int.lt_or_le i 2 with q | q
    · have := hu 1 (by omega) (by decide); omega
    · exact q
  have i8 : i ≤ 8 := by
    rcases Int.lt_or_le 8 i with q | q
    · have := hl 8 (by omega); omega
    · exact q
  have e : i = 2 ∨ i = 3 ∨ i = 4 ∨ i = 5 ∨ i = 6 ∨ i = 7 ∨ i = 8 := by omega
  rcases e with rfl | rfl | rfl | rfl | rfl | rfl | rfl
  · have p := hl 1 (by decide); have q := hu 2 (by decide) (by decide); have p' : sqs.getD 1 0 = 1 := rfl; have q' : sqs.getD 2 0 = 4 := rfl; omega
  · have p := hl 2 (by decide); have q := hu 3 (by decide) (by decide); have p' : sqs.getD 2 0 = 4 := rfl; have q' : sqs.getD 3 0 = 9 := rfl; omega
  · have p := hl 3 (by decide); have q := hu 4 (by decide) (by decide); have p' : sqs.getD 3 0 = 9 := rfl; have q' : sqs.getD 4 0 = 16 := rfl; omega
  · have p := hl 4 (by decide); have q := hu 5 (by decide) (by decide); have p' : sqs.getD 4 0 = 16 := rfl; have q' : sqs.getD 5 0 = 25 := rfl; omega
  · have p := hl 5 (by decide); have q := hu 6 (by decide) (by decide); have p' : sqs.getD 5 0 = 25 := rfl; have q' : sqs.getD 6 0 = 36 := rfl; omega
  · have p := hl 6 (by decide); have q := hu 7 (by decide) (by decide); have p' : sqs.getD 6 0 = 36 := rfl; have q' : sqs.getD 7 0 = 49 := rfl; omega
  · have p := hl 7 (by decide); have q := hu 8 (by decide) (by decide); have p' : sqs.getD 7 0 = 49 := rfl; have q' : sqs.getD 8 0 = 64 := rfl; omega
end
section
open PySem PySem.W PyProof.Rows
set_option maxRecDepth 100000
set_option maxHeartbeats 4000000
local macro_rules | `(tactic| walk_at "call ref") => `(tactic| (k_here; (with_reducible show wpAny _ _ (call (Value.ref 65) _) _ _ _); k_dflt (refine' bir_use (ds := sqs) ?B ?F ?X ?N ?T ?k ?d ?u ?l ?t ?n ?c ?_; (case B | F | X | N | T => k_asm); (case k => exact rfl); (case d => ktr_room); (case u => ktr_units); (case l => k_mem); (case t => (rw [← sqs_is]; assumption)); (case n => decide); (case c => exact sqs_cuts _); k_whole); intro i' t' h' tk' F' N' P'; (try dsimp only)))
theorem root (prog : Program) (w : World) (p : Program) (loose : List Str) (mean : ExcName → Option Value) (mg mb : Str → Option Value) (c : Int) (tc : Tok) (h0 : 1 ≤ c) (h1 : c < 64) (news : List (Addr × Obj)) :
   CallS prog w p loose mean mg mb 88 [.int c tc] 6 50 news (fun news' v => news' = news ∧ ∃ r t, v = .int r t ∧ 1 ≤ r ∧ r ≤ 7 ∧ r * r ≤ c ∧ c < (r + 1) * (r + 1)) := by
  unfold CallS
  intro dp un gd cn cs a ccd cl outer A₀ base h₀ L m s Q E B F X N T hk hd hu hret
  refine wpAny_call ?_
  k_dflt k_enter
  k_steps
  · exact hret _ _ _ _ (by assumption) (cb_drop (by assumption) (fun p hp => List.Mem.tail _ hp)) ⟨rfl, _, _, rfl, root_of (by assumption) h0 h1⟩
def RootIs (c r : Int) : Prop := r * r ≤ c ∧ c < (r + 1) * (r + 1)
section
variable {prog : Program} {w : World} {p : Program} {loose : List Str} {mean : ExcName → Option Value} {mg mb : Str → Option Value} {dp un : Nat} {gd : Option (List Code)} {cn : Str} {cs : Scope} {a : Addr} {ccd : Value} {cl : List (Str × Addr)} {outer : List Env} {A₀ : Around} {base h₀ : Heap} {L : Addr} {m : Str → Option Value} {s : Shared}
    {Q E : Value → Shared → Prop} {all : List (Addr × Obj)} {c : Int} {tc : Tok}
theorem root_use (B : Below A₀ base outer h₀) (F : Fr h₀ L s.heap m) (X : (hd.heap_39 w.params).In h₀) (N : News h₀ L s.heap all) (T : Top p loose mean mg mb h₀) (hk : cs.kind = .function) (hd : dp + 6 < recursionLimit) (hu : un + 50 < cLine)
    (h0 : 1 ≤ c) (h1 : c < 64) (ret : ∀ r t h' tk', Fr h₀ L h' m → News h₀ L h' all → 1 ≤ r → r ≤ 7 → RootIs c r → Q (.int r t) { s with heap := h', toks := tk' }) :
    wpAny (model prog w) (ktrTop dp un gd cn cs L a ccd cl outer) (call (.ref 88) [.int c tc]) Q E s :=
  root prog w p loose mean mg mb c tc h0 h1 all dp un gd cn cs a ccd cl outer A₀ base h₀ L m s Q E B F X N T hk hd hu (fun v news' h' tk' F' N' P => by
    obtain ⟨rfl, r, t, rfl, r1, r2, r3, r4⟩ := P
    exact ret r t h' tk' F' N' r1 r2 ⟨r3, r4⟩)
end
end
section
open PySem PySem.W PyProof.Rows PySem.Calls
abbrev T3 := Int × Int × Int
structure Data (c o root : Int) (ds : List T3) (one other : Int) : Prop where
  srt : ds.Pairwise fun a b => a.1 < b.1
  ent : ∀ d ∈ ds, 0 ≤ d.1 ∧ d.1 < c ∧ (d.2.1 - o * d.2.2 - d.1) % c = 0 ∧ 0 ≤ d.2.1 ∧ d.2.1 ≤ root ∧ 0 ≤ d.2.2 ∧ d.2.2 ≤ root ∧ (d.2.1 < one ∨ (d.2.1 = one ∧ d.2.2 < other))
  len : (ds.length : Int) = one * (root + 1) + other
theorem Data.nil {c o root : Int} : Data c o root [] 0 0 := ⟨List.Pairwise.nil, (fun d h => by cases h), by simp⟩
theorem getD_mem {ds : List T3} {i : Nat} (h : i < ds.length) : ds.getD i (0, 0, 0) ∈ ds := by
  simp [h]
theorem srt_getD {ds : List T3} (h : ds.Pairwise fun a b => a.1 < b.1) {i j : Nat} (hij : i < j) (hj : j < ds.length) : (ds.getD i (0, 0, 0)).1 < (ds.getD j (0, 0, 0)).1 := by
  have := List.pairwise_iff_getElem.mp h i j (by omega) hj hij
  simpa [hj, show i < ds.length by omega] using this
theorem lt3_true {x y : T3} (h : lt3 x y = true) : x.1 < y.1 ∨ (x.1 = y.1 ∧ (x.2.1 < y.2.1 ∨ (x.2.1 = y.2.1 ∧ x.2.2 < y.2.2))) := by
  unfold lt3 at h
  split at h
  · split at h
    · rename_i a b; simp at h; exact .inr ⟨a, .inr ⟨b, h⟩⟩
    · rename_i a b; simp at h; exact .inr ⟨a, .inl h⟩
  · simp at h; exact .inl h
theorem lt3_of {x y : T3} (h : x.1 < y.1) : lt3 x y = true := by
  unfold lt3
  rw [if_neg (by omega)]
  simp [h]
theorem lt3_false {x y : T3} (h : lt3 x y = false) : y.1 ≤ x.1 := by
  rcases Int.lt_or_le x.1 y.1 with q | q
  · rw [lt3_of q] at h; cases h
  · exact q
theorem cuts_of {ds : List T3} (h : ds.Pairwise fun a b => a.1 < b.1) (x : T3) : Cuts ds x := by
  intro i j hij hj ht
  rcases Nat.lt_or_ge i j with q | q
  · have h1 := srt_getD h q hj
    have h2 := lt3_true ht
    exact lt3_of (by omega)
  · have : i = j := by omega
    subst this; exact ht
theorem cuts_D {c o root one other : Int} {ds : List T3} (D : Data c o root ds one other) (x : T3) : Cuts ds x := cuts_of D.srt x
theorem place_lo {ds : List T3} {x : T3} {i : Int} (h : Place ds x i) : 0 ≤ i := h.1
theorem place_hi {ds : List T3} {x : T3} {i : Int} (h : Place ds x i) : i ≤ ds.length := h.2.1
/-- what the two numbers are -/
def TwoIs (c o x y : Int) : Prop := ∃ root, (root * root ≤ c ∧ c < (root + 1) * (root + 1)) ∧ -root ≤ x ∧ x ≤ root ∧ -root ≤ y ∧ y ≤ root ∧ ¬ (x = 0 ∧ y = 0) ∧ (x - o * y) % c = 0
theorem AtIs.mem {ds : List T3} {i : Int} {d : T3} (h : AtIs ds i d) (h0 : 0 ≤ i) (h1 : i < ds.length) : d ∈ ds := by
  unfold AtIs at h
  subst h
  exact getD_mem (by omega)
theorem found {c o root one other r a b i : Int} {ds : List T3} (h : Data c o root ds one other) (hr : root * root ≤ c ∧ c < (root + 1) * (root + 1)) (h0 : 0 ≤ i) (h1 : i < ds.length) (at_ : AtIs ds i (r, a, b)) (hm : (one - o * other - r) % c = 0)
    (b1 : 0 ≤ one) (b2 : one ≤ root) (b3 : 0 ≤ other) (b4 : other ≤ root) : TwoIs c o (one - a) (other - b) := by
  obtain ⟨e1, e2, e3, e4, e5, e6, e7, e8⟩ := h.ent _ (at_.mem h0 h1)
  simp only at e1 e2 e3 e4 e5 e6 e7 e8
  refine ⟨root, hr, by omega, by omega, by omega, by omega, fun q => ?_, ?_⟩
  · rcases e8 with e8 | e8 <;> omega
  · have e : one - a - o * (other - b) = (one - o * other - r) - (a - o * b - r) := by rw [Int.mul_sub]; omega
    rw [e, Int.sub_emod, hm, e3]
    simp
theorem absent {c o root one other r i : Int} {ds : List T3} (h : Data c o root ds one other) (hp : Place ds (r, -1, 0) i) (hn : i < ds.length → ∀ d, AtIs ds i d → d.1 ≠ r) : ∀ d ∈ ds, d.1 ≠ r := by
  obtain ⟨p0, p1, pl, pu⟩ := hp
  intro d hd e
  obtain ⟨j, hj, rfl⟩ := List.mem_iff_getElem.mp hd
  have ej : ds.getD j (0, 0, 0) = ds[j] := by simp [hj]
  rcases Int.lt_or_le (j : Int) i with q | q
  · have ht := lt3_true (pl j q)
    rw [ej] at ht
    obtain ⟨_, _, _, e4, _⟩ := h.ent _ hd
    simp only at ht
    omega
  · have hi : i < ds.length := by omega
    have h1 := hn hi _ rfl
    have h2 := lt3_false (pu i.toNat (by omega) (by omega))
    simp only at h2
    rcases Int.lt_or_eq_of_le q with q | q
    · have h3 := srt_getD h.srt (i := i.toNat) (j := j) (by omega) hj
      rw [ej] at h3
      omega
    · have : i.toNat = j := by omega
      rw [this] at h1
      rw [ej] at h1
      exact h1 e
theorem absent_end {c o root one other r i : Int} {ds : List T3} (h : Data c o root ds one other) (hp : Place ds (r, -1, 0) i) (hn : ¬ i < ds.length) : ∀ d ∈ ds, d.1 ≠ r := absent h hp fun q => absurd q hn
theorem absent_at {c o root one other r r' a b i : Int} {ds : List T3} (h : Data c o root ds one other) (hp : Place ds (r, -1, 0) i) (hat : AtIs ds i (r', a, b)) (hn : r' ≠ r) : ∀ d ∈ ds, d.1 ≠ r := absent h hp fun _ d hd => by
  unfold AtIs at hat hd
  rw [hat] at hd
  subst hd
  exact hn
theorem mem_ins {ds : List T3} {i : Nat} {x d : T3} (h : d ∈ ds.take i ++ x :: ds.drop i) : d = x ∨ d ∈ ds := by
  rcases List.mem_append.mp h with h | h
  · exact .inr (List.mem_of_mem_take h)
  · rcases List.mem_cons.mp h with h | h
    · exact .inl h
    · exact .inr (List.mem_of_mem_drop h)
theorem insert_ {c o root one other r i : Int} {ds : List T3} (h : Data c o root ds one other) (ha : ∀ d ∈ ds, d.1 ≠ r) (hp : Place ds (r, one, other) i) (hr0 : 0 ≤ r) (hr1 : r < c) (hm : (one - o * other - r) % c = 0)
    (b1 : 0 ≤ one) (b2 : one ≤ root) (b3 : 0 ≤ other) (b4 : other ≤ root) : Data c o root (ds.take i.toNat ++ (r, one, other) :: ds.drop i.toNat) one (other + 1) := by
  obtain ⟨p0, p1, pl, pu⟩ := hp
  have hlo : ∀ d ∈ ds.take i.toNat, d.1 < r := by
    intro d hd
    obtain ⟨j, hj, rfl⟩ := List.mem_iff_getElem.mp hd
    have hj' : j < i.toNat ∧ j < ds.length := by
      rw [List.length_take] at hj; omega
    have ht := lt3_true (pl j (by omega))
    have ej : ds.getD j (0, 0, 0) = ds[j]'hj'.2 := by simp [hj'.2]
    rw [ej] at ht
    have hne := ha _ (List.getElem_mem hj'.2)
    rw [List.getElem_take]
    simp only at ht
    omega
  have hhi : ∀ d ∈ ds.drop i.toNat, r < d.1 := by
    intro d hd
    obtain ⟨j, hj, rfl⟩ := List.mem_iff_getElem.mp hd
    have hj' : i.toNat + j < ds.length := by
      rw [List.length_drop] at hj; omega
    have ht := lt3_false (pu (i.toNat + j) (by omega) hj')
    have ej : ds.getD (i.toNat + j) (0, 0, 0) = ds[i.toNat + j]'hj' := by simp [hj']
    rw [ej] at ht
    have hne := ha _ (List.getElem_mem hj')
    rw [List.getElem_drop]
    simp only at ht
    omega
  refine ⟨?_, fun d hd => ?_, ?_⟩
  · refine List.pairwise_append.mpr ⟨h.srt.sublist (List.take_sublist ..), List.pairwise_cons.mpr ⟨hhi, h.srt.sublist (List.drop_sublist ..)⟩, fun a ha b hb => ?_⟩
    rcases List.mem_cons.mp hb with rfl | hb
    · exact hlo a ha
    · exact Int.lt_trans (hlo a ha) (hhi b hb)
  · rcases mem_ins hd with rfl | hd
    · exact ⟨hr0, hr1, hm, b1, b2, b3, b4, .inr ⟨rfl, by simp only; omega⟩⟩
    · obtain ⟨e1, e2, e3, e4, e5, e6, e7, e8⟩ := h.ent _ hd
      exact ⟨e1, e2, e3, e4, e5, e6, e7, by omega⟩
  · have := h.len
    rw [List.length_append, List.length_cons, List.length_take, List.length_drop]
    omega
theorem shift_ {c o root one : Int} {ds : List T3} (h : Data c o root ds one (root + 1)) : Data c o root ds (one + 1) 0 := by
  refine ⟨h.srt, fun d hd => ?_, ?_⟩
  · obtain ⟨e1, e2, e3, e4, e5, e6, e7, e8⟩ := h.ent _ hd
    exact ⟨e1, e2, e3, e4, e5, e6, e7, by omega⟩
  · have := h.len
    rw [Int.add_mul, Int.one_mul]
    omega
theorem len_le {ds : List T3} : ∀ {lo c : Int}, (ds.Pairwise fun a b => a.1 < b.1) → (∀ d ∈ ds, lo ≤ d.1 ∧ d.1 < c) → lo ≤ c → (ds.length : Int) ≤ c - lo := by
  induction ds with
  | nil => intro lo c _ _ h; simp; omega
  | cons d r ih =>
    intro lo c hs hb hl
    obtain ⟨h1, h2⟩ := List.pairwise_cons.mp hs
    have hd := hb d (.head _)
    have := ih (lo := d.1 + 1) (c := c) h2 (fun e he => ⟨by have := h1 e he; omega, (hb e (.tail _ he)).2⟩) (by omega)
    rw [List.length_cons]
    omega
theorem pigeon {c o root : Int} {ds : List T3} (h : Data c o root ds (root + 1) 0) (hr : root * root ≤ c ∧ c < (root + 1) * (root + 1)) (hc : 0 ≤ c) : False := by
  have h1 := len_le (lo := 0) (c := c) h.srt (fun d hd => ⟨(h.ent d hd).1, (h.ent d hd).2.1⟩) hc
  have h2 := h.len
  omega
theorem TripAll.take {all : List (Addr × Obj)} {vs : List Value} {ds : List T3} (h : TripAll all vs ds) : ∀ i : Nat, TripAll all (vs.take i) (ds.take i) := by
  induction h with
  | nil => intro i; simp; exact .nil
  | cons hm _ ih =>
    intro i
    cases i with
    | zero => exact .nil
    | succ i => exact .cons hm (ih i)
theorem TripAll.drop {all : List (Addr × Obj)} {vs : List Value} {ds : List T3} (h : TripAll all vs ds) : ∀ i : Nat, TripAll all (vs.drop i) (ds.drop i) := by
  induction h with
  | nil => intro i; simp; exact .nil
  | cons hm ht ih =>
    intro i
    cases i with
    | zero => exact .cons hm ht
    | succ i => exact ih i
theorem TripAll.append {all : List (Addr × Obj)} {vs us : List Value} {ds es : List T3} (h : TripAll all vs ds) (k : TripAll all us es) : TripAll all (vs ++ us) (ds ++ es) := by
  induction h with
  | nil => exact k
  | cons hm _ ih => exact .cons hm ih
theorem TripAll.ins {all : List (Addr × Obj)} {vs : List Value} {ds : List T3} {a : Addr} {r o p : Int} {t1 t2 t3 : Tok} {n : Nat} (h : TripAll all vs ds) (hm : (a, ({ cls := .type "tuple", data := .seq #[.int r t1, .int o t2, .int p t3] n } : Obj)) ∈ all) (i : Nat) :
    TripAll all (vs.take i ++ .ref a :: vs.drop i) (ds.take i ++ (r, o, p) :: ds.drop i) := (h.take i).append (.cons hm (h.drop i))
theorem found3 {c o root one other r r1 o1 p1 r2 o2 p2 r3 o3 p3 i : Int} {ds : List T3} (h : Data c o root ds one other) (hr : root * root ≤ c ∧ c < (root + 1) * (root + 1)) (h0 : 0 ≤ i) (h1 : i < ds.length) (e : r1 = r) (a1 : AtIs ds i (r1, o1, p1)) (a2 : AtIs ds i (r2, o2, p2)) (a3 : AtIs ds i (r3, o3, p3)) (hm : (one - o * other - r) % c = 0)
    (b1 : 0 ≤ one) (b2 : one ≤ root) (b3 : 0 ≤ other) (b4 : other ≤ root) : TwoIs c o (one - o2) (other - p3) := by
  subst e
  unfold AtIs at a1 a2 a3
  rw [a1] at a2 a3
  obtain ⟨rfl, rfl, rfl⟩ : r1 = r2 ∧ o1 = o2 ∧ p1 = p2 := by simpa using a2
  obtain ⟨_, _, rfl⟩ : r1 = r3 ∧ o1 = o3 ∧ p1 = p3 := by simpa using a3
  exact found h hr h0 h1 a1 hm b1 b2 b3 b4
end
section
open PySem PySem.W PyProof.Rows PySem.Calls PyProof.V PySem.Spec
section
variable {prog : Program} {w : World} {A : Around} {E : Value → Shared → Prop} {s : Shared} {env : Env} {h₀ : Heap} {x : Str} {body : List Stmt} {Q : Flow → Shared → Prop}
def RngPost (h₀ : Heap) (L : Addr) (x : Str) (stored : List Str) (m₀ : Str → Option Value) (J : List (Addr × Obj) → Prop) (own : List (Addr × Obj)) (s₁ : Shared) (Q : Flow → Shared → Prop) (f : Flow) (s₂ : Shared) : Prop :=
  (∃ v, f = .ret v ∧ Q (.ret v) s₂) ∨ (f = .brk ∧ Q .next s₂) ∨ ((f = .next ∨ f = .cont) ∧ ∃ h' tk m' news' nx, s₂ = { s₁ with heap := h', toks := tk } ∧ Fr h₀ L h' m' ∧ News h₀ L h' news' ∧ (∀ p ∈ nx, p ∈ news') ∧ (∀ p ∈ own, p ∈ news') ∧ OwnOff own (nx.map (·.1)) ∧
    (∀ z, z ≠ x → stored.contains z = false → m' z = m₀ z) ∧ J nx)
theorem RngPost.next {L : Addr} {x : Str} {stored : List Str} {m₀ m' : Str → Option Value} {J : List (Addr × Obj) → Prop} {own news' nx : List (Addr × Obj)} {s₁ : Shared} {h' : Heap} {tk : Nat}
    (F : Fr h₀ L h' m') (N : News h₀ L h' news') (hn : ∀ p ∈ nx, p ∈ news') (ho : ∀ p ∈ own, p ∈ news') (hf : OwnOff own (nx.map (·.1))) (hm : ∀ z, z ≠ x → stored.contains z = false → m' z = m₀ z) (hj : J nx) :
    RngPost h₀ L x stored m₀ J own s₁ Q .next { s₁ with heap := h', toks := tk } := .inr (.inr ⟨.inl rfl, h', tk, m', news', nx, rfl, F, N, hn, ho, hf, hm, hj⟩)
theorem RngPost.ret {L : Addr} {x : Str} {stored : List Str} {m₀ : Str → Option Value} {J : List (Addr × Obj) → Prop} {own : List (Addr × Obj)} {s₁ s₂ : Shared} {v : Value} (h : Q (.ret v) s₂) : RngPost h₀ L x stored m₀ J own s₁ Q (.ret v) s₂ := .inl ⟨v, rfl, h⟩
theorem RngPost.brk {L : Addr} {x : Str} {stored : List Str} {m₀ : Str → Option Value} {J : List (Addr × Obj) → Prop} {own : List (Addr × Obj)} {s₁ s₂ : Shared} (h : Q .next s₂) : RngPost h₀ L x stored m₀ J own s₁ Q .brk s₂ := .inr (.inl ⟨rfl, h⟩)
theorem rng_map {stored : List Str} {m₀ m₁ : Str → Option Value} (h : ∀ z, z ≠ x → stored.contains z = false → m₁ z = m₀ z) (v : Option Value) :
    (fun y => if y = x then v else m₁ y) = fun y => if y = x then v else if stored.contains y = true then m₁ y else m₀ y := by
  funext y
  by_cases h1 : y = x
  · simp [h1]
  · simp only [if_neg h1]
    cases h2 : stored.contains y with
    | true => simp
    | false => simp only [Bool.false_eq_true, if_false]; exact h y h1 h2
theorem rng_loop {r : Addr} {a₀ b₀ : Int} {t₀ u₀ v₀ : Tok} {n : Nat} {m₀ : Str → Option Value} {all nx₀ : List (Addr × Obj)} (stored : List Str) (J : Nat → List (Addr × Obj) → Prop)
    (hh : A.handled = none) (hr : IsRange s.heap r a₀ b₀ 1 t₀ u₀ v₀) (hsmall : Builtin.Range.small a₀ b₀ 1 = true) (hsz : Builtin.Range.rangeSize a₀ b₀ 1 = (n : Int)) (F : Fr h₀ env.locals s.heap m₀) (N : News h₀ env.locals s.heap all) (hn : ∀ p ∈ nx₀, p ∈ all) (hj : J 0 nx₀)
    (turn : ∀ (i : Nat) (k : Int) t (u : Str → Option Value) nx h tk own, i < n → k = a₀ + (i : Int) → OwnOff own (nx.map (·.1)) → J i nx →
      Fr h₀ env.locals h (fun y => if y = x then some (.int k t) else if stored.contains y = true then u y else m₀ y) → News h₀ env.locals h (nx ++ own) →
      wpAny (model prog w) A (execs body env) (RngPost h₀ env.locals x stored m₀ (J (i + 1)) own { s with heap := h, toks := tk } Q) E { s with heap := h, toks := tk })
    (done : ∀ (u : Str → Option Value) nx h tk, J n nx → Fr h₀ env.locals h (fun y => if y = x then u y else if stored.contains y = true then u y else m₀ y) → News h₀ env.locals h nx → Q .next { s with heap := h, toks := tk }) :
    wpAny (model prog w) A (pyIter (.ref r)) (fun it s₂ => LoopAtV prog w A h₀ env x body Q E it s₂) E s := by
  refine wpAny_pyIter_range hr hsmall ?_
  have W : Walks prog w A s.heap.objs.size [s.heap.objs.size] [s.heap.objs.size] n (fun i v => i < n ∧ ∃ t, v = .int (a₀ + i * 1) t)
      (fun i h => IsRangeIter h s.heap.objs.size (a₀ + (i : Nat) * 1) ((n : Int) - (i : Nat)) 1) := (Walks.range hh _ a₀ 1 n).bound
  refine kdr_loop (fun i m nx => (∀ z, z ≠ x → stored.contains z = false → m z = m₀ z) ∧ J i nx) W (fun _ h => h) (fun _ h => h) ?_ ?_ ?_ ?_ (by show IsRangeIter _ _ _ _ _; rw [hsz]; simpa using Heap.get?_push_size _ rfl) (F.push _) (fun p hp => ⟨Heap.get?_push_of_some _ (N p (hn p hp)).1, (N p (hn p hp)).2⟩) ⟨fun _ _ _ => rfl, hj⟩ ?_ ?_
  · intro i h hi b hb
    rw [List.mem_singleton.mp hb]
    exact ⟨_, hi⟩
  · intro hm
    exact absurd F.ns.lt ((List.mem_singleton.mp hm) ▸ Nat.lt_irrefl _)
  · intro b hb
    rw [List.mem_singleton.mp hb]
    exact next_is_new F
  · intro p hp hI
    exact absurd (Heap.lt_size (N p (hn p hp)).1) ((List.mem_singleton.mp hI) ▸ Nat.lt_irrefl _)
  · rintro i v m₁ nx h tk own hi ⟨_, t, rfl⟩ hoff ⟨hm, hJ⟩ F₁ N₁
    rw [rng_map hm] at F₁
    refine wpAny_mono (turn i _ t m₁ nx h tk own hi (by omega) hoff hJ F₁ N₁) (fun f s₂ p => ?_) fun _ _ e => e
    rcases p with ⟨v, rfl, q⟩ | ⟨rfl, q⟩ | ⟨hf, h', tk', m', news', nx', rfl, F', N', h1, h2, h3, h4, h5⟩
    · exact q
    · exact q
    · rcases hf with rfl | rfl
      · exact ⟨h', tk', m', news', nx', rfl, F', N', h1, h2, h3, h4, h5⟩
      · exact ⟨h', tk', m', news', nx', rfl, F', N', h1, h2, h3, h4, h5⟩
  · rintro m₁ nx h tk ⟨hm, hJ⟩ F₁ N₁
    refine done m₁ nx h tk hJ ?_ N₁
    have e := rng_map hm (m₁ x)
    have e2 : (fun y => if y = x then m₁ x else m₁ y) = m₁ := by
      funext y
      by_cases h1 : y = x
      · simp [h1]
      · simp [h1]
    rw [e2] at e
    have e3 : (fun y => if y = x then m₁ y else if stored.contains y = true then m₁ y else m₀ y) = fun y => if y = x then m₁ x else if stored.contains y = true then m₁ y else m₀ y := by
      funext y
      by_cases h1 : y = x
      · simp [h1]
      · simp [h1]
    rw [e3, ← e]
    exact F₁
end
end
section
open PySem PySem.W PyProof.Rows PySem.Calls PyProof.V PySem.Spec
structure St (rest cds : List (Addr × Obj)) (ord : Addr) (ps qs : Array Value) (R : List (Addr × Obj)) (vs : List Value) (ds : List T3) (restC cdsC : List (Addr × Obj)) : Prop where
  tabs : Tabs ps qs cdsC R
  grow : Grown rest cds restC cdsC
  subC : ∀ p ∈ restC, p ∈ R
  subD : ∀ p ∈ cdsC, p ∈ restC
  off : OwnOff R [ord]
  trip : TripAll R vs ds
abbrev Led (ord : Addr) (vs : List Value) (k : Nat) (ps qs : Array Value) (T : List (Addr × Obj)) : List (Addr × Obj) := (ord, listOf vs.toArray k) :: (30, tabObj ps) :: (37, tabObj qs) :: T
def Apart (O : List (Addr × Obj)) (ord : Addr) (R : List (Addr × Obj)) : Prop := OwnOff O (ord :: 30 :: 37 :: R.map (·.1))
theorem Apart.ne {O R : List (Addr × Obj)} {ord : Addr} (h : Apart O ord R) {p q : Addr × Obj} (hp : p ∈ O) (hq : q ∈ R) : p.1 ≠ q.1 := h p hp _ (.tail _ (.tail _ (.tail _ (List.mem_map_of_mem hq))))
theorem Apart.ord {O R : List (Addr × Obj)} {ord : Addr} (h : Apart O ord R) {p : Addr × Obj} (hp : p ∈ O) : p.1 ≠ ord := h p hp _ (.head _)
theorem Apart.t30 {O R : List (Addr × Obj)} {ord : Addr} (h : Apart O ord R) {p : Addr × Obj} (hp : p ∈ O) : p.1 ≠ 30 := h p hp _ (.tail _ (.head _))
theorem Apart.t37 {O R : List (Addr × Obj)} {ord : Addr} (h : Apart O ord R) {p : Addr × Obj} (hp : p ∈ O) : p.1 ≠ 37 := h p hp _ (.tail _ (.tail _ (.head _)))
theorem Apart.of {O R : List (Addr × Obj)} {ord : Addr} (h1 : ∀ p ∈ O, p.1 ≠ ord) (h2 : ∀ p ∈ O, p.1 ≠ 30) (h3 : ∀ p ∈ O, p.1 ≠ 37) (h4 : ∀ p ∈ O, ∀ q ∈ R, p.1 ≠ q.1) : Apart O ord R := by
  intro p hp b hb
  rcases List.mem_cons.mp hb with rfl | hb
  · exact h1 p hp
  · rcases List.mem_cons.mp hb with rfl | hb
    · exact h2 p hp
    · rcases List.mem_cons.mp hb with rfl | hb
      · exact h3 p hp
      · obtain ⟨q, hq, rfl⟩ := List.mem_map.mp hb
        exact h4 p hp q hq
section
variable {rest cds R O : List (Addr × Obj)} {ord : Addr} {ps qs : Array Value} {vs : List Value} {ds : List T3} {restC cdsC : List (Addr × Obj)}
theorem St.off3 (S : St rest cds ord ps qs R vs ds restC cdsC) (W : Apart O ord R) : OwnOff (R ++ O) [30, 37, ord] := by
  intro p hp b hb
  rcases List.mem_append.mp hp with hp | hp
  · rcases List.mem_cons.mp hb with rfl | hb
    · exact S.tabs.off p hp _ (.head _)
    · rcases List.mem_cons.mp hb with rfl | hb
      · exact S.tabs.off p hp _ (.tail _ (.head _))
      · exact S.off p hp b hb
  · rcases List.mem_cons.mp hb with rfl | hb
    · exact W.t30 hp
    · rcases List.mem_cons.mp hb with rfl | hb
      · exact W.t37 hp
      · rw [List.mem_singleton.mp hb]; exact W.ord hp
end
def Often (c o : Int) : Prop := 0 ≤ o ∧ o < c
/-- between the turns -/
def TJ (rest cds : List (Addr × Obj)) (ord : Addr) (c o root : Int) (O : List (Addr × Obj)) (one other : Int) (nx : List (Addr × Obj)) : Prop :=
  ∃ ps qs R vs k ds restC cdsC, nx = Led ord vs k ps qs (R ++ O) ∧ St rest cds ord ps qs R vs ds restC cdsC ∧ Apart O ord R ∧ Data c o root ds one other
section
variable {prog : Program} {w : World} {p : Program} {loose : List Str} {mean : ExcName → Option Value} {mg mb : Str → Option Value} {dp un : Nat} {gd : Option (List Code)} {cn : Str} {cs : Scope} {a : Addr} {ccd : Value} {cl : List (Str × Addr)} {outer : List Env} {A₀ : Around} {base h₀ : Heap} {L : Addr} {m : Str → Option Value} {s : Shared}
    {Q E : Value → Shared → Prop} {rest cds R O restC cdsC : List (Addr × Obj)} {ps qs : Array Value} {ord : Addr} {vs : List Value} {ds : List T3} {k : Nat}
theorem two_divmod {x b : Int} {tx tb : Tok} (B : Below A₀ base outer h₀) (F : Fr h₀ L s.heap m) (X : (hd.heap_39 w.params).In h₀) (T : Top p loose mean mg mb h₀) (hk : cs.kind = .function) (hd : dp + 12 < recursionLimit) (hu : un + 30 < cLine)
    (S : St rest cds ord ps qs R vs ds restC cdsC) (W : Apart O ord R) (N : News h₀ L s.heap (Led ord vs k ps qs (R ++ O))) (h37 : @LT.lt Nat _ 37 ord) (hb : 2 ≤ b) (hb2 : b ≤ 52) (hx : -2704 ≤ x) (hx2 : x < 2704) (hxb : x < b * b) (hxb2 : -x - 1 < b * b)
    (ret : ∀ ps' qs' R' restC' cdsC' t q tq r tr h' tk', Fr h₀ L h' m → News h₀ L h' ((t, ({ cls := .type "tuple", data := .seq [.int q tq, .int r tr].toArray } : Obj)) :: Led ord vs k ps' qs' (R' ++ O)) → St rest cds ord ps' qs' R' vs ds restC' cdsC' → Apart O ord R' →
      OwnOff (R' ++ O) [30, 37, ord] → OwnOff (R' ++ O) [t] → @LT.lt Nat _ ord t → ModIs x b r → 0 ≤ r → r < b → Q (.ref t) { s with heap := h', toks := tk' }) :
    wpAny (model prog w) (ktrTop dp un gd cn cs L a ccd cl outer) (call (.ref 56) [.int x tx, .int b tb]) Q E s := by
  have O3 := S.off3 W
  refine idm prog w p loose mean mg mb x b tx tb hb hb2 hx hx2 hxb hxb2 ((ord, listOf vs.toArray k) :: (R ++ O)) cdsC ps qs ⟨S.tabs.s30, S.tabs.s37, ?_, fun p hp => .tail _ (List.mem_append.mpr (.inl (S.tabs.sub p hp)))⟩ dp un gd cn cs a ccd cl outer A₀ base h₀ L m s Q E B F X (fun p hp => ?_) T hk hd hu ?_
  · intro p hp b hb
    rcases List.mem_cons.mp hp with rfl | hp
    · rcases List.mem_cons.mp hb with rfl | hb
      · exact Nat.ne_of_gt (Nat.lt_trans (by decide) h37)
      · rw [List.mem_singleton.mp hb]; exact Nat.ne_of_gt h37
    · rcases List.mem_cons.mp hb with rfl | hb
      · exact O3 p hp _ (.head _)
      · rw [List.mem_singleton.mp hb]; exact O3 p hp _ (.tail _ (.head _))
  · rcases List.mem_cons.mp hp with rfl | hp
    · exact N _ (.tail _ (.head _))
    · rcases List.mem_cons.mp hp with rfl | hp
      · exact N _ (.tail _ (.tail _ (.head _)))
      · rcases List.mem_cons.mp hp with rfl | hp
        · exact N _ (.head _)
        · exact N _ (.tail _ (.tail _ (.tail _ hp)))
  · rintro v news' h' tk' F' N' ⟨ps', qs', rest', cds', t, q, tq, tr, rfl, rfl, hT, ⟨add, rfl, rfl, hf, h37a⟩, ho, hl, h37t⟩
    have inR : ∀ p ∈ R, p ∈ (ord, listOf vs.toArray k) :: (R ++ O) := fun p hp => .tail _ (List.mem_append.mpr (.inl hp))
    have inO : ∀ p ∈ O, p ∈ (ord, listOf vs.toArray k) :: (R ++ O) := fun p hp => .tail _ (List.mem_append.mpr (.inr hp))
    have sub : ∀ p ∈ (add ++ R) ++ O, p ∈ add ++ (ord, listOf vs.toArray k) :: (R ++ O) := by
      intro p hp
      rcases List.mem_append.mp hp with hp | hp
      · rcases List.mem_append.mp hp with hp | hp
        · exact List.mem_append.mpr (.inl hp)
        · exact List.mem_append.mpr (.inr (inR p hp))
      · exact List.mem_append.mpr (.inr (inO p hp))
    have S' : St rest cds ord ps' qs' (add ++ R) vs ds (add ++ restC) (add ++ cdsC) := by
      refine ⟨⟨hT.s30, hT.s37, fun p hp => hT.off p (sub p (List.mem_append.mpr (.inl hp))), fun p hp => ?_⟩, S.grow.trans ⟨add, rfl, rfl, hf.sub fun p hp => inR p (S.subC p hp), h37a⟩, fun p hp => ?_, fun p hp => ?_, fun p hp b hb => ?_, S.trip.mono fun p hp => List.mem_append.mpr (.inr hp)⟩
      · exact List.mem_append.mpr ((List.mem_append.mp hp).imp id (S.tabs.sub p))
      · exact List.mem_append.mpr ((List.mem_append.mp hp).imp id (S.subC p))
      · exact List.mem_append.mpr ((List.mem_append.mp hp).imp id (S.subD p))
      · rcases List.mem_append.mp hp with hp | hp
        · rw [List.mem_singleton.mp hb]; exact Nat.ne_of_gt (hf p hp _ (.head _))
        · exact S.off p hp b hb
    have W' : Apart O ord (add ++ R) := Apart.of (fun p hp => W.ord hp) (fun p hp => W.t30 hp) (fun p hp => W.t37 hp) fun p hp q hq => by
      rcases List.mem_append.mp hq with hq | hq
      · exact Nat.ne_of_lt (hf q hq _ (inO p hp))
      · exact W.ne hp hq
    refine ret ps' qs' (add ++ R) (add ++ restC) (add ++ cdsC) t q tq _ tr h' tk' F' (fun p hp => ?_) S' W' (S'.off3 W') (fun p hp b hb => ho p (sub p hp) b hb) hl.1 rfl (Int.emod_nonneg _ (by omega)) (Int.emod_lt_of_pos _ (by omega))
    rcases List.mem_cons.mp hp with rfl | hp
    · exact N' _ (.head _)
    · rcases List.mem_cons.mp hp with rfl | hp
      · exact N' _ (.tail _ (.tail _ (.tail _ (List.mem_append.mpr (.inr (.head _))))))
      · rcases List.mem_cons.mp hp with rfl | hp
        · exact N' _ (.tail _ (.head _))
        · rcases List.mem_cons.mp hp with rfl | hp
          · exact N' _ (.tail _ (.tail _ (.head _)))
          · exact N' _ (.tail _ (.tail _ (.tail _ (sub p hp))))
end
section
variable {prog : Program} {w : World} {A : Around} {E : Value → Shared → Prop} {s : Shared} {env : Env} {h₀ : Heap} {body : List Stmt} {Q : Flow → Shared → Prop} {rest cds R O restC cdsC : List (Addr × Obj)} {ps qs : Array Value} {ord : Addr} {vs : List Value} {ds : List T3} {k : Nat} {c o root one : Int}
theorem Apart.app {own : List (Addr × Obj)} (W : Apart O ord R) (h : OwnOff own ((Led ord vs k ps qs (R ++ O)).map (·.1))) : Apart (O ++ own) ord R ∧ OwnOff own (O.map (·.1)) := by
  refine ⟨Apart.of (fun p hp => ?_) (fun p hp => ?_) (fun p hp => ?_) fun p hp q hq => ?_, fun p hp b hb => ?_⟩
  · exact (List.mem_append.mp hp).elim (fun h => W.ord h) fun hp => h p hp _ (.head _)
  · exact (List.mem_append.mp hp).elim (fun h => W.t30 h) fun hp => h p hp _ (.tail _ (.head _))
  · exact (List.mem_append.mp hp).elim (fun h => W.t37 h) fun hp => h p hp _ (.tail _ (.tail _ (.head _)))
  · exact (List.mem_append.mp hp).elim (fun h => W.ne h hq) fun hp => h p hp _ (.tail _ (.tail _ (.tail _ (List.mem_map_of_mem (List.mem_append.mpr (.inl hq))))))
  · obtain ⟨q, hq, rfl⟩ := List.mem_map.mp hb
    exact h p hp _ (.tail _ (.tail _ (.tail _ (List.mem_map_of_mem (List.mem_append.mpr (.inr hq))))))
theorem data_len {c o root one other : Int} {ds : List T3} (D : Data c o root ds one other) (h0 : 0 ≤ root) (h1 : root ≤ 7) (h2 : 0 ≤ one) (h3 : one ≤ root + 1) (h4 : 0 ≤ other) (h5 : other ≤ root + 1) : ds.length < 1000 := by
  have := D.len
  have e : one * (root + 1) ≤ 8 * 8 := Int.mul_le_mul (by omega) (by omega) (by omega) (by omega)
  omega
theorem two_inner {r : Addr} {t₀ u₀ v₀ : Tok} {m₀ : Str → Option Value} {all : List (Addr × Obj)}
    (hh : A.handled = none) (hr : IsRange s.heap r 0 (root + 1) 1 t₀ u₀ v₀) (h1 : 1 ≤ root) (h7 : root ≤ 7) (b1 : 0 ≤ one) (b2 : one ≤ root) (F : Fr h₀ env.locals s.heap m₀) (N : News h₀ env.locals s.heap all) (hn : ∀ p ∈ Led ord vs k ps qs (R ++ O), p ∈ all) (S : St rest cds ord ps qs R vs ds restC cdsC) (W : Apart O ord R) (D : Data c o root ds one 0)
    (turn : ∀ (other : Int) t (u : Str → Option Value) ps qs R vs k ds restC cdsC h tk own, 0 ≤ other → other ≤ root → St rest cds ord ps qs R vs ds restC cdsC → Apart (O ++ own) ord R → OwnOff own (O.map (·.1)) → OwnOff (R ++ (O ++ own)) [30, 37, ord] → Data c o root ds one other → ds.length < 1000 →
      Fr h₀ env.locals h (fun y => if y = Str.ofString "other" then some (.int other t) else if ([Str.ofString "rest", Str.ofString "place"] : List Str).contains y = true then u y else m₀ y) → News h₀ env.locals h (Led ord vs k ps qs (R ++ (O ++ own))) →
      wpAny (model prog w) A (execs body env) (RngPost h₀ env.locals (Str.ofString "other") [Str.ofString "rest", Str.ofString "place"] m₀ (TJ rest cds ord c o root O one (other + 1)) own { s with heap := h, toks := tk } Q) E { s with heap := h, toks := tk })
    (done : ∀ (u : Str → Option Value) ps qs R vs k ds restC cdsC h tk, St rest cds ord ps qs R vs ds restC cdsC → Apart O ord R → Data c o root ds one (root + 1) → Fr h₀ env.locals h (fun y => if y = Str.ofString "other" then u y else if ([Str.ofString "rest", Str.ofString "place"] : List Str).contains y = true then u y else m₀ y) →
      News h₀ env.locals h (Led ord vs k ps qs (R ++ O)) → Q .next { s with heap := h, toks := tk }) :
    wpAny (model prog w) A (pyIter (.ref r)) (fun it s₂ => LoopAtV prog w A h₀ env (Str.ofString "other") body Q E it s₂) E s := by
  refine rng_loop (n := (root + 1 - 0).toNat) [Str.ofString "rest", Str.ofString "place"] (fun i nx => TJ rest cds ord c o root O one i nx) hh hr (small_one (by omega) (by omega) (by omega) (by omega)) (rangeSize_nat _ _) F N hn ⟨ps, qs, R, vs, k, ds, restC, cdsC, rfl, S, W, D⟩ ?_ ?_
  · rintro i n t u nx h tk own hi rfl hoff ⟨ps, qs, R, vs, k, ds, restC, cdsC, rfl, S, W, D⟩ F₁ N₁
    obtain ⟨W', o1⟩ := W.app hoff
    have e : (Led ord vs k ps qs (R ++ O)) ++ own = Led ord vs k ps qs (R ++ (O ++ own)) := by simp [Led, List.append_assoc]
    rw [e] at N₁
    have e2 : ((0 : Int) + (i : Int)) = (i : Int) := Int.zero_add _
    rw [e2] at F₁
    exact turn i t u ps qs R vs k ds restC cdsC h tk own (by omega) (by omega) S W' o1 (S.off3 W') D (data_len D (by omega) h7 b1 (by omega) (by omega) (by omega)) F₁ N₁
  · rintro u nx h tk ⟨ps, qs, R, vs, k, ds, restC, cdsC, rfl, S, W, D⟩ F₁ N₁
    have e : (((root + 1 - 0).toNat : Nat) : Int) = root + 1 := by omega
    rw [e] at D
    exact done u ps qs R vs k ds restC cdsC h tk S W D F₁ N₁
theorem two_outer {r : Addr} {t₀ u₀ v₀ : Tok} {m₀ : Str → Option Value} {all : List (Addr × Obj)}
    (hh : A.handled = none) (hr : IsRange s.heap r 0 (root + 1) 1 t₀ u₀ v₀) (h1 : 1 ≤ root) (h7 : root ≤ 7) (hc : 0 ≤ c) (hrt : RootIs c root) (_hO : Often c o) (F : Fr h₀ env.locals s.heap m₀) (N : News h₀ env.locals s.heap all) (hn : ∀ p ∈ Led ord vs k ps qs R, p ∈ all) (S : St rest cds ord ps qs R vs ds restC cdsC) (D : Data c o root ds 0 0)
    (turn : ∀ (one : Int) t (u : Str → Option Value) ps qs R vs k ds restC cdsC h tk own, 0 ≤ one → one ≤ root → St rest cds ord ps qs R vs ds restC cdsC → Apart own ord R → OwnOff (R ++ own) [30, 37, ord] → Data c o root ds one 0 →
      Fr h₀ env.locals h (fun y => if y = Str.ofString "one" then some (.int one t) else if ([Str.ofString "other", Str.ofString "rest", Str.ofString "place"] : List Str).contains y = true then u y else m₀ y) → News h₀ env.locals h (Led ord vs k ps qs (R ++ own)) →
      wpAny (model prog w) A (execs body env) (RngPost h₀ env.locals (Str.ofString "one") [Str.ofString "other", Str.ofString "rest", Str.ofString "place"] m₀ (TJ rest cds ord c o root [] (one + 1) 0) own { s with heap := h, toks := tk } Q) E { s with heap := h, toks := tk }) :
    wpAny (model prog w) A (pyIter (.ref r)) (fun it s₂ => LoopAtV prog w A h₀ env (Str.ofString "one") body Q E it s₂) E s := by
  have ap : Apart [] ord R := fun p hp => by cases hp
  refine rng_loop (n := (root + 1 - 0).toNat) (nx₀ := Led ord vs k ps qs (R ++ [])) [Str.ofString "other", Str.ofString "rest", Str.ofString "place"] (fun i nx => TJ rest cds ord c o root [] i 0 nx) hh hr (small_one (by omega) (by omega) (by omega) (by omega)) (rangeSize_nat _ _) F N (by rw [List.append_nil]; exact hn) ⟨ps, qs, R, vs, k, ds, restC, cdsC, rfl, S, ap, D⟩ ?_ ?_
  · rintro i n t u nx h tk own hi rfl hoff ⟨ps, qs, R, vs, k, ds, restC, cdsC, rfl, S, W, D⟩ F₁ N₁
    obtain ⟨W', o1⟩ := W.app hoff
    have e : (Led ord vs k ps qs (R ++ [])) ++ own = Led ord vs k ps qs (R ++ own) := by simp [Led]
    rw [e] at N₁
    rw [List.nil_append] at W'
    have e2 : ((0 : Int) + (i : Int)) = (i : Int) := Int.zero_add _
    rw [e2] at F₁
    exact turn i t u ps qs R vs k ds restC cdsC h tk own (by omega) (by omega) S W' (S.off3 W') D F₁ N₁
  · rintro u nx h tk ⟨ps, qs, R, vs, k, ds, restC, cdsC, rfl, S, W, D⟩ F₁ N₁
    have e : (((root + 1 - 0).toNat : Nat) : Int) = root + 1 := by omega
    rw [e] at D
    exact (pigeon D hrt hc).elim
theorem two_next {x : Str} {stored : List Str} {other i r : Int} {own : List (Addr × Obj)} {tn : Addr} {m₀ m' : Str → Option Value} {s₁ : Shared} {h' : Heap} {tk k' : Nat} {t1 t2 t3 : Tok} {L : Addr}
    (F : Fr h₀ L h' m') (N : News h₀ L h' ((ord, listOf (vs.take i.toNat ++ .ref tn :: vs.drop i.toNat).toArray k') :: (tn, ({ cls := .type "tuple", data := .seq #[.int r t1, .int one t2, .int other t3] } : Obj)) :: (30, tabObj ps) :: (37, tabObj qs) :: (R ++ (O ++ own))))
    (S : St rest cds ord ps qs R vs ds restC cdsC) (W : Apart (O ++ own) ord R) (o1 : OwnOff own (O.map (·.1))) (hl : AllLt tn (R ++ (O ++ own))) (hord : @LT.lt Nat _ ord tn) (h37 : @LT.lt Nat _ 37 tn) (D : Data c o root (ds.take i.toNat ++ (r, one, other) :: ds.drop i.toNat) one (other + 1))
    (hm : ∀ z, z ≠ x → stored.contains z = false → m' z = m₀ z) :
    RngPost h₀ L x stored m₀ (TJ rest cds ord c o root O one (other + 1)) own s₁ Q .next { s₁ with heap := h', toks := tk } := by
  have lt : ∀ p ∈ R ++ (O ++ own), @LT.lt Nat _ p.1 tn := fun p hp => tb_ltOf hl p hp
  refine RngPost.next F N (nx := Led ord (vs.take i.toNat ++ .ref tn :: vs.drop i.toNat) k' ps qs (((tn, ({ cls := .type "tuple", data := .seq #[.int r t1, .int one t2, .int other t3] } : Obj)) :: R) ++ O)) (fun p hp => ?_) (fun p hp => ?_) (fun p hp b hb => ?_) hm
    ⟨ps, qs, _ :: R, _, k', _, restC, cdsC, rfl, ⟨⟨S.tabs.s30, S.tabs.s37, fun p hp b hb => ?_, fun p hp => .tail _ (S.tabs.sub p hp)⟩, S.grow, fun p hp => .tail _ (S.subC p hp), S.subD, fun p hp b hb => ?_, (S.trip.mono fun p hp => .tail _ hp).ins (.head _) i.toNat⟩, Apart.of (fun p hp => ?_) (fun p hp => ?_) (fun p hp => ?_) (fun p hp q hq => ?_), D⟩
  · rcases List.mem_cons.mp hp with rfl | hp
    · exact .head _
    · rcases List.mem_cons.mp hp with rfl | hp
      · exact .tail _ (.tail _ (.head _))
      · rcases List.mem_cons.mp hp with rfl | hp
        · exact .tail _ (.tail _ (.tail _ (.head _)))
        · rcases List.mem_append.mp hp with hp | hp
          · rcases List.mem_cons.mp hp with rfl | hp
            · exact .tail _ (.head _)
            · exact .tail _ (.tail _ (.tail _ (.tail _ (List.mem_append.mpr (.inl hp)))))
          · exact .tail _ (.tail _ (.tail _ (.tail _ (List.mem_append.mpr (.inr (List.mem_append.mpr (.inl hp)))))))
  · exact .tail _ (.tail _ (.tail _ (.tail _ (List.mem_append.mpr (.inr (List.mem_append.mpr (.inr hp)))))))
  · have hp' : p ∈ O ++ own := List.mem_append.mpr (.inr hp)
    obtain ⟨q, hq, rfl⟩ := List.mem_map.mp hb
    rcases List.mem_cons.mp hq with rfl | hq
    · exact W.ord hp'
    · rcases List.mem_cons.mp hq with rfl | hq
      · exact W.t30 hp'
      · rcases List.mem_cons.mp hq with rfl | hq
        · exact W.t37 hp'
        · rcases List.mem_append.mp hq with hq | hq
          · rcases List.mem_cons.mp hq with rfl | hq
            · exact Nat.ne_of_lt (lt p (List.mem_append.mpr (.inr hp')))
            · exact W.ne hp' hq
          · exact o1 p hp _ (List.mem_map_of_mem hq)
  · rcases List.mem_cons.mp hp with rfl | hp
    · rcases List.mem_cons.mp hb with rfl | hb
      · exact Nat.ne_of_gt (Nat.lt_trans (by decide) h37)
      · rw [List.mem_singleton.mp hb]; exact Nat.ne_of_gt h37
    · exact S.tabs.off p hp b hb
  · rcases List.mem_cons.mp hp with rfl | hp
    · rw [List.mem_singleton.mp hb]; exact Nat.ne_of_gt hord
    · exact S.off p hp b hb
  · exact W.ord (List.mem_append.mpr (.inl hp))
  · exact W.t30 (List.mem_append.mpr (.inl hp))
  · exact W.t37 (List.mem_append.mpr (.inl hp))
  · rcases List.mem_cons.mp hq with rfl | hq
    · exact Nat.ne_of_lt (lt p (List.mem_append.mpr (.inr (List.mem_append.mpr (.inl hp)))))
    · exact W.ne (List.mem_append.mpr (.inl hp)) hq
theorem two_nextO {x : Str} {stored : List Str} {own : List (Addr × Obj)} {m₀ m' : Str → Option Value} {s₁ : Shared} {h' : Heap} {tk : Nat} {L : Addr}
    (F : Fr h₀ L h' m') (N : News h₀ L h' (Led ord vs k ps qs (R ++ own))) (S : St rest cds ord ps qs R vs ds restC cdsC) (W : Apart own ord R) (D : Data c o root ds one (root + 1)) (hm : ∀ z, z ≠ x → stored.contains z = false → m' z = m₀ z) :
    RngPost h₀ L x stored m₀ (TJ rest cds ord c o root [] (one + 1) 0) own s₁ Q .next { s₁ with heap := h', toks := tk } := by
  refine RngPost.next F N (nx := Led ord vs k ps qs (R ++ [])) (fun p hp => ?_) (fun p hp => ?_) (fun p hp b hb => ?_) hm ⟨ps, qs, R, vs, k, ds, restC, cdsC, rfl, S, (fun p hp => by cases hp), shift_ D⟩
  · rw [List.append_nil] at hp
    rcases List.mem_cons.mp hp with rfl | hp
    · exact .head _
    · rcases List.mem_cons.mp hp with rfl | hp
      · exact .tail _ (.head _)
      · rcases List.mem_cons.mp hp with rfl | hp
        · exact .tail _ (.tail _ (.head _))
        · exact .tail _ (.tail _ (.tail _ (List.mem_append.mpr (.inl hp))))
  · exact .tail _ (.tail _ (.tail _ (List.mem_append.mpr (.inr hp))))
  · rw [List.append_nil] at hb
    exact W p hp b hb
end
theorem St.init {rest cds : List (Addr × Obj)} {ord : Addr} {ps qs : Array Value} (hT : Tabs ps qs cds rest) (ho : OwnOff rest [ord]) : St rest cds ord ps qs rest [] [] rest cds := ⟨hT, Grown.refl, fun _ h => h, hT.sub, ho, .nil⟩
def TwoPost (c o : Int) (rest cds : List (Addr × Obj)) (news' : List (Addr × Obj)) (r : Value) : Prop :=
  ∃ ps' qs' rest' cds' t x y tx ty, news' = (t, tupObj [.int x tx, .int y ty]) :: (30, tabObj ps') :: (37, tabObj qs') :: rest' ∧ r = .ref t ∧ Tabs ps' qs' cds' rest' ∧ Grown rest cds rest' cds' ∧ OwnOff rest' [t] ∧ AllLt t rest ∧ @LT.lt Nat _ 37 t ∧ TwoIs c o x y
theorem two_end {c o x y : Int} {rest cds R O restC cdsC : List (Addr × Obj)} {ps qs : Array Value} {ord t : Addr} {vs : List Value} {ds : List T3} {h₀ h' : Heap} {L : Addr} {m : Str → Option Value} {s : Shared} {Q : Value → Shared → Prop} {tk : Nat} {tx ty : Tok} {all : List (Addr × Obj)}
    (hret : ∀ r news' h' tk', Fr h₀ L h' m → News h₀ L h' news' → TwoPost c o rest cds news' r → Q r { s with heap := h', toks := tk' }) (F : Fr h₀ L h' m) (N : News h₀ L h' all) (S : St rest cds ord ps qs R vs ds restC cdsC)
    (mt : (t, tupObj [.int x tx, .int y ty]) ∈ all) (m30 : (30, tabObj ps) ∈ all) (m37 : (37, tabObj qs) ∈ all) (mr : ∀ p ∈ R ++ O, p ∈ all) (hl : AllLt t (R ++ O)) (h37 : @LT.lt Nat _ 37 t) (hx : TwoIs c o x y) : Q (.ref t) { s with heap := h', toks := tk } := by
  have lt : ∀ p ∈ restC, @LT.lt Nat _ p.1 t := fun p hp => tb_ltOf hl p (List.mem_append.mpr (.inl (S.subC p hp)))
  refine hret _ ((t, tupObj [.int x tx, .int y ty]) :: (30, tabObj ps) :: (37, tabObj qs) :: restC) _ _ F (fun p hp => ?_) ⟨ps, qs, restC, cdsC, t, x, y, tx, ty, rfl, rfl, ⟨S.tabs.s30, S.tabs.s37, fun p hp => S.tabs.off p (S.subC p hp), S.subD⟩, S.grow, fun p hp b hb => ?_, allLt_of fun p hp => lt p (S.grow.mem p hp), h37, hx⟩
  · rcases List.mem_cons.mp hp with rfl | hp
    · exact N _ mt
    · rcases List.mem_cons.mp hp with rfl | hp
      · exact N _ m30
      · rcases List.mem_cons.mp hp with rfl | hp
        · exact N _ m37
        · exact N _ (mr p (List.mem_append.mpr (.inl (S.subC p hp))))
  · rw [List.mem_singleton.mp hb]; exact Nat.ne_of_lt (lt p hp)
def MulIs (a b z : Int) : Prop := z = a * b
theorem root_sq {c root : Int} (h : RootIs c root) (h1 : 1 ≤ root) (hc : 2 ≤ c) : root < c * c ∧ root ≤ c := by
  obtain ⟨h2, _⟩ := h
  have e : root * 1 ≤ root * root := Int.mul_le_mul_of_nonneg_left h1 (by omega)
  have e2 : 2 * c ≤ c * c := Int.mul_le_mul_of_nonneg_right hc (by omega)
  omega
theorem mul_sq {c root o b : Int} (h : RootIs c root) (h1 : 1 ≤ root) (hc : 2 ≤ c) (ho : 0 ≤ o) (ho2 : o < c) (b0 : 0 ≤ b) (b1 : b ≤ root) : 0 ≤ o * b ∧ o * b < c * c := by
  have h2 := (root_sq h h1 hc).2
  refine ⟨Int.mul_nonneg ho b0, ?_⟩
  have e : o * b ≤ o * c := Int.mul_le_mul_of_nonneg_left (by omega) ho
  have e2 : o * c < c * c := Int.mul_lt_mul_of_pos_right ho2 (by omega)
  omega
section
variable {prog : Program} {w : World} {A : Around} {E : Value → Shared → Prop} {s : Shared}
theorem mul_again {a b z : Int} {t u : Tok} {Q : Value → Shared → Prop} (hz : MulIs a b z) (ha : a.natAbs < 2 ^ 64) (h : Q (.int z s.toks) { s with toks := s.toks + 1 }) : wpAny (model prog w) A (binaryOp .Mult (.int a t) (.int b u)) Q E s := by
  unfold MulIs at hz
  subst hz
  exact mul_int h (IntMulOk.of_left (intBits_le_iff.mpr ha))
theorem mul_R {c root a b : Int} {t u : Tok} {Q : Value → Shared → Prop} (hr : RootIs c root) (h1 : 1 ≤ root) (h7 : root ≤ 7) (hc : 2 ≤ c) (hc2 : c ≤ 52) (ho : 0 ≤ a) (ho2 : a < c) (b0 : 0 ≤ b) (b1 : b ≤ root)
    (h : ∀ z, MulIs a b z → 0 ≤ z → z ≤ 364 → z < c * c → Q (.int z s.toks) { s with toks := s.toks + 1 }) : wpAny (model prog w) A (binaryOp .Mult (.int a t) (.int b u)) Q E s := by
  obtain ⟨e1, e2⟩ := mul_sq hr h1 hc ho ho2 b0 b1
  have e3 : a * b ≤ 52 * 7 := Int.mul_le_mul (by omega) (by omega) b0 (by omega)
  exact mul_again rfl (by omega) (h _ rfl e1 (by omega) e2)
theorem mod0_R {x c r : Int} {t u : Tok} {Q : Value → Shared → Prop} (hm : ModIs x c r) (hc : 0 < c) (hc2 : c < 1000) (h : Q (.int 0 s.toks) { s with toks := s.toks + 1 }) : wpAny (model prog w) A (binaryOp .Mod (.int (x - r) t) (.int c u)) Q E s := by
  have e : (x - r).fmod c = 0 := by
    unfold ModIs at hm
    rw [Int.fmod_eq_emod_of_nonneg _ (by omega), hm]
    rw [Int.sub_emod, Int.emod_emod_of_dvd _ (Int.dvd_refl c), Int.sub_self, Int.zero_emod]
  refine mod_int' (show c ≠ 0 by omega) ?_
  rw [e]
  exact h
end
theorem mod_z {one o other z c r : Int} (hz : MulIs o other z) (hm : ModIs (one - z) c r) : (one - o * other - r) % c = 0 := by
  unfold MulIs at hz
  unfold ModIs at hm
  subst hz hm
  rw [Int.sub_emod, Int.emod_emod_of_dvd _ (Int.dvd_refl c), Int.sub_self, Int.zero_emod]
section
variable {prog : Program} {w : World} {p : Program} {loose : List Str} {mean : ExcName → Option Value} {mg mb : Str → Option Value} {dp un : Nat} {gd : Option (List Code)} {cn : Str} {cs : Scope} {a : Addr} {ccd : Value} {cl : List (Str × Addr)} {outer : List Env} {A₀ : Around} {base h₀ : Heap} {L : Addr} {m : Str → Option Value} {s : Shared}
    {Q E : Value → Shared → Prop} {rest cds R O restC cdsC all : List (Addr × Obj)} {ps qs : Array Value} {ord tn : Addr} {vs : List Value} {ds : List T3} {k : Nat}
theorem two_ins {c o root one other r : Int} {t1 t2 t3 : Tok} (B : Below A₀ base outer h₀) (F : Fr h₀ L s.heap m) (X : (hd.heap_39 w.params).In h₀) (T : Top p loose mean mg mb h₀) (hk : cs.kind = .function) (hd : dp + 6 < recursionLimit) (hu : un + 50 < cLine)
    (S : St rest cds ord ps qs R vs ds restC cdsC) (O3 : OwnOff (R ++ O) [30, 37, ord]) (N : News h₀ L s.heap all) (mo : (ord, listOf vs.toArray k) ∈ all) (mt : (tn, ({ cls := .type "tuple", data := .seq #[.int r t1, .int one t2, .int other t3] } : Obj)) ∈ all) (m30 : (30, tabObj ps) ∈ all) (m37 : (37, tabObj qs) ∈ all) (mr : ∀ p ∈ R ++ O, p ∈ all)
    (hord : @LT.lt Nat _ ord tn) (h37 : @LT.lt Nat _ 37 ord) (hlen : ds.length < 1000) (D : Data c o root ds one other)
    (ret : ∀ i h' tk', Fr h₀ L h' m → News h₀ L h' ((ord, listOf (vs.take i.toNat ++ .ref tn :: vs.drop i.toNat).toArray (k + 1)) :: (tn, ({ cls := .type "tuple", data := .seq #[.int r t1, .int one t2, .int other t3] } : Obj)) :: (30, tabObj ps) :: (37, tabObj qs) :: (R ++ O)) → Place ds (r, one, other) i → Q .none { s with heap := h', toks := tk' }) :
    wpAny (model prog w) (ktrTop dp un gd cn cs L a ccd cl outer) (call (.ref 74) [.ref ord, .ref tn]) Q E s := by
  refine ins_use B F X (rest := (tn, ({ cls := .type "tuple", data := .seq #[.int r t1, .int one t2, .int other t3] } : Obj)) :: (30, tabObj ps) :: (37, tabObj qs) :: (R ++ O)) (fun p hp => ?_) T hk hd hu (fun p hp => ?_) (.head _) (S.trip.mono fun p hp => .tail _ (.tail _ (.tail _ (List.mem_append.mpr (.inl hp))))) hlen (cuts_of D.srt _) ret
  · rcases List.mem_cons.mp hp with rfl | hp
    · exact N _ mo
    · rcases List.mem_cons.mp hp with rfl | hp
      · exact N _ mt
      · rcases List.mem_cons.mp hp with rfl | hp
        · exact N _ m30
        · rcases List.mem_cons.mp hp with rfl | hp
          · exact N _ m37
          · exact N _ (mr p hp)
  · rcases List.mem_cons.mp hp with rfl | hp
    · exact Nat.ne_of_gt hord
    · rcases List.mem_cons.mp hp with rfl | hp
      · exact Nat.ne_of_lt (Nat.lt_trans (show (30 : Nat) < 37 by decide) h37)
      · rcases List.mem_cons.mp hp with rfl | hp
        · exact Nat.ne_of_lt h37
        · exact O3 p hp _ (.tail _ (.tail _ (.head _)))
end
end
section
open PySem PySem.W PyProof.Rows PySem.Calls
set_option maxRecDepth 100000
set_option maxHeartbeats 800000
local macro_rules | `(tactic| walk_at "call ref") => `(tactic| (k_here; (with_reducible show wpAny _ _ (call (Value.ref 88) _) _ _ _); k_dflt (refine' root_use ?B ?F ?X ?N ?T ?k ?d ?u ?a ?b ?_; (case B | F | X | T => k_asm); (case k => exact rfl); (case d => ktr_room); (case u => ktr_units); (case N => k_asm); (case a | b => omega); k_whole); intro r' t' h' tk' F' N' r1 r2 r3; have r4 := root_sq r3 r1 (by assumption); (try dsimp only)))
local macro_rules | `(tactic| walk_at "pyIter ref") => `(tactic| (k_here; (with_reducible show wpAny _ _ (pyIter (Value.ref _)) (fun it s₂ => LoopAtV _ _ _ _ _ (Str.ofString "one") _ _ _ it s₂) _ _); (rename Fr _ _ _ _ => lF'); (rename News _ _ _ _ => lN'); (rename IsRange _ _ _ _ _ _ _ _ => rgX); (with_unfolding_all refine' two_outer ?hh rgX ?h1 ?h7 ?hc ?hr ?hO lF' lN' ?hn ?S Data.nil ?_; (case hh => rfl); (case h1 | h7 | hr | hO => assumption); (case hc => omega); (case S => exact St.init (by assumption) (off_of_lt (by tbn_find))); (case hn => (intro p hp; repeat (first | exact hp | apply List.Mem.tail)))); (clear lF' lN'); intro one' t' u' ps' qs' R' vs' k' ds' rC' cC' h' tk' own' b1' b2' S' W' O3' D' F' N'; (try k_fold)))
local macro_rules | `(tactic| walk_at "pyIter ref") => `(tactic| (k_here; (with_reducible show wpAny _ _ (pyIter (Value.ref _)) (fun it s₂ => LoopAtV _ _ _ _ _ (Str.ofString "other") _ _ _ it s₂) _ _); (rename Fr _ _ _ _ => lF'); (rename News _ _ _ _ => lN'); (rename IsRange _ _ _ _ _ _ _ _ => rgX); (rename St _ _ _ _ _ _ _ _ _ _ => lS'); (rename Apart _ _ _ => lW'); (rename Data _ _ _ _ _ _ => lD'); (with_unfolding_all refine' two_inner ?hh rgX ?h1 ?h7 ?b1 ?b2 lF' lN' ?hn lS' lW' lD' ?_ ?_; (case hh => rfl); (case h1 | h7 | b1 | b2 => assumption); (case hn => (intro p hp; repeat (first | exact hp | apply List.Mem.tail)))); (clear lF' lN' lS' lW' lD'); intros; (try k_fold)))
local macro_rules | `(tactic| walk_at "binaryOp Mult int int") => `(tactic| (k_here; first | (refine' mul_again ?z ?a ?_; (case z => assumption); (case a => omega); (try dsimp only)) | (refine' mul_R ?r ?h1 ?h7 ?c ?c2 ?o ?o2 ?b0 ?b1 ?_; (case r | h1 | h7 => assumption); (case c | c2 | o | o2 => omega); (case b0 | b1 => assumption); intro z' hz' z1' z2' z3'; (try dsimp only))))
local macro_rules | `(tactic| walk_at "binaryOp Mod int int") => `(tactic| (k_here; refine' mod0_R ?m ?c ?c2 ?_; (case m => assumption); (case c | c2 => omega); (try dsimp only)))
local macro_rules | `(tactic| walk_at "call ref") => `(tactic| (k_here; (with_reducible show wpAny _ _ (call (Value.ref 56) _) _ _ _); (rename St _ _ _ _ _ _ _ _ _ _ => lS'); (rename Apart _ _ _ => lW'); k_dflt (refine' two_divmod ?B ?F ?X ?T ?k ?d ?u lS' lW' ?N ?h37 ?b ?b2 ?x ?x2 ?xb ?xb2 ?_; (case B | F | X | T => k_asm); (case k => exact rfl); (case d => ktr_room); (case u => ktr_units); (case N => k_asm); (case h37 => omega); (case b | b2 => assumption); (case x | x2 | xb | xb2 => omega); k_whole); (clear lS' lW'); intro ps' qs' R' rC' cC' t' q' tq' r' tr' h' tk' F' N' S' W' o1' o2' l1' M' r1' r2'; (try dsimp only)))
local macro_rules | `(tactic| walk_at "call ref") => `(tactic| (k_here; (with_reducible show wpAny _ _ (call (Value.ref 83) _) _ _ _); k_dflt (refine' bis_use ?B ?F ?X ?N ?T ?k ?d ?u ?l ?x ?t ?n ?c ?_; (case B | F | X | T => k_asm); (case k => exact rfl); (case d => ktr_room); (case u => ktr_units); (case N => k_asm); (case l | x => k_mem); (case t => exact TripAll.mono (St.trip (by assumption)) (by (intro p hp; (repeat (apply List.Mem.tail)); exact List.mem_append.mpr (Or.inl hp)))); (case n => assumption); (case c => exact cuts_D (by assumption) _); k_whole); intro i' t' h' tk' F' N' P'; have p1 := place_lo P'; have p2 := place_hi P'; (try dsimp only)))
local macro_rules | `(tactic| walk_at "call ref") => `(tactic| (k_here; (with_reducible show wpAny _ _ (call (Value.ref 74) _) _ _ _); k_dflt (refine' two_ins ?B ?F ?X ?T ?k ?d ?u ?S ?O ?N ?mo ?mt ?m30 ?m37 ?mr ?ho ?h37 ?n ?D ?_; (case B | F | X | T => k_asm); (case k => exact rfl); (case d => ktr_room); (case u => ktr_units); (case S => assumption); (case N => k_asm); (case mo | mt | m30 | m37 => k_mem); (case O => assumption); (case mr => (intro p hp; repeat (first | exact hp | apply List.Mem.tail))); (case ho | h37 => omega); (case n | D => assumption); k_whole); intro i' h' tk' F' N' P'; (try dsimp only)))
local macro_rules | `(tactic| walk_at "call builtin:len") => `(tactic| (k_here; k_dflt (refine' trip_len ?N ?m ?d ?l ?_; (case N => k_asm); (case m => k_mem); (case d => exact TripAll.mono (St.trip (by assumption)) (by (intro p hp; (repeat (apply List.Mem.tail)); exact List.mem_append.mpr (Or.inl hp)))); (case l => assumption); k_whole); (try dsimp only)))
local macro_rules | `(tactic| walk_at "subscriptTail") => `(tactic| (k_here; (with_reducible show wpAny _ _ (subscriptTail _ _ (Value.ref _) (Value.int _ _)) _ _ _); k_dflt (refine' item_tupleT ?t ?a ?b ?c ?d ?_; (case t => assumption); (case a | b => decide); (case c | d => rfl); k_whole)))
local macro_rules | `(tactic| walk_at "subscriptTail") => `(tactic| (k_here; (with_reducible show wpAny _ _ (subscriptTail _ _ (Value.ref _) (Value.int _ _)) _ _ _); (with_unfolding_all refine' trip_item ?N ?m ?d ?a ?b ?l ?_ ?hs; (case N => k_asm); (case m => k_mem); (case d => exact TripAll.mono (St.trip (by assumption)) (by (intro p hp; (repeat (apply List.Mem.tail)); exact List.mem_append.mpr (Or.inl hp)))); (case l => assumption); (case a | b => omega); (case hs => with_unfolding_all rfl); k_whole); intro a' r' o' p' t1' t2' t3' n' m' e' T'; (try dsimp only)))
local macro_rules | `(tactic| walk_at "RngPost") => `(tactic| ((with_reducible show RngPost _ _ _ _ _ _ _ _ _ (Flow.ret _) _); refine RngPost.ret ?_))
theorem two (prog : Program) (w : World) (p : Program) (loose : List Str) (mean : ExcName → Option Value) (mg mb : Str → Option Value) (c o : Int) (tc to : Tok) (hc : 2 ≤ c) (hc2 : c ≤ 52) (ho : 0 ≤ o) (ho2 : o < c) (rest cds : List (Addr × Obj)) (ps qs : Array Value) (hT : Tabs ps qs cds rest) :
   CallS prog w p loose mean mg mb 95 [.int c tc, .int o to] 16 100 ((30, tabObj ps) :: (37, tabObj qs) :: rest) (TwoPost c o rest cds) := by
  unfold CallS
  intro dp un gd cn cs a ccd cl outer A₀ base h₀ L m s Q E B F X N T hk hd hu hret
  have hO : Often c o := ⟨ho, ho2⟩
  refine wpAny_call ?_
  k_dflt k_enter
  k_steps
  · (refine' two_end hret ?F ?N ?S ?mt ?m30 ?m37 ?mr ?hl ?h37 ?hx; (case F => assumption); (case N => assumption); (case S => assumption); (case mt => k_dflt exact List.Mem.head _); (case m30 => k_dflt k_mem); (case m37 => k_dflt k_mem); (case hl => tbn_find); (case mr => (intro p hp; repeat (first | exact hp | apply List.Mem.tail))); (case h37 => omega); (case hx => exact found3 (by assumption) (by assumption) (by assumption) (by assumption) (by assumption) (by assumption) (by assumption) (by assumption) (mod_z (by assumption) (by assumption)) (by assumption) (by assumption) (by assumption) (by assumption)))
  · (refine' two_next ?F ?N ?S ?W ?o1 ?hl ?hord ?h37 ?D ?hm; (case F => assumption); (case N => k_dflt assumption); (case S => assumption); (case W => assumption); (case o1 => assumption); (case hl => tbn_find); (case hord => omega); (case h37 => omega); (case D => exact insert_ (by assumption) (absent_at (by assumption) (by assumption) (by assumption) (by assumption)) (by assumption) (by assumption) (by assumption) (mod_z (by assumption) (by assumption)) (by assumption) (by assumption) (by assumption) (by assumption)); (case hm => (intro z h1 h2; have h3 := h2; simp only [List.contains_cons, List.contains_nil, Bool.or_false, Bool.or_eq_false_iff, beq_eq_false_iff_ne, ne_eq] at h3; simp only [h1, h3, h2, if_false, Bool.false_eq_true])))
  · (refine' two_next ?F ?N ?S ?W ?o1 ?hl ?hord ?h37 ?D ?hm; (case F => assumption); (case N => k_dflt assumption); (case S => assumption); (case W => assumption); (case o1 => assumption); (case hl => tbn_find); (case hord => omega); (case h37 => omega); (case D => exact insert_ (by assumption) (absent_end (by assumption) (by assumption) (by assumption)) (by assumption) (by assumption) (by assumption) (mod_z (by assumption) (by assumption)) (by assumption) (by assumption) (by assumption) (by assumption)); (case hm => (intro z h1 h2; have h3 := h2; simp only [List.contains_cons, List.contains_nil, Bool.or_false, Bool.or_eq_false_iff, beq_eq_false_iff_ne, ne_eq] at h3; simp only [h1, h3, h2, if_false, Bool.false_eq_true])))
  · (refine' two_nextO ?F ?N ?S ?W ?D ?hm; (case F => assumption); (case N => k_dflt assumption); (case S => assumption); (case W => assumption); (case D => assumption); (case hm => (intro z h1 h2; have h3 := h2; simp only [List.contains_cons, List.contains_nil, Bool.or_false, Bool.or_eq_false_iff, beq_eq_false_iff_ne, ne_eq] at h3; (have h4 : ([Str.ofString "rest", Str.ofString "place"] : List Str).contains z = false := by simp [h3]); simp only [h1, h3, h2, h4, if_false, Bool.false_eq_true])))
end
section
open PySem PySem.W PyProof.Rows PySem.Calls
theorem sq_le {x r : Int} (h1 : -r ≤ x) (h2 : x ≤ r) : x * x ≤ r * r := by
  have : 0 ≤ (r - x) * (r + x) := Int.mul_nonneg (by omega) (by omega)
  have e : (r - x) * (r + x) = r * r - x * x := by grind
  omega
theorem sq_nonneg' (x : Int) : 0 ≤ x * x := by
  rcases Int.le_total 0 x with h | h
  · exact Int.mul_nonneg h h
  · exact Int.mul_nonneg_of_nonpos_of_nonpos h h
theorem sq_pos {x : Int} (h : x ≠ 0) : 0 < x * x := by
  rcases Int.lt_or_gt_of_ne h with h | h
  · exact Int.mul_pos_of_neg_of_neg h h
  · exact Int.mul_pos h h
theorem two_facts {c o x y : Int} (h : TwoIs c o x y) (hc : c ≤ 52) : (x - o * y) % c = 0 ∧ ¬ (x = 0 ∧ y = 0) ∧ x * x ≤ c ∧ y * y ≤ c ∧ -7 ≤ x ∧ x ≤ 7 ∧ -7 ≤ y ∧ y ≤ 7 := by
  obtain ⟨r, ⟨h1, _⟩, a, b, d, e, n, m⟩ := h
  have hr : r ≤ 7 := by
    rcases Int.lt_or_le 7 r with q | q
    · have : 8 * 8 ≤ r * r := Int.mul_le_mul (by omega) (by omega) (by omega) (by omega)
      omega
    · exact q
  have sx := sq_le a b
  have sy := sq_le d e
  refine ⟨m, n, by omega, by omega, by omega, by omega, by omega, by omega⟩
theorem dvd_plus {c n x y q : Int} (h : (x - n * y) % c = 0) (hn : (n * n + q) % c = 0) : c ∣ x * x + q * (y * y) := by
  obtain ⟨a, ha⟩ := Int.dvd_of_emod_eq_zero h
  obtain ⟨b, hb⟩ := Int.dvd_of_emod_eq_zero hn
  refine ⟨a * (x + n * y) + b * (y * y), ?_⟩
  have e : x * x + q * (y * y) = (x - n * y) * (x + n * y) + (n * n + q) * (y * y) := by grind
  rw [e, ha, hb]
  grind
theorem pos_plus {x y : Int} (n : ¬ (x = 0 ∧ y = 0)) : 0 < x * x + y * y := by
  have := sq_nonneg' x
  have := sq_nonneg' y
  by_cases hx : x = 0
  · have := sq_pos (x := y) (fun e => n ⟨hx, e⟩); omega
  · have := sq_pos hx; omega
theorem plus_ {c n x y : Int} (hn : (n * n + 1) % c = 0) (h : TwoIs c n x y) (hc : 0 < c) (hc2 : c ≤ 52) : (x * x + y * y) % c = 0 ∧ c ≤ x * x + y * y ∧ x * x + y * y ≤ 2 * c := by
  obtain ⟨f1, f2, f3, f4, _⟩ := two_facts h hc2
  have d := dvd_plus f1 hn
  rw [Int.one_mul] at d
  exact ⟨Int.emod_eq_zero_of_dvd d, Int.le_of_dvd (pos_plus f2) d, by omega⟩
theorem plus_root {c n x y r : Int} (hn : (n * n + 1) % c = 0) (h : TwoIs c n x y) (hr : RootIs c r) (h1 : 1 ≤ r) (hc : 0 < c) (hc2 : c ≤ 52) : r * r = c ∨ x * x + y * y = c := by
  obtain ⟨p1, p2, p3⟩ := plus_ hn h hc hc2
  obtain ⟨ρ, ⟨g1, g2⟩, a, b, d, e, _, _⟩ := h
  have sx := sq_le a b
  have sy := sq_le d e
  obtain ⟨k, hk⟩ := Int.dvd_of_emod_eq_zero p1
  rcases Int.lt_or_le k 2 with q | q
  · right
    have : 1 ≤ k := by
      rcases Int.lt_or_le 0 k with z | z
      · exact z
      · have : c * k ≤ c * 0 := Int.mul_le_mul_of_nonneg_left z (by omega)
        omega
    have : k = 1 := by omega
    rw [hk, this, Int.mul_one]
  · left
    have : c * 2 ≤ c * k := Int.mul_le_mul_of_nonneg_left q (by omega)
    have hρ : ρ * ρ = c := by omega
    obtain ⟨r1, r2⟩ := hr
    have h3 : r = ρ := by
      rcases Int.lt_trichotomy r ρ with z | z | z
      · have : (r + 1) * (r + 1) ≤ ρ * ρ := Int.mul_le_mul (by omega) (by omega) (by omega) (by omega)
        omega
      · exact z
      · have : (ρ + 1) * (ρ + 1) ≤ r * r := Int.mul_le_mul (by omega) (by omega) (by omega) (by omega)
        omega
    rw [h3, hρ]
theorem twice_ {c n x y : Int} (hn : (n * n + 2) % c = 0) (h : TwoIs c n x y) (hc : 0 < c) (hc2 : c ≤ 52) : x * x + 2 * y * y = c ∨ x * x + 2 * y * y = 2 * c ∨ x * x + 2 * y * y = 3 * c := by
  obtain ⟨f1, f2, f3, f4, _⟩ := two_facts h hc2
  obtain ⟨k, hk⟩ := dvd_plus f1 hn
  have e : x * x + 2 * y * y = x * x + 2 * (y * y) := by grind
  have hp := pos_plus f2
  have := sq_nonneg' x
  have := sq_nonneg' y
  rw [e, hk]
  have k1 : 1 ≤ k := by
    rcases Int.lt_or_le 0 k with z | z
    · exact z
    · have : c * k ≤ c * 0 := Int.mul_le_mul_of_nonneg_left z (by omega)
      omega
  have k3 : k ≤ 3 := by
    rcases Int.lt_or_le 3 k with z | z
    · have : c * 4 ≤ c * k := Int.mul_le_mul_of_nonneg_left (by omega) (by omega)
      omega
    · exact z
  have : k = 1 ∨ k = 2 ∨ k = 3 := by omega
  rcases this with rfl | rfl | rfl <;> omega
end
section
open PySem PySem.W PyProof.Rows PySem.Calls PyProof.V PySem.Spec
theorem root_l {c r : Int} (h : RootIs c r) : r * r ≤ c := h.1
theorem root_r {c r : Int} (h : RootIs c r) : c < (r + 1) * (r + 1) := h.2
theorem apart_nil {cell : Addr} {R : List (Addr × Obj)} : Apart [] cell R := fun p hp => by cases hp
abbrev Led2 (cell : Addr) (oc : Obj) (ps qs : Array Value) (T : List (Addr × Obj)) : List (Addr × Obj) := (cell, oc) :: (30, tabObj ps) :: (37, tabObj qs) :: T
theorem led2_app {cell : Addr} {oc : Obj} {ps qs : Array Value} {R T : List (Addr × Obj)} {p : Addr × Obj} (h : p ∈ Led2 cell oc ps qs R) : p ∈ Led2 cell oc ps qs (R ++ T) := by
  rcases List.mem_cons.mp h with rfl | hp
  · exact .head _
  · rcases List.mem_cons.mp hp with rfl | hp
    · exact .tail _ (.head _)
    · rcases List.mem_cons.mp hp with rfl | hp
      · exact .tail _ (.tail _ (.head _))
      · exact .tail _ (.tail _ (.tail _ (List.mem_append.mpr (.inl hp))))
section
variable {prog : Program} {w : World} {p : Program} {loose : List Str} {mean : ExcName → Option Value} {mg mb : Str → Option Value} {dp un : Nat} {gd : Option (List Code)} {cn : Str} {cs : Scope} {a : Addr} {ccd : Value} {cl : List (Str × Addr)} {outer : List Env} {A₀ : Around} {base h₀ : Heap} {L : Addr} {m : Str → Option Value} {s : Shared}
    {Q E : Value → Shared → Prop} {R O cds all : List (Addr × Obj)} {ps qs : Array Value} {cell : Addr} {oc : Obj}
theorem two_use {c o : Int} {tc to t9 : Tok} (_hoc : oc.data = PySem.Data.cell (some (.int c t9))) (B : Below A₀ base outer h₀) (F : Fr h₀ L s.heap m) (X : (hd.heap_39 w.params).In h₀) (T : Top p loose mean mg mb h₀) (hk : cs.kind = .function) (hd : dp + 16 < recursionLimit) (hu : un + 100 < cLine)
    (hT : Tabs ps qs cds R) (W : Apart O cell R) (N : News h₀ L s.heap all) (mc : (cell, oc) ∈ all) (m30 : (30, tabObj ps) ∈ all) (m37 : (37, tabObj qs) ∈ all) (mr : ∀ p ∈ R ++ O, p ∈ all) (h37 : @LT.lt Nat _ 37 cell) (hc : 2 ≤ c) (hc2 : c ≤ 52) (ho : 0 ≤ o) (ho2 : o < c)
    (ret : ∀ ps' qs' R' cds' t x y tx ty h' tk', Fr h₀ L h' m → News h₀ L h' ((t, ({ cls := .type "tuple", data := .seq [.int x tx, .int y ty].toArray } : Obj)) :: Led2 cell oc ps' qs' (R' ++ O)) → Tabs ps' qs' cds' R' → Apart O cell R' → TwoIs c o x y → Q (.ref t) { s with heap := h', toks := tk' }) :
    wpAny (model prog w) (ktrTop dp un gd cn cs L a ccd cl outer) (call (.ref 95) [.int c tc, .int o to]) Q E s := by
  refine two prog w p loose mean mg mb c o tc to hc hc2 ho ho2 ((cell, oc) :: (R ++ O)) cds ps qs ⟨hT.s30, hT.s37, ?_, fun p hp => .tail _ (List.mem_append.mpr (.inl (hT.sub p hp)))⟩ dp un gd cn cs a ccd cl outer A₀ base h₀ L m s Q E B F X (fun p hp => ?_) T hk hd hu ?_
  · intro p hp b hb
    rcases List.mem_cons.mp hp with rfl | hp
    · rcases List.mem_cons.mp hb with rfl | hb
      · exact Nat.ne_of_gt (Nat.lt_trans (by decide) h37)
      · rw [List.mem_singleton.mp hb]; exact Nat.ne_of_gt h37
    · rcases List.mem_append.mp hp with hp | hp
      · exact hT.off p hp b hb
      · rcases List.mem_cons.mp hb with rfl | hb
        · exact W.t30 hp
        · rw [List.mem_singleton.mp hb]; exact W.t37 hp
  · rcases List.mem_cons.mp hp with rfl | hp
    · exact N _ m30
    · rcases List.mem_cons.mp hp with rfl | hp
      · exact N _ m37
      · rcases List.mem_cons.mp hp with rfl | hp
        · exact N _ mc
        · exact N _ (mr p hp)
  · rintro v news' h' tk' F' N' ⟨ps', qs', rest', cds', t, x, y, tx, ty, rfl, rfl, hT', ⟨add, rfl, rfl, hf, h37a⟩, _, _, _, hx⟩
    have inR : ∀ p ∈ R, p ∈ (cell, oc) :: (R ++ O) := fun p hp => .tail _ (List.mem_append.mpr (.inl hp))
    have inO : ∀ p ∈ O, p ∈ (cell, oc) :: (R ++ O) := fun p hp => .tail _ (List.mem_append.mpr (.inr hp))
    have sub : ∀ p ∈ (add ++ R) ++ O, p ∈ add ++ (cell, oc) :: (R ++ O) := by
      intro p hp
      rcases List.mem_append.mp hp with hp | hp
      · rcases List.mem_append.mp hp with hp | hp
        · exact List.mem_append.mpr (.inl hp)
        · exact List.mem_append.mpr (.inr (inR p hp))
      · exact List.mem_append.mpr (.inr (inO p hp))
    refine ret ps' qs' (add ++ R) (add ++ cds) t x y tx ty h' tk' F' (fun p hp => ?_) ⟨hT'.s30, hT'.s37, fun p hp => hT'.off p (sub p (List.mem_append.mpr (.inl hp))), fun p hp => List.mem_append.mpr ((List.mem_append.mp hp).imp id (hT.sub p))⟩
      (Apart.of (fun p hp => W.ord hp) (fun p hp => W.t30 hp) (fun p hp => W.t37 hp) fun p hp q hq => ?_) hx
    · rcases List.mem_cons.mp hp with rfl | hp
      · exact N' _ (.head _)
      · rcases List.mem_cons.mp hp with rfl | hp
        · exact N' _ (.tail _ (.tail _ (.tail _ (List.mem_append.mpr (.inr (.head _))))))
        · rcases List.mem_cons.mp hp with rfl | hp
          · exact N' _ (.tail _ (.head _))
          · rcases List.mem_cons.mp hp with rfl | hp
            · exact N' _ (.tail _ (.tail _ (.head _)))
            · exact N' _ (.tail _ (.tail _ (.tail _ (sub p hp))))
    · rcases List.mem_append.mp hq with hq | hq
      · exact Nat.ne_of_lt (hf q hq _ (inO p hp))
      · exact W.ne hp hq
end
section
variable {prog : Program} {w : World} {A : Around} {E : Value → Shared → Prop} {s : Shared} {env : Env} {h₀ : Heap} {x : Str} {body : List Stmt} {Q : Flow → Shared → Prop} {R cds : List (Addr × Obj)} {ps qs : Array Value} {cell : Addr} {oc : Obj}
def LawPost (h₀ : Heap) (L : Addr) (x : Str) (stored : List Str) (m₀ : Str → Option Value) (cell : Addr) (oc : Obj) (own : List (Addr × Obj)) (s₁ : Shared) (Q : Flow → Shared → Prop) (f : Flow) (s₂ : Shared) : Prop :=
  (∃ v, f = .ret v ∧ Q (.ret v) s₂) ∨ ((f = .next ∨ f = .cont ∨ f = .brk) ∧ ∃ h' tk m' ps qs R cds, s₂ = { s₁ with heap := h', toks := tk } ∧ Fr h₀ L h' m' ∧ News h₀ L h' (Led2 cell oc ps qs (R ++ own)) ∧ Tabs ps qs cds R ∧ Apart own cell R ∧ ∀ z, z ≠ x → stored.contains z = false → m' z = m₀ z)
theorem LawPost.end {L : Addr} {stored : List Str} {m₀ m' : Str → Option Value} {own all : List (Addr × Obj)} {s₁ : Shared} {h' : Heap} {tk : Nat} {f : Flow} (hf : f = .next ∨ f = .cont ∨ f = .brk)
    (F : Fr h₀ L h' m') (N : News h₀ L h' all) (hn : ∀ p ∈ Led2 cell oc ps qs (R ++ own), p ∈ all) (hT : Tabs ps qs cds R) (W : Apart own cell R) (hm : ∀ z, z ≠ x → stored.contains z = false → m' z = m₀ z) :
    LawPost h₀ L x stored m₀ cell oc own s₁ Q f { s₁ with heap := h', toks := tk } := .inr ⟨hf, h', tk, m', ps, qs, R, cds, rfl, F, fun p hp => N p (hn p hp), hT, W, hm⟩
theorem LawPost.ret {L : Addr} {stored : List Str} {m₀ : Str → Option Value} {own : List (Addr × Obj)} {s₁ s₂ : Shared} {v : Value} (h : Q (.ret v) s₂) : LawPost h₀ L x stored m₀ cell oc own s₁ Q (.ret v) s₂ := .inl ⟨v, rfl, h⟩
theorem rng_map2 {stored : List Str} {m₀ m₁ : Str → Option Value} (h : ∀ z, z ≠ x → stored.contains z = false → m₁ z = m₀ z) :
    m₁ = fun y => if y = x then m₁ y else if stored.contains y = true then m₁ y else m₀ y := by
  funext y
  by_cases h1 : y = x
  · simp [h1]
  · simp only [if_neg h1]
    cases h2 : stored.contains y with
    | true => simp
    | false => simp only [Bool.false_eq_true, if_false]; exact h y h1 h2
theorem law_loop {r : Addr} {c : Int} {t₀ u₀ v₀ t9 : Tok} {m₀ : Str → Option Value} {all : List (Addr × Obj)} (stored : List Str)
    (_hoc : oc.data = PySem.Data.cell (some (.int c t9))) (hh : A.handled = none) (hr : IsRange s.heap r 1 c 1 t₀ u₀ v₀) (hc : 2 ≤ c) (hc2 : c ≤ 52) (F : Fr h₀ env.locals s.heap m₀) (N : News h₀ env.locals s.heap all) (hT : Tabs ps qs cds R) (hn : ∀ p ∈ Led2 cell oc ps qs R, p ∈ all)
    (turn : ∀ (number : Int) t (u : Str → Option Value) ps qs R cds h tk own, 1 ≤ number → number < c → Tabs ps qs cds R → Apart own cell R →
      Fr h₀ env.locals h (fun y => if y = x then some (.int number t) else if stored.contains y = true then u y else m₀ y) → News h₀ env.locals h (Led2 cell oc ps qs (R ++ own)) →
      wpAny (model prog w) A (execs body env) (LawPost h₀ env.locals x stored m₀ cell oc own { s with heap := h, toks := tk } Q) E { s with heap := h, toks := tk })
    (done : ∀ (u : Str → Option Value) ps qs R cds h tk, Tabs ps qs cds R → Fr h₀ env.locals h (fun y => if y = x then u y else if stored.contains y = true then u y else m₀ y) → News h₀ env.locals h (Led2 cell oc ps qs R) → Q .next { s with heap := h, toks := tk }) :
    wpAny (model prog w) A (pyIter (.ref r)) (fun it s₂ => LoopAtV prog w A h₀ env x body Q E it s₂) E s := by
  refine rng_loop (n := (c - 1).toNat) (nx₀ := Led2 cell oc ps qs R) stored (fun _ nx => ∃ ps qs R cds, nx = Led2 cell oc ps qs R ∧ Tabs ps qs cds R) hh hr (small_one (by omega) (by omega) (by omega) (by omega)) (rangeSize_nat _ _) F N hn ⟨ps, qs, R, cds, rfl, hT⟩ ?_ ?_
  · rintro i n t u nx h tk own hi rfl hoff ⟨ps, qs, R, cds, rfl, hT⟩ F₁ N₁
    have W : Apart own cell R := hoff
    refine wpAny_mono (turn _ t u ps qs R cds h tk own (by omega) (by omega) hT W F₁ N₁) (fun f s₂ p => ?_) fun _ _ e => e
    rcases p with ⟨v, rfl, q⟩ | ⟨hf, h', tk', m', ps', qs', R', cds', rfl, F', N', hT', W', hm⟩
    · exact .inl ⟨v, rfl, q⟩
    · have hs : ∀ p ∈ Led2 cell oc ps' qs' R', p ∈ Led2 cell oc ps' qs' (R' ++ own) := fun p hp => by
        rcases List.mem_cons.mp hp with rfl | hp
        · exact .head _
        · rcases List.mem_cons.mp hp with rfl | hp
          · exact .tail _ (.head _)
          · rcases List.mem_cons.mp hp with rfl | hp
            · exact .tail _ (.tail _ (.head _))
            · exact .tail _ (.tail _ (.tail _ (List.mem_append.mpr (.inl hp))))
      have nxt : ∃ h'' tk'' m'' news' nx, ({ s with heap := h', toks := tk' } : Shared) = { s with heap := h'', toks := tk'' } ∧ Fr h₀ env.locals h'' m'' ∧ News h₀ env.locals h'' news' ∧ (∀ p ∈ nx, p ∈ news') ∧ (∀ p ∈ own, p ∈ news') ∧ OwnOff own (nx.map (·.1)) ∧
          (∀ z, z ≠ x → stored.contains z = false → m'' z = m₀ z) ∧ ∃ ps qs R cds, nx = Led2 cell oc ps qs R ∧ Tabs ps qs cds R :=
        ⟨h', tk', m', _, Led2 cell oc ps' qs' R', rfl, F', N', hs, fun p hp => .tail _ (.tail _ (.tail _ (List.mem_append.mpr (.inr hp)))), W', hm, ps', qs', R', cds', rfl, hT'⟩
      rcases hf with rfl | rfl | rfl
      · exact .inr (.inr ⟨.inl rfl, nxt⟩)
      · exact .inr (.inr ⟨.inr rfl, nxt⟩)
      · refine .inr (.inl ⟨rfl, ?_⟩)
        rw [rng_map2 hm] at F'
        exact done m' ps' qs' R' cds' h' tk' hT' F' fun p hp => N' p (hs p hp)
  · rintro u nx h tk ⟨ps, qs, R, cds, rfl, hT⟩ F₁ N₁
    exact done u ps qs R cds h tk hT F₁ N₁
theorem law_loop2 {r : Addr} {c : Int} {t₀ u₀ v₀ t9 : Tok} {m₀ : Str → Option Value} {all : List (Addr × Obj)} (stored : List Str)
    (hoc : oc.data = PySem.Data.cell (some (.int c t9))) (hh : A.handled = none) (hr : IsRange s.heap r 1 c 1 t₀ u₀ v₀) (hc : 2 ≤ c) (hc2 : c ≤ 52) (F : Fr h₀ env.locals s.heap m₀) (N : News h₀ env.locals s.heap all) (hT : Tabs ps qs cds R) (hn : ∀ p ∈ Led2 cell oc ps qs R, p ∈ all)
    (turn : ∀ (number : Int) t (u : Str → Option Value) ps qs R cds h tk own, 1 ≤ number → number < c → Tabs ps qs cds R → Apart own cell R →
      Fr h₀ env.locals h (fun y => if y = x then some (.int number t) else if stored.contains y = true then u y else m₀ y) → News h₀ env.locals h (Led2 cell oc ps qs (R ++ own)) →
      wpAny (model prog w) A (execs body env) (LawPost h₀ env.locals x stored m₀ cell oc own { s with heap := h, toks := tk } Q) E { s with heap := h, toks := tk })
    (done : ∀ (u : Str → Option Value) ps qs h tk, Fr h₀ env.locals h (fun y => if y = x then u y else if stored.contains y = true then u y else m₀ y) → News h₀ env.locals h [(cell, oc), (30, tabObj ps), (37, tabObj qs)] → Q .next { s with heap := h, toks := tk }) :
    wpAny (model prog w) A (pyIter (.ref r)) (fun it s₂ => LoopAtV prog w A h₀ env x body Q E it s₂) E s :=
  law_loop stored hoc hh hr hc hc2 F N hT hn turn fun u ps qs R cds h tk _ F N => done u ps qs h tk F fun p hp => N p (by
    rcases List.mem_cons.mp hp with rfl | hp
    · exact .head _
    · rcases List.mem_cons.mp hp with rfl | hp
      · exact .tail _ (.head _)
      · rcases List.mem_cons.mp hp with rfl | hp
        · exact .tail _ (.tail _ (.head _))
        · cases hp)
end
section
variable {prog : Program} {w : World} {A : Around} {E : Value → Shared → Prop} {s : Shared}
theorem mulB_R {a b : Int} {t u : Tok} {Q : Value → Shared → Prop} (ha : a.natAbs < 2 ^ 64) (h : Q (.int (a * b) s.toks) { s with toks := s.toks + 1 }) : wpAny (model prog w) A (binaryOp .Mult (.int a t) (.int b u)) Q E s :=
  mul_int h (IntMulOk.of_left (intBits_le_iff.mpr ha))
theorem modE_R {a c : Int} {t u : Tok} {Q : Value → Shared → Prop} (hc : 0 < c) (hc2 : c < 1000) (h : 0 ≤ a % c → a % c < c → Q (.int (a % c) s.toks) { s with toks := s.toks + 1 }) : wpAny (model prog w) A (binaryOp .Mod (.int a t) (.int c u)) Q E s := by
  have e := h (Int.emod_nonneg _ (by omega)) (Int.emod_lt_of_pos _ hc)
  rw [← Int.fmod_eq_emod_of_nonneg _ (by omega)] at e
  exact mod_int' (show c ≠ 0 by omega) e
theorem modG_R {a c : Int} {t u : Tok} {Q : Value → Shared → Prop} (hc : 0 < c) (hc2 : c < 1000) (h : ∀ m : Int, 0 ≤ m → m < c → Q (.int m s.toks) { s with toks := s.toks + 1 }) : wpAny (model prog w) A (binaryOp .Mod (.int a t) (.int c u)) Q E s :=
  modE_R hc hc2 fun h1 h2 => h _ h1 h2
theorem pow2_R {a : Int} {t u : Tok} {Q : Value → Shared → Prop} (ha : a.natAbs < 2 ^ 64) (h : Q (.int (a * a) s.toks) { s with toks := s.toks + 1 }) : wpAny (model prog w) A (binaryOp .Pow (.int a t) (.int 2 u)) Q E s := by
  refine pow_int (by decide) ?_ ?_
  · have := intBits_le_iff.mpr ha
    omega
  · have e : a ^ Int.toNat 2 = a * a := by
      show a ^ 2 = a * a
      exact Int.pow_succ a 1 ▸ by rw [Int.pow_one]
    rw [e]
    exact h
theorem notin3_R {h₀ : Heap} {L t : Addr} {news : List (Addr × Obj)} {v a b c : Int} {u t1 t2 t3 : Tok} {n : Nat} {Q : Value → Shared → Prop} (N : News h₀ L s.heap news) (hm : (t, ({ cls := .type "tuple", data := .seq #[.int a t1, .int b t2, .int c t3] n } : Obj)) ∈ news) (hv : v = a ∨ v = b ∨ v = c)
    (h : Q (.bool false) s) : wpAny (model prog w) A (compareOp .NotIn (.int v u) (.ref t)) Q E s := by
  refine notin_tuple_ints (ns := [a, b, c]) (News.isTup N hm) (.cons _ _ (.cons _ _ (.cons _ _ .nil))) ?_
  have e : ([a, b, c] : List Int).any (· == v) = true := by
    rcases hv with rfl | rfl | rfl <;> simp
  first
  | (rw [e]; exact h)
  | (simp only [e]; exact h)
end
structure Held (P : Prop) : Prop where
  out : P
theorem hold_ {P : Prop} (h : Held P) : P := h.out
structure Stop (P : Prop) : Prop where
  out : P
theorem stopper {M : Model} {A : Around} {α : Type} {t : Sem α} {Q : α → Shared → Prop} {E : Value → Shared → Prop} {s : Shared} (h : Stop (wpAny M A t Q E s)) : wpAny M A t Q E s := h.out
theorem tri_ne {x i c d y : Nat} (h : x ≠ i ∧ x ≠ c ∧ x ≠ d) (hy : y = i ∨ y = c ∨ y = d) : x ≠ y := by
  rcases hy with e | e | e
  · rw [e]; exact h.1
  · rw [e]; exact h.2.1
  · rw [e]; exact h.2.2
theorem num_size {k m : Int} (h2 : k < 1 + (((2 + m) - 1).toNat : Int)) (h : m < 51) (h0 : 0 ≤ m) (h1 : 1 ≤ k) : k.natAbs < 2 ^ 64 := by omega
theorem num_small {k m : Int} (h2 : k < 2 + (((2 + m) - 2).toNat : Int)) (h : m < 51) : k < 1000 := by omega
end
section
open PySem PySem.W PyProof.Rows PySem.Calls PySem.Spec
set_option maxRecDepth 100000
theorem fold_nil {G : List Int → Int → List Int} {p : Int → Prop} : ∀ (ks : List Int), (∀ l k, k ∈ ks → p k → G l k = l ++ [k]) → (∀ l k, k ∈ ks → ¬ p k → G l k = l) → ∀ l, (ks.foldl G l = [] ↔ l = [] ∧ ∀ k ∈ ks, ¬ p k)
  | [], _, _, l => by simp
  | k :: ks, h1, h2, l => by
    have ih := fold_nil ks (fun l k hk => h1 l k (.tail _ hk)) (fun l k hk => h2 l k (.tail _ hk))
    rw [List.foldl_cons]
    by_cases hp : p k
    · rw [h1 l k (.head _) hp, ih]
      constructor
      · rintro ⟨e, _⟩; simp at e
      · rintro ⟨_, e⟩; exact absurd hp (e k (.head _))
    · rw [h2 l k (.head _) hp, ih]
      constructor
      · rintro ⟨e, f⟩
        refine ⟨e, fun j hj => ?_⟩
        rcases List.mem_cons.mp hj with rfl | hj
        · exact hp
        · exact f j hj
      · rintro ⟨e, f⟩
        exact ⟨e, fun j hj => f j (.tail _ hj)⟩
def primeB (c : Int) : Bool := (rangeKs 2 (c - 2).toNat).all fun k => decide (¬ c % k = 0)
def goesB (c : Int) : Bool := (rangeKs 1 (c - 1).toNat).any fun k => decide ((k * k + 1) % c = 0)
theorem goes_all : ∀ n : Fin 51, primeB (2 + (n.1 : Int)) = true → goesB (2 + (n.1 : Int)) = (decide ((2 + (n.1 : Int)) % 4 = 1) || decide ((2 + (n.1 : Int)) = 2)) := by decide +kernel
theorem goes_at {c : Int} (h : 2 ≤ c) (h2 : c ≤ 52) (hp : primeB c = true) : goesB c = (decide (c % 4 = 1) || decide (c = 2)) := by
  have e : c = 2 + (((c - 2).toNat : Nat) : Int) := by omega
  have := goes_all ⟨(c - 2).toNat, by omega⟩
  simp only at this
  rw [← e] at this
  exact this hp
theorem prime_iff {c : Int} {G : List Int → Int → List Int} (h1 : ∀ l k, 0 ≤ c % k → c % k < k → c % k = 0 → G l k = l ++ [k]) (h2 : ∀ l k, 0 ≤ c % k → c % k < k → ¬ c % k = 0 → G l k = l) :
    (rangeKs 2 (c - 2).toNat).foldl G [] = [] ↔ primeB c = true := by
  rw [fold_nil (p := fun k => c % k = 0) _ (fun l k hk => h1 l k (Int.emod_nonneg _ (by have := (mem_rangeKs hk).1; omega)) (Int.emod_lt_of_pos _ (by have := (mem_rangeKs hk).1; omega))) (fun l k hk => h2 l k (Int.emod_nonneg _ (by have := (mem_rangeKs hk).1; omega)) (Int.emod_lt_of_pos _ (by have := (mem_rangeKs hk).1; omega)))]
  simp [primeB]
theorem goes_iff {c : Int} {G : List Int → Int → List Int} (hc : 2 ≤ c) (h1 : ∀ l k, 0 ≤ (k * k + 1) % c → (k * k + 1) % c < c → (k * k + 1) % c = 0 → G l k = l ++ [k]) (h2 : ∀ l k, 0 ≤ (k * k + 1) % c → (k * k + 1) % c < c → ¬ (k * k + 1) % c = 0 → G l k = l) :
    (rangeKs 1 (c - 1).toNat).foldl G [] = [] ↔ goesB c = false := by
  rw [fold_nil (p := fun k => (k * k + 1) % c = 0) _ (fun l k _ => h1 l k (Int.emod_nonneg _ (by omega)) (Int.emod_lt_of_pos _ (by omega))) (fun l k _ => h2 l k (Int.emod_nonneg _ (by omega)) (Int.emod_lt_of_pos _ (by omega)))]
  simp [goesB]
theorem last_prime {c : Int} {P S : List Int} {b : Bool} {dP : Decidable (P = [])} {dS : Decidable (S = [])} (hc : 2 ≤ c) (hc2 : c ≤ 52) (hP : P = [] ↔ primeB c = true) (hS : S = [] ↔ goesB c = false) (hp : decide (P = []) = true) (hb : b = (decide (c % 4 = 1) || decide (c = 2))) : ((!decide (S = [])) == b) = true := by
  have hp' := hP.mp (of_decide_eq_true hp)
  have hg := goes_at hc hc2 hp'
  cases hgv : goesB c with
  | true =>
    have : ¬ S = [] := fun e => by rw [hS.mp e] at hgv; cases hgv
    rw [hb, ← hg, hgv, decide_eq_false this]; rfl
  | false =>
    have : S = [] := hS.mpr hgv
    rw [hb, ← hg, hgv, decide_eq_true this]; rfl
end
section
open PySem PySem.W PyProof.Rows PySem.Calls
set_option maxRecDepth 100000
set_option maxHeartbeats 20000000
local macro_rules | `(tactic| k_ne) => `(tactic| ((refine neN ?_); (try dsimp only); first | ((with_reducible refine' tri_ne ?tr1 ?tr2); (case tr1 => first | assumption | (apply And.left; first | assumption | (apply And.right; first | assumption | (apply And.right; first | assumption | (apply And.right; assumption)))) | (apply And.right; first | assumption | (apply And.right; first | assumption | (apply And.right; first | assumption | (apply And.right; assumption))))); (case tr2 => first | exact Or.inl rfl | exact Or.inr (Or.inl rfl) | exact Or.inr (Or.inr rfl))) | omega))
local macro_rules | `(tactic| walk_at "call ref") => `(tactic| (k_here; (with_reducible show wpAny _ _ (call (Value.ref 88) _) _ _ _); k_dflt (refine' root_use ?q9B ?q9F ?q9X ?q9N ?q9T ?q9k ?q9d ?q9u ?q9a ?q9b ?_; (case q9B | q9F | q9X | q9T => k_asm); (case q9k => exact rfl); (case q9d => ktr_room); (case q9u => ktr_units); (case q9N => k_asm); (case q9a | q9b => omega); k_whole); intro r' t' h' tk' F' N' r1 r2 r3; have r4 := root_l r3; have r5 := root_r r3; (first | (have r7 := plus_root (by assumption) (by assumption) r3 r1 (by omega) (by omega)) | skip); (try dsimp only)))
local macro_rules | `(tactic| walk_at "call ref") => `(tactic| (k_here; (with_reducible show wpAny _ _ (call (Value.ref 95) _) _ _ _); k_dflt (refine' two_use ?q9oc ?q9B ?q9F ?q9X ?q9T ?q9k ?q9d ?q9u ?q9Tb ?q9W ?q9N ?q9mc ?q9m30 ?q9m37 ?q9mr ?q9h37 ?q9c ?q9c2 ?q9o ?q9o2 ?_; (case q9oc => assumption); (case q9B | q9F | q9X | q9T => k_asm); (case q9k => exact rfl); (case q9d => ktr_room); (case q9u => ktr_units); (case q9Tb => assumption); (case q9N => k_asm); (case q9mc => k_mem); (case q9W => first | assumption | exact apart_nil); (case q9m30 | q9m37 => k_mem); (case q9mr => first | (intro p hp; simp only [List.append_nil, List.not_mem_nil] at hp; done) | (intro p hp; repeat (first | exact hp | apply List.Mem.tail))); (case q9h37 | q9c | q9c2 | q9o | q9o2 => omega); k_whole); intro ps' qs' R' cds' t' x' y' tx' ty' h' tk' F' N' Tb' W' hTwo'; obtain ⟨f1, f2, f3, f4, f5, f6, f7, f8⟩ := two_facts hTwo' (by omega); (first | (have g1 := plus_ (by assumption) hTwo' (by omega) (by omega)) | (have g1 := twice_ (by assumption) hTwo' (by omega) (by omega)) | skip); (try dsimp only)))
local macro_rules | `(tactic| walk_at "binaryOp Mult int int") => `(tactic| (k_here; refine' mulB_R ?q9a ?_; (case q9a => first | exact num_size (by assumption) (by assumption) (by assumption) (by assumption) | omega); (try dsimp only)))
local macro_rules | `(tactic| walk_at "binaryOp Mod int int") => `(tactic| (k_here; refine' modE_R ?q9c ?q9c2 ?_; (case q9c => omega); (case q9c2 => first | exact num_small (by assumption) (by assumption) | omega); intro m1' m2'; (try dsimp only)))
local macro_rules | `(tactic| walk_at "binaryOp Mod int int") => `(tactic| (k_here; (first | (with_reducible show wpAny _ _ (binaryOp _ _ (Value.int 51 _)) _ _ _) | (with_reducible show wpAny _ _ (binaryOp _ (Value.int (ite _ _ _) _) _) _ _ _)); refine' modG_R ?q9c ?q9c2 ?_; (case q9c | q9c2 => omega); intro mm' m1' m2'; (try dsimp only)))
local macro_rules | `(tactic| walk_at "binaryOp Pow int int") => `(tactic| (k_here; refine' pow2_R ?q9a ?_; (case q9a => omega); (try dsimp only)))
local macro_rules | `(tactic| walk_at "pyIter ref") => `(tactic| (k_here; (with_reducible show wpAny _ _ (pyIter (Value.ref _)) (fun it s₂ => LoopAtV _ _ _ _ _ (Str.ofString "number") _ _ _ it s₂) _ _); refine stopper ?_))
local macro_rules | `(tactic| walk_at "LawPost") => `(tactic| ((with_reducible show LawPost _ _ _ _ _ _ _ _ _ _ (Flow.ret _) _); refine LawPost.ret ?_))
local macro_rules | `(tactic| walk_at "compareOp NotIn int ref") => `(tactic| (k_here; (with_reducible show wpAny _ _ (compareOp CmpOp.NotIn (Value.int _ _) (Value.ref _)) _ _ _); k_dflt (refine' notin3_R ?q9N ?q9m ?q9v ?_; (case q9N => k_asm); (case q9m => exact List.Mem.head _); (case q9v => assumption); k_whole)))
local macro_rules | `(tactic| walk_at "And") => `(tactic| ((fail_if_success (with_reducible show Frag.In _ _ ∧ _)); (fail_if_success (with_reducible show MethP _ _ _ _ _ ∧ _)); (fail_if_success (with_reducible show FnAt _ _ ∧ _)); refine hold_ ?_))
theorem law : PySem.Challenge.rw_ie0006_01.Holds := hd (by
  k_go0
  have hT0 : Tabs #[] #[] [] [] := ⟨.inl rfl, .inl rfl, fun p hp => (by cases hp), fun p hp => hp⟩
  (all_goals try k_fold)
  k_steps
  · refine Held.mk ?_
    exfalso
    simp_all
  · refine Stop.mk ?_
    (rename Fr _ _ _ _ => lF'); (rename News _ _ _ _ => lN'); (rename IsRange _ _ _ _ _ _ _ _ => rgX)
    (with_unfolding_all refine' law_loop [Str.ofString "one", Str.ofString "other", Str.ofString "root"] ?q9oc ?q9hh rgX ?q9c ?q9c2 lF' lN' ?q9Tb ?q9hn ?_ ?_); (case q9oc => assumption); (case q9hh => rfl); (case q9c => omega); (case q9c2 => omega); (case q9Tb => assumption); (case q9hn => (intro p hp; k_dflt repeat (first | exact hp | exact led2_app hp | apply List.Mem.tail)))
    · (clear lF' lN'); intros; (try k_fold)
      k_steps
      all_goals (first | ((try dsimp only); (with_reducible show LawPost _ _ _ _ _ _ _ _ _ _ _ _); (rename News _ _ _ _ => lN'); (rename Fr _ _ _ _ => lF'); (refine' LawPost.end ?f9 lF' lN' ?n9 ?t9 ?w9 ?m9; (case f9 => first | exact Or.inl rfl | exact Or.inr (Or.inr rfl)); (case t9 => assumption); (case w9 => assumption); (case n9 => (intro p hp; k_dflt repeat (first | exact hp | apply List.Mem.tail))); (case m9 => (intro z h1 h2; have h3 := h2; simp only [List.contains_cons, List.contains_nil, Bool.or_false, Bool.or_eq_false_iff, beq_eq_false_iff_ne, ne_eq] at h3; simp only [h1, h3, h2, if_false, Bool.false_eq_true])))))
    · (clear lF' lN'); intros; (try k_fold)
      k_steps
      refine Stop.mk ?_
      (rename Fr _ _ _ _ => lF'); (rename News _ _ _ _ => lN'); (rename IsRange _ _ _ _ _ _ _ _ => rgX)
      (with_unfolding_all refine' law_loop2 [Str.ofString "one", Str.ofString "other", Str.ofString "root"] ?q8oc ?q8hh rgX ?q8c ?q8c2 lF' lN' ?q8Tb ?q8hn ?_ ?_); (case q8oc => assumption); (case q8hh => rfl); (case q8c => omega); (case q8c2 => omega); (case q8Tb => assumption); (case q8hn => (intro p hp; k_dflt repeat (first | exact hp | exact led2_app hp | apply List.Mem.tail)))
      · (clear lF' lN'); intros; (try k_fold)
        k_steps
        all_goals (first | ((try dsimp only); (with_reducible show LawPost _ _ _ _ _ _ _ _ _ _ _ _); (rename News _ _ _ _ => lN'); (rename Fr _ _ _ _ => lF'); (refine' LawPost.end ?f9 lF' lN' ?n9 ?t9 ?w9 ?m9; (case f9 => first | exact Or.inl rfl | exact Or.inr (Or.inr rfl)); (case t9 => assumption); (case w9 => assumption); (case n9 => (intro p hp; k_dflt repeat (first | exact hp | apply List.Mem.tail))); (case m9 => (intro z h1 h2; have h3 := h2; simp only [List.contains_cons, List.contains_nil, Bool.or_false, Bool.or_eq_false_iff, beq_eq_false_iff_ne, ne_eq] at h3; simp only [h1, h3, h2, if_false, Bool.false_eq_true])))))
      · (clear lF' lN'); intros; (try k_fold)
        k_steps
        all_goals (first | ((refine Held.mk ?_); (try dsimp only); (rw [last_prime ?zc ?zc2 ?zP ?zS ?zp ?zb]); (case zp => assumption); (case zP => (refine' prime_iff ?zu ?zv; (case zu => (intro l k a b d; exact if_pos ⟨a, b, d⟩)); (case zv => (intro l k a b d; refine Eq.trans (if_neg (fun h => d h.2.2)) ?_; split <;> rfl)))); (case zS => (refine' goes_iff ?zw ?zx ?zy; (case zw => omega); (case zx => (intro l k a b d; exact if_pos ⟨a, b, d⟩)); (case zy => (intro l k a b d; refine Eq.trans (if_neg (fun h => d h.2.2)) ?_; split <;> rfl)))); (case zc => omega); (case zc2 => omega); (case zb => first | ((rename _ % 4 = 1 => h9); rw [h9]; simp; done) | ((rename _ % 4 ≠ 1 => h9); rw [decide_eq_false h9]; rfl))) | ((refine Held.mk ?_); (try dsimp only); (rename decide _ = false => h9); (rw [h9, Bool.not_false])))
        all_goals (first | (refine And.intro ?_ ?_ <;> first | wrow_close | walk1)))
end
end Mine
theorem PySem.Challenge.cw_ie0006_01_holds : PySem.Challenge.rw_ie0006_01.Holds :=
  Mine.law
