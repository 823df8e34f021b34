import PyProof.Rows.All
import Wide.All
import OpenK.AllK
import Wide.FinOn
import PySem.Challenge.RW_pa0027_01
open PySem PySem.W PyProof.Rows
set_option compiler.extract_closed false
set_option linter.all false
set_option Elab.async false
set_option maxRecDepth 100000
set_option maxHeartbeats 8000000
set_option synthInstance.maxSize 1 in
open_top hd for PySem.Challenge.rw_pa0027_01
namespace Mine
theorem top_off : True := by
  w_top off
  trivial

-- part base
noncomputable abbrev lo : List Str := looseW hd.view_39
      [Str.ofString "bytes_types", Str.ofString "a2b_base64", Str.ofString "b2a_base64", Str.ofString "_NO_SEP",
        Str.ofString "b2a_hex", Str.ofString "hexlify", Str.ofString "b64encode", Str.ofString "b64decode"]

/-- an around whose handled mark is written -/
noncomputable abbrev AA (dp : Nat) (fr : Option (List Env)) (gd : Option (List Code)) (un : Nat) : Around := { handled := none, depth := dp, frames := fr, guards := gd, units := un }

/-- what a quiet call hands back: a value, told by Post in the new heap; all that stood stays -/
noncomputable def Out (Post : Value → Heap → Prop) (s : Shared) (v : Value) (s' : Shared) : Prop := Post v s'.heap ∧ Keeps s s'

/-- a quiet def -/
noncomputable def Quiet (w : World) (f : Addr) (k j : Nat) (vs : List Value) (kw : List (Str × Value)) (pre : Heap → Prop) (Post : Value → Heap → Prop) : Prop :=
  ∀ (mean : ExcName → Option Value) (mg mb : Str → Option Value) (dp : Nat) (fr : Option (List Env)) (gd : Option (List Code)) (un : Nat) (s : Shared) (E : Value → Shared → Prop),
    (hd.heap_39 w.params).In s.heap → Top hd.view_39 lo mean mg mb s.heap → dp + k < 900 → un + j < 9000 → pre s.heap →
    wpAny (model PySem.Challenge.rw_pa0027_01.row.prog w) (AA dp fr gd un) (call (.ref f) vs kw) (Out Post s) E s

section
variable {prog : Program} {w : World} {A : Around} {s : Shared} {K : Frag} {R : Result → Shared → Prop}
theorem enter {name qual : Str} {params : Arguments} {body : List Stmt} {scope : Scope} {dV kV doc pm cdv ct oc : Value} {an od : Option Addr} {osl : Array (Option Value)} {f : Addr} {args : Args} {binds : List (Str × Value)}
    (X : K.In s.heap) (hlim : s.heap.NoLimit)
    (ho : K.lookup f = some ⟨oc, od, .func (fnOf name qual params body scope dV kV doc pm an cdv ct), osl⟩) (hcd : codeIn K cdv qual = true) (hroom : A.depth < recursionLimit)
    (hbind : BindsTo s (fnOf name qual params body scope dV kV doc pm an cdv ct) args binds) (hloc : ∀ y ∈ binds, scope.names.lookup y.1 = some .local)
    (h : ∀ L h₁, Fr s.heap L h₁ (fun y => binds.reverse.lookup y) → News s.heap L h₁ [] →
      wpAny (model prog w) (A.deeper (envOf qual scope L f cdv)) (execs body (envOf qual scope L f cdv))
        (fun fl s' => R (.ok (.ret (match fl with | .ret v => v | _ => .none))) s')
        (fun e s' => wpAny (model prog w) (A.deeper (envOf qual scope L f cdv)) (leaving (envOf qual scope L f cdv) e) (fun _ s'' => R (.error e) s'') (fun e' s'' => R (.error e') s'') s')
        { s with heap := h₁, toks := s.toks + binds.length })
    (hco : scope.isCoroutine = false) (hgen : scope.isGenerator = false) (hk : scope.kind = .function)
    (hcell : ∀ x ∈ scope.names, x.2 ≠ .cell) : codeAny (model prog w) A (.call (.ref f) args) R s := by
  refine codeAny_call_def (fd := fnOf name qual params body scope dV kV doc pm an cdv ct) (body := body) (binds := binds) hroom (X _ _ ho) rfl hlim (codeRec_of X hcd) rfl hbind hcell hloc (fun h₁ hns hk₁ => ?_) hco hgen hk
  exact h s.heap.objs.size h₁ ⟨hns, hk₁, Nat.le_refl _⟩ News.nil
end

theorem out_intro {Post : Value → Heap → Prop} {s : Shared} {v : Value} {h' : Heap} {tk : Nat} {L : Addr} {m : Str → Option Value} (F : Fr s.heap L h' m) (hp : Post v h') : Out Post s v { s with heap := h', toks := tk } :=
  ⟨hp, h', tk, rfl, F.keep⟩

/-- a quiet call within a walk -/
theorem use {prog : Program} {w : World} {A : Around} {s : Shared} {E : Value → Shared → Prop} {f : Addr} {vs : List Value} {kw : List (Str × Value)} {Post : Value → Heap → Prop} {Q : Value → Shared → Prop}
    {h₀ : Heap} {L : Addr} {m : Str → Option Value} {news : List (Addr × Obj)}
    (C : wpAny (model prog w) A (call (.ref f) vs kw) (Out Post s) E s) (F : Fr h₀ L s.heap m) (N : News h₀ L s.heap news)
    (h : ∀ v h' tk, Post v h' → (∀ b o, s.heap.get? b = some o → h'.get? b = some o) → Fr h₀ L h' m → News h₀ L h' news → Q v { s with heap := h', toks := tk }) :
    wpAny (model prog w) A (call (.ref f) vs kw) Q E s := by
  refine wpAny_mono C ?_ (fun _ _ e => e)
  rintro v s' ⟨hp, h', tk, rfl, hk⟩
  exact h v h' tk hp hk (F.keptAll hk) (N.grown hk)
theorem m_same {m : Str → Option Value} {k : Str} {v : Value} (h : m k = some v) (y : Str) : m y = if y = k then some v else m y := by
  by_cases e : y = k
  · rw [if_pos e, e, h]
  · rw [if_neg e]
theorem open_m {m : Str → Option Value} {k : Str} {v : Value} (h : m k = some v) : ∃ m' : Str → Option Value, m = fun y => if y = k then some v else m' y := ⟨m, funext fun y => m_same h y⟩
theorem open_m2 {m : Str → Option Value} {k k2 : Str} {v v2 : Value} (h : m k = some v) (h2 : m k2 = some v2) : ∃ m' : Str → Option Value, m = fun y => if y = k then some v else if y = k2 then some v2 else m' y :=
  ⟨m, funext fun y => by rw [← m_same h2 y]; exact m_same h y⟩
theorem open_m3 {m : Str → Option Value} {k k2 k3 : Str} {v v2 v3 : Value} (h : m k = some v) (h2 : m k2 = some v2) (h3 : m k3 = some v3) : ∃ m' : Str → Option Value, m = fun y => if y = k then some v else if y = k2 then some v2 else if y = k3 then some v3 else m' y :=
  ⟨m, funext fun y => by rw [← m_same h3 y, ← m_same h2 y]; exact m_same h y⟩
theorem gen_eq {α : Type _} {P : α → Prop} (a : α) (h : ∀ x, x = a → P x) : P a := h a rfl
theorem at_lc {M A a b c d e Q E s} (h : wpAny M A (eval (Expr.ListComp a b c d) e) Q E s) : wpAny M A (eval (Expr.ListComp a b c d) e) Q E s := h
theorem at_as {M A t p a b c d e Q E s} (h : wpAny M A (exec (Stmt.Assign t (Expr.ListComp a b c d) p) e) Q E s) : wpAny M A (exec (Stmt.Assign t (Expr.ListComp a b c d) p) e) Q E s := h
theorem at_en {M A l Q E s} (h : wpAny M A (call (Value.type "enumerate") l) Q E s) : wpAny M A (call (Value.type "enumerate") l) Q E s := h
theorem at_zip {M A l Q E s} (h : wpAny M A (call (Value.type "zip") l) Q E s) : wpAny M A (call (Value.type "zip") l) Q E s := h
theorem at_ref {M A f l k Q E s} (h : wpAny M A (call (Value.ref f) l k) Q E s) : wpAny M A (call (Value.ref f) l k) Q E s := h
theorem at_cmp {M A o a b Q E s} (h : wpAny M A (compareOp o (Value.ref a) (Value.ref b)) Q E s) : wpAny M A (compareOp o (Value.ref a) (Value.ref b)) Q E s := h
theorem at_iter {M A v Q E s} (h : wpAny M A (pyIter v) Q E s) : wpAny M A (pyIter v) Q E s := h
theorem at_try {M A a b c d p e Q E s} (h : wpAny M A (exec (Stmt.Try a b c d p) e) Q E s) : wpAny M A (exec (Stmt.Try a b c d p) e) Q E s := h
theorem at_join {M A l k Q E s} (h : wpAny M A (call (Value.builtin "bytes.join") l k) Q E s) : wpAny M A (call (Value.builtin "bytes.join") l k) Q E s := h
theorem at_end {a b c d e f g} (h : InvEndN a b c d e f g) : InvEndN a b c d e f g := h
local macro_rules | `(tactic| walk_at "ite") => `(tactic| (k_closed; (with_reducible (first | refine ite_pos rfl ?_ | refine ite_pos (by decide) ?_ | refine ite_neg (by decide) ?_))))
local macro_rules | `(tactic| k_room) => `(tactic| ((try simp only [depth_mark, depth_under_make, depth_under_kw, depth_in1, depth_deeper, depth_caller]); (show _ < 1000); omega))
local macro_rules | `(tactic| walk_at "call type:type") => `(tactic| (k_here; (with_reducible show wpAny _ _ (call (Value.type "type") [Value.bytes _ _]) _ _ _); refine call_type_of (Tx := "bytes") rfl (by decide +kernel) ?_))
local macro_rules | `(tactic| walk_at "call type:type") => `(tactic| (k_here; (with_reducible show wpAny _ _ (call (Value.type "type") [Value.bool _]) _ _ _); refine call_type_of (Tx := "bool") rfl (by decide +kernel) ?_))
local macro_rules | `(tactic| walk_at "mine enter") => `(tactic| (
  refine wpAny_call ?_
  k_dflt (refine' enter ?k3 ?kl ?k6 ?k7 ?k8 ?k9 ?kB ?_ ?c2 ?c3 ?c4 ?c5; (case k3 => k_asm); (case kl => exact Top.nolimit (by assumption)); (case k6 => k_is); (case k7 => k_is); (case k8 => k_room); (case k9 => first | exact BindsTo.of_eq rfl | exact binds_K (by k_in) rfl (by k_is) rfl rfl rfl); (case c5 => decide); (case kB => exact locs rfl); (case c2 => exact rfl); (case c3 => exact rfl); (case c4 => exact rfl))
  k_whole))
local macro_rules | `(tactic| walk_at "mine side") => `(tactic| (
    (case X => k_in); (case T => first | assumption | exact Top.keeps (by k_asm) (Fr.keep (by k_asm)))
    (case d => ((try simp only [depth_mark, depth_in1, depth_deeper]); omega)); (case u => ((try simp only [units_in1, units_deeper, Around.mark_units]); omega))))
local macro_rules | `(tactic| walk_at "mine ks") => `(tactic| ((case hb => kba_ints); (case hl => omega)))
local macro_rules | `(tactic| walk_at "call ref") => `(tactic| (k_here; k_dflt (refine' use ?kC ?kF ?kN ?_; (case kC => walk_at "mine use"); (case kF => k_asm); (case kN => k_asm); k_whole; intro v' h' tk' hP' hK' F' N'; (try (dsimp only at hP')); (try subst hP'); (try (with_reducible obtain ⟨r', t', hP', hI'⟩ := hP'; subst hP')); (try (obtain ⟨t', hP'⟩ := hP'; subst hP')); (try dsimp only); (try k_sweep))))
local macro_rules | `(tactic| walk_at "mine to loop") => `(tactic| repeat' (first | (k_unfold; (try dsimp only)) | (k_end; wrow_close) | ((fail_if_success (with_reducible refine at_iter ?_)); first | walk1 | (dsimp only; walk1)) | fail "no step"))
local macro_rules | `(tactic| walk_at "mine steps") => `(tactic| repeat' (first | (k_unfold; (try dsimp only)) | ((fail_if_success (with_reducible refine at_end ?_)); first | (k_end; wrow_close) | walk1 | (dsimp only; walk1) | (leave1; walk_say "STEP leave1"; try dsimp only)) | fail "no step"))

-- part bits
theorem and_shift (a n k : Nat) (h : n < 2 ^ k) : (a * 2 ^ k) &&& n = 0 := by
  apply Nat.eq_of_testBit_eq
  intro i
  rw [Nat.testBit_and, Nat.zero_testBit, ← Nat.shiftLeft_eq, Nat.testBit_shiftLeft]
  by_cases hi : k ≤ i
  · rw [Nat.testBit_lt_two_pow (Nat.lt_of_lt_of_le h (Nat.pow_le_pow_right (by decide) hi)), Bool.and_false]
  · simp [hi]
theorem or_shift {a n : Int} {k : Nat} (ha : 0 ≤ a) (h0 : 0 ≤ n) (h1 : n < 2 ^ k) : Builtin.bitOr (a * 2 ^ k) n = a * 2 ^ k + n := by
  obtain ⟨x, rfl⟩ := Int.eq_ofNat_of_zero_le ha
  obtain ⟨y, rfl⟩ := Int.eq_ofNat_of_zero_le h0
  have hc : ((x : Int) * 2 ^ k) = ((x * 2 ^ k : Nat) : Int) := by rw [Int.natCast_mul, kbt_cast]
  have hy : y < 2 ^ k := by
    have : ((y : Nat) : Int) < ((2 ^ k : Nat) : Int) := by rw [kbt_cast]; exact h1
    exact Int.ofNat_lt.mp this
  have z : Builtin.bitAnd ((x * 2 ^ k : Nat) : Int) (y : Int) = 0 := by
    unfold Builtin.bitAnd
    rw [decide_eq_true (Int.natCast_nonneg _), decide_eq_true (Int.natCast_nonneg _)]
    show (((((x * 2 ^ k : Nat) : Int).toNat &&& ((y : Int)).toNat : Nat)) : Int) = 0
    rw [Int.toNat_natCast, Int.toNat_natCast, and_shift x y k hy]
    rfl
  rw [bitOr_and, hc, z]
  omega
theorem fdiv_pos {a b : Int} (hb : 0 ≤ b) : a.fdiv b = a / b := Int.fdiv_eq_ediv_of_nonneg a hb
/-- the left bits with an octet behind -/
theorem lc_is {lc k : Int} (h0 : 0 ≤ lc) (h1 : 0 ≤ k) (h2 : k < 256) : Builtin.bitAnd (Builtin.bitOr (lc * 2 ^ Int.toNat 8) k) 65535 = (lc * 256 + k) % 65536 := by
  rw [or_shift h0 h1 (by simpa using h2), bitAnd_m16]
  rfl
theorem ix0 {lc k : Int} (h0 : 0 ≤ lc) (h1 : 0 ≤ k) (h2 : k < 256) : Builtin.bitAnd ((Builtin.bitAnd (Builtin.bitOr (lc * 2 ^ Int.toNat 8) k) 65535).fdiv (2 ^ (0 + 8 - 6 : Int).toNat)) 63 = k / 4 := by
  rw [lc_is h0 h1 h2, bitAnd_m6, show (2 : Int) ^ (0 + 8 - 6 : Int).toNat = 4 from rfl, fdiv_pos (by decide)]
  omega
theorem ix2 {lc k : Int} (h0 : 0 ≤ lc) (h1 : 0 ≤ k) (h2 : k < 256) : Builtin.bitAnd ((Builtin.bitAnd (Builtin.bitOr (lc * 2 ^ Int.toNat 8) k) 65535).fdiv (2 ^ (2 + 8 - 6 : Int).toNat)) 63 = lc % 4 * 16 + k / 16 := by
  rw [lc_is h0 h1 h2, bitAnd_m6, show (2 : Int) ^ (2 + 8 - 6 : Int).toNat = 16 from rfl, fdiv_pos (by decide)]
  omega
theorem ix4 {lc k : Int} (h0 : 0 ≤ lc) (h1 : 0 ≤ k) (h2 : k < 256) : Builtin.bitAnd ((Builtin.bitAnd (Builtin.bitOr (lc * 2 ^ Int.toNat 8) k) 65535).fdiv (2 ^ (4 + 8 - 6 : Int).toNat)) 63 = lc % 16 * 4 + k / 64 := by
  rw [lc_is h0 h1 h2, bitAnd_m6, show (2 : Int) ^ (4 + 8 - 6 : Int).toNat = 64 from rfl, fdiv_pos (by decide)]
  omega
theorem ix4' {lc k : Int} (h0 : 0 ≤ lc) (h1 : 0 ≤ k) (h2 : k < 256) : Builtin.bitAnd ((Builtin.bitAnd (Builtin.bitOr (lc * 2 ^ Int.toNat 8) k) 65535).fdiv (2 ^ (4 + 8 - 6 - 6 : Int).toNat)) 63 = k % 64 := by
  rw [lc_is h0 h1 h2, bitAnd_m6, show (2 : Int) ^ (4 + 8 - 6 - 6 : Int).toNat = 1 from rfl, fdiv_pos (by decide)]
  omega
theorem band63_lo (x : Int) : 0 ≤ Builtin.bitAnd x 63 := (bitAnd_range x (by decide)).1
theorem band63_hi (x : Int) : Builtin.bitAnd x 63 < 64 := Int.lt_of_le_of_lt (bitAnd_range x (by decide)).2 (by decide)
theorem ix_e2 (x : Int) : Builtin.bitAnd x 3 * 2 ^ Int.toNat 4 = x % 4 * 16 := by rw [bitAnd_m2]; rfl
theorem ix_e4 (x : Int) : Builtin.bitAnd x 15 * 2 ^ Int.toNat 2 = x % 16 * 4 := by rw [bitAnd_m4]; rfl

-- part small
noncomputable def b64v (c : Int) : Int := if 65 ≤ c ∧ c ≤ 90 then c - 65 else if 97 ≤ c ∧ c ≤ 122 then c - 71 else if 48 ≤ c ∧ c ≤ 57 then c + 4 else if c = 43 then 62 else if c = 47 then 63 else 64

theorem b64_value : ∀ (w : World) (c : Int) (t : Tok), Quiet w 77 1 10 [.int c t] [] (fun _ => True) (fun v _ => ∃ t', v = .int (b64v c) t') := by
  w_strict (
  unfold Quiet
  k_fill
  intro w c t mean mg mb dp fr gd un s E X T hdp hun _
  walk_at "mine enter"
  intro L h1 F N; (try dsimp only); (try k_fold)
  k_steps
  all_goals refine out_intro (by assumption) ?_
  all_goals (dsimp only; refine ⟨_, congrArg (fun z => Value.int z _) ?_⟩; unfold b64v; (repeat' split) <;> omega))
theorem buffer : ∀ (w : World) (b : Array UInt8) (t : Tok), Quiet w 63 1 10 [.bytes b t] [] (fun _ => True) (fun v _ => v = .bytes b t) := by
  w_strict (
  unfold Quiet
  k_fill
  intro w b t mean mg mb dp fr gd un s E X T hdp hun _
  walk_at "mine enter"
  intro L h1 F N; (try dsimp only); (try k_fold)
  k_steps
  all_goals refine out_intro (by assumption) ?_
  rfl)
theorem ascii_buffer : ∀ (w : World) (b : Array UInt8) (t : Tok), Quiet w 56 1 10 [.bytes b t] [] (fun _ => True) (fun v _ => v = .bytes b t) := by
  w_strict (
  unfold Quiet
  k_fill
  intro w b t mean mg mb dp fr gd un s E X T hdp hun _
  walk_at "mine enter"
  intro L h1 F N; (try dsimp only); (try k_fold)
  k_steps
  all_goals refine out_intro (by assumption) ?_
  rfl)
theorem truth : ∀ (w : World) (b : Bool), Quiet w 70 1 10 [.bool b] [] (fun _ => True) (fun v _ => v = .bool b) := by
  w_strict (
  unfold Quiet
  k_fill
  intro w b mean mg mb dp fr gd un s E X T hdp hun _
  walk_at "mine enter"
  intro L h1 F N; (try dsimp only); (try k_fold)
  k_steps
  all_goals refine out_intro (by assumption) ?_
  all_goals (cases b <;> simp_all))
local macro_rules | `(tactic| walk_at "mine use") => `(tactic| ((refine' b64_value _ _ _ _ _ _ _ _ _ _ _ _ ?X ?T ?d ?u trivial); walk_at "mine side"))
local macro_rules | `(tactic| walk_at "mine use") => `(tactic| ((refine' buffer _ _ _ _ _ _ _ _ _ _ _ _ ?X ?T ?d ?u trivial); walk_at "mine side"))
local macro_rules | `(tactic| walk_at "mine use") => `(tactic| ((refine' ascii_buffer _ _ _ _ _ _ _ _ _ _ _ _ ?X ?T ?d ?u trivial); walk_at "mine side"))
local macro_rules | `(tactic| walk_at "mine use") => `(tactic| ((refine' truth _ _ _ _ _ _ _ _ _ _ _ ?X ?T ?d ?u trivial); walk_at "mine side"))

-- part encp
/-- the sixty-four signs -/
noncomputable def sg : List Int := [65, 66, 67, 68, 69, 70, 71, 72, 73, 74, 75, 76, 77, 78, 79, 80, 81, 82, 83, 84, 85, 86, 87, 88, 89, 90, 97, 98, 99, 100, 101, 102, 103, 104, 105, 106, 107, 108, 109, 110, 111, 112, 113, 114, 115, 116, 117, 118, 119, 120, 121, 122, 48, 49, 50, 51, 52, 53, 54, 55, 56, 57, 43, 47]
noncomputable def sB (i : Int) : Int := sg.getD i.toNat 0
noncomputable def eStep : (List Int × Int × Int) → Int → (List Int × Int × Int)
  | (o, lb, acc), n => if lb = 0 then (o ++ [sB (n / 4)], 2, n % 4) else if lb = 2 then (o ++ [sB (acc * 16 + n / 16)], 4, n % 16) else (o ++ [sB (acc * 4 + n / 64), sB (n % 64)], 0, 0)
noncomputable def eSt (ks : List Int) : List Int × Int × Int := ks.foldl eStep ([], 0, 0)
noncomputable def eEnd : (List Int × Int × Int) → List Int
  | (o, lb, acc) => if lb = 2 then o ++ [sB (acc * 16), 61, 61] else if lb = 4 then o ++ [sB (acc * 4), 61] else o
noncomputable def enc (ks : List Int) : List Int := eEnd (eSt ks)
theorem eSt_snoc (pre : List Int) (n : Int) : eSt (pre ++ [n]) = eStep (eSt pre) n := by simp [eSt]
/-- the loop's word -/
noncomputable def EInv (pre : List Int) (lb lc : Int) : Prop := (lb = 0 ∧ (eSt pre).2 = (0, 0)) ∨ (lb = 2 ∧ (eSt pre).2 = (2, lc % 4)) ∨ (lb = 4 ∧ (eSt pre).2 = (4, lc % 16))
noncomputable def EWord (pre out : List Int) (lb lc : Int) : Prop := out = (eSt pre).1 ∧ 0 ≤ lc ∧ lc < 65536 ∧ EInv pre lb lc ∧ out.length ≤ 2 * pre.length
theorem eword_nil : EWord [] [] 0 0 := ⟨rfl, by decide, by decide, .inl ⟨rfl, rfl⟩, by simp⟩
theorem sB_in (i : Int) : 0 ≤ sB i ∧ sB i < 256 := KBw.getD_in (ks := sg) (j := i.toNat) (by decide)
noncomputable def sgArr : Array UInt8 := #[65, 66, 67, 68, 69, 70, 71, 72, 73, 74, 75, 76, 77, 78, 79, 80, 81, 82, 83, 84, 85, 86, 87, 88, 89, 90, 97, 98, 99, 100, 101, 102, 103, 104, 105, 106, 107, 108, 109, 110, 111, 112, 113, 114, 115, 116, 117, 118, 119, 120, 121, 122, 48, 49, 50, 51, 52, 53, 54, 55, 56, 57, 43, 47]
theorem sgArr_ints : KBw.bInts sgArr = sg := by decide +kernel
theorem b64_item {prog : Program} {w : World} {A : Around} {E : Value → Shared → Prop} {s : Shared} {value slice : PySem.Expr} {t ui : Tok} {i : Int} {Q : Value → Shared → Prop} (h0 : 0 ≤ i) (h1 : i < 64)
    (h : ∀ t' k, 0 ≤ sB i → sB i < 256 → Q (.int (sB i) t') { s with toks := k })
    (hs : subscripted slice false (.bytes sgArr t) (.int i ui) = operate [.bytes sgArr t, .int i ui] (getItem (.bytes sgArr t) (.int i ui)) := by with_unfolding_all rfl)
    (ht : ∀ r, letTemporaryGo value (.bytes sgArr t) r = pure () := by intro _; with_unfolding_all rfl) :
    wpAny (model prog w) A (subscriptTail value slice (.bytes sgArr t) (.int i ui)) Q E s :=
  KBw.item_K sgArr_ints (by decide) h0 (by simpa [sg] using h1) h hs ht
theorem eword_0 {pre out : List Int} {lc k : Int} (h : EWord pre out 0 lc) (h0 : 0 ≤ k) (h1 : k < 256) :
    EWord (pre ++ [k]) (out ++ [sB (Builtin.bitAnd ((Builtin.bitAnd (Builtin.bitOr (lc * 2 ^ Int.toNat 8) k) 65535).fdiv (2 ^ (0 + 8 - 6 : Int).toNat)) 63)]) (0 + 8 - 6) (Builtin.bitAnd (Builtin.bitOr (lc * 2 ^ Int.toNat 8) k) 65535) := by
  obtain ⟨ho, hc0, hc1, hi, hz⟩ := h
  rw [ix0 hc0 h0 h1, lc_is hc0 h0 h1]
  have hi : (eSt pre).2 = (0, 0) := by rcases hi with ⟨_, hi⟩ | ⟨h, _⟩ | ⟨h, _⟩ <;> first | exact hi | exact absurd h (by decide)
  have e : eSt pre = (out, 0, 0) := by rw [ho, ← hi]
  have e' : eSt (pre ++ [k]) = (out ++ [sB (k / 4)], 2, k % 4) := by rw [eSt_snoc, e]; rfl
  refine ⟨by rw [e'], by omega, by omega, .inr (.inl ⟨rfl, ?_⟩), by simp; omega⟩
  rw [e']
  show (2, k % 4) = (2, (lc * 256 + k) % 65536 % 4)
  congr 1
  omega
theorem eword_2 {pre out : List Int} {lc k : Int} (h : EWord pre out 2 lc) (h0 : 0 ≤ k) (h1 : k < 256) :
    EWord (pre ++ [k]) (out ++ [sB (Builtin.bitAnd ((Builtin.bitAnd (Builtin.bitOr (lc * 2 ^ Int.toNat 8) k) 65535).fdiv (2 ^ (2 + 8 - 6 : Int).toNat)) 63)]) (2 + 8 - 6) (Builtin.bitAnd (Builtin.bitOr (lc * 2 ^ Int.toNat 8) k) 65535) := by
  obtain ⟨ho, hc0, hc1, hi, hz⟩ := h
  rw [ix2 hc0 h0 h1, lc_is hc0 h0 h1]
  have hi : (eSt pre).2 = (2, lc % 4) := by rcases hi with ⟨h, _⟩ | ⟨_, hi⟩ | ⟨h, _⟩ <;> first | exact hi | exact absurd h (by decide)
  have e : eSt pre = (out, 2, lc % 4) := by rw [ho, ← hi]
  have e' : eSt (pre ++ [k]) = (out ++ [sB (lc % 4 * 16 + k / 16)], 4, k % 16) := by rw [eSt_snoc, e]; rfl
  refine ⟨by rw [e'], by omega, by omega, .inr (.inr ⟨rfl, ?_⟩), by simp; omega⟩
  rw [e']
  show (4, k % 16) = (4, (lc * 256 + k) % 65536 % 16)
  congr 1
  omega
theorem eword_4 {pre out : List Int} {lc k : Int} (h : EWord pre out 4 lc) (h0 : 0 ≤ k) (h1 : k < 256) :
    EWord (pre ++ [k]) (out ++ [sB (Builtin.bitAnd ((Builtin.bitAnd (Builtin.bitOr (lc * 2 ^ Int.toNat 8) k) 65535).fdiv (2 ^ (4 + 8 - 6 : Int).toNat)) 63), sB (Builtin.bitAnd ((Builtin.bitAnd (Builtin.bitOr (lc * 2 ^ Int.toNat 8) k) 65535).fdiv (2 ^ (4 + 8 - 6 - 6 : Int).toNat)) 63)]) (4 + 8 - 6 - 6) (Builtin.bitAnd (Builtin.bitOr (lc * 2 ^ Int.toNat 8) k) 65535) := by
  obtain ⟨ho, hc0, hc1, hi, hz⟩ := h
  rw [ix4 hc0 h0 h1, ix4' hc0 h0 h1, lc_is hc0 h0 h1]
  have hi : (eSt pre).2 = (4, lc % 16) := by rcases hi with ⟨h, _⟩ | ⟨h, _⟩ | ⟨_, hi⟩ <;> first | exact hi | exact absurd h (by decide)
  have e : eSt pre = (out, 4, lc % 16) := by rw [ho, ← hi]
  have e' : eSt (pre ++ [k]) = (out ++ [sB (lc % 16 * 4 + k / 64), sB (k % 64)], 0, 0) := by rw [eSt_snoc, e]; rfl
  refine ⟨by rw [e'], by omega, by omega, .inl ⟨rfl, ?_⟩, by simp; omega⟩
  rw [e']
theorem in_append {a b : List Int} (ha : KBa.In a) (hb : KBa.In b) : KBa.In (a ++ b) := fun n hn => (List.mem_append.mp hn).elim (ha n) (hb n)
theorem in_one {a : Int} (h : 0 ≤ a ∧ a < 256) : KBa.In [a] := fun n hn => by rw [List.mem_singleton.mp hn]; exact h
theorem eStep_in {p : List Int × Int × Int} {n : Int} (h : KBa.In p.1) : KBa.In (eStep p n).1 := by
  obtain ⟨o, lb, acc⟩ := p
  show KBa.In (if lb = 0 then (o ++ [sB (n / 4)], (2 : Int), n % 4) else if lb = 2 then (o ++ [sB (acc * 16 + n / 16)], (4 : Int), n % 16) else (o ++ [sB (acc * 4 + n / 64), sB (n % 64)], (0 : Int), (0 : Int))).1
  split
  · exact in_append h (in_one (sB_in _))
  · split
    · exact in_append h (in_one (sB_in _))
    · exact in_append h (fun n hn => by rcases List.mem_cons.mp hn with rfl | hn; exact sB_in _; rw [List.mem_singleton.mp hn]; exact sB_in _)
theorem foldl_in : ∀ (ks : List Int) (p : List Int × Int × Int), KBa.In p.1 → KBa.In (ks.foldl eStep p).1
  | [], _, h => h
  | k :: ks, p, h => foldl_in ks (eStep p k) (eStep_in h)
theorem eSt_in (ks : List Int) : KBa.In (eSt ks).1 := foldl_in ks _ (fun _ h => nomatch h)
theorem ew_end0 {ks out : List Int} {lc : Int} (h : EWord ks out 0 lc) : enc ks = out := by
  obtain ⟨ho, _, _, hi, _⟩ := h
  have hi : (eSt ks).2 = (0, 0) := by rcases hi with ⟨_, hi⟩ | ⟨h, _⟩ | ⟨h, _⟩ <;> first | exact hi | exact absurd h (by decide)
  have e : eSt ks = (out, 0, 0) := by rw [ho, ← hi]
  unfold enc; rw [e]; rfl
theorem ew_end2 {ks out : List Int} {lc : Int} (h : EWord ks out 2 lc) : enc ks = out ++ [sB (Builtin.bitAnd lc 3 * 2 ^ Int.toNat 4), 61, 61] := by
  obtain ⟨ho, _, _, hi, _⟩ := h
  have hi : (eSt ks).2 = (2, lc % 4) := by rcases hi with ⟨h, _⟩ | ⟨_, hi⟩ | ⟨h, _⟩ <;> first | exact hi | exact absurd h (by decide)
  have e : eSt ks = (out, 2, lc % 4) := by rw [ho, ← hi]
  rw [ix_e2]; unfold enc; rw [e]; rfl
theorem ew_end4 {ks out : List Int} {lc : Int} (h : EWord ks out 4 lc) : enc ks = out ++ [sB (Builtin.bitAnd lc 15 * 2 ^ Int.toNat 2), 61] := by
  obtain ⟨ho, _, _, hi, _⟩ := h
  have hi : (eSt ks).2 = (4, lc % 16) := by rcases hi with ⟨h, _⟩ | ⟨h, _⟩ | ⟨_, hi⟩ <;> first | exact hi | exact absurd h (by decide)
  have e : eSt ks = (out, 4, lc % 16) := by rw [ho, ← hi]
  rw [ix_e4]; unfold enc; rw [e]; rfl
theorem bits_and (x : Int) {y : Int} (hy : 0 ≤ y) (h : y < 2 ^ 64) : Builtin.Int.intBits (Builtin.bitAnd x y) ≤ 64 := by
  have := bitAnd_range x hy
  exact intBits_le_64 (by omega) (by omega)
theorem enc_in (ks : List Int) : KBa.In (enc ks) := by
  unfold enc eEnd
  have h := eSt_in ks
  revert h
  generalize eSt ks = p
  obtain ⟨o, lb, acc⟩ := p
  intro h
  dsimp only
  split
  · exact in_append h (fun n hn => by rcases List.mem_cons.mp hn with rfl | hn2; exact sB_in _; clear hn; revert n; decide)
  · split
    · exact in_append h (fun n hn => by rcases List.mem_cons.mp hn with rfl | hn2; exact sB_in _; clear hn; revert n; decide)
    · exact h
local macro_rules | `(tactic| walk_at "mine ix") => `(tactic| first | exact band63_lo _ | exact band63_hi _ | (rw [ix_e2]; omega) | (rw [ix_e4]; omega))
local macro_rules | `(tactic| walk_at "subscriptTail") => `(tactic| (k_here; (with_reducible show wpAny _ _ (subscriptTail _ _ (Value.bytes _ _) (Value.int _ _)) _ _ _); (refine b64_item (by walk_at "mine ix") (by walk_at "mine ix") ?_); intro _ _ kbaLo kbaHi))
local macro_rules | `(tactic| walk_at "binaryOp LShift int int") => `(tactic| (k_here; (with_reducible show wpAny _ _ (binaryOp _ (Value.int (Builtin.bitAnd _ _) _) (Value.int _ _)) _ _ _); (with_reducible refine lshift_int (by decide) (kbm_shl (m := 64) (bits_and _ (by decide) (by decide)) (by decide) (by decide)) ?_)))

-- part enc
theorem b2a : ∀ (w : World) (b : Array UInt8) (ks : List Int) (t : Tok), KBw.bInts b = ks → ks.length ≤ 1000 → Quiet w 93 3 40 [.bytes b t] [(Str.ofString "newline", .bool false)] (fun _ => True) (fun v _ => ∃ r t', v = .bytes r t' ∧ KBw.bInts r = enc ks) := by
  w_strict (
  unfold Quiet
  k_fill
  intro w b ks t hb hl mean mg mb dp fr gd un s E X T hdp hun _
  walk_at "mine enter"
  intro L h1 F N; (try dsimp only); (try k_fold)
  obtain ⟨M0, e1, e2, F⟩ : ∃ M : Str → Option Value, M (Str.ofString "data") = some (.bytes b t) ∧ M (Str.ofString "newline") = some (.bool false) ∧ Fr s.heap L h1 M := ⟨_, rfl, rfl, F⟩
  obtain ⟨M0, rfl⟩ := open_m2 e1 e2
  clear e1 e2
  (k_with "pyIter bytes" => skip)
  walk_at "mine to loop"
  rename Fr _ _ _ _ => kF
  rename News _ _ _ _ => kN
  rename_i l0 _ _ _ _ _
  obtain ⟨M, t1, t2, m1, m2, m3, m4, kF⟩ : ∃ (M : Str → Option Value) (t1 t2 : Tok), M (Str.ofString "newline") = some (.bool false) ∧ M (Str.ofString "out") = some (.ref l0) ∧ M (Str.ofString "leftbits") = some (.int 0 t1)
      ∧ M (Str.ofString "leftchar") = some (.int 0 t2) ∧ Fr s.heap L _ M := ⟨_, _, _, rfl, rfl, rfl, rfl, kF⟩
  obtain ⟨M, rfl⟩ := open_m m1
  clear m1
  refine' KStb.kst_bytes (σ := List Value × Nat × List Int × Int × Tok × Int × Tok) (fun c => [(l0, W.listOf c.1.toArray c.2.1)])
    (fun c => [(Str.ofString "out", .ref l0), (Str.ofString "leftbits", .int c.2.2.2.1 c.2.2.2.2.1), (Str.ofString "leftchar", .int c.2.2.2.2.2.1 c.2.2.2.2.2.2)])
    (fun c => IntsAre c.1 c.2.2.1) [] (fun pre c => EWord pre c.2.2.1 c.2.2.2.1 c.2.2.2.2.2.1) ([], 0, [], 0, t1, 0, t2) hb rfl rfl kF kN IntsAre.nil (List.forall_mem_cons.mpr ⟨m2, List.forall_mem_cons.mpr ⟨m3, List.forall_mem_cons.mpr ⟨m4, List.forall_mem_nil _⟩⟩⟩) eword_nil ?turn ?done
  (case turn =>
    clear kF kN
    rintro ⟨vs, n, out, lb, t1, lc, t2⟩ pre post k tk1 u h tk2 own hks hlt h0 h1 hoff hints hw kF kN
    dsimp only at hints hw kN hoff
    dsimp only [kstB] at kF
    change Fr s.heap L h _ at kF
    change News s.heap L h ((l0, W.listOf vs.toArray n) :: own) at kN
    have ⟨ho, hc0, hc1, hi, hz⟩ := hw
    have hlen := hints.length
    (try k_fold)
    refine gen_eq (P := fun KK => wpAny _ _ _ (InvPostN _ _ KK _ _ _ _) _ _) _ ?_
    intro KK hK
    simp only [List.contains_nil, Bool.false_eq_true, if_false] at kF
    rcases hi with ⟨rfl, hi⟩ | ⟨rfl, hi⟩ | ⟨rfl, hi⟩
    walk_at "mine steps"
    all_goals (subst hK; rename Fr _ _ _ _ => eF; rename News _ _ _ _ => eN; (try simp only [List.push_toArray] at eN))
    (· refine' kst_end (_, _, _, _, _, _, _) eF eN (List.forall_mem_cons.mpr ⟨List.Mem.head _, List.forall_mem_nil _⟩) (fun p hp => List.Mem.tail _ hp) rfl (hints.append (.cons _ _ .nil)) ?hk ?hr (eword_0 hw h0 h1)
       (case hk => kst_all)
       (case hr => kst_same))
    (· refine' kst_end (_, _, _, _, _, _, _) eF eN (List.forall_mem_cons.mpr ⟨List.Mem.head _, List.forall_mem_nil _⟩) (fun p hp => List.Mem.tail _ hp) rfl (hints.append (.cons _ _ .nil)) ?hk ?hr (eword_2 hw h0 h1)
       (case hk => kst_all)
       (case hr => kst_same))
    (· simp only [List.append_assoc, List.cons_append, List.nil_append] at eN
       refine' kst_end (_, _, _, _, _, _, _) eF eN (List.forall_mem_cons.mpr ⟨List.Mem.head _, List.forall_mem_nil _⟩) (fun p hp => List.Mem.tail _ hp) rfl (hints.append (.cons _ _ (.cons _ _ .nil))) ?hk ?hr (eword_4 hw h0 h1)
       (case hk => kst_all)
       (case hr => kst_same)))
  (case done =>
    clear kF kN
    rintro ⟨vs, n, out, lb, t1, lc, t2⟩ u h tk2 hlen hints hw kF kN
    dsimp only at hints hw kN
    dsimp only [kstB] at kF
    change Fr s.heap L h _ at kF
    change News s.heap L h [(l0, W.listOf vs.toArray n)] at kN
    have ⟨ho, hc0, hc1, hi, hz⟩ := hw
    have hlen2 := hints.length
    (try k_fold)
    rcases hi with ⟨rfl, hi⟩ | ⟨rfl, hi⟩ | ⟨rfl, hi⟩
    k_steps
    all_goals (rename Fr _ _ _ _ => eF; rename News _ _ _ _ => eN; (try simp only [List.push_toArray, List.append_assoc, List.cons_append, List.nil_append] at eN))
    (· refine KBa.make_K eF eN rfl (News.isList eN (List.Mem.head _)) hints ?_ (by omega) ?_
       (· rw [ho]; exact eSt_in ks)
       (· intro h' t' k F' N' hin
          k_steps
          exact out_intro (by assumption) ⟨_, _, rfl, by rw [KBa.ints_make hin, ew_end0 hw]⟩))
    (· refine KBa.make_K eF eN rfl (News.isList eN (List.Mem.head _)) (hints.append (.cons _ _ (.cons _ _ (.cons _ _ .nil)))) ?_ (by simp; omega) ?_
       (· rw [← ew_end2 hw]; exact enc_in ks)
       (· intro h' t' k F' N' hin
          k_steps
          exact out_intro (by assumption) ⟨_, _, rfl, by rw [KBa.ints_make hin, ew_end2 hw]⟩))
    (· refine KBa.make_K eF eN rfl (News.isList eN (List.Mem.head _)) (hints.append (.cons _ _ (.cons _ _ .nil))) ?_ (by simp; omega) ?_
       (· rw [← ew_end4 hw]; exact enc_in ks)
       (· intro h' t' k F' N' hin
          k_steps
          exact out_intro (by assumption) ⟨_, _, rfl, by rw [KBa.ints_make hin, ew_end4 hw]⟩))))
local macro_rules | `(tactic| walk_at "mine use") => `(tactic| ((refine' b2a _ _ _ _ ?hb ?hl _ _ _ _ _ _ _ _ _ ?X ?T ?d ?u trivial); walk_at "mine ks"; walk_at "mine side"))

-- part enc2
theorem b64e : ∀ (w : World) (b : Array UInt8) (ks : List Int) (t : Tok), KBw.bInts b = ks → ks.length ≤ 1000 → Quiet w 110 5 50 [.bytes b t] [] (fun _ => True) (fun v _ => ∃ r t', v = .bytes r t' ∧ KBw.bInts r = enc ks) := by
  w_strict (
  unfold Quiet
  k_fill
  intro w b ks t hb hl mean mg mb dp fr gd un s E X T hdp hun _
  walk_at "mine enter"
  intro L h1 F N; (try dsimp only); (try k_fold)
  k_steps
  exact out_intro (by assumption) ⟨_, _, rfl, by assumption⟩)
local macro_rules | `(tactic| walk_at "mine use") => `(tactic| ((refine' b64e _ _ _ _ ?hb ?hl _ _ _ _ _ _ _ _ _ ?X ?T ?d ?u trivial); walk_at "mine ks"; walk_at "mine side"))

-- part hexr
section
open Builtin
theorem slot_upper : Slot "bytes" "upper" "bytes.upper" :=
  .of (owner := "bytes") (n := "upper") (by rw [typeLookup_type, builtinLookup_eq_fast]; kernel_rfl) (by decide +kernel) (by decide +kernel) (by decide +kernel)
    (by first | exact .inl (by decide +kernel) | exact .inr (by decide +kernel)) (by rw [isSubtype_type]; kernel_rfl)
theorem type_upper : typeOf (.builtin "bytes.upper") = pure (.type "method_descriptor") := by show builtinType _ = _; rw [builtinType_eq_fast]; kernel_rfl
theorem entry_upper : entryFor table "bytes.upper" = some Builtin.«bytes.upper» := entryFor_of_tree (by kernel_rfl)
theorem args_upper (a : Value) : argsOk "bytes.upper" ⟨[a], []⟩ := by
  unfold argsOk; rw [signature?_of (id := "bytes.upper") (n := ['r', 'e', 'p', 'p', 'u']) (o := ['s', 'e', 't', 'y', 'b']) (by kernel_rfl) FB.owner_bytes]; kernel_rfl
noncomputable def hexCps (b : Array UInt8) : Array Nat := b.toList.zipIdx.foldl (fun (out : Array Nat) (x : UInt8 × Nat) => (out.push (Bytes.hexDigit (x.1.toNat / 16))).push (Bytes.hexDigit (x.1.toNat % 16))) #[]
theorem hex_eq (b : Array UInt8) (t : Tok) : «bytes.hex» ⟨[.bytes b t], []⟩ = retStr ⟨hexCps b⟩ := by kernel_rfl
theorem upper_eq (b : Array UInt8) (t : Tok) : «bytes.upper» ⟨[.bytes b t], []⟩ = (mkBytes (b.toList.map Bytes.toUpper).toArray >>= ret) := by kernel_rfl
end

-- part hexr2
section
open Builtin
theorem encode_eq (x : Str) (t t2 : Tok) : «str.encode» ⟨[.str x t, .str (Str.ofString "ascii") t2], []⟩ = ((_codecs.encodeNarrow "str.encode" _codecs.asciiCodec none (.str x t) x >>= mkBytes) >>= ret) := by kernel_rfl
theorem fold_bytes : ∀ (l : List Nat) (acc : Array UInt8), l.foldl (fun acc y => acc ++ ([y.toUInt8] : List UInt8).toArray) acc = acc ++ (l.map (·.toUInt8)).toArray
  | [], acc => by simp
  | y :: l, acc => by rw [List.foldl_cons, fold_bytes l]; simp
theorem forIn_stop {α σ : Type} {f : α → σ → Sem (ForInStep σ)} {c : σ} (h : ∀ a, f a c = pure (.done c)) : ∀ l : List α, forIn l c f = pure c
  | [] => rfl
  | a :: l => by rw [List.forIn_cons, h a]; rfl
theorem forIn_two {α σ : Type} {f : α → σ → Sem (ForInStep σ)} {b c : σ} {a : α} {l : List α} (h1 : f a b = pure (.yield c)) (h : ∀ a, f a c = pure (.done c)) : forIn (a :: l) b f = pure c := by
  rw [List.forIn_cons, h1]; exact forIn_stop h l
theorem narrow_ascii (x : Str) (self : Value) (h : ∀ c ∈ x.cps, c < 128) (hz : x.length ≤ sizeLine) : _codecs.encodeNarrow "str.encode" _codecs.asciiCodec none self x = pure (x.cps.map (·.toUInt8)) := by
  obtain ⟨⟨l⟩⟩ := x
  unfold _codecs.encodeNarrow
  simp only [Str.length, List.size_toArray, Std.Legacy.Range.forIn_eq_forIn_range']
  cases l with
  | nil => simp [Std.Legacy.Range.size]
  | cons a l =>
    have ha : a < 128 := h a (by simp)
    have hall : (Array.mk (a :: l)).findIdx? _codecs.asciiCodec.bad = none := by
      rw [Array.findIdx?_eq_none_iff]
      intro y hy
      have := h y hy
      simp [_codecs.asciiCodec]
      omega
    have hb : _codecs.asciiCodec.bad a = false := by simp [_codecs.asciiCodec]; omega
    have e1 : (Array.mk (a :: l)).extract 0 (a :: l).length = Array.mk (a :: l) := by
      have := Array.extract_size (xs := Array.mk (a :: l))
      simpa using this
    have e2 : (Array.mk (a :: l)).foldl (fun acc y => acc ++ (_codecs.asciiCodec.bytesOf y).toArray) (#[] : Array UInt8) = ((a :: l).map (·.toUInt8)).toArray := by
      have := fold_bytes (a :: l) #[]
      rw [Array.empty_append] at this
      rw [← this, ← Array.foldl_toList]
      rfl
    have hsz : ((a :: l).map (·.toUInt8)).toArray.size ≤ sizeLine := by simpa [Str.length] using hz
    have key : ∀ (B : Nat → (Nat × Array UInt8 × _codecs.Faults) → Sem (ForInStep (Nat × Array UInt8 × _codecs.Faults))),
        (B 0 (0, #[], {}) = pure (.yield (l.length + 1, ((a :: l).map (·.toUInt8)).toArray, {}))) → (∀ j, B j (l.length + 1, ((a :: l).map (·.toUInt8)).toArray, {}) = pure (.done (l.length + 1, ((a :: l).map (·.toUInt8)).toArray, {}))) →
        (forIn (List.range' 0 (l.length + 1)) (0, #[], {}) B >>= fun s => (pure s.2.1 : Sem (Array UInt8))) = pure ((Array.mk (a :: l)).map (·.toUInt8)) := by
      intro B h1 h2
      rw [List.range'_succ, forIn_two h1 h2]
      simp
    have hsize : ([:(a :: l).length] : Std.Legacy.Range).size = l.length + 1 := by simp [Std.Legacy.Range.size]
    rw [hsize]
    refine key _ ?_ ?_
    · dsimp only
      rw [if_neg (by simp)]
      rw [List.length_cons] at e1
      simp only [List.getElem?_toArray, List.getElem?_cons_zero, hb, Bool.not_false, if_true, List.length_cons]
      rw [e1, hall]
      simp only [Option.getD_none, List.size_toArray, List.length_cons]
      rw [e1, e2, Nat.zero_add]
    · intro j
      dsimp only
      rw [if_neg (Nat.not_lt.mpr hsz)]
      simp

/-- hex digits -/
noncomputable def hexd (n : Int) : Int := if n < 10 then 48 + n else 87 + n
noncomputable def hexu (n : Int) : Int := if n < 10 then 48 + n else 55 + n
noncomputable def hexs (ks : List Int) : List Int := ks.flatMap fun k => [hexd (k / 16), hexd (k % 16)]
noncomputable def b16 (ks : List Int) : List Int := ks.flatMap fun k => [hexu (k / 16), hexu (k % 16)]
theorem hexDigit_is (n : Nat) : ((Bytes.hexDigit n : Nat) : Int) = hexd n := by
  unfold Bytes.hexDigit hexd
  by_cases h : n < 10
  · rw [if_pos h, if_pos (by omega)]; omega
  · rw [if_neg h, if_neg (by omega)]; omega
theorem hex_fold : ∀ (l : List (UInt8 × Nat)) (acc : Array Nat), (l.foldl (fun (out : Array Nat) (x : UInt8 × Nat) => (out.push (Bytes.hexDigit (x.1.toNat / 16))).push (Bytes.hexDigit (x.1.toNat % 16))) acc).toList = acc.toList ++ l.flatMap fun x => [Bytes.hexDigit (x.1.toNat / 16), Bytes.hexDigit (x.1.toNat % 16)]
  | [], acc => by simp
  | x :: l, acc => by rw [List.foldl_cons, hex_fold l]; simp
theorem hexCps_list (b : Array UInt8) : (hexCps b).toList = b.toList.flatMap fun c => [Bytes.hexDigit (c.toNat / 16), Bytes.hexDigit (c.toNat % 16)] := by
  unfold hexCps
  rw [hex_fold]
  simp only [List.nil_append]
  have : ∀ (l : List UInt8) (k : Nat), (l.zipIdx k).flatMap (fun x => [Bytes.hexDigit (x.1.toNat / 16), Bytes.hexDigit (x.1.toNat % 16)]) = l.flatMap fun c => [Bytes.hexDigit (c.toNat / 16), Bytes.hexDigit (c.toNat % 16)] := by
    intro l
    induction l with
    | nil => intro k; rfl
    | cons c l ih => intro k; rw [List.zipIdx_cons, List.flatMap_cons, List.flatMap_cons, ih]
  simpa using this b.toList 0
theorem hexDigit_lt {n : Nat} (h : n < 16) : Bytes.hexDigit n < 128 := by unfold Bytes.hexDigit; split <;> omega
theorem hexCps_ascii (b : Array UInt8) : ∀ c ∈ hexCps b, c < 128 := by
  intro c hc
  have : c ∈ (hexCps b).toList := by simpa using hc
  rw [hexCps_list, List.mem_flatMap] at this
  obtain ⟨x, _, hx⟩ := this
  have hb := UInt8.toNat_lt x
  rcases List.mem_cons.mp hx with rfl | hx
  · exact hexDigit_lt (by omega)
  · rw [List.mem_singleton.mp hx]; exact hexDigit_lt (by omega)
theorem hexCps_size (b : Array UInt8) : (hexCps b).size = 2 * b.size := by
  have : (hexCps b).toList.length = 2 * b.toList.length := by
    rw [hexCps_list]
    induction b.toList with
    | nil => rfl
    | cons c l ih => rw [List.flatMap_cons, List.length_append, ih]; simp; omega
  simpa using this
theorem u8_of {n : Nat} (h : n < 256) : (n.toUInt8).toNat = n := by
  show (UInt8.ofNat n).toNat = n; rw [UInt8.toNat_ofNat']; omega
/-- the upper signs of a byte -/
theorem up_digit {n : Nat} (h : n < 16) : (((Bytes.toUpper (Bytes.hexDigit n).toUInt8).toNat : Nat) : Int) = hexu n := by
  have : ∀ m : Fin 16, (((Bytes.toUpper (Bytes.hexDigit m.val).toUInt8).toNat : Nat) : Int) = hexu (m.val : Int) := by decide +kernel
  exact this ⟨n, h⟩
theorem upper_ints (b : Array UInt8) : KBw.bInts (((hexCps b).map (·.toUInt8)).toList.map Bytes.toUpper).toArray = b16 (KBw.bInts b) := by
  unfold KBw.bInts b16
  simp only [Array.toList_map, hexCps_list, List.map_map]
  induction b.toList with
  | nil => rfl
  | cons c l ih =>
    have hb := UInt8.toNat_lt c
    simp only [List.flatMap_cons, List.map_append, List.map_cons, List.map_nil, ih]
    congr 1
    have e1 := up_digit (n := c.toNat / 16) (by omega)
    have e2 := up_digit (n := c.toNat % 16) (by omega)
    simp only [Function.comp]
    rw [e1, e2]
    rfl
end

-- part hexr3
section
open Builtin
variable {prog : Program} {w : World} {A : Around} {E : Value → Shared → Prop} {s : Shared} {b : Array UInt8} {t t2 : Tok} {x : Str}
theorem call_hex {Q : Value → Shared → Prop} (hz : b.size ≤ 1000) (h : ∀ t' k, Q (.str ⟨hexCps b⟩ t') { s with toks := k }) : wpAny (model prog w) A (call (.builtin "bytes.hex") [.bytes b t]) Q E s := by
  refine call_meets (S := fun _ R s => ∀ t' k, R (.ok (.ret (.str ⟨hexCps b⟩ t'))) { s with toks := k }) FB.slot_bytes_hex (typeIs_bytes _ _ _) FB.entry_bytes_hex (FB.args_bytes_hex_1 _) (.of_wp fun prog w A R s hS => ?_) h
  rw [hex_eq]
  refine wpAny_bind (wpAny_mkStr (wpAny_pure ⟨_, rfl, hS _ _⟩) ?_)
  show (hexCps b).size ≤ sizeLine
  rw [hexCps_size, sizeLine_eq]; omega
theorem call_encode {Q : Value → Shared → Prop} (hx : ∀ c ∈ x.cps, c < 128) (hz : x.length ≤ 10000) (h : ∀ t' k, Q (.bytes (x.cps.map (·.toUInt8)) t') { s with toks := k }) : wpAny (model prog w) A (call (.builtin "str.encode") [.str x t, .str (Str.ofString "ascii") t2]) Q E s := by
  refine call_meets (S := fun _ R s => ∀ t' k, R (.ok (.ret (.bytes (x.cps.map (·.toUInt8)) t'))) { s with toks := k }) F.slot_str_encode (typeIs_str _ _ _) F.entry_str_encode (F.args_str_encode_2 _ _) (.of_wp fun prog w A R s hS => ?_) h
  rw [encode_eq, narrow_ascii x _ hx (by rw [sizeLine_eq]; omega)]
  refine wpAny_bind (wpAny_bind (wpAny_pure (wpAny_mkBytes (wpAny_pure ⟨_, rfl, hS _ _⟩) ?_)))
  have : x.cps.size ≤ 10000 := hz
  rw [Array.size_map, sizeLine_eq]; omega
theorem call_upper {Q : Value → Shared → Prop} (hz : b.size ≤ 10000) (h : ∀ t' k, Q (.bytes (b.toList.map Bytes.toUpper).toArray t') { s with toks := k }) : wpAny (model prog w) A (call (.builtin "bytes.upper") [.bytes b t]) Q E s := by
  refine call_meets (S := fun _ R s => ∀ t' k, R (.ok (.ret (.bytes (b.toList.map Bytes.toUpper).toArray t'))) { s with toks := k }) slot_upper (typeIs_bytes _ _ _) entry_upper (args_upper _) (.of_wp fun prog w A R s hS => ?_) h
  rw [upper_eq]
  refine wpAny_bind (wpAny_mkBytes (wpAny_pure ⟨_, rfl, hS _ _⟩) ?_)
  simp; rw [sizeLine_eq]; omega
theorem meth_hex {M : Model} {pl : Sem Bool} {Q : Value × List Value → Shared → Prop} (h : Q (.builtin "bytes.hex", [.bytes b t]) s) : wpAny M A (getMethod (.bytes b t) (Str.ofString "hex") pl) Q E s := by
  with_reducible exact KBd.method_of (.bytes b t) (typeIs_bytes _ _ _) FB.slot_bytes_hex FB.type_bytes_hex KBd.noRef h
theorem meth_upper {M : Model} {pl : Sem Bool} {Q : Value × List Value → Shared → Prop} (h : Q (.builtin "bytes.upper", [.bytes b t]) s) : wpAny M A (getMethod (.bytes b t) (Str.ofString "upper") pl) Q E s := by
  with_reducible exact KBd.method_of (.bytes b t) (typeIs_bytes _ _ _) slot_upper type_upper KBd.noRef h
theorem meth_encode {M : Model} {pl : Sem Bool} {Q : Value × List Value → Shared → Prop} (h : Q (.builtin "str.encode", [.str x t]) s) : wpAny M A (getMethod (.str x t) (Str.ofString "encode") pl) Q E s := by
  with_reducible exact getMethod_builtin (typeIs_str _ _ _) F.plainAttrs_str F.slot_str_encode F.type_str_encode (fun _ e => nomatch e) h
end
local macro_rules | `(tactic| walk_at "getMethod bytes") => `(tactic| (k_here; (with_reducible refine meth_hex ?_)))
local macro_rules | `(tactic| walk_at "getMethod bytes") => `(tactic| (k_here; (with_reducible refine meth_upper ?_)))
local macro_rules | `(tactic| walk_at "call builtin:bytes.hex") => `(tactic| (k_here; (refine call_hex (by omega) ?_; (intro _ _))))
local macro_rules | `(tactic| walk_at "call builtin:str.encode") => `(tactic| (k_here; (refine call_encode (hexCps_ascii _) (by (show (hexCps _).size ≤ 10000); rw [hexCps_size]; omega) ?_; (intro _ _))))
local macro_rules | `(tactic| walk_at "call builtin:bytes.upper") => `(tactic| (k_here; (refine call_upper (by (rw [Array.size_map, hexCps_size]; omega)) ?_; (intro _ _))))
local macro_rules | `(tactic| walk_at "getMethod str") => `(tactic| (k_here; (with_reducible refine meth_encode ?_)))

-- part hex
theorem b2ah : ∀ (w : World) (b : Array UInt8) (ks : List Int) (t : Tok), KBw.bInts b = ks → ks.length ≤ 1000 → Quiet w 102 3 40 [.bytes b t] [] (fun _ => True) (fun v _ => ∃ t', v = .bytes ((hexCps b).map (·.toUInt8)) t') := by
  w_strict (
  unfold Quiet
  k_fill
  intro w b ks t hb hl mean mg mb dp fr gd un s E X T hdp hun _
  have hsz : b.size ≤ 1000 := by rw [← KBw.ints_length, hb]; exact hl
  walk_at "mine enter"
  intro L h1 F N; (try dsimp only); (try k_fold)
  k_steps
  exact out_intro (by assumption) ⟨_, rfl⟩)
local macro_rules | `(tactic| walk_at "mine use") => `(tactic| ((refine' b2ah _ _ _ _ ?hb ?hl _ _ _ _ _ _ _ _ _ ?X ?T ?d ?u trivial); walk_at "mine ks"; walk_at "mine side"))

-- part hex2
theorem b16e : ∀ (w : World) (b : Array UInt8) (ks : List Int) (t : Tok), KBw.bInts b = ks → ks.length ≤ 1000 → Quiet w 125 5 50 [.bytes b t] [] (fun _ => True) (fun v _ => ∃ r t', v = .bytes r t' ∧ KBw.bInts r = b16 ks) := by
  w_strict (
  unfold Quiet
  k_fill
  intro w b ks t hb hl mean mg mb dp fr gd un s E X T hdp hun _
  have hsz : b.size ≤ 1000 := by rw [← KBw.ints_length, hb]; exact hl
  walk_at "mine enter"
  intro L h1 F N; (try dsimp only); (try k_fold)
  k_steps
  exact out_intro (by assumption) ⟨_, _, rfl, by rw [← hb]; exact upper_ints b⟩)
local macro_rules | `(tactic| walk_at "mine use") => `(tactic| ((refine' b16e _ _ _ _ ?hb ?hl _ _ _ _ _ _ _ _ _ ?X ?T ?d ?u trivial); walk_at "mine ks"; walk_at "mine side"))

-- part decp
/-- one sign of data: what is written, the place in the four, what is left -/
noncomputable def dPush : (List Int × Int × Int) → Int → (List Int × Int × Int)
  | (o, q, l), v => if q = 0 then (o, 1, v) else if q = 1 then (o ++ [l * 4 + v / 16], 2, v % 16) else if q = 2 then (o ++ [l * 16 + v / 4], 3, v % 4) else (o ++ [l * 64 + v], 0, 0)
/-- none: outside what is served; some none: refused; some (some ..): what the walk ends with -/
noncomputable def dRun (st : Bool) : List Int → Int → Int → Int → List Int → Option (Option (List Int × Int × Int × Int))
  | o, q, l, p, [] => some (some (o, q, l, p))
  | o, q, l, p, c :: r =>
    if c = 61 then (if 2 ≤ q ∧ q + (p + 1) ≤ 4 then dRun st o q l (p + 1) r else none)
    else if 0 ≤ b64v c ∧ b64v c < 64 then (if p = 0 then dRun st (dPush (o, q, l) (b64v c)).1 (dPush (o, q, l) (b64v c)).2.1 (dPush (o, q, l) (b64v c)).2.2 0 r else if st = true ∧ q + p = 4 then some none else none)
    else none
noncomputable def DInv (q l : Int) : Prop := (q = 0 ∧ l = 0) ∨ (q = 1 ∧ 0 ≤ l ∧ l < 64) ∨ (q = 2 ∧ 0 ≤ l ∧ l < 16) ∨ (q = 3 ∧ 0 ≤ l ∧ l < 4)
noncomputable def DWord (st : Bool) (R : Option (Option (List Int × Int × Int × Int))) (ks pre out : List Int) (q l p : Int) : Prop :=
  dRun st out q l p (ks.drop pre.length) = R ∧ DInv q l ∧ 0 ≤ p ∧ (p = 0 ∨ (2 ≤ q ∧ q + p ≤ 4)) ∧ KBa.In out ∧ out.length ≤ pre.length
theorem dword_nil {st : Bool} {R : Option (Option (List Int × Int × Int × Int))} {ks : List Int} (h : dRun st [] 0 0 0 ks = R) : DWord st R ks [] [] 0 0 0 := ⟨h, .inl ⟨rfl, rfl⟩, by decide, .inl rfl, (fun _ h => nomatch h), Nat.le_refl _⟩
theorem drop_at {ks pre post : List Int} {k : Int} (h : ks = pre ++ k :: post) : ks.drop pre.length = k :: post ∧ ks.drop (pre ++ [k]).length = post := by
  subst h
  refine ⟨by simp, ?_⟩
  rw [List.length_append, List.length_singleton]
  simp [List.drop_append]
/-- a sign of padding -/
theorem dword_pad {st : Bool} {R : Option (Option (List Int × Int × Int × Int))} {ks pre post out : List Int} {q l p k : Int} (hR : R ≠ none) (hk : ks = pre ++ k :: post) (h61 : k = 61) (h : DWord st R ks pre out q l p) :
    ((q = 2 ∧ p = 0) ∨ (q = 2 ∧ p = 1) ∨ (q = 3 ∧ p = 0)) ∧ DWord st R ks (pre ++ [k]) out q l (p + 1) := by
  obtain ⟨h1, h2, h3, h4, h5, h6⟩ := h
  rw [(drop_at hk).1] at h1
  unfold dRun at h1
  rw [if_pos h61] at h1
  by_cases hc : 2 ≤ q ∧ q + (p + 1) ≤ 4
  · rw [if_pos hc] at h1
    refine ⟨by rcases h2 with ⟨h, _⟩ | ⟨h, _⟩ | ⟨h, _⟩ | ⟨h, _⟩ <;> omega, by rw [(drop_at hk).2]; exact h1, h2, by omega, .inr hc, h5, by simp; omega⟩
  · rw [if_neg hc] at h1; exact absurd h1.symm hR
/-- a sign of data -/
theorem dword_data {st : Bool} {R : Option (Option (List Int × Int × Int × Int))} {ks pre post out : List Int} {q l p k : Int} (hR : R ≠ none) (hk : ks = pre ++ k :: post) (h61 : k ≠ 61) (h : DWord st R ks pre out q l p) :
    0 ≤ b64v k ∧ b64v k < 64 ∧ ((((q = 2 ∧ p = 2) ∨ (q = 3 ∧ p = 1)) ∧ st = true ∧ R = some none) ∨ (p = 0 ∧ dRun st (dPush (out, q, l) (b64v k)).1 (dPush (out, q, l) (b64v k)).2.1 (dPush (out, q, l) (b64v k)).2.2 0 post = R)) := by
  obtain ⟨h1, h2, h3, h4, h5, h6⟩ := h
  rw [(drop_at hk).1] at h1
  unfold dRun at h1
  rw [if_neg h61] at h1
  by_cases hc : 0 ≤ b64v k ∧ b64v k < 64
  · rw [if_pos hc] at h1
    refine ⟨hc.1, hc.2, ?_⟩
    by_cases hp : p = 0
    · rw [if_pos hp] at h1; exact .inr ⟨hp, h1⟩
    · rw [if_neg hp] at h1
      by_cases hs : st = true ∧ q + p = 4
      · rw [if_pos hs] at h1; exact .inl ⟨by rcases h2 with ⟨h, _⟩ | ⟨h, _⟩ | ⟨h, _⟩ | ⟨h, _⟩ <;> omega, hs.1, h1.symm⟩
      · rw [if_neg hs] at h1; exact absurd h1.symm hR
  · rw [if_neg hc] at h1; exact absurd h1.symm hR
section
variable {st : Bool} {R : Option (Option (List Int × Int × Int × Int))} {ks pre post out : List Int} {l k : Int}
theorem dword_0 (hk : ks = pre ++ k :: post) (h : DWord st R ks pre out 0 l 0) (v0 : 0 ≤ b64v k) (v1 : b64v k < 64) (hR : dRun st (dPush (out, 0, l) (b64v k)).1 (dPush (out, 0, l) (b64v k)).2.1 (dPush (out, 0, l) (b64v k)).2.2 0 post = R) :
    DWord st R ks (pre ++ [k]) out 1 (b64v k) 0 := by
  obtain ⟨h1, h2, h3, h4, h5, h6⟩ := h
  exact ⟨by rw [(drop_at hk).2]; exact hR, .inr (.inl ⟨rfl, v0, v1⟩), by decide, .inl rfl, h5, by simp; omega⟩
theorem dword_1 (hk : ks = pre ++ k :: post) (h : DWord st R ks pre out 1 l 0) (v0 : 0 ≤ b64v k) (v1 : b64v k < 64) (hR : dRun st (dPush (out, 1, l) (b64v k)).1 (dPush (out, 1, l) (b64v k)).2.1 (dPush (out, 1, l) (b64v k)).2.2 0 post = R) :
    DWord st R ks (pre ++ [k]) (out ++ [Builtin.bitOr (l * 2 ^ Int.toNat 2) ((b64v k).fdiv (2 ^ Int.toNat 4))]) 2 (Builtin.bitAnd (b64v k) 15) 0 := by
  obtain ⟨h1, h2, h3, h4, h5, h6⟩ := h
  have hl : 0 ≤ l ∧ l < 64 := by rcases h2 with ⟨h, _⟩ | ⟨_, h⟩ | ⟨h, _⟩ | ⟨h, _⟩ <;> first | exact h | exact absurd h (by decide)
  have e1 : (b64v k).fdiv (2 ^ Int.toNat 4) = b64v k / 16 := fdiv_pos (by decide)
  have e2 : Builtin.bitOr (l * 2 ^ Int.toNat 2) ((b64v k).fdiv (2 ^ Int.toNat 4)) = l * 4 + b64v k / 16 := by
    rw [e1, or_shift hl.1 (by omega) (by show b64v k / 16 < 4; omega)]; rfl
  rw [e2, bitAnd_m4]
  refine ⟨by rw [(drop_at hk).2]; exact hR, .inr (.inr (.inl ⟨rfl, by omega, by omega⟩)), by decide, .inl rfl, in_append h5 (in_one ⟨by omega, by omega⟩), by simp; omega⟩
theorem dword_2 (hk : ks = pre ++ k :: post) (h : DWord st R ks pre out 2 l 0) (v0 : 0 ≤ b64v k) (v1 : b64v k < 64) (hR : dRun st (dPush (out, 2, l) (b64v k)).1 (dPush (out, 2, l) (b64v k)).2.1 (dPush (out, 2, l) (b64v k)).2.2 0 post = R) :
    DWord st R ks (pre ++ [k]) (out ++ [Builtin.bitOr (l * 2 ^ Int.toNat 4) ((b64v k).fdiv (2 ^ Int.toNat 2))]) 3 (Builtin.bitAnd (b64v k) 3) 0 := by
  obtain ⟨h1, h2, h3, h4, h5, h6⟩ := h
  have hl : 0 ≤ l ∧ l < 16 := by rcases h2 with ⟨h, _⟩ | ⟨h, _⟩ | ⟨_, h⟩ | ⟨h, _⟩ <;> first | exact h | exact absurd h (by decide)
  have e1 : (b64v k).fdiv (2 ^ Int.toNat 2) = b64v k / 4 := fdiv_pos (by decide)
  have e2 : Builtin.bitOr (l * 2 ^ Int.toNat 4) ((b64v k).fdiv (2 ^ Int.toNat 2)) = l * 16 + b64v k / 4 := by
    rw [e1, or_shift hl.1 (by omega) (by show b64v k / 4 < 16; omega)]; rfl
  rw [e2, bitAnd_m2]
  refine ⟨by rw [(drop_at hk).2]; exact hR, .inr (.inr (.inr ⟨rfl, by omega, by omega⟩)), by decide, .inl rfl, in_append h5 (in_one ⟨by omega, by omega⟩), by simp; omega⟩
theorem dword_3 (hk : ks = pre ++ k :: post) (h : DWord st R ks pre out 3 l 0) (v0 : 0 ≤ b64v k) (v1 : b64v k < 64) (hR : dRun st (dPush (out, 3, l) (b64v k)).1 (dPush (out, 3, l) (b64v k)).2.1 (dPush (out, 3, l) (b64v k)).2.2 0 post = R) :
    DWord st R ks (pre ++ [k]) (out ++ [Builtin.bitOr (l * 2 ^ Int.toNat 6) (b64v k)]) 0 0 0 := by
  obtain ⟨h1, h2, h3, h4, h5, h6⟩ := h
  have hl : 0 ≤ l ∧ l < 4 := by rcases h2 with ⟨h, _⟩ | ⟨h, _⟩ | ⟨h, _⟩ | ⟨_, h⟩ <;> first | exact h | exact absurd h (by decide)
  have e2 : Builtin.bitOr (l * 2 ^ Int.toNat 6) (b64v k) = l * 64 + b64v k := by
    rw [or_shift hl.1 v0 (by show b64v k < 64; omega)]; rfl
  rw [e2]
  refine ⟨by rw [(drop_at hk).2]; exact hR, .inl ⟨rfl, rfl⟩, by decide, .inl rfl, in_append h5 (in_one ⟨by omega, by omega⟩), by simp; omega⟩
end
theorem dword_end {st : Bool} {R : Option (Option (List Int × Int × Int × Int))} {ks out : List Int} {q l p : Int} (h : DWord st R ks ks out q l p) (hfin : ∀ o q l p, R = some (some (o, q, l, p)) → q ≠ 1 ∧ (q = 0 ∨ 4 ≤ q + p)) :
    R = some (some (out, q, l, p)) ∧ ((q = 0 ∧ p = 0) ∨ (q = 2 ∧ p = 2) ∨ (q = 3 ∧ p = 1)) := by
  obtain ⟨h1, h2, h3, h4, h5, h6⟩ := h
  rw [List.drop_length] at h1
  unfold dRun at h1
  have := hfin out q l p h1.symm
  refine ⟨h1.symm, ?_⟩
  rcases h2 with ⟨h, _⟩ | ⟨h, _⟩ | ⟨h, _⟩ | ⟨h, _⟩ <;> omega

-- part fly
noncomputable def frs (l : List Env) : List Addr := l.filterMap (·.frame)
/-- the frames of the callers stand in g -/
noncomputable def Frames (g : Heap) (l : List Env) : Prop := ∀ env ∈ l, env.scope.kind ≠ .module ∧ ∃ L o, env.frame = some L ∧ g.get? L = some o ∧ ∀ vs, o.data ≠ .fields vs
/-- what a call leaves as it was: all but the slots of the callers' frames -/
noncomputable def KeptBut (g : Heap) (l : List Env) (h : Heap) : Prop := (∀ b o, g.get? b = some o → b ∉ frs l → h.get? b = some o) ∧ g.UpToSlots h
/-- an exception on its way, past the frames above l -/
noncomputable def Fly (g : Heap) (l : List Env) (e : Addr) (cls : Value) (h : Heap) : Prop :=
  KeptBut g l h ∧ g.get? e = none ∧ ∃ oe vs T oT ts, h.get? e = some oe ∧ oe.cls = cls ∧ oe.data = .fields vs ∧ vs[1]? = some (.ref T) ∧ g.get? T = none ∧ T ≠ e ∧ h.get? T = some oT ∧ oT.data = .fields ts ∧ ts[3]? = some .none
theorem Frames.mem {g : Heap} {l : List Env} (fr : Frames g l) {b : Addr} (hb : b ∈ frs l) : ∃ o, g.get? b = some o ∧ ∀ vs, o.data ≠ .fields vs := by
  obtain ⟨env, he, hf⟩ := List.mem_filterMap.mp hb
  obtain ⟨_, L, o, hL, ho, hd⟩ := fr env he
  obtain rfl : L = b := Option.some.inj (hL.symm.trans hf)
  exact ⟨o, ho, hd⟩
theorem Frames.up {g h : Heap} {l : List Env} (fr : Frames g l) (k : g.UpToSlots h) : Frames h l := fun env he => by
  obtain ⟨hk, L, o, hf, ho, hd⟩ := fr env he
  obtain ⟨sl, hs⟩ := k L o ho hd
  exact ⟨hk, L, _, hf, hs, hd⟩
theorem Frames.keeps {g h : Heap} {l : List Env} (fr : Frames g l) (k : ∀ b o, g.get? b = some o → h.get? b = some o) : Frames h l := fr.up (Heap.UpToSlots.of_keeps k)
theorem Frames.push {g h : Heap} {l : List Env} {env : Env} {L : Addr} {m : Str → Option Value} (fr : Frames g l) (F : Fr g L h m) (hf : env.frame = some L) (hk : env.scope.kind ≠ .module) : Frames h (env :: l) := fun x hx => by
  rcases List.mem_cons.mp hx with rfl | hx
  · obtain ⟨o, es, ep, ho, hd, _⟩ := F.ns
    exact ⟨hk, L, o, hf, ho, fun vs q => by rw [hd] at q; cases q⟩
  · exact (fr.keeps F.keep) x hx
theorem Frames.fun {g h : Heap} {l : List Env} (fr : Frames h l) : ∀ {l' : List Env}, (∀ x ∈ l', x ∈ l) → (∀ x ∈ l', ∀ L, x.frame = some L → g.get? L = none) → h.FunFrames g l'
  | [], _, _ => trivial
  | env :: r, hm, hn => by
    obtain ⟨hk, L, o, hf, ho, hd⟩ := fr env (hm _ (.head _))
    exact ⟨hk, ⟨L, o, hf, hn _ (.head _) L hf, ho, hd⟩, Frames.fun fr (fun x hx => hm x (.tail _ hx)) fun x hx => hn x (.tail _ hx)⟩
theorem fr_new {g h : Heap} {L : Addr} {m : Str → Option Value} (F : Fr g L h m) : g.get? L = none := by
  cases q : g.get? L with
  | none => rfl
  | some o => exact absurd (Nat.lt_of_lt_of_le (Heap.lt_size q) F.above) (Nat.lt_irrefl _)
theorem hide_in {g : Heap} {l : List Env} {b : Addr} (hb : b ∈ frs l) : (hideAll g (frs l)).get? b = none := hideAll_none _ hb
section
variable {M : Model} {A : Around} {E : Value → Shared → Prop} {s' : Shared} {g h h₁ : Heap} {l : List Env} {env : Env} {L e : Addr} {m : Str → Option Value} {Q : Unit → Shared → Prop} {cls : Value}
/-- the shared tail: what a leaving hands on -/
theorem fly_of {h' : Heap} (fr : Frames g l) (hu : g.UpToSlots s'.heap) (hg : g.get? e = none) (x : Heap.Left (hideAll g (frs l)) (env :: l) e cls s'.heap h') : Fly g l e cls h' ∧ s'.heap.UpToSlots h' := by
  obtain ⟨k1, _, k3, k4⟩ := x
  have hup : g.UpToSlots h' := hu.trans k4
  refine ⟨⟨⟨fun b o hb hn => k1 b o (hideAll_get _ hb hn), hup⟩, hg, ?_⟩, k4⟩
  obtain ⟨oe, vs, T, oT, ts, he, hc, hd, h1, hT, hTe, hoT, hdT, h3⟩ := k3
  refine ⟨oe, vs, T, oT, ts, he, hc, hd, h1, ?_, hTe, hoT, hdT, h3⟩
  cases q : g.get? T with
  | none => rfl
  | some o =>
    exfalso
    by_cases hm : T ∈ frs l
    · obtain ⟨o', ho', hd'⟩ := fr.mem hm
      obtain ⟨sl, hs⟩ := hup T o' ho' hd'
      rw [hoT] at hs
      cases hs
      exact hd' ts hdT
    · rw [hideAll_get _ q hm] at hT; cases hT
/-- a new exception leaves the frame that raised it -/
theorem leave_made {vs : List Value} (fr : Frames g l) (hA : A.frames = some l) (F : Fr g L h m) (hx : Heap.MadeExcOf h s'.heap e cls vs) (hf : env.frame = some L) (hk : env.scope.kind ≠ .module)
    (hQ : ∀ h', Fly g l e cls h' → Q () { s' with heap := h' }) : wpAny M (A.deeper env) (leaving env (.ref e)) Q E s' := by
  have F' : Fr g L s'.heap m := F.keptAll hx.keeps
  obtain ⟨t, he, _, _⟩ := hx.there
  have hge : g.get? e = none := by
    cases q : g.get? e with
    | none => rfl
    | some o => have := F.keep e o q; rw [hx.new] at this; cases this
  refine wpAny_leaving_first (base := hideAll g (frs l)) (outer := l) (Around.frames_deeper hA) ((fr.push F' hf hk).fun (fun _ hx => hx) fun x hx L' hf' => ?_) hf he (fun b o q => F'.keep b o (of_hideAll _ q)) ?_ rfl rfl fun h' x => hQ h' (fly_of fr (Heap.UpToSlots.of_keeps F'.keep) hge x).1
  · rcases List.mem_cons.mp hx with rfl | hx
    · rw [hf] at hf'
      cases q : (hideAll g (frs l)).get? L' with
      | none => rfl
      | some o => have := of_hideAll _ q; rw [← Option.some.inj hf', fr_new F] at this; cases this
    · exact hide_in (List.mem_filterMap.mpr ⟨x, hx, hf'⟩)
  · cases q : (hideAll g (frs l)).get? e with
    | none => rfl
    | some o => have := of_hideAll _ q; rw [hge] at this; cases this
/-- an exception of a callee's passes a frame -/
theorem leave_on (fr : Frames g l) (hA : A.frames = some l) (F : Fr g L h m) (fl : Fly h (env :: l) e cls s'.heap) (hf : env.frame = some L) (hk : env.scope.kind ≠ .module)
    (hQ : ∀ h', Fly g l e cls h' → s'.heap.UpToSlots h' → Q () { s' with heap := h' }) : wpAny M (A.deeper env) (leaving env (.ref e)) Q E s' := by
  obtain ⟨⟨k1, k2⟩, hhe, oe, vs, T, oT, ts, he, hc, hd, h1, hT, hTe, hoT, hdT, h3⟩ := fl
  have hge : g.get? e = none := by
    cases q : g.get? e with
    | none => rfl
    | some o => have := F.keep e o q; rw [hhe] at this; cases this
  have hgT : (hideAll g (frs l)).get? T = none := by
    cases q : (hideAll g (frs l)).get? T with
    | none => rfl
    | some o => have := F.keep T o (of_hideAll _ q); rw [hT] at this; cases this
  have frh : Frames s'.heap (env :: l) := (fr.push F hf hk).up k2
  refine wpAny_leaving_next (base := hideAll g (frs l)) (outer := l) (Around.frames_deeper hA) (frh.fun (fun _ hx => hx) fun x hx L' hf' => ?_) hf ⟨oe, vs, T, oT, ts, he, hc, hd, h1, hgT, hTe, hoT, hdT, h3⟩ (fun b o q => ?_) ?_ fun h' x =>
    have z := fly_of fr ((Heap.UpToSlots.of_keeps F.keep).trans k2) hge x
    hQ h' z.1 z.2
  · rcases List.mem_cons.mp hx with rfl | hx
    · rw [hf] at hf'
      cases q : (hideAll g (frs l)).get? L' with
      | none => rfl
      | some o => have := of_hideAll _ q; rw [← Option.some.inj hf', fr_new F] at this; cases this
    · exact hide_in (List.mem_filterMap.mpr ⟨x, hx, hf'⟩)
  · refine k1 b o (F.keep b o (of_hideAll _ q)) fun hm => ?_
    obtain ⟨x, hx, hf'⟩ := List.mem_filterMap.mp hm
    rcases List.mem_cons.mp hx with rfl | hx
    · rw [hf] at hf'
      have := of_hideAll _ q; rw [← Option.some.inj hf', fr_new F] at this; cases this
    · rw [hide_in (List.mem_filterMap.mpr ⟨x, hx, hf'⟩)] at q; cases q
  · cases q : (hideAll g (frs l)).get? e with
    | none => rfl
    | some o => have := of_hideAll _ q; rw [hge] at this; cases this
end

-- part dec
theorem a2b : ∀ (w : World) (b : Array UInt8) (ks : List Int) (t : Tok) (st : Bool) (R : Option (Option (List Int × Int × Int × Int))), KBw.bInts b = ks → ks.length ≤ 1000 → dRun st [] 0 0 0 ks = R → R ≠ none →
    (∀ o q l p, R = some (some (o, q, l, p)) → q ≠ 1 ∧ (q = 0 ∨ 4 ≤ q + p)) →
    ∀ (mean : ExcName → Option Value) (mg mb : Str → Option Value) (dp : Nat) (fr : Option (List Env)) (gd : Option (List Code)) (un : Nat) (s : Shared) (Q E : Value → Shared → Prop),
    (hd.heap_39 w.params).In s.heap → Top hd.view_39 lo mean mg mb s.heap → dp + 3 < 900 → un + 40 < 9000 →
    (∀ o q l p r t' s', R = some (some (o, q, l, p)) → KBw.bInts r = o → Keeps s s' → Q (.bytes r t') s') →
    (R = some none → ∃ l, fr = some l ∧ Frames s.heap l ∧ ∀ e h' tk, Fly s.heap l e (.ref 46) h' → E (.ref e) { s with heap := h', toks := tk }) →
    wpAny (model PySem.Challenge.rw_pa0027_01.row.prog w) (AA dp fr gd un) (call (.ref 85) [.bytes b t] [(Str.ofString "strict_mode", .bool st)]) Q E s := by
  w_strict (
  k_fill
  intro w b ks t st R hb hl hRun hR hfin mean mg mb dp fr gd un s Q E X T hdp hun hret hraise
  walk_at "mine enter"
  intro L h1 F N; (try dsimp only); (try k_fold)
  obtain ⟨M0, e1, e2, F⟩ : ∃ M : Str → Option Value, M (Str.ofString "data") = some (.bytes b t) ∧ M (Str.ofString "strict_mode") = some (.bool st) ∧ Fr s.heap L h1 M := ⟨_, rfl, rfl, F⟩
  obtain ⟨M0, rfl⟩ := open_m2 e1 e2
  clear e1 e2
  (k_with "pyIter bytes" => skip)
  walk_at "mine to loop"
  rename Fr _ _ _ _ => kF
  rename News _ _ _ _ => kN
  rename_i l0 _ _ _ _ _ _ _
  obtain ⟨M, t1, t2, t3, t4, m1, m2, m3, m4, m5, m6, kF⟩ : ∃ (M : Str → Option Value) (t1 t2 t3 t4 : Tok), M (Str.ofString "strict_mode") = some (.bool st) ∧ M (Str.ofString "out") = some (.ref l0) ∧ M (Str.ofString "quad_pos") = some (.int 0 t1)
      ∧ M (Str.ofString "leftchar") = some (.int 0 t2) ∧ M (Str.ofString "pads") = some (.int 0 t3) ∧ M (Str.ofString "i") = some (.int 0 t4) ∧ Fr s.heap L _ M := ⟨_, _, _, _, _, rfl, rfl, rfl, rfl, rfl, rfl, kF⟩
  obtain ⟨M, rfl⟩ := open_m m1
  clear m1
  refine' KStb.kst_bytes (σ := List Value × Nat × List Int × Int × Tok × Int × Tok × Int × Tok × Int × Tok) (fun c => [(l0, W.listOf c.1.toArray c.2.1)])
    (fun c => [(Str.ofString "out", .ref l0), (Str.ofString "quad_pos", .int c.2.2.2.1 c.2.2.2.2.1), (Str.ofString "leftchar", .int c.2.2.2.2.2.1 c.2.2.2.2.2.2.1), (Str.ofString "pads", .int c.2.2.2.2.2.2.2.1 c.2.2.2.2.2.2.2.2.1), (Str.ofString "i", .int c.2.2.2.2.2.2.2.2.2.1 c.2.2.2.2.2.2.2.2.2.2)])
    (fun c => IntsAre c.1 c.2.2.1) [] (fun pre c => DWord st R ks pre c.2.2.1 c.2.2.2.1 c.2.2.2.2.2.1 c.2.2.2.2.2.2.2.1) ([], 0, [], 0, t1, 0, t2, 0, t3, 0, t4) hb rfl rfl kF kN IntsAre.nil (List.forall_mem_cons.mpr ⟨m2, List.forall_mem_cons.mpr ⟨m3, List.forall_mem_cons.mpr ⟨m4, List.forall_mem_cons.mpr ⟨m5, List.forall_mem_cons.mpr ⟨m6, List.forall_mem_nil _⟩⟩⟩⟩⟩) (dword_nil hRun) ?turn ?done
  (case turn =>
    clear kF kN
    rintro ⟨vs, n, out, q, t1, l, t2, p, t3, i, t4⟩ pre post k tk1 u h tk2 own hks hlt h0 h1 hoff hints hw kF kN
    dsimp only at hints hw kN hoff
    dsimp only [kstB] at kF
    change Fr s.heap L h _ at kF
    change News s.heap L h ((l0, W.listOf vs.toArray n) :: own) at kN
    have ⟨ho, hi, hp0, hp1, hin, hz⟩ := hw
    have hlen := hints.length
    (try k_fold)
    refine gen_eq (P := fun KK => wpAny _ _ _ (InvPostN _ _ KK _ _ _ _) _ _) _ ?_
    intro KK hK
    simp only [List.contains_nil, Bool.false_eq_true, if_false] at kF
    by_cases h61 : k = 61
    (· have ⟨hqp, hw'⟩ := dword_pad hR hks h61 hw
       subst h61
       rcases hqp with ⟨rfl, rfl⟩ | ⟨rfl, rfl⟩ | ⟨rfl, rfl⟩
       walk_at "mine steps"
       all_goals (rename Fr _ _ _ _ => eF; rename News _ _ _ _ => eN)
       all_goals (
         subst hK
         refine' kst_end (_, _, _, _, _, _, _, _, _, _, _) eF eN (List.forall_mem_cons.mpr ⟨List.Mem.head _, List.forall_mem_nil _⟩) (fun p hp => List.Mem.tail _ hp) rfl hints ?hk1 ?hr1 hw'
         (case hk1 => kst_all)
         (case hr1 => kst_same)))
    (· have ⟨v0, v1, hw'⟩ := dword_data hR hks h61 hw
       rcases hw' with ⟨hp, rfl, hw'⟩ | ⟨rfl, hw'⟩
       (· obtain ⟨fl, rfl, hfr, hE⟩ := hraise hw'
          rcases hp with ⟨rfl, rfl⟩ | ⟨rfl, rfl⟩
          walk_at "mine steps"
          all_goals (try exact absurd (by assumption) h61)
          all_goals exact leave_made hfr rfl (by assumption) (by assumption) rfl (by intro q; cases q) (fun h' hf => hE _ h' _ hf))
       (· have hl0 : 0 ≤ l := by rcases hi with h | h | h | h <;> omega
          have hl1 : l < 64 := by rcases hi with h | h | h | h <;> omega
          walk_at "mine steps"
          all_goals (try exact absurd (by assumption) h61)
          all_goals (rename Fr _ _ _ _ => eF; rename News _ _ _ _ => eN; (try simp only [List.push_toArray] at eN))
          (· have hq : q = 0 := by assumption
             subst hq
             subst hK
             refine' kst_end (_, _, _, _, _, _, _, _, _, _, _) eF eN (List.forall_mem_cons.mpr ⟨List.Mem.head _, List.forall_mem_nil _⟩) (fun p hp => List.Mem.tail _ hp) rfl hints ?hk2 ?hr2 (dword_0 hks hw v0 v1 hw')
             (case hk2 => kst_all)
             (case hr2 => kst_same))
          (· have hq : q = 1 := by assumption
             subst hq
             subst hK
             refine' kst_end (_, _, _, _, _, _, _, _, _, _, _) eF eN (List.forall_mem_cons.mpr ⟨List.Mem.head _, List.forall_mem_nil _⟩) (fun p hp => List.Mem.tail _ hp) rfl (hints.append (.cons _ _ .nil)) ?hk3 ?hr3 (dword_1 hks hw v0 v1 hw')
             (case hk3 => kst_all)
             (case hr3 => kst_same))
          (· have hq : q = 2 := by assumption
             subst hq
             subst hK
             refine' kst_end (_, _, _, _, _, _, _, _, _, _, _) eF eN (List.forall_mem_cons.mpr ⟨List.Mem.head _, List.forall_mem_nil _⟩) (fun p hp => List.Mem.tail _ hp) rfl (hints.append (.cons _ _ .nil)) ?hk4 ?hr4 (dword_2 hks hw v0 v1 hw')
             (case hk4 => kst_all)
             (case hr4 => kst_same))
          (· have hq : q = 3 := by rcases hi with ⟨h, -⟩ | ⟨h, -⟩ | ⟨h, -⟩ | ⟨h, -⟩ <;> first | exact absurd h (by assumption) | exact h
             subst hq
             subst hK
             refine' kst_end (_, _, _, _, _, _, _, _, _, _, _) eF eN (List.forall_mem_cons.mpr ⟨List.Mem.head _, List.forall_mem_nil _⟩) (fun p hp => List.Mem.tail _ hp) rfl (hints.append (.cons _ _ .nil)) ?hk5 ?hr5 (dword_3 hks hw v0 v1 hw')
             (case hk5 => kst_all)
             (case hr5 => kst_same)))))
  (case done =>
    clear kF kN
    rintro ⟨vs, n, out, q, t1, l, t2, p, t3, i, t4⟩ u h tk2 hlen hints hw kF kN
    dsimp only at hints hw kN
    dsimp only [kstB] at kF
    change Fr s.heap L h _ at kF
    change News s.heap L h [(l0, W.listOf vs.toArray n)] at kN
    have ⟨ho, hi, hp0, hp1, hin, hz⟩ := hw
    have hlen2 := hints.length
    obtain ⟨hend, hqp⟩ := dword_end hw hfin
    (try k_fold)
    rcases hqp with ⟨rfl, rfl⟩ | ⟨rfl, rfl⟩ | ⟨rfl, rfl⟩
    walk_at "mine steps"
    all_goals exact hret _ _ _ _ _ _ _ hend (KBa.ints_make hin) ⟨_, _, rfl, Fr.keep (by assumption)⟩))

-- part dec2
theorem bfdd : ∀ (w : World) (b : Array UInt8) (t : Tok), Quiet w 36 2 30 [.bytes b t] [] (fun _ => True) (fun v _ => v = .bytes b t) := by
  w_strict (
  unfold Quiet
  k_fill
  intro w b t mean mg mb dp fr gd un s E X T hdp hun _
  walk_at "mine enter"
  intro L h1 F N; (try dsimp only); (try k_fold)
  k_steps
  exact out_intro (by assumption) rfl)
local macro_rules | `(tactic| walk_at "mine use") => `(tactic| ((refine' bfdd _ _ _ _ _ _ _ _ _ _ _ _ ?X ?T ?d ?u trivial); walk_at "mine side"))

-- part dec3
theorem b64d : ∀ (w : World) (b : Array UInt8) (ks : List Int) (t : Tok) (st : Bool) (R : Option (Option (List Int × Int × Int × Int))), KBw.bInts b = ks → ks.length ≤ 1000 → dRun st [] 0 0 0 ks = R → R ≠ none →
    (∀ o q l p, R = some (some (o, q, l, p)) → q ≠ 1 ∧ (q = 0 ∨ 4 ≤ q + p)) →
    ∀ (mean : ExcName → Option Value) (mg mb : Str → Option Value) (dp : Nat) (fr : Option (List Env)) (gd : Option (List Code)) (un : Nat) (s : Shared) (Q E : Value → Shared → Prop),
    (hd.heap_39 w.params).In s.heap → Top hd.view_39 lo mean mg mb s.heap → dp + 5 < 900 → un + 60 < 9000 →
    (∀ o q l p r t' s', R = some (some (o, q, l, p)) → KBw.bInts r = o → Keeps s s' → Q (.bytes r t') s') →
    (R = some none → ∃ l, fr = some l ∧ Frames s.heap l ∧ ∀ e h' tk, Fly s.heap l e (.ref 46) h' → E (.ref e) { s with heap := h', toks := tk }) →
    wpAny (model PySem.Challenge.rw_pa0027_01.row.prog w) (AA dp fr gd un) (call (.ref 118) [.bytes b t] [(Str.ofString "validate", .bool st)]) Q E s := by
  w_strict (
  k_fill
  intro w b ks t st R hb hl hRun hR hfin mean mg mb dp fr gd un s Q E X T hdp hun hret hraise
  walk_at "mine enter"
  intro L h1 F N; (try dsimp only); (try k_fold)
  k_steps
  rename Fr _ _ _ _ => kF
  rename News _ _ _ _ => kN
  refine' a2b w b ks t st R hb hl hRun hR hfin mean mg mb _ _ _ _ _ _ _ ?X ?T ?d ?u ?ret ?raise
  walk_at "mine side"
  (case ret =>
    rintro o q l p r t' s' hR' hr ⟨h2, tk2, rfl, hk2⟩
    have F2 := kF.keptAll hk2
    k_steps
    exact hret _ _ _ _ _ _ _ hR' hr ⟨_, _, rfl, F2.keep⟩)
  (case raise =>
    intro hn
    obtain ⟨l, rfl, hfr, hE⟩ := hraise hn
    exact ⟨_, rfl, hfr.push kF rfl (by intro q; cases q), fun e h' tk fl => leave_on hfr rfl kF fl rfl (by intro q; cases q) fun h2 fl2 _ => hE _ _ _ fl2⟩))

-- part tryr
section
variable {M : Model} {A : Around} {E : Value → Shared → Prop} {s : Shared} {env : Env}
theorem try_stmt {body orelse : Sem Flow} {h₀ : ExceptHandler} {hs : List ExceptHandler} {Q : Flow → Shared → Prop}
    (h : wpAny M A body (fun f s₁ => match f with | .next => wpAny M A orelse Q E s₁ | f => Q f s₁)
      (fun e s₁ => wpAny M A (leaving env e) (fun _ s₃ => wpAny M A (handleBy e env (h₀ :: hs)) Q E s₃) E s₁) s) :
    wpAny M A (tryStmt false body (h₀ :: hs) orelse [] env) Q E s := by
  unfold tryStmt
  simp only [List.isEmpty_nil, if_true, List.isEmpty_cons, Bool.false_and, Bool.false_eq_true, if_false]
  refine wpAny_bind (wpAny_attempt (wpAny_mono h (fun f s₁ h₁ => ?_) fun e s₁ h₁ => ?_))
  · cases f <;> first | exact h₁ | exact wpAny_pure h₁
  · have z := wpAny_bind (f := fun _ => handleBy e env (h₀ :: hs)) h₁
    unfold leaving at z
    rw [bind_assoc] at z
    exact z
end
section
variable {prog : Program} {w : World} {A : Around} {E : Value → Shared → Prop} {s : Shared} {env : Env}
theorem exec_try {body orelse : List Stmt} {h₀ : ExceptHandler} {hs : List ExceptHandler} {pos : Pos} {Q : Flow → Shared → Prop}
    (h : wpAny (model prog w) A (execs body env) (fun f s₁ => match f with | .next => wpAny (model prog w) A (execs orelse env) Q E s₁ | f => Q f s₁)
      (fun e s₁ => wpAny (model prog w) A (leaving env e) (fun _ s₃ => wpAny (model prog w) A (handleBy e env (h₀ :: hs)) Q E s₃) E s₁) s) :
    wpAny (model prog w) A (exec (.Try body (h₀ :: hs) orelse [] pos) env) Q E s := by
  rw [arm_exec_Try]
  exact wpAny_bind (wpAny_standAt (try_stmt h))
/-- a handler's test by a built-in class, and its suite -/
theorem handle_by {e : Value} {t : Expr} {b₀ : Stmt} {suite : List Stmt} {pos : Pos} {rest : List ExceptHandler} {Q : Flow → Shared → Prop} (hnb : e ≠ byPass)
    (h : wpAny (model prog w) (A.mark (some e)) (eval t env) (fun c s₁ => wpAny (model prog w) (A.mark (some e)) (excMatches e c) (fun b s₂ => b = true ∧
        wpAny (model prog w) (A.mark (some e)) (setFlight e none) (fun _ s₃ => wpAny (model prog w) (A.mark (some e)) (execs (b₀ :: suite) env) Q (fun _ _ => False) s₃) (fun _ _ => False) s₂) (fun _ _ => False) s₁) (fun _ _ => False) s) :
    wpAny (model prog w) A (handleBy e env (.ExceptHandler (some t) none (b₀ :: suite) pos :: rest)) Q E s := by
  refine wpAny_handleBy_cons (codeAny_handlers_test (wpAny_mono h (fun c s₁ h₁ => wpAny_mono h₁ (fun b s₂ h₂ => ?_) fun _ _ x => x.elim) fun _ _ x => x.elim)) hnb
  obtain ⟨rfl, h₂⟩ := h₂
  refine codeAny_handlers_suite (wpAny_mono h₂ (fun _ s₃ h₃ => wpAny_mono h₃ (fun f s₄ h₄ => h₄) fun _ _ x => x.elim) fun _ _ x => x.elim)
/-- the flight's mark of an exception on its way is laid -/
theorem fly_lands {g : Heap} {l : List Env} {e : Addr} {cls : Value} {M : Model} {Q : Unit → Shared → Prop} (fl : Fly g l e cls s.heap) (hQ : ∀ h', KeptBut g l h' → s.heap.UpToSlots h' → Q () { s with heap := h' }) : wpAny M A (setFlight (.ref e) none) Q E s := by
  obtain ⟨⟨k1, k2⟩, hge, oe, vs, T, oT, ts, he, hc, hd, h1, hT, hTe, hoT, hdT, h3⟩ := fl
  refine wpAny_setFlight_none he hd h1 hoT hdT (Array.getElem?_eq_some_iff.mp h3).1 (hQ _ ?_ ?_)
  · refine ⟨fun b o hb hn => ?_, fun b o hb hn => ?_⟩
    · rw [Heap.get?_update_other _ _ (fun q => by rw [← q, hT] at hb; cases hb)]; exact k1 b o hb hn
    · obtain ⟨sl, hs⟩ := k2 b o hb hn
      exact ⟨sl, by rw [Heap.get?_update_other _ _ (fun q => by rw [← q, hT] at hb; cases hb)]; exact hs⟩
  · intro b o hb hn
    refine ⟨o.slots, ?_⟩
    rw [Heap.get?_update_other _ _ (fun q => by rw [← q, hoT] at hb; cases hb; exact hn _ hdT)]
    exact hb
end

-- part read
theorem fr_ground {g g₀ h h' : Heap} {l : List Env} {L : Addr} {m : Str → Option Value} (F : Fr g L h m) (hu : h.UpToSlots h') (hk : KeptBut g l h') (hg : ∀ b o, g₀.get? b = some o → g.get? b = some o ∧ b ∉ frs l) (hz : g₀.objs.size ≤ g.objs.size) : Fr g₀ L h' m :=
  ⟨hu.ns F.ns, fun b o q => hk.1 b o (hg b o q).1 (hg b o q).2, Nat.le_trans hz F.above⟩
theorem law_read : ∀ (w : World) (b : Array UInt8) (ks : List Int) (t : Tok) (st : Bool) (R : Option (Option (List Int × Int × Int × Int))), KBw.bInts b = ks → ks.length ≤ 1000 → dRun st [] 0 0 0 ks = R → R ≠ none →
    (∀ o q l p, R = some (some (o, q, l, p)) → q ≠ 1 ∧ (q = 0 ∨ 4 ≤ q + p)) →
    ∀ (mean : ExcName → Option Value) (mg mb : Str → Option Value) (dp : Nat) (fr : Option (List Env)) (gd : Option (List Code)) (un : Nat) (s : Shared) (Q E : Value → Shared → Prop),
    (hd.heap_39 w.params).In s.heap → Top hd.view_39 lo mean mg mb s.heap → dp + 7 < 900 → un + 80 < 9000 →
    (∀ o q l p r t' s', R = some (some (o, q, l, p)) → KBw.bInts r = o → Keeps s s' → Q (.bytes r t') s') →
    (R = some none → ∃ l g₀, fr = some l ∧ Frames s.heap l ∧ (hd.heap_39 w.params).In g₀ ∧ Top hd.view_39 lo mean mg mb g₀ ∧ (∀ b o, g₀.get? b = some o → s.heap.get? b = some o ∧ b ∉ frs l) ∧ g₀.objs.size ≤ s.heap.objs.size ∧
      ∀ h' tk, KeptBut s.heap l h' → Q .none { s with heap := h', toks := tk }) →
    wpAny (model PySem.Challenge.rw_pa0027_01.row.prog w) (AA dp fr gd un) (call (.ref 144) [.bytes b t, .bool st] []) Q E s := by
  w_strict (
  k_fill
  intro w b ks t st R hb hl hRun hR hfin mean mg mb dp fr gd un s Q E X T hdp hun hret hnone
  walk_at "mine enter"
  intro L h1 F N; (try dsimp only)
  refine wpAny_execs_cons (exec_try ?_)
  k_steps
  rename Fr _ _ _ _ => kF
  rename News _ _ _ _ => kN
  refine' b64d w b ks t st R hb hl hRun hR hfin mean mg mb _ _ _ _ _ _ _ ?X ?T ?d ?u ?ret ?raise
  walk_at "mine side"
  (case ret =>
    rintro o q l p r t' s' hR' hr ⟨h2, tk2, rfl, hk2⟩
    have F2 := kF.keptAll hk2
    k_steps
    exact hret _ _ _ _ _ _ _ hR' hr ⟨_, _, rfl, F2.keep⟩)
  (case raise =>
    intro hn
    obtain ⟨l, g₀, rfl, hfr, X0, T0, hg, hz, hQ⟩ := hnone hn
    refine ⟨_, rfl, hfr.push kF rfl (by intro q; cases q), fun e h' tk fl => leave_on hfr rfl kF fl rfl (by intro q; cases q) fun h2 fl2 hu2 => ?_⟩
    have F2 := fr_ground kF (fl.1.2.trans hu2) fl2.1 hg hz
    have N2 : News g₀ L h2 [] := News.nil
    refine handle_by (by intro q; cases q) ?_
    clear kF kN
    have X2 : (hd.heap_39 w.params).In h2 := X0.keeps F2.keep
    obtain ⟨oe, vs, T', oT, ts, he, hc, hrest⟩ := fl2.2.2
    obtain ⟨nm, qn, N', bs, bm, hdct, sn, sub, ab, col, dd, k0, k1, k2, k3, k5, newId, hC, hbB, hbT⟩ := kts_cls (T := "ValueError") (C := 46) X2 (by kernel_rfl)
    k_steps
    refine wpAny_excMatches_sub_type hC he hc (by rw [isSubtype_type]; kernel_rfl) (by rw [isSubtype_type]; kernel_rfl) ⟨hbT, ?_⟩
    refine fly_lands fl2 fun h3 hk3 hu3 => ?_
    refine wpAny_execs_cons ?_
    k_steps

    exact hQ _ _ hk3))

-- part genr
section
variable {M : Model} {A : Around} {R : GenEnd} {Y : Protocol} {n : Nat} {s₀ : Shared} {c : Code} {fs : List Frame} {s : Shared} {env : Env}
  {K : Flow → Sem Fin} {H : Value → Sem Fin} {gd : Bool → Bool} {lv : List Value → List Value}
theorem seg_plain {st : Stmt} (h : wpAny M (A.over c fs) (exec st env) (fun f s' => Seg M A R Y n s₀ c (K f) fs s') (fun x s' => Seg M A R Y n s₀ c (H x) fs s') s) :
    Seg M A R Y n s₀ c ((exec st env).wrap K H gd lv) fs s := seg_wrap h
theorem seg_If {test : Expr} {body orelse : List Stmt} {pos : Pos}
    (h : wpAny M (A.over c fs) (isTrue test env (eval test env)) (fun b s' => if b = true then Seg M A R Y n s₀ c ((execs body env).wrap K H gd lv) fs s' else Seg M A R Y n s₀ c ((execs orelse env).wrap K H gd lv) fs s')
      (fun x s' => Seg M A R Y n s₀ c (H x) fs s') s) :
    Seg M A R Y n s₀ c ((exec (.If test body orelse pos) env).wrap K H gd lv) fs s := by
  show Seg M A R Y n s₀ c (.at pos fun _ => ((isTrue test env (eval test env) >>= fun b => if b = true then execs body env else execs orelse env)).wrap K H gd lv) fs s
  refine seg_at ?_
  rw [Sem.bind_eq_wrap', Sem.wrap_wrap]
  refine seg_wrap (wpAny_mono h (fun b s' hb => ?_) fun _ _ x => x)
  cases b with
  | true => exact hb
  | false => exact hb
theorem seg_For {target iter : Expr} {body orelse : List Stmt} {pos : Pos}
    (h : wpAny M (A.over c fs) (eval iter env) (fun x s₁ => wpAny M (A.over c fs) (pyIter x) (fun it s₂ => ∀ p, Seg M A R Y n s₀ (.forLoop target it body orelse env) (M.den (.forLoop target it body orelse env))
      (.ret (fun r => ((match r with | .ok f => (.pure f : Sem Flow) | .error e => .raise e).onRaise fun (x : Value) => do
        if (← field x 1) == Value.none then unsupported "frame.own-activation:exception-without-traceback"
        setFlight x env.frame).wrap K H gd lv) none (gd false) (lv []) c p [] :: fs) s₂) (fun x s' => Seg M A R Y n s₀ c (H x) fs s') s₁) (fun x s' => Seg M A R Y n s₀ c (H x) fs s') s)
    (hs : ∀ x, foldedSetIterable iter env x = pure x := by intro _; rfl) :
    Seg M A R Y n s₀ c ((exec (.For target iter body orelse pos) env).wrap K H gd lv) fs s := by
  rw [exec_For]
  show Seg M A R Y n s₀ c (.at pos fun _ => (eval iter env >>= fun x0 => foldedSetIterable iter env x0 >>= fun x => standAt iter.pos >>= fun _ => holding [x] (pyIter x) >>= fun it => runOwn (.forLoop target it body orelse env) env).wrap K H gd lv) fs s
  refine seg_at ?_
  rw [Sem.bind_eq_wrap', Sem.wrap_wrap]
  refine seg_wrap (wpAny_mono h (fun x s₁ h₁ => ?_) fun _ _ x => x)
  rw [hs x]
  show Seg M A R Y n s₀ c (.at iter.pos fun _ => (holding [x] (pyIter x) >>= fun it => runOwn (.forLoop target it body orelse env) env).wrap K H gd lv) fs s₁
  refine seg_at ?_
  rw [Sem.bind_eq_wrap', Sem.wrap_wrap]
  refine seg_wrap (wpAny_holding (wpAny_mono h₁ (fun it s₂ h₂ => ?_) fun _ _ x => x))
  exact seg_call h₂
end
section
variable {prog : Program} {w : World} {A : Around} {R : GenEnd} {Y : Protocol} {n : Nat} {s₀ : Shared} {fs : List Frame} {s : Shared} {env : Env}
theorem seg_forLoop {x : Str} {px : Pos} {it : Value} {body orelse : List Stmt}
    (h : wpAny (model prog w) (A.over (.forLoop (.Name x px) it body orelse env) fs) (pyNext it) (fun r s₁ => match r with
        | none => Seg (model prog w) A R Y n s₀ (.forLoop (.Name x px) it body orelse env) (.pure (.again (.block orelse env))) fs s₁
        | some v => wpAny (model prog w) (A.over (.forLoop (.Name x px) it body orelse env) fs) (assign (.Name x px) env v) (fun _ s₂ =>
          Seg (model prog w) A R Y n s₀ (.forLoop (.Name x px) it body orelse env) ((execs body env).wrap (fun f => match f with
            | .next | .cont => .pure (.again (.forLoop (.Name x px) it body orelse env))
            | .brk => .pure (.done .next)
            | .ret v => .pure (.done (.ret v))) (fun e => (do noteFrame e env; theTreesLotGoes e : Sem Unit).wrap (fun _ => .raise e) .raise id id) id id) fs s₂)
          (fun e s' => Seg (model prog w) A R Y n s₀ (.forLoop (.Name x px) it body orelse env) ((do noteFrame e env; theTreesLotGoes e : Sem Unit).wrap (fun _ => .raise e) .raise id id) fs s') s₁)
      (fun e s' => Seg (model prog w) A R Y n s₀ (.forLoop (.Name x px) it body orelse env) ((do noteFrame e env; theTreesLotGoes e : Sem Unit).wrap (fun _ => .raise e) .raise id id) fs s') s) :
    Seg (model prog w) A R Y n s₀ (.forLoop (.Name x px) it body orelse env) ((model prog w).den (.forLoop (.Name x px) it body orelse env)) fs s := by
  have hH : ∀ e, (do noteFrame e env; theTreesLotGoes e : Sem Unit).bind (fun _ => (.raise e : Sem Fin)) = (do noteFrame e env; theTreesLotGoes e : Sem Unit).wrap (fun _ => .raise e) .raise id id := fun e => Sem.bind_eq_wrap _ _
  show Seg _ A R Y n s₀ _ ((forTurn (.Name x px) it body orelse env).onRaise (fun x => do noteFrame x env; theTreesLotGoes x)) fs s
  unfold forTurn
  show Seg _ A R Y n s₀ _ (.at (Expr.Name x px).pos fun _ => ((pyNext it).onRaise (fun _ => standAt { (Expr.Name x px).pos with line := 0 }) >>= fun r => match r with
    | none => again (.block orelse env)
    | some v => letOwnedTupleGo (.Name x px) it v >>= fun _ => assign (.Name x px) env v >>= fun _ => execs body env >>= fun f => match f with
      | .next | .cont => again (.forLoop (.Name x px) it body orelse env)
      | .brk => pure (.done .next)
      | .ret v => pure (.done (.ret v))).onRaise (fun x => do noteFrame x env; theTreesLotGoes x)) fs s
  refine seg_at ?_
  rw [Sem.onRaise_eq_wrap, Sem.bind_eq_wrap', Sem.wrap_wrap]
  refine seg_wrap (wpAny_onRaise (wpAny_mono h (fun r s₁ h₁ => ?_) fun e s₁ h₁ => wpAny_standAt ?_))
  · cases r with
    | none => exact h₁
    | some v =>
      show Seg _ A R Y n s₀ _ (Sem.wrap _ _ _ _ (assign (.Name x px) env v >>= _)) fs s₁
      rw [Sem.bind_eq_wrap', Sem.wrap_wrap]
      refine seg_wrap (wpAny_mono h₁ (fun _ s₂ h₂ => ?_) fun e s₂ h₂ => ?_)
      · rw [Sem.bind_eq_wrap', Sem.wrap_wrap]
        refine Eq.mpr (congrArg (fun t => Seg (model prog w) A R Y n s₀ _ t fs s₂) (Sem.wrap_congr (execs body env) _ _ (fun f => ?_) (fun e => ?_))) h₂
        · cases f <;> rfl
        · exact hH e
      · rw [← hH] at h₂; exact h₂
  · rw [← hH] at h₁; exact h₁
end

-- part gen
/-- the states of the walk over the sizes -/
inductive GS where
  | fresh
  | norm (i : Nat)
  | inf (v : Int)
/-- none: it raises; some none: it ends; else what it yields and where it stands then -/
noncomputable def nxt (ss : List Int) : GS → Option (Option (Int × GS))
  | .fresh => match ss[0]? with
    | none => some none
    | some x => if x = 127 then some none else if x = 0 then none else some (some (x, .norm 1))
  | .norm i => match ss[i]? with
    | none => some none
    | some x => if x = 127 then some none else if x = 0 then some (some (ss.getD (i - 1) 0, .inf (ss.getD (i - 1) 0))) else some (some (x, .norm (i + 1)))
  | .inf v => some (some (v, .inf v))
noncomputable def gStmt : Stmt := PySem.Challenge.pw_pa0027_01.main.body.getD 3 (.Pass ⟨0, 0, 0, 0⟩)
noncomputable def gBody : List Stmt := match gStmt with | .FunctionDef _ _ b _ _ _ _ _ _ _ => b | _ => []
noncomputable def gScope : Scope := match gStmt with | .FunctionDef _ _ _ _ _ _ sc _ _ _ => sc | _ => default
noncomputable def gFor : List Stmt := match gBody with | [_, .For _ _ b _ _] => b | _ => []
noncomputable def gPx : Pos := match gBody with | [_, .For (.Name _ p) _ _ _ _] => p | _ => ⟨0, 0, 0, 0⟩
noncomputable abbrev gEnv (Lg : Addr) : Env := envOf (Str.ofString "_grouping_intervals") gScope Lg 28 (.ref 27)
/-- the generator's own things at a rest -/
noncomputable def GH (g : Heap) (Lg I a : Addr) (ss : List Int) (h : Heap) : GS → Prop
  | .fresh => Fr g Lg h (fun y => [(Str.ofString "grouping", Value.ref a)].reverse.lookup y)
  | .norm i => ∃ m t oI, Fr g Lg h m ∧ m (Str.ofString "interval") = some (.int (ss.getD (i - 1) 0) t) ∧ 1 ≤ i ∧ News g Lg h [(I, oI)] ∧ h.IsListIter I a i
  | .inf v => ∃ m t, Fr g Lg h m ∧ m (Str.ofString "last_interval") = some (.int v t)
/-- what a wake leaves as it was: all but its frame and walks over its list -/
noncomputable def KeptG (Lg a : Addr) (s s' : Shared) : Prop := ∃ h' tk, s' = { s with heap := h', toks := tk } ∧ ∀ b o, s.heap.get? b = some o → b ≠ Lg → (∀ i, ¬ s.heap.IsListIter b a i) → h'.get? b = some o
noncomputable def gY (g : Heap) (Lg a : Addr) (ss : List Int) (st : Nat → GS) : Protocol := fun m s₀ v s₁ kap =>
  ∃ I x t st', nxt ss (st m) = some (some (x, st')) ∧ v = .int x t ∧ KeptG Lg a s₀ s₁ ∧ GH g Lg I a ss s₁.heap st' ∧ (0 < m → ∀ s'', GH g Lg I a ss s''.heap st' → kap (.send .none) s'')
noncomputable def gR (g : Heap) (Lg a : Addr) (ss : List Int) (st : Nat → GS) : GenEnd := fun n s₀ r s₁ => r = .ok (.ret .none) ∧ nxt ss (st (n - 1)) = some none ∧ KeptG Lg a s₀ s₁ ∧ ∀ b o, g.get? b = some o → s₁.heap.get? b = some o
theorem KeptG.refl {Lg a : Addr} {s : Shared} : KeptG Lg a s s := ⟨s.heap, s.toks, rfl, fun _ _ h _ _ => h⟩
theorem KeptG.step {Lg a I : Addr} {i : Nat} {s s' : Shared} {h : Heap} {tk : Nat} (k : KeptG Lg a s s') (hI : s'.heap.IsListIter I a i) (hk : ∀ b o, s'.heap.get? b = some o → b ≠ Lg → b ≠ I → h.get? b = some o) : KeptG Lg a s { s' with heap := h, toks := tk } := by
  obtain ⟨h', tk', rfl, hh⟩ := k
  refine ⟨h, tk, rfl, fun b o hb hL hi => hk b o (hh b o hb hL hi) hL fun q => ?_⟩
  subst q
  obtain ⟨o', ho', r⟩ := hI
  have : h'.get? b = some o := hh b o hb hL hi
  rw [show h'.get? b = some o' from ho'] at this
  obtain rfl := Option.some.inj this
  exact hi i ⟨_, hb, r⟩
theorem KeptG.step' {Lg a : Addr} {s s' : Shared} {h : Heap} {tk : Nat} (k : KeptG Lg a s s') (hk : ∀ b o, s'.heap.get? b = some o → b ≠ Lg → h.get? b = some o) : KeptG Lg a s { s' with heap := h, toks := tk } := by
  obtain ⟨h', tk', rfl, hh⟩ := k
  exact ⟨h, tk, rfl, fun b o hb hL hi => hk b o (hh b o hb hL hi) hL⟩
/-- what follows the loop's end in the generator's frame -/
noncomputable def gKf : Flow → Sem Fin := fun f => .pure (.done (.ret (match f with | .ret v => v | _ => .none)))
noncomputable def gHf (env : Env) : Value → Sem Fin := fun e => (leaving env e).wrap (fun _ => .raise e) .raise id id
noncomputable def gFr (Lg : Addr) (p : Pos) : Frame :=
  .ret (fun r => ((match r with | .ok f => (.pure f : Sem Flow) | .error e => .raise e).onRaise fun (x : Value) => do
    if (← field x 1) == Value.none then unsupported "frame.own-activation:exception-without-traceback"
    setFlight x (gEnv Lg).frame).wrap (fun (f : Flow) => match f with | .next => (execs [] (gEnv Lg)).wrap gKf (gHf (gEnv Lg)) id id | f => gKf f) (gHf (gEnv Lg)) id id) none (id false) (id []) (.func gBody (gEnv Lg)) p []
noncomputable abbrev gCode (Lg I : Addr) : Code := .forLoop (.Name (Str.ofString "interval") gPx) (.ref I) gFor [] (gEnv Lg)
noncomputable def gKl (Lg I : Addr) : Flow → Sem Fin := fun f => match f with
  | .next | .cont => .pure (.again (gCode Lg I))
  | .brk => .pure (.done .next)
  | .ret v => .pure (.done (.ret v))
noncomputable def gHl (Lg : Addr) : Value → Sem Fin := fun e => (do noteFrame e (gEnv Lg); theTreesLotGoes e : Sem Unit).wrap (fun _ => .raise e) .raise id id
section
variable {M : Model} {A : Around} {R : GenEnd} {Y : Protocol} {n : Nat} {s₀ s : Shared} {c : Code} {Lg : Addr} {p : Pos}
theorem pop_ret (h : R n s₀ (.ok (.ret .none)) s) : Seg M A R Y n s₀ c (.pure (.done (.ret .none))) [gFr Lg p] s := by
  refine seg_leaf (r := .ok (.ret .none)) ?_
  exact seg_end (.ok (.ret .none)) h
theorem pop_next (h : R n s₀ (.ok (.ret .none)) s) : Seg M A R Y n s₀ c (.pure (.done .next)) [gFr Lg p] s := by
  refine seg_leaf (r := .ok .next) ?_
  exact seg_end (.ok (.ret .none)) h
end
theorem fr_if {g h : Heap} {L : Addr} {mm : Str → Option Value} {k : Str} {v : Value} (F : Fr g L h mm) (hx : mm k = some v) : Fr g L h (fun y => if y = k then some v else mm y) := by
  have e : (fun y => if y = k then some v else mm y) = mm := by
    funext y
    by_cases q : y = k
    · rw [if_pos q, q, hx]
    · rw [if_neg q]
  rw [e]; exact F

-- part gen2
noncomputable abbrev gWcode (kk : Nat) (p0 p1 p2 p3 : Pos) (Lg : Addr) : Code := .whileLoop (.Constant (.bool true) kk p0) [.Expr (.Yield (some (.Name (Str.ofString "last_interval") p1)) p2) p3] [] (gEnv Lg)
section
variable {w : World} {mean : ExcName → Option Value} {mg mb : Str → Option Value} {g : Heap} {Lg a : Addr} {ss : List Int} {st : Nat → GS} {dp : Nat} {fr : Option (List Env)} {gd : Option (List Code)} {un : Nat} {kk : Nat} {p0 p1 p2 p3 : Pos}
theorem gen_inf {v : Int} {fs : List Frame} (hfs : splitAtGen fs = none) (hfg : fs.any Frame.guarded = false) (X : (hd.heap_39 w.params).In g) (T : Top hd.view_39 lo mean mg mb g)
    (Hst : ∀ k x st', nxt ss (st (k + 1)) = some (some (x, st')) → st k = st') : ∀ (k : Nat) (s₀ s : Shared) (mm : Str → Option Value) (t : Tok), nxt ss (st k) = some (some (v, .inf v)) → Fr g Lg s.heap mm → mm (Str.ofString "last_interval") = some (.int v t) → KeptG Lg a s₀ s →
    Seg (model PySem.Challenge.rw_pa0027_01.row.prog w) (AA dp fr gd un) (gR g Lg a ss st) (gY g Lg a ss st) (k + 1) s₀ (gWcode kk p0 p1 p2 p3 Lg) ((model PySem.Challenge.rw_pa0027_01.row.prog w).den (gWcode kk p0 p1 p2 p3 Lg)) fs s := by
  w_strict (
  revert X T
  k_fill
  intro X T k
  induction k with
  | zero =>
    intro s₀ s mm t hst F hx hk
    have F' := fr_if F hx
    have N : News g Lg s.heap [] := News.nil
    refine seg_whileLoop ?_
    k_steps
    refine seg_execs_cons (seg_Expr_Yield hfs rfl hfg ?_)
    k_steps
    rename_i kap hkap
    exact ⟨Lg, _, _, _, hst, rfl, hk, ⟨_, _, F, hx⟩, fun q => absurd q (Nat.lt_irrefl _)⟩
  | succ k ih =>
    intro s₀ s mm t hst F hx hk
    have F' := fr_if F hx
    have N : News g Lg s.heap [] := News.nil
    refine seg_whileLoop ?_
    k_steps
    refine seg_execs_cons (seg_Expr_Yield hfs rfl hfg ?_)
    k_steps
    rename_i kap hkap
    refine ⟨Lg, _, _, _, hst, rfl, hk, ⟨_, _, F, hx⟩, fun _ s'' ⟨m2, t2, F2, hx2⟩ => hkap .none s'' ?_⟩
    refine seg_execs_nil (seg_again rfl (ih s'' s'' m2 t2 ?_ F2 hx2 .refl))
    rw [Hst _ _ _ hst]; rfl)
end

-- part gen3
theorem items_keep {g h : Heap} {a : Addr} {items : Array Value} (hl : g.IsList a items) (hk : ∀ b o, g.get? b = some o → h.get? b = some o) : h.IsList a items := hl.at fun o q => hk _ _ q
/-- all that stands in h beyond g, but for two -/
noncomputable def allOf (g h : Heap) (L I : Addr) : List (Addr × Obj) := (List.range h.objs.size).filterMap fun b => match h.get? b with
  | some o => open Classical in if b ≠ L ∧ b ≠ I ∧ g.get? b = none then some (b, o) else none
  | none => none
theorem mem_allOf {g h : Heap} {L I b : Addr} {o : Obj} : (b, o) ∈ allOf g h L I ↔ h.get? b = some o ∧ b ≠ L ∧ b ≠ I ∧ g.get? b = none := by
  unfold allOf
  rw [List.mem_filterMap]
  constructor
  · rintro ⟨c, hc, q⟩
    cases e : h.get? c with
    | none => rw [e] at q; cases q
    | some o' =>
      rw [e] at q
      dsimp only at q
      split at q
      · next z => cases q; exact ⟨e, z⟩
      · cases q
  · rintro ⟨h1, h2⟩
    refine ⟨b, List.mem_range.mpr (Heap.lt_size h1), ?_⟩
    rw [h1]
    dsimp only
    rw [if_pos h2]
theorem news_all {g h : Heap} {L I : Addr} {o : Obj} (hI : h.get? I = some o) (h1 : I ≠ L) (h2 : g.get? I = none) : News g L h ((I, o) :: allOf g h L I) := fun q hq => by
  rcases List.mem_cons.mp hq with rfl | hq
  · exact ⟨hI, h1, h2⟩
  · obtain ⟨b, o⟩ := q
    have := mem_allOf.mp hq
    exact ⟨this.1, this.2.1, this.2.2.2⟩
theorem kept_all {g h h' : Heap} {L I : Addr} {m m' : Str → Option Value} {o' : Obj} (F : Fr g L h m) (F' : Fr g L h' m') (N : News g L h' ((I, o') :: allOf g h L I)) : ∀ b o, h.get? b = some o → b ≠ L → b ≠ I → h'.get? b = some o := fun b o hb h1 h2 => by
  cases q : g.get? b with
  | none => exact (N _ (.tail _ (mem_allOf.mpr ⟨hb, h1, h2, q⟩))).1
  | some o2 =>
    have := F.keep b o2 q
    rw [hb] at this
    obtain rfl := Option.some.inj this
    exact F'.keep b o q
section
variable {w : World} {mean : ExcName → Option Value} {mg mb : Str → Option Value} {g : Heap} {Lg a I : Addr} {ss : List Int} {st : Nat → GS} {dp : Nat} {fr : Option (List Env)} {gd : Option (List Code)} {un : Nat}
theorem gen_turn {items : Array Value} {p : Pos} (X : (hd.heap_39 w.params).In g) (T : Top hd.view_39 lo mean mg mb g) (hl : g.IsList a items) (hit : ∀ i : Nat, ss[i]? = none ∧ items[i]? = none ∨ ∃ x t, ss[i]? = some x ∧ items[i]? = some (Value.int x t))
    (Hst : ∀ k x st', nxt ss (st (k + 1)) = some (some (x, st')) → st k = st') : ∀ (k i : Nat) (s₀ s : Shared) (mm : Str → Option Value) (t : Tok) (lv : Value) (oI : Obj),
    Fr g Lg s.heap mm → News g Lg s.heap [(I, oI)] → mm (Str.ofString "last_interval") = some lv → s.heap.IsListIter I a i →
    (i = 0 ∧ lv = .none ∧ st k = .fresh ∧ ss[0]? ≠ some 0 ∨ 1 ≤ i ∧ lv = .int (ss.getD (i - 1) 0) t ∧ st k = .norm i) → KeptG Lg a s₀ s →
    Seg (model PySem.Challenge.rw_pa0027_01.row.prog w) (AA dp fr gd un) (gR g Lg a ss st) (gY g Lg a ss st) (k + 1) s₀ (gCode Lg I) ((model PySem.Challenge.rw_pa0027_01.row.prog w).den (gCode Lg I)) [gFr Lg p] s := by
  w_strict (
  revert X T
  k_fill
  intro X T k
  induction k using Nat.strongRecOn with
  | _ k ih =>
    intro i s₀ s mm t lv oI F N hx hI hc hk
    refine seg_forLoop ?_
    rcases hit i with ⟨h1, h2⟩ | ⟨x, tx, h1, h2⟩
    (· refine wpAny_pyNext_list_end rfl hI (items_keep hl F.keep) h2 fun h' hs' => ?_
       refine seg_again rfl ?_
       show Seg _ _ _ _ _ _ _ (.pure (.done .next)) _ _
       refine pop_next ⟨rfl, ?_, hk.step hI fun b o hb hL hn => hs' b o hn hb, fun b o q => hs' b o (fun z => by rw [z, (N _ (.head _)).2.2] at q; cases q) (F.keep b o q)⟩
       rcases hc with ⟨rfl, _, q, _⟩ | ⟨_, _, q⟩
       (· show nxt ss (st k) = _
          rw [q]; simp only [nxt, h1])
       (· show nxt ss (st k) = _
          rw [q]; simp only [nxt, h1]))
    (· refine wpAny_pyNext_list_item hI (items_keep hl F.keep) h2 fun h' hI' hs' => ?_
       have hIL := (N _ (.head _)).2.1
       have hIg := (N _ (.head _)).2.2
       have hns : h'.Ns Lg mm := by
         obtain ⟨o, es, ep, ho, r⟩ := F.ns
         exact ⟨o, es, ep, (hs'.2 Lg (Ne.symm hIL)).trans ho, r⟩
       have F1 : Fr g Lg h' mm := ⟨hns, fun b o q => (hs'.2 b (fun z => by rw [z] at q; rw [hIg] at q; cases q)).trans (F.keep b o q), F.above⟩
       obtain ⟨oJ, hoJ, hJ⟩ := hI'
       have N1 := news_all hoJ hIL hIg
       have hk1 : KeptG Lg a s₀ { s with heap := h' } := hk.step hI fun b o hb hL hn => (hs'.2 b hn).trans hb
       have F0 := F1
       replace F1 := fr_if F1 hx
       clear hk hs' hns N F hI
       refine wpAny_assign_Name (stN F1 N1 fun h2 F2 N2 => ?_)
       clear F1 N1
       with_unfolding_all refine seg_execs_cons ?_
       refine seg_If ?_
       k_steps
       all_goals (rename Fr _ _ _ _ => F3; rename News _ _ _ _ => N3)
       (· rename_i q127
          refine seg_execs_cons (seg_plain ?_)
          k_steps
          refine pop_ret ⟨rfl, ?_, hk1.step ⟨oJ, hoJ, hJ⟩ (kept_all F0 F3 N3), F3.keep⟩
          rcases hc with ⟨rfl, _, q, _⟩ | ⟨_, _, q⟩
          (· show nxt ss (st k) = _
             rw [q]; simp only [nxt, h1, q127, if_true])
          (· show nxt ss (st k) = _
             rw [q]; simp only [nxt, h1, q127, if_true]))
       rename_i q127
       refine seg_execs_nil ?_
       with_unfolding_all refine seg_execs_cons ?_
       refine seg_If ?_
       k_steps
       (· rename_i q0
          rcases hc with ⟨rfl, _, _, q⟩ | ⟨hi, rfl, q⟩
          (· exact absurd (by rw [h1, q0]) q)
          have hn : nxt ss (st k) = some (some (ss.getD (i - 1) 0, .inf (ss.getD (i - 1) 0))) := by
            rw [q]; simp only [nxt, h1, q0, if_true]; rfl
          refine seg_execs_cons ?_
          refine seg_If ?_
          k_steps
          rename Fr _ _ _ _ => F3
          rename News _ _ _ _ => N3
          refine seg_execs_nil ?_
          refine seg_execs_cons (seg_While fun p' => ?_)
          refine gen_inf rfl rfl X T Hst k _ _ _ _ hn F3 rfl (hk1.step ⟨oJ, hoJ, hJ⟩ (kept_all F0 F3 N3)))
       rename_i q0
       have hn : nxt ss (st k) = some (some (x, .norm (i + 1))) := by
         rcases hc with ⟨rfl, _, q, _⟩ | ⟨_, _, q⟩
         (· rw [q]; simp only [nxt, h1, if_neg q127, if_neg q0])
         (· rw [q]; simp only [nxt, h1, if_neg q127, if_neg q0])
       refine seg_execs_nil ?_
       refine seg_execs_cons (seg_Expr_Yield rfl rfl rfl ?_)
       k_steps
       rename Fr _ _ _ _ => F3
       rename News _ _ _ _ => N3
       rename_i kap hkap
       have hd1 : ss.getD (i + 1 - 1) 0 = x := by rw [Nat.add_sub_cancel, List.getD_eq_getElem?_getD, h1]; rfl
       refine ⟨I, _, _, _, hn, rfl, hk1.step ⟨oJ, hoJ, hJ⟩ (kept_all F0 F3 N3), ⟨_, tx, oJ, F3, ?_, Nat.le_add_left _ _, ?_, ⟨oJ, N3.get (.head _), hJ⟩⟩, ?_⟩
       (· rw [hd1]; rfl)
       (· intro q hq
          obtain rfl := List.mem_singleton.mp hq
          exact N3 _ (.head _))
       clear F3 N3 F0 hk1
       rintro hpos s'' ⟨m2, t2, oI2, F2, hx2, -, N2, hI2⟩
       refine hkap .none s'' ?_
       obtain ⟨j, rfl⟩ : ∃ j, k = j + 1 := ⟨k - 1, by omega⟩
       rw [hd1] at hx2
       have F4 := fr_if F2 hx2
       have N4 := news_all (N2.get (.head _)) (N2 _ (.head _)).2.1 (N2 _ (.head _)).2.2
       with_unfolding_all refine seg_execs_cons (seg_plain ?_)
       have hN4 := N4.get (.head _)
       have kp := fun h5 m5 (F5 : Fr g Lg h5 m5) N5 => kept_all (I := I) (o' := oI2) F2 F5 N5
       clear N2
       k_steps
       rename Fr _ _ _ _ => F5
       rename News _ _ _ _ => N5
       refine seg_execs_nil (seg_again rfl ?_)
       obtain ⟨o2, ho2, hr2⟩ := hI2
       have ho5 := N5.get (.head _)
       have e2 : o2 = oI2 := Option.some.inj (ho2.symm.trans hN4)
       subst e2
       refine ih j (Nat.lt_succ_self _) (i + 1) _ _ _ t2 (.int x t2) o2 F5 ?_ rfl ⟨o2, ho5, hr2⟩ (.inr ⟨Nat.le_add_left _ _, ?_, Hst _ _ _ hn⟩) ?_
       (· intro q hq
          obtain rfl := List.mem_singleton.mp hq
          exact N5 _ (.head _))
       (· rw [hd1])
       (· exact KeptG.refl.step ⟨o2, ho2, hr2⟩ (kp _ _ F5 N5))))
end

-- part gen4
section
variable {w : World} {mean : ExcName → Option Value} {mg mb : Str → Option Value} {g : Heap} {Lg a : Addr} {ss : List Int} {st : Nat → GS} {dp : Nat} {fr : Option (List Env)} {gd : Option (List Code)} {un : Nat}
theorem news_all0 {g h : Heap} {L : Addr} : News g L h (allOf g h L L) := fun q hq => by
  obtain ⟨b, o⟩ := q
  have := mem_allOf.mp hq
  exact ⟨this.1, this.2.1, this.2.2.2⟩
theorem kept_all0 {g h h' : Heap} {L : Addr} {m m' : Str → Option Value} {ns : List (Addr × Obj)} (F : Fr g L h m) (F' : Fr g L h' m') (N : News g L h' ns) (hs : ∀ p ∈ allOf g h L L, p ∈ ns) : ∀ b o, h.get? b = some o → b ≠ L → h'.get? b = some o := fun b o hb h1 => by
  cases q : g.get? b with
  | none => exact (N _ (hs _ (mem_allOf.mpr ⟨hb, h1, h1, q⟩))).1
  | some o2 =>
    have := F.keep b o2 q
    rw [hb] at this
    obtain rfl := Option.some.inj this
    exact F'.keep b o q
theorem gen_fresh {items : Array Value} (X : (hd.heap_39 w.params).In g) (T : Top hd.view_39 lo mean mg mb g) (hl : g.IsList a items) (hit : ∀ i : Nat, ss[i]? = none ∧ items[i]? = none ∨ ∃ x t, ss[i]? = some x ∧ items[i]? = some (Value.int x t))
    (Hst : ∀ k x st', nxt ss (st (k + 1)) = some (some (x, st')) → st k = st') (h0 : ss[0]? ≠ some 0) (k : Nat) (s₀ s : Shared)
    (F : Fr g Lg s.heap (fun y => [(Str.ofString "grouping", Value.ref a)].reverse.lookup y)) (hst : st k = .fresh) (hk : KeptG Lg a s₀ s) :
    Seg (model PySem.Challenge.rw_pa0027_01.row.prog w) (AA dp fr gd un) (gR g Lg a ss st) (gY g Lg a ss st) (k + 1) s₀ (.func gBody (gEnv Lg)) ((model PySem.Challenge.rw_pa0027_01.row.prog w).den (.func gBody (gEnv Lg))) [] s := by
  w_strict (
  revert X T
  k_fill
  intro X T
  have kp := fun h5 m5 (F5 : Fr g Lg h5 m5) N5 => kept_all0 F F5 N5 fun p hp => hp
  have N := news_all0 (g := g) (h := s.heap) (L := Lg)
  refine seg_func ?_
  with_unfolding_all refine seg_execs_cons (seg_plain ?_)
  k_steps
  rename Fr _ _ _ _ => F5
  rename News _ _ _ _ => N5
  refine seg_execs_cons (seg_For ?_)
  k_steps
  rename Fr _ _ _ _ => F6
  rename News _ _ _ _ => N6
  refine wpAny_pyIter_list (items_keep hl F6.keep) fun p => ?_
  have N7 := N6.push F6 { cls := .type "list_iterator", data := .fields #[.ref a, .int 0 0] }
  have F7 := F6.push { cls := .type "list_iterator", data := .fields #[.ref a, .int 0 0] }
  refine gen_turn X T hl hit Hst k 0 s₀ _ _ 0 .none { cls := .type "list_iterator", data := .fields #[.ref a, .int 0 0] } F7 ?_ rfl ⟨_, N7.get (.head _), rfl, rfl⟩ (.inl ⟨rfl, rfl, hst, h0⟩) ?_
  (· intro q hq
     obtain rfl := List.mem_singleton.mp hq
     exact N7 _ (.head _))
  (· refine hk.step' ?_
     exact fun b o hb hL => Heap.get?_push_of_some _ (kp _ _ F6 N6 b o hb hL)))
end

-- part flyg
/-- an exception that has been noted at the frame L -/
noncomputable def Held (g : Heap) (l : List Env) (L e : Addr) (cls : Value) (h : Heap) : Prop :=
  KeptBut g l h ∧ g.get? e = none ∧ ∃ oe vs T oT ts, h.get? e = some oe ∧ oe.cls = cls ∧ oe.data = .fields vs ∧ vs[1]? = some (.ref T) ∧ g.get? T = none ∧ T ≠ e ∧ h.get? T = some oT ∧ oT.data = .fields ts ∧ ts[3]? = some (rawInt L)
section
variable {M : Model} {A : Around} {E : Value → Shared → Prop} {s' : Shared} {g h : Heap} {l : List Env} {env : Env} {L e : Addr} {Q : Unit → Shared → Prop} {cls : Value}
theorem held_of {h' : Heap} {a0 : Value} (fr : Frames g l) (hu : g.UpToSlots s'.heap) (hg : g.get? e = none) (x : Heap.NotedW (hideAll g (frs l)) (env :: l) e cls a0 (rawInt L) s'.heap h') : Held g l L e cls h' ∧ s'.heap.UpToSlots h' := by
  obtain ⟨k1, _, k3, k4⟩ := x
  have hup : g.UpToSlots h' := hu.trans k4
  refine ⟨⟨⟨fun b o hb hn => k1 b o (hideAll_get _ hb hn), hup⟩, hg, ?_⟩, k4⟩
  obtain ⟨oe, vs, T, oT, ts, he, hc, hd, h1, hT, hTe, hoT, hdT, h3⟩ := k3
  refine ⟨oe, vs, T, oT, ts, he, hc.1, hd, h1, ?_, hTe, hoT, hdT, h3⟩
  cases q : g.get? T with
  | none => rfl
  | some o =>
    exfalso
    by_cases hm : T ∈ frs l
    · obtain ⟨o', ho', hd'⟩ := fr.mem hm
      obtain ⟨sl, hs⟩ := hup T o' ho' hd'
      rw [hoT] at hs
      cases hs
      exact hd' ts hdT
    · rw [hideAll_get _ q hm] at hT; cases hT
/-- the frame that is left stands beyond g -/
noncomputable def Own (g h : Heap) (env : Env) (L : Addr) : Prop := env.frame = some L ∧ env.scope.kind ≠ .module ∧ g.get? L = none ∧ (∀ b o, g.get? b = some o → h.get? b = some o) ∧ ∃ o, h.get? L = some o ∧ ∀ vs, o.data ≠ .fields vs
theorem Own.frames (ow : Own g h env L) (fr : Frames g l) : Frames h (env :: l) := fun x hx => by
  obtain ⟨hf, hk, _, hkeep, o, ho, hd⟩ := ow
  rcases List.mem_cons.mp hx with rfl | hx
  · exact ⟨hk, L, o, hf, ho, hd⟩
  · exact (fr.keeps hkeep) x hx
theorem Own.hidden (ow : Own g h env L) : ∀ x ∈ env :: l, ∀ L', x.frame = some L' → (hideAll g (frs l)).get? L' = none := fun x hx L' hf' => by
  obtain ⟨hf, _, hn, _⟩ := ow
  rcases List.mem_cons.mp hx with rfl | hx
  · rw [hf] at hf'
    cases q : (hideAll g (frs l)).get? L' with
    | none => rfl
    | some o => have := of_hideAll _ q; rw [← Option.some.inj hf', hn] at this; cases this
  · exact hide_in (List.mem_filterMap.mpr ⟨x, hx, hf'⟩)
theorem note_made {vs : List Value} (fr : Frames g l) (hA : A.frames = some (env :: l)) (ow : Own g h env L) (hx : Heap.MadeExcOf h s'.heap e cls vs)
    (hQ : ∀ h', Held g l L e cls h' → s'.heap.UpToSlots h' → Q () { s' with heap := h' }) : wpAny M A (noteFrame (.ref e) env) Q E s' := by
  obtain ⟨t, he, _, _⟩ := hx.there
  have hge : g.get? e = none := by
    cases q : g.get? e with
    | none => rfl
    | some o => have := ow.2.2.2.1 e o q; rw [hx.new] at this; cases this
  have hfr := ((ow.frames fr).keeps hx.keeps).fun (g := hideAll g (frs l)) (fun _ hx => hx) ow.hidden
  unfold noteFrame
  simp only [ow.1]
  refine wpAny_bind (wpAny_field he rfl (x := .none) rfl ?_)
  rw [if_neg (by decide)]
  refine wpAny_entryW (base := hideAll g (frs l)) hA hfr ow.1 he (fun b o q => hx.keeps b o (ow.2.2.2.1 b o (of_hideAll _ q))) ?_ rfl (by simp) rfl fun h' x => ?_
  · cases q : (hideAll g (frs l)).get? e with
    | none => rfl
    | some o => have := of_hideAll _ q; rw [hge] at this; cases this
  · have z := held_of fr (Heap.UpToSlots.of_keeps fun b o q => hx.keeps b o (ow.2.2.2.1 b o q)) hge x
    exact hQ h' z.1 z.2
theorem note_on (fr : Frames g l) (hA : A.frames = some (env :: l)) (ow : Own g h env L) (fl : Fly h (env :: l) e cls s'.heap)
    (hQ : ∀ h', Held g l L e cls h' → s'.heap.UpToSlots h' → Q () { s' with heap := h' }) : wpAny M A (noteFrame (.ref e) env) Q E s' := by
  obtain ⟨⟨k1, k2⟩, hhe, oe, vs, T, oT, ts, he, hc, hd, h1, hT, hTe, hoT, hdT, h3⟩ := fl
  have hge : g.get? e = none := by
    cases q : g.get? e with
    | none => rfl
    | some o => have := ow.2.2.2.1 e o q; rw [hhe] at this; cases this
  have hgT : (hideAll g (frs l)).get? T = none := by
    cases q : (hideAll g (frs l)).get? T with
    | none => rfl
    | some o => have := ow.2.2.2.1 T o (of_hideAll _ q); rw [hT] at this; cases this
  have frh : Frames s'.heap (env :: l) := (ow.frames fr).up k2
  have h0 : ∃ a0, vs[0]? = some a0 := ⟨vs[0]'(Nat.lt_trans Nat.zero_lt_one (Array.getElem?_eq_some_iff.mp h1).1), Array.getElem?_eq_getElem _⟩
  obtain ⟨a0, h0⟩ := h0
  refine wpAny_noteFrame_onW (base := hideAll g (frs l)) (a0 := a0) hA (frh.fun (fun _ hx => hx) ow.hidden) ow.1 ⟨oe, vs, T, oT, ts, he, ⟨hc, h0⟩, hd, h1, hgT, hTe, hoT, hdT, h3⟩ (fun b o q => ?_) ?_ fun h' x => ?_
  · refine k1 b o (ow.2.2.2.1 b o (of_hideAll _ q)) fun hm => ?_
    obtain ⟨x, hx, hf'⟩ := List.mem_filterMap.mp hm
    rw [ow.hidden x hx b hf'] at q; cases q
  · cases q : (hideAll g (frs l)).get? e with
    | none => rfl
    | some o => have := of_hideAll _ q; rw [hge] at this; cases this
  · have z := held_of fr ((Heap.UpToSlots.of_keeps ow.2.2.2.1).trans k2) hge x
    exact hQ h' z.1 z.2
theorem flight_on {x : Option Addr} (hh : Held g l L e cls s'.heap) (hQ : ∀ h', (KeptBut g l h' ∧ g.get? e = none ∧ ∃ oe vs T oT ts, h'.get? e = some oe ∧ oe.cls = cls ∧ oe.data = .fields vs ∧ vs[1]? = some (.ref T) ∧ g.get? T = none ∧ T ≠ e ∧ h'.get? T = some oT ∧ oT.data = .fields ts ∧ ts[3]? = some (x.elim Value.none fun f => rawInt f)) → s'.heap.UpToSlots h' → Q () { s' with heap := h' }) : wpAny M A (setFlight (.ref e) x) Q E s' := by
  obtain ⟨⟨k1, k2⟩, hge, oe, vs, T, oT, ts, he, hc, hd, h1, hT, hTe, hoT, hdT, h3⟩ := hh
  have h3' := (Array.getElem?_eq_some_iff.mp h3).1
  unfold setFlight
  refine wpAny_bind (wpAny_field he hd h1 ?_)
  rw [if_pos (show (Value.ref T != Value.none) = true from by simp)]
  refine wpAny_setField hoT hdT h3' (hQ _ ⟨⟨fun b o hb hn => ?_, fun b o hb hn => ?_⟩, hge, oe, vs, T, _, _, ?_, hc, hd, h1, hT, hTe, Heap.get?_update_self _ hoT (Obj.isFreed_of_fields (Obj.data_mapFields hdT _)), Obj.data_mapFields hdT _, by simp [h3']⟩ fun b o hb hn => ?_)
  · rw [Heap.get?_update_other _ _ (fun q => by rw [← q, hT] at hb; cases hb)]; exact k1 b o hb hn
  · obtain ⟨sl, hs⟩ := k2 b o hb hn
    exact ⟨sl, by rw [Heap.get?_update_other _ _ (fun q => by rw [← q, hT] at hb; cases hb)]; exact hs⟩
  · rw [Heap.get?_update_other _ _ hTe]; exact he
  · refine ⟨o.slots, ?_⟩
    rw [Heap.get?_update_other _ _ (fun q => by rw [← q, hoT] at hb; cases hb; exact hn _ hdT)]
    exact hb
theorem held_back (hh : Held g l L e cls s'.heap) (hf : env.frame = some L) (hQ : ∀ h', Held g l L e cls h' → s'.heap.UpToSlots h' → Q () { s' with heap := h' }) :
    wpAny M A (do
      if (← field (.ref e) 1) == .none then unsupported "frame.own-activation:exception-without-traceback"
      setFlight (.ref e) env.frame) Q E s' := by
  obtain ⟨_, _, oe, vs, T, oT, ts, he, hc, hd, h1, _⟩ := id hh
  refine wpAny_bind (wpAny_field he hd h1 ?_)
  rw [if_neg (by simp), hf]
  exact flight_on (x := some L) hh hQ
theorem held_leave (hh : Held g l L e cls s'.heap) (hf : env.frame = some L) (hQ : ∀ h', Fly g l e cls h' → s'.heap.UpToSlots h' → Q () { s' with heap := h' }) :
    wpAny M A (leaving env (.ref e)) Q E s' := by
  obtain ⟨_, _, oe, vs, T, oT, ts, he, hc, hd, h1, _, _, hoT, hdT, h3⟩ := id hh
  unfold leaving noteFrame
  simp only [hf]
  refine wpAny_bind (wpAny_bind (wpAny_field he hd h1 ?_))
  rw [if_pos (show (Value.ref T != Value.none) = true from by simp)]
  refine wpAny_bind (wpAny_field hoT hdT h3 ?_)
  rw [if_pos (show (rawInt L == rawInt L) = true from by simp)]
  exact wpAny_pure (flight_on (x := none) hh hQ)
end

-- part gen5
noncomputable def gRe (g₀ : Heap) (l : List Env) (s : Shared) : GenEnd := fun _ _ r s₁ => ∃ e h' tk, r = .error (.ref e) ∧ Fly g₀ l e (.type "ValueError") h' ∧ s₁ = { s with heap := h', toks := tk }
theorem fr_same {g h h' : Heap} {L I : Addr} {m : Str → Option Value} (F : Fr g L h m) (hs : Heap.SameBut I h h') (hL : I ≠ L) (hI : g.get? I = none) : Fr g L h' m := by
  refine ⟨?_, fun b o q => (hs.2 b (fun z => by rw [z] at q; rw [hI] at q; cases q)).trans (F.keep b o q), F.above⟩
  obtain ⟨o, es, ep, ho, r⟩ := F.ns
  exact ⟨o, es, ep, (hs.2 L (Ne.symm hL)).trans ho, r⟩
theorem own_of {g g₀ h : Heap} {L : Addr} {m : Str → Option Value} {env : Env} (F : Fr g L h m) (hn : g₀.get? L = none) (hk : ∀ b o, g₀.get? b = some o → h.get? b = some o) (hf : env.frame = some L) (hm : env.scope.kind ≠ .module) : Own g₀ h env L := by
  obtain ⟨o, es, ep, ho, hd, _⟩ := F.ns
  exact ⟨hf, hm, hn, hk, o, ho, fun vs q => by rw [hd] at q; cases q⟩
theorem note_new {M : Model} {A : Around} {E : Value → Shared → Prop} {s' : Shared} {g h : Heap} {l : List Env} {env : Env} {L e : Addr} {Q : Unit → Shared → Prop} {cls : String} (fr : Frames g l) (hA : A.frames = some (env :: l)) (ow : Own g h env L) (hx : Heap.NewExc h s'.heap e cls)
    (hQ : ∀ h', Held g l L e (.type cls) h' → s'.heap.UpToSlots h' → Q () { s' with heap := h' }) : wpAny M A (noteFrame (.ref e) env) Q E s' := by
  obtain ⟨ob, t, he, hc, hd⟩ := hx.there
  have hge : g.get? e = none := by
    cases q : g.get? e with
    | none => rfl
    | some o => have := ow.2.2.2.1 e o q; rw [hx.new] at this; cases this
  have hfr := ((ow.frames fr).keeps hx.keeps).fun (g := hideAll g (frs l)) (fun _ hx => hx) ow.hidden
  unfold noteFrame
  simp only [ow.1]
  refine wpAny_bind (wpAny_field he hd (x := .none) rfl ?_)
  rw [if_neg (by decide)]
  refine wpAny_entryW (base := hideAll g (frs l)) hA hfr ow.1 he (fun b o q => hx.keeps b o (ow.2.2.2.1 b o (of_hideAll _ q))) ?_ hd (by simp) rfl fun h' x => ?_
  · cases q : (hideAll g (frs l)).get? e with
    | none => rfl
    | some o => have := of_hideAll _ q; rw [hge] at this; cases this
  · rw [hc] at x
    have z := held_of fr (Heap.UpToSlots.of_keeps fun b o q => hx.keeps b o (ow.2.2.2.1 b o q)) hge x
    exact hQ h' z.1 z.2
section
variable {w : World} {mean : ExcName → Option Value} {mg mb : Str → Option Value} {g g₀ : Heap} {Lg a I : Addr} {ss : List Int} {dp : Nat} {l : List Env} {gd : Option (List Code)} {un : Nat}
theorem gen_raise_turn {items : Array Value} {Y : Protocol} {p : Pos} {mm : Str → Option Value} {oI : Obj} {st : Shared} (X : (hd.heap_39 w.params).In g) (T : Top hd.view_39 lo mean mg mb g) (hl : g.IsList a items) (hit : ∃ t, items[0]? = some (Value.int 0 t))
    (n : Nat) (s₀ s : Shared) (F : Fr g Lg s.heap mm) (N : News g Lg s.heap [(I, oI)]) (hx : mm (Str.ofString "last_interval") = some .none) (hI : s.heap.IsListIter I a 0)
    (hfr : Frames g₀ l) (hg : ∀ b o, g₀.get? b = some o → s.heap.get? b = some o) (hn : g₀.get? Lg = none) (hn2 : g₀.get? I = none) (hst : ∃ h tk, s = { st with heap := h, toks := tk }) (hdp : dp + 6 < 900) :
    Seg (model PySem.Challenge.rw_pa0027_01.row.prog w) (AA dp (some l) gd un) (gRe g₀ l st) Y n s₀ (gCode Lg I) ((model PySem.Challenge.rw_pa0027_01.row.prog w).den (gCode Lg I)) [gFr Lg p] s := by
  w_strict (
  revert X T
  k_fill
  intro X T
  obtain ⟨t0, h0⟩ := hit
  obtain ⟨hh, tk, rfl⟩ := hst
  refine seg_forLoop ?_
  refine wpAny_pyNext_list_item hI (items_keep hl F.keep) h0 fun h' hI' hs' => ?_
  have hIL := (N _ (.head _)).2.1
  have hIg := (N _ (.head _)).2.2
  have F8 := fr_if (fr_same F hs' hIL hIg) hx
  obtain ⟨oJ, hoJ, hJ⟩ := hI'
  have N8 := news_all hoJ hIL hIg
  have kp := fun h5 m5 (F5 : Fr g Lg h5 m5) N5 => kept_all (I := I) (o' := oJ) F8 F5 N5
  replace hg : ∀ b o, g₀.get? b = some o → h'.get? b = some o ∧ b ≠ Lg ∧ b ≠ I := fun b o q => by
    have hb : b ≠ I := fun z => by rw [z, hn2] at q; cases q
    have hb2 : b ≠ Lg := fun z => by rw [z, hn] at q; cases q
    exact ⟨(hs'.2 b hb).trans (hg b o q), hb2, hb⟩
  clear F N hI hs'
  refine wpAny_assign_Name (stN F8 N8 fun h2 F9 N9 => ?_)
  clear F8 N8
  dsimp only
  with_unfolding_all refine seg_execs_cons ?_
  refine seg_If ?_
  k_steps
  refine seg_execs_nil ?_
  refine seg_execs_cons ?_
  refine seg_If ?_
  k_steps
  refine seg_execs_cons ?_
  refine seg_If ?_
  k_steps
  refine seg_execs_cons (seg_plain ?_)
  k_steps
  rename_i h3 e hx3
  have ow : Own g₀ h2 (gEnv Lg) Lg := own_of F9 hn (fun b o q => kp _ _ F9 N9 b o (hg b o q).1 (hg b o q).2.1 (hg b o q).2.2) rfl (by intro q; cases q)
  refine seg_wrap (wpAny_bind (note_new hfr rfl ow hx3 fun h4 hd4 _ => wpAny_theTreesLotGoes ?_))
  refine seg_leaf (r := .error (.ref e)) ?_
  show Seg _ _ _ _ _ _ _ (Sem.wrap _ _ _ _ (Sem.onRaise (.raise (.ref e)) _)) _ _
  rw [Sem.onRaise_eq_wrap, Sem.wrap_wrap]
  show Seg _ _ _ _ _ _ _ (Sem.wrap _ _ _ _ (Sem.bind _ _)) _ _
  rw [Sem.bind_eq_wrap, Sem.wrap_wrap]
  refine seg_wrap (held_back hd4 rfl fun h5 hd5 _ => ?_)
  show Seg _ _ _ _ _ _ _ (gHf (gEnv Lg) (.ref e)) _ _
  refine seg_wrap (held_leave hd5 rfl fun h6 hf6 _ => ?_)
  exact seg_end (.error (.ref e)) ⟨e, _, _, rfl, hf6, rfl⟩)
end

-- part gen6
section
variable {w : World} {mean : ExcName → Option Value} {mg mb : Str → Option Value} {g g₀ : Heap} {Lg a : Addr} {dp : Nat} {l : List Env} {gd : Option (List Code)} {un : Nat}
theorem gen_raise {items : Array Value} {Y : Protocol} {st : Shared} (X : (hd.heap_39 w.params).In g) (T : Top hd.view_39 lo mean mg mb g) (hl : g.IsList a items) (hit : ∃ t, items[0]? = some (Value.int 0 t))
    (n : Nat) (s₀ s : Shared) (F : Fr g Lg s.heap (fun y => [(Str.ofString "grouping", Value.ref a)].reverse.lookup y)) (hfr : Frames g₀ l) (hg : ∀ b o, g₀.get? b = some o → s.heap.get? b = some o) (hn : g₀.get? Lg = none) (hst : ∃ h tk, s = { st with heap := h, toks := tk }) (hdp : dp + 6 < 900) :
    Seg (model PySem.Challenge.rw_pa0027_01.row.prog w) (AA dp (some l) gd un) (gRe g₀ l st) Y n s₀ (.func gBody (gEnv Lg)) ((model PySem.Challenge.rw_pa0027_01.row.prog w).den (.func gBody (gEnv Lg))) [] s := by
  w_strict (
  revert X T
  k_fill
  intro X T
  have kp := fun h5 m5 (F5 : Fr g Lg h5 m5) N5 => kept_all0 F F5 N5 fun p hp => hp
  have N := news_all0 (g := g) (h := s.heap) (L := Lg)
  refine seg_func ?_
  with_unfolding_all refine seg_execs_cons (seg_plain ?_)
  k_steps
  rename Fr _ _ _ _ => F5
  rename News _ _ _ _ => N5
  refine seg_execs_cons (seg_For ?_)
  k_steps
  rename Fr _ _ _ _ => F6
  rename News _ _ _ _ => N6
  refine wpAny_pyIter_list (items_keep hl F6.keep) fun p => ?_
  have N7 := N6.push F6 { cls := .type "list_iterator", data := .fields #[.ref a, .int 0 0] }
  have F7 := F6.push { cls := .type "list_iterator", data := .fields #[.ref a, .int 0 0] }
  obtain ⟨hh, tk, rfl⟩ := hst
  have hkeep : ∀ b o, g₀.get? b = some o → _ := fun b o q => kp _ _ F6 N6 b o (hg b o q) (fun z => by rw [z, hn] at q; cases q)
  refine gen_raise_turn (oI := { cls := .type "list_iterator", data := .fields #[.ref a, .int 0 0] }) X T hl hit n s₀ _ F7 ?_ rfl ⟨_, N7.get (.head _), rfl, rfl⟩ hfr (fun b o q => Heap.get?_push_of_some _ (hkeep b o q)) hn ?_ ⟨_, _, rfl⟩ hdp
  (· intro q hq
     obtain rfl := List.mem_singleton.mp hq
     exact N7 _ (.head _))
  (· cases q : g₀.get? _ with
     | none => rfl
     | some o => exact absurd (Heap.lt_size (hkeep _ _ q)) (Nat.lt_irrefl _)))
end

-- part nextg
section
variable {prog : Program} {w : World} {A : Around} {E : Value → Shared → Prop} {s : Shared}
theorem nextG {a : Addr} {g n : Nat} {gs : GenState} {R : GenEnd} {P : Nat → Shared → Shared → Prop} {Y : Protocol} {Q : Option Value → Shared → Prop} (hRP : ∀ n s₀ r s₁, R n s₀ r s₁ → r = .ok (.ret .none) ∧ P n s₀ s₁) (hh : A.handled = none)
    (hl : s.heap.NoLimit) (hroom : A.depth < recursionLimit) (hg : s.heap.IsGen a g) (hgs : s.gens[g]? = some gs)
    (hgo : gs.Goes (model prog w) A.in1 R Y n (.send .none) (s.setGen g .running))
    (hY : ∀ v s₁ gs', gs'.bare = true → Y (n - 1) (s.setGen g .running) v s₁ (fun r' s'' => match n with
        | 0 => False
        | m + 1 => gs'.Goes (model prog w) A.in1 R Y m r' s'') → Q (some v) (s₁.setGen g gs'))
    (hP : ∀ s₁, P n (s.setGen g .running) s₁ → ∀ h', (∀ b o, s₁.heap.get? b = some o → h'.get? b = some o) → Q none { s₁.setGen g .finished with heap := h' }) :
    wpAny (model prog w) A (pyNext (.ref a)) Q E s := by
  unfold pyNext
  refine wpAny_bind (wpAny_attempt (wpAny_callSpecial?_slot (name := Str.ofString "__next__") hg.typeIs slot_gen_next
    (wpAny_call_entry slot_gen_next hg.typeIs entry_gen_next ?_ (args_gen_next _))))
  show wpAny _ A.in1 (Builtin.Generator.genWake (.ref a) (.send .none)) _ _ s
  unfold Builtin.Generator.genWake
  refine wpAny_bind (wpAny_holding (wpAny_genNumber hg (wpAny_bind (wpAny_genState hgs ?_))))
  cases gs with
  | running => exact hgo.elim
  | finished => exact hgo.elim
  | _ =>
    refine wpAny_bind (wpAny_roomToWake hl hroom ?_)
    show wpAny _ A.in1 (.resume g (.send .none) [] _) _ _ s
    refine wpAny_resumeQ hgs hgo (fun x s₁ hx => ?_) (fun v s₁ gs' hb hv => ?_)
    · obtain ⟨rfl, hp⟩ := hRP _ _ _ _ hx
      show wpAny _ A.in1 (newExc (.type "StopIteration") [] >>= _) _ _ _
      refine wpAny_bind ?_
      simp only [newExc, newTuple]
      refine wpAny_bind (wpAny_newObj_type ?_ (by size_fits))
      refine wpAny_bind (m := firstArgMember _ _) (wpAny_of_eq (a := Value.none) (by first | rfl | (simp only [firstArgMember]; rfl)) ?_)
      refine wpAny_newObj_type ?_ (by size_fits)
      simp only [raiseNew]
      refine wpAny_bind (wpAny_bind (wpAny_handled ?_))
      rw [show A.in1.handled = none from hh]
      refine wpAny_throw ?_
      refine wpAny_bind (wpAny_isInstance (T := "StopIteration") (b := true) ⟨_, Heap.get?_push_size _ rfl, rfl⟩ isSubtype_stop ?_)
      exact wpAny_pure (hP s₁ hp _ fun b o hb => Heap.get?_push_of_some _ (Heap.get?_push_of_some _ hb))
    · exact wpAny_pure ⟨v, rfl, wpAny_pure (hY v s₁ gs' hb hv)⟩
theorem nextR {a : Addr} {g n : Nat} {gs : GenState} {R : GenEnd} {Q : Option Value → Shared → Prop}
    (hl : s.heap.NoLimit) (hroom : A.depth < recursionLimit) (hg : s.heap.IsGen a g) (hgs : s.gens[g]? = some gs)
    (hgo : gs.Goes (model prog w) A.in1 R (fun _ _ _ _ _ => False) n (.send .none) (s.setGen g .running))
    (hR : ∀ r s₁, R n (s.setGen g .running) r s₁ → ∃ e oe, r = .error (.ref e) ∧ s₁.heap.IsGen a g ∧ s₁.heap.get? e = some oe ∧ oe.cls = .type "ValueError" ∧ E (.ref e) (s₁.setGen g .finished)) :
    wpAny (model prog w) A (pyNext (.ref a)) Q E s := by
  have hsub : isSubtype (.type "ValueError") (.type "StopIteration") = pure false := by rw [isSubtype_type]; kernel_rfl
  unfold pyNext
  refine wpAny_bind (wpAny_attempt (wpAny_callSpecial?_slot (name := Str.ofString "__next__") hg.typeIs slot_gen_next
    (wpAny_call_entry slot_gen_next hg.typeIs entry_gen_next ?_ (args_gen_next _))))
  show wpAny _ A.in1 (Builtin.Generator.genWake (.ref a) (.send .none)) _ _ s
  unfold Builtin.Generator.genWake
  refine wpAny_bind (wpAny_holding (wpAny_genNumber hg (wpAny_bind (wpAny_genState hgs ?_))))
  cases gs with
  | running => exact hgo.elim
  | finished => exact hgo.elim
  | _ =>
    refine wpAny_bind (wpAny_roomToWake hl hroom ?_)
    show wpAny _ A.in1 (.resume g (.send .none) [] _) _ _ s
    refine wpAny_resumeQ hgs hgo (fun x s₁ hx => ?_) (fun v s₁ gs' hb hv => hv.elim)
    obtain ⟨e, oe, rfl, hg1, he, hc, hE⟩ := hR _ _ hx
    show wpAny _ A.in1 (Builtin.Generator.genLeft (.ref a) (.ref e)) _ _ _
    unfold Builtin.Generator.genLeft Builtin.Generator.madeByALambda
    obtain ⟨o, nm, qn, ho, hcls, hd, hsl⟩ := hg1
    refine wpAny_bind (wpAny_bind (wpAny_load ho (wpAny_pure ?_)))
    simp only [hd]
    refine wpAny_bind (wpAny_isInstance (T := "ValueError") (b := false) ⟨oe, he, hc⟩ hsub ?_)
    rw [if_neg (by simp)]
    unfold Builtin.Generator.genEscaped
    refine wpAny_bind (wpAny_isInstance (T := "ValueError") (b := false) ⟨oe, he, hc⟩ hsub ?_)
    rw [if_pos (by rfl)]
    refine wpAny_throw ?_
    refine wpAny_bind (wpAny_isInstance (T := "ValueError") (b := false) ⟨oe, he, hc⟩ hsub ?_)
    exact wpAny_throw hE
end

-- part callg
section
variable {prog : Program} {w : World} {A : Around} {s : Shared} {K : Frag} {R : Result → Shared → Prop}
theorem enter_gen {name qual : Str} {params : Arguments} {body : List Stmt} {scope : Scope} {dV kV doc pm cdv ct oc : Value} {an od : Option Addr} {osl : Array (Option Value)} {f : Addr} {args : Args} {binds : List (Str × Value)}
    (X : K.In s.heap) (hlim : s.heap.NoLimit)
    (ho : K.lookup f = some ⟨oc, od, .func (fnOf name qual params body scope dV kV doc pm an cdv ct), osl⟩) (hcd : codeIn K cdv qual = true) (hroom : A.depth < recursionLimit)
    (hbind : BindsTo s (fnOf name qual params body scope dV kV doc pm an cdv ct) args binds) (hloc : ∀ y ∈ binds, scope.names.lookup y.1 = some .local)
    (h : ∀ L G h₁ tk, Fr s.heap L h₁ (fun y => binds.reverse.lookup y) → G ≠ L → s.heap.get? G = none → h₁.IsGen G s.gens.size →
      R (.ok (.ret (.ref G))) { s with heap := h₁, toks := tk, gens := s.gens.push (.fresh (.func body (envOf qual scope L f cdv))) })
    (hco : scope.isCoroutine = false) (hgen : scope.isGenerator = true) (hk : scope.kind = .function)
    (hcell : ∀ x ∈ scope.names, x.2 ≠ .cell) : codeAny (model prog w) A (.call (.ref f) args) R s := by
  refine codeAny_call_generator (fd := fnOf name qual params body scope dV kV doc pm an cdv ct) (body := body) hroom (X _ _ ho) rfl hco hgen rfl (codeRec_of X hcd) (hbind _ _ _ _ ?_)
  refine wpAny_newFunctionEnv hcell hloc (fun h₁ hns hsb => ⟨hlim.fresh _ hsb, ?_⟩) hk
  have F : Fr s.heap s.heap.objs.size h₁ (fun y => binds.reverse.lookup y) := ⟨hns, fun b o e => hsb.extBut b o (Nat.ne_of_lt (Heap.lt_size e)) (Heap.get?_push_of_some _ e), Nat.le_refl _⟩
  have hlt : s.heap.objs.size < h₁.objs.size := by obtain ⟨o, _, _, ho, _⟩ := hns; exact Heap.lt_size ho
  refine h s.heap.objs.size h₁.objs.size _ _ (F.push _) (Nat.ne_of_gt hlt) ?_ ⟨_, _, _, Heap.get?_push_size _ rfl, rfl, rfl, rfl⟩
  cases q : s.heap.get? h₁.objs.size with
  | none => rfl
  | some o => exact absurd (Nat.lt_trans (Heap.lt_size q) hlt) (Nat.lt_irrefl _)
end
theorem gen_call : ∀ (w : World) (a : Addr) (mean : ExcName → Option Value) (mg mb : Str → Option Value) (A : Around) (s : Shared) (Q E : Value → Shared → Prop),
    (hd.heap_39 w.params).In s.heap → Top hd.view_39 lo mean mg mb s.heap → A.depth < 900 →
    (∀ L G h₁ tk, Fr s.heap L h₁ (fun y => [(Str.ofString "grouping", Value.ref a)].reverse.lookup y) → G ≠ L → s.heap.get? G = none → h₁.IsGen G s.gens.size →
      Q (.ref G) { s with heap := h₁, toks := tk, gens := s.gens.push (.fresh (.func gBody (gEnv L))) }) →
    wpAny (model PySem.Challenge.rw_pa0027_01.row.prog w) A (call (.ref 28) [.ref a] []) Q E s := by
  w_strict (
  k_fill
  intro w a mean mg mb A s Q E X T hdp h
  refine wpAny_call ?_
  k_dflt (refine' enter_gen ?k3 ?kl ?k6 ?k7 ?k8 ?k9 ?kB ?_ ?c2 ?c3 ?c4 ?c5; (case k3 => k_asm); (case kl => exact Top.nolimit (by assumption)); (case k6 => k_is); (case k7 => k_is); (case k8 => exact Nat.lt_trans hdp (by decide)); (case k9 => first | exact BindsTo.of_eq rfl | exact binds_K (by k_in) rfl (by k_is) rfl rfl rfl); (case c5 => decide); (case kB => exact locs rfl); (case c2 => exact rfl); (case c3 => exact rfl); (case c4 => exact rfl))
  intro L G h₁ tk F hG hg hgen
  exact h L G h₁ tk F hG hg hgen)

-- part cutp
/-- the row cut by the walk over the sizes -/
noncomputable def cutp (ss : List Int) : Nat → GS → List Int → List (List Int)
  | 0, _, _ => []
  | n + 1, st, row => if row = [] then [] else match nxt ss st with
    | some (some (x, st')) => row.take x.toNat :: cutp ss n st' (row.drop x.toNat)
    | _ => [row]
noncomputable def stepS (ss : List Int) (st : GS) : GS := match nxt ss st with | some (some (_, st')) => st' | _ => st
noncomputable def runS (ss : List Int) : Nat → GS
  | 0 => .fresh
  | n + 1 => stepS ss (runS ss n)
noncomputable def stS (ss : List Int) (n₀ m : Nat) : GS := if m ≤ n₀ then runS ss (n₀ - m) else .norm ss.length
theorem stS_top (ss : List Int) (n₀ : Nat) : stS ss n₀ n₀ = .fresh := by simp [stS, runS]
theorem stS_step (ss : List Int) (n₀ : Nat) : ∀ k x st', nxt ss (stS ss n₀ (k + 1)) = some (some (x, st')) → stS ss n₀ k = st' := by
  intro k x st' h
  unfold stS at h ⊢
  by_cases hk : k + 1 ≤ n₀
  · rw [if_pos hk] at h
    rw [if_pos (by omega), show n₀ - k = (n₀ - (k + 1)) + 1 by omega]
    simp only [runS, stepS, h]
  · rw [if_neg hk] at h
    simp [nxt] at h
/-- what the walk yields is positive -/
theorem nxt_pos {ss : List Int} (hp : ∀ x ∈ ss, 0 ≤ x) {B : Int} (hB : ∀ x ∈ ss, x ≤ B) : ∀ n x st', nxt ss (runS ss n) = some (some (x, st')) → 1 ≤ x ∧ x ≤ B := by
  have key : ∀ n, (∀ i, runS ss n = .norm i → ∃ y, ss[i - 1]? = some y ∧ y ≠ 0 ∧ 1 ≤ i) ∧ (∀ v, runS ss n = .inf v → 1 ≤ v ∧ v ≤ B) := by
    intro n
    induction n with
    | zero => exact ⟨fun i h => (by cases h), fun v h => (by cases h)⟩
    | succ n ih =>
      simp only [runS, stepS]
      cases hs : runS ss n with
      | fresh =>
        simp only [nxt]
        cases h0 : ss[0]? with
        | none => exact ⟨fun i h => (by cases h), fun v h => (by cases h)⟩
        | some y =>
          dsimp only
          split
          · next h => split at h <;> (try split at h) <;> cases h <;> exact ⟨fun i q => (by cases q; exact ⟨y, by simpa using h0, by assumption, by omega⟩), fun v q => (by cases q)⟩
          · exact ⟨fun i h => (by cases h), fun v h => (by cases h)⟩
      | norm j =>
        obtain ⟨y0, hy0, hne, hj⟩ := ih.1 j hs
        have hm := List.mem_of_getElem? hy0
        have h1 := hp _ hm
        have h2 := hB _ hm
        have hd : ss.getD (j - 1) 0 = y0 := by rw [List.getD_eq_getElem?_getD, hy0]; rfl
        simp only [nxt]
        cases h0 : ss[j]? with
        | none => exact ⟨fun i h => (by cases h; exact ⟨y0, hy0, hne, hj⟩), fun v h => (by cases h)⟩
        | some y =>
          dsimp only
          split
          · next h =>
            split at h
            · cases h
            · split at h
              · cases h
                exact ⟨fun i q => (by cases q), fun v q => (by cases q; rw [hd]; constructor <;> omega)⟩
              · cases h
                exact ⟨fun i q => (by cases q; exact ⟨y, by simpa using h0, by assumption, by omega⟩), fun v q => (by cases q)⟩
          · exact ⟨fun i h => (by cases h; exact ⟨y0, hy0, hne, hj⟩), fun v h => (by cases h)⟩
      | inf v => exact ⟨fun i h => (by cases h), fun u h => (by cases h; exact ih.2 v hs)⟩
  intro n x st' h
  cases hs : runS ss n with
  | fresh =>
    rw [hs] at h
    simp only [nxt] at h
    cases h0 : ss[0]? with
    | none => rw [h0] at h; cases h
    | some y =>
      rw [h0] at h
      have hm := List.mem_of_getElem? h0
      have h1 := hp _ hm
      have h2 := hB _ hm
      dsimp only at h
      split at h
      · cases h
      · split at h
        · cases h
        · cases h; constructor <;> omega
  | norm j =>
    obtain ⟨y0, hy0, hne, hj⟩ := (key n).1 j hs
    have hm0 := List.mem_of_getElem? hy0
    have h10 := hp _ hm0
    have h20 := hB _ hm0
    have hd : ss.getD (j - 1) 0 = y0 := by rw [List.getD_eq_getElem?_getD, hy0]; rfl
    rw [hs] at h
    simp only [nxt] at h
    cases h0 : ss[j]? with
    | none => rw [h0] at h; cases h
    | some y =>
      rw [h0] at h
      have hm := List.mem_of_getElem? h0
      have h1 := hp _ hm
      have h2 := hB _ hm
      dsimp only at h
      split at h
      · cases h
      · split at h
        · cases h; rw [hd]; constructor <;> omega
        · cases h; constructor <;> omega
  | inf v =>
    have hv := (key n).2 v hs
    rw [hs] at h
    cases h
    exact hv

-- part cutm

local macro_rules | `(tactic| walk_at "mine to try") => `(tactic| repeat' (first | (k_unfold; (try dsimp only)) | ((fail_if_success (with_reducible refine at_try ?_)); first | walk1 | (dsimp only; walk1)) | fail "no step"))
local macro_rules | `(tactic| k_all) => `(tactic| assumption)

-- part cut
inductive BsAre : List Value → List (List Int) → Prop
  | nil : BsAre [] []
  | cons (b : Array UInt8) (t : Tok) {vs ns} : BsAre vs ns → BsAre (.bytes b t :: vs) (KBw.bInts b :: ns)
noncomputable def cutBody : List Stmt := match PySem.Challenge.pw_pa0027_01.main.body.reverse with
  | _ :: _ :: _ :: .FunctionDef _ _ b _ _ _ _ _ _ _ :: _ => b | _ => []
noncomputable def cutLoop : List Stmt := match cutBody with | [_, .Try [.For _ _ b _ _] _ _ _ _, _] => b | _ => []
noncomputable def cutStmt : Stmt := match PySem.Challenge.pw_pa0027_01.main.body.reverse with | _ :: _ :: _ :: st :: _ => st | _ => .Pass ⟨0, 0, 0, 0⟩
noncomputable def cScope : Scope := match cutStmt with | .FunctionDef _ _ _ _ _ _ sc _ _ _ => sc | _ => default
noncomputable abbrev cEnv (L : Addr) : Env := envOf (Str.ofString "_law_cut") cScope L 132 (.ref 131)
theorem clip_min {n : Nat} {x : Int} (hx : 0 ≤ x) : clipAt n x = min x.toNat n := by
  unfold clipAt
  rw [if_neg (by omega)]
  omega
theorem clip_take {ks : List Int} {x : Int} (hx : 0 ≤ x) : ks.take (clipAt ks.length x) = ks.take x.toNat := by
  rw [clip_min hx]
  by_cases h : x.toNat ≤ ks.length
  · rw [Nat.min_eq_left h]
  · rw [Nat.min_eq_right (by omega), List.take_length, List.take_of_length_le (by omega)]
theorem clip_drop {ks : List Int} {x : Int} (hx : 0 ≤ x) : (ks.drop (clipAt ks.length x)).take (ks.length - clipAt ks.length x) = ks.drop x.toNat := by
  rw [List.take_of_length_le (by simp), clip_min hx]
  by_cases h : x.toNat ≤ ks.length
  · rw [Nat.min_eq_left h]
  · rw [Nat.min_eq_right (by omega), List.drop_length, List.drop_of_length_le (by omega)]
section
variable {w : World} {mean : ExcName → Option Value} {mg mb : Str → Option Value} {g : Heap} {L P : Addr} {dp : Nat} {fr : Option (List Env)} {gd : Option (List Code)} {un : Nat}
theorem cut_body {rb : Array UInt8} {tr tx : Tok} {x : Int} {vs : List Value} {n : Nat} {own : List (Addr × Obj)} {mm : Str → Option Value} {E : Value → Shared → Prop} (X : (hd.heap_39 w.params).In g) (T : Top hd.view_39 lo mean mg mb g) (s : Shared)
    (F : Fr g L s.heap mm) (N : News g L s.heap ((P, W.listOf vs.toArray n) :: own)) (h1 : mm (Str.ofString "row") = some (.bytes rb tr)) (h2 : mm (Str.ofString "parts") = some (.ref P)) (h3 : mm (Str.ofString "size") = some (.int x tx))
    (hx1 : 1 ≤ x) (hx2 : x ≤ 1000) {ks : List Int} (hb : KBw.bInts rb = ks) (hr : ks.length ≤ 200) (hv : vs.length ≤ 400) (hoff : ∀ q ∈ own, q.1 ≠ P) (hdp : dp + 7 < 850) :
    wpAny (model PySem.Challenge.rw_pa0027_01.row.prog w) ((AA dp fr gd un).deeper (cEnv L)) (execs cutLoop (cEnv L)) (fun f s₃ =>
      (f = .brk ∧ ks = [] ∧ ∃ tk, s₃ = { s with toks := tk }) ∨ (f = .next ∧ ks ≠ [] ∧ ∃ h' tk m' rb' tr' pb pt n', s₃ = { s with heap := h', toks := tk } ∧ Fr g L h' m' ∧ m' (Str.ofString "row") = some (.bytes rb' tr') ∧ m' (Str.ofString "parts") = some (.ref P) ∧
        News g L h' ((P, W.listOf (vs ++ [Value.bytes pb pt]).toArray n') :: own) ∧ KBw.bInts pb = ks.take x.toNat ∧ KBw.bInts rb' = ks.drop x.toNat)) E s := by
  w_strict (
  revert X T
  k_fill
  intro X T
  have F1 := fr_if (fr_if (fr_if F h1) (v := .ref P) (k := Str.ofString "parts") h2) (v := .int x tx) (k := Str.ofString "size") h3
  with_unfolding_all refine wpAny_execs_cons ?_
  clear F
  k_steps
  (· rename Fr _ _ _ _ => F2
     rename News _ _ _ _ => N2
     rename_i q _ _ _ _ k1 _ _ _ _ k2 _
     rw [List.push_toArray] at N2
     exact .inr ⟨rfl, (by intro z; rw [z] at q; exact absurd q (Nat.lt_irrefl _)), _, _, _, _, _, _, _, _, rfl, F2, rfl, rfl, N2, k1.trans (clip_take (by omega)), k2.trans (clip_drop (by omega))⟩)
  (· rename_i q
     exact .inl ⟨rfl, List.eq_nil_of_length_eq_zero (by omega), _, rfl⟩))
end

-- part cut2
theorem GH.fr {g : Heap} {Lg I a : Addr} {ss : List Int} {h : Heap} {st : GS} (x : GH g Lg I a ss h st) : ∃ m, Fr g Lg h m := by
  cases st with
  | fresh => exact ⟨_, x⟩
  | norm i => obtain ⟨m, _, _, F, _⟩ := x; exact ⟨m, F⟩
  | inf v => obtain ⟨m, _, F, _⟩ := x; exact ⟨m, F⟩
theorem fr_at {g h h' : Heap} {L : Addr} {m : Str → Option Value} (F : Fr g L h m) (hk : ∀ b o, g.get? b = some o → h'.get? b = some o) (hL : ∀ o, h.get? L = some o → h'.get? L = some o) : Fr g L h' m := by
  obtain ⟨o, es, ep, ho, r⟩ := F.ns
  exact ⟨⟨o, es, ep, hL o ho, r⟩, hk, F.above⟩
/-- the generator's things stay when all but two others' stay -/
theorem GH.move {g : Heap} {Lg I a L P : Addr} {ss : List Int} {h h' : Heap} {st : GS} {m : Str → Option Value} {vs : Array Value} {n : Nat} (x : GH g Lg I a ss h st) (hg : ∀ b o, g.get? b = some o → h'.get? b = some o)
    (hk : ∀ b o, h.get? b = some o → b ≠ L → b ≠ P → h'.get? b = some o) (h1 : Lg ≠ L) (h2 : Lg ≠ P) (hL : h.Ns L m) (hP : h.get? P = some (W.listOf vs n)) : GH g Lg I a ss h' st := by
  have hLg := fun o (q : h.get? Lg = some o) => hk Lg o q h1 h2
  cases st with
  | fresh => exact fr_at x hg hLg
  | norm i =>
    obtain ⟨m, t, oI, F, hx, hi, N, o, ho, hc, hd⟩ := x
    have hIL : I ≠ L := fun q => by
      subst q
      obtain ⟨o', es, ep, ho', hd', _⟩ := hL
      rw [ho] at ho'; cases ho'; rw [hd] at hd'; cases hd'
    have hIP : I ≠ P := fun q => by
      subst q
      rw [ho] at hP; cases hP; exact absurd hc (by simp [W.listOf])
    refine ⟨m, t, oI, fr_at F hg hLg, hx, hi, fun q hq => ?_, o, hk _ _ ho hIL hIP, hc, hd⟩
    obtain rfl := List.mem_singleton.mp hq
    have z := N _ (.head _)
    exact ⟨hk _ _ z.1 hIL hIP, z.2⟩
  | inf v =>
    obtain ⟨m, t, F, hx⟩ := x
    exact ⟨m, t, fr_at F hg hLg, hx⟩
theorem bare_set {s s₁ : Shared} {gi : Nat} {gs gs' : GenState} (h : s.gens[gi]? = some gs) (hs : s₁.gens = (s.setGen gi .running).gens) (hb : gs'.bare = true) (x : AllBare s.gens) : AllBare (s₁.setGen gi gs').gens := by
  have h1 : (s.setGen gi .running).gens[gi]? = some .running := setGen_self h
  have h2 : s₁.gens[gi]? = some .running := by rw [hs]; exact h1
  have e : GenOnly gi s.gens (s₁.setGen gi gs').gens := by
    have := GenOnly.setGen s₁ gi gs'
    rw [hs] at this
    exact (GenOnly.setGen s gi .running).trans this
  exact x.moved (GenOnlyQ.of e (setGen_self h2) hb)
theorem BsAre.snoc {vs : List Value} {ns : List (List Int)} (x : BsAre vs ns) (b : Array UInt8) (t : Tok) : BsAre (vs ++ [.bytes b t]) (ns ++ [KBw.bInts b]) := by
  induction x with
  | nil => exact .cons b t .nil
  | cons c u _ ih => exact .cons c u ih
section
variable {w : World} {mean : ExcName → Option Value} {mg mb : Str → Option Value} {g : Heap} {L P G Lg a : Addr} {gi : Nat} {dp : Nat} {fr : Option (List Env)} {gd : Option (List Code)} {un : Nat} {ss : List Int} {n₀ : Nat}
/-- where the loop over the sizes stands -/
noncomputable def CutInv (w : World) (A : Around) (g : Heap) (L P G Lg a : Addr) (gi : Nat) (ss : List Int) (n₀ : Nat) (RES : List (List Int)) (s : Shared) (n : Nat) (s' : Shared) : Prop :=
  ∃ h tk gn gs rb tr ks vs n' pieces mm I, s' = { s with heap := h, toks := tk, gens := gn } ∧ Fr g L h mm ∧ mm (Str.ofString "row") = some (.bytes rb tr) ∧ mm (Str.ofString "parts") = some (.ref P) ∧
    h.get? P = some (W.listOf vs.toArray n') ∧ h.IsGen G gi ∧ gn[gi]? = some gs ∧ (AllBare s.gens → AllBare gn) ∧ KBw.bInts rb = ks ∧ BsAre vs pieces ∧ vs.length + ks.length ≤ 200 ∧ ks.length < n ∧ n ≤ n₀ + 1 ∧
    pieces ++ cutp ss n (stS ss n₀ (n - 1)) ks = RES ∧ GH g Lg I a ss h (stS ss n₀ (n - 1)) ∧
    ∀ s'', GH g Lg I a ss s''.heap (stS ss n₀ (n - 1)) → gs.Goes (model PySem.Challenge.rw_pa0027_01.row.prog w) A (gR g Lg a ss (stS ss n₀)) (gY g Lg a ss (stS ss n₀)) n (.send .none) s''
theorem cut_loop {px : Pos} {RES : List (List Int)} {R : Result → Shared → Prop} {s s' : Shared} (X : (hd.heap_39 w.params).In g) (T : Top hd.view_39 lo mean mg mb g)
    (hp : ∀ x ∈ ss, 0 ≤ x) (hB : ∀ x ∈ ss, x ≤ 1000) (hLP : P ≠ L) (hgP : g.get? P = none) (h1 : Lg ≠ L) (h2 : Lg ≠ P) (hGL : G ≠ L) (hGP : G ≠ P) (hGg : G ≠ Lg) (hdp : dp + 7 < 850)
    (hR : ∀ h tk gn rb tr ks vs n' pieces mm, Fr g L h mm → mm (Str.ofString "row") = some (.bytes rb tr) → mm (Str.ofString "parts") = some (.ref P) → h.get? P = some (W.listOf vs.toArray n') → (AllBare s.gens → AllBare gn) →
      KBw.bInts rb = ks → BsAre vs pieces → vs.length + ks.length ≤ 200 → pieces ++ (if ks = [] then [] else [ks]) = RES → R (.ok .next) { s with heap := h, toks := tk, gens := gn })
    (n : Nat) (I : CutInv w ((AA dp fr gd un).deeper (cEnv L)).in1 g L P G Lg a gi ss n₀ RES s n s') :
    codeAny (model PySem.Challenge.rw_pa0027_01.row.prog w) ((AA dp fr gd un).deeper (cEnv L)) (.forLoop (.Name (Str.ofString "size") px) (.ref G) cutLoop [] (cEnv L)) R s' := by
  refine codeAny_forLoop (CutInv w ((AA dp fr gd un).deeper (cEnv L)).in1 g L P G Lg a gi ss n₀ RES s) (fun n s' hI => ?_) n I
  obtain ⟨h, tk, gn, gs, rb, tr, ks, vs, n', pieces, mm, I, rfl, F, hrow, hparts, hPo, hG, hgs, hbare, hks, hbs, hlen, hn, hn0, hres, hgh, hgo⟩ := hI
  obtain ⟨m, rfl⟩ : ∃ m, n = m + 1 := ⟨n - 1, by omega⟩
  rw [Nat.add_sub_cancel] at hres hgh hgo
  have hst : stS ss n₀ m = runS ss (n₀ - m) := by unfold stS; rw [if_pos (by omega)]
  refine nextG (R := gR g Lg a ss (stS ss n₀)) (Y := gY g Lg a ss (stS ss n₀)) (n := m + 1) (P := fun n s₀ s₁ => nxt ss (stS ss n₀ (n - 1)) = some none ∧ KeptG Lg a s₀ s₁ ∧ ∀ b o, g.get? b = some o → s₁.heap.get? b = some o) (fun n s₀ r s₁ x => x) rfl ((Top.nolimit T).keeps F.keep) (by show dp + 1 < 1000; omega) hG hgs (hgo _ hgh) (fun v s₁ gs' hb hv => ?_) (fun s₁ hv h' hk' => ?_)
  · obtain ⟨I', x, t, st', hnx, rfl, ⟨h1', tk1, rfl, hk1⟩, gh1, prom⟩ := hv
    rw [Nat.add_sub_cancel] at hnx
    have hx := nxt_pos hp hB _ _ _ (hst ▸ hnx)
    obtain ⟨mg1, Fg1⟩ := gh1.fr
    have F1 : Fr g L h1' mm := fr_at F Fg1.keep fun o q => hk1 L o q (Ne.symm h1) fun i ⟨o', ho', _, hd'⟩ => by
      obtain ⟨o2, es, ep, ho2, hd2, _⟩ := F.ns
      rw [show h.get? L = some o' from ho'] at ho2; cases ho2; rw [hd'] at hd2; cases hd2
    have hP1 : h1'.get? P = some (W.listOf vs.toArray n') := hk1 P _ hPo (Ne.symm h2) fun i ⟨o', ho', hc', _⟩ => by
      rw [show h.get? P = some o' from ho'] at hPo; cases hPo; exact absurd hc' (by simp [W.listOf])
    have hG1 : h1'.IsGen G gi := by
      obtain ⟨o, nm, qn, ho, hc, r⟩ := hG
      exact ⟨o, nm, qn, hk1 G o ho hGg fun i ⟨o', ho', hc', _⟩ => (by
        rw [show h.get? G = some o' from ho'] at ho; cases ho; rw [hc] at hc'; exact absurd hc' (by simp)), hc, r⟩
    refine wpAny_assign_Name (stN F1 (news_all hP1 hLP hgP) fun h2' F2 N2 => ?_)
    refine wpAny_mono (cut_body (P := P) X T _ F2 N2 ((if_neg (by decide)).trans hrow) ((if_neg (by decide)).trans hparts) (if_pos rfl) hx.1 hx.2 hks (by omega) (by omega) (fun q hq => (mem_allOf.mp hq).2.2.1) hdp) (fun f s₃ hf => ?_) fun _ _ x => x
    rcases hf with ⟨rfl, rfl, tk3, rfl⟩ | ⟨rfl, hne, h3, tk3, m3, rb', tr', pb, pt, n3, rfl, F3, hrow3, hparts3, N3, hpb, hrb⟩
    · refine hR _ _ _ rb tr [] vs n' pieces _ F2 ((if_neg (by decide)).trans hrow) ((if_neg (by decide)).trans hparts) (N2.get (.head _)) ?_ hks hbs hlen ?_
      · exact fun x => bare_set (s := { s with heap := h, toks := tk, gens := gn }) hgs rfl hb (hbare x)
      · simpa [cutp] using hres
    · have kp := kept_all F1 F3 N3
      have hpos : 0 < ks.length := List.length_pos_iff.mpr hne
      have hm : 0 < m := by omega
      have hdl : (ks.drop x.toNat).length < ks.length := by rw [List.length_drop]; omega
      have hstm : stS ss n₀ (m - 1) = st' := stS_step ss n₀ (m - 1) x st' (by rw [show m - 1 + 1 = m by omega]; exact hnx)
      refine ⟨m, Nat.lt_succ_self _, h3, tk3, _, gs', rb', tr', _, _, n3, _, m3, I', rfl, F3, hrow3, hparts3, N3.get (.head _), ?_, ?_, ?_, hrb, hbs.snoc pb pt, ?_, ?_, by omega, ?_, ?_, ?_⟩
      · obtain ⟨o, nm, qn, ho, r⟩ := hG1
        exact ⟨o, nm, qn, kp G o ho hGL hGP, r⟩
      · exact setGen_self (s := { s with gens := (gn.setIfInBounds gi .running) }) (setGen_self (s := { s with gens := gn }) hgs)
      · exact fun x => bare_set (s := { s with heap := h, toks := tk, gens := gn }) hgs rfl hb (hbare x)
      · rw [List.length_append, List.length_singleton]; omega
      · omega
      · rw [hstm, ← hres, hpb, List.append_assoc]
        congr 1
        simp only [cutp, if_neg hne, hnx]
        rfl
      · rw [hstm]; exact gh1.move F3.keep kp h1 h2 F1.ns hP1
      · rw [hstm]; exact fun s'' q => prom hm s'' q
  · obtain ⟨hnx, ⟨h1', tk1, rfl, hk1⟩, hgk⟩ := hv
    rw [Nat.add_sub_cancel] at hnx
    have F1 : Fr g L h' mm := fr_at F (fun b o q => hk' _ _ (hgk b o q)) fun o q => hk' _ _ (hk1 L o q (Ne.symm h1) fun i ⟨o', ho', _, hd'⟩ => by
      obtain ⟨o2, es, ep, ho2, hd2, _⟩ := F.ns
      rw [show h.get? L = some o' from ho'] at ho2; cases ho2; rw [hd'] at hd2; cases hd2)
    have hP1 : h'.get? P = some (W.listOf vs.toArray n') := hk' _ _ (hk1 P _ hPo (Ne.symm h2) fun i ⟨o', ho', hc', _⟩ => by
      rw [show h.get? P = some o' from ho'] at hPo; cases hPo; exact absurd hc' (by simp [W.listOf]))
    refine wpAny_execs_nil ?_
    refine hR _ _ _ rb tr ks vs n' pieces _ F1 hrow hparts hP1 ?_ hks hbs hlen ?_
    · exact fun x => bare_set (s := { s with heap := h, toks := tk, gens := gn }) hgs rfl rfl (hbare x)
    · simpa [cutp, hnx] using hres
end

-- part cut3
theorem ne_of_none {h : Heap} {x y : Addr} {o : Obj} (hx : h.get? x = none) (hy : h.get? y = some o) : x ≠ y := fun q => by rw [q, hy] at hx; cases hx
noncomputable def KeepsG (s s' : Shared) : Prop := ∃ h' tk gn, s' = { s with heap := h', toks := tk, gens := gn } ∧ (∀ b o, s.heap.get? b = some o → h'.get? b = some o) ∧ (AllBare s.gens → AllBare gn)
theorem law_cut : ∀ (w : World) (b : Array UInt8) (ks : List Int) (t : Tok) (a : Addr) (ss : List Int) (items : Array Value), KBw.bInts b = ks → ks.length ≤ 200 → (∀ x ∈ ss, 0 ≤ x) → (∀ x ∈ ss, x ≤ 1000) → ss[0]? ≠ some 0 →
    (∀ i : Nat, ss[i]? = none ∧ items[i]? = none ∨ ∃ x t, ss[i]? = some x ∧ items[i]? = some (Value.int x t)) →
    ∀ (mean : ExcName → Option Value) (mg mb : Str → Option Value) (dp : Nat) (fr : Option (List Env)) (gd : Option (List Code)) (un : Nat) (s : Shared) (Q E : Value → Shared → Prop),
    (hd.heap_39 w.params).In s.heap → Top hd.view_39 lo mean mg mb s.heap → dp + 7 < 850 → un + 80 < 9000 → s.heap.IsList a items →
    (∀ p vs n' s', BsAre vs (cutp ss (ks.length + 1) .fresh ks) → s'.heap.get? p = some (W.listOf vs.toArray n') → s.heap.get? p = none → KeepsG s s' → Q (.ref p) s') →
    wpAny (model PySem.Challenge.rw_pa0027_01.row.prog w) (AA dp fr gd un) (call (.ref 132) [.bytes b t, .ref a] []) Q E s := by
  w_strict (
  k_fill
  intro w b ks t a ss items hb hl hp hB h0 hit mean mg mb dp fr gd un s Q E X T hdp hun hlist hQ
  walk_at "mine enter"
  intro L h1 F N; (try dsimp only)
  walk_at "mine to try"
  rename Fr _ _ _ _ => kF
  rename News _ _ _ _ => kN
  refine exec_try (wpAny_execs_cons (wpAny_For ?_))
  k_steps
  rename Fr _ _ _ _ => kF
  rename News _ _ _ _ => kN
  refine gen_call w a mean mg mb _ _ _ _ (X.keeps kF.keep) (Top.keeps T kF.keep) (by show dp + 1 < 900; omega) ?_
  intro Lg G h2 tk2 F2 hGL hGn hgen
  have F3 := kF.keptAll F2.keep
  have N3 := kN.grown F2.keep
  have hLn := Heap.lt_size (show _ = some _ from (kF.ns).choose_spec.choose_spec.choose_spec.1)
  have hLg : L ≠ Lg := Nat.ne_of_lt (Nat.lt_of_lt_of_le hLn F2.above)
  have hPz := kN _ (.head _)
  have hPlt := Heap.lt_size hPz.1
  have hPg := Nat.ne_of_lt (Nat.lt_of_lt_of_le hPlt F2.above)
  have hGLn : G ≠ L := fun q => by
    obtain ⟨o, _, _, ho, _⟩ := kF.ns
    rw [← q, hGn] at ho; cases ho
  have hGP := ne_of_none hGn hPz.1
  have Fg : Fr s.heap Lg h2 _ := ⟨F2.ns, fun b o q => F2.keep _ _ (kF.keep _ _ q), Nat.le_trans kF.above (Nat.le_trans (Nat.le_of_lt hLn) F2.above)⟩
  refine wpAny_pyIter_gen hgen ?_
  have hP3 := N3 _ (.head _)
  have F4 := fr_if (fr_if F3 (k := Str.ofString "row") (v := .bytes b t) rfl) (k := Str.ofString "parts") (v := .ref _) rfl
  clear F3 kF kN F2
  with_unfolding_all refine' cut_loop (G := G) (Lg := Lg) (a := a) (gi := s.gens.size) (ss := ss) (n₀ := ks.length) (RES := cutp ss (ks.length + 1) .fresh ks) (s := s) X T hp hB hP3.2.1 hP3.2.2 (Ne.symm hLg) (Ne.symm hPg) hGLn hGP hGL hdp ?hR (ks.length + 1) ?hI
  (case hI =>
    refine ⟨_, _, _, .fresh (.func gBody (gEnv Lg)), b, t, ks, [], 0, [], _, 0, rfl, F4, rfl, rfl, hP3.1, hgen, ?_, fun x => x.push rfl, hb, .nil, by simpa using hl, Nat.lt_succ_self _, Nat.le_refl _, ?_, ?_, ?_⟩
    (· exact Array.getElem?_push_size ..)
    (· rw [Nat.add_sub_cancel, stS_top]; rfl)
    (· rw [Nat.add_sub_cancel, stS_top]; exact Fg)
    (· rw [Nat.add_sub_cancel, stS_top]
       intro s'' hgh
       exact ⟨rfl, gen_fresh X T hlist hit (stS_step ss ks.length) h0 ks.length s'' s'' hgh (stS_top ss ks.length) .refl⟩))
  clear F4 N3 hP3
  intro h3 tk3 gn rb tr kr vs n' pieces mm F5 hrow hparts hPo hbare hkr hbs hlen hres
  clear Fg
  have F6 := fr_if (fr_if F5 hrow) ((if_neg (by decide)).trans hparts)
  clear F5
  dsimp only at hPo hPz F6
  have N6 : News s.heap L h3 [(_, W.listOf vs.toArray n')] := fun q hq => by
    obtain rfl := List.mem_singleton.mp hq
    exact ⟨hPo, hPz.2⟩
  clear hPo hPz
  dsimp only
  k_steps
  (· rename_i q _ _ _ _ _ _ FF NN
     have hne : kr ≠ [] := fun z => by rw [z] at q; exact absurd q (Nat.lt_irrefl _)
     rw [if_neg hne] at hres
     have hz := NN _ (.head _)
     refine hQ _ (vs ++ [.bytes rb tr]) 0 _ ?_ ?_ hz.2.2 ⟨_, _, _, rfl, FF.keep, hbare⟩
     (· rw [← hres, ← hkr]; exact hbs.snoc rb tr)
     (· refine hz.1.trans ?_
        simp [W.listOf]))
  (· rename_i q
     have hz := N6 _ (.head _)
     have hnil : kr = [] := List.eq_nil_of_length_eq_zero (by omega)
     rw [if_pos hnil, List.append_nil] at hres
     exact hQ _ vs n' _ (hres ▸ hbs) hz.1 hz.2.2 ⟨_, _, _, rfl, F6.keep, hbare⟩))

-- part cut4
theorem law_cut0 : ∀ (w : World) (b : Array UInt8) (ks : List Int) (t : Tok) (a : Addr) (items : Array Value), KBw.bInts b = ks → ks.length ≤ 200 → (∃ t, items[0]? = some (Value.int 0 t)) →
    ∀ (mean : ExcName → Option Value) (mg mb : Str → Option Value) (dp : Nat) (l : List Env) (gd : Option (List Code)) (un : Nat) (s : Shared) (gr : Heap) (Q E : Value → Shared → Prop),
    (hd.heap_39 w.params).In s.heap → Top hd.view_39 lo mean mg mb s.heap → dp + 7 < 850 → un + 80 < 9000 → s.heap.IsList a items →
    Frames s.heap l → (hd.heap_39 w.params).In gr → Top hd.view_39 lo mean mg mb gr → (∀ b o, gr.get? b = some o → s.heap.get? b = some o ∧ b ∉ frs l) → gr.objs.size ≤ s.heap.objs.size →
    (∀ h' tk gn, KeptBut s.heap l h' → (AllBare s.gens → AllBare gn) → Q .none { s with heap := h', toks := tk, gens := gn }) →
    wpAny (model PySem.Challenge.rw_pa0027_01.row.prog w) (AA dp (some l) gd un) (call (.ref 132) [.bytes b t, .ref a] []) Q E s := by
  w_strict (
  k_fill
  intro w b ks t a items hb hl hit mean mg mb dp l gd un s gr Q E X T hdp hun hlist hfr X0 T0 hg hz hQ
  walk_at "mine enter"
  intro L h1 F N; (try dsimp only)
  walk_at "mine to try"
  rename Fr _ _ _ _ => kF
  rename News _ _ _ _ => kN
  refine exec_try (wpAny_execs_cons (wpAny_For ?_))
  k_steps
  rename Fr _ _ _ _ => kF
  rename News _ _ _ _ => kN
  refine gen_call w a mean mg mb _ _ _ _ (X.keeps kF.keep) (Top.keeps T kF.keep) (by show dp + 1 < 900; omega) ?_
  intro Lg G h2 tk2 F2 hGL hGn hgen
  have F3 := kF.keptAll F2.keep
  have hLn := Heap.lt_size (show _ = some _ from (kF.ns).choose_spec.choose_spec.choose_spec.1)
  have hLg : L ≠ Lg := Nat.ne_of_lt (Nat.lt_of_lt_of_le hLn F2.above)
  have Fg : Fr s.heap Lg h2 _ := ⟨F2.ns, fun b o q => F2.keep _ _ (kF.keep _ _ q), Nat.le_trans kF.above (Nat.le_trans (Nat.le_of_lt hLn) F2.above)⟩
  have hsLg : s.heap.get? Lg = none := fr_new Fg
  have hsL : s.heap.get? L = none := fr_new kF
  clear kF kN F2
  -- the ground: all but the generator's frame
  have hgk : ∀ b o, (hideAll h2 [Lg]).get? b = some o → h2.get? b = some o := fun b o q => of_hideAll _ q
  have hgi : ∀ b o, h2.get? b = some o → b ≠ Lg → (hideAll h2 [Lg]).get? b = some o := fun b o q z => hideAll_get _ q (by simpa using z)
  have F4 : Fr s.heap L (hideAll h2 [Lg]) _ := fr_at F3 (fun b o q => hgi b o (F3.keep b o q) fun z => by rw [z, hsLg] at q; cases q) (fun o q => hgi L o q hLg)
  have hfr4 : Frames (hideAll h2 [Lg]) (_ :: l) := hfr.push (env := cEnv L) F4 rfl (by intro q; cases q)
  have hGi : (hideAll h2 [Lg]).IsGen G s.gens.size := by
    obtain ⟨o, nm, qn, ho, r⟩ := hgen
    exact ⟨o, nm, qn, hgi G o ho hGL, r⟩
  refine wpAny_pyIter_gen hgen ?_
  refine codeAny_forLoop (fun n s' => s' = _) (fun n s' hs' => ?_) 0 rfl
  subst hs'
  refine nextR (R := gRe (hideAll h2 [Lg]) (cEnv L :: l) (Shared.setGen { s with gens := s.gens.push (.fresh (.func gBody (gEnv Lg))) } s.gens.size .running)) (n := 1) ((Top.nolimit T).keeps F3.keep) (by show dp + 1 < 1000; omega) hgen (Array.getElem?_push_size ..) ⟨rfl, gen_raise X T hlist hit 1 _ _ Fg hfr4 hgk (hideAll_none _ (by simp)) ⟨_, _, rfl⟩ (by show dp + 1 + 6 < 900; omega)⟩ (fun r s₁ hr => ?_)
  obtain ⟨e, h5, tk5, rfl, fl, rfl⟩ := hr
  obtain ⟨oe, vs, T', oT, ts, he, hc, hrest⟩ := fl.2.2
  refine ⟨e, oe, rfl, ?_, he, hc, ?_⟩
  (· obtain ⟨o, nm, qn, ho, hc', hd', r⟩ := hGi
     exact ⟨o, nm, qn, fl.1.1 G o ho (fun q => by
       obtain ⟨o2, ho2, hd2⟩ := hfr4.mem q
       rw [ho] at ho2; cases ho2; exact hd2 _ hd'), hc', hd', r⟩)
  have ow : Own s.heap (hideAll h2 [Lg]) (cEnv L) L := own_of F4 hsL F4.keep rfl (by intro q; cases q)
  unfold notedBy
  refine note_on hfr rfl ow fl fun h6 hd6 hu6 => ?_
  unfold cameBackBy
  refine held_back hd6 rfl fun h7 hd7 hu7 => ?_
  refine held_leave hd7 rfl fun h8 fl8 hu8 => ?_
  have hup : (hideAll h2 [Lg]).UpToSlots h8 := ((fl.1.2.trans hu6).trans hu7).trans hu8
  have F8 := fr_ground F4 hup fl8.1 hg hz
  have N8 : News gr L h8 [] := News.nil
  refine handle_by (by intro q; cases q) ?_
  clear F3 F4 Fg
  have X8 : (hd.heap_39 w.params).In h8 := X0.keeps F8.keep
  obtain ⟨oe8, vs8, T8, oT8, ts8, he8, hc8, hrest8⟩ := fl8.2.2
  k_steps
  refine wpAny_excMatches_type (X := "ValueError") ⟨oe8, he8, hc8⟩ (by rw [isSubtype_type]; kernel_rfl) (by rw [isSubtype_type]; kernel_rfl) (by rw [isSubtype_type]; kernel_rfl) ⟨rfl, ?_⟩
  refine fly_lands fl8 fun h9 hk9 hu9 => ?_
  refine wpAny_execs_cons ?_
  k_steps
  refine hQ _ _ _ hk9 fun x => ?_
  exact bare_set (s := { s with gens := s.gens.push (.fresh (.func gBody (gEnv Lg))) }) (gi := s.gens.size) (Array.getElem?_push_size ..) rfl rfl (x.push rfl))

-- part entc
section
variable {prog : Program} {w : World} {A : Around} {s : Shared} {K : Frag} {R : Result → Shared → Prop}
theorem enterC {name qual : Str} {params : Arguments} {body : List Stmt} {scope : Scope} {dV kV doc pm cdv ct oc : Value} {an od : Option Addr} {osl : Array (Option Value)} {f : Addr} {args : Args} {binds : List (Str × Value)}
    (X : K.In s.heap) (hlim : s.heap.NoLimit)
    (ho : K.lookup f = some ⟨oc, od, .func (fnOf name qual params body scope dV kV doc pm an cdv ct), osl⟩) (hcd : codeIn K cdv qual = true) (hroom : A.depth < recursionLimit)
    (hbind : BindsTo s (fnOf name qual params body scope dV kV doc pm an cdv ct) args binds) (hkind : (binds.all fun y => scope.names.lookup y.1 == some .local || scope.names.lookup y.1 == some .cell) = true)
    (hnd : ((cellsFrom 0 scope.names []).map (·.1)).Nodup)
    (h : ∀ L h₁ tk cells, Fr s.heap L h₁ (bindL (envOfC qual scope L f cdv).kindOf binds fun _ => none) → News s.heap L h₁ cells → CellsAre (bindC (envOfC qual scope L f cdv).kindOf binds fun _ => none) (cellsFrom (L + 1) scope.names []) cells →
      wpAny (model prog w) (A.deeper (envOfC qual scope L f cdv)) (execs body (envOfC qual scope L f cdv))
        (fun fl s' => R (.ok (.ret (match fl with | .ret v => v | _ => .none))) s')
        (fun e s' => wpAny (model prog w) (A.deeper (envOfC qual scope L f cdv)) (leaving (envOfC qual scope L f cdv) e) (fun _ s'' => R (.error e) s'') (fun e' s'' => R (.error e') s'') s')
        { s with heap := h₁, toks := tk })
    (hco : scope.isCoroutine = false) (hgen : scope.isGenerator = false) (hk : scope.kind = .function) : codeAny (model prog w) A (.call (.ref f) args) R s := by
  refine codeAny_call_function (fd := fnOf name qual params body scope dV kV doc pm an cdv ct) hroom (X _ _ ho) rfl hco hgen rfl (codeRec_of X hcd) (hbind _ _ _ _ ?_)
  refine wpAny_newFunctionEnv_cells hk (kindsX hkind _) fun env' he s' x => ?_
  subst he
  refine ⟨hlim.keeps x.toInCall.keep, codeAny_func ?_⟩
  obtain ⟨h₁, tk, rfl, _⟩ := x.done
  obtain ⟨cells, NC, Y⟩ := Cl.news (h₀ := s.heap) (Nat.le_refl _) fun n c hm => ⟨x.cell n c (lookup_of_mem_nodup (cellsFrom_names scope.names 0 (s.heap.objs.size + 1) [] [] rfl ▸ hnd) hm), x.above n c hm⟩
  exact h s.heap.objs.size h₁ tk cells ⟨x.toInCall.ns, x.toInCall.keep, Nat.le_refl _⟩ NC Y
end
local macro_rules | `(tactic| walk_at "mine enterC") => `(tactic| (
  refine wpAny_call ?_
  k_dflt (refine' enterC ?k3 ?kl ?k6 ?k7 ?k8 ?k9 ?kB ?kD ?_ ?c2 ?c3 ?c4; (case k3 => k_asm); (case kl => exact Top.nolimit (by assumption)); (case k6 => k_is); (case k7 => k_is); (case k8 => k_room); (case k9 => first | exact BindsTo.of_eq rfl | exact binds_K (by k_in) rfl (by k_is) rfl rfl rfl); (case kB => exact rfl); (case kD => decide +kernel); (case c2 => exact rfl); (case c3 => exact rfl); (case c4 => exact rfl))
  k_whole
  intro L' h' tk' cells' F' N' Y'
  k_cells Y'
  (try dsimp only)
  (try k_fold)))

-- part comp
section
open PyProof.Rows.LCg
variable {prog : Program} {w : World} {A : Around} {E : Value → Shared → Prop} {R : Result → Shared → Prop} {s : Shared} {env : Env}

theorem comp_turns {elt target iter : Expr} {ifs : List Expr} {scope : Scope} {pos : Pos} {it acc : Value} {env : Env} (I : Nat → Shared → Prop)
    (turn : ∀ n s, I n s → wpAny (model prog w) A (pyNext it) (fun r s₁ => match r with
      | none => R (.ok .next) s₁
      | some v => wpAny (model prog w) A (letOwnedTupleGo target it v) (fun _ s₁' => wpAny (model prog w) A (assign target env v) (fun _ s₂ =>
          wpAny (model prog w) A (forIn ifs true fun c r => if r = true then do let ok ← isTrue c env (eval c env); pure (ForInStep.yield ok) else pure (ForInStep.yield r)) (fun ok s₃ =>
            if ok = true then wpAny (model prog w) A (eval elt env) (fun x s₄ =>
              wpAny (model prog w) A (call (.builtin "list.append") [acc, x]) (fun _ s₅ => ∃ m, m < n ∧ I m s₅) (notedBy (model prog w) A env fun e s' => R (.error e) s') s₄) (notedBy (model prog w) A env fun e s' => R (.error e) s') s₃
            else ∃ m, m < n ∧ I m s₃) (notedBy (model prog w) A env fun e s' => R (.error e) s') s₂) (notedBy (model prog w) A env fun e s' => R (.error e) s') s₁') (notedBy (model prog w) A env fun e s' => R (.error e) s') s₁) (notedBy (model prog w) A env fun e s' => R (.error e) s') s)
    (n : Nat) (h : I n s) :
    codeAny (model prog w) A (.compLoop (.ListComp elt [⟨target, iter, ifs, 0⟩] scope pos) 0 it acc env) R s := by
  refine codeAny_loop rfl I (fun n s hI => ?_) n h
  show wpAny _ A ((compTurn (.ListComp elt [⟨target, iter, ifs, 0⟩] scope pos) 0 it acc env).onRaise (fun x => do noteFrame x env; theTreesLotGoes x)) _ _ s
  refine wpAny_noted ?_
  rw [compTurn_list]
  refine wpAny_bind (wpAny_standAt (wpAny_bind (wpAny_mono (turn n s hI) (fun r s₁ h₁ => ?_) fun _ _ h' => h')))
  cases r with
  | none => exact wpAny_pure h₁
  | some v =>
    refine wpAny_bind (wpAny_mono h₁ (fun _ s₁' h₁' => ?_) fun _ _ h' => h')
    refine wpAny_bind (wpAny_mono h₁' (fun _ s₂ h₂ => wpAny_bind (wpAny_mono h₂ (fun ok s₃ h₃ => ?_) fun _ _ h' => h')) fun _ _ h' => h')
    cases ok with
    | false => exact wpAny_pure ⟨rfl, h₃⟩
    | true =>
      exact wpAny_bind (wpAny_bind (wpAny_mono h₃ (fun x s₄ h₄ => wpAny_bind (wpAny_mono h₄ (fun _ s₅ h₅ => wpAny_pure (wpAny_pure ⟨rfl, h₅⟩)) fun _ _ h' => h')) fun _ _ h' => h'))

/-- all that stood stays (of the comprehension's own frame: its names) -/
noncomputable def KeptH (C : Addr) (mC : Str → Option Value) (s₂ : Shared) (h : Heap) (s' : Shared) : Prop := ∃ h' tk, s' = { s₂ with heap := h', toks := tk } ∧ h'.Ns C mC ∧ ∀ b o, h.get? b = some o → b ≠ C → h'.get? b = some o
theorem KeptH.here {C : Addr} {mC : Str → Option Value} {g : Heap} {s₂ : Shared} {h : Heap} {tk : Nat} (F : Fr g C h mC) : KeptH C mC s₂ h { s₂ with heap := h, toks := tk } := ⟨h, tk, rfl, F.ns, fun _ _ e _ => e⟩
theorem KeptH.walk {C : Addr} {mC : Str → Option Value} {g : Heap} {s₂ : Shared} {h h' : Heap} {tk : Nat} {ns : List (Addr × Obj)} (F : Fr g C h mC) (F' : Fr g C h' mC) (N : News g C h' ns) (hs : ∀ p ∈ allOf g h C C, p ∈ ns) : KeptH C mC s₂ h { s₂ with heap := h', toks := tk } :=
  ⟨h', tk, rfl, F'.ns, fun b o e q => kept_all0 F F' N hs b o e q⟩
/-- the same, to be had ahead of a walk -/
noncomputable def WalkKept (g : Heap) (C : Addr) (mC : Str → Option Value) (s₂ : Shared) (h : Heap) : Prop := ∀ h' tk (a : List (Addr × Obj)), Fr g C h' mC → News g C h' (a ++ allOf g h C C) → KeptH C mC s₂ h { s₂ with heap := h', toks := tk }
theorem walk_kept {g : Heap} {C : Addr} {mC : Str → Option Value} {s₂ : Shared} {h : Heap} (F : Fr g C h mC) : WalkKept g C mC s₂ h := fun _ _ _ F' N => KeptH.walk F F' N (fun _ hp => List.mem_append_right _ hp)
theorem KeptH.call {C : Addr} {mC : Str → Option Value} {g : Heap} {s₂ : Shared} {h h' : Heap} {tk : Nat} (F : Fr g C h mC) (hk : ∀ b o, h.get? b = some o → h'.get? b = some o) : KeptH C mC s₂ h { s₂ with heap := h', toks := tk } :=
  ⟨h', tk, rfl, F.ns.at' fun o e => hk _ o e, fun b o e _ => hk b o e⟩

/-- what a turn of a comprehension shows: tests and element -/
noncomputable def TurnOf (prog : Program) (w : World) (A : Around) (cenv : Env) (ifs : List Expr) (elt : Expr) (s₂ : Shared) (mC : Str → Option Value) (h : Heap) (J : List Value → Prop) (ys : List Value) (tk : Nat) : Prop :=
  ∀ E' : Value → Shared → Prop, wpAny (model prog w) A (forIn ifs true fun c r => if r = true then do let ok ← isTrue c cenv (eval c cenv); pure (ForInStep.yield ok) else pure (ForInStep.yield r)) (fun ok s₃ =>
    if ok = true then wpAny (model prog w) A (eval elt cenv) (fun y s₄ => KeptH cenv.locals mC s₂ h s₄ ∧ J (ys ++ [y])) E' s₃ else KeptH cenv.locals mC s₂ h s₃ ∧ J ys) E' { s₂ with heap := h, toks := tk }

/-- the turns of the last clause -/
theorem comp_last {elt target iter : Expr} {ifs : List Expr} {scope : Scope} {pos : Pos} {cenv : Env} {s₂ : Shared} {hb : Heap} {I D : Addr} {fp wr : List Addr} {n : Nat} {P Md : Nat → Value → Heap → Prop} {St : Nat → Heap → Prop} {ys₀ : List Value} {m₀ : Str → Option Value}
    (W : W.KTurns prog w A target I fp wr n P Md St) (hst : St 0 s₂.heap) (hC : cenv.locals ∉ fp) (hD : D ∉ fp) (hCD : cenv.locals ≠ D)
    (hDo : s₂.heap.get? D = some (lst ys₀)) (hwr : ∀ b ∈ wr, hb.get? b = none) (hbC : hb.objs.size ≤ cenv.locals) (hbD : hb.get? D = none) (F₀ : Fr hb cenv.locals s₂.heap m₀) (Bnd : Nat → (Str → Option Value) → Prop) (J : Nat → List Value → Prop) (h0 : J 0 ys₀) (hlen : ∀ i ys, i ≤ n → J i ys → ys.length ≤ sizeLine)
    (bind : ∀ i v h tk mC (Q : Unit → Shared → Prop) (E' : Value → Shared → Prop), i < n → P i v h → h.Ns cenv.locals mC → (∀ h' mC', Bnd i mC' → h'.Ns cenv.locals mC' → (∀ b o, b ≠ cenv.locals → h.get? b = some o → h'.get? b = some o) → ∀ tk', Q () { s₂ with heap := h', toks := tk' }) →
      wpAny (model prog w) A (assign target cenv v) Q E' { s₂ with heap := h, toks := tk })
    (step : ∀ i ys h tk mC, i < n → J i ys → Bnd i mC → Fr hb cenv.locals h mC → TurnOf prog w A cenv ifs elt s₂ mC h (J (i + 1)) ys tk)
    (hR : ∀ ys h tk mC, J n ys → Fr hb cenv.locals h mC → h.get? D = some (lst ys) → R (.ok .next) { s₂ with heap := h, toks := tk }) :
    codeAny (model prog w) A (.compLoop (.ListComp elt [⟨target, iter, ifs, 0⟩] scope pos) 0 (.ref I) (.ref D) cenv) R s₂ := by
  have hCw : cenv.locals ∉ wr := fun q => hC (W.sub _ q)
  have hDw : D ∉ wr := fun q => hD (W.sub _ q)
  have hbC0 : hb.get? cenv.locals = none := Heap.get?_none_of_le hbC
  have nwr : ∀ b o, hb.get? b = some o → b ∉ wr := fun b o e q => by rw [hwr b q] at e; cases e
  have nC : ∀ b o, hb.get? b = some o → b ≠ cenv.locals := fun b o e q => by rw [q, hbC0] at e; cases e
  have nD : ∀ b o, hb.get? b = some o → b ≠ D := fun b o e q => by rw [q, hbD] at e; cases e
  refine comp_turns
    (fun k s' => ∃ h' tk i ys mC, s' = { s₂ with heap := h', toks := tk } ∧ i ≤ n ∧ k = n + 1 - i ∧ St i h' ∧ Fr hb cenv.locals h' mC ∧ h'.get? D = some (lst ys) ∧ J i ys) ?_ (n + 1)
    ⟨s₂.heap, s₂.toks, 0, ys₀, m₀, rfl, Nat.zero_le _, rfl, hst, F₀, hDo, h0⟩
  rintro k s' ⟨h', tk, i, ys, mC, rfl, hi, rfl, hst', F', hD', hJ⟩
  by_cases hlt : i < n
  · refine W.item i _ _ _ hlt hst' fun v h₁ tk₁ hMd hk₁ => ?_
    refine W.go i v _ _ _ hMd fun h₂ hP hst₂ hk₂ => ?_
    have hk12 : ∀ b o, b ∉ wr → h'.get? b = some o → h₂.get? b = some o := fun b o hb x => hk₂ b o hb (hk₁ b o hb x)
    refine bind i v h₂ tk₁ mC _ _ hlt hP (F'.ns.at' fun o e => hk12 _ o hCw e) fun h₃ mC₃ hB hns₃ hsb tk₃ => ?_
    have hk3 : ∀ b o, b ∉ wr → b ≠ cenv.locals → h'.get? b = some o → h₃.get? b = some o := fun b o hb hbc x => hsb b o hbc (hk12 b o hb x)
    have hst₃ : St (i + 1) h₃ := W.frame _ _ _ hst₂ fun b hb o e => hsb b o (fun q => hC (q ▸ hb)) e
    have hD₃ : h₃.get? D = some (lst ys) := hk3 D _ hDw (Ne.symm hCD) hD'
    have F₃ : Fr hb cenv.locals h₃ mC₃ := ⟨hns₃, fun b o e => hk3 b o (nwr b o e) (nC b o e) (F'.keep b o e), hbC⟩
    refine wpAny_mono (step i ys h₃ tk₃ mC₃ hlt hJ hB F₃ _) (fun ok s₄ h₄ => ?_) fun _ _ e => e
    cases ok with
    | true =>
      simp only [if_true] at h₄ ⊢
      refine wpAny_mono h₄ (fun y s₅ h₅ => ?_) fun _ _ e => e
      obtain ⟨⟨h5, tk5, rfl, hn5, hk5⟩, hJ5⟩ := h₅
      have zD := hk5 D _ hD₃ (Ne.symm hCD)
      refine append_at (hsz := by show ys.toArray.size ≤ sizeLine; rw [List.size_toArray]; exact hlen i ys hi hJ) zD fun h₆ hs₆ hD₆ => ?_
      refine ⟨n + 1 - (i + 1), by omega, h₆, tk5, i + 1, ys ++ [y], mC₃, rfl, hlt, rfl, W.frame _ _ _ hst₃ fun b hb o e => hs₆.extBut b o (fun q => hD (q ▸ hb)) (hk5 b o e (fun q => hC (q ▸ hb))), ⟨hn5.at' fun o e => hs₆.extBut _ o hCD e, fun b o e => ?_, hbC⟩, hD₆.trans (congrArg some (lst_snoc ys y)), hJ5⟩
      exact hs₆.extBut b o (nD b o e) (hk5 b o (F₃.keep b o e) (nC b o e))
    | false =>
      simp only [Bool.false_eq_true, if_false] at h₄ ⊢
      obtain ⟨⟨h5, tk5, rfl, hn5, hk5⟩, hJ5⟩ := h₄
      refine ⟨n + 1 - (i + 1), by omega, h5, tk5, i + 1, ys, mC₃, rfl, hlt, rfl, W.frame _ _ _ hst₃ fun b hb o e => hk5 b o e (fun q => hC (q ▸ hb)), ⟨hn5, fun b o e => ?_, hbC⟩, hk5 D _ hD₃ (Ne.symm hCD), hJ5⟩
      exact hk5 b o (F₃.keep b o e) (nC b o e)
  · obtain rfl : i = n := Nat.le_antisymm hi (Nat.not_lt.mp hlt)
    refine W.done _ _ _ hst' fun h₂ tk₂ hk₂ => ?_
    exact hR ys h₂ tk₂ mC hJ ⟨F'.ns.at' fun o e => hk₂ _ o hCw e, fun b o e => hk₂ b o (nwr b o e) (F'.keep b o e), hbC⟩ (hk₂ D _ hDw hD')

/-- a comprehension of one clause, from the iterator on -/
theorem comp_block {elt target iter : Expr} {ifs : List Expr} {scope : Scope} {cl : List (Str × Addr)} {pos : Pos} {s₂ : Shared} {hb : Heap} {I : Addr} {fp wr : List Addr} {n : Nat} {P Md : Nat → Value → Heap → Prop} {St : Nat → Heap → Prop} {use : Option (Value → Sem Unit)} {Q : Value → Shared → Prop}
    (hcell : ∀ y ∈ scope.names, y.2 ≠ .cell) (hkind : scope.kind = .function)
    (W : W.KTurns prog w A target I fp wr n P Md St) (hself : ∀ (s : Shared) (Q : Value → Shared → Prop) (E : Value → Shared → Prop), St 0 s.heap → Q (.ref I) s → wpAny (model prog w) A (pyIter (.ref I)) Q E s) (hst : St 0 s₂.heap) (hfp : ∀ b ∈ fp, b < s₂.heap.objs.size)
    (hwr : ∀ b ∈ wr, hb.get? b = none) (hbs : hb.objs.size ≤ s₂.heap.objs.size) (up : ∀ b o, hb.get? b = some o → s₂.heap.get? b = some o)
    (Bnd : Nat → (Str → Option Value) → Prop) (J : Nat → List Value → Prop) (h0 : J 0 []) (hlen : ∀ i ys, i ≤ n → J i ys → ys.length ≤ sizeLine)
    (bind : ∀ C i v h tk mC (Q : Unit → Shared → Prop) (E' : Value → Shared → Prop), i < n → P i v h → h.Ns C mC → (∀ h' mC', Bnd i mC' → h'.Ns C mC' → (∀ b o, b ≠ C → h.get? b = some o → h'.get? b = some o) → ∀ tk', Q () { s₂ with heap := h', toks := tk' }) →
      wpAny (model prog w) A (assign target (compEnvC scope cl C env) v) Q E' { s₂ with heap := h, toks := tk })
    (step : ∀ C i ys h tk mC, i < n → J i ys → Bnd i mC → Fr hb C h mC → TurnOf prog w A (compEnvC scope cl C env) ifs elt s₂ mC h (J (i + 1)) ys tk)
    (fin : ∀ C D ys h tk mC, J n ys → Fr hb C h mC → hb.objs.size ≤ D → C ≠ D → h.get? D = some (lst ys) → compPost (model prog w) A E use Q (.ref D) C (.ok .next) { s₂ with heap := h, toks := tk }) :
    wpAny (model prog w) A (newList []) (fun acc s₃ => wpAny (model prog w) A (newFunctionEnv scope env.globals cl [] env.qual none .none (some env)) (fun cenv s₄ =>
      codeAny (model prog w) A (.compStart (.ListComp elt [⟨target, iter, ifs, 0⟩] scope pos) 0 (.ref I) acc { cenv with scope := relabel scope env }) (compPost (model prog w) A E use Q acc cenv.locals) s₄) E s₃) E s₂ := by
  refine wpAny_newObj_type (wpAny_newFunctionEnv hcell (by intro y hy; simp at hy) (fun h₁ hns₁ hsb₁ => ?_) hkind)
  dsimp only at hns₁ hsb₁ ⊢
  generalize hH2 : s₂.heap.push { cls := .type "list", dict := none, data := .seq ([] : List Value).toArray } = H2 at hns₁ hsb₁ ⊢
  have hC : H2.objs.size = s₂.heap.objs.size + 1 := by rw [← hH2, Heap.size_push]
  have hDC : s₂.heap.objs.size ≠ H2.objs.size := by rw [hC]; exact Nat.ne_of_lt (Nat.lt_succ_self _)
  have below : ∀ b, b < s₂.heap.objs.size → b ≠ H2.objs.size ∧ b ≠ s₂.heap.objs.size := fun b hb => ⟨by rw [hC]; exact Nat.ne_of_lt (Nat.lt_succ_of_lt hb), Nat.ne_of_lt hb⟩
  have hDf : s₂.heap.objs.size ∉ fp := fun hm => Nat.lt_irrefl _ (hfp _ hm)
  have hCf : H2.objs.size ∉ fp := fun hm => by have := hfp _ hm; rw [hC] at this; exact Nat.lt_irrefl _ (Nat.lt_of_succ_lt this)
  have old : ∀ b o, s₂.heap.get? b = some o → h₁.get? b = some o := fun b o e => hsb₁.extBut b o (below b (Heap.lt_size e)).1 (Heap.get?_push_of_some _ (hH2 ▸ Heap.get?_push_of_some _ e))
  have hacc : h₁.get? s₂.heap.objs.size = some (lst []) := hsb₁.extBut _ _ hDC (Heap.get?_push_of_some _ (hH2 ▸ Heap.get?_push_size _ rfl))
  have hst₁ : St 0 h₁ := W.frame _ _ _ hst fun b _ o e => old b o e
  have hbC : hb.objs.size ≤ H2.objs.size := by rw [hC]; exact Nat.le_succ_of_le hbs
  have hbD : hb.get? s₂.heap.objs.size = none := Heap.get?_none_of_le hbs
  have loop : ∀ s₃ : Shared, s₃ = { s₂ with heap := h₁, toks := s₂.toks + ([] : List (Str × Value)).length } →
      codeAny (model prog w) A (.compLoop (.ListComp elt [⟨target, iter, ifs, 0⟩] scope pos) 0 (.ref I) (.ref s₂.heap.objs.size) (compEnvC scope cl H2.objs.size env))
        (compPost (model prog w) A E use Q (.ref s₂.heap.objs.size) H2.objs.size) s₃ := by
    rintro s₃ rfl
    refine comp_last (s₂ := { s₂ with heap := h₁, toks := s₂.toks + ([] : List (Str × Value)).length }) (cenv := compEnvC scope cl H2.objs.size env) W hst₁ hCf hDf (Ne.symm hDC) hacc hwr hbC hbD ⟨hns₁, fun b o e => old b o (up b o e), hbC⟩ Bnd J h0 hlen ?_ ?_ ?_
    · intro i v h tk mC Q' E' hi hP hn hQ
      exact bind H2.objs.size i v h tk mC Q' E' hi hP hn hQ
    · intro i ys h tk mC hi hJ hB hn
      exact step H2.objs.size i ys h tk mC hi hJ hB hn
    · intro ys h tk mC hJ hn hD
      exact fin _ _ ys h tk mC hJ hn hbs (Ne.symm hDC) hD
  exact codeAny_compStart_list (loop _ rfl) (hself _ _ _ hst₁ (loop _ rfl))
end

-- part comp2
section
open PyProof.Rows.LCg
variable {prog : Program} {w : World} {A : Around} {E : Value → Shared → Prop} {s : Shared} {env : Env}

theorem bind_name {scope : Scope} {cl : List (Str × Addr)} {C : Addr} {x : Str} {px : Pos} {v : Value} {h : Heap} {mC : Str → Option Value} {tk : Nat} {s₂ : Shared} {Q : Unit → Shared → Prop}
    (hkind : scope.kind = .function) (hx : scope.names.lookup x = some .local) (hn : h.Ns C mC)
    (hQ : ∀ h' mC', mC' x = some v → (∀ z, z ≠ x → mC' z = mC z) → h'.Ns C mC' → (∀ b o, b ≠ C → h.get? b = some o → h'.get? b = some o) → ∀ tk', Q () { s₂ with heap := h', toks := tk' }) :
    wpAny (model prog w) A (assign (.Name x px) (compEnvC scope cl C env) v) Q E { s₂ with heap := h, toks := tk } := by
  refine wpAny_assign_Name (wpAny_storeName_local (lookup_relabel_local hx) hn (fun h₃ hn₃ hs₃ => ?_) (by simp [compEnvC, relabel, hkind]))
  exact hQ h₃ _ (by simp) (fun z hz => by simp [hz]) hn₃ hs₃.extBut _

theorem bind_pair {scope : Scope} {cl : List (Str × Addr)} {C T : Addr} {x x₂ : Str} {px px₂ tp : Pos} {tk1 : Nat} {v₁ v₂ : Value} {h : Heap} {mC : Str → Option Value} {tk : Nat} {s₂ : Shared} {Q : Unit → Shared → Prop}
    (hh : A.handled = none) (hkind : scope.kind = .function) (hx : scope.names.lookup x = some .local) (hx₂ : scope.names.lookup x₂ = some .local) (hxx : x ≠ x₂) (hn : h.Ns C mC) (ht : h.IsTuple T #[v₁, v₂])
    (hQ : ∀ h' mC', mC' x = some v₁ → mC' x₂ = some v₂ → h'.Ns C mC' → (∀ b o, b ≠ C → h.get? b = some o → h'.get? b = some o) → ∀ tk', Q () { s₂ with heap := h', toks := tk' }) :
    wpAny (model prog w) A (assign (.Tuple [.Name x px, .Name x₂ px₂] tk1 tp) (compEnvC scope cl C env) (.ref T)) Q E { s₂ with heap := h, toks := tk } := by
  refine assign_Tuple_tuple hh ht rfl rfl fun h₅ he => ?_
  have he' : ∀ b o, h.get? b = some o → h₅.get? b = some o := fun b o e => he b o (Nat.ne_of_lt (Heap.lt_size e)) e
  refine assignInOrder_cons (wpAny_assign_Name (wpAny_storeName_local (lookup_relabel_local hx) (hn.at' fun o e => he' _ o e) (fun h₆ hn₆ hs₆ => ?_) (by simp [compEnvC, relabel, hkind])))
  refine assignInOrder_cons (wpAny_assign_Name (wpAny_storeName_local (lookup_relabel_local hx₂) hn₆ (fun h₃ hn₃ hs₃ => ?_) (by simp [compEnvC, relabel, hkind])))
  refine assignInOrder_nil ?_
  exact hQ h₃ _ (by simp [hxx]) (by simp) hn₃ (fun b o hb e => hs₃.extBut b o hb (hs₆.extBut b o hb (he' b o e))) _

/-- the end of a comprehension: the new list, all that stood stays -/
noncomputable def EndOf (prog : Program) (w : World) (A : Around) (E : Value → Shared → Prop) (use : Option (Value → Sem Unit)) (Q : Value → Shared → Prop) (s₁ : Shared) (J : List Value → Prop) : Prop :=
  ∀ C D ys h tk mC, J ys → h.Ns C mC → s₁.heap.objs.size ≤ C → s₁.heap.objs.size ≤ D → C ≠ D → h.get? D = some (lst ys) → (∀ b o, s₁.heap.get? b = some o → h.get? b = some o) →
    compPost (model prog w) A E use Q (.ref D) C (.ok .next) { s₁ with heap := h, toks := tk }

theorem end_eval {Q : Value → Shared → Prop} {s₁ : Shared} {J : List Value → Prop} (h : ∀ D ys h' tk, J ys → s₁.heap.objs.size ≤ D → h'.get? D = some (lst ys) → (∀ b o, s₁.heap.get? b = some o → h'.get? b = some o) → Q (.ref D) { s₁ with heap := h', toks := tk }) :
    EndOf prog w A E none Q s₁ J := fun C D ys h' tk mC hJ hn hC hD hCD hDo hk =>
  ⟨mC, hn, fun h'' sb => h D ys h'' tk hJ hD (sb.extBut D _ (Ne.symm hCD) hDo) fun b o e => sb.extBut b o (fun q => by rw [q, Heap.get?_none_of_le hC] at e; cases e) (hk b o e)⟩

theorem end_assign {y : Str} {py : Pos} {Q : Shared → Prop} {s₁ : Shared} {J : List Value → Prop} {g : Heap} {L : Addr} {m : Str → Option Value} (F : Fr g L s₁.heap m) (hL : env.locals = L)
    (hy : env.kindOf y = some .local) (hp : (env.scope.kind == .class || (env.scope.kind == .module && env.locals != env.globals)) = false)
    (h : ∀ D ys h' tk, J ys → s₁.heap.objs.size ≤ D → h'.get? D = some (lst ys) → Fr g L h' (fun z => if z = y then some (.ref D) else m z) → (∀ b o, b ≠ L → s₁.heap.get? b = some o → h'.get? b = some o) → Q { s₁ with heap := h', toks := tk }) :
    EndOf prog w A E (some (assign (.Name y py) env)) (fun _ s' => Q s') s₁ J := fun C D ys h' tk mC hJ hn hC hD hCD hDo hk => by
  subst hL
  show wpAny _ A (assign (.Name y py) env (.ref D)) _ _ _
  have F' := F.keptAll hk
  have hCL : C ≠ env.locals := fun q => by obtain ⟨o, _, _, e, _⟩ := F.ns; rw [← q, Heap.get?_none_of_le hC] at e; cases e
  have hDL : D ≠ env.locals := fun q => by obtain ⟨o, _, _, e, _⟩ := F.ns; rw [← q, Heap.get?_none_of_le hD] at e; cases e
  have hL0 := fr_new F
  refine wpAny_assign_Name (wpAny_storeName_local hy F'.ns (fun h₂ hn₂ hs₂ => ?_) hp)
  have F₂ : Fr g env.locals h₂ (fun z => if z = y then some (.ref D) else m z) := ⟨hn₂, fun b o e => hs₂.extBut b o (fun q => by rw [q, hL0] at e; cases e) (F'.keep b o e), F'.above⟩
  refine ⟨mC, hn.sameBut hs₂ hCL, fun h'' sb => h D ys h'' _ hJ hD (sb.extBut D _ (Ne.symm hCD) (hs₂.extBut D _ hDL hDo)) ?_ fun b o hb e => ?_⟩
  · exact F₂.change sb hCL (by cases q : g.get? C with
      | none => rfl
      | some o => have z := F.keep _ _ q; rw [Heap.get?_none_of_le hC] at z; cases z)
  · exact sb.extBut b o (fun q => by rw [q, Heap.get?_none_of_le hC] at e; cases e) (hs₂.extBut b o hb (hk b o e))


/-- what the source of a comprehension of one clause gives, over the heap hb that stood ahead -/
noncomputable def SrcG (prog : Program) (w : World) (A : Around) (E : Value → Shared → Prop) (use : Option (Value → Sem Unit)) (Q : Value → Shared → Prop) (env : Env) (scope : Scope) (cl : List (Str × Addr)) (target : Expr) (ifs : List Expr) (elt : Expr) (xv : Value) (s₁ : Shared) : Prop :=
  wpAny (model prog w) A (pyIter xv) (fun it s₂ => ∃ (hb : Heap) (I : Addr) (fp wr : List Addr) (n : Nat) (P Md : Nat → Value → Heap → Prop) (St : Nat → Heap → Prop) (Bnd : Nat → (Str → Option Value) → Prop) (J : Nat → List Value → Prop),
    it = .ref I ∧ W.KTurns prog w A target I fp wr n P Md St ∧ (∀ (s : Shared) (Q : Value → Shared → Prop) (E : Value → Shared → Prop), St 0 s.heap → Q (.ref I) s → wpAny (model prog w) A (pyIter (.ref I)) Q E s) ∧ St 0 s₂.heap ∧ (∀ b ∈ fp, b < s₂.heap.objs.size) ∧
    (∀ b ∈ wr, hb.get? b = none) ∧ hb.objs.size ≤ s₂.heap.objs.size ∧ (∀ b o, hb.get? b = some o → s₂.heap.get? b = some o) ∧ J 0 [] ∧ (∀ i ys, i ≤ n → J i ys → ys.length ≤ sizeLine) ∧
    (∀ C i v h tk mC (Q : Unit → Shared → Prop) (E' : Value → Shared → Prop), i < n → P i v h → h.Ns C mC → (∀ h' mC', Bnd i mC' → h'.Ns C mC' → (∀ b o, b ≠ C → h.get? b = some o → h'.get? b = some o) → ∀ tk', Q () { s₂ with heap := h', toks := tk' }) →
      wpAny (model prog w) A (assign target (compEnvC scope cl C env) v) Q E' { s₂ with heap := h, toks := tk }) ∧
    (∀ C i ys h tk mC, i < n → J i ys → Bnd i mC → Fr hb C h mC → TurnOf prog w A (compEnvC scope cl C env) ifs elt s₂ mC h (J (i + 1)) ys tk) ∧
    EndOf prog w A E use Q { s₂ with heap := hb } (J n)) E s₁
theorem lc_gen {elt iter target : Expr} {ifs : List Expr} {scope : Scope} {cl : List (Str × Addr)} {pos pos' : Pos} {use : Option (Value → Sem Unit)} {Q : Value → Shared → Prop}
    (hclos : closureFor scope env = pure cl) (hcell : ∀ y ∈ scope.names, y.2 ≠ .cell) (hkind : scope.kind = .function)
    (hnames : ∀ y ∈ scope.names, y.2 = .local → scope.names.lookup y.1 = some .local)
    (h : wpAny (model prog w) A (eval iter env) (SrcG prog w A E use Q env scope cl target ifs elt) E s)
    (hs : ∀ x, foldedSetIterable iter env x = pure x := by intro _; rfl) :
    wpAny (model prog w) A (comprehension (.ListComp elt [⟨target, iter, ifs, 0⟩] scope pos) scope env pos' (newList []) false (eval iter env) use) Q E s := by
  refine wpAny_comprehension_free rfl hs hclos hkind hnames (wpAny_mono h (fun xv s₁ h₁ => wpAny_mono h₁ (fun it s₂ h₂ => ?_) fun _ _ e => e) fun _ _ e => e)
  obtain ⟨hb, I, fp, wr, n, P, Md, St, Bnd, J, rfl, W, hself, hst, hfp, hwr, hbs, up, h0, hlen, bind, step, fin⟩ := h₂
  refine comp_block hcell hkind W hself hst hfp hwr hbs up Bnd J h0 hlen bind step ?_
  intro C D ys h tk mC hJ hn hD hCD hDo
  exact fin C D ys h tk mC hJ hn.ns hn.above hD hCD hDo hn.keep

theorem src_list {use : Option (Value → Sem Unit)} {Q : Value → Shared → Prop} {elt : Expr} {ifs : List Expr} {scope : Scope} {cl : List (Str × Addr)} {x : Str} {px : Pos} {ax : Addr} {its : Array Value}
    (hh : A.handled = none) (hl : s.heap.IsList ax its) (hkind : scope.kind = .function) (hx : scope.names.lookup x = some .local) (J : Nat → List Value → Prop) (h0 : J 0 []) (hlen : ∀ i ys, i ≤ its.size → J i ys → ys.length ≤ sizeLine)
    (step : ∀ C i v ys h tk mC, its[i]? = some v → J i ys → mC x = some v → Fr s.heap C h mC → TurnOf prog w A (compEnvC scope cl C env) ifs elt s mC h (J (i + 1)) ys tk)
    (fin : EndOf prog w A E use Q s (J its.size)) : SrcG prog w A E use Q env scope cl (.Name x px) ifs elt (.ref ax) s := by
  have hlt : ax < s.heap.objs.size := by obtain ⟨_, e, _⟩ := hl; exact Heap.lt_size e
  refine wpAny_pyIter_list hl ?_
  refine ⟨s.heap, s.heap.objs.size, [s.heap.objs.size, ax], [s.heap.objs.size], its.size, _, _, _, fun i mC => ∃ v, its[i]? = some v ∧ mC x = some v, J, rfl,
    W.KTurns.ofWalks (Walks.list hh s.heap.objs.size ax (Nat.ne_of_lt hlt) its) (fun i v s Q E st q => letGo_listiter st.1 q), fun s' Q E st q => (Walks.list hh s.heap.objs.size ax (Nat.ne_of_lt hlt) its).self 0 s' Q E st q, ⟨⟨_, Heap.get?_push_size _ rfl, rfl, rfl⟩, hl.push _⟩, fun b hb => ?_, fun b hb => ?_,
    (by show _ ≤ (s.heap.push _).objs.size; rw [Heap.size_push]; exact Nat.le_succ _), fun b o e => Heap.get?_push_of_some _ e, h0, hlen, ?_, ?_, fin⟩
  · show b < (s.heap.push _).objs.size
    rw [Heap.size_push]
    rcases List.mem_cons.mp hb with rfl | hb
    · exact Nat.lt_succ_self _
    · rw [List.mem_singleton.mp hb]; exact Nat.lt_succ_of_lt hlt
  · rw [List.mem_singleton.mp hb]
    exact Heap.get?_none_of_le (Nat.le_refl _)
  · intro C i v h tk mC Q' E' hi hP hn hQ
    exact bind_name hkind hx hn fun h' mC' e _ hn' sb tk' => hQ h' mC' ⟨v, hP, e⟩ hn' sb tk'
  · rintro C i ys h tk mC hi hJ ⟨v, hv, hm⟩ hn
    exact step C i v ys h tk mC hv hJ hm hn

theorem src_range {use : Option (Value → Sem Unit)} {Q : Value → Shared → Prop} {elt : Expr} {ifs : List Expr} {scope : Scope} {cl : List (Str × Addr)} {x : Str} {px : Pos} {r : Addr} {a b : Int} {t u v : Tok} (n : Nat)
    (hh : A.handled = none) (hr : IsRange s.heap r a b 1 t u v) (hsm : Builtin.Range.small a b 1 = true) (hn : Builtin.Range.rangeSize a b 1 = ((n : Nat) : Int)) (hkind : scope.kind = .function) (hx : scope.names.lookup x = some .local) (J : Nat → List Value → Prop) (h0 : J 0 []) (hlen : ∀ i ys, i ≤ n → J i ys → ys.length ≤ sizeLine)
    (step : ∀ C i (t : Tok) ys h tk mC, i < n → J i ys → mC x = some (.int (a + (i : Int)) t) → Fr s.heap C h mC → TurnOf prog w A (compEnvC scope cl C env) ifs elt s mC h (J (i + 1)) ys tk)
    (fin : EndOf prog w A E use Q s (J n)) : SrcG prog w A E use Q env scope cl (.Name x px) ifs elt (.ref r) s := by
  refine wpAny_pyIter_range hr hsm ?_
  refine ⟨s.heap, s.heap.objs.size, [s.heap.objs.size], [s.heap.objs.size], n, _, _, _, fun i mC => ∃ t, mC x = some (.int (a + (i : Int)) t), J, rfl,
    W.KTurns.ofWalks (range_walks hh a n) (fun i v s Q E st q => wpAny_of_eq rfl q), fun s' Q E st q => (range_walks hh a n).self 0 s' Q E st q, (by show IsRangeIter _ _ _ _ _; rw [hn]; simpa using Heap.get?_push_size _ rfl), fun b hb => ?_, fun b hb => ?_,
    (by show _ ≤ (s.heap.push _).objs.size; rw [Heap.size_push]; exact Nat.le_succ _), fun b o e => Heap.get?_push_of_some _ e, h0, hlen, ?_, ?_, fin⟩
  · show b < (s.heap.push _).objs.size
    rw [Heap.size_push, List.mem_singleton.mp hb]
    exact Nat.lt_succ_self _
  · rw [List.mem_singleton.mp hb]
    exact Heap.get?_none_of_le (Nat.le_refl _)
  · intro C i v h tk mC Q' E' hi hP hn hQ
    obtain ⟨t, rfl⟩ := hP
    exact bind_name hkind hx hn fun h' mC' e _ hn' sb tk' => hQ h' mC' ⟨t, e⟩ hn' sb tk'
  · rintro C i ys h tk mC hi hJ ⟨t, hm⟩ hn
    exact step C i t ys h tk mC hi hJ hm hn

theorem new_above {h : Heap} {b : Addr} (hb : h.objs.size ≤ b) : h.get? b = none := Heap.get?_none_of_le hb
end

-- part comp3
section
open PyProof.Rows.LCg
variable {prog : Program} {w : World} {A : Around} {E : Value → Shared → Prop} {s : Shared} {env : Env}

theorem src_pairs {use : Option (Value → Sem Unit)} {Q : Value → Shared → Prop} {elt : Expr} {ifs : List Expr} {scope : Scope} {cl : List (Str × Addr)} {x x₂ : Str} {px px₂ tp : Pos} {tk1 : Nat} {I : Addr} {fp wr : List Addr} {n : Nat} {Pt : Nat → Array Value → Prop} {St : Nat → Heap → Prop} {Mid : Nat → Addr → Heap → Prop} {s₂ : Shared} {hb : Heap}
    (hh : A.handled = none) (W : WalksU prog w A I fp wr n Pt St Mid) (hst : St 0 s₂.heap) (hfp : ∀ b ∈ fp, b < s₂.heap.objs.size) (hwr : ∀ b ∈ wr, hb.get? b = none) (hbs : hb.objs.size ≤ s₂.heap.objs.size) (up : ∀ b o, hb.get? b = some o → s₂.heap.get? b = some o)
    (Pv : Nat → Value → Value → Prop) (hPv : ∀ i vals, Pt i vals → ∃ v₁ v₂, vals = #[v₁, v₂] ∧ Pv i v₁ v₂)
    (hkind : scope.kind = .function) (hx : scope.names.lookup x = some .local) (hx₂ : scope.names.lookup x₂ = some .local) (hxx : x ≠ x₂) (J : Nat → List Value → Prop) (h0 : J 0 []) (hlen : ∀ i ys, i ≤ n → J i ys → ys.length ≤ sizeLine)
    (step : ∀ C i v₁ v₂ ys h tk mC, i < n → Pv i v₁ v₂ → J i ys → mC x = some v₁ → mC x₂ = some v₂ → Fr hb C h mC → TurnOf prog w A (compEnvC scope cl C env) ifs elt s₂ mC h (J (i + 1)) ys tk)
    (fin : EndOf prog w A E use Q { s₂ with heap := hb } (J n))
    (hpy : ∀ Q : Value → Shared → Prop, Q (.ref I) s₂ → wpAny (model prog w) A (pyIter (.ref I)) Q E s₂) : SrcG prog w A E use Q env scope cl (.Tuple [.Name x px, .Name x₂ px₂] tk1 tp) ifs elt (.ref I) s₂ := by
  refine hpy _ ⟨hb, I, fp, wr, n, _, _, St, fun i mC => ∃ v₁ v₂, Pv i v₁ v₂ ∧ mC x = some v₁ ∧ mC x₂ = some v₂, J, rfl,
    KTurns.ofWalksU W, fun s' Q E st q => W.self 0 s' Q E st q, hst, hfp, hwr, hbs, up, h0, hlen, ?_, ?_, fin⟩
  · rintro C i v h tk mC Q' E' hi ⟨T, vals, rfl, hP, ht⟩ hn hQ
    obtain ⟨v₁, v₂, rfl, hv⟩ := hPv i vals hP
    exact bind_pair hh hkind hx hx₂ hxx hn ht fun h' mC' e1 e2 hn' sb tk' => hQ h' mC' ⟨v₁, v₂, hv, e1, e2⟩ hn' sb tk'
  · rintro C i ys h tk mC hi hJ ⟨v₁, v₂, hv, e1, e2⟩ hn
    exact step C i v₁ v₂ ys h tk mC hi hv hJ e1 e2 hn

theorem src_enum {use : Option (Value → Sem Unit)} {Q : Value → Shared → Prop} {elt : Expr} {ifs : List Expr} {scope : Scope} {cl : List (Str × Addr)} {x x₂ : Str} {px px₂ tp : Pos} {tk1 : Nat} {l : Addr} {its : Array Value}
    (hh : A.handled = none) (hl : s.heap.IsList l its)
    (hkind : scope.kind = .function) (hx : scope.names.lookup x = some .local) (hx₂ : scope.names.lookup x₂ = some .local) (hxx : x ≠ x₂) (J : Nat → List Value → Prop) (h0 : J 0 []) (hlen : ∀ i ys, i ≤ its.size → J i ys → ys.length ≤ sizeLine)
    (step : ∀ C i t v ys h tk mC, its[i]? = some v → J i ys → mC x = some (.int (i : Int) t) → mC x₂ = some v → Fr s.heap C h mC → TurnOf prog w A (compEnvC scope cl C env) ifs elt s mC h (J (i + 1)) ys tk)
    (fin : EndOf prog w A E use Q s (J its.size)) :
    wpAny (model prog w) A (call (.type "enumerate") [.ref l]) (SrcG prog w A E use Q env scope cl (.Tuple [.Name x px, .Name x₂ px₂] tk1 tp) ifs elt) E s := by
  have hlt : l < s.heap.objs.size := by obtain ⟨_, e, _⟩ := hl; exact Heap.lt_size e
  refine call_enumerate_list hl fun h' hE hI hsz hk => ?_
  refine src_pairs (s₂ := { s with heap := h' }) (hb := s.heap) hh (WalksT.enumerate hh (s.heap.objs.size + 1) s.heap.objs.size l (Nat.succ_ne_self _) (W.ktu_ne 1 hlt) (Nat.ne_of_lt hlt) its).toU
    ⟨⟨_, hE⟩, hI, items_keep hl hk⟩ ?_ ?_ (by show _ ≤ h'.objs.size; rw [hsz]; exact Nat.le_add_right _ _) hk (fun i v₁ v₂ => ∃ t, v₁ = .int (i : Int) t ∧ its[i]? = some v₂) ?_ hkind hx hx₂ hxx J h0 hlen ?_ fin (fun Q q => wpAny_pyIter_enum hE q)
  · intro b hb
    show b < h'.objs.size
    rw [hsz]
    have hb' : b = s.heap.objs.size + 1 ∨ b = s.heap.objs.size ∨ b = l := by simpa using hb
    rcases hb' with rfl | rfl | rfl
    · exact Nat.lt_succ_self _
    · exact Nat.lt_succ_of_lt (Nat.lt_succ_self _)
    · exact Nat.lt_succ_of_lt (Nat.lt_succ_of_lt hlt)
  · intro b hb
    have hb' : b = s.heap.objs.size + 1 ∨ b = s.heap.objs.size := by simpa using hb
    rcases hb' with rfl | rfl
    · exact new_above (Nat.le_succ _)
    · exact new_above (Nat.le_refl _)
  · rintro i vals ⟨t, x, hx, rfl⟩
    exact ⟨_, _, rfl, t, rfl, hx⟩
  · rintro C i v₁ v₂ ys h tk mC hi ⟨t, rfl, hv⟩ hJ e1 e2 hn
    exact step C i t v₂ ys h tk mC hv hJ e1 e2 hn

theorem src_zip {use : Option (Value → Sem Unit)} {Q : Value → Shared → Prop} {elt : Expr} {ifs : List Expr} {scope : Scope} {cl : List (Str × Addr)} {x x₂ : Str} {px px₂ tp : Pos} {tk1 : Nat} {l1 l2 : Addr} {xs ys' : Array Value}
    (hh : A.handled = none) (hl1 : s.heap.IsList l1 xs) (hl2 : s.heap.IsList l2 ys')
    (hkind : scope.kind = .function) (hx : scope.names.lookup x = some .local) (hx₂ : scope.names.lookup x₂ = some .local) (hxx : x ≠ x₂) (J : Nat → List Value → Prop) (h0 : J 0 []) (hlen : ∀ i ys, i ≤ min xs.size ys'.size → J i ys → ys.length ≤ sizeLine)
    (step : ∀ C i v₁ v₂ ys h tk mC, xs[i]? = some v₁ → ys'[i]? = some v₂ → J i ys → mC x = some v₁ → mC x₂ = some v₂ → Fr s.heap C h mC → TurnOf prog w A (compEnvC scope cl C env) ifs elt s mC h (J (i + 1)) ys tk)
    (fin : EndOf prog w A E use Q s (J (min xs.size ys'.size))) :
    wpAny (model prog w) A (call (.type "zip") [.ref l1, .ref l2]) (SrcG prog w A E use Q env scope cl (.Tuple [.Name x px, .Name x₂ px₂] tk1 tp) ifs elt) E s := by
  have hlt1 : l1 < s.heap.objs.size := by obtain ⟨_, e, _⟩ := hl1; exact Heap.lt_size e
  have hlt2 : l2 < s.heap.objs.size := by obtain ⟨_, e, _⟩ := hl2; exact Heap.lt_size e
  have D : ZipApart (s.heap.objs.size + 4) (s.heap.objs.size + 2) (s.heap.objs.size + 3) s.heap.objs.size (s.heap.objs.size + 1) l1 l2 := W.ktu_apart _ _ _ hlt1 hlt2
  refine call_zip_2 hl1 hl2 fun h' hz hTI hTO hi1 hi2 hsz hk => ?_
  refine src_pairs (s₂ := { s with heap := h' }) (hb := s.heap) hh (WalksT.zip2 hh _ _ _ _ _ _ _ D xs ys').toU
    ⟨hz, hTI, ⟨_, _, hTO⟩, hi1, hi2, items_keep hl1 hk, items_keep hl2 hk⟩ ?_ ?_ (by show _ ≤ h'.objs.size; rw [hsz]; exact Nat.le_add_right _ _) hk (fun i v₁ v₂ => xs[i]? = some v₁ ∧ ys'[i]? = some v₂) ?_ hkind hx hx₂ hxx J h0 hlen ?_ fin (fun Q q => wpAny_pyIter_zip hz q)
  · intro b hb
    show b < h'.objs.size
    rw [hsz]
    have hb' : b = s.heap.objs.size + 4 ∨ b = s.heap.objs.size + 2 ∨ b = s.heap.objs.size + 3 ∨ b = s.heap.objs.size ∨ b = s.heap.objs.size + 1 ∨ b = l1 ∨ b = l2 := by simpa using hb
    rcases hb' with rfl | rfl | rfl | rfl | rfl | rfl | rfl
    all_goals first | (refine Nat.lt_of_lt_of_le hlt1 ?_; exact Nat.le_add_right _ _) | (refine Nat.lt_of_lt_of_le hlt2 ?_; exact Nat.le_add_right _ _) | exact Nat.add_lt_add_left (by decide) _ | exact Nat.lt_add_of_pos_right (by decide)
  · intro b hb
    have hb' : b = s.heap.objs.size + 4 ∨ b = s.heap.objs.size + 3 ∨ b = s.heap.objs.size ∨ b = s.heap.objs.size + 1 := by simpa using hb
    rcases hb' with rfl | rfl | rfl | rfl
    all_goals first | exact new_above (Nat.le_add_right _ _) | exact new_above (Nat.le_refl _)
  · rintro i vals ⟨x, y, hx, hy, rfl⟩
    exact ⟨_, _, rfl, hx, hy⟩
  · rintro C i v₁ v₂ ys h tk mC hi ⟨hv1, hv2⟩ hJ e1 e2 hn
    exact step C i v₁ v₂ ys h tk mC hv1 hv2 hJ e1 e2 hn

/-- a comprehension as an expression -/
theorem eval_lc {elt iter target : Expr} {ifs : List Expr} {scope : Scope} {cl : List (Str × Addr)} {pos : Pos} {Q : Value → Shared → Prop}
    (hclos : closureFor scope env = pure cl) (hcell : ∀ y ∈ scope.names, y.2 ≠ .cell) (hkind : scope.kind = .function)
    (hnames : ∀ y ∈ scope.names, y.2 = .local → scope.names.lookup y.1 = some .local)
    (h : wpAny (model prog w) A (eval iter env) (SrcG prog w A E none Q env scope cl target ifs elt) E s)
    (hs : ∀ x, foldedSetIterable iter env x = pure x := by intro _; rfl) :
    wpAny (model prog w) A (eval (.ListComp elt [⟨target, iter, ifs, 0⟩] scope pos) env) Q E s := by
  rw [eval_ListComp]
  exact lc_gen hclos hcell hkind hnames h hs
/-- y = [..], y a name of the frame -/
theorem assign_lc {elt iter target : Expr} {ifs : List Expr} {scope : Scope} {cl : List (Str × Addr)} {y : Str} {py pos spos : Pos} {Q : Flow → Shared → Prop}
    (hsw : swapsWith (.ListComp elt [⟨target, iter, ifs, 0⟩] scope pos) (some (.Name y py)) spos.line env = pure true)
    (hclos : closureFor scope env = pure cl) (hcell : ∀ y ∈ scope.names, y.2 ≠ .cell) (hkind : scope.kind = .function)
    (hnames : ∀ y ∈ scope.names, y.2 = .local → scope.names.lookup y.1 = some .local)
    (h : wpAny (model prog w) A (eval iter env) (SrcG prog w A E (some (assign (.Name y py) env)) (fun _ s' => Q .next s') env scope cl target ifs elt) E s)
    (hs : ∀ x, foldedSetIterable iter env x = pure x := by intro _; rfl) :
    wpAny (model prog w) A (exec (.Assign [.Name y py] (.ListComp elt [⟨target, iter, ifs, 0⟩] scope pos) spos) env) Q E s := by
  rw [exec_Assign_Name_used _ _ _ _ hsw]
  refine wpAny_bind (wpAny_standAt (wpAny_bind ?_))
  show wpAny _ A (do let _ ← comprehension (.ListComp elt [⟨target, iter, ifs, 0⟩] scope pos) scope env _ (newList []) false (eval iter env) (some (assign (.Name y py) env))) _ _ s
  exact wpAny_bind (wpAny_mono (lc_gen (use := some (assign (.Name y py) env)) (Q := fun _ s' => Q .next s') hclos hcell hkind hnames h hs) (fun _ s' hq => wpAny_pure (wpAny_pure hq)) fun _ _ e => e)
end
theorem at_src {a b c d e f g h i j k l m n} (x : SrcG a b c d e f g h i j k l m n) : SrcG a b c d e f g h i j k l m n := x
local macro_rules | `(tactic| walk_at "mine at s") => `(tactic| with_reducible first | refine at_lc ?_ | refine at_as ?_ | refine at_en ?_ | refine at_zip ?_ | refine at_src ?_)
local macro_rules | `(tactic| walk_at "mine stop") => `(tactic| repeat' (first | (k_unfold; (try dsimp only)) | ((fail_if_success walk_at "mine at s"); first | walk1 | (dsimp only; walk1)) | fail "no step"))

-- part ctx
section
open PyProof.Rows.LCg
/-- a cell with its value -/
noncomputable def HasCell (h : Heap) (c : Addr) (v : Value) : Prop := ∃ o, h.get? c = some o ∧ o.data = .cell (some v)
theorem HasCell.keep {h h' : Heap} {c : Addr} {v : Value} (x : HasCell h c v) (k : ∀ b o, h.get? b = some o → h'.get? b = some o) : HasCell h' c v := let ⟨o, e, d⟩ := x; ⟨o, k _ _ e, d⟩
section
variable {M : Model} {A : Around} {E : Value → Shared → Prop} {s : Shared} {hb : Heap} {C c : Addr} {mC : Str → Option Value} {scope : Scope} {cl : List (Str × Addr)} {env : Env} {x : Str} {pos : Pos} {v : Value} {Q : Value → Shared → Prop}
theorem own_name (F : Fr hb C s.heap mC) (hx : mC x = some v) (h : Q v s)
    (hk : (compEnvC scope cl C env).scope.kind = .function := by rfl) (hl : (compEnvC scope cl C env).kindOf x = some .local := by rfl) (hd : (x == ("__debug__" : Str)) = false := by decide) :
    wpAny M A (eval (.Name x pos) (compEnvC scope cl C env)) Q E s := ldVarK F.ns hx h hk hl hd
theorem cell_name (F : Fr hb C s.heap mC) (hc : cl.lookup x = some c) (H : HasCell hb c v) (h : Q v s)
    (hk : (compEnvC scope cl C env).scope.kind = .function := by rfl) (hx : (compEnvC scope cl C env).kindOf x = some .cell := by rfl) (hb : (x == ("__debug__" : Str)) = false := by decide) :
    wpAny M A (eval (.Name x pos) (compEnvC scope cl C env)) Q E s := wpAny_Name (wpAny_loadName_cell hk hx hc (H.keep F.keep) h) hb
end
theorem news_of {g h : Heap} {C : Addr} {mC : Str → Option Value} (_F : Fr g C h mC) : News g C h (allOf g h C C) := news_all0
theorem news_list {g : Heap} {L D : Addr} {s : Shared} {h : Heap} {m : Str → Option Value} {news : List (Addr × Obj)} {o : Obj} (F : Fr g L s.heap m) (N : News g L s.heap news) (hD' : s.heap.objs.size ≤ D) (hDo : h.get? D = some o) (hk : ∀ b o, s.heap.get? b = some o → h.get? b = some o) :
    Fr g L h m ∧ News g L h ((D, o) :: news) ∧ L < D ∧ W.AllLt D news := by
  have hD : s.heap.get? D = none := Heap.get?_none_of_le hD'
  refine ⟨F.keptAll hk, fun p hp => ?_, Nat.lt_of_lt_of_le F.ns.lt hD', W.allLt_of fun p hp => Nat.lt_of_lt_of_le (Heap.lt_size (N p hp).1) hD'⟩
  rcases List.mem_cons.mp hp with rfl | hp
  · refine ⟨hDo, fun q => ?_, ?_⟩
    · obtain ⟨o, _, _, e, _⟩ := F.ns
      rw [← show D = L from q, hD] at e; cases e
    · cases q : g.get? D with
      | none => rfl
      | some o => rw [F.keep _ _ q] at hD; cases hD
  · exact N.grown hk p hp
theorem news_assign {g : Heap} {L D : Addr} {s : Shared} {h : Heap} {m : Str → Option Value} {news : List (Addr × Obj)} {o : Obj} (F : Fr g L s.heap m) (N : News g L s.heap news) (hD' : s.heap.objs.size ≤ D) (hDo : h.get? D = some o) (hk : ∀ b o, b ≠ L → s.heap.get? b = some o → h.get? b = some o) :
    News g L h ((D, o) :: news) ∧ L < D ∧ W.AllLt D news := by
  have hD : s.heap.get? D = none := Heap.get?_none_of_le hD'
  refine ⟨?_, Nat.lt_of_lt_of_le F.ns.lt hD', W.allLt_of fun p hp => Nat.lt_of_lt_of_le (Heap.lt_size (N p hp).1) hD'⟩
  intro p hp
  rcases List.mem_cons.mp hp with rfl | hp
  · refine ⟨hDo, fun q => ?_, ?_⟩
    · obtain ⟨o, _, _, e, _⟩ := F.ns
      rw [← show D = L from q, hD] at e; cases e
    · cases q : g.get? D with
      | none => rfl
      | some o => rw [F.keep _ _ q] at hD; cases hD
  · exact ⟨hk _ _ (N p hp).2.1 (N p hp).1, (N p hp).2⟩
/-- the values of v at the places below n where p holds -/
noncomputable def fl (p : Nat → Bool) (v : Nat → Int) (n : Nat) : List Int := ((List.range n).filter p).map v
theorem fl_zero (p : Nat → Bool) (v : Nat → Int) : fl p v 0 = [] := rfl
theorem fl_pos {p : Nat → Bool} {v : Nat → Int} {n : Nat} (h : p n = true) : fl p v (n + 1) = fl p v n ++ [v n] := by simp [fl, List.range_succ, List.filter_append, h]
theorem fl_neg {p : Nat → Bool} {v : Nat → Int} {n : Nat} (h : p n = false) : fl p v (n + 1) = fl p v n := by simp [fl, List.range_succ, List.filter_append, h]
theorem fl_len (p : Nat → Bool) (v : Nat → Int) (n : Nat) : (fl p v n).length ≤ n := by
  simp only [fl, List.length_map]
  exact Nat.le_trans (List.length_filter_le _ _) (by simp)
theorem ints_snoc {ys : List Value} {ns : List Int} {n : Int} {t : Tok} (h : IntsAre ys ns) : IntsAre (ys ++ [.int n t]) (ns ++ [n]) := h.append (.cons _ _ .nil)
theorem size_ok {n m : Nat} (h : n ≤ m) (hm : m ≤ 1000 := by omega) : n ≤ sizeLine := Nat.le_trans (Nat.le_trans h hm) (by decide)
theorem any_stop (n : Int) : ([0, 127].any fun x => x == n) = (n == 0 || n == 127) := by
  rw [Bool.eq_iff_iff]
  simp only [List.any_cons, List.any_nil, Bool.or_false, Bool.or_eq_true, beq_iff_eq]
  constructor
  · rintro (h | h)
    · exact .inl h.symm
    · exact .inr h.symm
  · rintro (h | h)
    · exact .inl h.symm
    · exact .inr h.symm
section
variable {prog : Program} {w : World} {A : Around} {E : Value → Shared → Prop} {s : Shared} {g : Heap} {L : Addr} {m : Str → Option Value} {news : List (Addr × Obj)}
theorem add_ints {l b : Addr} {vs ws : List Value} {ns ms : List Int} {Q : Value → Shared → Prop} (F : Fr g L s.heap m) (N : News g L s.heap news) (hl : s.heap.IsList l vs.toArray) (hb : s.heap.IsList b ws.toArray)
    (hi : IntsAre vs ns) (hj : IntsAre ws ms) (hsz : ns.length + ms.length ≤ 1000)
    (h : ∀ D h', Fr g L h' m → News g L h' ((D, W.listOf (vs ++ ws).toArray 0) :: news) → L < D ∧ W.AllLt D news → IntsAre (vs ++ ws) (ns ++ ms) → Q (.ref D) { s with heap := h' }) :
    wpAny (model prog w) A (binaryOp .Add (.ref l) (.ref b)) Q E s :=
  add_lists_ints F N hl hb hi hj (fun h' F' N' hI => h s.heap.objs.size h' F' N' ⟨F.ns.lt, W.allLt_of fun p hp => Heap.lt_size (N p hp).1⟩ hI) (Nat.le_trans hsz (by decide))
end
end
local macro_rules | `(tactic| walk_at "eval Name") => `(tactic| (k_here; (with_reducible show wpAny _ _ (eval (Expr.Name _ _) (compEnvC _ _ _ _)) _ _ _); k_dflt (first
  | refine own_name (by k_asm) (by assumption) ?_
  | refine cell_name (by k_asm) (by rfl) (by assumption) ?_)))
local macro_rules | `(tactic| walk_at "mine kept") => `(tactic| ((with_reducible show KeptH _ _ _ _ _); (rename WalkKept _ _ _ _ _ => kKK); (rename Fr _ _ _ _ => kF9); (rename News _ _ _ _ => kN9); first | exact kKK _ _ [] kF9 kN9 | exact kKK _ _ [_] kF9 kN9 | exact kKK _ _ [_, _] kF9 kN9 | exact kKK _ _ [_, _, _] kF9 kN9))
local macro_rules | `(tactic| walk_at "mine all") => `(tactic| first | exact List.forall_mem_nil _ | (refine List.forall_mem_cons.mpr ⟨by k_ne, ?_⟩; walk_at "mine all"))
local macro_rules | `(tactic| walk_at "mine upd") => `(tactic| first | (refine UpdF.tail (by k_ne) ?_; walk_at "mine upd") | (refine UpdF.head ?_; walk_at "mine all"))
local macro_rules | `(tactic| walk_at "storeName") => `(tactic| (k_here; k_dflt (
  (refine' storeX_C ?F ?N ?c ?U ?d ?_ ?a ?b; (case a => rfl); (case b => rfl); (case F => k_asm); (case N => k_asm); (case c => rfl); (case U => walk_at "mine upd"); (case d => k_asm); k_whole; intro h' o' F' N' d'; (try dsimp only at N'); (try k_sweep)))))

-- part endp
/-- the first place at which a size is a nought or 127 -/
noncomputable def stopN (ss : List Int) : Nat := ss.findIdx fun x => x == 0 || x == 127
noncomputable def stopP (ss : List Int) (j : Nat) : Bool := ss.getD j 1 == 0 || ss.getD j 1 == 127
theorem headD_append {α : Type} (xs : List α) (a b : α) : (xs ++ [a]).headD b = xs.headD a := by cases xs <;> rfl
theorem fl_head (p : Nat → Bool) (n : Nat) : ∃ k, k ≤ n ∧ (∀ j, j < k → p j = false) ∧ (k < n → p k = true) ∧ (fl p (fun j => (j : Int)) n = [] → k = n) ∧ ∀ d : Int, fl p (fun j => (j : Int)) n ≠ [] → (fl p (fun j => (j : Int)) n).headD d = (k : Int) ∧ k < n := by
  induction n with
  | zero => exact ⟨0, Nat.le_refl _, fun _ h => absurd h (Nat.not_lt_zero _), fun h => absurd h (Nat.lt_irrefl _), fun _ => rfl, fun d h => absurd rfl h⟩
  | succ n ih =>
    obtain ⟨k, hk, h1, h2, h3, h4⟩ := ih
    by_cases hp : p n = true
    · rw [fl_pos hp]
      refine ⟨k, Nat.le_succ_of_le hk, h1, fun h => ?_, fun h => by simp at h, fun d _ => ?_⟩
      · rcases Nat.lt_or_ge k n with q | q
        · exact h2 q
        · rw [Nat.le_antisymm hk q]; exact hp
      · rw [headD_append]
        by_cases q : fl p (fun j => (j : Int)) n = []
        · rw [q, h3 q]; exact ⟨rfl, Nat.lt_succ_self _⟩
        · exact ⟨(h4 _ q).1, Nat.lt_succ_of_lt (h4 0 q).2⟩
    · have hp' : p n = false := by simpa using hp
      rw [fl_neg hp']
      by_cases q : fl p (fun j => (j : Int)) n = []
      · have := h3 q
        subst this
        refine ⟨k + 1, Nat.le_refl _, fun j hj => ?_, fun h => absurd h (Nat.lt_irrefl _), fun _ => rfl, fun d h => absurd q h⟩
        rcases Nat.lt_or_ge j k with z | z
        · exact h1 j z
        · rw [Nat.le_antisymm (Nat.lt_succ_iff.mp hj) z]; exact hp'
      · exact ⟨k, Nat.le_succ_of_le hk, h1, fun _ => h2 (h4 0 q).2, fun z => absurd z q, fun d _ => ⟨(h4 d q).1, Nat.lt_succ_of_lt (h4 0 q).2⟩⟩
theorem getD_zero (xs : List Int) : xs.getD 0 0 = xs.headD 0 := by cases xs <;> rfl
theorem stopN_le (ss : List Int) : stopN ss ≤ ss.length := List.findIdx_le_length
theorem stopN_is (ss : List Int) (k : Nat) (hk : k ≤ ss.length) (h1 : ∀ j, j < k → stopP ss j = false) (h2 : k < ss.length → stopP ss k = true) : stopN ss = k := by
  rcases Nat.lt_or_ge k ss.length with q | q
  · refine (List.findIdx_eq q).mpr ⟨?_, fun j hj => ?_⟩
    · have := h2 q
      simpa [stopP, List.getD_eq_getElem?_getD, List.getElem?_eq_getElem q] using this
    · have := h1 j hj
      simpa [stopP, List.getD_eq_getElem?_getD, List.getElem?_eq_getElem (Nat.lt_trans hj q)] using this
  · have e : k = ss.length := Nat.le_antisymm hk q
    subst e
    refine List.findIdx_eq_length.mpr fun x hx => ?_
    obtain ⟨j, hj, rfl⟩ := List.getElem_of_mem hx
    have := h1 j hj
    simpa [stopP, List.getD_eq_getElem?_getD, List.getElem?_eq_getElem hj] using this
theorem stop_head (ss : List Int) : (fl (fun j => ss.getD j 1 == 0 || ss.getD j 1 == 127) (fun j => (j : Int)) ss.length ++ [(ss.length : Int)]).getD 0 0 = (stopN ss : Int) := by
  obtain ⟨k, hk, h1, h2, h3, h4⟩ := fl_head (stopP ss) ss.length
  rw [stopN_is ss k hk h1 h2, getD_zero, headD_append]
  show (fl (stopP ss) (fun j => (j : Int)) ss.length).headD _ = _
  by_cases q : fl (stopP ss) (fun j => (j : Int)) ss.length = []
  · rw [q, h3 q]; rfl
  · exact (h4 _ q).1
noncomputable def headL (ss : List Int) : List Int := ss.take (stopN ss)
noncomputable def endlessB (ss : List Int) : Bool := decide ((ss.drop (stopN ss)).take 1 = [0])
noncomputable def sumsL (ss : List Int) : List Int := fl (fun _ => true) (fun c => ((headL ss).take c).sum) ((headL ss).length + 1)
noncomputable def beyondL (ss : List Int) (total : Int) : List Int := if endlessB ss then fl (fun _ => true) (fun i => (headL ss).sum + (headL ss).getLastD 0 * (1 + (i : Int))) (total - 1).toNat else []
noncomputable def endsL (ss : List Int) (total : Int) : List Int := fl (fun i => ((sumsL ss).any fun x => x == 1 + (i : Int)) || (beyondL ss total).any fun x => x == 1 + (i : Int)) (fun i => 1 + (i : Int)) (total - 1).toNat ++ [total]

-- part end1
noncomputable def eStmt : Stmt := match PySem.Challenge.pw_pa0027_01.main.body.reverse with | _ :: _ :: st :: _ => st | _ => .Pass ⟨0, 0, 0, 0⟩
noncomputable def eBody : List Stmt := match eStmt with | .FunctionDef _ _ b _ _ _ _ _ _ _ => b | _ => []
noncomputable def eScope : Scope := match eStmt with | .FunctionDef _ _ _ _ _ _ sc _ _ _ => sc | _ => default
noncomputable def eS (k : Nat) : List Stmt := match eBody.drop k with | st :: _ => [st] | [] => []
noncomputable def eC (k : Nat) (rest : List Stmt) : List Stmt := match eBody.drop k with | st :: _ => st :: rest | [] => rest
noncomputable abbrev eEnv (L : Addr) : Env := envOfC (Str.ofString "_law_ends") eScope L 137 (.ref 136)
theorem ends_1 {w : World} {mean : ExcName → Option Value} {mg mb : Str → Option Value} {g : Heap} {L a : Addr} {dp : Nat} {fr : Option (List Env)} {gd : Option (List Code)} {un : Nat} {m : Str → Option Value} {cells : List (Addr × Obj)} {ss : List Int} {vs : List Value} {rest : List Stmt} {Q : Flow → Shared → Prop} {E : Value → Shared → Prop} (X : (hd.heap_39 w.params).In g) (T : Top hd.view_39 lo mean mg mb g) (s : Shared)
    (F : Fr g L s.heap m) (N : News g L s.heap cells) (h1 : m (Str.ofString "sizes") = some (.ref a)) (hlist : g.IsList a vs.toArray) (hvs : IntsAre vs ss) (hl : ss.length ≤ 20) (hdp : dp + 7 < 850)
    (hQ : ∀ h tk t, Fr g L h (fun y => if y = Str.ofString "stop" then some (.int (stopN ss : Int) t) else m y) → News g L h cells → wpAny (model PySem.Challenge.rw_pa0027_01.row.prog w) ((AA dp fr gd un).deeper (eEnv L)) (execs rest (eEnv L)) Q E { s with heap := h, toks := tk }) :
    wpAny (model PySem.Challenge.rw_pa0027_01.row.prog w) ((AA dp fr gd un).deeper (eEnv L)) (execs (eC 0 rest) (eEnv L)) Q E s := by
  w_strict (
  revert X T
  k_fill
  intro X T
  obtain ⟨m, rfl⟩ := open_m h1
  with_unfolding_all refine wpAny_execs_cons ?_
  walk_at "mine stop"
  k_dflt (refine eval_lc (by with_unfolding_all rfl) (by decide) (by rfl) (by decide) ?_)
  walk_at "mine stop"
  rename Fr _ _ _ _ => kF
  rename News _ _ _ _ => kN
  refine src_enum (by rfl) (items_keep hlist kF.keep) (by rfl) (by rfl) (by rfl) (by decide) (fun i ys => IntsAre ys (fl (fun j => ss.getD j 1 == 0 || ss.getD j 1 == 127) (fun j => (j : Int)) i)) .nil ?len ?step ?fin
  (case len =>
    intro i ys hi h
    have := hvs.length
    have h2 := fl_len (fun j => ss.getD j 1 == 0 || ss.getD j 1 == 127) (fun j => (j : Int)) i
    have h3 : i ≤ vs.length := by simpa using hi
    rw [← h.length] at h2
    exact size_ok h2)
  (case step =>
    intro C i t v ys h tk mC hv hJ e1 e2 F0 E'
    have X2 := X.keeps kF.keep
    have T2 := Top.keeps T kF.keep
    obtain ⟨n, t2, rfl, hns⟩ := hvs.at i v (by simpa using hv)
    have hD : ss.getD i 1 = n := by rw [List.getD_eq_getElem?_getD, hns]; rfl
    clear kF kN X T
    have N0 := news_of F0
    have KK := walk_kept (s₂ := { s with heap := h }) F0
    k_steps
    all_goals first | walk_at "mine kept" | skip
    (· rename_i q
       rw [fl_pos (by rw [hD, ← any_stop]; exact q)]
       exact ints_snoc hJ)
    (· rename_i q
       rw [fl_neg (by rw [hD, ← any_stop]; exact q)]
       exact hJ))
  (case fin =>
   refine end_eval fun D ys h tk hJ hD hDo hk => ?_
   obtain ⟨F2, N2, lD, oD⟩ := news_list kF kN hD hDo hk
   have l2 := fl_len (fun j => ss.getD j 1 == 0 || ss.getD j 1 == 127) (fun j => (j : Int)) vs.toArray.size
   clear kF kN hD hDo hk
   walk_at "mine stop"
   have hz : vs.toArray.size = ss.length := by simpa using hvs.length
   rw [hz] at hJ l2
   have hst := stop_head ss
   generalize hpl : fl (fun j => ss.getD j 1 == 0 || ss.getD j 1 == 127) (fun j => (j : Int)) ss.length = pl at hJ l2 hst
   rename Fr _ _ _ _ => kF
   rename News _ _ _ _ => kN
   refine add_ints kF kN (News.isList kN (.tail _ (.head _))) (News.isList kN (.head _)) hJ (IntsAre.cons _ _ .nil) (by show pl.length + 1 ≤ 1000; omega) ?_
   intro D2 h2 F2 N2 oD2 hI
   clear kF kN hJ
   walk1
   walk1
   (try dsimp only)
   rw [show ((0 : Int).toNat) = 0 from rfl, hst]
   have hst1 := stopN_le ss
   clear hI hst l2
   generalize hstN : stopN ss = st at hst1 hQ
   walk_at "mine stop"
   rename Fr _ _ _ _ => kF
   rename News _ _ _ _ => kN
   exact hQ _ _ _ kF kN.tail'.tail'.tail'))


-- part end2
theorem ne_cell {g h : Heap} {L D c : Addr} {news : List (Addr × Obj)} {its : Array Value} {n : Nat} {o : Obj} {v : Option Value} (N : News g L h news) (hD : (D, W.listOf its n) ∈ news) (hc : (c, o) ∈ news) (ho : o.data = .cell v) : @Ne Nat D c := fun q => by
  have e1 := (N _ hD).1
  have e2 := (N _ hc).1
  rw [show D = c from q, e2] at e1
  have e3 : o = W.listOf its n := Option.some.inj e1
  rw [e3] at ho
  cases ho
theorem end2_take {ss : List Int} {st : Nat} (h : st ≤ ss.length) : (ss.drop st).take (min ((st : Int) + 1).toNat ss.length - st) = (ss.drop st).take 1 := by
  rcases Nat.lt_or_ge st ss.length with q | q
  · rw [show min ((st : Int) + 1).toNat ss.length - st = 1 by omega]
  · rw [List.drop_of_length_le q]; simp
theorem ends_2 {w : World} {mean : ExcName → Option Value} {mg mb : Str → Option Value} {g : Heap} {L a : Addr} {dp : Nat} {fr : Option (List Env)} {gd : Option (List Code)} {un : Nat} {m : Str → Option Value} {o1 o2 o3 : Obj} {v1 v2 v3 : Option Value} {ss : List Int} {vs : List Value} {st : Nat} {t0 : Tok} {rest : List Stmt} {Q : Flow → Shared → Prop} {E : Value → Shared → Prop} (X : (hd.heap_39 w.params).In g) (T : Top hd.view_39 lo mean mg mb g) (s : Shared)
    (F : Fr g L s.heap m) (N : News g L s.heap [(L + 1 + 1 + 1, o3), (L + 1 + 1, o2), (L + 1, o1)]) (d1 : o1.data = .cell v1) (d2 : o2.data = .cell v2) (d3 : o3.data = .cell v3) (h1 : m (Str.ofString "sizes") = some (.ref a)) (h2 : m (Str.ofString "stop") = some (.int (st : Int) t0)) (hlist : g.IsList a vs.toArray) (hvs : IntsAre vs ss) (hl : ss.length ≤ 20) (hst : st ≤ ss.length) (hdp : dp + 7 < 850) (hun : un + 80 < 9000)
    (hQ : ∀ h tk D ws o1' m', @Ne Nat D (L + 1 + 1 + 1) → @Ne Nat D (L + 1 + 1) → @Ne Nat D (L + 1) → o1'.data = .cell (some (.ref D)) → IntsAre ws (ss.take st) → Fr g L h m' → m' (Str.ofString "sizes") = some (.ref a) → m' (Str.ofString "stop") = some (.int (st : Int) t0) → m' (Str.ofString "endless") = some (.bool (decide ((ss.drop st).take 1 = [0]))) → (∀ k, k ≠ Str.ofString "endless" → m' k = m k) →
      News g L h [(D, W.listOf ws.toArray 0), (L + 1 + 1 + 1, o3), (L + 1 + 1, o2), (L + 1, o1')] → wpAny (model PySem.Challenge.rw_pa0027_01.row.prog w) ((AA dp fr gd un).deeper (eEnv L)) (execs rest (eEnv L)) Q E { s with heap := h, toks := tk }) :
    wpAny (model PySem.Challenge.rw_pa0027_01.row.prog w) ((AA dp fr gd un).deeper (eEnv L)) (execs (eC 1 rest) (eEnv L)) Q E s := by
  w_strict (
  revert X T
  k_fill
  intro X T
  obtain ⟨m, rfl⟩ := open_m2 h1 h2
  with_unfolding_all refine wpAny_execs_cons ?_
  walk_at "mine stop"
  simp only [Int.toNat_natCast] at *
  rename Fr _ _ _ _ => kF
  rename News _ _ _ _ => kN
  refine hQ _ _ _ _ _ _ ?l1 ?l2 ?l3 ?d ?i kF rfl rfl ?e ?k kN.tail'.tail'.tail'
  (case d => assumption)
  (case i => assumption)
  (case l1 => exact ne_cell kN (.tail _ (.tail _ (.tail _ (.head _)))) (.tail _ (.tail _ (.tail _ (.tail _ (.head _))))) d3)
  (case l2 => exact ne_cell kN (.tail _ (.tail _ (.tail _ (.head _)))) (.tail _ (.tail _ (.tail _ (.tail _ (.tail _ (.head _)))))) d2)
  (case l3 => exact ne_cell kN (.tail _ (.tail _ (.tail _ (.head _)))) (.tail _ (.tail _ (.tail _ (.tail _ (.tail _ (.tail _ (.head _))))))) (by assumption))
  (case k =>
    intro k hk
    rw [if_neg hk])
  (case e =>
    simp only [if_true, end2_take hst]))

-- part end3
theorem ends_3 {w : World} {mean : ExcName → Option Value} {mg mb : Str → Option Value} {g : Heap} {L D : Addr} {dp : Nat} {fr : Option (List Env)} {gd : Option (List Code)} {un : Nat} {m : Str → Option Value} {o1 o2 o3 : Obj} {v2 v3 : Option Value} {ks : List Int} {ws : List Value} {rest : List Stmt} {Q : Flow → Shared → Prop} {E : Value → Shared → Prop} (X : (hd.heap_39 w.params).In g) (T : Top hd.view_39 lo mean mg mb g) (s : Shared)
    (F : Fr g L s.heap m) (N : News g L s.heap [(D, W.listOf ws.toArray 0), (L + 1 + 1 + 1, o3), (L + 1 + 1, o2), (L + 1, o1)]) (d1 : o1.data = .cell (some (.ref D))) (d2 : o2.data = .cell v2) (d3 : o3.data = .cell v3) (n1 : @Ne Nat D (L + 1 + 1 + 1)) (n2 : @Ne Nat D (L + 1 + 1)) (n3 : @Ne Nat D (L + 1)) (hws : IntsAre ws ks) (hl : ks.length ≤ 20) (hp : ∀ x ∈ ks, 0 ≤ x) (hB : ∀ x ∈ ks, x ≤ 1000) (hdp : dp + 7 < 850) (hun : un + 80 < 9000)
    (hQ : ∀ h tk D' ys o2', @Ne Nat D' (L + 1 + 1 + 1) → @Ne Nat D' (L + 1 + 1) → @Ne Nat D' (L + 1) → o2'.data = .cell (some (.ref D')) → IntsAre ys (fl (fun _ => true) (fun c => (ks.take c).sum) (ks.length + 1)) → Fr g L h m →
      News g L h [(D', W.listOf ys.toArray ys.length), (D, W.listOf ws.toArray 0), (L + 1 + 1 + 1, o3), (L + 1 + 1, o2'), (L + 1, o1)] → wpAny (model PySem.Challenge.rw_pa0027_01.row.prog w) ((AA dp fr gd un).deeper (eEnv L)) (execs rest (eEnv L)) Q E { s with heap := h, toks := tk }) :
    wpAny (model PySem.Challenge.rw_pa0027_01.row.prog w) ((AA dp fr gd un).deeper (eEnv L)) (execs (eC 2 rest) (eEnv L)) Q E s := by
  w_strict (
  revert X T
  k_fill
  intro X T
  with_unfolding_all refine wpAny_execs_cons ?_
  refine wpAny_Assign_Name ?_ (by with_unfolding_all rfl)
  k_dflt (refine eval_lc (by with_unfolding_all rfl) (by decide) (by rfl) (by decide) ?_)
  walk_at "mine stop"
  rename IsRange _ _ _ _ _ _ _ _ => hr
  rename Fr _ _ _ _ => kF
  rename News _ _ _ _ => kN
  rename_i hk0
  refine src_range (ks.length + 1) (by rfl) hr (small_one (by omega) (by omega) (by omega) (by omega)) (by rw [rangeSize_nat]; omega) (by rfl) (by rfl) (fun i ys => IntsAre ys (fl (fun _ => true) (fun c => (ks.take c).sum) i)) .nil ?len ?step ?fin
  (case len =>
    intro i ys hi h
    have h2 := fl_len (fun _ => true) (fun c => (ks.take c).sum) i
    rw [← h.length] at h2
    exact size_ok h2)
  (case step =>
    intro C i t ys h tk mC hi hJ e1 F0 E'
    have X2 := X.keeps kF.keep
    have T2 := Top.keeps T kF.keep
    have hc1 : HasCell _ (L + 1) (.ref D) := ⟨o1, (kN _ (.tail _ (.tail _ (.tail _ (.head _))))).1, d1⟩
    have hl1 := News.isList kN (.head _)
    clear kF kN X T hr hk0
    have N0 := news_of F0
    have KK := walk_kept (s₂ := { s with heap := h }) F0
    rw [Int.zero_add] at e1
    k_steps
    all_goals first | walk_at "mine kept" | skip
    (rw [fl_pos rfl, ← Int.toNat_natCast i]
     simp only [Int.toNat_natCast] at *
     exact ints_snoc hJ))
  (case fin =>
   refine end_eval fun D' ys h tk hJ hD hDo hk => ?_
   obtain ⟨F2, N2, lD, oD⟩ := news_list kF kN hD hDo hk
   simp only [W.AllLt, and_true] at oD
   clear kF kN hD hDo hk hr hk0
   walk_at "mine stop"
   rename Fr _ _ _ _ => kF
   rename News _ _ _ _ => kN
   exact hQ _ _ _ _ _ (by omega) (by omega) (by omega) (by assumption) hJ kF kN))

-- part end4
theorem last_is (xs : List Int) : xs.getD (-1 + (xs.length : Int)).toNat 0 = xs.getLastD 0 := by
  rw [List.getLastD_eq_getLast?, List.getLast?_eq_getElem?, show (-1 + (xs.length : Int)).toNat = xs.length - 1 by omega, List.getD_eq_getElem?_getD]
theorem ends_4 {w : World} {mean : ExcName → Option Value} {mg mb : Str → Option Value} {g : Heap} {L D D2 : Addr} {dp : Nat} {fr : Option (List Env)} {gd : Option (List Code)} {un : Nat} {m : Str → Option Value} {o1 o2 o3 : Obj} {v3 : Option Value} {ks sm : List Int} {ws us : List Value} {b : Bool} {total : Int} {tt : Tok} {k2 : Nat} {rest : List Stmt} {Q : Flow → Shared → Prop} {E : Value → Shared → Prop} (X : (hd.heap_39 w.params).In g) (T : Top hd.view_39 lo mean mg mb g) (s : Shared)
    (F : Fr g L s.heap m) (N : News g L s.heap [(D2, W.listOf us.toArray k2), (D, W.listOf ws.toArray 0), (L + 1 + 1 + 1, o3), (L + 1 + 1, o2), (L + 1, o1)]) (d1 : o1.data = .cell (some (.ref D))) (d2 : o2.data = .cell (some (.ref D2))) (d3 : o3.data = .cell v3) (n1 : @Ne Nat D (L + 1 + 1 + 1)) (n2 : @Ne Nat D (L + 1 + 1)) (n3 : @Ne Nat D (L + 1)) (n4 : @Ne Nat D2 (L + 1 + 1 + 1)) (n5 : @Ne Nat D2 (L + 1 + 1)) (n6 : @Ne Nat D2 (L + 1)) (h1 : m (Str.ofString "endless") = some (.bool b)) (h2 : m (Str.ofString "total") = some (.int total tt)) (hws : IntsAre ws ks) (hus : IntsAre us sm) (hl : ks.length ≤ 20) (hl2 : sm.length ≤ 21) (hne : b = true → 0 < ks.length) (hne2 : 0 < sm.length) (hp : ∀ x ∈ ks, 0 ≤ x) (hB : ∀ x ∈ ks, x ≤ 1000) (hp2 : ∀ x ∈ sm, 0 ≤ x) (hB2 : ∀ x ∈ sm, x ≤ 20000) (ht1 : 1 ≤ total) (ht2 : total ≤ 200) (hdp : dp + 7 < 850) (hun : un + 80 < 9000)
    (hQ : ∀ h tk D' ys n o3', @Ne Nat D' (L + 1 + 1 + 1) → @Ne Nat D' (L + 1 + 1) → @Ne Nat D' (L + 1) → o3'.data = .cell (some (.ref D')) → IntsAre ys (if b = true then fl (fun _ => true) (fun i => sm.getLastD 0 + ks.getLastD 0 * (1 + (i : Int))) (total - 1).toNat else []) → Fr g L h m →
      News g L h [(D', W.listOf ys.toArray n), (D2, W.listOf us.toArray k2), (D, W.listOf ws.toArray 0), (L + 1 + 1 + 1, o3'), (L + 1 + 1, o2), (L + 1, o1)] → wpAny (model PySem.Challenge.rw_pa0027_01.row.prog w) ((AA dp fr gd un).deeper (eEnv L)) (execs rest (eEnv L)) Q E { s with heap := h, toks := tk }) :
    wpAny (model PySem.Challenge.rw_pa0027_01.row.prog w) ((AA dp fr gd un).deeper (eEnv L)) (execs (eC 3 rest) (eEnv L)) Q E s := by
  w_strict (
  revert X T
  k_fill
  intro X T
  obtain ⟨m, rfl⟩ := open_m2 h1 h2
  with_unfolding_all refine wpAny_execs_cons ?_
  walk_at "mine stop"
  (· rename_i hb
     subst hb
     k_dflt (refine eval_lc (by with_unfolding_all rfl) (by decide) (by rfl) (by decide) ?_)
     walk_at "mine stop"
     rename IsRange _ _ _ _ _ _ _ _ => hr
     rename Fr _ _ _ _ => kF
     rename News _ _ _ _ => kN
     rename_i hk0
     refine src_range (total - 1).toNat (by rfl) hr (small_one (by omega) (by omega) (by omega) (by omega)) (by rw [rangeSize_nat]) (by rfl) (by rfl) (fun i ys => IntsAre ys (fl (fun _ => true) (fun i => sm.getLastD 0 + ks.getLastD 0 * (1 + (i : Int))) i)) .nil ?len ?step ?fin
     (case len =>
       intro i ys hi h
       have h2 := fl_len (fun _ => true) (fun i => sm.getLastD 0 + ks.getLastD 0 * (1 + (i : Int))) i
       rw [← h.length] at h2
       exact size_ok h2)
     (case step =>
       intro C i t ys h tk mC hi hJ e1 F0 E'
       have X2 := X.keeps kF.keep
       have T2 := Top.keeps T kF.keep
       have hc1 : HasCell _ (L + 1) (.ref D) := ⟨o1, (kN _ (.tail _ (.tail _ (.tail _ (.tail _ (.head _)))))).1, d1⟩
       have hc2 : HasCell _ (L + 1 + 1) (.ref D2) := ⟨o2, (kN _ (.tail _ (.tail _ (.tail _ (.head _))))).1, d2⟩
       have hl1 := News.isList kN (.tail _ (.head _))
       have hl2 := News.isList kN (.head _)
       clear kF kN X T hr hk0
       have N0 := news_of F0
       have KK := walk_kept (s₂ := { s with heap := h }) F0
       k_steps
       all_goals first | walk_at "mine kept" | skip
       (rename IntsAre ys _ => hJ
        rw [fl_pos rfl, last_is, last_is]
        exact ints_snoc hJ))
     (case fin =>
      refine end_eval fun D' ys h tk hJ hD hDo hk => ?_
      obtain ⟨F2, N2, lD, oD⟩ := news_list kF kN hD hDo hk
      simp only [W.AllLt, and_true] at oD
      clear kF kN hD hDo hk hr hk0
      walk_at "mine stop"
      rename Fr _ _ _ _ => kF
      rename News _ _ _ _ => kN
      exact hQ _ _ _ _ _ _ (by omega) (by omega) (by omega) (by assumption) (by rw [if_pos rfl]; exact hJ) kF kN))
  (· rename_i hb _ _ _ _ _ _ _ _
     rename Fr _ _ _ _ => kF
     rename News _ _ _ _ => kN
     subst hb
     exact hQ _ _ _ _ _ _ (by omega) (by omega) (by omega) (by assumption) (by rw [if_neg (by decide)]; exact .nil) kF kN))

-- part end5
theorem ends_5 {w : World} {mean : ExcName → Option Value} {mg mb : Str → Option Value} {g : Heap} {L D D2 D3 : Addr} {dp : Nat} {fr : Option (List Env)} {gd : Option (List Code)} {un : Nat} {m : Str → Option Value} {o1 o2 o3 : Obj} {sm bs : List Int} {ws us xs : List Value} {total : Int} {tt : Tok} {k2 k3 : Nat} {Q : Flow → Shared → Prop} {E : Value → Shared → Prop} (X : (hd.heap_39 w.params).In g) (T : Top hd.view_39 lo mean mg mb g) (s : Shared)
    (F : Fr g L s.heap m) (N : News g L s.heap [(D3, W.listOf xs.toArray k3), (D2, W.listOf us.toArray k2), (D, W.listOf ws.toArray 0), (L + 1 + 1 + 1, o3), (L + 1 + 1, o2), (L + 1, o1)]) (d1 : o1.data = .cell (some (.ref D))) (d2 : o2.data = .cell (some (.ref D2))) (d3 : o3.data = .cell (some (.ref D3))) (h2 : m (Str.ofString "total") = some (.int total tt)) (hus : IntsAre us sm) (hxs : IntsAre xs bs) (hl2 : sm.length ≤ 21) (hl3 : bs.length ≤ 200) (ht1 : 1 ≤ total) (ht2 : total ≤ 200) (hdp : dp + 7 < 850) (hun : un + 80 < 9000)
    (hQ : ∀ h tk D' ys n, IntsAre ys (fl (fun i => (sm.any fun x => x == 1 + (i : Int)) || bs.any fun x => x == 1 + (i : Int)) (fun i => 1 + (i : Int)) (total - 1).toNat ++ [total]) → Fr g L h m →
      News g L h [(D', W.listOf ys.toArray n)] → Q (.ret (.ref D')) { s with heap := h, toks := tk }) :
    wpAny (model PySem.Challenge.rw_pa0027_01.row.prog w) ((AA dp fr gd un).deeper (eEnv L)) (execs (eS 4) (eEnv L)) Q E s := by
  w_strict (
  revert X T
  k_fill
  intro X T
  obtain ⟨m, rfl⟩ := open_m h2
  with_unfolding_all refine wpAny_execs_cons ?_
  walk_at "mine stop"
  k_dflt (refine eval_lc (by with_unfolding_all rfl) (by decide) (by rfl) (by decide) ?_)
  walk_at "mine stop"
  rename IsRange _ _ _ _ _ _ _ _ => hr
  rename Fr _ _ _ _ => kF
  rename News _ _ _ _ => kN
  rename_i hk0
  refine src_range (total - 1).toNat (by rfl) hr (small_one (by omega) (by omega) (by omega) (by omega)) (by rw [rangeSize_nat]) (by rfl) (by rfl) (fun i ys => IntsAre ys (fl (fun i => (sm.any fun x => x == 1 + (i : Int)) || bs.any fun x => x == 1 + (i : Int)) (fun i => 1 + (i : Int)) i)) .nil ?len ?step ?fin
  (case len =>
    intro i ys hi h
    have h2 := fl_len (fun i => (sm.any fun x => x == 1 + (i : Int)) || bs.any fun x => x == 1 + (i : Int)) (fun i => 1 + (i : Int)) i
    rw [← h.length] at h2
    exact size_ok h2)
  (case step =>
    intro C i t ys h tk mC hi hJ e1 F0 E'
    have X2 := X.keeps kF.keep
    have T2 := Top.keeps T kF.keep
    have hc1 : HasCell _ (L + 1 + 1 + 1) (.ref D3) := ⟨o3, (kN _ (.tail _ (.tail _ (.tail _ (.head _))))).1, d3⟩
    have hc2 : HasCell _ (L + 1 + 1) (.ref D2) := ⟨o2, (kN _ (.tail _ (.tail _ (.tail _ (.tail _ (.head _)))))).1, d2⟩
    have hl1 := News.isList kN (.tail _ (.head _))
    have hl2 := News.isList kN (.head _)
    clear kF kN X T hr hk0
    have N0 := news_of F0
    have KK := walk_kept (s₂ := { s with heap := h }) F0
    k_steps
    all_goals first | walk_at "mine kept" | skip
    (· rename_i q
       rw [fl_pos (by rw [q]; rfl)]
       exact ints_snoc hJ)
    (· rename_i q1 q2
       rw [fl_pos (by rw [q1, q2]; rfl)]
       exact ints_snoc hJ)
    (· rename_i q1 q2
       dsimp only
       rw [fl_neg (by rw [q1, q2]; rfl)]
       exact hJ))
  (case fin =>
   refine end_eval fun D' ys h tk hJ hD hDo hk => ?_
   obtain ⟨F2, N2, lD, oD⟩ := news_list kF kN hD hDo hk
   simp only [W.AllLt, and_true] at oD
   have l2 := fl_len (fun i => (sm.any fun x => x == 1 + (i : Int)) || bs.any fun x => x == 1 + (i : Int)) (fun i => 1 + (i : Int)) (total - 1).toNat
   clear kF kN hD hDo hk hr hk0
   walk_at "mine stop"
   rename Fr _ _ _ _ => kF
   rename News _ _ _ _ => kN
   rename IntsAre _ (_ ++ _) => hI
   exact hQ _ _ _ _ _ hI kF (fun p hp => kN p (by rw [List.mem_singleton.mp hp]; exact .head _))))

-- part end6
theorem headL_mem {ss : List Int} {x : Int} (h : x ∈ headL ss) : x ∈ ss := List.mem_of_mem_take h
theorem sum_bound : ∀ {l : List Int} {B : Int}, (∀ x ∈ l, 0 ≤ x ∧ x ≤ B) → 0 ≤ l.sum ∧ l.sum ≤ B * l.length
  | [], B, _ => by simp
  | x :: r, B, h => by
    have h1 := h x (.head _)
    have h2 := sum_bound (B := B) fun y hy => h y (.tail _ hy)
    simp only [List.sum_cons, List.length_cons, Int.natCast_add, Int.mul_add, Int.natCast_one, Int.mul_one]
    omega
theorem fl_all (v : Nat → Int) (n : Nat) : fl (fun _ => true) v n = (List.range n).map v := by
  unfold fl
  rw [List.filter_eq_self.mpr (fun _ _ => rfl)]
theorem sums_last (ks : List Int) : (fl (fun _ => true) (fun c => (ks.take c).sum) (ks.length + 1)).getLastD 0 = ks.sum := by
  rw [fl_pos rfl, List.getLastD_concat, List.take_length]
theorem sums_mem {ks : List Int} {x : Int} (h : x ∈ fl (fun _ => true) (fun c => (ks.take c).sum) (ks.length + 1)) : ∃ c, c ≤ ks.length ∧ x = (ks.take c).sum := by
  rw [fl_all] at h
  obtain ⟨c, hc, rfl⟩ := List.mem_map.mp h
  exact ⟨c, Nat.lt_succ_iff.mp (List.mem_range.mp hc), rfl⟩
theorem law_ends : ∀ (w : World) (a : Addr) (ss : List Int) (vs : List Value) (total : Int) (t : Tok), IntsAre vs ss → ss.length ≤ 20 → 1 ≤ total → total ≤ 200 → (∀ x ∈ ss, 0 ≤ x) → (∀ x ∈ ss, x ≤ 1000) → ss[0]? ≠ some 0 →
    ∀ (mean : ExcName → Option Value) (mg mb : Str → Option Value) (dp : Nat) (fr : Option (List Env)) (gd : Option (List Code)) (un : Nat) (s : Shared) (Q E : Value → Shared → Prop),
    (hd.heap_39 w.params).In s.heap → Top hd.view_39 lo mean mg mb s.heap → dp + 7 < 850 → un + 80 < 9000 → s.heap.IsList a vs.toArray →
    (∀ p ys n s', IntsAre ys (endsL ss total) → s'.heap.get? p = some (W.listOf ys.toArray n) → s.heap.get? p = none → Keeps s s' → Q (.ref p) s') →
    wpAny (model PySem.Challenge.rw_pa0027_01.row.prog w) (AA dp fr gd un) (call (.ref 137) [.ref a, .int total t] []) Q E s := by
  w_strict (
  k_fill
  intro w a ss vs total t hvs hl ht1 ht2 hp hB h0 mean mg mb dp fr gd un s Q E X T hdp hun hlist hQ
  walk_at "mine enterC"
  rename Fr _ _ _ _ => kF
  rename News _ _ _ _ => kN
  rename_i d1 d2 d3
  with_unfolding_all refine ends_1 X T _ kF kN rfl hlist hvs hl hdp ?_
  intro h2 tk2 t2 F2 N2
  clear kF kN
  with_unfolding_all refine ends_2 X T _ F2 N2 d3 d2 d1 rfl rfl hlist hvs hl (stopN_le ss) hdp hun ?_
  intro h3 tk3 D ws o1' m3 n1 n2 n3 e1 hws F3 hs1 hs2 hs3 hs4 N3
  have hkl : (headL ss).length ≤ 20 := Nat.le_trans (List.length_take_le' _ _) hl
  have hkb : ∀ x ∈ headL ss, 0 ≤ x ∧ x ≤ 1000 := fun x hx => ⟨hp x (headL_mem hx), hB x (headL_mem hx)⟩
  with_unfolding_all refine ends_3 X T _ F3 N3 e1 d2 d1 n1 n2 n3 hws hkl (fun x hx => (hkb x hx).1) (fun x hx => (hkb x hx).2) hdp hun ?_
  intro h4 tk4 D2 us o2' q1 q2 q3 e2 hus F4 N4
  have htot : m3 (Str.ofString "total") = some (.int total t) := (hs4 _ (by decide)).trans rfl
  have hsl : (sumsL ss).length ≤ 21 := Nat.le_trans (fl_len _ _ _) (by omega)
  have hsb : ∀ x ∈ sumsL ss, 0 ≤ x ∧ x ≤ 20000 := fun x hx => by
    obtain ⟨c, hc, rfl⟩ := sums_mem hx
    have := sum_bound (l := (headL ss).take c) (B := 1000) fun y hy => hkb y (List.mem_of_mem_take hy)
    have h2 : ((headL ss).take c).length ≤ 20 := Nat.le_trans (List.length_take_le' _ _) hkl
    omega
  have hne : endlessB ss = true → 0 < (headL ss).length := fun he => by
    unfold endlessB at he
    have he := of_decide_eq_true he
    unfold headL
    rw [List.length_take]
    have hpos : 0 < stopN ss := by
      rcases Nat.eq_zero_or_pos (stopN ss) with q | q
      · rw [q] at he
        exfalso
        apply h0
        cases ss with
        | nil => simp at he
        | cons x r => simp at he; simp [he]
      · exact q
    have : 0 < ss.length := Nat.lt_of_lt_of_le hpos (stopN_le ss)
    omega
  with_unfolding_all refine ends_4 X T _ F4 N4 e1 e2 d1 n1 n2 n3 q1 q2 q3 hs3 htot hws hus hkl hsl hne (by rw [fl_all]; simp) (fun x hx => (hkb x hx).1) (fun x hx => (hkb x hx).2) (fun x hx => (hsb x hx).1) (fun x hx => (hsb x hx).2) ht1 ht2 hdp hun ?_
  intro h5 tk5 D3 ys k3 o3' r1 r2 r3 e3 hys F5 N5
  have hbl : (beyondL ss total).length ≤ 200 := by
    unfold beyondL
    split
    · exact Nat.le_trans (fl_len _ _ _) (by omega)
    · exact Nat.zero_le _
  rw [sums_last] at hys
  with_unfolding_all refine ends_5 X T _ F5 N5 e1 e2 e3 htot hus (bs := beyondL ss total) hys hsl hbl ht1 ht2 hdp hun ?_
  intro h6 tk6 D' zs n hzs F6 N6
  exact hQ D' zs n _ hzs (N6 _ (.head _)).1 (N6 _ (.head _)).2.2 ⟨_, _, rfl, F6.keep⟩)

-- part law0
noncomputable def lStmt : Stmt := match PySem.Challenge.pw_pa0027_01.main.body.reverse with | st :: _ => st | _ => .Pass ⟨0, 0, 0, 0⟩
noncomputable def lBody : List Stmt := match lStmt with | .FunctionDef _ _ b _ _ _ _ _ _ _ => b | _ => []
noncomputable def lScope : Scope := match lStmt with | .FunctionDef _ _ _ _ _ _ sc _ _ _ => sc | _ => default
noncomputable abbrev lEnv (L : Addr) : Env := envOfC (Str.ofString "law") lScope L 149 (.ref 148)
noncomputable def lC (k : Nat) (rest : List Stmt) : List Stmt := match lBody.drop k with | st :: _ => st :: rest | [] => rest
noncomputable def numsL (ns : List Int) : List Int := (ns.take 6).map fun n => n % 100000000
theorem range_map_getD (f : Int → Int) (ks : List Int) : fl (fun _ => true) (fun i => f (ks.getD i 0)) ks.length = ks.map f := by
  unfold fl
  rw [List.filter_eq_self.mpr (fun _ _ => rfl)]
  refine List.ext_getElem (by simp) fun i h1 h2 => ?_
  have h3 : i < ks.length := by simpa using h1
  simp [List.getD_eq_getElem?_getD, List.getElem?_eq_getElem h3]
theorem law_0 {w : World} {mean : ExcName → Option Value} {mg mb : Str → Option Value} {g : Heap} {L a : Addr} {dp : Nat} {fr : Option (List Env)} {gd : Option (List Code)} {un : Nat} {m : Str → Option Value} {cells : List (Addr × Obj)} {ns : List Int} {vs : List Value} {rest : List Stmt} {Q : Flow → Shared → Prop} {E : Value → Shared → Prop} (X : (hd.heap_39 w.params).In g) (T : Top hd.view_39 lo mean mg mb g) (s : Shared)
    (F : Fr g L s.heap m) (N : News g L s.heap cells) (h1 : m (Str.ofString "script") = some (.ref a)) (hlist : g.IsList a vs.toArray) (hvs : IntsAre vs ns) (hl : ns.length ≤ 63) (hdp : dp + 7 < 850) (hun : un + 80 < 9000)
    (hQ : ∀ h tk D ys n, Fr g L h (fun y => if y = Str.ofString "numbers" then some (.ref D) else m y) → IntsAre ys (numsL ns) → News g L h ((D, W.listOf ys.toArray n) :: cells) → wpAny (model PySem.Challenge.rw_pa0027_01.row.prog w) ((AA dp fr gd un).deeper (lEnv L)) (execs rest (lEnv L)) Q E { s with heap := h, toks := tk }) :
    wpAny (model PySem.Challenge.rw_pa0027_01.row.prog w) ((AA dp fr gd un).deeper (lEnv L)) (execs (lC 0 rest) (lEnv L)) Q E s := by
  w_strict (
  revert X T
  k_fill
  intro X T
  obtain ⟨m, rfl⟩ := open_m h1
  with_unfolding_all refine wpAny_execs_cons ?_
  k_dflt (refine assign_lc (by with_unfolding_all rfl) (by with_unfolding_all rfl) (by decide) (by rfl) (by decide) ?_)
  walk_at "mine stop"
  rename Fr _ _ _ _ => kF
  rename News _ _ _ _ => kN
  rename IntsAre _ (List.take 6 ns) => hI
  rename (List.take 6 ns).length = _ => hlen6
  have hz := hI.length
  refine src_list (by rfl) (News.isList kN (.head _)) (by rfl) (by rfl) (fun i ys => IntsAre ys (fl (fun _ => true) (fun j => (ns.take 6).getD j 0 % 100000000) i)) .nil ?len ?step ?fin
  (case len =>
    intro i ys hi h
    have h2 := fl_len (fun _ => true) (fun j => (ns.take 6).getD j 0 % 100000000) i
    rw [← h.length] at h2
    have h3 : i ≤ (ns.take 6).length := by simpa [hz] using hi
    exact size_ok h2)
  (case step =>
    intro C i v ys h tk mC hv hJ e1 F0 E'
    have X2 := X.keeps kF.keep
    have T2 := Top.keeps T kF.keep
    obtain ⟨n, t2, rfl, hns⟩ := hI.at i v (by simpa using hv)
    have hD : (ns.take 6).getD i 0 = n := by rw [List.getD_eq_getElem?_getD, hns]; rfl
    clear kF kN X T
    have N0 := news_of F0
    have KK := walk_kept (s₂ := { s with heap := h }) F0
    k_steps
    all_goals first | walk_at "mine kept" | skip
    (have e : n.fmod (10 ^ Int.toNat 8) = n % 100000000 := by
       rw [show ((10 : Int) ^ Int.toNat 8) = 100000000 from rfl]
       exact Int.fmod_eq_emod_of_nonneg n (by decide)
     rw [fl_pos rfl, hD, e]
     exact ints_snoc hJ))
  (case fin =>
    rw [List.size_toArray, hz]
    refine end_assign kF (by rfl) (by rfl) (by rfl) fun D ys h tk hJ hD hDo F2 hk => ?_
    obtain ⟨N2, lD, oD⟩ := news_assign kF kN hD hDo hk
    rw [range_map_getD (fun n => n % 100000000)] at hJ
    exact hQ _ _ _ _ _ F2 hJ (fun p hp => N2 p (by rcases List.mem_cons.mp hp with rfl | hp; exact .head _; exact .tail _ (.tail _ hp)))))

-- part comp4
section
open PyProof.Rows.LCg
variable {prog : Program} {w : World} {A : Around} {E : Value → Shared → Prop} {R : Result → Shared → Prop} {s : Shared} {env : Env}
theorem compTurn_in (g0 : Comprehension) (elt target iter : Expr) (ifs : List Expr) (scope : Scope) (pos : Pos) (it acc : Value) (env : Env) :
    compTurn (.ListComp elt [g0, ⟨target, iter, ifs, 0⟩] scope pos) 1 it acc env = (do
      standAt iter.pos
      match ← pyNext it with
      | none => pure (.done .next)
      | some v =>
        letOwnedTupleGo target it v
        assign target env v
        let mut ok := true
        for c in ifs do
          if ok then ok ← isTrue c env (eval c env)
        if ok then
          (do let _ ← call (.builtin "list.append") [acc, ← eval elt env])
        again (.compLoop (.ListComp elt [g0, ⟨target, iter, ifs, 0⟩] scope pos) 1 it acc env)) := by rfl
theorem compTurn_out (elt t0 it0 t1 it1 : Expr) (ifs : List Expr) (scope : Scope) (pos : Pos) (it acc : Value) (env : Env) :
    compTurn (.ListComp elt [⟨t0, it0, [], 0⟩, ⟨t1, it1, ifs, 0⟩] scope pos) 0 it acc env = (do
      standAt it0.pos
      match ← pyNext it with
      | none => pure (.done .next)
      | some v =>
        letOwnedTupleGo t0 it v
        assign t0 env v
        let mut ok := true
        for c in ([] : List Expr) do
          if ok then ok ← isTrue c env (eval c env)
        if ok then
          let x ← eval it1 env
          standAt it1.pos
          let x ← foldedSetIterable it1 env x
          let _ ← runOwn (.compStart (.ListComp elt [⟨t0, it0, [], 0⟩, ⟨t1, it1, ifs, 0⟩] scope pos) 1 (← holding [x] (pyIter x)) acc env) env
        again (.compLoop (.ListComp elt [⟨t0, it0, [], 0⟩, ⟨t1, it1, ifs, 0⟩] scope pos) 0 it acc env)) := by rfl

theorem in_turns {g0 : Comprehension} {elt target iter : Expr} {ifs : List Expr} {scope : Scope} {pos : Pos} {it acc : Value} {env : Env} (I : Nat → Shared → Prop)
    (turn : ∀ n s, I n s → wpAny (model prog w) A (pyNext it) (fun r s₁ => match r with
      | none => R (.ok .next) s₁
      | some v => wpAny (model prog w) A (letOwnedTupleGo target it v) (fun _ s₁' => wpAny (model prog w) A (assign target env v) (fun _ s₂ =>
          wpAny (model prog w) A (forIn ifs true fun c r => if r = true then do let ok ← isTrue c env (eval c env); pure (ForInStep.yield ok) else pure (ForInStep.yield r)) (fun ok s₃ =>
            if ok = true then wpAny (model prog w) A (eval elt env) (fun x s₄ =>
              wpAny (model prog w) A (call (.builtin "list.append") [acc, x]) (fun _ s₅ => ∃ m, m < n ∧ I m s₅) (notedBy (model prog w) A env fun e s' => R (.error e) s') s₄) (notedBy (model prog w) A env fun e s' => R (.error e) s') s₃
            else ∃ m, m < n ∧ I m s₃) (notedBy (model prog w) A env fun e s' => R (.error e) s') s₂) (notedBy (model prog w) A env fun e s' => R (.error e) s') s₁') (notedBy (model prog w) A env fun e s' => R (.error e) s') s₁) (notedBy (model prog w) A env fun e s' => R (.error e) s') s)
    (n : Nat) (h : I n s) :
    codeAny (model prog w) A (.compLoop (.ListComp elt [g0, ⟨target, iter, ifs, 0⟩] scope pos) 1 it acc env) R s := by
  refine codeAny_loop rfl I (fun n s hI => ?_) n h
  show wpAny _ A ((compTurn (.ListComp elt [g0, ⟨target, iter, ifs, 0⟩] scope pos) 1 it acc env).onRaise (fun x => do noteFrame x env; theTreesLotGoes x)) _ _ s
  refine wpAny_noted ?_
  rw [compTurn_in]
  refine wpAny_bind (wpAny_standAt (wpAny_bind (wpAny_mono (turn n s hI) (fun r s₁ h₁ => ?_) fun _ _ h' => h')))
  cases r with
  | none => exact wpAny_pure h₁
  | some v =>
    refine wpAny_bind (wpAny_mono h₁ (fun _ s₁' h₁' => ?_) fun _ _ h' => h')
    refine wpAny_bind (wpAny_mono h₁' (fun _ s₂ h₂ => wpAny_bind (wpAny_mono h₂ (fun ok s₃ h₃ => ?_) fun _ _ h' => h')) fun _ _ h' => h')
    cases ok with
    | false => exact wpAny_pure ⟨rfl, h₃⟩
    | true =>
      exact wpAny_bind (wpAny_bind (wpAny_mono h₃ (fun x s₄ h₄ => wpAny_bind (wpAny_mono h₄ (fun _ s₅ h₅ => wpAny_pure (wpAny_pure ⟨rfl, h₅⟩)) fun _ _ h' => h')) fun _ _ h' => h'))

theorem out_turns {elt t0 it0 t1 it1 : Expr} {ifs : List Expr} {scope : Scope} {pos : Pos} {it acc : Value} {env : Env} (I : Nat → Shared → Prop)
    (turn : ∀ n s, I n s → wpAny (model prog w) A (pyNext it) (fun r s₁ => match r with
      | none => R (.ok .next) s₁
      | some v => wpAny (model prog w) A (letOwnedTupleGo t0 it v) (fun _ s₁' => wpAny (model prog w) A (assign t0 env v) (fun _ s₂ =>
          wpAny (model prog w) A (eval it1 env) (fun x s₃ => wpAny (model prog w) A (pyIter x) (fun it' s₄ =>
            codeAny (model prog w) A (.compStart (.ListComp elt [⟨t0, it0, [], 0⟩, ⟨t1, it1, ifs, 0⟩] scope pos) 1 it' acc env) (fun r s₅ => match r with | .ok _ => ∃ m, m < n ∧ I m s₅ | .error e => cameBackBy (model prog w) A env (notedBy (model prog w) A env fun e s' => R (.error e) s') e s₅) s₄)
            (notedBy (model prog w) A env fun e s' => R (.error e) s') s₃) (notedBy (model prog w) A env fun e s' => R (.error e) s') s₂) (notedBy (model prog w) A env fun e s' => R (.error e) s') s₁') (notedBy (model prog w) A env fun e s' => R (.error e) s') s₁) (notedBy (model prog w) A env fun e s' => R (.error e) s') s)
    (n : Nat) (h : I n s) (hs : ∀ x, foldedSetIterable it1 env x = pure x := by intro _; rfl) :
    codeAny (model prog w) A (.compLoop (.ListComp elt [⟨t0, it0, [], 0⟩, ⟨t1, it1, ifs, 0⟩] scope pos) 0 it acc env) R s := by
  refine codeAny_loop rfl I (fun n s hI => ?_) n h
  show wpAny _ A ((compTurn (.ListComp elt [⟨t0, it0, [], 0⟩, ⟨t1, it1, ifs, 0⟩] scope pos) 0 it acc env).onRaise (fun x => do noteFrame x env; theTreesLotGoes x)) _ _ s
  refine wpAny_noted ?_
  rw [compTurn_out]
  refine wpAny_bind (wpAny_standAt (wpAny_bind (wpAny_mono (turn n s hI) (fun r s₁ h₁ => ?_) fun _ _ h' => h')))
  cases r with
  | none => exact wpAny_pure h₁
  | some v =>
    refine wpAny_bind (wpAny_mono h₁ (fun _ s₁' h₁' => ?_) fun _ _ h' => h')
    refine wpAny_bind (wpAny_mono h₁' (fun _ s₂ h₂ => ?_) fun _ _ h' => h')
    refine wpAny_bind (wpAny_mono (wpAny_tests_nil (Q := fun ok s₃ => ok = true ∧ s₃ = s₂) ⟨rfl, rfl⟩) (fun ok s₃ h₃ => ?_) fun _ _ h' => h')
    obtain ⟨rfl, rfl⟩ := h₃
    refine wpAny_bind (wpAny_mono h₂ (fun x s₄ h₄ => ?_) fun _ _ h' => h')
    refine wpAny_bind (wpAny_standAt (wpAny_bind (wpAny_of_eq (hs x) (wpAny_bind (wpAny_holding (wpAny_mono h₄ (fun it' s₅ h₅ => ?_) fun _ _ h' => h'))))))
    refine wpAny_bind (wpAny_runOwn ?_)
    rw [Around.mark_none]
    refine codeAny_mono h₅ fun r s₆ h₆ => ?_
    cases r with
    | ok f => exact wpAny_pure ⟨rfl, h₆⟩
    | error e => exact h₆
theorem in_start {g0 : Comprehension} {elt target iter : Expr} {ifs : List Expr} {scope : Scope} {pos : Pos} {it acc : Value} {env : Env}
    (h0 : codeAny (model prog w) A (.compLoop (.ListComp elt [g0, ⟨target, iter, ifs, 0⟩] scope pos) 1 it acc env) R s)
    (h : wpAny (model prog w) A (pyIter it) (fun it' s' => codeAny (model prog w) A (.compLoop (.ListComp elt [g0, ⟨target, iter, ifs, 0⟩] scope pos) 1 it' acc env) R s')
      (notedBy (model prog w) A env fun x s' => R (.error x) s') s) :
    codeAny (model prog w) A (.compStart (.ListComp elt [g0, ⟨target, iter, ifs, 0⟩] scope pos) 1 it acc env) R s := by
  refine codeAny_of_tree ?_
  show wpAny _ _ ((compStart (.ListComp elt [g0, ⟨target, iter, ifs, 0⟩] scope pos) 1 it acc env).onRaise (fun x => do noteFrame x env; standAt theWindowsPlace)) _ _ s
  refine wpAny_notedAt ?_
  unfold compStart
  show wpAny _ _ (ask >>= _) _ _ s
  refine wpAny_bind (wpAny_askSetting (wpAny_ite ?_))
  split
  · first
      | exact wpAny_bind (wpAny_pure (wpAny_pure (And.intro rfl h0)))
      | exact wpAny_pure (And.intro rfl h0)
  · first
      | exact wpAny_bind (wpAny_rule (wpAny_bind (wpAny_standAt (wpAny_bind (wpAny_mono h (fun it' s' h' => wpAny_pure (And.intro rfl h')) fun _ _ x => x)))))
      | (refine wpAny_bind (wpAny_rule ?_); show wpAny _ _ (standAt iter.pos >>= _) _ _ s; exact wpAny_bind (wpAny_standAt (wpAny_bind (wpAny_mono h (fun it' s' h' => wpAny_pure (And.intro rfl h')) fun _ _ x => x))))
end

-- part comp5
section
open PyProof.Rows.LCg
variable {prog : Program} {w : World} {A : Around} {E : Value → Shared → Prop} {R : Result → Shared → Prop} {s : Shared} {env : Env}
/-- the turns of the second clause of two -/
theorem comp_last1 {g0 : Comprehension} {elt target iter : Expr} {ifs : List Expr} {scope : Scope} {pos : Pos} {cenv : Env} {s₂ : Shared} {hb : Heap} {I D : Addr} {fp wr : List Addr} {n : Nat} {P Md : Nat → Value → Heap → Prop} {St : Nat → Heap → Prop} {ys₀ : List Value} {m₀ : Str → Option Value}
    (W : W.KTurns prog w A target I fp wr n P Md St) (hst : St 0 s₂.heap) (hC : cenv.locals ∉ fp) (hD : D ∉ fp) (hCD : cenv.locals ≠ D)
    (hDo : s₂.heap.get? D = some (lst ys₀)) (hwr : ∀ b ∈ wr, hb.get? b = none) (hbC : hb.objs.size ≤ cenv.locals) (hbD : hb.get? D = none) (F₀ : Fr hb cenv.locals s₂.heap m₀) (Bnd : Nat → (Str → Option Value) → Prop) (J : Nat → List Value → Prop) (h0 : J 0 ys₀) (hlen : ∀ i ys, i ≤ n → J i ys → ys.length ≤ sizeLine)
    (Ext : Heap → Prop) (he0 : Ext s₂.heap) (hext : ∀ h h' : Heap, Ext h → (∀ b o, b ∉ wr → b ≠ cenv.locals → b ≠ D → h.get? b = some o → h'.get? b = some o) → Ext h') (Cm : (Str → Option Value) → Prop) (hcm : Cm m₀)
    (bind : ∀ i v h tk mC (Q : Unit → Shared → Prop) (E' : Value → Shared → Prop), i < n → P i v h → h.Ns cenv.locals mC → Cm mC → (∀ h' mC', Bnd i mC' → Cm mC' → h'.Ns cenv.locals mC' → (∀ b o, b ≠ cenv.locals → h.get? b = some o → h'.get? b = some o) → ∀ tk', Q () { s₂ with heap := h', toks := tk' }) →
      wpAny (model prog w) A (assign target cenv v) Q E' { s₂ with heap := h, toks := tk })
    (step : ∀ i ys h tk mC, i < n → J i ys → Bnd i mC → Cm mC → Fr hb cenv.locals h mC → TurnOf prog w A cenv ifs elt s₂ mC h (J (i + 1)) ys tk)
    (hR : ∀ ys h tk mC, J n ys → Ext h → Cm mC → Fr hb cenv.locals h mC → h.get? D = some (lst ys) → R (.ok .next) { s₂ with heap := h, toks := tk }) :
    codeAny (model prog w) A (.compLoop (.ListComp elt [g0, ⟨target, iter, ifs, 0⟩] scope pos) 1 (.ref I) (.ref D) cenv) R s₂ := by
  have hCw : cenv.locals ∉ wr := fun q => hC (W.sub _ q)
  have hDw : D ∉ wr := fun q => hD (W.sub _ q)
  have hbC0 : hb.get? cenv.locals = none := Heap.get?_none_of_le hbC
  have nwr : ∀ b o, hb.get? b = some o → b ∉ wr := fun b o e q => by rw [hwr b q] at e; cases e
  have nC : ∀ b o, hb.get? b = some o → b ≠ cenv.locals := fun b o e q => by rw [q, hbC0] at e; cases e
  have nD : ∀ b o, hb.get? b = some o → b ≠ D := fun b o e q => by rw [q, hbD] at e; cases e
  refine in_turns
    (fun k s' => ∃ h' tk i ys mC, s' = { s₂ with heap := h', toks := tk } ∧ i ≤ n ∧ k = n + 1 - i ∧ St i h' ∧ Fr hb cenv.locals h' mC ∧ h'.get? D = some (lst ys) ∧ J i ys ∧ Ext h' ∧ Cm mC) ?_ (n + 1)
    ⟨s₂.heap, s₂.toks, 0, ys₀, m₀, rfl, Nat.zero_le _, rfl, hst, F₀, hDo, h0, he0, hcm⟩
  rintro k s' ⟨h', tk, i, ys, mC, rfl, hi, rfl, hst', F', hD', hJ, hE', hCm⟩
  by_cases hlt : i < n
  · refine W.item i _ _ _ hlt hst' fun v h₁ tk₁ hMd hk₁ => ?_
    refine W.go i v _ _ _ hMd fun h₂ hP hst₂ hk₂ => ?_
    have hk12 : ∀ b o, b ∉ wr → h'.get? b = some o → h₂.get? b = some o := fun b o hb x => hk₂ b o hb (hk₁ b o hb x)
    refine bind i v h₂ tk₁ mC _ _ hlt hP (F'.ns.at' fun o e => hk12 _ o hCw e) hCm fun h₃ mC₃ hB hCm₃ hns₃ hsb tk₃ => ?_
    have hk3 : ∀ b o, b ∉ wr → b ≠ cenv.locals → h'.get? b = some o → h₃.get? b = some o := fun b o hb hbc x => hsb b o hbc (hk12 b o hb x)
    have hst₃ : St (i + 1) h₃ := W.frame _ _ _ hst₂ fun b hb o e => hsb b o (fun q => hC (q ▸ hb)) e
    have hD₃ : h₃.get? D = some (lst ys) := hk3 D _ hDw (Ne.symm hCD) hD'
    have hE₃ : Ext h₃ := hext _ _ hE' fun b o hb hbc _ e => hk3 b o hb hbc e
    have F₃ : Fr hb cenv.locals h₃ mC₃ := ⟨hns₃, fun b o e => hk3 b o (nwr b o e) (nC b o e) (F'.keep b o e), hbC⟩
    refine wpAny_mono (step i ys h₃ tk₃ mC₃ hlt hJ hB hCm₃ F₃ _) (fun ok s₄ h₄ => ?_) fun _ _ e => e
    cases ok with
    | true =>
      simp only [if_true] at h₄ ⊢
      refine wpAny_mono h₄ (fun y s₅ h₅ => ?_) fun _ _ e => e
      obtain ⟨⟨h5, tk5, rfl, hn5, hk5⟩, hJ5⟩ := h₅
      have zD := hk5 D _ hD₃ (Ne.symm hCD)
      refine append_at (hsz := by show ys.toArray.size ≤ sizeLine; rw [List.size_toArray]; exact hlen i ys hi hJ) zD fun h₆ hs₆ hD₆ => ?_
      refine ⟨n + 1 - (i + 1), by omega, h₆, tk5, i + 1, ys ++ [y], mC₃, rfl, hlt, rfl, W.frame _ _ _ hst₃ fun b hb o e => hs₆.extBut b o (fun q => hD (q ▸ hb)) (hk5 b o e (fun q => hC (q ▸ hb))), ⟨hn5.at' fun o e => hs₆.extBut _ o hCD e, fun b o e => ?_, hbC⟩, hD₆.trans (congrArg some (lst_snoc ys y)), hJ5, hext _ _ hE₃ fun b o _ hbc hbd e => hs₆.extBut b o hbd (hk5 b o e hbc), hCm₃⟩
      exact hs₆.extBut b o (nD b o e) (hk5 b o (F₃.keep b o e) (nC b o e))
    | false =>
      simp only [Bool.false_eq_true, if_false] at h₄ ⊢
      obtain ⟨⟨h5, tk5, rfl, hn5, hk5⟩, hJ5⟩ := h₄
      refine ⟨n + 1 - (i + 1), by omega, h5, tk5, i + 1, ys, mC₃, rfl, hlt, rfl, W.frame _ _ _ hst₃ fun b hb o e => hk5 b o e (fun q => hC (q ▸ hb)), ⟨hn5, fun b o e => ?_, hbC⟩, hk5 D _ hD₃ (Ne.symm hCD), hJ5, hext _ _ hE₃ fun b o _ hbc _ e => hk5 b o e hbc, hCm₃⟩
      exact hk5 b o (F₃.keep b o e) (nC b o e)
  · obtain rfl : i = n := Nat.le_antisymm hi (Nat.not_lt.mp hlt)
    refine W.done _ _ _ hst' fun h₂ tk₂ hk₂ => ?_
    exact hR ys h₂ tk₂ mC hJ (hext _ _ hE' fun b o hb _ _ e => hk₂ b o hb e) hCm ⟨F'.ns.at' fun o e => hk₂ _ o hCw e, fun b o e => hk₂ b o (nwr b o e) (F'.keep b o e), hbC⟩ (hk₂ D _ hDw hD')

end

-- part comp6
section
open PyProof.Rows.LCg
variable {prog : Program} {w : World} {A : Around} {E : Value → Shared → Prop} {s : Shared} {env : Env}
/-- a comprehension of two clauses: over a list, then over range(k) -/
theorem nest_block {elt iter0 iter1 : Expr} {x x2 : Str} {px px2 : Pos} {scope : Scope} {cl : List (Str × Addr)} {pos : Pos} {s₁ : Shared} {ax : Addr} {its : Array Value} {use : Option (Value → Sem Unit)} {Q : Value → Shared → Prop} (k : Nat)
    (hcell : ∀ y ∈ scope.names, y.2 ≠ .cell) (hkind : scope.kind = .function) (hx : scope.names.lookup x = some .local) (hx2 : scope.names.lookup x2 = some .local) (hxx : x ≠ x2) (hh : A.handled = none) (hl : s₁.heap.IsList ax its) (hk : k ≤ 1000)
    (J : Nat → Nat → List Value → Prop) (h0 : J 0 0 []) (hJn : ∀ i ys, i < its.size → J i k ys → J (i + 1) 0 ys) (hlen : ∀ i j ys, i < its.size → j ≤ k → J i j ys → ys.length ≤ sizeLine)
    (hit : ∀ C (i : Nat) v h tk mC (E' : Value → Shared → Prop), its[i]? = some v → mC x = some v → Fr s₁.heap C h mC → wpAny (model prog w) A (eval iter1 (compEnvC scope cl C env)) (fun xv s' => ∃ r t u v', xv = .ref r ∧ IsRange s'.heap r 0 (k : Int) 1 t u v' ∧ KeptH C mC s₁ h s') E' { s₁ with heap := h, toks := tk })
    (step : ∀ C (i j : Nat) v (t : Tok) ys h tk mC, its[i]? = some v → j < k → J i j ys → mC x = some v → mC x2 = some (.int (0 + (j : Int)) t) → Fr s₁.heap C h mC → TurnOf prog w A (compEnvC scope cl C env) [] elt s₁ mC h (J i (j + 1)) ys tk)
    (fin : EndOf prog w A E use Q s₁ (J its.size 0)) (hs1 : ∀ C x, foldedSetIterable iter1 (compEnvC scope cl C env) x = pure x := by intro _ _; rfl) :
    wpAny (model prog w) A (pyIter (.ref ax)) (fun it s₂ => wpAny (model prog w) A (newList []) (fun acc s₃ => wpAny (model prog w) A (newFunctionEnv scope env.globals cl [] env.qual none .none (some env)) (fun cenv s₄ =>
      codeAny (model prog w) A (.compStart (.ListComp elt [⟨.Name x px, iter0, [], 0⟩, ⟨.Name x2 px2, iter1, [], 0⟩] scope pos) 0 it acc { cenv with scope := relabel scope env }) (compPost (model prog w) A E use Q acc cenv.locals) s₄) E s₃) E s₂) E s₁ := by
  have hlt : ax < s₁.heap.objs.size := by obtain ⟨_, e, _⟩ := hl; exact Heap.lt_size e
  refine wpAny_pyIter_list hl ?_
  have WW := W.KTurns.ofWalks (Walks.list (prog := prog) (w := w) hh s₁.heap.objs.size ax (Nat.ne_of_lt hlt) its) (target := .Name x px) (fun i v s Q E st q => letGo_listiter st.1 q)
  generalize hH1 : s₁.heap.push { cls := .type "list_iterator", data := .fields #[.ref ax, .int 0 0] } = H1
  have up1 : ∀ b o, s₁.heap.get? b = some o → H1.get? b = some o := fun b o e => hH1 ▸ Heap.get?_push_of_some _ e
  have hs1' : H1.objs.size = s₁.heap.objs.size + 1 := by rw [← hH1, Heap.size_push]
  have hst : H1.IsListIter s₁.heap.objs.size ax 0 ∧ H1.IsList ax its := by
    rw [← hH1]
    exact ⟨⟨_, Heap.get?_push_size _ rfl, rfl, rfl⟩, hl.push _⟩
  refine wpAny_newObj_type (wpAny_newFunctionEnv hcell (by intro y hy; simp at hy) (fun h₁ hns₁ hsb₁ => ?_) hkind)
  dsimp only at hns₁ hsb₁ ⊢
  generalize hH2 : H1.push { cls := .type "list", dict := none, data := .seq ([] : List Value).toArray } = H2 at hns₁ hsb₁ ⊢
  have hC : H2.objs.size = H1.objs.size + 1 := by rw [← hH2, Heap.size_push]
  have hDC : H1.objs.size ≠ H2.objs.size := by rw [hC]; exact Nat.ne_of_lt (Nat.lt_succ_self _)
  have below : ∀ b, b < H1.objs.size → b ≠ H2.objs.size ∧ b ≠ H1.objs.size := fun b hb => ⟨by rw [hC]; exact Nat.ne_of_lt (Nat.lt_succ_of_lt hb), Nat.ne_of_lt hb⟩
  have hfp : ∀ b ∈ [s₁.heap.objs.size, ax], b < H1.objs.size := fun b hb => by
    rw [hs1']
    rcases List.mem_cons.mp hb with rfl | hb
    · exact Nat.lt_succ_self _
    · rw [List.mem_singleton.mp hb]; exact Nat.lt_succ_of_lt hlt
  have hDf : H1.objs.size ∉ [s₁.heap.objs.size, ax] := fun hm => Nat.lt_irrefl _ (hfp _ hm)
  have hCf : H2.objs.size ∉ [s₁.heap.objs.size, ax] := fun hm => by have := hfp _ hm; rw [hC] at this; exact Nat.lt_irrefl _ (Nat.lt_of_succ_lt this)
  have old : ∀ b o, H1.get? b = some o → h₁.get? b = some o := fun b o e => hsb₁.extBut b o (below b (Heap.lt_size e)).1 (Heap.get?_push_of_some _ (hH2 ▸ Heap.get?_push_of_some _ e))
  have hacc : h₁.get? H1.objs.size = some (lst []) := hsb₁.extBut _ _ hDC (Heap.get?_push_of_some _ (hH2 ▸ Heap.get?_push_size _ rfl))
  have hst₁ : h₁.IsListIter s₁.heap.objs.size ax 0 ∧ h₁.IsList ax its := WW.frame 0 _ _ hst fun b _ o e => old b o e
  have hbC : s₁.heap.objs.size ≤ H2.objs.size := by rw [hC, hs1']; exact Nat.le_add_right _ 2
  have hbD : s₁.heap.objs.size ≤ H1.objs.size := by rw [hs1']; exact Nat.le_succ _
  have hbD0 : s₁.heap.get? H1.objs.size = none := Heap.get?_none_of_le hbD
  have hbI0 : s₁.heap.get? s₁.heap.objs.size = none := Heap.get?_none_of_le (Nat.le_refl _)
  have hCw : H2.objs.size ∉ [s₁.heap.objs.size] := fun q => hCf (WW.sub _ q)
  have hDw : H1.objs.size ∉ [s₁.heap.objs.size] := fun q => hDf (WW.sub _ q)
  have nwr : ∀ b o, s₁.heap.get? b = some o → b ∉ [s₁.heap.objs.size] := fun b o e q => by rw [List.mem_singleton.mp q, hbI0] at e; cases e
  have nC : ∀ b o, s₁.heap.get? b = some o → b ≠ H2.objs.size := fun b o e q => by rw [q, Heap.get?_none_of_le hbC] at e; cases e
  have nD : ∀ b o, s₁.heap.get? b = some o → b ≠ H1.objs.size := fun b o e q => by rw [q, hbD0] at e; cases e
  have loop : ∀ s₃ : Shared, s₃ = { s₁ with heap := h₁, toks := s₁.toks + ([] : List (Str × Value)).length } →
      codeAny (model prog w) A (.compLoop (.ListComp elt [⟨.Name x px, iter0, [], 0⟩, ⟨.Name x2 px2, iter1, [], 0⟩] scope pos) 0 (.ref s₁.heap.objs.size) (.ref H1.objs.size) (compEnvC scope cl H2.objs.size env))
        (compPost (model prog w) A E use Q (.ref H1.objs.size) H2.objs.size) s₃ := by
    rintro s₃ rfl
    refine out_turns (fun kk s' => ∃ h' tk i ys mC, s' = { s₁ with heap := h', toks := tk } ∧ i ≤ its.size ∧ kk = its.size + 1 - i ∧ (h'.IsListIter s₁.heap.objs.size ax i ∧ h'.IsList ax its) ∧ Fr s₁.heap H2.objs.size h' mC ∧ h'.get? H1.objs.size = some (lst ys) ∧ J i 0 ys) ?_ (its.size + 1)
      ⟨h₁, _, 0, [], _, rfl, Nat.zero_le _, rfl, hst₁, ⟨hns₁, fun b o e => old b o (up1 b o e), hbC⟩, hacc, h0⟩ (hs1 _)
    rintro kk s' ⟨h', tk, i, ys, mC, rfl, hi, rfl, hst', F', hD', hJ⟩
    by_cases hlt' : i < its.size
    · refine WW.item i _ _ _ hlt' hst' fun v h₂ tk₁ hMd hk₁ => ?_
      refine WW.go i v _ _ _ hMd fun h₃ hP hst₂ hk₂ => ?_
      have hk12 : ∀ b o, b ∉ [s₁.heap.objs.size] → h'.get? b = some o → h₃.get? b = some o := fun b o hb x => hk₂ b o hb (hk₁ b o hb x)
      refine bind_name (s₂ := s₁) hkind hx (F'.ns.at' fun o e => hk12 _ o hCw e) fun h₄ mC₄ hB _ hns₄ hsb tk₄ => ?_
      have hk4 : ∀ b o, b ∉ [s₁.heap.objs.size] → b ≠ H2.objs.size → h'.get? b = some o → h₄.get? b = some o := fun b o hb hbc x => hsb b o hbc (hk12 b o hb x)
      have hst₄ : h₄.IsListIter s₁.heap.objs.size ax (i + 1) ∧ h₄.IsList ax its := WW.frame (i + 1) _ _ hst₂ fun b hb o e => hsb b o (fun q => hCf (q ▸ hb)) e
      have hD₄ : h₄.get? H1.objs.size = some (lst ys) := hk4 _ _ hDw hDC hD'
      have F₄ : Fr s₁.heap H2.objs.size h₄ mC₄ := ⟨hns₄, fun b o e => hk4 b o (nwr b o e) (nC b o e) (F'.keep b o e), hbC⟩
      have hP' : its[i]? = some v := hP
      refine wpAny_mono (hit _ i v h₄ tk₄ mC₄ _ hP' hB F₄) (fun xv s₅ h₅ => ?_) fun _ _ e => e
      obtain ⟨r, t, u, v', rfl, hr, h5, tk5, rfl, hn5, hk5⟩ := h₅
      have hsm : Builtin.Range.small 0 (k : Int) 1 = true := small_one (by decide) (by decide) (by omega) (by omega)
      have hrs : Builtin.Range.rangeSize 0 (k : Int) 1 = ((k : Nat) : Int) := by rw [rangeSize_nat]; omega
      refine wpAny_pyIter_range hr hsm ?_
      have keep5 : ∀ b o, b ≠ H2.objs.size → h₄.get? b = some o → (h5.push { cls := .type "range_iterator", data := .fields #[.int 0 0, .int (Builtin.Range.rangeSize 0 (k : Int) 1) 0, .int 1 0] }).get? b = some o := fun b o hb e => Heap.get?_push_of_some _ (hk5 b o e hb)
      have hDlt : H1.objs.size < h5.objs.size := Heap.lt_size (hk5 _ _ hD₄ hDC)
      have hClt : H2.objs.size < h5.objs.size := hn5.lt
      have hst₅ := WW.frame (i + 1) _ _ hst₄ fun b hb o e => keep5 b o (fun q => hCf (q ▸ hb)) e
      have hfp5 : ∀ b ∈ [s₁.heap.objs.size, ax], b ≠ h5.objs.size := fun b hb => Nat.ne_of_lt (Nat.lt_trans (hfp b hb) hDlt)
      have lp : codeAny (model prog w) A (.compLoop (.ListComp elt [⟨.Name x px, iter0, [], 0⟩, ⟨.Name x2 px2, iter1, [], 0⟩] scope pos) 1 (.ref h5.objs.size) (.ref H1.objs.size) (compEnvC scope cl H2.objs.size env)) (fun r s₅ => match r with | .ok _ => ∃ m, m < its.size + 1 - i ∧ (fun kk s' => ∃ h' tk i ys mC, s' = { s₁ with heap := h', toks := tk } ∧ i ≤ its.size ∧ kk = its.size + 1 - i ∧ (h'.IsListIter s₁.heap.objs.size ax i ∧ h'.IsList ax its) ∧ Fr s₁.heap H2.objs.size h' mC ∧ h'.get? H1.objs.size = some (lst ys) ∧ J i 0 ys) m s₅ | .error e => cameBackBy (model prog w) A (compEnvC scope cl H2.objs.size env) (notedBy (model prog w) A (compEnvC scope cl H2.objs.size env) fun e s' => compPost (model prog w) A E use Q (.ref H1.objs.size) H2.objs.size (.error e) s') e s₅) { s₁ with heap := (h5.push { cls := .type "range_iterator", data := .fields #[.int 0 0, .int (Builtin.Range.rangeSize 0 (k : Int) 1) 0, .int 1 0] }), toks := tk5 } := by
        refine comp_last1 (cenv := compEnvC scope cl H2.objs.size env) (hb := s₁.heap) (n := k) (ys₀ := ys) (m₀ := mC₄) (W.KTurns.ofWalks (range_walks hh 0 k) (target := .Name x2 px2) (fun i v s Q E st q => wpAny_of_eq rfl q)) (by
            show IsRangeIter _ _ (0 + ((0 : Nat) : Int) * 1) (((k : Nat) : Int) - ((0 : Nat) : Int)) 1
            rw [hrs, show (0 + ((0 : Nat) : Int) * 1) = 0 from rfl, show (((k : Nat) : Int) - ((0 : Nat) : Int)) = k by omega]
            exact Heap.get?_push_size _ rfl)
          (by simpa [compEnvC] using Nat.ne_of_lt hClt) (by simpa using Nat.ne_of_lt hDlt) (by simpa [compEnvC] using Ne.symm hDC) (keep5 _ _ hDC hD₄) (fun b hb => ?_) hbC hbD0
          ⟨hn5.at' fun o e => Heap.get?_push_of_some _ e, fun b o e => keep5 b o (nC b o e) (F₄.keep b o e), hbC⟩ (fun j mC => ∃ t, mC x2 = some (.int (0 + (j : Int)) t)) (J i) hJ (fun j ys hj h => hlen i j ys hlt' hj h)
          (fun h => h.IsListIter s₁.heap.objs.size ax (i + 1) ∧ h.IsList ax its) hst₅ (fun h h' he hk => ?_) (fun mC => mC x = some v) hB ?_ ?_ ?_
        · rw [List.mem_singleton.mp hb]
          exact Heap.get?_none_of_le (Nat.le_trans hbD (Nat.le_of_lt hDlt))
        · exact WW.frame (i + 1) _ _ he fun b hb o e => hk b o (fun q => hfp5 b hb (List.mem_singleton.mp q)) (fun q => hCf (by have q' : b = H2.objs.size := q; rw [← q']; exact hb)) (fun q => hDf (q ▸ hb)) e
        · intro j v2 h tk mC Q' E' hj hP2 hn hCm hQ
          obtain ⟨t2, rfl⟩ := hP2
          exact bind_name hkind hx2 hn fun h' mC' e1 e2 hn' sb tk' => hQ h' mC' ⟨t2, e1⟩ ((e2 x hxx).trans hCm) hn' sb tk'
        · rintro j ys h tk mC hj hJ2 ⟨t2, hB2⟩ hCm FF
          exact step _ i j v t2 ys h tk mC hP' hj hJ2 hCm hB2 FF
        · intro ys2 h tk mC hJ2 hE2 _ FF hDD
          exact ⟨its.size + 1 - (i + 1), by omega, h, tk, i + 1, ys2, mC, rfl, hlt', rfl, hE2, FF, hDD, hJn i ys2 hlt' hJ2⟩
      exact in_start lp (wpAny_pyIter_rangeiter (x := 0) (left := Builtin.Range.rangeSize 0 (k : Int) 1) (step := 1) (Heap.get?_push_size _ rfl) lp)
    · obtain rfl : i = its.size := Nat.le_antisymm hi (Nat.not_lt.mp hlt')
      refine WW.done _ _ _ hst' fun h₂ tk₂ hk₂ => ?_
      exact fin _ _ ys h₂ tk₂ mC hJ (F'.ns.at' fun o e => hk₂ _ o hCw e) hbC hbD (Ne.symm hDC) (hk₂ _ _ hDw hD') fun b o e => hk₂ b o (nwr b o e) (F'.keep b o e)
  refine codeAny_compStart_list (loop _ rfl) ((Walks.list hh s₁.heap.objs.size ax (Nat.ne_of_lt hlt) its).self 0 _ _ _ hst₁ (loop _ rfl))
theorem assign_nest {elt iter0 iter1 : Expr} {x x2 : Str} {px px2 : Pos} {scope : Scope} {cl : List (Str × Addr)} {y : Str} {py pos spos : Pos} {Q : Flow → Shared → Prop}
    (hsw : swapsWith (.ListComp elt [⟨.Name x px, iter0, [], 0⟩, ⟨.Name x2 px2, iter1, [], 0⟩] scope pos) (some (.Name y py)) spos.line env = pure true)
    (hclos : closureFor scope env = pure cl) (hkind : scope.kind = .function)
    (hnames : ∀ y ∈ scope.names, y.2 = .local → scope.names.lookup y.1 = some .local)
    (h : wpAny (model prog w) A (eval iter0 env) (fun xv s₁ => wpAny (model prog w) A (pyIter xv) (fun it s₂ => wpAny (model prog w) A (newList []) (fun acc s₃ => wpAny (model prog w) A (newFunctionEnv scope env.globals cl [] env.qual none .none (some env)) (fun cenv s₄ =>
      codeAny (model prog w) A (.compStart (.ListComp elt [⟨.Name x px, iter0, [], 0⟩, ⟨.Name x2 px2, iter1, [], 0⟩] scope pos) 0 it acc { cenv with scope := relabel scope env }) (compPost (model prog w) A E (some (assign (.Name y py) env)) (fun _ s' => Q .next s') acc cenv.locals) s₄) E s₃) E s₂) E s₁) E s)
    (hs : ∀ x, foldedSetIterable iter0 env x = pure x := by intro _; rfl) :
    wpAny (model prog w) A (exec (.Assign [.Name y py] (.ListComp elt [⟨.Name x px, iter0, [], 0⟩, ⟨.Name x2 px2, iter1, [], 0⟩] scope pos) spos) env) Q E s := by
  rw [exec_Assign_Name_used _ _ _ _ hsw]
  refine wpAny_bind (wpAny_standAt (wpAny_bind ?_))
  show wpAny _ A (do let _ ← comprehension (.ListComp elt [⟨.Name x px, iter0, [], 0⟩, ⟨.Name x2 px2, iter1, [], 0⟩] scope pos) scope env _ (newList []) false (eval iter0 env) (some (assign (.Name y py) env))) _ _ s
  exact wpAny_bind (wpAny_mono (wpAny_comprehension_free (use := some (assign (.Name y py) env)) (Q := fun _ s' => Q .next s') rfl hs hclos hkind hnames h) (fun _ s' hq => wpAny_pure (wpAny_pure hq)) fun _ _ e => e)
end
local macro_rules | `(tactic| walk_at "mine stopc") => `(tactic| repeat' (first | (k_unfold; (try dsimp only)) | ((fail_if_success walk_at "mine at s"); (fail_if_success (with_reducible first | refine at_ref ?_ | refine Exists.intro ?_ ?_)); first | walk1 | (dsimp only; walk1)) | fail "no step"))

-- part law1
noncomputable def octL (nums : List Int) : List Int := nums.flatMap fun n => [n / 12 % 256, n / 3072 % 256, n / 786432 % 256]
theorem oct_0 (n : Int) : (n.fdiv (12 * 256 ^ (0 + ((0 : Nat) : Int)).toNat)).fmod 256 = n / 12 % 256 := by
  rw [show (12 * 256 ^ (0 + ((0 : Nat) : Int)).toNat : Int) = 12 from rfl, Int.fdiv_eq_ediv_of_nonneg _ (by decide), Int.fmod_eq_emod_of_nonneg _ (by decide)]
theorem oct_1 (n : Int) : (n.fdiv (12 * 256 ^ (0 + ((1 : Nat) : Int)).toNat)).fmod 256 = n / 3072 % 256 := by
  rw [show (12 * 256 ^ (0 + ((1 : Nat) : Int)).toNat : Int) = 3072 from rfl, Int.fdiv_eq_ediv_of_nonneg _ (by decide), Int.fmod_eq_emod_of_nonneg _ (by decide)]
theorem oct_2 (n : Int) : (n.fdiv (12 * 256 ^ (0 + ((2 : Nat) : Int)).toNat)).fmod 256 = n / 786432 % 256 := by
  rw [show (12 * 256 ^ (0 + ((2 : Nat) : Int)).toNat : Int) = 786432 from rfl, Int.fdiv_eq_ediv_of_nonneg _ (by decide), Int.fmod_eq_emod_of_nonneg _ (by decide)]
theorem oct_len (ns : List Int) : (octL ns).length = 3 * ns.length := by
  induction ns with
  | nil => rfl
  | cons x r ih =>
    show ((_ : List Int) ++ octL r).length = _
    rw [List.length_append, ih]
    simp only [List.length_cons, List.length_nil]
    omega
theorem oct_snoc (ns : List Int) (i : Nat) (h : i < ns.length) : octL (ns.take (i + 1)) = octL (ns.take i) ++ [ns.getD i 0 / 12 % 256, ns.getD i 0 / 3072 % 256, ns.getD i 0 / 786432 % 256] := by
  rw [List.take_add_one, List.getElem?_eq_getElem h]
  unfold octL
  rw [List.flatMap_append, List.getD_eq_getElem?_getD, List.getElem?_eq_getElem h]
  rfl
theorem law_1 {w : World} {mean : ExcName → Option Value} {mg mb : Str → Option Value} {g : Heap} {L D : Addr} {dp : Nat} {fr : Option (List Env)} {gd : Option (List Code)} {un : Nat} {m : Str → Option Value} {cells : List (Addr × Obj)} {ns : List Int} {vs : List Value} {n1 : Nat} {rest : List Stmt} {Q : Flow → Shared → Prop} {E : Value → Shared → Prop} (X : (hd.heap_39 w.params).In g) (T : Top hd.view_39 lo mean mg mb g) (s : Shared)
    (F : Fr g L s.heap m) (N : News g L s.heap ((D, W.listOf vs.toArray n1) :: cells)) (h1 : m (Str.ofString "numbers") = some (.ref D)) (hvs : IntsAre vs ns) (hl : ns.length ≤ 6) (hB : ∀ x ∈ ns, 0 ≤ x ∧ x < 100000000) (hdp : dp + 7 < 850) (hun : un + 80 < 9000)
    (hQ : ∀ h tk D' ys n, Fr g L h (fun y => if y = Str.ofString "octets" then some (.ref D') else m y) → IntsAre ys (octL ns) → News g L h ((D', W.listOf ys.toArray n) :: (D, W.listOf vs.toArray n1) :: cells) → wpAny (model PySem.Challenge.rw_pa0027_01.row.prog w) ((AA dp fr gd un).deeper (lEnv L)) (execs rest (lEnv L)) Q E { s with heap := h, toks := tk }) :
    wpAny (model PySem.Challenge.rw_pa0027_01.row.prog w) ((AA dp fr gd un).deeper (lEnv L)) (execs (lC 1 rest) (lEnv L)) Q E s := by
  w_strict (
  revert X T
  k_fill
  intro X T
  obtain ⟨m, rfl⟩ := open_m h1
  with_unfolding_all refine wpAny_execs_cons ?_
  k_dflt (refine assign_nest (by with_unfolding_all rfl) (by with_unfolding_all rfl) (by rfl) (by decide) ?_)
  walk1
  rename Fr _ _ _ _ => kF
  rename News _ _ _ _ => kN
  have hz := hvs.length
  refine nest_block 3 (by decide) (by rfl) (by rfl) (by rfl) (by decide) (by rfl) (News.isList kN (.head _)) (by decide) (fun i j ys => IntsAre ys (octL (ns.take i) ++ (([ns.getD i 0 / 12 % 256, ns.getD i 0 / 3072 % 256, ns.getD i 0 / 786432 % 256] : List Int).take j))) .nil ?jn ?len ?it ?step ?fin
  (case jn =>
    intro i ys hi hJ
    have hi' : i < ns.length := by simpa [hz] using hi
    rw [oct_snoc ns i hi', List.take_zero, List.append_nil]
    exact hJ)
  (case len =>
    intro i j ys hi hj h
    have h2 := h.length
    rw [List.length_append, oct_len] at h2
    have h3 : (ns.take i).length ≤ 6 := Nat.le_trans (List.length_take_le' _ _) hl
    have h4 : (([ns.getD i 0 / 12 % 256, ns.getD i 0 / 3072 % 256, ns.getD i 0 / 786432 % 256] : List Int).take j).length ≤ 3 := List.length_take_le' _ _
    exact size_ok (m := 21) (by omega))
  (case it =>
    intro C i v h tk mC E' hv e1 F0
    have X2 := X.keeps kF.keep
    have T2 := Top.keeps T kF.keep
    obtain ⟨n, t2, rfl, hns⟩ := hvs.at i v (by simpa using hv)
    clear kF kN X T
    have N0 := news_of F0
    have KK := walk_kept (s₂ := { s with heap := h }) F0
    walk_at "mine stop"
    walk_at "mine kept")
  (case step =>
    intro C i j v t ys h tk mC hv hj hJ e1 e2 F0 E'
    have X2 := X.keeps kF.keep
    have T2 := Top.keeps T kF.keep
    obtain ⟨n, t2, rfl, hns⟩ := hvs.at i v (by simpa using hv)
    have hD : ns.getD i 0 = n := by rw [List.getD_eq_getElem?_getD, hns]; rfl
    clear kF kN X T
    have N0 := news_of F0
    have KK := walk_kept (s₂ := { s with heap := h }) F0
    have h3 : j = 0 ∨ j = 1 ∨ j = 2 := by omega
    rcases h3 with rfl | rfl | rfl
    all_goals k_steps
    all_goals first | walk_at "mine kept" | skip
    all_goals (dsimp only)
    (· rw [oct_0, hD]
       rw [hD] at hJ
       have := ints_snoc (n := n / 12 % 256) (t := ?_) hJ
       rw [List.append_assoc] at this
       exact this)
    (· rw [oct_1, hD]
       rw [hD] at hJ
       have := ints_snoc (n := n / 3072 % 256) (t := ?_) hJ
       rw [List.append_assoc] at this
       exact this)
    (· rw [oct_2, hD]
       rw [hD] at hJ
       have := ints_snoc (n := n / 786432 % 256) (t := ?_) hJ
       rw [List.append_assoc] at this
       exact this))
  (case fin =>
    rw [List.size_toArray, hz]
    refine end_assign kF (by rfl) (by rfl) (by rfl) fun D ys h tk hJ hD hDo F2 hk => ?_
    obtain ⟨N2, lD, oD⟩ := news_assign kF kN hD hDo hk
    rw [List.take_length, List.take_zero, List.append_nil] at hJ
    exact hQ _ _ _ _ _ F2 hJ N2))

-- part law2
noncomputable def tailL : List Int := [251, 255, 191, 0, 16, 131, 62, 63, 127, 128, 7]
theorem law_2 {w : World} {mean : ExcName → Option Value} {mg mb : Str → Option Value} {g : Heap} {L D : Addr} {dp : Nat} {fr : Option (List Env)} {gd : Option (List Code)} {un : Nat} {m : Str → Option Value} {o1 : Obj} {v1 : Option Value} {ks : List Int} {vs : List Value} {n1 : Nat} {D0 : Addr} {o0 : Obj} {rest : List Stmt} {Q : Flow → Shared → Prop} {E : Value → Shared → Prop} (X : (hd.heap_39 w.params).In g) (T : Top hd.view_39 lo mean mg mb g) (s : Shared)
    (F : Fr g L s.heap m) (N : News g L s.heap [(D, W.listOf vs.toArray n1), (D0, o0), (L + 1, o1)]) (d1 : o1.data = .cell v1) (n0 : @Ne Nat D (L + 1)) (n00 : @Ne Nat D0 (L + 1)) (h1 : m (Str.ofString "octets") = some (.ref D)) (hvs : IntsAre vs ks) (hl : ks.length ≤ 18) (hB : ∀ x ∈ ks, 0 ≤ x ∧ x < 256) (hdp : dp + 7 < 850) (hun : un + 80 < 9000)
    (hQ : ∀ h tk (r : Array UInt8) t o1', Fr g L h m → KBw.bInts r = ks ++ tailL → o1'.data = .cell (some (.bytes r t)) → News g L h [(D0, o0), (L + 1, o1')] → wpAny (model PySem.Challenge.rw_pa0027_01.row.prog w) ((AA dp fr gd un).deeper (lEnv L)) (execs rest (lEnv L)) Q E { s with heap := h, toks := tk }) :
    wpAny (model PySem.Challenge.rw_pa0027_01.row.prog w) ((AA dp fr gd un).deeper (lEnv L)) (execs (lC 2 rest) (lEnv L)) Q E s := by
  w_strict (
  revert X T
  k_fill
  intro X T
  obtain ⟨m, rfl⟩ := open_m h1
  with_unfolding_all refine wpAny_execs_cons ?_
  walk_at "mine stop"
  rename Fr _ _ _ _ => kF
  rename News _ _ _ _ => kN
  rename IntsAre _ (_ ++ _) => hI
  refine KBa.make_K kF kN rfl (News.isList kN (.head _)) hI ?_ (by simp; omega) ?_
  (· exact in_append hB (by unfold KBa.In; decide))
  intro h' t' k F' N' hin
  clear kF kN
  walk_at "mine stop"
  rename Fr _ _ _ _ => kF
  rename News _ _ _ _ => kN
  exact hQ _ _ _ _ _ kF (KBa.ints_make hin) (by assumption) kN.tail'.tail'.tail')

-- part law3
noncomputable def menuL : List Int := [3, 6, 4, 1, 3, 0, 127, 5, 2, 9, 3, 12]
noncomputable def sizesL (nums : List Int) : List Int := nums.map (fun n => menuL.getD (n % 12).toNat 0) ++ [3, 2]
theorem news_top {g h : Heap} {L : Addr} {p q r : Addr × Obj} {l : List (Addr × Obj)} (N : News g L h (p :: q :: r :: l)) : News g L h (p :: l) := fun x hx => by
  rcases List.mem_cons.mp hx with rfl | hx
  · exact N _ (.head _)
  · exact N.tail'.tail'.tail' x hx
theorem law_3 {w : World} {mean : ExcName → Option Value} {mg mb : Str → Option Value} {g : Heap} {L D : Addr} {dp : Nat} {fr : Option (List Env)} {gd : Option (List Code)} {un : Nat} {m : Str → Option Value} {ns : List Int} {vs : List Value} {n1 : Nat} {more : List (Addr × Obj)} {rest : List Stmt} {Q : Flow → Shared → Prop} {E : Value → Shared → Prop} (X : (hd.heap_39 w.params).In g) (T : Top hd.view_39 lo mean mg mb g) (s : Shared)
    (F : Fr g L s.heap m) (N : News g L s.heap ((D, W.listOf vs.toArray n1) :: more)) (h1 : m (Str.ofString "numbers") = some (.ref D)) (hvs : IntsAre vs ns) (hl : ns.length ≤ 6) (hB : ∀ x ∈ ns, 0 ≤ x ∧ x < 100000000) (hdp : dp + 7 < 850) (hun : un + 80 < 9000)
    (hQ : ∀ h tk D' ys n, Fr g L h (fun y => if y = Str.ofString "sizes" then some (.ref D') else m y) → IntsAre ys (sizesL ns) → News g L h ((D', W.listOf ys.toArray n) :: (D, W.listOf vs.toArray n1) :: more) → wpAny (model PySem.Challenge.rw_pa0027_01.row.prog w) ((AA dp fr gd un).deeper (lEnv L)) (execs rest (lEnv L)) Q E { s with heap := h, toks := tk }) :
    wpAny (model PySem.Challenge.rw_pa0027_01.row.prog w) ((AA dp fr gd un).deeper (lEnv L)) (execs (lC 3 rest) (lEnv L)) Q E s := by
  w_strict (
  revert X T
  k_fill
  intro X T
  obtain ⟨m, rfl⟩ := open_m h1
  with_unfolding_all refine wpAny_execs_cons ?_
  walk_at "mine stop"
  k_dflt (refine eval_lc (by with_unfolding_all rfl) (by decide) (by rfl) (by decide) ?_)
  walk1
  rename Fr _ _ _ _ => kF
  rename News _ _ _ _ => kN
  have hz := hvs.length
  refine src_list (by rfl) (News.isList kN (.head _)) (by rfl) (by rfl) (fun i ys => IntsAre ys (fl (fun _ => true) (fun j => menuL.getD (ns.getD j 0 % 12).toNat 0) i)) .nil ?len ?step ?fin
  (case len =>
    intro i ys hi h
    have h2 := fl_len (fun _ => true) (fun j => menuL.getD (ns.getD j 0 % 12).toNat 0) i
    rw [← h.length] at h2
    have h3 : i ≤ ns.length := by simpa [hz] using hi
    exact size_ok h2)
  (case step =>
    intro C i v ys h tk mC hv hJ e1 F0 E'
    have X2 := X.keeps kF.keep
    have T2 := Top.keeps T kF.keep
    obtain ⟨n, t2, rfl, hns⟩ := hvs.at i v (by simpa using hv)
    have hD : ns.getD i 0 = n := by rw [List.getD_eq_getElem?_getD, hns]; rfl
    clear kF kN X T
    have N0 := news_of F0
    have KK := walk_kept (s₂ := { s with heap := h }) F0
    k_steps
    all_goals first | walk_at "mine kept" | skip
    (rw [fl_pos rfl, hD, ← Int.fmod_eq_emod_of_nonneg n (by decide : (0 : Int) ≤ 12)]
     exact ints_snoc hJ))
  (case fin =>
    rw [List.size_toArray, hz]
    refine end_eval fun D' ys h tk hJ hD hDo hk => ?_
    obtain ⟨F2, N2, lD, oD⟩ := news_list kF kN hD hDo hk
    rw [range_map_getD (fun n => menuL.getD (n % 12).toNat 0)] at hJ
    have hlen : (ns.map fun n => menuL.getD (n % 12).toNat 0).length ≤ 6 := by simpa using hl
    clear kF kN hD hDo hk
    generalize hms : (ns.map fun n => menuL.getD (n % 12).toNat 0) = ms at hJ hlen
    walk_at "mine stop"
    rename Fr _ _ _ _ => kF
    rename News _ _ _ _ => kN
    rename IntsAre _ (_ ++ _) => hI
    exact hQ _ _ _ _ _ kF (by unfold sizesL; rw [hms]; exact hI) (news_top kN)))

-- part law4
noncomputable def endL (ns : List Int) : List Int := if ns.sum % 3 = 0 then [0] else if ns.sum % 3 = 1 then [127] else []
theorem news_top6 {g h : Heap} {L : Addr} {p q1 q2 q3 q4 q5 q6 : Addr × Obj} {l : List (Addr × Obj)} (N : News g L h (p :: q1 :: q2 :: q3 :: q4 :: q5 :: q6 :: l)) : News g L h (p :: l) := fun x hx => by
  rcases List.mem_cons.mp hx with rfl | hx
  · exact N _ (.head _)
  · exact N.tail'.tail'.tail'.tail'.tail'.tail'.tail' x hx
theorem law_4 {w : World} {mean : ExcName → Option Value} {mg mb : Str → Option Value} {g : Heap} {L D D1 : Addr} {dp : Nat} {fr : Option (List Env)} {gd : Option (List Code)} {un : Nat} {m : Str → Option Value} {ns ss : List Int} {vs us : List Value} {n1 n2 : Nat} {more : List (Addr × Obj)} {rest : List Stmt} {Q : Flow → Shared → Prop} {E : Value → Shared → Prop} (X : (hd.heap_39 w.params).In g) (T : Top hd.view_39 lo mean mg mb g) (s : Shared)
    (F : Fr g L s.heap m) (N : News g L s.heap ((D1, W.listOf us.toArray n2) :: (D, W.listOf vs.toArray n1) :: more)) (h1 : m (Str.ofString "numbers") = some (.ref D)) (h2 : m (Str.ofString "sizes") = some (.ref D1)) (hvs : IntsAre vs ns) (hus : IntsAre us ss) (hl : ns.length ≤ 6) (hl2 : ss.length ≤ 8) (hB : ∀ x ∈ ns, 0 ≤ x ∧ x < 100000000) (hdp : dp + 7 < 850) (hun : un + 80 < 9000)
    (hQ : ∀ h tk D' ys n m', Fr g L h m' → m' (Str.ofString "sizes") = some (.ref D') → IntsAre ys (ss ++ endL ns) → News g L h ((D', W.listOf ys.toArray n) :: more) → wpAny (model PySem.Challenge.rw_pa0027_01.row.prog w) ((AA dp fr gd un).deeper (lEnv L)) (execs rest (lEnv L)) Q E { s with heap := h, toks := tk }) :
    wpAny (model PySem.Challenge.rw_pa0027_01.row.prog w) ((AA dp fr gd un).deeper (lEnv L)) (execs (lC 4 rest) (lEnv L)) Q E s := by
  w_strict (
  revert X T
  k_fill
  intro X T
  obtain ⟨m, rfl⟩ := open_m2 h1 h2
  with_unfolding_all refine wpAny_execs_cons ?_
  walk_at "mine stop"
  have e3 : ns.sum.fmod 3 = ns.sum % 3 := Int.fmod_eq_emod_of_nonneg _ (by decide)
  have h3 : ns.sum % 3 = 0 ∨ ns.sum % 3 = 1 ∨ ns.sum % 3 = 2 := by omega
  rw [e3]
  rcases h3 with q | q | q
  all_goals (rw [q]; clear e3)
  all_goals walk_at "mine stop"
  all_goals (rename Fr _ _ _ _ => kF; rename News _ _ _ _ => kN; rename IntsAre _ (_ ++ _) => hI)
  (· exact hQ _ _ _ _ _ _ kF rfl (by rw [endL, if_pos q]; exact hI) (news_top6 kN))
  (· exact hQ _ _ _ _ _ _ kF rfl (by rw [endL, if_neg (by omega), if_pos q]; exact hI) (news_top6 kN))
  (· exact hQ _ _ _ _ _ _ kF rfl (by rw [endL, if_neg (by omega), if_neg (by omega)]; exact hI) (news_top6 kN)))

-- part law5
theorem fr_kept {g h h' : Heap} {L : Addr} {m : Str → Option Value} {env : Env} (F : Fr g L h m) (hk : KeptBut h [env] h') (hf : env.frame = some L) : Fr g L h' m := by
  refine ⟨hk.2.ns F.ns, fun b o e => hk.1 b o (F.keep b o e) fun q => ?_, F.above⟩
  have q' : b = L := by simpa [frs, hf] using q
  rw [q', fr_new F] at e; cases e
theorem news_kept {g h h' : Heap} {L : Addr} {news : List (Addr × Obj)} {env : Env} (N : News g L h news) (hk : KeptBut h [env] h') (hf : env.frame = some L) : News g L h' news := fun p hp =>
  ⟨hk.1 _ _ (N p hp).1 (fun q => (N p hp).2.1 (by simpa [frs, hf] using q)), (N p hp).2⟩
theorem frames_one {g h : Heap} {L : Addr} {m : Str → Option Value} {env : Env} (F : Fr g L h m) (hf : env.frame = some L) (hkd : env.scope.kind ≠ .module) : Frames h [env] := fun e he => by
  obtain rfl := List.mem_singleton.mp he
  obtain ⟨o, es, ep, ho, hd, _⟩ := F.ns
  exact ⟨hkd, L, o, hf, ho, fun vs q => by rw [hd] at q; cases q⟩
theorem ground_off {g h : Heap} {L : Addr} {m : Str → Option Value} {env : Env} (F : Fr g L h m) (hf : env.frame = some L) : ∀ b o, g.get? b = some o → h.get? b = some o ∧ b ∉ frs [env] := fun b o e =>
  ⟨F.keep b o e, fun q => by
    have q' : b = L := by simpa [frs, hf] using q
    rw [q', fr_new F] at e; cases e⟩
theorem ground_size {g h : Heap} {L : Addr} {m : Str → Option Value} (F : Fr g L h m) : g.objs.size ≤ h.objs.size := Nat.le_trans F.above (Nat.le_of_lt F.ns.lt)
/-- where the while over the noughts stands -/
noncomputable def WInv (g : Heap) (L : Addr) (o1 : Obj) (RES : List Int) (s : Shared) (n : Nat) (s' : Shared) : Prop :=
  ∃ h tk gn D ys n' m' ss, s' = { s with heap := h, toks := tk, gens := gn } ∧ ss.length = n ∧ n ≤ 9 ∧ ss.dropWhile (· == 0) = RES ∧ Fr g L h m' ∧ m' (Str.ofString "sizes") = some (.ref D) ∧ IntsAre ys ss ∧ News g L h [(D, W.listOf ys.toArray n'), (L + 1, o1)] ∧ (AllBare s.gens → AllBare gn)
theorem news_drop2 {g h : Heap} {L : Addr} {p q r : Addr × Obj} (N : News g L h [p, q, r]) : News g L h [p, r] := fun x hx => by
  rcases List.mem_cons.mp hx with rfl | hx
  · exact N _ (.head _)
  · exact N.tail'.tail' x hx
theorem law_5 {w : World} {mean : ExcName → Option Value} {mg mb : Str → Option Value} {g : Heap} {L D : Addr} {dp : Nat} {gd : Option (List Code)} {un : Nat} {m : Str → Option Value} {o1 : Obj} {r : Array UInt8} {t : Tok} {ks ss : List Int} {us : List Value} {n2 : Nat} {rest : List Stmt} {Q : Flow → Shared → Prop} {E : Value → Shared → Prop} (X : (hd.heap_39 w.params).In g) (T : Top hd.view_39 lo mean mg mb g) (s : Shared)
    (F : Fr g L s.heap m) (N : News g L s.heap [(D, W.listOf us.toArray n2), (L + 1, o1)]) (d1 : o1.data = .cell (some (.bytes r t))) (hr : KBw.bInts r = ks) (hkl : ks.length ≤ 29) (h2 : m (Str.ofString "sizes") = some (.ref D)) (hus : IntsAre us ss) (hl2 : ss.length ≤ 9) (hne : ss.dropWhile (· == 0) ≠ []) (hdp : dp + 7 < 840) (hun : un + 80 < 8900)
    (hQ : ∀ h tk gn D' ys n m', Fr g L h m' → m' (Str.ofString "sizes") = some (.ref D') → IntsAre ys (ss.dropWhile (· == 0)) → News g L h [(D', W.listOf ys.toArray n), (L + 1, o1)] → (AllBare s.gens → AllBare gn) → wpAny (model PySem.Challenge.rw_pa0027_01.row.prog w) ((AA dp (some []) gd un).deeper (lEnv L)) (execs rest (lEnv L)) Q E { s with heap := h, toks := tk, gens := gn }) :
    wpAny (model PySem.Challenge.rw_pa0027_01.row.prog w) ((AA dp (some []) gd un).deeper (lEnv L)) (execs (lC 5 rest) (lEnv L)) Q E s := by
  w_strict (
  revert X T
  k_fill
  intro X T
  with_unfolding_all refine wpAny_execs_cons (wpAny_While ?_)
  refine codeAny_whileLoop (WInv g L o1 (ss.dropWhile (· == 0)) s) ?_ ss.length ⟨_, _, _, D, us, n2, m, ss, rfl, rfl, hl2, rfl, F, h2, hus, N, id⟩
  clear F N h2 hus
  rintro n s' ⟨h, tk, gn, D, ys, n', m', sx, rfl, rfl, hn9, hres, F, h2, hys, N, hbare⟩
  cases sx with
  | nil => exact absurd hres.symm hne
  | cons x sx =>
    obtain ⟨m', rfl⟩ := open_m h2
    walk_at "mine stopc"
    (· rename_i t2 q
       have hx : x = 0 := q
       subst hx
       have hit : ∃ t, ys.toArray[0]? = some (Value.int 0 t) := by
         obtain ⟨t3, e3⟩ := hys.get 0 0 rfl
         exact ⟨t3, by simpa using e3⟩
       refine law_cut0 w r ks _ D _ hr (by omega) hit _ _ _ _ [lEnv L] _ _ _ g _ _ (X.keeps F.keep) (Top.keeps T F.keep) ?d ?u (News.isList N (.head _)) (frames_one F rfl (by intro q; cases q)) X T (ground_off F rfl) (ground_size F) ?k
       (case d => (try simp only [depth_mark, depth_in1, depth_deeper]); omega)
       (case u => (try simp only [units_in1, units_deeper, Around.mark_units]); omega)
       intro h9 tk9 gn9 hk9 hb9
       have F9 := fr_kept F hk9 rfl
       have N9 := news_kept N hk9 rfl
       clear F N hk9
       walk_at "mine stopc"
       rename Fr _ _ _ _ => kF
       rename News _ _ _ _ => kN
       rename IntsAre _ (List.drop 1 _) => hI
       refine ⟨sx.length, Nat.lt_succ_self _, _, _, gn9, _, _, 0, _, sx, rfl, rfl, ?_, ?_, kF, rfl, hI, ?_, fun z => hb9 (hbare z)⟩
       (· have := hn9
          simp only [List.length_cons] at this
          omega)
       (· rw [← hres]
          rfl)
       (· exact news_drop2 kN))
    (· rename_i q
       have hx : x ≠ 0 := q
       have e : ss.dropWhile (· == 0) = x :: sx := by
         rw [← hres]
         rw [List.dropWhile_cons, if_neg (by simpa using hx)]
       rw [e] at hQ
       exact hQ _ _ _ _ _ _ _ F rfl hys N hbare))

-- part law6
theorem BsAre.length {vs : List Value} {ns : List (List Int)} (x : BsAre vs ns) : vs.length = ns.length := by
  induction x with
  | nil => rfl
  | cons b t _ ih => exact congrArg (· + 1) ih
theorem news_new {g h h' : Heap} {L p : Addr} {m : Str → Option Value} {news : List (Addr × Obj)} {o : Obj} (F : Fr g L h m) (N : News g L h news) (hp : h'.get? p = some o) (hn : h.get? p = none) (hk : ∀ b o, h.get? b = some o → h'.get? b = some o) : Fr g L h' m ∧ News g L h' ((p, o) :: news) := by
  refine ⟨F.keptAll hk, fun q hq => ?_⟩
  rcases List.mem_cons.mp hq with rfl | hq
  · refine ⟨hp, fun z => ?_, ?_⟩
    · obtain ⟨ob, _, _, e, _⟩ := F.ns
      rw [← show p = L from z, hn] at e; cases e
    · cases z : g.get? p with
      | none => rfl
      | some ob => rw [F.keep _ _ z] at hn; cases hn
  · exact N.grown hk q hq
theorem law_6 {w : World} {mean : ExcName → Option Value} {mg mb : Str → Option Value} {g : Heap} {L D : Addr} {dp : Nat} {fr : Option (List Env)} {gd : Option (List Code)} {un : Nat} {m : Str → Option Value} {o1 : Obj} {r : Array UInt8} {t : Tok} {ks ss : List Int} {us : List Value} {n2 : Nat} {rest : List Stmt} {Q : Flow → Shared → Prop} {E : Value → Shared → Prop} (X : (hd.heap_39 w.params).In g) (T : Top hd.view_39 lo mean mg mb g) (s : Shared)
    (F : Fr g L s.heap m) (N : News g L s.heap [(D, W.listOf us.toArray n2), (L + 1, o1)]) (d1 : o1.data = .cell (some (.bytes r t))) (hr : KBw.bInts r = ks) (hk1 : 1 ≤ ks.length) (hkl : ks.length ≤ 29) (h2 : m (Str.ofString "sizes") = some (.ref D)) (hus : IntsAre us ss) (hl2 : ss.length ≤ 9) (h0 : ss[0]? ≠ some 0) (hB : ∀ x ∈ ss, 0 ≤ x ∧ x ≤ 127) (hdp : dp + 7 < 840) (hun : un + 80 < 8900)
    (hQ : ∀ h tk D' ys n, Fr g L h (fun y => if y = Str.ofString "ends" then some (.ref D') else m y) → IntsAre ys (endsL ss (ks.length : Int)) → News g L h [(D', W.listOf ys.toArray n), (D, W.listOf us.toArray n2), (L + 1, o1)] → wpAny (model PySem.Challenge.rw_pa0027_01.row.prog w) ((AA dp fr gd un).deeper (lEnv L)) (execs rest (lEnv L)) Q E { s with heap := h, toks := tk }) :
    wpAny (model PySem.Challenge.rw_pa0027_01.row.prog w) ((AA dp fr gd un).deeper (lEnv L)) (execs (lC 6 rest) (lEnv L)) Q E s := by
  w_strict (
  revert X T
  k_fill
  intro X T
  obtain ⟨m, rfl⟩ := open_m h2
  have hsz : r.size = ks.length := by rw [← hr]; simp [KBw.bInts]
  with_unfolding_all refine wpAny_execs_cons ?_
  walk_at "mine stopc"
  rename Fr _ _ _ _ => kF
  rename News _ _ _ _ => kN
  refine law_ends w D ss us (ks.length : Int) _ hus (by omega) (by omega) (by omega) (fun x hx => (hB x hx).1) (fun x hx => by have := (hB x hx).2; omega) h0 mean mg mb _ _ _ _ _ _ _ (X.keeps kF.keep) (Top.keeps T kF.keep) ?d ?u (News.isList kN (.head _)) ?k
  (case d => (try simp only [depth_mark, depth_in1, depth_deeper]); omega)
  (case u => (try simp only [units_in1, units_deeper, Around.mark_units]); omega)
  rintro p ys n s' hys hp hn ⟨h', tk', rfl, hk⟩
  obtain ⟨F2, N2⟩ := news_new kF kN hp hn hk
  clear kF kN hp hn hk
  walk_at "mine stopc"
  rename Fr _ _ _ _ => kF
  rename News _ _ _ _ => kN
  exact hQ _ _ _ _ _ kF hys kN)

-- part law7
noncomputable def sliceL (ks : List Int) (b e : Int) : List Int := (ks.drop b.toNat).take (e.toNat - b.toNat)
noncomputable def piecesL (ks : List Int) (ends : List Int) : List (List Int) := List.zipWith (sliceL ks) (0 :: ends) ends
theorem slice_clip {ks : List Int} {b e : Int} (hb : 0 ≤ b) (he : 0 ≤ e) : (ks.drop (clipAt ks.length b)).take (clipAt ks.length e - clipAt ks.length b) = sliceL ks b e := by
  rw [clip_min hb, clip_min he]
  unfold sliceL
  rcases Nat.lt_or_ge b.toNat ks.length with q | q
  · rw [Nat.min_eq_left (Nat.le_of_lt q)]
    rcases Nat.lt_or_ge e.toNat ks.length with z | z
    · rw [Nat.min_eq_left (Nat.le_of_lt z)]
    · rw [Nat.min_eq_right z, List.take_of_length_le (by simp), List.take_of_length_le (by simp; omega)]
  · rw [Nat.min_eq_right q, List.drop_of_length_le (Nat.le_refl _), List.drop_of_length_le q]
    simp
theorem pieces_at {ks es : List Int} {i : Nat} {b e : Int} (hb : (0 :: es)[i]? = some b) (he : es[i]? = some e) : (piecesL ks es).take (i + 1) = (piecesL ks es).take i ++ [sliceL ks b e] := by
  have : (piecesL ks es)[i]? = some (sliceL ks b e) := by
    unfold piecesL
    rw [List.getElem?_zipWith, hb, he]
  rw [List.take_add_one, this]
  rfl
theorem pieces_len (ks es : List Int) : (piecesL ks es).length = es.length := by
  unfold piecesL
  rw [List.length_zipWith, List.length_cons]
  omega
theorem news_top2 {g h : Heap} {L : Addr} {p q1 q2 : Addr × Obj} {l : List (Addr × Obj)} (N : News g L h (p :: q1 :: q2 :: l)) : News g L h (p :: l) := fun x hx => by
  rcases List.mem_cons.mp hx with rfl | hx
  · exact N _ (.head _)
  · exact N.tail'.tail'.tail' x hx
theorem law_7 {w : World} {mean : ExcName → Option Value} {mg mb : Str → Option Value} {g : Heap} {L De : Addr} {dp : Nat} {fr : Option (List Env)} {gd : Option (List Code)} {un : Nat} {m : Str → Option Value} {o1 : Obj} {r : Array UInt8} {t : Tok} {ks es : List Int} {ve : List Value} {ne : Nat} {D : Addr} {o2 : Obj} {rest : List Stmt} {Q : Flow → Shared → Prop} {E : Value → Shared → Prop} (X : (hd.heap_39 w.params).In g) (T : Top hd.view_39 lo mean mg mb g) (s : Shared)
    (F : Fr g L s.heap m) (N : News g L s.heap [(De, W.listOf ve.toArray ne), (D, o2), (L + 1, o1)]) (d1 : o1.data = .cell (some (.bytes r t))) (hr : KBw.bInts r = ks) (hk1 : 1 ≤ ks.length) (hkl : ks.length ≤ 29) (h2 : m (Str.ofString "ends") = some (.ref De)) (hve : IntsAre ve es) (hl2 : es.length ≤ 29) (hB : ∀ x ∈ es, 0 ≤ x ∧ x ≤ 29) (hdp : dp + 7 < 840) (hun : un + 80 < 8900)
    (hQ : ∀ h tk D' ys n, Fr g L h (fun y => if y = Str.ofString "pieces" then some (.ref D') else m y) → BsAre ys (piecesL ks es) → News g L h [(D', W.listOf ys.toArray n), (De, W.listOf ve.toArray ne), (D, o2), (L + 1, o1)] → wpAny (model PySem.Challenge.rw_pa0027_01.row.prog w) ((AA dp fr gd un).deeper (lEnv L)) (execs rest (lEnv L)) Q E { s with heap := h, toks := tk }) :
    wpAny (model PySem.Challenge.rw_pa0027_01.row.prog w) ((AA dp fr gd un).deeper (lEnv L)) (execs (lC 7 rest) (lEnv L)) Q E s := by
  w_strict (
  revert X T
  k_fill
  intro X T
  obtain ⟨m, rfl⟩ := open_m h2
  have hsz : r.size = ks.length := by rw [← hr]; simp [KBw.bInts]
  with_unfolding_all refine wpAny_execs_cons ?_
  k_dflt (refine assign_lc (by with_unfolding_all rfl) (by with_unfolding_all rfl) (by decide) (by rfl) (by decide) ?_)
  walk_at "mine stopc"
  rename Fr _ _ _ _ => kF
  rename News _ _ _ _ => kN
  rename IntsAre _ ([0] ++ es) => hI
  have hz := hve.length
  have hz1 := hI.length
  refine src_zip (by rfl) (News.isList kN (.head _)) (News.isList kN (.tail _ (.tail _ (.head _)))) (by rfl) (by rfl) (by rfl) (by decide) (fun i ys => BsAre ys ((piecesL ks es).take i)) .nil ?len ?step ?fin
  (case len =>
    intro i ys hi h
    have h2 := h.length
    rw [List.length_take, pieces_len] at h2
    exact size_ok (m := 29) (by omega))
  (case step =>
    intro C i v₁ v₂ ys h tk mC hv1 hv2 hJ e1 e2 F0 E'
    have X2 := X.keeps kF.keep
    have T2 := Top.keeps T kF.keep
    have hc1 : HasCell _ (L + 1) (.bytes r t) := ⟨o1, (kN _ (.tail _ (.tail _ (.tail _ (.tail _ (.head _)))))).1, d1⟩
    obtain ⟨b, tb, rfl, hb⟩ := hI.at i v₁ (by simpa using hv1)
    obtain ⟨e, te, rfl, he⟩ := hve.at i v₂ (by simpa using hv2)
    have hbB : 0 ≤ b ∧ b ≤ 29 := by
      rcases List.mem_append.mp (List.mem_of_getElem? hb) with q | q
      · rw [List.mem_singleton.mp q]; decide
      · exact hB b q
    have heB := hB e (List.mem_of_getElem? he)
    clear kF kN X T
    have N0 := news_of F0
    have KK := walk_kept (s₂ := { s with heap := h }) F0
    k_steps
    all_goals first | walk_at "mine kept" | skip
    (rename KBw.bInts (KBy.picked r (some b) (some e)) = _ => hP
     dsimp only
     rw [pieces_at (show (0 :: es)[i]? = some b from hb) he, ← slice_clip hbB.1 heB.1, ← hP]
     exact hJ.snoc _ _))
  (case fin =>
    rw [List.size_toArray, List.size_toArray, hz, hz1, Nat.min_eq_right (by simp)]
    refine end_assign kF (by rfl) (by rfl) (by rfl) fun D ys h tk hJ hD hDo F2 hk => ?_
    obtain ⟨N2, lD, oD⟩ := news_assign kF kN hD hDo hk
    rw [List.take_of_length_le (by rw [pieces_len]; exact Nat.le_refl _)] at hJ
    exact hQ _ _ _ _ _ F2 hJ (news_top2 N2)))

-- part law8
theorem BsAre.at {vs : List Value} {ns : List (List Int)} (x : BsAre vs ns) : ∀ (i : Nat) (v : Value), vs[i]? = some v → ∃ b t, v = .bytes b t ∧ ns[i]? = some (KBw.bInts b) := by
  induction x with
  | nil => intro i v h; simp at h
  | cons b t _ ih =>
    intro i v h
    cases i with
    | zero => simp at h; exact ⟨b, t, h.symm, rfl⟩
    | succ i => simpa using ih i v (by simpa using h)
theorem map_at {α β : Type} {f : α → β} {l : List α} {i : Nat} {a : α} (h : l[i]? = some a) : (l.map f).take (i + 1) = (l.map f).take i ++ [f a] := by
  rw [List.take_add_one, List.getElem?_map, h]
  rfl
theorem law_8 {w : World} {mean : ExcName → Option Value} {mg mb : Str → Option Value} {g : Heap} {L D : Addr} {dp : Nat} {fr : Option (List Env)} {gd : Option (List Code)} {un : Nat} {m : Str → Option Value} {ps : List (List Int)} {vs : List Value} {n1 : Nat} {more : List (Addr × Obj)} {rest : List Stmt} {Q : Flow → Shared → Prop} {E : Value → Shared → Prop} (X : (hd.heap_39 w.params).In g) (T : Top hd.view_39 lo mean mg mb g) (s : Shared)
    (F : Fr g L s.heap m) (N : News g L s.heap ((D, W.listOf vs.toArray n1) :: more)) (h2 : m (Str.ofString "pieces") = some (.ref D)) (hvs : BsAre vs ps) (hl2 : ps.length ≤ 29) (hB : ∀ x ∈ ps, x.length ≤ 29) (hdp : dp + 7 < 840) (hun : un + 80 < 8900)
    (hQ : ∀ h tk D' ys n, Fr g L h (fun y => if y = Str.ofString "writings" then some (.ref D') else m y) → BsAre ys (ps.map enc) → News g L h ((D', W.listOf ys.toArray n) :: (D, W.listOf vs.toArray n1) :: more) → wpAny (model PySem.Challenge.rw_pa0027_01.row.prog w) ((AA dp fr gd un).deeper (lEnv L)) (execs rest (lEnv L)) Q E { s with heap := h, toks := tk }) :
    wpAny (model PySem.Challenge.rw_pa0027_01.row.prog w) ((AA dp fr gd un).deeper (lEnv L)) (execs (lC 8 rest) (lEnv L)) Q E s := by
  w_strict (
  revert X T
  k_fill
  intro X T
  obtain ⟨m, rfl⟩ := open_m h2
  with_unfolding_all refine wpAny_execs_cons ?_
  k_dflt (refine assign_lc (by with_unfolding_all rfl) (by with_unfolding_all rfl) (by decide) (by rfl) (by decide) ?_)
  walk1
  rename Fr _ _ _ _ => kF
  rename News _ _ _ _ => kN
  have hz := hvs.length
  refine src_list (by rfl) (News.isList kN (.head _)) (by rfl) (by rfl) (fun i ys => BsAre ys ((ps.map enc).take i)) .nil ?len ?step ?fin
  (case len =>
    intro i ys hi h
    have h2 := h.length
    rw [List.length_take, List.length_map] at h2
    exact size_ok (m := 29) (by omega))
  (case step =>
    intro C i v ys h tk mC hv hJ e1 F0 E'
    have X2 := X.keeps kF.keep
    have T2 := Top.keeps T kF.keep
    obtain ⟨b, t, rfl, hb⟩ := hvs.at i v (by simpa using hv)
    have hbl : (KBw.bInts b).length ≤ 29 := hB _ (List.mem_of_getElem? hb)
    clear kF kN X T
    have N0 := news_of F0
    have KK := walk_kept (s₂ := { s with heap := h }) F0
    walk_at "mine stopc"
    rename Fr _ _ _ _ => kF
    rename News _ _ _ _ => kN
    refine use (b64e w b (KBw.bInts b) t rfl (by omega) mean mg mb _ _ _ _ _ _ ?X ?T ?d ?u trivial) kF kN ?_
    (case X => exact X2.keeps kF.keep)
    (case T => exact Top.keeps T2 kF.keep)
    (case d => (try simp only [depth_mark, depth_in1, depth_deeper]); omega)
    (case u => (try simp only [units_in1, units_deeper, Around.mark_units]); omega)
    rintro v' h' tk' ⟨r', t', rfl, hr'⟩ hk' F' N'
    refine ⟨KeptH.call kF hk', ?_⟩
    dsimp only
    rw [map_at hb, ← hr']
    exact hJ.snoc _ _)
  (case fin =>
    rw [List.size_toArray, hz]
    refine end_assign kF (by rfl) (by rfl) (by rfl) fun D ys h tk hJ hD hDo F2 hk => ?_
    obtain ⟨N2, lD, oD⟩ := news_assign kF kN hD hDo hk
    rw [List.take_of_length_le (by simp)] at hJ
    exact hQ _ _ _ _ _ F2 hJ N2))

-- part joinb
section
open Builtin
theorem slot_join : Slot "bytes" "join" "bytes.join" :=
  .of (owner := "bytes") (n := "join") (by rw [typeLookup_type, builtinLookup_eq_fast]; kernel_rfl) (by decide +kernel) (by decide +kernel) (by decide +kernel)
    (by first | exact .inl (by decide +kernel) | exact .inr (by decide +kernel)) (by rw [isSubtype_type]; kernel_rfl)
theorem type_join : typeOf (.builtin "bytes.join") = pure (.type "method_descriptor") := by show builtinType _ = _; rw [builtinType_eq_fast]; kernel_rfl
theorem entry_join : entryFor table "bytes.join" = some Builtin.«bytes.join» := entryFor_of_tree (by kernel_rfl)
theorem args_join (a b : Value) : argsOk "bytes.join" ⟨[a, b], []⟩ := by
  unfold argsOk; rw [signature?_of (id := "bytes.join") (n := ['n', 'i', 'o', 'j']) (o := ['s', 'e', 't', 'y', 'b']) (by kernel_rfl) FB.owner_bytes]; kernel_rfl
theorem take_eq (b : Array UInt8) (t : Tok) : Bytes.takeBufferQuiet? "bytes.join" (.bytes b t) 0 = pure (some (b, none)) := by kernel_rfl
variable {prog : Program} {w : World} {A : Around} {E : Value → Shared → Prop} {s : Shared} {t : Tok}
theorem forIn_inv {M : Model} {σ : Type} {f : Nat → σ → Sem (ForInStep σ)} {I : Nat → σ → Prop} {Q : σ → Shared → Prop} (n : Nat)
    (step : ∀ i st (P : ForInStep σ → Shared → Prop), i < n → I i st → (∀ st', I (i + 1) st' → P (.yield st') s) → wpAny M A (f i st) P E s) (fin : ∀ st, I n st → Q st s) :
    ∀ k i st, i + k = n → I i st → wpAny M A (forIn (List.range' i k) st f) Q E s
  | 0, i, st, h, hI => by
    obtain rfl : i = n := by omega
    exact wpAny_pure (fin st hI)
  | k + 1, i, st, h, hI => by
    rw [List.range'_succ, List.forIn_cons]
    refine wpAny_bind (step i st _ (by omega) hI fun st' hI' => ?_)
    exact forIn_inv n step fin k (i + 1) st' (by omega) hI'
theorem let_go {M : Model} {Q : Unit → Shared → Prop} (hQ : Q () s) (r : Value) : ∀ taken : List (Value × Option Value), (∀ p ∈ taken, p.2 = none) → wpAny M A (Bytes.joinLetGo taken [r]) Q E s
  | [], _ => by
    unfold Bytes.joinLetGo
    exact wpAny_pure hQ
  | (x, o) :: rest, h => by
    have ho : o = none := h _ (.head _)
    subst ho
    unfold Bytes.joinLetGo
    refine wpAny_bind ?_
    show wpAny _ _ (letGo [x] _) _ _ _
    unfold letGo
    refine wpAny_bind (wpAny_holding (wpAny_point ?_))
    unfold letGo
    exact wpAny_pure (let_go hQ r rest fun p hp => h p (.tail _ hp))
/-- where the loop of join stands -/
noncomputable def JInv (ps : List (List Int)) (i : Nat) (st : Array (Array UInt8) × List (Value × Option Value)) : Prop :=
  st.1.toList.map KBw.bInts = ps.take i ∧ (∀ p ∈ st.2, p.2 = none) ∧ (∀ p ∈ st.2, p.1.onHeap = false)
theorem joined_is : ∀ (l : List (Array UInt8)) (k : Nat) (out : Array UInt8), ((l.zipIdx k).foldl (fun (out : Array UInt8) (x : Array UInt8 × Nat) => (if x.2 > 0 then out ++ (#[] : Array UInt8) else out) ++ x.1) out).toList = out.toList ++ (l.map (·.toList)).flatten
  | [], _, _ => by simp
  | a :: l, k, out => by
    rw [List.zipIdx_cons, List.foldl_cons, joined_is l (k + 1)]
    split <;> simp
theorem bInts_joined (parts : List (Array UInt8)) : KBw.bInts (Bytes.joined #[] parts) = (parts.map KBw.bInts).flatten := by
  have := joined_is parts 0 #[]
  unfold Bytes.joined KBw.bInts
  rw [show (parts.zipIdx.foldl (fun out (x : Array UInt8 × Nat) => match x with | (p, i) => (if i > 0 then out ++ (#[] : Array UInt8) else out) ++ p) #[]) = ((parts.zipIdx 0).foldl (fun (out : Array UInt8) (x : Array UInt8 × Nat) => (if x.2 > 0 then out ++ (#[] : Array UInt8) else out) ++ x.1) #[]) from rfl, this]
  simp [List.map_flatten, Function.comp_def]
theorem fold_size : ∀ (l : List (Array UInt8)) (n : Nat), l.foldl (fun x y => x + y.size) n = n + ((l.map KBw.bInts).flatten).length
  | [], n => by simp
  | a :: l, n => by
    rw [List.foldl_cons, fold_size l]
    simp [KBw.bInts]
    omega
theorem call_join {a : Addr} {vs : List Value} {ps : List (List Int)} {Q : Value → Shared → Prop} (hl : s.heap.IsList a vs.toArray) (hb : BsAre vs ps) (h1 : 0 < vs.length) (hz : ps.flatten.length ≤ 10000)
    (h : ∀ r t' k, KBw.bInts r = ps.flatten → Q (.bytes r t') { s with toks := k }) : wpAny (model prog w) A (call (.builtin "bytes.join") [.bytes #[] t, .ref a]) Q E s := by
  refine wpAny_call_entry slot_join (typeIs_bytes _ _ _) entry_join ?_ (args_join _ _)
  have ho := hl
  obtain ⟨o, ho, hc, n, hd⟩ := ho
  unfold «bytes.join» Bytes.joinM
  refine wpAny_bind (wpAny_of_eq (a := (.bytes #[] t, .ref a)) rfl ?_)
  dsimp only
  refine wpAny_bind ?_
  show wpAny _ _ (Bytes.joinItems (.ref a)) _ _ _
  unfold Bytes.joinItems
  refine wpAny_bind (wpAny_typeOf hl.typeIs ?_)
  refine wpAny_pure ?_
  refine wpAny_bind (wpAny_seqItems ho hd ?_)
  dsimp only
  rw [if_pos (by rfl)]
  obtain ⟨x, hv⟩ | ⟨x, y, l, hv⟩ : (∃ x, vs = [x]) ∨ ∃ x y l, vs = x :: y :: l := by
    rcases vs with _ | ⟨x, _ | ⟨y, l⟩⟩
    · exact absurd h1 (by simp)
    · exact .inl ⟨x, rfl⟩
    · exact .inr ⟨x, y, l, rfl⟩
  · subst hv
    cases hb with
    | cons b t2 hb' =>
      cases hb'
      refine wpAny_bind (wpAny_typeOf (typeIs_bytes _ _ _) ?_)
      rw [if_pos (by rfl)]
      refine wpAny_bind (wpAny_rule ?_)
      refine wpAny_pure ⟨_, rfl, ?_⟩
      exact h b t2 s.toks (by simp)
  · have hbs := hb.length
    subst hv
    refine wpAny_bind ?_
    generalize hv : x :: y :: l = vs at *
    rw [Std.Legacy.Range.forIn_eq_forIn_range']
    refine forIn_inv (I := JInv ps) vs.length ?step ?fin _ 0 (#[], []) (by simp) ⟨by simp, by simp, by simp⟩
    case step =>
      rintro i ⟨parts, taken⟩ P hi ⟨hJ1, hJ2, hJ3⟩ hP
      dsimp only
      refine wpAny_bind (wpAny_seqItems ho hd ?_)
      dsimp only
      obtain ⟨b, t2, hv, hp⟩ := hb.at i _ (List.getElem?_eq_getElem hi)
      have hg : vs.toArray.getD i Value.none = .bytes b t2 := by
        rw [Array.getD_eq_getD_getElem?]
        simp [List.getElem?_eq_getElem hi, hv]
      have hany : (Bytes.Kind.bytes == Bytes.Kind.bytearray || taken.any fun x => x.fst.onHeap) = false := by
        rw [Bool.or_eq_false_iff]
        refine ⟨by rfl, ?_⟩
        rw [List.any_eq_false]
        intro q hq
        rw [hJ3 q hq]; simp
      rw [if_neg (by rw [hany]; simp), hg]
      refine wpAny_bind (wpAny_holding (wpAny_of_eq (take_eq b t2) ?_))
      dsimp only
      refine wpAny_bind (wpAny_seqItems ho hd ?_)
      dsimp only
      rw [if_neg (by simp)]
      refine wpAny_pure (hP _ ⟨?_, ?_, ?_⟩)
      · simp only [Array.toList_push, List.map_append, hJ1, List.map_cons, List.map_nil]
        rw [List.take_add_one, hp]
        rfl
      · intro q hq
        rcases List.mem_append.mp hq with hq | hq
        · exact hJ2 q hq
        · rw [List.mem_singleton.mp hq]
      · intro q hq
        rcases List.mem_append.mp hq with hq | hq
        · exact hJ3 q hq
        · rw [List.mem_singleton.mp hq]; rfl
    case fin =>
      rintro ⟨parts, taken⟩ ⟨hJ1, hJ2, hJ3⟩
      rw [hbs, List.take_length] at hJ1
      dsimp only at hJ1 hJ2 hJ3 ⊢
      refine wpAny_bind (wpAny_of_eq (a := (#[] : Array UInt8)) rfl ?_)
      have hsz : Array.foldl (fun x y => x + y.size) ((#[] : Array UInt8).size * (parts.size - 1)) parts = ps.flatten.length := by
        rw [← Array.foldl_toList, fold_size, hJ1]; simp
      rw [if_neg (by rw [hsz]; unfold Bytes.tooLong; rw [sizeLine_eq, decide_eq_true_eq]; omega)]
      refine wpAny_bind (wpAny_mkBytes ?_ ?_)
      · refine wpAny_bind (wpAny_holding (wpAny_point ?_))
        refine wpAny_bind (let_go ?_ _ taken hJ2)
        refine wpAny_pure ⟨_, rfl, ?_⟩
        exact h _ _ _ (by rw [bInts_joined, hJ1])
      · have e := congrArg List.length (bInts_joined parts.toList)
        rw [hJ1] at e
        have e2 : (Bytes.joined #[] parts.toList).size = ps.flatten.length := by rw [← e]; simp [KBw.bInts]
        rw [e2, sizeLine_eq]; omega
end

-- part law9
noncomputable def spanOf (x : Int) : Int := if x = 0 ∨ x = 127 then x else (x + 2) / 3 * 4
theorem law_9 {w : World} {mean : ExcName → Option Value} {mg mb : Str → Option Value} {g : Heap} {L D : Addr} {dp : Nat} {fr : Option (List Env)} {gd : Option (List Code)} {un : Nat} {m : Str → Option Value} {ss : List Int} {vs : List Value} {more : List (Addr × Obj)} {n1 : Nat} {rest : List Stmt} {Q : Flow → Shared → Prop} {E : Value → Shared → Prop} (X : (hd.heap_39 w.params).In g) (T : Top hd.view_39 lo mean mg mb g) (s : Shared)
    (F : Fr g L s.heap m) (N : News g L s.heap more) (hm : (D, W.listOf vs.toArray n1) ∈ more) (h2 : m (Str.ofString "sizes") = some (.ref D)) (hvs : IntsAre vs ss) (hl2 : ss.length ≤ 9) (hB : ∀ x ∈ ss, 0 ≤ x ∧ x ≤ 127) (hdp : dp + 7 < 840) (hun : un + 80 < 8900)
    (hQ : ∀ h tk D' ys n, Fr g L h (fun y => if y = Str.ofString "spans" then some (.ref D') else m y) → IntsAre ys (ss.map spanOf) → News g L h ((D', W.listOf ys.toArray n) :: more) → wpAny (model PySem.Challenge.rw_pa0027_01.row.prog w) ((AA dp fr gd un).deeper (lEnv L)) (execs rest (lEnv L)) Q E { s with heap := h, toks := tk }) :
    wpAny (model PySem.Challenge.rw_pa0027_01.row.prog w) ((AA dp fr gd un).deeper (lEnv L)) (execs (lC 9 rest) (lEnv L)) Q E s := by
  w_strict (
  revert X T
  k_fill
  intro X T
  obtain ⟨m, rfl⟩ := open_m h2
  with_unfolding_all refine wpAny_execs_cons ?_
  k_dflt (refine assign_lc (by with_unfolding_all rfl) (by with_unfolding_all rfl) (by decide) (by rfl) (by decide) ?_)
  walk1
  rename Fr _ _ _ _ => kF
  rename News _ _ _ _ => kN
  have hz := hvs.length
  refine src_list (by rfl) (News.isList kN hm) (by rfl) (by rfl) (fun i ys => IntsAre ys (fl (fun _ => true) (fun j => spanOf (ss.getD j 0)) i)) .nil ?len ?step ?fin
  (case len =>
    intro i ys hi h
    have h2 := fl_len (fun _ => true) (fun j => spanOf (ss.getD j 0)) i
    rw [← h.length] at h2
    have h3 : i ≤ ss.length := by simpa [hz] using hi
    exact size_ok h2)
  (case step =>
    intro C i v ys h tk mC hv hJ e1 F0 E'
    have X2 := X.keeps kF.keep
    have T2 := Top.keeps T kF.keep
    obtain ⟨n, t2, rfl, hns⟩ := hvs.at i v (by simpa using hv)
    have hD : ss.getD i 0 = n := by rw [List.getD_eq_getElem?_getD, hns]; rfl
    have hn := hB n (List.mem_of_getElem? hns)
    clear kF kN X T
    have N0 := news_of F0
    have KK := walk_kept (s₂ := { s with heap := h }) F0
    k_steps
    all_goals first | walk_at "mine kept" | skip
    (· rename_i q
       have e : spanOf n = n := by
         rw [any_stop] at q
         unfold spanOf
         rw [if_pos (by simpa using q)]
       rw [fl_pos rfl, hD, e]
       exact ints_snoc hJ)
    (· rename_i q
       have e : spanOf n = (n + 2).fdiv 3 * 4 := by
         rw [any_stop] at q
         unfold spanOf
         rw [if_neg (by simpa using q), Int.fdiv_eq_ediv_of_nonneg _ (by decide)]
       rw [fl_pos rfl, hD, e]
       exact ints_snoc hJ))
  (case fin =>
    rw [List.size_toArray, hz]
    refine end_assign kF (by rfl) (by rfl) (by rfl) fun D ys h tk hJ hD hDo F2 hk => ?_
    obtain ⟨N2, lD, oD⟩ := news_assign kF kN hD hDo hk
    rw [range_map_getD spanOf] at hJ
    exact hQ _ _ _ _ _ F2 hJ N2))

-- part law18
noncomputable def dblOf (x : Int) : Int := if x = 0 ∨ x = 127 then x else x * 2
theorem law_18 {w : World} {mean : ExcName → Option Value} {mg mb : Str → Option Value} {g : Heap} {L D : Addr} {dp : Nat} {fr : Option (List Env)} {gd : Option (List Code)} {un : Nat} {m : Str → Option Value} {ss : List Int} {vs : List Value} {more : List (Addr × Obj)} {n1 : Nat} {rest : List Stmt} {Q : Flow → Shared → Prop} {E : Value → Shared → Prop} (X : (hd.heap_39 w.params).In g) (T : Top hd.view_39 lo mean mg mb g) (s : Shared)
    (F : Fr g L s.heap m) (N : News g L s.heap more) (hm : (D, W.listOf vs.toArray n1) ∈ more) (h2 : m (Str.ofString "sizes") = some (.ref D)) (hvs : IntsAre vs ss) (hl2 : ss.length ≤ 9) (hB : ∀ x ∈ ss, 0 ≤ x ∧ x ≤ 127) (hdp : dp + 7 < 840) (hun : un + 80 < 8900)
    (hQ : ∀ h tk D' ys n, Fr g L h (fun y => if y = Str.ofString "doubled" then some (.ref D') else m y) → IntsAre ys (ss.map dblOf) → News g L h ((D', W.listOf ys.toArray n) :: more) → wpAny (model PySem.Challenge.rw_pa0027_01.row.prog w) ((AA dp fr gd un).deeper (lEnv L)) (execs rest (lEnv L)) Q E { s with heap := h, toks := tk }) :
    wpAny (model PySem.Challenge.rw_pa0027_01.row.prog w) ((AA dp fr gd un).deeper (lEnv L)) (execs (lC 18 rest) (lEnv L)) Q E s := by
  w_strict (
  revert X T
  k_fill
  intro X T
  obtain ⟨m, rfl⟩ := open_m h2
  with_unfolding_all refine wpAny_execs_cons ?_
  k_dflt (refine assign_lc (by with_unfolding_all rfl) (by with_unfolding_all rfl) (by decide) (by rfl) (by decide) ?_)
  walk1
  rename Fr _ _ _ _ => kF
  rename News _ _ _ _ => kN
  have hz := hvs.length
  refine src_list (by rfl) (News.isList kN hm) (by rfl) (by rfl) (fun i ys => IntsAre ys (fl (fun _ => true) (fun j => dblOf (ss.getD j 0)) i)) .nil ?len ?step ?fin
  (case len =>
    intro i ys hi h
    have h2 := fl_len (fun _ => true) (fun j => dblOf (ss.getD j 0)) i
    rw [← h.length] at h2
    have h3 : i ≤ ss.length := by simpa [hz] using hi
    exact size_ok h2)
  (case step =>
    intro C i v ys h tk mC hv hJ e1 F0 E'
    have X2 := X.keeps kF.keep
    have T2 := Top.keeps T kF.keep
    obtain ⟨n, t2, rfl, hns⟩ := hvs.at i v (by simpa using hv)
    have hD : ss.getD i 0 = n := by rw [List.getD_eq_getElem?_getD, hns]; rfl
    have hn := hB n (List.mem_of_getElem? hns)
    clear kF kN X T
    have N0 := news_of F0
    have KK := walk_kept (s₂ := { s with heap := h }) F0
    k_steps
    all_goals first | walk_at "mine kept" | skip
    (· rename_i q
       have e : dblOf n = n := by
         rw [any_stop] at q
         unfold dblOf
         rw [if_pos (by simpa using q)]
       rw [fl_pos rfl, hD, e]
       exact ints_snoc hJ)
    (· rename_i q
       have e : dblOf n = n * 2 := by
         rw [any_stop] at q
         unfold dblOf
         rw [if_neg (by simpa using q)]
       rw [fl_pos rfl, hD, e]
       exact ints_snoc hJ))
  (case fin =>
    rw [List.size_toArray, hz]
    refine end_assign kF (by rfl) (by rfl) (by rfl) fun D ys h tk hJ hD hDo F2 hk => ?_
    obtain ⟨N2, lD, oD⟩ := news_assign kF kN hD hDo hk
    rw [range_map_getD dblOf] at hJ
    exact hQ _ _ _ _ _ F2 hJ N2))

-- part cmpb
section
open Builtin PySem.SeqAt
variable {prog : Program} {w : World} {A : Around} {E : Value → Shared → Prop} {s : Shared}
theorem eqAt_bytes (b c : Array UInt8) (t u : Tok) : EqAt A s (.bytes b t) (.bytes c u) (b.toList == c.toList) := fun prog w E Q h => by
  unfold eqBool
  refine wpAny_holding ?_
  refine wpAny_ite_split (fun hab => ?_) (fun hab => ?_)
  · have e : b = c := by have := eq_of_beq hab; injection this
    subst e
    exact wpAny_bind (wpAny_rule (wpAny_pure (by simpa using h)))
  · refine wpAny_bind ?_
    exact eq_bytes (Q := fun v s' => wpAny (model prog w) A (truthOfDropped v) Q E s') (wpAny_truthy_bool h)
theorem bInts_inj {b c : Array UInt8} : (b.toList == c.toList) = decide (KBw.bInts b = KBw.bInts c) := by
  rw [Bool.eq_iff_iff, beq_iff_eq, decide_eq_true_eq]
  constructor
  · intro h
    rw [show b = c from Array.ext' h]
  · intro h
    unfold KBw.bInts at h
    refine (List.map_inj_right fun x y e => ?_).mp h
    have e' : x.toNat = y.toNat := by exact_mod_cast e
    exact UInt8.toNat_inj.mp e'
/-- equal places -/
noncomputable def eqP (ps qs : List (List Int)) (j : Nat) : Bool := decide (ps[j]? = qs[j]?)
theorem all_eq {ps qs : List (List Int)} (h : ps.length = qs.length) : (List.range ps.length).all (eqP ps qs) = decide (ps = qs) := by
  rw [Bool.eq_iff_iff, decide_eq_true_eq, List.all_eq_true]
  constructor
  · intro q
    refine List.ext_getElem? fun j => ?_
    rcases Nat.lt_or_ge j ps.length with z | z
    · have := q j (List.mem_range.mpr z)
      exact of_decide_eq_true this
    · rw [List.getElem?_eq_none z, List.getElem?_eq_none (h ▸ z)]
  · rintro rfl j _
    exact decide_eq_true rfl
theorem items_eqAt {vs ws : List Value} {ps qs : List (List Int)} (hv : BsAre vs ps) (hw : BsAre ws qs) : ∀ j (h1 : j < vs.toArray.size) (h2 : j < ws.toArray.size), EqAt A s vs.toArray[j] ws.toArray[j] (eqP ps qs j) := by
  intro j h1 h2
  have z1 : j < vs.length := by simpa using h1
  have z2 : j < ws.length := by simpa using h2
  obtain ⟨b, t, e1, p1⟩ := hv.at j _ (List.getElem?_eq_getElem z1)
  obtain ⟨c, u, e2, p2⟩ := hw.at j _ (List.getElem?_eq_getElem z2)
  have e : eqP ps qs j = (b.toList == c.toList) := by
    unfold eqP
    rw [p1, p2, bInts_inj]
    simp
  rw [e]
  simp only [List.getElem_toArray, e1, e2]
  exact eqAt_bytes b c t u
theorem eq_lists {a b : Addr} {vs ws : List Value} {ps qs : List (List Int)} {Q : Value → Shared → Prop} (hl : s.heap.IsList a vs.toArray) (hm : s.heap.IsList b ws.toArray) (hv : BsAre vs ps) (hw : BsAre ws qs) (hu : A.units < cLine)
    (h : Q (.bool (decide (ps = qs))) s) : wpAny (model prog w) A (compareOp .Eq (.ref a) (.ref b)) Q E s := by
  have l1 := hv.length
  have l2 := hw.length
  by_cases hz : ps.length = qs.length
  · refine eq_listAt hl hm (by simp; omega) hu (items_eqAt hv hw) ?_
    rw [List.size_toArray, l1, all_eq hz]
    exact h
  · refine eq_list_lengthsAt hl hm (by simp; omega) hu ?_
    rw [show decide (ps = qs) = false from decide_eq_false fun e => hz (congrArg List.length e)] at h
    exact h
theorem ne_lists {a b : Addr} {vs ws : List Value} {ps qs : List (List Int)} {Q : Value → Shared → Prop} (hl : s.heap.IsList a vs.toArray) (hm : s.heap.IsList b ws.toArray) (hv : BsAre vs ps) (hw : BsAre ws qs) (hu : A.units < cLine)
    (h : Q (.bool (!decide (ps = qs))) s) : wpAny (model prog w) A (compareOp .NotEq (.ref a) (.ref b)) Q E s := by
  have l1 := hv.length
  have l2 := hw.length
  by_cases hz : ps.length = qs.length
  · refine RcNeAt.lists (prog := prog) hl hm (by simp; omega) hu (items_eqAt hv hw) w E Q ?_
    rw [List.size_toArray, l1, all_eq hz]
    exact h
  · refine RcNeAt.lists_lengths hl hm (by simp; omega) hu prog w E Q ?_
    rw [show decide (ps = qs) = false from decide_eq_false fun e => hz (congrArg List.length e)] at h
    exact h
end

-- part law10
theorem meth_join {M : Model} {A : Around} {E : Value → Shared → Prop} {s : Shared} {b : Array UInt8} {t : Tok} {pl : Sem Bool} {Q : Value × List Value → Shared → Prop} (h : Q (.builtin "bytes.join", [.bytes b t]) s) : wpAny M A (getMethod (.bytes b t) (Str.ofString "join") pl) Q E s := by
  with_reducible exact KBd.method_of (.bytes b t) (typeIs_bytes _ _ _) slot_join type_join KBd.noRef h
local macro_rules | `(tactic| walk_at "getMethod bytes") => `(tactic| (k_here; (with_reducible refine meth_join ?_)))
local macro_rules | `(tactic| walk_at "mine stopj") => `(tactic| repeat' (first | (k_unfold; (try dsimp only)) | ((fail_if_success (with_reducible refine at_join ?_)); first | walk1 | (dsimp only; walk1)) | fail "no step"))
theorem law_10 {w : World} {mean : ExcName → Option Value} {mg mb : Str → Option Value} {g : Heap} {L D : Addr} {dp : Nat} {fr : Option (List Env)} {gd : Option (List Code)} {un : Nat} {m : Str → Option Value} {ps : List (List Int)} {vs : List Value} {more : List (Addr × Obj)} {n1 : Nat} {rest : List Stmt} {Q : Flow → Shared → Prop} {E : Value → Shared → Prop} (X : (hd.heap_39 w.params).In g) (T : Top hd.view_39 lo mean mg mb g) (s : Shared)
    (F : Fr g L s.heap m) (N : News g L s.heap more) (hm : (D, W.listOf vs.toArray n1) ∈ more) (h2 : m (Str.ofString "writings") = some (.ref D)) (hvs : BsAre vs ps) (hl2 : 0 < ps.length) (hB : ps.flatten.length ≤ 10000) (hdp : dp + 7 < 840) (hun : un + 80 < 8900)
    (hQ : ∀ h tk (r : Array UInt8) t, Fr g L h (fun y => if y = Str.ofString "text" then some (.bytes r t) else m y) → KBw.bInts r = ps.flatten → News g L h more → wpAny (model PySem.Challenge.rw_pa0027_01.row.prog w) ((AA dp fr gd un).deeper (lEnv L)) (execs rest (lEnv L)) Q E { s with heap := h, toks := tk }) :
    wpAny (model PySem.Challenge.rw_pa0027_01.row.prog w) ((AA dp fr gd un).deeper (lEnv L)) (execs (lC 10 rest) (lEnv L)) Q E s := by
  w_strict (
  revert X T
  k_fill
  intro X T
  obtain ⟨m, rfl⟩ := open_m h2
  with_unfolding_all refine wpAny_execs_cons ?_
  walk_at "mine stopj"
  rename Fr _ _ _ _ => kF
  rename News _ _ _ _ => kN
  have hz := hvs.length
  refine call_join (News.isList kN hm) hvs (by omega) hB ?_
  intro r t' k hr
  walk_at "mine stopj"
  rename Fr _ _ _ _ => kF
  rename News _ _ _ _ => kN
  exact hQ _ _ _ _ kF hr kN)
local macro_rules | `(tactic| walk_at "mine stopq") => `(tactic| repeat' (first | (k_unfold; (try dsimp only)) | ((fail_if_success (with_reducible first | refine at_lc ?_ | refine at_as ?_ | refine at_zip ?_ | refine at_ref ?_ | refine at_cmp ?_ | refine Exists.intro ?_ ?_ | refine at_src ?_)); first | walk1 | (dsimp only; walk1)) | fail "no step"))

-- part law11
/-- what law knows behind its cutting -/
theorem keepsG_fr {g : Heap} {L p : Addr} {m : Str → Option Value} {news : List (Addr × Obj)} {s : Shared} {h' : Heap} {o : Obj} (F : Fr g L s.heap m) (N : News g L s.heap news) (hp : h'.get? p = some o) (hn : s.heap.get? p = none) (hk : ∀ b o, s.heap.get? b = some o → h'.get? b = some o) : Fr g L h' m ∧ News g L h' ((p, o) :: news) := news_new F N hp hn hk
theorem ss_items {vs : List Value} {ns : List Int} (h : IntsAre vs ns) (i : Nat) : ns[i]? = none ∧ vs.toArray[i]? = none ∨ ∃ x t, ns[i]? = some x ∧ vs.toArray[i]? = some (Value.int x t) := by
  have hl := h.length
  rcases Nat.lt_or_ge i ns.length with q | q
  · obtain ⟨t, e⟩ := h.get i _ (List.getElem?_eq_getElem q)
    exact .inr ⟨_, t, List.getElem?_eq_getElem q, by simpa using e⟩
  · refine .inl ⟨List.getElem?_eq_none q, ?_⟩
    rw [Array.getElem?_eq_none]
    simp; omega
theorem law_11 {w : World} {mean : ExcName → Option Value} {mg mb : Str → Option Value} {g : Heap} {L D Dp Dw Ds De : Addr} {dp : Nat} {fr : Option (List Env)} {gd : Option (List Code)} {un : Nat} {m : Str → Option Value} {o1 oe : Obj} {r tx : Array UInt8} {t tt : Tok} {ks ts ss sp : List Int} {ps ws : List (List Int)} {vs vp vw vsp : List Value} {n1 n2 n3 n4 : Nat} {rest : List Stmt} {Q : Flow → Shared → Prop} {E : Value → Shared → Prop} (X : (hd.heap_39 w.params).In g) (T : Top hd.view_39 lo mean mg mb g) (s : Shared)
    (F : Fr g L s.heap m) (N : News g L s.heap [(Ds, W.listOf vsp.toArray n1), (Dw, W.listOf vw.toArray n2), (Dp, W.listOf vp.toArray n3), (De, oe), (D, W.listOf vs.toArray n4), (L + 1, o1)]) (d1 : o1.data = .cell (some (.bytes r t)))
    (h1 : m (Str.ofString "sizes") = some (.ref D)) (h2 : m (Str.ofString "spans") = some (.ref Ds)) (h3 : m (Str.ofString "pieces") = some (.ref Dp)) (h4 : m (Str.ofString "writings") = some (.ref Dw)) (h5 : m (Str.ofString "text") = some (.bytes tx tt))
    (hr : KBw.bInts r = ks) (ht : KBw.bInts tx = ts) (hkl : ks.length ≤ 29) (htl : ts.length ≤ 200) (hvs : IntsAre vs ss) (hsp : IntsAre vsp sp) (hvp : BsAre vp ps) (hvw : BsAre vw ws) (h0 : ss[0]? ≠ some 0) (h0' : sp[0]? ≠ some 0) (hB : ∀ x ∈ ss, 0 ≤ x ∧ x ≤ 127) (hB' : ∀ x ∈ sp, 0 ≤ x ∧ x ≤ 200) (hdp : dp + 7 < 840) (hun : un + 80 < 8900)
    (hc1 : cutp ss (ks.length + 1) .fresh ks = ps) (hc2 : cutp sp (ts.length + 1) .fresh ts = ws)
    (hQ : ∀ h tk gn, Fr g L h m → News g L h [(Ds, W.listOf vsp.toArray n1), (Dw, W.listOf vw.toArray n2), (Dp, W.listOf vp.toArray n3), (De, oe), (D, W.listOf vs.toArray n4), (L + 1, o1)] → (AllBare s.gens → AllBare gn) → wpAny (model PySem.Challenge.rw_pa0027_01.row.prog w) ((AA dp fr gd un).deeper (lEnv L)) (execs rest (lEnv L)) Q E { s with heap := h, toks := tk, gens := gn }) :
    wpAny (model PySem.Challenge.rw_pa0027_01.row.prog w) ((AA dp fr gd un).deeper (lEnv L)) (execs (lC 11 rest) (lEnv L)) Q E s := by
  w_strict (
  revert X T
  k_fill
  intro X T
  obtain ⟨m1, rfl⟩ := open_m2 h1 h2
  have h3' : m1 (Str.ofString "pieces") = _ := h3
  have h4' : m1 (Str.ofString "writings") = _ := h4
  have h5' : m1 (Str.ofString "text") = _ := h5
  obtain ⟨m, rfl⟩ := open_m3 h3' h4' h5'
  with_unfolding_all refine wpAny_execs_cons ?_
  walk_at "mine stopq"
  rename Fr _ _ _ _ => kF
  rename News _ _ _ _ => kN
  refine law_cut w r ks t D ss _ hr (by omega) (fun x hx => (hB x hx).1) (fun x hx => by have := (hB x hx).2; omega) h0 (ss_items hvs) mean mg mb _ _ _ _ _ _ _ (X.keeps kF.keep) (Top.keeps T kF.keep) ?d ?u (News.isList kN (.tail _ (.tail _ (.tail _ (.tail _ (.head _)))))) ?_
  (case d => (try simp only [depth_mark, depth_in1, depth_deeper]); omega)
  (case u => (try simp only [units_in1, units_deeper, Around.mark_units]); omega)
  rintro p us n' s' hus hp hn ⟨h', tk', gn, rfl, hk, hb⟩
  obtain ⟨F2, N2⟩ := news_new kF kN hp hn hk
  clear kF kN hp hn hk
  walk_at "mine stopq"
  rename Fr _ _ _ _ => kF
  rename News _ _ _ _ => kN
  rw [hc1] at hus
  refine ne_lists (News.isList kN (.head _)) (News.isList kN (.tail _ (.tail _ (.tail _ (.head _))))) hus hvp ?u2 ?_
  (case u2 => (try simp only [units_in1, units_deeper, Around.mark_units]); (show _ < 9900); omega)
  rw [decide_eq_true rfl]
  walk_at "mine stopq"
  rename Fr _ _ _ _ => kF
  rename News _ _ _ _ => kN
  refine law_cut w tx ts tt Ds sp _ ht (by omega) (fun x hx => (hB' x hx).1) (fun x hx => by have := (hB' x hx).2; omega) h0' (ss_items hsp) mean mg mb _ _ _ _ _ _ _ (X.keeps kF.keep) (Top.keeps T kF.keep) ?d3 ?u3 (News.isList kN (.tail _ (.head _))) ?_
  (case d3 => (try simp only [depth_mark, depth_in1, depth_deeper]); omega)
  (case u3 => (try simp only [units_in1, units_deeper, Around.mark_units]); omega)
  rintro p2 us2 n2' s2' hus2 hp2 hn2 ⟨h2', tk2', gn2, rfl, hk2, hb2⟩
  obtain ⟨F2, N2⟩ := news_new kF kN hp2 hn2 hk2
  clear kF kN hp2 hn2 hk2
  walk_at "mine stopq"
  rename Fr _ _ _ _ => kF
  rename News _ _ _ _ => kN
  rw [hc2] at hus2
  refine ne_lists (News.isList kN (.head _)) (News.isList kN (.tail _ (.tail _ (.tail _ (.head _))))) hus2 hvw ?u4 ?_
  (case u4 => (try simp only [units_in1, units_deeper, Around.mark_units]); (show _ < 9900); omega)
  rw [decide_eq_true rfl]
  walk_at "mine stopq"
  rename Fr _ _ _ _ => kF
  rename News _ _ _ _ => kN
  exact hQ _ _ _ kF kN.tail'.tail' (fun z => hb2 (hb z)))

-- part law12
theorem law_12 {w : World} {mean : ExcName → Option Value} {mg mb : Str → Option Value} {g : Heap} {L D Dp : Addr} {dp : Nat} {fr : Option (List Env)} {gd : Option (List Code)} {un : Nat} {m : Str → Option Value} {ps : List (List Int)} {vs vp : List Value} {more : List (Addr × Obj)} {n1 n2 : Nat} {rest : List Stmt} {Q : Flow → Shared → Prop} {E : Value → Shared → Prop} (X : (hd.heap_39 w.params).In g) (T : Top hd.view_39 lo mean mg mb g) (s : Shared)
    (F : Fr g L s.heap m) (N : News g L s.heap more) (hm : (D, W.listOf vs.toArray n1) ∈ more) (hm2 : (Dp, W.listOf vp.toArray n2) ∈ more) (h1 : m (Str.ofString "writings") = some (.ref D)) (h2 : m (Str.ofString "pieces") = some (.ref Dp)) (hvs : BsAre vs (ps.map enc)) (hvp : BsAre vp ps) (hl2 : ps.length ≤ 29) (hB : ∀ p ∈ ps, (enc p).length ≤ 200)
    (hread : ∀ p ∈ ps, ∃ q l pd, dRun true [] 0 0 0 (enc p) = some (some (p, q, l, pd)) ∧ q ≠ 1 ∧ (q = 0 ∨ 4 ≤ q + pd)) (hdp : dp + 7 < 840) (hun : un + 80 < 8800)
    (hQ : ∀ h tk, Fr g L h m → News g L h more → wpAny (model PySem.Challenge.rw_pa0027_01.row.prog w) ((AA dp fr gd un).deeper (lEnv L)) (execs rest (lEnv L)) Q E { s with heap := h, toks := tk }) :
    wpAny (model PySem.Challenge.rw_pa0027_01.row.prog w) ((AA dp fr gd un).deeper (lEnv L)) (execs (lC 12 rest) (lEnv L)) Q E s := by
  w_strict (
  revert X T
  k_fill
  intro X T
  obtain ⟨m, rfl⟩ := open_m2 h1 h2
  with_unfolding_all refine wpAny_execs_cons ?_
  walk_at "mine stopq"
  k_dflt (refine eval_lc (by with_unfolding_all rfl) (by decide) (by rfl) (by decide) ?_)
  walk1
  rename Fr _ _ _ _ => kF
  rename News _ _ _ _ => kN
  have hz := hvs.length
  refine src_list (by rfl) (News.isList kN hm) (by rfl) (by rfl) (fun i ys => BsAre ys (ps.take i)) .nil ?len ?step ?fin
  (case len =>
    intro i ys hi h
    have h2 := h.length
    rw [List.length_take] at h2
    exact size_ok (m := 29) (by omega))
  (case step =>
    intro C i v ys h tk mC hv hJ e1 F0 E'
    have X2 := X.keeps kF.keep
    have T2 := Top.keeps T kF.keep
    obtain ⟨b, t, rfl, hb⟩ := hvs.at i v (by simpa using hv)
    rw [List.getElem?_map] at hb
    obtain ⟨p, hp, hpe⟩ := Option.map_eq_some_iff.mp hb
    have hpm := List.mem_of_getElem? hp
    obtain ⟨q, l, pd, hrun, hq1, hq2⟩ := hread p hpm
    have hbl := hB p hpm
    clear kF kN X T
    have N0 := news_of F0
    walk_at "mine stopq"
    rename Fr _ _ _ _ => kF
    rename News _ _ _ _ => kN
    refine law_read w b (enc p) t true _ hpe.symm (by omega) hrun (by simp) ?_ mean mg mb _ _ _ _ _ _ _ (X2.keeps kF.keep) (Top.keeps T2 kF.keep) ?_ ?_ ?_ ?_
    (· intro o q' l' p' e
       cases e
       exact ⟨hq1, hq2⟩)
    (· (try simp only [depth_mark, depth_in1, depth_deeper]); omega)
    (· (try simp only [units_in1, units_deeper, Around.mark_units]); omega)
    (· rintro o q' l' p' r t' s' e hr ⟨h', tk', rfl, hk'⟩
       cases e
       refine ⟨KeptH.call kF hk', ?_⟩
       dsimp only
       rw [List.take_add_one, hp, ← hr]
       exact hJ.snoc _ _)
    (· intro e
       cases e))
  (case fin =>
    rw [List.size_toArray, hz]
    refine end_eval fun D' ys h tk hJ hD hDo hk => ?_
    obtain ⟨F2, N2, lD, oD⟩ := news_list kF kN hD hDo hk
    rw [List.take_of_length_le (by simp)] at hJ
    clear kF kN hD hDo hk
    walk_at "mine stopq"
    rename Fr _ _ _ _ => kF
    rename News _ _ _ _ => kN
    refine ne_lists (News.isList kN (.head _)) (News.isList kN (.tail _ hm2)) hJ hvp ?_ ?_
    (· (try simp only [units_in1, units_deeper, Around.mark_units]); (show _ < 9900); omega)
    rw [decide_eq_true rfl]
    walk_at "mine stopq"
    rename Fr _ _ _ _ => kF
    rename News _ _ _ _ => kN
    exact hQ _ _ kF kN.tail'))

-- part law13
noncomputable def badP (ps : List (List Int)) (j : Nat) : Bool := decide (0 < ((ps.getD j []).length : Int) % 3)
noncomputable def firstL (es : List Int) (ps : List (List Int)) (total : Int) : Int := (fl (badP ps) (fun j => es.getD j 0) es.length ++ [total]).getD 0 0
theorem bad_yes {b : Array UInt8} {n : Nat} (h : b.size = n) (q : 0 < ((b.size : Nat) : Int).fmod 3) : decide (0 < ((n : Nat) : Int) % 3) = true := by
  rw [Int.fmod_eq_emod_of_nonneg _ (by decide), h] at q
  exact decide_eq_true q
theorem bad_no {b : Array UInt8} {n : Nat} (h : b.size = n) (q : ¬ 0 < ((b.size : Nat) : Int).fmod 3) : decide (0 < ((n : Nat) : Int) % 3) = false := by
  rw [Int.fmod_eq_emod_of_nonneg _ (by decide), h] at q
  exact decide_eq_false q
theorem law_13 {w : World} {mean : ExcName → Option Value} {mg mb : Str → Option Value} {g : Heap} {L De Dp : Addr} {dp : Nat} {fr : Option (List Env)} {gd : Option (List Code)} {un : Nat} {m : Str → Option Value} {o1 o2 o3 o4 : Obj} {D2 D3 D4 : Addr} {r : Array UInt8} {t : Tok} {ks es : List Int} {ps : List (List Int)} {ve vp : List Value} {n1 n2 : Nat} {rest : List Stmt} {Q : Flow → Shared → Prop} {E : Value → Shared → Prop} (X : (hd.heap_39 w.params).In g) (T : Top hd.view_39 lo mean mg mb g) (s : Shared)
    (F : Fr g L s.heap m) (N : News g L s.heap [(D2, o2), (D3, o3), (Dp, W.listOf vp.toArray n2), (De, W.listOf ve.toArray n1), (D4, o4), (L + 1, o1)]) (d1 : o1.data = .cell (some (.bytes r t))) (hr : KBw.bInts r = ks) (hkl : ks.length ≤ 29) (h1 : m (Str.ofString "ends") = some (.ref De)) (h2 : m (Str.ofString "pieces") = some (.ref Dp)) (hve : IntsAre ve es) (hvp : BsAre vp ps) (hl : es.length = ps.length) (hl2 : ps.length ≤ 29) (hB : ∀ p ∈ ps, p.length ≤ 29) (hdp : dp + 7 < 840) (hun : un + 80 < 8800)
    (hQ : ∀ h tk t', Fr g L h (fun y => if y = Str.ofString "first" then some (.int (firstL es ps (ks.length : Int)) t') else m y) → News g L h [(D2, o2), (D3, o3), (Dp, W.listOf vp.toArray n2), (De, W.listOf ve.toArray n1), (D4, o4), (L + 1, o1)] → wpAny (model PySem.Challenge.rw_pa0027_01.row.prog w) ((AA dp fr gd un).deeper (lEnv L)) (execs rest (lEnv L)) Q E { s with heap := h, toks := tk }) :
    wpAny (model PySem.Challenge.rw_pa0027_01.row.prog w) ((AA dp fr gd un).deeper (lEnv L)) (execs (lC 13 rest) (lEnv L)) Q E s := by
  w_strict (
  revert X T
  k_fill
  intro X T
  obtain ⟨m, rfl⟩ := open_m2 h1 h2
  have hsz : r.size = ks.length := by rw [← hr]; simp [KBw.bInts]
  with_unfolding_all refine wpAny_execs_cons ?_
  walk_at "mine stopq"
  k_dflt (refine eval_lc (by with_unfolding_all rfl) (by decide) (by rfl) (by decide) ?_)
  walk_at "mine stopq"
  rename Fr _ _ _ _ => kF
  rename News _ _ _ _ => kN
  have hz := hve.length
  have hz2 := hvp.length
  refine src_zip (by rfl) (News.isList kN (.tail _ (.tail _ (.tail _ (.head _))))) (News.isList kN (.tail _ (.tail _ (.head _)))) (by rfl) (by rfl) (by rfl) (by decide) (fun i ys => IntsAre ys (fl (badP ps) (fun j => es.getD j 0) i)) .nil ?len ?step ?fin
  (case len =>
    intro i ys hi h
    have h2 := fl_len (badP ps) (fun j => es.getD j 0) i
    rw [← h.length] at h2
    have h3 : i ≤ es.length := by simpa [hz] using Nat.le_trans hi (Nat.min_le_left _ _)
    exact size_ok h2)
  (case step =>
    intro C i v₁ v₂ ys h tk mC hv1 hv2 hJ e1 e2 F0 E'
    have X2 := X.keeps kF.keep
    have T2 := Top.keeps T kF.keep
    obtain ⟨n, tn, rfl, hn⟩ := hve.at i v₁ (by simpa using hv1)
    obtain ⟨b, tb, rfl, hb⟩ := hvp.at i v₂ (by simpa using hv2)
    have hD : es.getD i 0 = n := by rw [List.getD_eq_getElem?_getD, hn]; rfl
    have hbl : (KBw.bInts b).length ≤ 29 := hB _ (List.mem_of_getElem? hb)
    have hbz : b.size = (KBw.bInts b).length := by simp [KBw.bInts]
    have hbad : badP ps i = decide (0 < ((KBw.bInts b).length : Int) % 3) := by
      unfold badP
      rw [List.getD_eq_getElem?_getD, hb]
      rfl
    clear kF kN X T
    have N0 := news_of F0
    have KK := walk_kept (s₂ := { s with heap := h }) F0
    k_steps
    all_goals first | walk_at "mine kept" | skip
    (· rename_i q
       rw [fl_pos (by rw [hbad]; exact bad_yes hbz q), hD]
       exact ints_snoc hJ)
    (· rename_i q
       rw [fl_neg (by rw [hbad]; exact bad_no hbz q)]
       exact hJ))
  (case fin =>
    rw [List.size_toArray, List.size_toArray, hz, hz2, ← hl, Nat.min_self]
    refine end_eval fun D' ys h tk hJ hD hDo hk => ?_
    obtain ⟨F2, N2, lD, oD⟩ := news_list kF kN hD hDo hk
    have l2 := fl_len (badP ps) (fun j => es.getD j 0) es.length
    have hf : firstL es ps (ks.length : Int) = (fl (badP ps) (fun j => es.getD j 0) es.length ++ [(ks.length : Int)]).getD 0 0 := rfl
    generalize fl (badP ps) (fun j => es.getD j 0) es.length = pl at hJ l2 hf
    simp only [W.AllLt, and_true] at oD
    clear kF kN hD hDo hk
    walk_at "mine stopq"
    rename Fr _ _ _ _ => kF
    rename News _ _ _ _ => kN
    (try rw [show ((0 : Int).toNat) = 0 from rfl] at kF)
    rw [← hf] at kF
    exact hQ _ _ _ kF kN.tail'.tail'.tail'))

-- part law14
theorem law_14 {w : World} {mean : ExcName → Option Value} {mg mb : Str → Option Value} {g : Heap} {L : Addr} {dp : Nat} {fr : Option (List Env)} {gd : Option (List Code)} {un : Nat} {m : Str → Option Value} {o1 o2 o3 o4 o5 o6 : Obj} {D2 D3 D4 D5 D6 : Addr} {r tx : Array UInt8} {t tt tf : Tok} {ks ts : List Int} {first : Int} {rest : List Stmt} {Q : Flow → Shared → Prop} {E : Value → Shared → Prop} (X : (hd.heap_39 w.params).In g) (T : Top hd.view_39 lo mean mg mb g) (s : Shared)
    (F : Fr g L s.heap m) (N : News g L s.heap [(D2, o2), (D3, o3), (D4, o4), (D5, o5), (D6, o6), (L + 1, o1)]) (d1 : o1.data = .cell (some (.bytes r t))) (hr : KBw.bInts r = ks) (ht : KBw.bInts tx = ts) (hkl : ks.length ≤ 29) (htl : ts.length ≤ 200) (h1 : m (Str.ofString "first") = some (.int first tf)) (h2 : m (Str.ofString "text") = some (.bytes tx tt)) (hf0 : 0 ≤ first) (hf1 : first ≤ 29) (hdp : dp + 7 < 840) (hun : un + 80 < 8800)
    (hQ : ∀ h tk m' (rb : Array UInt8) tb, Fr g L h m' → m' (Str.ofString "whole") = some (.bool (first == (ks.length : Int))) → m' (Str.ofString "begun") = some (.bytes rb tb) → (∀ k, k ≠ Str.ofString "whole" → k ≠ Str.ofString "begun" → m' k = m k) → KBw.bInts rb = ts.take ((first + 2) / 3 * 4).toNat → News g L h [(D2, o2), (D3, o3), (D4, o4), (D5, o5), (D6, o6), (L + 1, o1)] → wpAny (model PySem.Challenge.rw_pa0027_01.row.prog w) ((AA dp fr gd un).deeper (lEnv L)) (execs rest (lEnv L)) Q E { s with heap := h, toks := tk }) :
    wpAny (model PySem.Challenge.rw_pa0027_01.row.prog w) ((AA dp fr gd un).deeper (lEnv L)) (execs (lC 14 (lC 15 rest)) (lEnv L)) Q E s := by
  w_strict (
  revert X T
  k_fill
  intro X T
  obtain ⟨m, rfl⟩ := open_m2 h1 h2
  have hsz : r.size = ks.length := by rw [← hr]; simp [KBw.bInts]
  with_unfolding_all refine wpAny_execs_cons ?_
  walk_at "mine stopq"
  rename Fr _ _ _ _ => kF
  rename News _ _ _ _ => kN
  rename KBw.bInts (KBy.picked tx none _) = _ => hP
  have e : (first + 2).fdiv 3 * 4 = (first + 2) / 3 * 4 := by rw [Int.fdiv_eq_ediv_of_nonneg _ (by decide)]
  rw [e] at hP
  rw [clip_take (by omega)] at hP
  rw [e] at kF
  refine hQ _ _ _ _ _ kF rfl rfl ?_ hP kN
  intro k n1 n2
  rw [if_neg n2, if_neg n1])

-- part law16
theorem bytes_same {b c : Array UInt8} (h : KBw.bInts b = KBw.bInts c) : (b.toList != c.toList) = false := by
  rw [bne, bInts_inj, h, decide_eq_true rfl]
  rfl
theorem law_16 {w : World} {mean : ExcName → Option Value} {mg mb : Str → Option Value} {g : Heap} {L : Addr} {dp : Nat} {gd : Option (List Code)} {un : Nat} {m : Str → Option Value} {o1 o2 o3 o4 o5 o6 : Obj} {D2 D3 D4 D5 D6 : Addr} {r tx rb : Array UInt8} {t tt tf tb : Tok} {ks ts bs : List Int} {first : Int} {wh : Bool} {rest : List Stmt} {Q : Flow → Shared → Prop} {E : Value → Shared → Prop} (X : (hd.heap_39 w.params).In g) (T : Top hd.view_39 lo mean mg mb g) (s : Shared)
    (F : Fr g L s.heap m) (N : News g L s.heap [(D2, o2), (D3, o3), (D4, o4), (D5, o5), (D6, o6), (L + 1, o1)]) (d1 : o1.data = .cell (some (.bytes r t))) (hr : KBw.bInts r = ks) (ht : KBw.bInts tx = ts) (hb : KBw.bInts rb = bs) (hkl : ks.length ≤ 29) (htl : ts.length ≤ 200) (hbl : bs.length ≤ 200) (h1 : m (Str.ofString "first") = some (.int first tf)) (h2 : m (Str.ofString "text") = some (.bytes tx tt)) (h3 : m (Str.ofString "begun") = some (.bytes rb tb)) (h4 : m (Str.ofString "whole") = some (.bool wh)) (hf0 : 0 ≤ first) (hf1 : first ≤ 29)
    (hread : ∃ q l pd, dRun false [] 0 0 0 bs = some (some (ks.take first.toNat, q, l, pd)) ∧ q ≠ 1 ∧ (q = 0 ∨ 4 ≤ q + pd)) (hyes : wh = true → ∃ q l pd, dRun true [] 0 0 0 ts = some (some (ks, q, l, pd)) ∧ q ≠ 1 ∧ (q = 0 ∨ 4 ≤ q + pd)) (hno : wh = false → dRun true [] 0 0 0 ts = some none) (hdp : dp + 7 < 840) (hun : un + 80 < 8800)
    (hQ : ∀ h tk, Fr g L h m → News g L h [(D2, o2), (D3, o3), (D4, o4), (D5, o5), (D6, o6), (L + 1, o1)] → wpAny (model PySem.Challenge.rw_pa0027_01.row.prog w) ((AA dp (some []) gd un).deeper (lEnv L)) (execs rest (lEnv L)) Q E { s with heap := h, toks := tk }) :
    wpAny (model PySem.Challenge.rw_pa0027_01.row.prog w) ((AA dp (some []) gd un).deeper (lEnv L)) (execs (lC 16 rest) (lEnv L)) Q E s := by
  w_strict (
  revert X T
  k_fill
  intro X T
  obtain ⟨m1, rfl⟩ := open_m h4
  have h1' : m1 (Str.ofString "first") = _ := h1
  have h2' : m1 (Str.ofString "text") = _ := h2
  have h3' : m1 (Str.ofString "begun") = _ := h3
  obtain ⟨m, rfl⟩ := open_m3 h1' h2' h3'
  clear h1 h2 h3 h4 h1' h2' h3'
  obtain ⟨q0, l0, pd0, hrun, hq1, hq2⟩ := hread
  with_unfolding_all refine wpAny_execs_cons ?_
  walk_at "mine stopq"
  rename Fr _ _ _ _ => kF
  rename News _ _ _ _ => kN
  refine law_read w rb bs _ false _ hb (by omega) hrun (by simp) ?_ mean mg mb _ _ _ _ _ _ _ (X.keeps kF.keep) (Top.keeps T kF.keep) ?_ ?_ ?_ ?_
  (· intro o q' l' p' e
     cases e
     exact ⟨hq1, hq2⟩)
  (· (try simp only [depth_mark, depth_in1, depth_deeper]); omega)
  (· (try simp only [units_in1, units_deeper, Around.mark_units]); omega)
  rotate_left
  (· intro e; cases e)
  rintro o q' l' p' r2 t2 s' e hr2 ⟨h', tk', rfl, hk'⟩
  cases e
  have F2 := kF.keptAll hk'
  have N2 := kN.grown hk'
  clear kF kN hk'
  walk_at "mine stopq"
  (· rename_i q
     rename KBw.bInts (KBy.picked r none _) = _ => hP
     rw [bytes_same (by rw [hr2, hP, clip_take hf0])] at q
     cases q)
  rename_i q
  rename Fr _ _ _ _ => kF
  rename News _ _ _ _ => kN
  cases wh with
  | true =>
    obtain ⟨q1, l1, pd1, hrun1, hq11, hq12⟩ := hyes rfl
    refine law_read w tx ts _ true _ ht (by omega) hrun1 (by simp) ?_ mean mg mb _ _ _ _ _ _ _ (X.keeps kF.keep) (Top.keeps T kF.keep) ?_ ?_ ?_ ?_
    (· intro o q' l' p' e
       cases e
       exact ⟨hq11, hq12⟩)
    (· (try simp only [depth_mark, depth_in1, depth_deeper]); omega)
    (· (try simp only [units_in1, units_deeper, Around.mark_units]); omega)
    rotate_left
    (· intro e; cases e)
    rintro o q' l' p' r3 t3 s' e hr3 ⟨h3, tk3, rfl, hk3⟩
    cases e
    have F3 := kF.keptAll hk3
    have N3 := kN.grown hk3
    clear kF kN hk3 q
    walk_at "mine stopq"
    (· rename_i q
       rw [bytes_same (hr3.trans hr.symm)] at q
       cases q)
    rename Fr _ _ _ _ => kF
    rename News _ _ _ _ => kN
    exact hQ _ _ kF kN
  | false =>
    have hrun1 := hno rfl
    refine law_read w tx ts _ true _ ht (by omega) hrun1 (by simp) ?_ mean mg mb _ _ _ _ _ _ _ (X.keeps kF.keep) (Top.keeps T kF.keep) ?_ ?_ ?_ ?_
    (· intro o q' l' p' e
       cases e)
    (· (try simp only [depth_mark, depth_in1, depth_deeper]); omega)
    (· (try simp only [units_in1, units_deeper, Around.mark_units]); omega)
    (· rintro o q' l' p' r3 t3 s' e
       cases e)
    intro _
    refine ⟨[lEnv L], g, rfl, frames_one kF rfl (by intro q; cases q), X, T, ground_off kF rfl, ground_size kF, fun h3 tk3 hk3 => ?_⟩
    have F3 := fr_kept kF hk3 rfl
    have N3 := news_kept kN hk3 rfl
    clear kF kN hk3 q
    walk_at "mine stopq"
    rename Fr _ _ _ _ => kF
    rename News _ _ _ _ => kN
    exact hQ _ _ kF kN)

-- part law17
theorem law_17 {w : World} {mean : ExcName → Option Value} {mg mb : Str → Option Value} {g : Heap} {L Ds Dw : Addr} {dp : Nat} {fr : Option (List Env)} {gd : Option (List Code)} {un : Nat} {m : Str → Option Value} {o1 o4 o5 o6 : Obj} {D4 D5 D6 : Addr} {r : Array UInt8} {t : Tok} {ks sp : List Int} {ws : List (List Int)} {vsp vw : List Value} {n1 n2 : Nat} {wh : Bool} {rest : List Stmt} {Q : Flow → Shared → Prop} {E : Value → Shared → Prop} (X : (hd.heap_39 w.params).In g) (T : Top hd.view_39 lo mean mg mb g) (s : Shared)
    (F : Fr g L s.heap m) (N : News g L s.heap [(Ds, W.listOf vsp.toArray n1), (Dw, W.listOf vw.toArray n2), (D4, o4), (D5, o5), (D6, o6), (L + 1, o1)]) (d1 : o1.data = .cell (some (.bytes r t))) (hr : KBw.bInts r = ks) (hkl : ks.length ≤ 29) (hel : (enc ks).length ≤ 200) (h1 : m (Str.ofString "spans") = some (.ref Ds)) (h2 : m (Str.ofString "writings") = some (.ref Dw)) (h3 : m (Str.ofString "whole") = some (.bool wh)) (hsp : IntsAre vsp sp) (hvw : BsAre vw ws) (h0 : sp[0]? ≠ some 0) (hB : ∀ x ∈ sp, 0 ≤ x ∧ x ≤ 200)
    (hc : decide (cutp sp ((enc ks).length + 1) .fresh (enc ks) = ws) = wh) (hdp : dp + 7 < 840) (hun : un + 80 < 8800)
    (hQ : ∀ h tk gn, Fr g L h m → News g L h [(Ds, W.listOf vsp.toArray n1), (Dw, W.listOf vw.toArray n2), (D4, o4), (D5, o5), (D6, o6), (L + 1, o1)] → (AllBare s.gens → AllBare gn) → wpAny (model PySem.Challenge.rw_pa0027_01.row.prog w) ((AA dp fr gd un).deeper (lEnv L)) (execs rest (lEnv L)) Q E { s with heap := h, toks := tk, gens := gn }) :
    wpAny (model PySem.Challenge.rw_pa0027_01.row.prog w) ((AA dp fr gd un).deeper (lEnv L)) (execs (lC 17 rest) (lEnv L)) Q E s := by
  w_strict (
  revert X T
  k_fill
  intro X T
  obtain ⟨m, rfl⟩ := open_m3 h1 h2 h3
  with_unfolding_all refine wpAny_execs_cons ?_
  walk_at "mine stopq"
  rename Fr _ _ _ _ => kF
  rename News _ _ _ _ => kN
  refine use (b64e w r ks t hr (by omega) mean mg mb _ _ _ _ _ _ ?X ?T ?d ?u trivial) kF kN ?_
  (case X => exact X.keeps kF.keep)
  (case T => exact Top.keeps T kF.keep)
  (case d => (try simp only [depth_mark, depth_in1, depth_deeper]); omega)
  (case u => (try simp only [units_in1, units_deeper, Around.mark_units]); omega)
  rintro v' h' tk' ⟨r', t', rfl, hr'⟩ hk' F' N'
  clear kF kN
  walk_at "mine stopq"
  rename Fr _ _ _ _ => kF
  rename News _ _ _ _ => kN
  refine law_cut w r' (enc ks) _ Ds sp _ hr' (by omega) (fun x hx => (hB x hx).1) (fun x hx => by have := (hB x hx).2; omega) h0 (ss_items hsp) mean mg mb _ _ _ _ _ _ _ (X.keeps kF.keep) (Top.keeps T kF.keep) ?_ ?_ (News.isList kN (.head _)) ?_
  (· (try simp only [depth_mark, depth_in1, depth_deeper]); omega)
  (· (try simp only [units_in1, units_deeper, Around.mark_units]); omega)
  rintro p us n' s' hus hp hn ⟨h2, tk2, gn, rfl, hk, hb⟩
  obtain ⟨F2, N2⟩ := news_new kF kN hp hn hk
  clear kF kN hp hn hk
  walk_at "mine stopq"
  rename Fr _ _ _ _ => kF
  rename News _ _ _ _ => kN
  refine eq_lists (News.isList kN (.head _)) (News.isList kN (.tail _ (.tail _ (.head _)))) hus hvw ?_ ?_
  (· (try simp only [units_in1, units_deeper, Around.mark_units]); (show _ < 9900); omega)
  rw [hc]
  walk_at "mine stopq"
  (· rename_i q
     cases wh <;> cases q)
  rename Fr _ _ _ _ => kF
  rename News _ _ _ _ => kN
  exact hQ _ _ _ kF kN.tail' hb)

-- part law19
theorem law_19 {w : World} {mean : ExcName → Option Value} {mg mb : Str → Option Value} {g : Heap} {L Dd Dp : Addr} {dp : Nat} {fr : Option (List Env)} {gd : Option (List Code)} {un : Nat} {m : Str → Option Value} {o1 o2 o3 o5 o6 : Obj} {D2 D3 D5 D6 : Addr} {r : Array UInt8} {t : Tok} {ks dd : List Int} {ps : List (List Int)} {vd vp : List Value} {n1 n2 : Nat} {Q : Flow → Shared → Prop} {E : Value → Shared → Prop} (X : (hd.heap_39 w.params).In g) (T : Top hd.view_39 lo mean mg mb g) (s : Shared)
    (F : Fr g L s.heap m) (N : News g L s.heap [(Dd, W.listOf vd.toArray n1), (D2, o2), (D3, o3), (Dp, W.listOf vp.toArray n2), (D5, o5), (D6, o6), (L + 1, o1)]) (d1 : o1.data = .cell (some (.bytes r t))) (hr : KBw.bInts r = ks) (hkl : ks.length ≤ 29) (hel : (b16 ks).length ≤ 200) (h1 : m (Str.ofString "doubled") = some (.ref Dd)) (h2 : m (Str.ofString "pieces") = some (.ref Dp)) (hvd : IntsAre vd dd) (hvp : BsAre vp ps) (h0 : dd[0]? ≠ some 0) (hB : ∀ x ∈ dd, 0 ≤ x ∧ x ≤ 200) (hl2 : ps.length ≤ 29) (hB2 : ∀ x ∈ ps, x.length ≤ 29)
    (hc : cutp dd ((b16 ks).length + 1) .fresh (b16 ks) = ps.map b16) (hdp : dp + 7 < 840) (hun : un + 80 < 8800)
    (hQ : ∀ h tk gn, Fr g L h m → (AllBare s.gens → AllBare gn) → Q (.ret (.bool true)) { s with heap := h, toks := tk, gens := gn }) :
    wpAny (model PySem.Challenge.rw_pa0027_01.row.prog w) ((AA dp fr gd un).deeper (lEnv L)) (execs (lC 19 []) (lEnv L)) Q E s := by
  w_strict (
  revert X T
  k_fill
  intro X T
  obtain ⟨m, rfl⟩ := open_m2 h1 h2
  with_unfolding_all refine wpAny_execs_cons ?_
  walk_at "mine stopq"
  rename Fr _ _ _ _ => kF
  rename News _ _ _ _ => kN
  refine use (b16e w r ks t hr (by omega) mean mg mb _ _ _ _ _ _ ?X ?T ?d ?u trivial) kF kN ?_
  (case X => exact X.keeps kF.keep)
  (case T => exact Top.keeps T kF.keep)
  (case d => (try simp only [depth_mark, depth_in1, depth_deeper]); omega)
  (case u => (try simp only [units_in1, units_deeper, Around.mark_units]); omega)
  rintro v' h' tk' ⟨r', t', rfl, hr'⟩ hk' F' N'
  clear kF kN
  walk_at "mine stopq"
  rename Fr _ _ _ _ => kF
  rename News _ _ _ _ => kN
  refine law_cut w r' (b16 ks) _ Dd dd _ hr' (by omega) (fun x hx => (hB x hx).1) (fun x hx => by have := (hB x hx).2; omega) h0 (ss_items hvd) mean mg mb _ _ _ _ _ _ _ (X.keeps kF.keep) (Top.keeps T kF.keep) ?_ ?_ (News.isList kN (.head _)) ?_
  (· (try simp only [depth_mark, depth_in1, depth_deeper]); omega)
  (· (try simp only [units_in1, units_deeper, Around.mark_units]); omega)
  rintro p us n' s' hus hp hn ⟨h2, tk2, gn, rfl, hk, hb⟩
  obtain ⟨F2, N2⟩ := news_new kF kN hp hn hk
  clear kF kN hp hn hk
  walk_at "mine stopq"
  k_dflt (refine eval_lc (by with_unfolding_all rfl) (by decide) (by rfl) (by decide) ?_)
  walk1
  rename Fr _ _ _ _ => kF
  rename News _ _ _ _ => kN
  have hz := hvp.length
  refine src_list (by rfl) (News.isList kN (.tail _ (.tail _ (.tail _ (.tail _ (.head _)))))) (by rfl) (by rfl) (fun i ys => BsAre ys ((ps.map b16).take i)) .nil ?len ?step ?fin
  (case len =>
    intro i ys hi h
    have h2 := h.length
    rw [List.length_take, List.length_map] at h2
    exact size_ok (m := 29) (by omega))
  (case step =>
    intro C i v ys h tk mC hv hJ e1 F0 E'
    have X2 := X.keeps kF.keep
    have T2 := Top.keeps T kF.keep
    obtain ⟨b, t, rfl, hb⟩ := hvp.at i v (by simpa using hv)
    have hbl : (KBw.bInts b).length ≤ 29 := hB2 _ (List.mem_of_getElem? hb)
    clear kF kN X T
    have N0 := news_of F0
    walk_at "mine stopq"
    rename Fr _ _ _ _ => kF
    rename News _ _ _ _ => kN
    refine use (b16e w b (KBw.bInts b) t rfl (by omega) mean mg mb _ _ _ _ _ _ ?_ ?_ ?_ ?_ trivial) kF kN ?_
    (· exact X2.keeps kF.keep)
    (· exact Top.keeps T2 kF.keep)
    (· (try simp only [depth_mark, depth_in1, depth_deeper]); omega)
    (· (try simp only [units_in1, units_deeper, Around.mark_units]); omega)
    rintro v' h' tk' ⟨r', t', rfl, hr'⟩ hk' F' N'
    refine ⟨KeptH.call kF hk', ?_⟩
    dsimp only
    rw [map_at hb, ← hr']
    exact hJ.snoc _ _)
  (case fin =>
    rw [List.size_toArray, hz]
    refine end_eval fun D' ys h tk hJ hD hDo hk => ?_
    obtain ⟨F2, N2, lD, oD⟩ := news_list kF kN hD hDo hk
    rw [List.take_of_length_le (by simp)] at hJ
    clear kF kN hD hDo hk
    walk_at "mine stopq"
    rename Fr _ _ _ _ => kF
    rename News _ _ _ _ => kN
    rw [hc] at hus
    refine eq_lists (News.isList kN (.tail _ (.head _))) (News.isList kN (.head _)) hus hJ ?_ ?_
    (· (try simp only [units_in1, units_deeper, Around.mark_units]); (show _ < 9900); omega)
    rw [decide_eq_true rfl]
    walk_at "mine stopq"
    rename Fr _ _ _ _ => kF
    exact hQ _ _ _ kF hb))

-- part pure1
theorem eStep_out (o : List Int) (lb acc n : Int) : eStep (o, lb, acc) n = (o ++ (eStep ([], lb, acc) n).1, (eStep ([], lb, acc) n).2) := by
  simp only [eStep]
  split
  · simp
  · split <;> simp
theorem eFold_out : ∀ (r : List Int) (o : List Int) (lb acc : Int), r.foldl eStep (o, lb, acc) = (o ++ (r.foldl eStep ([], lb, acc)).1, (r.foldl eStep ([], lb, acc)).2)
  | [], o, lb, acc => by simp
  | n :: r, o, lb, acc => by
    rw [List.foldl_cons, List.foldl_cons, eStep_out]
    obtain ⟨x, lb', acc'⟩ := eStep ([], lb, acc) n
    rw [eFold_out r, eFold_out r x]
    simp
theorem eEnd_out (o x : List Int) (s : Int × Int) : eEnd (o ++ x, s) = o ++ eEnd (x, s) := by
  obtain ⟨lb, acc⟩ := s
  simp only [eEnd]
  split
  · simp
  · split <;> simp
noncomputable def grp3 (a b c : Int) : List Int := [sB (a / 4), sB (a % 4 * 16 + b / 16), sB (b % 16 * 4 + c / 64), sB (c % 64)]
theorem enc_nil : enc [] = [] := rfl
theorem enc_one (a : Int) : enc [a] = [sB (a / 4), sB (a % 4 * 16), 61, 61] := rfl
theorem enc_two (a b : Int) : enc [a, b] = [sB (a / 4), sB (a % 4 * 16 + b / 16), sB (b % 16 * 4), 61] := rfl
theorem enc_three (a b c : Int) (r : List Int) : enc (a :: b :: c :: r) = grp3 a b c ++ enc r := by
  show eEnd (r.foldl eStep (grp3 a b c, 0, 0)) = _
  rw [eFold_out r, eEnd_out]
  rfl
theorem enc_append : ∀ (p q : List Int), p.length % 3 = 0 → enc (p ++ q) = enc p ++ enc q
  | [], _, _ => rfl
  | [_], _, h => by simp at h
  | [_, _], _, h => by simp at h
  | a :: b :: c :: r, q, h => by
    have h' : r.length % 3 = 0 := by simp only [List.length_cons] at h; omega
    rw [List.cons_append, List.cons_append, List.cons_append, enc_three, enc_three, enc_append r q h', List.append_assoc]
theorem enc_len : ∀ p : List Int, (enc p).length = (p.length + 2) / 3 * 4
  | [] => rfl
  | [a] => by rw [enc_one]; simp
  | [a, b] => by rw [enc_two]; simp
  | a :: b :: c :: r => by
    rw [enc_three, List.length_append, enc_len r]
    show 4 + _ = _
    simp only [List.length_cons]
    omega
theorem sign_back {i : Int} (h0 : 0 ≤ i) (h1 : i < 64) : b64v (sB i) = i ∧ sB i ≠ 61 := by
  have : ∀ m : Fin 64, b64v (sB (m.val : Int)) = (m.val : Int) ∧ sB (m.val : Int) ≠ 61 := by decide +kernel
  have z := this ⟨i.toNat, by omega⟩
  rw [show (((⟨i.toNat, by omega⟩ : Fin 64).val : Nat) : Int) = i by simp; omega] at z
  exact z
theorem dRun_sign {st : Bool} {o : List Int} {q l i : Int} {r : List Int} (h0 : 0 ≤ i) (h1 : i < 64) : dRun st o q l 0 (sB i :: r) = dRun st (dPush (o, q, l) i).1 (dPush (o, q, l) i).2.1 (dPush (o, q, l) i).2.2 0 r := by
  obtain ⟨e1, e2⟩ := sign_back h0 h1
  rw [dRun, if_neg e2, e1, if_pos ⟨h0, h1⟩, if_pos rfl]
theorem push_0 (o : List Int) (v : Int) : dPush (o, 0, 0) v = (o, 1, v) := rfl
theorem push_1 (o : List Int) (l v : Int) : dPush (o, 1, l) v = (o ++ [l * 4 + v / 16], 2, v % 16) := rfl
theorem push_2 (o : List Int) (l v : Int) : dPush (o, 2, l) v = (o ++ [l * 16 + v / 4], 3, v % 4) := rfl
theorem push_3 (o : List Int) (l v : Int) : dPush (o, 3, l) v = (o ++ [l * 64 + v], 0, 0) := rfl
theorem dec_one {st : Bool} {o : List Int} {a b : Int} {r : List Int} (ha : 0 ≤ a ∧ a < 256) (hb : 0 ≤ b ∧ b < 256) : dRun st o 0 0 0 (sB (a / 4) :: sB (a % 4 * 16 + b / 16) :: r) = dRun st (o ++ [a]) 2 (b / 16) 0 r := by
  rw [dRun_sign (by omega) (by omega), push_0, dRun_sign (by omega) (by omega), push_1]
  dsimp only
  rw [show a / 4 * 4 + (a % 4 * 16 + b / 16) / 16 = a by omega, show (a % 4 * 16 + b / 16) % 16 = b / 16 by omega]
theorem dec_three {st : Bool} {o : List Int} {a b c : Int} {r : List Int} (ha : 0 ≤ a ∧ a < 256) (hb : 0 ≤ b ∧ b < 256) (hc : 0 ≤ c ∧ c < 256) : dRun st o 0 0 0 (grp3 a b c ++ r) = dRun st (o ++ [a, b, c]) 0 0 0 r := by
  show dRun st o 0 0 0 (sB (a / 4) :: sB (a % 4 * 16 + b / 16) :: sB (b % 16 * 4 + c / 64) :: sB (c % 64) :: r) = _
  rw [dec_one ha hb, dRun_sign (by omega) (by omega), push_2, dRun_sign (by omega) (by omega), push_3]
  dsimp only
  rw [show b / 16 * 16 + (b % 16 * 4 + c / 64) / 4 = b by omega, show (b % 16 * 4 + c / 64) % 4 * 64 + c % 64 = c by omega]
  simp
theorem dRun_pad {st : Bool} {o : List Int} {q l p : Int} {r : List Int} (h1 : 2 ≤ q) (h2 : q + (p + 1) ≤ 4) : dRun st o q l p (61 :: r) = dRun st o q l (p + 1) r := by
  rw [dRun, if_pos rfl, if_pos ⟨h1, h2⟩]
theorem dec_end1 {st : Bool} {o : List Int} {a : Int} {r : List Int} (ha : 0 ≤ a ∧ a < 256) : dRun st o 0 0 0 (enc [a] ++ r) = dRun st (o ++ [a]) 2 0 2 r := by
  rw [enc_one]
  show dRun st o 0 0 0 (sB (a / 4) :: sB (a % 4 * 16) :: 61 :: 61 :: r) = _
  have := @dec_one st o a 0 (61 :: 61 :: r) ha (by decide)
  rw [show a % 4 * 16 + 0 / 16 = a % 4 * 16 by omega] at this
  rw [this, dRun_pad (by decide) (by decide), dRun_pad (by decide) (by decide)]
  rfl
theorem dec_end2 {st : Bool} {o : List Int} {a b : Int} {r : List Int} (ha : 0 ≤ a ∧ a < 256) (hb : 0 ≤ b ∧ b < 256) : dRun st o 0 0 0 (enc [a, b] ++ r) = dRun st (o ++ [a, b]) 3 0 1 r := by
  rw [enc_two]
  show dRun st o 0 0 0 (sB (a / 4) :: sB (a % 4 * 16 + b / 16) :: sB (b % 16 * 4) :: 61 :: r) = _
  rw [dec_one ha hb, dRun_sign (by omega) (by omega), push_2]
  dsimp only
  rw [dRun_pad (by decide) (by decide), show b / 16 * 16 + b % 16 * 4 / 4 = b by omega, show b % 16 * 4 % 4 = 0 by omega]
  simp
theorem dec_whole {st : Bool} : ∀ (p : List Int) (o r : List Int), KBa.In p → p.length % 3 = 0 → dRun st o 0 0 0 (enc p ++ r) = dRun st (o ++ p) 0 0 0 r
  | [], o, r, _, _ => by rw [enc_nil]; simp
  | [_], _, _, _, h => by simp at h
  | [_, _], _, _, _, h => by simp at h
  | a :: b :: c :: t, o, r, hi, h => by
    have h' : t.length % 3 = 0 := by simp only [List.length_cons] at h; omega
    rw [enc_three, List.append_assoc, dec_three (hi a (by simp)) (hi b (by simp)) (hi c (by simp)), dec_whole t _ r (fun x hx => hi x (by simp [hx])) h']
    simp
theorem dec_full {st : Bool} : ∀ (p : List Int) (o : List Int), KBa.In p → ∃ q l pd, dRun st o 0 0 0 (enc p) = some (some (o ++ p, q, l, pd)) ∧ q ≠ 1 ∧ (q = 0 ∨ 4 ≤ q + pd)
  | [], o, _ => ⟨0, 0, 0, by rw [enc_nil, dRun]; simp, by decide, .inl rfl⟩
  | [a], o, hi => ⟨2, 0, 2, by
      have := @dec_end1 st o a [] (hi a (by simp))
      rw [List.append_nil] at this
      rw [this, dRun], by decide, .inr (by decide)⟩
  | [a, b], o, hi => ⟨3, 0, 1, by
      have := @dec_end2 st o a b [] (hi a (by simp)) (hi b (by simp))
      rw [List.append_nil] at this
      rw [this, dRun], by decide, .inr (by decide)⟩
  | a :: b :: c :: t, o, hi => by
    obtain ⟨q, l, pd, e, h⟩ := dec_full (st := st) t (o ++ [a, b, c]) (fun x hx => hi x (by simp [hx]))
    refine ⟨q, l, pd, ?_, h⟩
    rw [enc_three, dec_three (hi a (by simp)) (hi b (by simp)) (hi c (by simp)), e]
    simp
theorem dRun_refuse {o : List Int} {q l p i : Int} {r : List Int} (h0 : 0 ≤ i) (h1 : i < 64) (hp : p ≠ 0) (hq : q + p = 4) : dRun true o q l p (sB i :: r) = some none := by
  obtain ⟨e1, e2⟩ := sign_back h0 h1
  rw [dRun, if_neg e2, e1, if_pos ⟨h0, h1⟩, if_neg hp, if_pos ⟨rfl, hq⟩]
theorem dec_refuse : ∀ (p : List Int) (o : List Int) (i : Int) (r : List Int), KBa.In p → p.length % 3 ≠ 0 → 0 ≤ i → i < 64 → dRun true o 0 0 0 (enc p ++ sB i :: r) = some none
  | [], _, _, _, _, h, _, _ => absurd rfl h
  | [a], o, i, r, hi, _, h0, h1 => by rw [dec_end1 (hi a (by simp)), dRun_refuse h0 h1 (by decide) (by decide)]
  | [a, b], o, i, r, hi, _, h0, h1 => by rw [dec_end2 (hi a (by simp)) (hi b (by simp)), dRun_refuse h0 h1 (by decide) (by decide)]
  | a :: b :: c :: t, o, i, r, hi, h, h0, h1 => by
    have h' : t.length % 3 ≠ 0 := by simp only [List.length_cons] at h; omega
    rw [enc_three, List.append_assoc, dec_three (hi a (by simp)) (hi b (by simp)) (hi c (by simp)), dec_refuse t _ i r (fun x hx => hi x (by simp [hx])) h' h0 h1]
theorem enc_head : ∀ (p : List Int), KBa.In p → p ≠ [] → ∃ i r, enc p = sB i :: r ∧ 0 ≤ i ∧ i < 64
  | [], _, h => absurd rfl h
  | [a], hi, _ => ⟨a / 4, _, enc_one a, by have := hi a (by simp); omega, by have := hi a (by simp); omega⟩
  | [a, b], hi, _ => ⟨a / 4, _, enc_two a b, by have := hi a (by simp); omega, by have := hi a (by simp); omega⟩
  | a :: b :: c :: t, hi, _ => ⟨a / 4, _, enc_three a b c t, by have := hi a (by simp); omega, by have := hi a (by simp); omega⟩

-- part pure2
/-- the row cut by sizes that come from f -/
noncomputable def cutY (f : Nat → Option Nat) : Nat → Nat → List Int → List (List Int)
  | 0, _, _ => []
  | n + 1, i, row => if row = [] then [] else match f i with
    | some x => row.take x :: cutY f n (i + 1) (row.drop x)
    | none => [row]
/-- what the walk over the sizes yields -/
noncomputable def yN (ss : List Int) (i : Nat) : Option Nat := if i < stopN ss then some (ss.getD i 0).toNat else if ss[stopN ss]? = some 0 then some (ss.getD (stopN ss - 1) 0).toNat else none
theorem stopN_low {ss : List Int} {j : Nat} (h : j < stopN ss) : ∃ x, ss[j]? = some x ∧ x ≠ 0 ∧ x ≠ 127 := by
  have h2 : j < ss.length := Nat.lt_of_lt_of_le h (stopN_le ss)
  have h3 := List.not_of_lt_findIdx (p := fun x => x == 0 || x == 127) (xs := ss) h
  refine ⟨ss[j], List.getElem?_eq_getElem h2, ?_, ?_⟩
  · intro e; simp [e] at h3
  · intro e; simp [e] at h3
theorem stopN_at {ss : List Int} : ss[stopN ss]? = none ∨ ss[stopN ss]? = some 0 ∨ ss[stopN ss]? = some 127 := by
  rcases Nat.lt_or_ge (stopN ss) ss.length with q | q
  · have h3 := List.findIdx_getElem (p := fun x => x == 0 || x == 127) (xs := ss) (w := q)
    rw [List.getElem?_eq_getElem q]
    have h5 : (ss[stopN ss] == (0 : Int) || ss[stopN ss] == (127 : Int)) = true := h3
    have h4 : ss[stopN ss] = 0 ∨ ss[stopN ss] = 127 := by
      rw [Bool.or_eq_true, beq_iff_eq, beq_iff_eq] at h5
      exact h5
    rcases h4 with h4 | h4
    · exact .inr (.inl (by rw [h4]))
    · exact .inr (.inr (by rw [h4]))
  · exact .inl (List.getElem?_eq_none q)
/-- where the walk stands when it has yielded i times -/
noncomputable def AtY (ss : List Int) (i : Nat) : GS → Prop
  | .fresh => i = 0
  | .norm j => i = j ∧ 1 ≤ j ∧ j ≤ stopN ss
  | .inf v => stopN ss < i ∧ ss[stopN ss]? = some 0 ∧ v = ss.getD (stopN ss - 1) 0
theorem nxt_y {ss : List Int} (h0 : ss[0]? ≠ some 0) {i : Nat} {st : GS} (h : AtY ss i st) : (∃ x st', nxt ss st = some (some (x, st')) ∧ yN ss i = some x.toNat ∧ AtY ss (i + 1) st') ∨ (nxt ss st = some none ∧ yN ss i = none) := by
  have key : ∀ j, j ≤ stopN ss → (j < stopN ss ∧ ∃ x, ss[j]? = some x ∧ x ≠ 0 ∧ x ≠ 127) ∨ (j = stopN ss ∧ (ss[j]? = none ∨ ss[j]? = some 0 ∨ ss[j]? = some 127)) := fun j hj => by
    rcases Nat.lt_or_ge j (stopN ss) with q | q
    · exact .inl ⟨q, stopN_low q⟩
    · obtain rfl : j = stopN ss := Nat.le_antisymm hj q
      exact .inr ⟨rfl, stopN_at⟩
  cases st with
  | fresh =>
    obtain rfl : i = 0 := h
    rcases key 0 (Nat.zero_le _) with ⟨q, x, e, n0, n1⟩ | ⟨q, e | e | e⟩
    · refine .inl ⟨x, .norm 1, by simp only [nxt, e, if_neg n1, if_neg n0], ?_, rfl, Nat.le_refl _, q⟩
      rw [yN, if_pos q, List.getD_eq_getElem?_getD, e]; rfl
    · refine .inr ⟨by simp only [nxt, e], ?_⟩
      rw [yN, if_neg (by omega), ← q, e, if_neg (by simp)]
    · exact absurd e h0
    · refine .inr ⟨by simp only [nxt, e, if_true], ?_⟩
      rw [yN, if_neg (by omega), ← q, e, if_neg (by simp)]
  | norm j =>
    obtain ⟨rfl, hj1, hj2⟩ := h
    rcases key i hj2 with ⟨q, x, e, n0, n1⟩ | ⟨q, e | e | e⟩
    · refine .inl ⟨x, .norm (i + 1), by simp only [nxt, e, if_neg n1, if_neg n0], ?_, rfl, Nat.le_succ_of_le hj1, q⟩
      rw [yN, if_pos q, List.getD_eq_getElem?_getD, e]; rfl
    · refine .inr ⟨by simp only [nxt, e], ?_⟩
      rw [yN, if_neg (by omega), ← q, e, if_neg (by simp)]
    · refine .inl ⟨ss.getD (i - 1) 0, .inf (ss.getD (i - 1) 0), by simp only [nxt, e]; rfl, ?_, by omega, by rw [← q]; exact e, by rw [← q]⟩
      rw [yN, if_neg (by omega), ← q, e, if_pos rfl]
    · refine .inr ⟨by simp only [nxt, e, if_true], ?_⟩
      rw [yN, if_neg (by omega), ← q, e, if_neg (by simp)]
  | inf v =>
    obtain ⟨h1, h2, rfl⟩ := h
    refine .inl ⟨_, _, rfl, ?_, Nat.lt_succ_of_lt h1, h2, rfl⟩
    rw [yN, if_neg (by omega), if_pos h2]
theorem cutp_y {ss : List Int} (h0 : ss[0]? ≠ some 0) : ∀ (n i : Nat) (st : GS) (row : List Int), AtY ss i st → cutp ss n st row = cutY (yN ss) n i row
  | 0, _, _, _, _ => rfl
  | n + 1, i, st, row, h => by
    simp only [cutp, cutY]
    split
    · rfl
    · rcases nxt_y h0 h with ⟨x, st', e1, e2, h'⟩ | ⟨e1, e2⟩
      · rw [e1, e2]
        dsimp only
        rw [cutp_y h0 n (i + 1) st' _ h']
      · rw [e1, e2]
theorem cutY_flat {f : Nat → Option Nat} (hf : ∀ i x, f i = some x → 1 ≤ x) : ∀ (n i : Nat) (row : List Int), row.length < n → (cutY f n i row).flatten = row
  | 0, _, _, h => absurd h (Nat.not_lt_zero _)
  | n + 1, i, row, h => by
    simp only [cutY]
    split
    · next e => rw [e]; rfl
    · next e =>
      have hpos : 0 < row.length := List.length_pos_iff.mpr e
      cases q : f i with
      | none => simp
      | some x =>
        have := hf i x q
        rw [List.flatten_cons, cutY_flat hf n (i + 1) _ (by rw [List.length_drop]; omega), List.take_append_drop]
theorem cutY_ne {f : Nat → Option Nat} (hf : ∀ i x, f i = some x → 1 ≤ x) : ∀ (n i : Nat) (row : List Int), ∀ p ∈ cutY f n i row, p ≠ []
  | 0, _, _, _, h => nomatch h
  | n + 1, i, row, p, h => by
    simp only [cutY] at h
    split at h
    · cases h
    · next e =>
      have hpos : 0 < row.length := List.length_pos_iff.mpr e
      cases q : f i with
      | none =>
        rw [q] at h
        rw [List.mem_singleton.mp h]; exact e
      | some x =>
        rw [q] at h
        have hx := hf i x q
        rcases List.mem_cons.mp h with rfl | h
        · intro z
          have := congrArg List.length z
          rw [List.length_take, List.length_nil] at this
          omega
        · exact cutY_ne hf n (i + 1) _ p h
theorem cutY_len {f : Nat → Option Nat} (hf : ∀ i x, f i = some x → 1 ≤ x) : ∀ (n i : Nat) (row : List Int), row.length < n → (cutY f n i row).length ≤ row.length
  | 0, _, _, h => absurd h (Nat.not_lt_zero _)
  | n + 1, i, row, h => by
    simp only [cutY]
    split
    · exact Nat.zero_le _
    · next e =>
      have hpos : 0 < row.length := List.length_pos_iff.mpr e
      cases q : f i with
      | none => exact hpos
      | some x =>
        have hx := hf i x q
        have := cutY_len hf n (i + 1) (row.drop x) (by rw [List.length_drop]; omega)
        rw [List.length_drop] at this
        simp only [List.length_cons]
        omega
/-- cutting what a writing makes of the pieces -/
theorem cutY_map {f g : Nat → Option Nat} {e : List Int → List Int} {c : Nat → Nat} (hf : ∀ i x, f i = some x → 1 ≤ x) (hg : ∀ i, g i = (f i).map c) (he : ∀ p, (e p).length = c p.length) (hc : ∀ a b, a ≤ b → c a ≤ c b) (hn : ∀ p, p ≠ [] → e p ≠ []) (h0 : e [] = []) :
    ∀ (n m i : Nat) (row : List Int), row.length < n → ((cutY f n i row).map e).flatten.length < m → cutY g m i ((cutY f n i row).map e).flatten = (cutY f n i row).map e
  | 0, _, _, _, h, _ => absurd h (Nat.not_lt_zero _)
  | n + 1, 0, _, _, _, h => absurd h (Nat.not_lt_zero _)
  | n + 1, m + 1, i, row, h1, h2 => by
    by_cases hr : row = []
    · simp [cutY, hr]
    have hpos : 0 < row.length := List.length_pos_iff.mpr hr
    cases q : f i with
    | none =>
      have e1 : cutY f (n + 1) i row = [row] := by simp only [cutY, if_neg hr, q]
      rw [e1]
      simp only [List.map_cons, List.map_nil, List.flatten_cons, List.flatten_nil, List.append_nil, cutY, if_neg (hn row hr), hg, q, Option.map_none]
    | some x =>
      have hx := hf i x q
      have e1 : cutY f (n + 1) i row = row.take x :: cutY f n (i + 1) (row.drop x) := by simp only [cutY, if_neg hr, q]
      have htn : row.take x ≠ [] := fun z => by
        have := congrArg List.length z
        rw [List.length_take, List.length_nil] at this
        omega
      have hen := hn _ htn
      have hel := he (row.take x)
      have hepos : 0 < (e (row.take x)).length := List.length_pos_iff.mpr hen
      rw [e1] at h2 ⊢
      simp only [List.map_cons, List.flatten_cons, List.length_append] at h2 ⊢
      have hne2 : e (row.take x) ++ ((cutY f n (i + 1) (row.drop x)).map e).flatten ≠ [] := fun z => hen (List.append_eq_nil_iff.mp z).1
      have eg : g i = some (c x) := by rw [hg, q]; rfl
      have ih := cutY_map hf hg he hc hn h0 n m (i + 1) (row.drop x) (by rw [List.length_drop]; omega) (by omega)
      simp only [cutY, if_neg hne2, eg]
      rcases Nat.lt_or_ge row.length x with z | z
      · have hd : row.drop x = [] := List.drop_of_length_le (Nat.le_of_lt z)
        have hnil : cutY f n (i + 1) [] = [] := by cases n <;> simp [cutY]
        have hle : (e (row.take x)).length ≤ c x := by rw [hel, List.length_take]; exact hc _ _ (Nat.min_le_left _ _)
        rw [hd, hnil]
        simp only [List.map_nil, List.flatten_nil, List.append_nil]
        rw [List.take_of_length_le hle, List.drop_of_length_le hle]
        cases m <;> simp [cutY]
      · have hl : (e (row.take x)).length = c x := by rw [hel, List.length_take, Nat.min_eq_left z]
        rw [List.take_append_of_le_length (by omega), List.take_of_length_le (by omega), List.drop_append_of_le_length (by omega), List.drop_of_length_le (by omega), List.nil_append, ih]

-- part pure3
noncomputable def cumL : Nat → List (List Int) → List Int
  | _, [] => []
  | b, p :: r => ((b + p.length : Nat) : Int) :: cumL (b + p.length) r
theorem pieces_cum (ks : List Int) : ∀ (P : List (List Int)) (b : Nat), ks.drop b = P.flatten → List.zipWith (sliceL ks) ((b : Int) :: cumL b P) (cumL b P) = P
  | [], b, _ => by simp [cumL]
  | p :: r, b, h => by
    have hp : (ks.drop b).take p.length = p := by rw [h, List.flatten_cons]; simp
    have hr : ks.drop (b + p.length) = r.flatten := by
      rw [← List.drop_drop, h, List.flatten_cons]; simp
    rw [cumL, List.zipWith_cons_cons, pieces_cum ks r _ hr]
    congr 1
    unfold sliceL
    rw [Int.toNat_natCast, Int.toNat_natCast, show b + p.length - b = p.length by omega, hp]
theorem cum_len : ∀ (P : List (List Int)) (b : Nat), (cumL b P).length = P.length
  | [], _ => rfl
  | _ :: r, b => congrArg (· + 1) (cum_len r _)
noncomputable def Srt (l : List Int) : Prop := l.Pairwise (· < ·)
theorem cum_low : ∀ (P : List (List Int)) (b : Nat), (∀ p ∈ P, p ≠ []) → ∀ x ∈ cumL b P, (b : Int) < x
  | [], _, _, _, h => nomatch h
  | p :: r, b, hp, x, h => by
    have hpos : 0 < p.length := List.length_pos_iff.mpr (hp p (.head _))
    rcases List.mem_cons.mp h with rfl | h
    · omega
    · have := cum_low r (b + p.length) (fun q hq => hp q (.tail _ hq)) x h
      omega
theorem cum_srt : ∀ (P : List (List Int)) (b : Nat), (∀ p ∈ P, p ≠ []) → Srt (cumL b P)
  | [], _, _ => List.Pairwise.nil
  | p :: r, b, hp => List.Pairwise.cons (fun x hx => cum_low r _ (fun q hq => hp q (.tail _ hq)) x hx) (cum_srt r _ fun q hq => hp q (.tail _ hq))
theorem srt_ext : ∀ {l m : List Int}, Srt l → Srt m → (∀ x, x ∈ l ↔ x ∈ m) → l = m
  | [], [], _, _, _ => rfl
  | [], y :: m, _, _, h => absurd ((h y).mpr (.head _)) (by simp)
  | x :: l, [], _, _, h => absurd ((h x).mp (.head _)) (by simp)
  | x :: l, y :: m, hl, hm, h => by
    have hl1 := (List.pairwise_cons.mp hl).1
    have hm1 := (List.pairwise_cons.mp hm).1
    have e : x = y := by
      rcases List.mem_cons.mp ((h x).mp (.head _)) with q | q
      · exact q
      · rcases List.mem_cons.mp ((h y).mpr (.head _)) with z | z
        · exact z.symm
        · have a1 := hm1 x q
          have a2 := hl1 y z
          omega
    subst e
    congr 1
    refine srt_ext (List.pairwise_cons.mp hl).2 (List.pairwise_cons.mp hm).2 fun z => ⟨fun hz => ?_, fun hz => ?_⟩
    · rcases List.mem_cons.mp ((h z).mp (.tail _ hz)) with q | q
      · have := hl1 z hz; omega
      · exact q
    · rcases List.mem_cons.mp ((h z).mpr (.tail _ hz)) with q | q
      · have := hm1 z hz; omega
      · exact q
noncomputable def TY (f : Nat → Option Nat) : Nat → Nat → Nat
  | _, 0 => 0
  | i, k + 1 => (f i).getD 0 + TY f (i + 1) k
noncomputable def RY (f : Nat → Option Nat) : Nat → Nat → Prop
  | _, 0 => True
  | i, k + 1 => (f i).isSome = true ∧ RY f (i + 1) k
theorem TY_snoc (f : Nat → Option Nat) : ∀ (k i : Nat), TY f i (k + 1) = TY f i k + (f (i + k)).getD 0
  | 0, i => by simp [TY]
  | k + 1, i => by
    rw [TY, TY_snoc f k (i + 1), TY, show i + 1 + k = i + (k + 1) by omega]
    omega
theorem RY_snoc (f : Nat → Option Nat) : ∀ (k i : Nat), RY f i (k + 1) ↔ RY f i k ∧ (f (i + k)).isSome = true
  | 0, i => by simp [RY]
  | k + 1, i => by
    rw [RY, RY_snoc f k (i + 1), RY, show i + 1 + k = i + (k + 1) by omega]
    exact and_assoc.symm
theorem mem_cum {f : Nat → Option Nat} (hf : ∀ i x, f i = some x → 1 ≤ x) : ∀ (n i b : Nat) (row : List Int) (x : Int), row.length < n → row ≠ [] →
    (x ∈ cumL b (cutY f n i row) ↔ x = ((b + row.length : Nat) : Int) ∨ ∃ k, 1 ≤ k ∧ RY f i k ∧ x = ((b + TY f i k : Nat) : Int) ∧ TY f i k < row.length)
  | 0, _, _, _, _, h, _ => absurd h (Nat.not_lt_zero _)
  | n + 1, i, b, row, x, h, hr => by
    have hpos : 0 < row.length := List.length_pos_iff.mpr hr
    cases q : f i with
    | none =>
      have e1 : cutY f (n + 1) i row = [row] := by simp only [cutY, if_neg hr, q]
      rw [e1]
      simp only [cumL, List.mem_singleton]
      refine ⟨.inl, fun hx => ?_⟩
      rcases hx with hx | ⟨k, hk, hR, _⟩
      · exact hx
      · obtain ⟨k, rfl⟩ : ∃ k', k = k' + 1 := ⟨k - 1, by omega⟩
        rw [RY, q] at hR
        exact absurd hR.1 (by simp)
    | some a =>
      have ha := hf i a q
      have e1 : cutY f (n + 1) i row = row.take a :: cutY f n (i + 1) (row.drop a) := by simp only [cutY, if_neg hr, q]
      have hT : ∀ k, TY f i (k + 1) = a + TY f (i + 1) k := fun k => by rw [TY, q]; rfl
      rw [e1, cumL, List.mem_cons, List.length_take]
      rcases Nat.lt_or_ge a row.length with z | z
      · have ih := mem_cum hf n (i + 1) (b + a) (row.drop a) x (by rw [List.length_drop]; omega) (fun e => by
          have := congrArg List.length e
          rw [List.length_drop, List.length_nil] at this
          omega)
        rw [Nat.min_eq_left (Nat.le_of_lt z), ih, List.length_drop]
        constructor
        · rintro (hx | hx | ⟨k, hk, hR, hx, hl⟩)
          · exact .inr ⟨1, Nat.le_refl _, ⟨by rw [q]; rfl, trivial⟩, by rw [hT, hx]; simp [TY], by rw [hT]; simpa [TY] using z⟩
          · exact .inl (by rw [hx]; omega)
          · exact .inr ⟨k + 1, by omega, ⟨by rw [q]; rfl, hR⟩, by rw [hT, hx]; omega, by rw [hT]; omega⟩
        · rintro (hx | ⟨k, hk, hR, hx, hl⟩)
          · exact .inr (.inl (by rw [hx]; omega))
          · obtain ⟨k, rfl⟩ : ∃ k', k = k' + 1 := ⟨k - 1, by omega⟩
            rw [hT] at hx hl
            rcases Nat.eq_zero_or_pos k with rfl | hk'
            · exact .inl (by rw [hx]; simp [TY])
            · exact .inr (.inr ⟨k, hk', hR.2, by rw [hx]; omega, by omega⟩)
      · have hd : row.drop a = [] := List.drop_of_length_le z
        have hnil : cutY f n (i + 1) [] = [] := by cases n <;> simp [cutY]
        rw [hd, hnil, Nat.min_eq_right z]
        simp only [cumL]
        constructor
        · rintro (hx | hx)
          · exact .inl hx
          · cases hx
        · rintro (hx | ⟨k, hk, hR, hx, hl⟩)
          · exact .inl hx
          · obtain ⟨k, rfl⟩ : ∃ k', k = k' + 1 := ⟨k - 1, by omega⟩
            rw [hT] at hl
            omega
theorem mem_fl {p : Nat → Bool} {v : Nat → Int} {n : Nat} {x : Int} : x ∈ fl p v n ↔ ∃ i, i < n ∧ p i = true ∧ v i = x := by
  unfold fl
  simp only [List.mem_map, List.mem_filter, List.mem_range, and_assoc]
theorem fl_srt {p : Nat → Bool} {v : Nat → Int} (hv : ∀ i j, i < j → v i < v j) : ∀ n, Srt (fl p v n) ∧ ∀ x ∈ fl p v n, x < v n
  | 0 => ⟨List.Pairwise.nil, fun _ h => nomatch h⟩
  | n + 1 => by
    obtain ⟨h1, h2⟩ := fl_srt (p := p) hv n
    have hn := hv n (n + 1) (Nat.lt_succ_self _)
    by_cases hp : p n = true
    · rw [fl_pos hp]
      refine ⟨List.pairwise_append.mpr ⟨h1, List.pairwise_singleton _ _, fun x hx y hy => by rw [List.mem_singleton.mp hy]; exact h2 x hx⟩, fun x hx => ?_⟩
      rcases List.mem_append.mp hx with hx | hx
      · have := h2 x hx; omega
      · rw [List.mem_singleton.mp hx]; exact hn
    · rw [fl_neg (by simpa using hp)]
      exact ⟨h1, fun x hx => by have := h2 x hx; omega⟩

-- part pure4
theorem endless_iff {ss : List Int} : endlessB ss = true ↔ ss[stopN ss]? = some 0 := by
  unfold endlessB
  rw [decide_eq_true_eq]
  constructor
  · intro h
    have := congrArg (·[0]?) h
    simpa [List.getElem?_take, List.getElem?_drop] using this
  · intro h
    have hl : stopN ss < ss.length := by
      rcases Nat.lt_or_ge (stopN ss) ss.length with q | q
      · exact q
      · rw [List.getElem?_eq_none q] at h; cases h
    rw [List.drop_eq_getElem_cons hl]
    rw [List.getElem?_eq_getElem hl] at h
    rw [Option.some.inj h]
    rfl
theorem stop_pos {ss : List Int} (h0 : ss[0]? ≠ some 0) (h : ss[stopN ss]? = some 0) : 1 ≤ stopN ss := by
  rcases Nat.eq_zero_or_pos (stopN ss) with q | q
  · rw [q] at h; exact absurd h h0
  · exact q
theorem yN_low {ss : List Int} {i : Nat} (h : i < stopN ss) : yN ss i = some (ss.getD i 0).toNat := by rw [yN, if_pos h]
theorem yN_high {ss : List Int} {i : Nat} (h : stopN ss ≤ i) (he : ss[stopN ss]? = some 0) : yN ss i = some (ss.getD (stopN ss - 1) 0).toNat := by rw [yN, if_neg (by omega), if_pos he]
theorem yN_end {ss : List Int} {i : Nat} (h : stopN ss ≤ i) (he : ss[stopN ss]? ≠ some 0) : yN ss i = none := by rw [yN, if_neg (by omega), if_neg he]
theorem low_val {ss : List Int} (hp : ∀ x ∈ ss, 0 ≤ x) {i : Nat} (h : i < stopN ss) : 1 ≤ ss.getD i 0 := by
  obtain ⟨x, e, n0, _⟩ := stopN_low h
  have := hp x (List.mem_of_getElem? e)
  rw [List.getD_eq_getElem?_getD, e]
  show 1 ≤ x
  omega
theorem yN_pos {ss : List Int} (hp : ∀ x ∈ ss, 0 ≤ x) (h0 : ss[0]? ≠ some 0) (i x : Nat) (h : yN ss i = some x) : 1 ≤ x := by
  rcases Nat.lt_or_ge i (stopN ss) with q | q
  · rw [yN_low q] at h
    have := low_val hp q
    have e := Option.some.inj h
    omega
  · by_cases he : ss[stopN ss]? = some 0
    · rw [yN_high q he] at h
      have hs := stop_pos h0 he
      have := low_val hp (i := stopN ss - 1) (by omega)
      have e := Option.some.inj h
      omega
    · rw [yN_end q he] at h; cases h
theorem head_len (ss : List Int) : (headL ss).length = stopN ss := by
  unfold headL
  rw [List.length_take, Nat.min_eq_left (stopN_le ss)]
theorem head_at {ss : List Int} {i : Nat} (h : i < stopN ss) : (headL ss)[i]? = some (ss.getD i 0) := by
  obtain ⟨x, e, _⟩ := stopN_low h
  unfold headL
  rw [List.getElem?_take, if_pos h, List.getD_eq_getElem?_getD, e]
  rfl
theorem sum_snoc (l : List Int) (x : Int) : (l ++ [x]).sum = l.sum + x := by
  induction l with
  | nil => simp
  | cons y r ih =>
    simp only [List.cons_append, List.sum_cons, ih]
    omega
theorem T_low {ss : List Int} (hp : ∀ x ∈ ss, 0 ≤ x) : ∀ k, k ≤ stopN ss → ((TY (yN ss) 0 k : Nat) : Int) = ((headL ss).take k).sum
  | 0, _ => by simp [TY]
  | k + 1, h => by
    have ih := T_low hp k (by omega)
    have hv := low_val hp (i := k) (by omega)
    rw [TY_snoc, Nat.zero_add, yN_low (by omega), Int.natCast_add, ih, List.take_add_one, head_at (by omega)]
    show _ + (((ss.getD k 0).toNat : Nat) : Int) = (_ ++ [ss.getD k 0]).sum
    rw [sum_snoc]
    omega
theorem last_head {ss : List Int} (h : 1 ≤ stopN ss) : (headL ss).getLastD 0 = ss.getD (stopN ss - 1) 0 := by
  rw [List.getLastD_eq_getLast?, List.getLast?_eq_getElem?, head_len, head_at (by omega)]
  rfl
theorem T_high {ss : List Int} (hp : ∀ x ∈ ss, 0 ≤ x) (h0 : ss[0]? ≠ some 0) (he : ss[stopN ss]? = some 0) : ∀ m : Nat, ((TY (yN ss) 0 (stopN ss + m) : Nat) : Int) = (headL ss).sum + (headL ss).getLastD 0 * (m : Int)
  | 0 => by
    rw [Nat.add_zero, T_low hp _ (Nat.le_refl _), ← head_len ss, List.take_length]
    simp
  | m + 1 => by
    have ih := T_high hp h0 he m
    have hs := stop_pos h0 he
    have hv := low_val hp (i := stopN ss - 1) (by omega)
    rw [← Nat.add_assoc, TY_snoc, Nat.zero_add, yN_high (by omega) he, Int.natCast_add, ih, last_head hs]
    show _ + (((ss.getD (stopN ss - 1) 0).toNat : Nat) : Int) = _
    rw [Int.toNat_of_nonneg (by omega), Int.natCast_add, Int.mul_add]
    simp
    omega
theorem RY_iff {ss : List Int} : ∀ k, RY (yN ss) 0 k ↔ k ≤ stopN ss ∨ ss[stopN ss]? = some 0
  | 0 => by simp [RY]
  | k + 1 => by
    rw [RY_snoc, RY_iff k, Nat.zero_add]
    rcases Nat.lt_or_ge k (stopN ss) with q | q
    · rw [yN_low q]
      exact ⟨fun _ => .inl q, fun _ => ⟨.inl (by omega), rfl⟩⟩
    · by_cases he : ss[stopN ss]? = some 0
      · rw [yN_high q he]
        exact ⟨fun _ => .inr he, fun _ => ⟨.inr he, rfl⟩⟩
      · rw [yN_end q he]
        constructor
        · rintro ⟨_, h⟩; cases h
        · rintro (h | h)
          · omega
          · exact absurd h he
theorem TY_ge {f : Nat → Option Nat} (hf : ∀ i x, f i = some x → 1 ≤ x) : ∀ k i, RY f i k → k ≤ TY f i k
  | 0, _, _ => Nat.zero_le _
  | k + 1, i, h => by
    have := TY_ge hf k (i + 1) h.2
    rw [TY]
    cases q : f i with
    | none => rw [RY, q] at h; exact absurd h.1 (by simp)
    | some x =>
      have := hf i x q
      show k + 1 ≤ x + _
      omega
theorem ends_mem {ss : List Int} (hp : ∀ x ∈ ss, 0 ≤ x) (h0 : ss[0]? ≠ some 0) {n : Nat} (hn : 1 ≤ n) (x : Int) :
    x ∈ endsL ss (n : Int) ↔ x = (n : Int) ∨ ∃ k, 1 ≤ k ∧ RY (yN ss) 0 k ∧ x = ((0 + TY (yN ss) 0 k : Nat) : Int) ∧ TY (yN ss) 0 k < n := by
  unfold endsL
  rw [List.mem_append, List.mem_singleton, mem_fl, or_comm]
  refine or_congr Iff.rfl ?_
  simp only [Nat.zero_add]
  have any_iff : ∀ (l : List Int) (y : Int), (l.any fun x => x == y) = true ↔ y ∈ l := fun l y => by
    rw [List.any_eq_true]
    constructor
    · rintro ⟨z, hz, e⟩; rw [← beq_iff_eq.mp e]; exact hz
    · intro h; exact ⟨y, h, beq_self_eq_true y⟩
  constructor
  · rintro ⟨i, hi, hb, rfl⟩
    rw [Bool.or_eq_true, any_iff, any_iff] at hb
    rcases hb with hb | hb
    · obtain ⟨c, hc, e⟩ := sums_mem hb
      rw [head_len] at hc
      have hT := T_low hp c hc
      have hk : c ≠ 0 := by
        rintro rfl
        rw [List.take_zero, List.sum_nil] at e
        omega
      exact ⟨c, by omega, (RY_iff c).mpr (.inl hc), by rw [hT, e], by omega⟩
    · unfold beyondL at hb
      split at hb
      · next he =>
        have he' := endless_iff.mp he
        obtain ⟨j, hj, _, e⟩ := mem_fl.mp hb
        have hT := T_high hp h0 he' (1 + j)
        rw [show (((1 + j : Nat)) : Int) = 1 + (j : Int) by omega] at hT
        refine ⟨stopN ss + (1 + j), by omega, (RY_iff _).mpr (.inr he'), by rw [hT, ← e], ?_⟩
        rw [← hT] at e
        omega
      · cases hb
  · rintro ⟨k, hk, hR, rfl, hl⟩
    have hge := TY_ge (yN_pos hp h0) k 0 hR
    refine ⟨TY (yN ss) 0 k - 1, by omega, ?_, by omega⟩
    rw [show 1 + (((TY (yN ss) 0 k - 1 : Nat)) : Int) = ((TY (yN ss) 0 k : Nat) : Int) by omega, Bool.or_eq_true, any_iff, any_iff]
    rcases Nat.lt_or_ge (stopN ss) k with q | q
    · have he : ss[stopN ss]? = some 0 := by
        rcases (RY_iff k).mp hR with z | z
        · omega
        · exact z
      refine .inr ?_
      unfold beyondL
      rw [if_pos (endless_iff.mpr he), mem_fl]
      have hT := T_high hp h0 he (k - stopN ss)
      rw [show stopN ss + (k - stopN ss) = k by omega] at hT
      refine ⟨k - stopN ss - 1, by omega, rfl, ?_⟩
      rw [hT]
      congr 1
      congr 1
      omega
    · refine .inl ?_
      unfold sumsL
      rw [mem_fl]
      exact ⟨k, by rw [head_len]; omega, rfl, (T_low hp k q).symm⟩
theorem ends_srt (ss : List Int) {n : Nat} (hn : 1 ≤ n) : Srt (endsL ss (n : Int)) := by
  unfold endsL
  obtain ⟨h1, h2⟩ := fl_srt (p := fun i => ((sumsL ss).any fun x => x == 1 + (i : Int)) || (beyondL ss (n : Int)).any fun x => x == 1 + (i : Int)) (v := fun i => 1 + (i : Int)) (fun i j h => by omega) ((n : Int) - 1).toNat
  refine List.pairwise_append.mpr ⟨h1, List.pairwise_singleton _ _, fun x hx y hy => ?_⟩
  rw [List.mem_singleton.mp hy]
  have := h2 x hx
  omega
/-- the ends are where the walk cuts -/
theorem ends_cum {ss : List Int} (hp : ∀ x ∈ ss, 0 ≤ x) (h0 : ss[0]? ≠ some 0) {ks : List Int} (hk : ks ≠ []) : endsL ss (ks.length : Int) = cumL 0 (cutY (yN ss) (ks.length + 1) 0 ks) := by
  have hpos : 1 ≤ ks.length := List.length_pos_iff.mpr hk
  refine srt_ext (ends_srt ss hpos) (cum_srt _ _ (cutY_ne (yN_pos hp h0) _ _ _)) fun x => ?_
  rw [ends_mem hp h0 hpos, mem_cum (yN_pos hp h0) _ _ _ _ _ (Nat.lt_succ_self _) hk]
  simp only [Nat.zero_add]

-- part pure5
theorem stopP_map {g : Int → Int} {ss : List Int} (g0 : g 0 = 0) (g1 : g 127 = 127) (gn : ∀ x ∈ ss, x ≠ 0 → x ≠ 127 → g x ≠ 0 ∧ g x ≠ 127) (j : Nat) (hj : j < ss.length) : stopP (ss.map g) j = stopP ss j := by
  unfold stopP
  rw [List.getD_eq_getElem?_getD, List.getD_eq_getElem?_getD, List.getElem?_map, List.getElem?_eq_getElem hj]
  show (g ss[j] == 0 || g ss[j] == 127) = (ss[j] == 0 || ss[j] == 127)
  by_cases e0 : ss[j] = 0
  · rw [e0, g0]
  · by_cases e1 : ss[j] = 127
    · rw [e1, g1]
    · obtain ⟨n0, n1⟩ := gn _ (List.getElem_mem hj) e0 e1
      rw [beq_eq_false_iff_ne.mpr n0, beq_eq_false_iff_ne.mpr n1, beq_eq_false_iff_ne.mpr e0, beq_eq_false_iff_ne.mpr e1]
theorem stopP_stop (ss : List Int) : (∀ j, j < stopN ss → stopP ss j = false) ∧ (stopN ss < ss.length → stopP ss (stopN ss) = true) := by
  constructor
  · intro j hj
    obtain ⟨x, e, n0, n1⟩ := stopN_low hj
    unfold stopP
    rw [List.getD_eq_getElem?_getD, e]
    show (x == 0 || x == 127) = false
    rw [beq_eq_false_iff_ne.mpr n0, beq_eq_false_iff_ne.mpr n1]; rfl
  · intro hl
    unfold stopP
    rw [List.getD_eq_getElem?_getD]
    rcases @stopN_at ss with e | e | e
    · rw [List.getElem?_eq_getElem hl] at e; cases e
    · rw [e]; rfl
    · rw [e]; rfl
theorem stopN_map {g : Int → Int} {ss : List Int} (g0 : g 0 = 0) (g1 : g 127 = 127) (gn : ∀ x ∈ ss, x ≠ 0 → x ≠ 127 → g x ≠ 0 ∧ g x ≠ 127) : stopN (ss.map g) = stopN ss := by
  obtain ⟨h1, h2⟩ := stopP_stop ss
  have hle := stopN_le ss
  refine stopN_is _ _ (by simpa using hle) (fun j hj => ?_) fun hj => ?_
  · rw [stopP_map g0 g1 gn j (by omega)]; exact h1 j hj
  · rw [List.length_map] at hj
    rw [stopP_map g0 g1 gn _ hj]; exact h2 hj
theorem yN_map {g : Int → Int} {c : Nat → Nat} {ss : List Int} (h0 : ss[0]? ≠ some 0) (g0 : g 0 = 0) (g1 : g 127 = 127) (gn : ∀ x ∈ ss, x ≠ 0 → x ≠ 127 → g x ≠ 0 ∧ g x ≠ 127) (gc : ∀ x ∈ ss, x ≠ 0 → x ≠ 127 → (g x).toNat = c x.toNat) (i : Nat) : yN (ss.map g) i = (yN ss i).map c := by
  have hs := stopN_map g0 g1 gn
  have low : ∀ j, j < stopN ss → ((ss.map g).getD j 0).toNat = c (ss.getD j 0).toNat := fun j hj => by
    obtain ⟨x, e, n0, n1⟩ := stopN_low hj
    rw [List.getD_eq_getElem?_getD, List.getD_eq_getElem?_getD, List.getElem?_map, e]
    exact gc x (List.mem_of_getElem? e) n0 n1
  have at_ : (ss.map g)[stopN ss]? = some 0 ↔ ss[stopN ss]? = some 0 := by
    rw [List.getElem?_map]
    rcases @stopN_at ss with e | e | e
    · rw [e]; simp
    · rw [e]; simp [g0]
    · rw [e]; simp [g1]
  unfold yN
  rw [hs]
  split
  · next hj => rw [low i hj]; rfl
  · by_cases he : ss[stopN ss]? = some 0
    · rw [if_pos (at_.mpr he), if_pos he]
      have := stop_pos h0 he
      rw [low _ (by omega)]; rfl
    · rw [if_neg (fun z => he (at_.mp z)), if_neg he]; rfl
theorem map_first {g : Int → Int} {ss : List Int} (h0 : ss[0]? ≠ some 0) (g1 : g 127 = 127) (gn : ∀ x ∈ ss, x ≠ 0 → x ≠ 127 → g x ≠ 0 ∧ g x ≠ 127) : (ss.map g)[0]? ≠ some 0 := by
  rw [List.getElem?_map]
  cases e : ss[0]? with
  | none => simp
  | some x =>
    intro z
    have z' : g x = 0 := by simpa using z
    have hx : x ≠ 0 := fun q => h0 (by rw [e, q])
    by_cases h1 : x = 127
    · rw [h1, g1] at z'; cases z'
    · exact (gn x (List.mem_of_getElem? e) hx h1).1 z'
noncomputable def firstR : Nat → List (List Int) → Int → Int
  | _, [], t => t
  | b, p :: r, t => if 0 < ((p.length : Nat) : Int) % 3 then ((b + p.length : Nat) : Int) else firstR (b + p.length) r t
theorem fl_cons (p : Nat → Bool) (v : Nat → Int) (n : Nat) : fl p v (n + 1) = (if p 0 = true then [v 0] else []) ++ fl (fun i => p (i + 1)) (fun i => v (i + 1)) n := by
  unfold fl
  rw [List.range_succ_eq_map, List.filter_cons, List.filter_map]
  split
  · simp [Function.comp_def]
  · simp [Function.comp_def]
theorem first_R : ∀ (P : List (List Int)) (b : Nat) (t : Int), (fl (badP P) (fun j => (cumL b P).getD j 0) (cumL b P).length ++ [t]).headD 0 = firstR b P t
  | [], b, t => rfl
  | p :: r, b, t => by
    rw [cumL, List.length_cons, fl_cons, firstR]
    have e0 : badP (p :: r) 0 = decide (0 < ((p.length : Nat) : Int) % 3) := rfl
    by_cases h : 0 < ((p.length : Nat) : Int) % 3
    · rw [if_pos h, e0, if_pos (decide_eq_true h)]
      rfl
    · rw [if_neg h, e0, if_neg (by simpa using h), List.nil_append]
      exact first_R r (b + p.length) t
theorem split_first : ∀ (P : List (List Int)) (b : Nat) (t : Int), P ≠ [] → ((b + P.flatten.length : Nat) : Int) = t → ∃ A q C, P = A ++ q :: C ∧ (∀ p ∈ A, p.length % 3 = 0) ∧ (q.length % 3 ≠ 0 ∨ C = []) ∧ firstR b P t = ((b + (A.flatten.length + q.length) : Nat) : Int)
  | [], _, _, h, _ => absurd rfl h
  | p :: r, b, t, _, ht => by
    by_cases h : p.length % 3 = 0
    · cases r with
      | nil =>
        refine ⟨[], p, [], rfl, (fun _ h => nomatch h), .inr rfl, ?_⟩
        rw [firstR, if_neg (by omega), firstR, ← ht]
        simp
      | cons p2 r2 =>
        obtain ⟨A, q, C, e, hA, hq, hf⟩ := split_first (p2 :: r2) (b + p.length) t (by simp) (by rw [← ht]; simp only [List.flatten_cons, List.length_append]; omega)
        refine ⟨p :: A, q, C, by rw [e]; rfl, fun x hx => ?_, hq, ?_⟩
        · rcases List.mem_cons.mp hx with rfl | hx
          · exact h
          · exact hA x hx
        · rw [firstR, if_neg (by omega), hf]
          simp only [List.flatten_cons, List.length_append]
          omega
    · refine ⟨[], p, r, rfl, (fun _ h => nomatch h), .inl h, ?_⟩
      rw [firstR, if_pos (by omega)]
      simp
theorem whole_flat : ∀ (A : List (List Int)), (∀ p ∈ A, p.length % 3 = 0) → A.flatten.length % 3 = 0 ∧ (A.map enc).flatten = enc A.flatten
  | [], _ => ⟨rfl, rfl⟩
  | p :: A, h => by
    obtain ⟨h1, h2⟩ := whole_flat A fun q hq => h q (.tail _ hq)
    have hp := h p (.head _)
    refine ⟨by rw [List.flatten_cons, List.length_append]; omega, ?_⟩
    rw [List.map_cons, List.flatten_cons, List.flatten_cons, h2, enc_append _ _ hp]
theorem enc_le (p : List Int) : (enc p).length ≤ 4 * p.length := by rw [enc_len]; omega
theorem encs_le : ∀ P : List (List Int), ((P.map enc).flatten).length ≤ 4 * P.flatten.length
  | [] => Nat.le_refl _
  | p :: r => by
    have := encs_le r
    have := enc_le p
    simp only [List.map_cons, List.flatten_cons, List.length_append]
    omega
theorem mem_flat_len {P : List (List Int)} {p : List Int} (h : p ∈ P) : p.length ≤ P.flatten.length := by
  induction P with
  | nil => cases h
  | cons q r ih =>
    rw [List.flatten_cons, List.length_append]
    rcases List.mem_cons.mp h with rfl | h
    · omega
    · have := ih h; omega
theorem b16_len (p : List Int) : (b16 p).length = 2 * p.length := by
  induction p with
  | nil => rfl
  | cons x r ih =>
    show ([hexu (x / 16), hexu (x % 16)] ++ b16 r).length = _
    rw [List.length_append, ih]
    simp only [List.length_cons, List.length_nil]
    omega
theorem b16_flat : ∀ P : List (List Int), (P.map b16).flatten = b16 P.flatten
  | [] => rfl
  | p :: r => by
    rw [List.map_cons, List.flatten_cons, List.flatten_cons, b16_flat r]
    unfold b16
    rw [List.flatMap_append]

-- part pure6
/-- sizes as the law builds them -/
noncomputable def okS (ss : List Int) : Prop := ∀ x ∈ ss, x = 0 ∨ x = 127 ∨ (1 ≤ x ∧ x ≤ 12)
structure Facts (ks ss : List Int) : Prop where
  cut : cutp ss (ks.length + 1) .fresh ks = piecesL ks (endsL ss ks.length)
  len : (endsL ss (ks.length : Int)).length = (piecesL ks (endsL ss ks.length)).length
  le : (endsL ss (ks.length : Int)).length ≤ ks.length
  pos : 0 < (piecesL ks (endsL ss ks.length)).length
  bnd : ∀ x ∈ endsL ss (ks.length : Int), 0 ≤ x ∧ x ≤ ks.length
  plen : ∀ p ∈ piecesL ks (endsL ss ks.length), p.length ≤ ks.length
  tlen : (((piecesL ks (endsL ss ks.length)).map enc).flatten).length ≤ 4 * ks.length
  cut2 : cutp (ss.map spanOf) ((((piecesL ks (endsL ss ks.length)).map enc).flatten).length + 1) .fresh ((piecesL ks (endsL ss ks.length)).map enc).flatten = (piecesL ks (endsL ss ks.length)).map enc
  read : ∀ p ∈ piecesL ks (endsL ss ks.length), ∃ q l pd, dRun true [] 0 0 0 (enc p) = some (some (p, q, l, pd)) ∧ q ≠ 1 ∧ (q = 0 ∨ 4 ≤ q + pd)
  f0 : 0 ≤ firstL (endsL ss ks.length) (piecesL ks (endsL ss ks.length)) ks.length
  f1 : firstL (endsL ss ks.length) (piecesL ks (endsL ss ks.length)) ks.length ≤ ks.length
  begun : ∃ q l pd, dRun false [] 0 0 0 ((((piecesL ks (endsL ss ks.length)).map enc).flatten).take ((firstL (endsL ss ks.length) (piecesL ks (endsL ss ks.length)) ks.length + 2) / 3 * 4).toNat) = some (some (ks.take (firstL (endsL ss ks.length) (piecesL ks (endsL ss ks.length)) ks.length).toNat, q, l, pd)) ∧ q ≠ 1 ∧ (q = 0 ∨ 4 ≤ q + pd)
  yes : (firstL (endsL ss ks.length) (piecesL ks (endsL ss ks.length)) ks.length == (ks.length : Int)) = true → ∃ q l pd, dRun true [] 0 0 0 (((piecesL ks (endsL ss ks.length)).map enc).flatten) = some (some (ks, q, l, pd)) ∧ q ≠ 1 ∧ (q = 0 ∨ 4 ≤ q + pd)
  no : (firstL (endsL ss ks.length) (piecesL ks (endsL ss ks.length)) ks.length == (ks.length : Int)) = false → dRun true [] 0 0 0 (((piecesL ks (endsL ss ks.length)).map enc).flatten) = some none
  whole : decide (cutp (ss.map spanOf) ((enc ks).length + 1) .fresh (enc ks) = (piecesL ks (endsL ss ks.length)).map enc) = (firstL (endsL ss ks.length) (piecesL ks (endsL ss ks.length)) ks.length == (ks.length : Int))
  cut3 : cutp (ss.map dblOf) ((b16 ks).length + 1) .fresh (b16 ks) = (piecesL ks (endsL ss ks.length)).map b16
theorem span_n {ss : List Int} (h : okS ss) : ∀ x ∈ ss, x ≠ 0 → x ≠ 127 → spanOf x ≠ 0 ∧ spanOf x ≠ 127 := fun x hx n0 n1 => by
  have := h x hx
  unfold spanOf
  rw [if_neg (by omega)]
  omega
theorem span_c {ss : List Int} (h : okS ss) : ∀ x ∈ ss, x ≠ 0 → x ≠ 127 → (spanOf x).toNat = (x.toNat + 2) / 3 * 4 := fun x hx n0 n1 => by
  have := h x hx
  unfold spanOf
  rw [if_neg (by omega)]
  omega
theorem dbl_n {ss : List Int} (h : okS ss) : ∀ x ∈ ss, x ≠ 0 → x ≠ 127 → dblOf x ≠ 0 ∧ dblOf x ≠ 127 := fun x hx n0 n1 => by
  have := h x hx
  unfold dblOf
  rw [if_neg (by omega)]
  omega
theorem dbl_c {ss : List Int} (h : okS ss) : ∀ x ∈ ss, x ≠ 0 → x ≠ 127 → (dblOf x).toNat = 2 * x.toNat := fun x hx n0 n1 => by
  have := h x hx
  unfold dblOf
  rw [if_neg (by omega)]
  omega
theorem okS_pos {ss : List Int} (h : okS ss) : ∀ x ∈ ss, 0 ≤ x := fun x hx => by have := h x hx; omega
theorem facts {ks ss : List Int} (hin : KBa.In ks) (hk : ks ≠ []) (hok : okS ss) (h0 : ss[0]? ≠ some 0) : Facts ks ss := by
  have hp := okS_pos hok
  have hf := yN_pos hp h0
  have hec := ends_cum hp h0 hk
  generalize hP : cutY (yN ss) (ks.length + 1) 0 ks = P at hec
  have hflat : P.flatten = ks := by rw [← hP]; exact cutY_flat hf _ _ _ (Nat.lt_succ_self _)
  have hne : ∀ p ∈ P, p ≠ [] := by rw [← hP]; exact cutY_ne hf _ _ _
  have hlen : P.length ≤ ks.length := by rw [← hP]; exact cutY_len hf _ _ _ (Nat.lt_succ_self _)
  have hpc : piecesL ks (endsL ss ks.length) = P := by
    rw [hec]
    exact pieces_cum ks P 0 (by rw [hflat]; rfl)
  have hPne : P ≠ [] := fun e => by rw [e] at hflat; exact hk hflat.symm
  have hPin : ∀ p ∈ P, KBa.In p := fun p hpm x hx => hin x (by rw [← hflat]; exact List.mem_flatten.mpr ⟨p, hpm, hx⟩)
  have hsp0 := map_first h0 (g := spanOf) (by decide) (span_n hok)
  have hdb0 := map_first h0 (g := dblOf) (by decide) (dbl_n hok)
  have hsy : ∀ i, yN (ss.map spanOf) i = (yN ss i).map fun x => (x + 2) / 3 * 4 := yN_map h0 (by decide) (by decide) (span_n hok) (span_c hok)
  have hdy : ∀ i, yN (ss.map dblOf) i = (yN ss i).map fun x => 2 * x := yN_map h0 (by decide) (by decide) (dbl_n hok) (dbl_c hok)
  have hencne : ∀ p, p ≠ [] → enc p ≠ [] := fun p h e => by
    have := congrArg List.length e
    rw [enc_len, List.length_nil] at this
    have := List.length_pos_iff.mpr h
    omega
  have hb16ne : ∀ p, p ≠ [] → b16 p ≠ [] := fun p h e => by
    have := congrArg List.length e
    rw [b16_len, List.length_nil] at this
    have := List.length_pos_iff.mpr h
    omega
  have c2 : cutp (ss.map spanOf) (((P.map enc).flatten).length + 1) .fresh (P.map enc).flatten = P.map enc := by
    rw [cutp_y hsp0 _ 0 .fresh _ rfl, ← hP]
    exact cutY_map hf hsy enc_len (fun a b h => by omega) hencne enc_nil _ _ _ _ (Nat.lt_succ_self _) (Nat.lt_succ_self _)
  have c3 : cutp (ss.map dblOf) ((b16 ks).length + 1) .fresh (b16 ks) = P.map b16 := by
    have e : b16 ks = (P.map b16).flatten := by rw [b16_flat, hflat]
    rw [e, cutp_y hdb0 _ 0 .fresh _ rfl, ← hP]
    exact cutY_map hf hdy b16_len (fun a b h => by omega) hb16ne rfl _ _ _ _ (Nat.lt_succ_self _) (Nat.lt_succ_self _)
  obtain ⟨A, q, C, hsplit, hA, hq, hfr⟩ := split_first P 0 (ks.length : Int) hPne (by rw [hflat, Nat.zero_add])
  have hfirst : firstL (cumL 0 P) P ks.length = ((A.flatten.length + q.length : Nat) : Int) := by
    unfold firstL
    rw [getD_zero, headD_append]
    have := first_R P 0 (ks.length : Int)
    rw [headD_append] at this
    rw [this, hfr, Nat.zero_add]
  obtain ⟨hA1, hA2⟩ := whole_flat A hA
  have hks : ks = A.flatten ++ q ++ C.flatten := by rw [← hflat, hsplit]; simp
  have hts : (P.map enc).flatten = enc (A.flatten ++ q) ++ (C.map enc).flatten := by
    rw [hsplit, enc_append _ _ hA1, ← hA2]
    simp
  have hQin : KBa.In (A.flatten ++ q) := fun x hx => hin x (by rw [hks]; exact List.mem_append_left _ hx)
  have hlk : ks.length = A.flatten.length + q.length + C.flatten.length := by rw [hks]; simp only [List.length_append]
  have hwC : (((A.flatten.length + q.length : Nat) : Int) == (ks.length : Int)) = true ↔ C = [] := by
    rw [beq_iff_eq]
    constructor
    · intro e
      cases C with
      | nil => rfl
      | cons c C =>
        have := List.length_pos_iff.mpr (hne c (by rw [hsplit]; simp))
        simp only [List.flatten_cons, List.length_append] at hlk
        omega
    · intro e
      rw [e] at hlk
      simp only [List.flatten_nil, List.length_nil] at hlk
      omega
  have tyes : C = [] → (P.map enc).flatten = enc ks := fun e => by
    rw [hts, hks, e]; simp
  have tno : C ≠ [] → dRun true [] 0 0 0 (P.map enc).flatten = some none := fun e => by
    cases C with
    | nil => exact absurd rfl e
    | cons c C =>
      have hqb : q.length % 3 ≠ 0 := by
        rcases hq with h | h
        · exact h
        · cases h
      have hcm : c ∈ P := by rw [hsplit]; simp
      obtain ⟨i, r, ei, i0, i1⟩ := enc_head c (hPin c hcm) (hne c hcm)
      rw [hts, enc_append _ _ hA1, List.append_assoc, dec_whole _ _ _ (fun x hx => hQin x (List.mem_append_left _ hx)) hA1, List.map_cons, List.flatten_cons, ei]
      exact dec_refuse q _ i _ (fun x hx => hQin x (List.mem_append_right _ hx)) hqb i0 i1
  have full : ∀ (st : Bool) (p : List Int), KBa.In p → ∃ q l pd, dRun st [] 0 0 0 (enc p) = some (some (p, q, l, pd)) ∧ q ≠ 1 ∧ (q = 0 ∨ 4 ≤ q + pd) := fun st p h => dec_full p [] h
  constructor
  case cut => rw [hpc, cutp_y h0 _ 0 .fresh _ rfl, hP]
  case len => rw [hpc, hec, cum_len]
  case le => rw [hec, cum_len]; exact hlen
  case pos => rw [hpc]; exact List.length_pos_iff.mpr hPne
  case bnd =>
    intro x hx
    rcases (ends_mem hp h0 (List.length_pos_iff.mpr hk) x).mp hx with rfl | ⟨k, _, _, rfl, h⟩
    · omega
    · omega
  case plen => rw [hpc]; intro p h; rw [← hflat]; exact mem_flat_len h
  case tlen => rw [hpc]; have := encs_le P; rw [hflat] at this; exact this
  case cut2 => rw [hpc]; exact c2
  case read => rw [hpc]; intro p h; exact full true p (hPin p h)
  case f0 => rw [hpc, hec, hfirst]; omega
  case f1 => rw [hpc, hec, hfirst]; omega
  case begun =>
    rw [hpc, hec, hfirst, Int.toNat_natCast]
    have e1 : ((((A.flatten.length + q.length : Nat) : Int) + 2) / 3 * 4).toNat = (enc (A.flatten ++ q)).length := by
      rw [enc_len, List.length_append]; omega
    have e2 : ks.take (A.flatten.length + q.length) = A.flatten ++ q := by
      rw [hks, ← List.length_append]; exact List.take_left' rfl
    rw [e1, hts, List.take_left' rfl, e2]
    exact full false _ hQin
  case yes =>
    rw [hpc, hec, hfirst]
    intro h
    rw [tyes (hwC.mp h)]
    exact full true ks hin
  case no =>
    rw [hpc, hec, hfirst]
    intro h
    exact tno fun e => by rw [hwC.mpr e] at h; cases h
  case whole =>
    rw [hpc, hec, hfirst]
    by_cases hC : C = []
    · rw [hwC.mpr hC, ← tyes hC]
      exact decide_eq_true c2
    · have : (((A.flatten.length + q.length : Nat) : Int) == (ks.length : Int)) = false := by
        rw [Bool.eq_false_iff]
        exact fun e => hC (hwC.mp e)
      rw [this]
      refine decide_eq_false fun e => ?_
      have hsf : ∀ i x, yN (ss.map spanOf) i = some x → 1 ≤ x := yN_pos (fun x hx => by
        obtain ⟨y, hy, rfl⟩ := List.mem_map.mp hx
        have := hok y hy
        unfold spanOf
        split <;> omega) hsp0
      have e2 := congrArg List.flatten e
      rw [cutp_y hsp0 _ 0 .fresh _ rfl, cutY_flat hsf _ _ _ (Nat.lt_succ_self _)] at e2
      obtain ⟨q', l', pd', e3, _⟩ := full true ks hin
      rw [e2, tno hC] at e3
      cases e3
  case cut3 => rw [hpc]; exact c3

-- part main
theorem nums_len (ns : List Int) : (numsL ns).length ≤ 6 := by
  unfold numsL
  rw [List.length_map]
  exact List.length_take_le _ _
theorem nums_bound (ns : List Int) : ∀ x ∈ numsL ns, 0 ≤ x ∧ x < 100000000 := fun x hx => by
  obtain ⟨y, _, rfl⟩ := List.mem_map.mp hx
  omega
theorem oct_in (nums : List Int) : ∀ x ∈ octL nums, 0 ≤ x ∧ x < 256 := fun x hx => by
  obtain ⟨n, _, h⟩ := List.mem_flatMap.mp hx
  simp only [List.mem_cons, List.not_mem_nil, or_false] at h
  omega
theorem menu_ok (n : Int) : menuL.getD (n % 12).toNat 0 = 0 ∨ menuL.getD (n % 12).toNat 0 = 127 ∨ (1 ≤ menuL.getD (n % 12).toNat 0 ∧ menuL.getD (n % 12).toNat 0 ≤ 12) := by
  have : ∀ m : Fin 12, menuL.getD m.val 0 = 0 ∨ menuL.getD m.val 0 = 127 ∨ (1 ≤ menuL.getD m.val 0 ∧ menuL.getD m.val 0 ≤ 12) := by decide
  exact this ⟨(n % 12).toNat, by omega⟩
theorem end_ok (nums : List Int) : ∀ x ∈ endL nums, x = 0 ∨ x = 127 ∨ (1 ≤ x ∧ x ≤ 12) := fun x hx => by
  unfold endL at hx
  split at hx
  · rw [List.mem_singleton.mp hx]; exact .inl rfl
  · split at hx
    · rw [List.mem_singleton.mp hx]; exact .inr (.inl rfl)
    · cases hx
theorem end_len (nums : List Int) : (endL nums).length ≤ 1 := by
  unfold endL
  split
  · exact Nat.le_refl _
  · split
    · exact Nat.le_refl _
    · exact Nat.zero_le _
theorem sizes_len (nums : List Int) : (sizesL nums).length = nums.length + 2 := by
  unfold sizesL
  simp
theorem sizes_ok (nums : List Int) : okS (sizesL nums ++ endL nums) := fun x hx => by
  rcases List.mem_append.mp hx with h | h
  · unfold sizesL at h
    rcases List.mem_append.mp h with h | h
    · obtain ⟨n, _, rfl⟩ := List.mem_map.mp h
      exact menu_ok n
    · simp only [List.mem_cons, List.not_mem_nil, or_false] at h
      omega
  · exact end_ok nums x h
theorem drop_head : ∀ (l : List Int), (l.dropWhile (· == 0))[0]? ≠ some 0
  | [] => by simp
  | x :: r => by
    rw [List.dropWhile_cons]
    split
    · exact drop_head r
    · next h =>
      intro z
      have : x = 0 := by simpa using z
      exact h (by rw [this]; rfl)
theorem drop_sub : ∀ (l : List Int), ∀ x ∈ l.dropWhile (· == 0), x ∈ l
  | [], _, h => h
  | y :: r, x, h => by
    rw [List.dropWhile_cons] at h
    split at h
    · exact .tail _ (drop_sub r x h)
    · exact h
theorem drop_len : ∀ (l : List Int), (l.dropWhile (· == 0)).length ≤ l.length
  | [] => Nat.le_refl _
  | y :: r => by
    rw [List.dropWhile_cons]
    split
    · exact Nat.le_succ_of_le (drop_len r)
    · exact Nat.le_refl _
theorem drop_ne : ∀ (l : List Int), (∃ x ∈ l, x ≠ 0) → l.dropWhile (· == 0) ≠ []
  | [], ⟨_, h, _⟩ => nomatch h
  | y :: r, ⟨x, hx, h0⟩ => by
    rw [List.dropWhile_cons]
    split
    · next h =>
      refine drop_ne r ⟨x, ?_, h0⟩
      rcases List.mem_cons.mp hx with rfl | hx
      · exact absurd (beq_iff_eq.mp h) h0
      · exact hx
    · simp
noncomputable def lAll : List Stmt := lC 0 (lC 1 (lC 2 (lC 3 (lC 4 (lC 5 (lC 6 (lC 7 (lC 8 (lC 9 (lC 10 (lC 11 (lC 12 (lC 13 (lC 14 (lC 15 (lC 16 (lC 17 (lC 18 (lC 19 [])))))))))))))))))))
theorem law_main {w : World} {mean : ExcName → Option Value} {mg mb : Str → Option Value} {g : Heap} {L a : Addr} {dp : Nat} {gd : Option (List Code)} {un : Nat} {m : Str → Option Value} {o1 : Obj} {v1 : Option Value} {ns : List Int} {vs : List Value} {Q : Flow → Shared → Prop} {E : Value → Shared → Prop} (X : (hd.heap_39 w.params).In g) (T : Top hd.view_39 lo mean mg mb g) (s : Shared)
    (F : Fr g L s.heap m) (N : News g L s.heap [(L + 1, o1)]) (d1 : o1.data = .cell v1) (h1 : m (Str.ofString "script") = some (.ref a)) (hlist : g.IsList a vs.toArray) (hvs : IntsAre vs ns) (hl : ns.length ≤ 63) (hdp : dp + 7 < 840) (hun : un + 80 < 8800)
    (hQ : ∀ h tk gn m', Fr g L h m' → (AllBare s.gens → AllBare gn) → Q (.ret (.bool true)) { s with heap := h, toks := tk, gens := gn }) :
    wpAny (model PySem.Challenge.rw_pa0027_01.row.prog w) ((AA dp (some []) gd un).deeper (lEnv L)) (execs lAll (lEnv L)) Q E s := by
  have hdp0 : dp + 7 < 850 := by omega
  have hun0 : un + 80 < 9000 := by omega
  have hun1 : un + 80 < 8900 := by omega
  have hnl := nums_len ns
  have hnb := nums_bound ns
  refine law_0 X T s F N h1 hlist hvs hl hdp0 hun0 ?_
  intro h0 tk0 D0 ys0 n0 F0 hys0 N0
  generalize numsL ns = nums at hnl hnb hys0
  refine law_1 X T _ F0 N0 rfl hys0 hnl hnb hdp0 hun0 ?_
  intro h1 tk1 D1 ys1 n1 F1 hys1 N1
  refine law_2 X T _ F1 N1 d1 (ne_cell N1 (.head _) (.tail _ (.tail _ (.head _))) d1) (ne_cell N1 (.tail _ (.head _)) (.tail _ (.tail _ (.head _))) d1) rfl hys1 (by rw [oct_len]; omega) (oct_in nums) hdp0 hun0 ?_
  intro h2 tk2 r t o1' F2 hr d1' N2
  have hkin : KBa.In (octL nums ++ tailL) := in_append (oct_in nums) (by unfold KBa.In; decide)
  have hk1 : 1 ≤ (octL nums ++ tailL).length := by rw [List.length_append]; exact Nat.le_add_left_of_le (by decide)
  have hkl : (octL nums ++ tailL).length ≤ 29 := by rw [List.length_append, oct_len]; show _ + 11 ≤ 29; omega
  generalize octL nums ++ tailL = ks at hr hkin hk1 hkl
  refine law_3 X T _ F2 N2 (by rfl) hys0 hnl hnb hdp0 hun0 ?_
  intro h3 tk3 D3 ys3 n3 F3 hys3 N3
  refine law_4 X T _ F3 N3 (by rfl) (by rfl) hys0 hys3 hnl (by rw [sizes_len]; omega) hnb hdp0 hun0 ?_
  intro h4 tk4 D4 ys4 n4 m4 F4 hm4 hys4 N4
  have hok := sizes_ok nums
  have hsl : (sizesL nums ++ endL nums).length ≤ 9 := by rw [List.length_append, sizes_len]; have := end_len nums; omega
  have hne : (sizesL nums ++ endL nums).dropWhile (· == 0) ≠ [] := drop_ne _ ⟨3, by unfold sizesL; simp, by decide⟩
  generalize sizesL nums ++ endL nums = sz at hys4 hok hsl hne
  refine law_5 X T _ F4 N4 d1' hr hkl hm4 hys4 hsl hne hdp hun1 ?_
  intro h5 tk5 gn5 D5 ys5 n5 m5 F5 hm5 hys5 N5 hb5
  have hok5 : okS (sz.dropWhile (· == 0)) := fun x hx => hok x (drop_sub sz x hx)
  have hl5 : (sz.dropWhile (· == 0)).length ≤ 9 := Nat.le_trans (drop_len sz) hsl
  have h05 := drop_head sz
  generalize sz.dropWhile (· == 0) = ss at hys5 hok5 hl5 h05
  have hB5 : ∀ x ∈ ss, 0 ≤ x ∧ x ≤ 127 := fun x hx => by have := hok5 x hx; omega
  have FA := facts hkin (List.length_pos_iff.mp hk1) hok5 h05
  refine law_6 X T _ F5 N5 d1' hr hk1 hkl hm5 hys5 hl5 h05 hB5 hdp hun1 ?_
  intro h6 tk6 D6 ys6 n6 F6 hys6 N6
  have fle := FA.le
  have fbnd := FA.bnd
  refine law_7 X T _ F6 N6 d1' hr hk1 hkl rfl hys6 (by omega) (fun x hx => by have := fbnd x hx; omega) hdp hun1 ?_
  intro h7 tk7 D7 ys7 n7 F7 hys7 N7
  have flen := FA.len
  have fplen := FA.plen
  have ftl := FA.tlen
  refine law_8 X T _ F7 N7 rfl hys7 (by omega) (fun x hx => by have := fplen x hx; omega) hdp hun1 ?_
  intro h8 tk8 D8 ys8 n8 F8 hys8 N8
  refine law_9 X T _ F8 N8 (.tail _ (.tail _ (.tail _ (.head _)))) hm5 hys5 hl5 hB5 hdp hun1 ?_
  intro h9 tk9 D9 ys9 n9 F9 hys9 N9
  refine law_10 X T _ F9 N9 (.tail _ (.head _)) rfl hys8 (by rw [List.length_map]; exact FA.pos) (by omega) hdp hun1 ?_
  intro h10 tk10 tx t10 F10 ht N10
  have hsp0 := map_first h05 (g := spanOf) (by decide) (span_n hok5)
  have hdb0 := map_first h05 (g := dblOf) (by decide) (dbl_n hok5)
  have hBs : ∀ x ∈ ss.map spanOf, 0 ≤ x ∧ x ≤ 200 := fun x hx => by
    obtain ⟨y, hy, rfl⟩ := List.mem_map.mp hx
    have := hok5 y hy
    unfold spanOf
    split <;> omega
  have hBd : ∀ x ∈ ss.map dblOf, 0 ≤ x ∧ x ≤ 200 := fun x hx => by
    obtain ⟨y, hy, rfl⟩ := List.mem_map.mp hx
    have := hok5 y hy
    unfold dblOf
    split <;> omega
  refine law_11 X T _ F10 N10 d1' hm5 rfl rfl rfl rfl hr ht hkl (by omega) hys5 hys9 hys7 hys8 h05 hsp0 hB5 hBs hdp hun1 FA.cut FA.cut2 ?_
  intro h11 tk11 gn11 F11 N11 hb11
  refine law_12 X T _ F11 N11 (.tail _ (.head _)) (.tail _ (.tail _ (.head _))) rfl rfl hys8 hys7 (by omega) (fun p hp => by have := fplen p hp; have := enc_le p; omega) FA.read hdp hun ?_
  intro h12 tk12 F12 N12
  refine law_13 X T _ F12 N12 d1' hr hkl rfl rfl hys6 hys7 flen (by omega) (fun p hp => by have := fplen p hp; omega) hdp hun ?_
  intro h13 tk13 t13 F13 N13
  have ff0 := FA.f0
  have ff1 := FA.f1
  refine law_14 X T _ F13 N13 d1' hr ht hkl (by omega) rfl rfl ff0 (by omega) hdp hun ?_
  intro h14 tk14 m14 rb tb F14 hw14 hb14 hk14 hrb N14
  have q1 := (hk14 (Str.ofString "first") (by decide) (by decide)).trans (by rfl)
  have q2 := (hk14 (Str.ofString "text") (by decide) (by decide)).trans (by rfl)
  have q3 := (hk14 (Str.ofString "spans") (by decide) (by decide)).trans (by rfl)
  have q4 := (hk14 (Str.ofString "writings") (by decide) (by decide)).trans (by rfl)
  have q5 : m14 (Str.ofString "sizes") = some (.ref D5) := (hk14 (Str.ofString "sizes") (by decide) (by decide)).trans hm5
  have q6 := (hk14 (Str.ofString "pieces") (by decide) (by decide)).trans (by rfl)
  refine law_16 X T _ F14 N14 d1' hr ht hrb hkl (by omega) (by rw [List.length_take]; omega) q1 q2 hb14 hw14 ff0 (by omega) FA.begun FA.yes FA.no hdp hun ?_
  intro h16 tk16 F16 N16
  refine law_17 X T _ F16 N16 d1' hr hkl (by have := enc_le ks; omega) q3 q4 hw14 hys9 hys8 hsp0 hBs FA.whole hdp hun ?_
  intro h17 tk17 gn17 F17 N17 hb17
  refine law_18 X T _ F17 N17 (.tail _ (.tail _ (.tail _ (.tail _ (.head _))))) q5 hys5 hl5 hB5 hdp hun1 ?_
  intro h18 tk18 D18 ys18 n18 F18 hys18 N18
  refine law_19 X T _ F18 N18 d1' hr hkl (by rw [b16_len]; omega) rfl q6 hys18 hys7 hdb0 hBd (by omega) (fun p hp => by have := fplen p hp; omega) FA.cut3 hdp hun ?_
  intro h19 tk19 gn19 F19 hb19
  exact hQ _ _ _ _ F19 fun z => hb19 (hb17 (hb11 (hb5 z)))

-- part top1
theorem law_call : ∀ (w : World) (a : Addr) (ns : List Int) (vs : List Value), IntsAre vs ns → ns.length ≤ 63 → ∀ (mean : ExcName → Option Value) (mg mb : Str → Option Value) (gd : Option (List Code)) (un : Nat) (s : Shared) (Q E : Value → Shared → Prop),
    (hd.heap_39 w.params).In s.heap → Top hd.view_39 lo mean mg mb s.heap → un + 80 < 8000 → s.heap.IsList a vs.toArray →
    (∀ h tk gn, (∀ b o, s.heap.get? b = some o → h.get? b = some o) → (AllBare s.gens → AllBare gn) → Q (.bool true) { s with heap := h, toks := tk, gens := gn }) →
    wpAny (model PySem.Challenge.rw_pa0027_01.row.prog w) (AA 301 (some []) gd un) (call (.ref 149) [.ref a] []) Q E s := by
  w_strict (
  k_fill
  intro w a ns vs hvs hl mean mg mb gd un s Q E X T hun hlist hQ
  walk_at "mine enterC"
  rename Fr _ _ _ _ => kF
  rename News _ _ _ _ => kN
  rename_i d1
  with_unfolding_all refine law_main X T _ kF kN d1 rfl hlist hvs hl (by decide) (by omega) ?_
  intro h tk gn m' F hb
  exact hQ h tk gn F.keep hb)

-- part top2
theorem t_top : PySem.Challenge.rw_pa0027_01.Holds := hd (by
  w_strict (
  k_fill
  intro w s₀ s₁ mg mb G Y fa o pm cd doc dV kV ho hd' hcd hD hmg hg args vals as hpre hlay hrd hwl hlo
  have KX := kIn_of Y
  refine Ground.open G ?_
  intro T B D TE TW
  have X := (Ground.X G).1
  have V := (Ground.X G).2
  obtain ⟨_, _, M⟩ := bmod_of_top T
  have TA := at_of_top T
  wrow_args hpre hlay hrd hwl hlo
  rename IntsAre _ _ => hI
  rename s₁.heap.IsList _ _ => hL
  rename ¬ _ < _ => hlen
  have e149 : fa = 149 := by
    have h1 : mg (Str.ofString "law") = some (.ref 149) := mg_of KX T.g (by k_is)
    have h2 : mg (Str.ofString "law") = some (.ref fa) := hmg
    rw [h1] at h2
    cases h2
    rfl
  subst e149
  refine law_call w _ _ _ hI (by omega) _ mg mb (some []) 4 s₁ _ _ KX T (by decide) hL ?_
  intro h tk gn hk hb
  refine ⟨.inl ⟨.bool true, .bool true, [], rfl, ?_, ?_, ?_, ?_⟩, .of_keep hk, rfl, hb (.of_eq hg)⟩
  (· exact raisesW_false (by wrow_none_raised))
  (· exact .bool true)
  (· first | rfl | (decide) | (simp; done) | (with_unfolding_all rfl))
  (· exact unshared_nil)))

end Mine
theorem PySem.Challenge.cw_pa0027_01_holds : PySem.Challenge.rw_pa0027_01.Holds := by
  exact Mine.t_top
