import PyProof.Rows.All
import Wide.All
import OpenK.AllK
import Wide.FinOn
import PySem.Challenge.RW_qh0085_01
set_option Elab.async false
set_option linter.unusedVariables false
set_option rowWalk.seconds 0

section
open PySem PySem.W PyProof.Rows
namespace Mine
set_option maxRecDepth 100000 in
set_option maxHeartbeats 8000000 in
open_top hd for PySem.Challenge.rw_qh0085_01
end Mine
end

section
open PySem PySem.Spec PySem.Calls PySem.W PyProof.Rows
namespace Mine

section
variable {prog : Program} {w : World} {A₀ A : Around} {s : Shared} {base h₀ : Heap} {L : Addr} {m : Str → Option Value} {env : Env} {news : List (Addr × Obj)} {K : Frag} {p : Program} {loose : List Str} {mean : ExcName → Option Value} {mg mb : Str → Option Value}
    {R : Result → Shared → Prop} {name qual : Str} {params : Arguments} {body : List Stmt} {scope : Scope} {dV kV doc pm cdv ct oc : Value} {an od : Option Addr} {osl : Array (Option Value)} {f : Addr} {args : Args} {binds : List (Str × Value)}

/-- a def that may catch, called by the law's own frame, which may hold cells -/
theorem enterLaw (B : Below A₀ base [] h₀) (F : Fr h₀ L s.heap m) (X₀ : K.In h₀) (N : News h₀ L s.heap news) (T : Top p loose mean mg mb h₀) (hA : A.frames = some [env]) (hf : env.frame = some L) (hke : env.scope.kind = .function)
    (ho : K.lookup f = some ⟨oc, od, .func (fnOf name qual params body scope dV kV doc pm an cdv ct), osl⟩) (hcd : codeIn K cdv qual = true) (hroom : A.depth < recursionLimit)
    (hbind : BindsTo s (fnOf name qual params body scope dV kV doc pm an cdv ct) args binds) (hloc : ∀ y ∈ binds, scope.names.lookup y.1 = some .local)
    (h : ∀ g L' h₁, Fr h₀ L g m → Fr g L' h₁ (fun y => binds.reverse.lookup y) → News g L' h₁ news → Below A base [env] g → K.In g → Top p loose mean mg mb g → KtsDicts ([env].filterMap (·.frame)) g →
      wpAny (model prog w) (A.deeper (envOf qual scope L' f cdv)) (execs body (envOf qual scope L' f cdv))
        (fun fl s' => LeaveS0 ([env].filterMap (·.frame)) h₀ L m g R (match fl with | .ret v => v | _ => .none) s')
        (fun e s' => wpAny (model prog w) (A.deeper (envOf qual scope L' f cdv)) (leaving (envOf qual scope L' f cdv) e) (fun _ s'' => R (.error e) s'') (fun e' s'' => R (.error e') s'') s')
        { s with heap := h₁, toks := s.toks + binds.length })
    (hco : scope.isCoroutine = false) (hgen : scope.isGenerator = false) (hk : scope.kind = .function)
    (hcell : ∀ x ∈ scope.names, x.2 ≠ .cell) : codeAny (model prog w) A (.call (.ref f) args) R s := by
  have X := X₀.keeps F.keep
  refine codeAny_call_def (fd := fnOf name qual params body scope dV kV doc pm an cdv ct) (body := body) (binds := binds) hroom (X _ _ ho) rfl (T.nolimit.keeps F.keep) (codeRec_of X hcd) rfl hbind hcell hloc (fun h₁ hns hk₁ => ?_) hco hgen hk
  obtain ⟨FG, BG, st, -⟩ := groundX (R := R) B F N hA hf hke
  obtain ⟨oL, es, ep, hLg, hLd, hLk, hLf⟩ := FG.ns
  have hfs : [env].filterMap (·.frame) = [L] := by simp [hf]
  have nL₀ : h₀.get? L = none := kts_self F
  refine wpAny_mono (h _ s.heap.objs.size h₁ FG ⟨hns, fun b o e => hk₁ b o (of_hideAll _ e), Nat.le_of_eq (hideAll_size _ _)⟩
    (fun p hp => ⟨hk₁ _ _ (N p hp).1, Nat.ne_of_lt (Heap.lt_size (N p hp).1), hideAll_none _ (List.mem_map_of_mem hp)⟩) BG (X₀.keeps st) (T.keeps st) (fun b hb => by
      rw [hfs] at hb
      obtain rfl := List.mem_singleton.mp hb
      exact ⟨oL, es, ep, hLg, hLd⟩)) (fun fl s' hl => ?_) fun _ _ y => y
  obtain ⟨g', L', m', news', T', F', N', k⟩ := hl
  obtain ⟨sl, hs⟩ := T'.up hLg
  refine k ⟨⟨_, es, ep, F'.keep _ _ hs, hLd, hLk, hLf⟩, fun b o e => F'.keep b o (T'.other b o (st b o e) (fun q => by
    rw [hfs] at q
    obtain rfl := List.mem_singleton.mp q
    rw [nL₀] at e
    cases e)), F.above⟩ fun p hp => ⟨(N' p hp).1, fun q => ?_, ?_⟩
  · have := (N' p hp).2.2; rw [q, hs] at this; cases this
  · cases q : h₀.get? p.1 with
    | none => rfl
    | some o =>
      obtain ⟨sl', hs'⟩ := T'.up (st _ _ q)
      have := (N' p hp).2.2
      rw [hs'] at this
      cases this
end

theorem raisedS_sub {base G : Heap} {l : List Env} {e t : Addr} {cls : Value} {vs : List Value} {news news' : List (Addr × Obj)} {h : Heap} (R : RaisedS base G l e cls t vs news h) (hs : ∀ p ∈ news', p ∈ news) : RaisedS base G l e cls t vs news' h := by
  obtain ⟨⟨B, hB, hG, hl, hfl, hnew⟩, htup⟩ := R
  exact ⟨⟨B, hB, hG, fun q hq => hl q (hs q hq), hfl, hnew⟩, htup⟩
theorem Fr.norm {h₀ h : Heap} {L : Addr} {m m' : Str → Option Value} (F : Fr h₀ L h m) (e : ∀ y, m' y = m y) : Fr h₀ L h m' := by
  have : m' = m := funext e
  rw [this]; exact F
theorem lookup2 (y a b : Str) (v w : Value) : (if y = a then some v else if y = b then some w else none) = List.lookup y [(a, v), (b, w)] := by
  simp only [List.lookup]
  by_cases h1 : y = a
  · subst h1; simp
  · have : (y == a) = false := by simpa using h1
    rw [if_neg h1, this]
    by_cases h2 : y = b
    · subst h2; simp
    · have h3 : (y == b) = false := by simpa using h2
      simp [h2, h3]
end Mine
end

section
open PySem PySem.W PyProof.Rows
namespace Mine

/-- the worth of a sign, as _b64_value tells it -/
noncomputable def b64v (c : Int) : Int :=
  if 65 ≤ c ∧ c ≤ 90 then c - 65 else if 97 ≤ c ∧ c ≤ 122 then c - 71 else if 48 ≤ c ∧ c ≤ 57 then c + 4 else if c = 43 then 62 else if c = 47 then 63 else 64
theorem b64v_lo (c : Int) : 0 ≤ b64v c := by unfold b64v; repeat' split <;> omega
theorem b64v_hi (c : Int) : b64v c ≤ 64 := by unfold b64v; repeat' split <;> omega

/-- the decoder's state: its place in four, the bits left over, the = signs met, the count, the octets -/
structure D4 where
  q : Int
  l : Int
  p : Int
  i : Int
  out : List Int

noncomputable def step (strict : Bool) (n : Int) (d : D4) : Option D4 :=
  if n = 61 then
    if 2 ≤ d.q ∧ d.q + (d.p + 1) ≤ 4 then some ⟨d.q, d.l, d.p + 1, d.i + 1, d.out⟩
    else if strict = false then some ⟨d.q, d.l, d.p + 1, d.i + 1, d.out⟩
    else none
  else if 64 ≤ b64v n then
    if strict = true then none else some ⟨d.q, d.l, d.p, d.i + 1, d.out⟩
  else if d.p ≠ 0 ∧ strict = true then none
  else if d.q = 0 then some ⟨1, b64v n, 0, d.i + 1, d.out⟩
  else if d.q = 1 then some ⟨2, b64v n % 16, 0, d.i + 1, d.out ++ [d.l * 4 + b64v n / 16]⟩
  else if d.q = 2 then some ⟨3, b64v n % 4, 0, d.i + 1, d.out ++ [d.l * 16 + b64v n / 4]⟩
  else some ⟨0, 0, 0, d.i + 1, d.out ++ [d.l * 64 + b64v n]⟩

noncomputable def runS (strict : Bool) (cs : List Int) : Option D4 := cs.foldl (fun o n => o.bind (step strict n)) (some ⟨0, 0, 0, 0, []⟩)
noncomputable def fin4 (d : D4) : Option (List Int) := if d.q = 1 then none else if d.q ≠ 0 ∧ d.q + d.p < 4 then none else some d.out
noncomputable def a2bP (strict : Bool) (cs : List Int) : Option (List Int) := (runS strict cs).bind fin4

theorem run_nil (strict : Bool) : runS strict [] = some ⟨0, 0, 0, 0, []⟩ := rfl
theorem run_snoc (strict : Bool) (pre : List Int) (n : Int) : runS strict (pre ++ [n]) = (runS strict pre).bind (step strict n) := by
  simp [runS, List.foldl_append]
theorem run_none (strict : Bool) (cs : List Int) : cs.foldl (fun o n => o.bind (step strict n)) none = none := by
  induction cs with
  | nil => rfl
  | cons c r ih => simpa using ih
theorem a2b_stop {strict : Bool} {pre post ks : List Int} {n : Int} {d : D4} (hk : ks = pre ++ n :: post) (h : runS strict pre = some d) (hs : step strict n d = none) : a2bP strict ks = none := by
  subst hk
  have : runS strict (pre ++ n :: post) = none := by
    unfold runS at h ⊢
    rw [List.foldl_append, h, List.foldl_cons]
    show List.foldl _ (step strict n d) post = none
    rw [hs]
    exact run_none strict post
  simp [a2bP, this]

structure D4.Ok (d : D4) (len : Nat) : Prop where
  q0 : 0 ≤ d.q
  q3 : d.q ≤ 3
  l0 : 0 ≤ d.l
  l1 : d.q = 0 → d.l = 0
  l2 : d.l < 64
  l3 : d.q = 2 → d.l < 16
  l4 : d.q = 3 → d.l < 4
  p0 : 0 ≤ d.p
  p1 : d.p ≤ len
  n : d.out.length ≤ len
  by_ : ∀ x ∈ d.out, 0 ≤ x ∧ x < 256

theorem step_ok {strict : Bool} {n : Int} {d d' : D4} {len : Nat} (h : d.Ok len) (e : step strict n d = some d') : d'.Ok (len + 1) := by
  obtain ⟨q0, q3, l0, l1, l2, l3, l4, p0, p1, hn, hb⟩ := h
  have v0 := b64v_lo n
  unfold step at e
  have hap : ∀ z : Int, 0 ≤ z → z < 256 → ∀ x ∈ d.out ++ [z], 0 ≤ x ∧ x < 256 := by
    intro z z0 z1 x hx
    rcases List.mem_append.mp hx with hx | hx
    · exact hb x hx
    · rw [List.mem_singleton.mp hx]; exact ⟨z0, z1⟩
  split at e
  · split at e
    · cases e; exact ⟨q0, q3, l0, l1, l2, l3, l4, by simp only; omega, by simp only; omega, by simp only; omega, hb⟩
    · split at e
      · cases e; exact ⟨q0, q3, l0, l1, l2, l3, l4, by simp only; omega, by simp only; omega, by simp only; omega, hb⟩
      · cases e
  · split at e
    · split at e
      · cases e
      · cases e; exact ⟨q0, q3, l0, l1, l2, l3, l4, p0, by simp only; omega, by simp only; omega, hb⟩
    · split at e
      · cases e
      · split at e
        · cases e
          exact ⟨by simp, by simp, v0, by simp, by simp only; omega, by simp, by simp, by simp, by simp only; omega, by simp only; omega, hb⟩
        · split at e
          · cases e
            exact ⟨by simp, by simp, by simp only; omega, by simp, by simp only; omega, by simp only; omega, by simp, by simp, by simp only; omega, by simp only [List.length_append, List.length_singleton]; omega, hap _ (by omega) (by omega)⟩
          · split at e
            · rename_i hq
              have := l3 hq
              cases e
              exact ⟨by simp, by simp, by simp only; omega, by simp, by simp only; omega, by simp, by simp only; omega, by simp, by simp only; omega, by simp only [List.length_append, List.length_singleton]; omega, hap _ (by omega) (by omega)⟩
            · have := l4 (by omega)
              cases e
              exact ⟨by simp, by simp, by simp, by simp, by simp, by simp, by simp, by simp, by simp only; omega, by simp only [List.length_append, List.length_singleton]; omega, hap _ (by omega) (by omega)⟩
theorem run_ok {strict : Bool} (cs : List Int) : ∀ d, runS strict cs = some d → d.Ok cs.length := by
  have key : ∀ (k : Nat) (cs : List Int), cs.length = k → ∀ d, runS strict cs = some d → d.Ok cs.length := by
    intro k
    induction k with
    | zero =>
      intro cs h d e
      cases List.eq_nil_of_length_eq_zero h
      rw [run_nil] at e
      cases e
      exact ⟨by simp, by simp, by simp, by simp, by simp, by simp, by simp, by simp, by simp, by simp, by simp⟩
    | succ k ih =>
      intro cs h d e
      have hne : cs ≠ [] := by intro h'; rw [h'] at h; simp at h
      rw [← List.dropLast_concat_getLast hne] at e ⊢
      rw [run_snoc] at e
      have hl : cs.dropLast.length = k := by simp [h]
      cases hr : runS strict cs.dropLast with
      | none => rw [hr] at e; simp at e
      | some d0 =>
        rw [hr] at e
        have := step_ok (ih _ hl d0 hr) e
        simpa using this
  exact fun d e => key _ cs rfl d e

theorem bitOr_shift {x y : Int} {k : Nat} (hx : 0 ≤ x) (hy : 0 ≤ y) (hlt : y < 2 ^ k) : Builtin.bitOr (x * 2 ^ k) y = x * 2 ^ k + y := by
  rw [bitOr_and]
  have h0 : 0 ≤ x * 2 ^ k := Int.mul_nonneg hx (by exact Int.le_of_lt (Int.pow_pos (by decide)))
  have : Builtin.bitAnd (x * 2 ^ k) y = 0 := by
    unfold Builtin.bitAnd
    rw [decide_eq_true h0, decide_eq_true hy]
    simp only
    obtain ⟨a, rfl⟩ := Int.eq_ofNat_of_zero_le hx
    obtain ⟨b, rfl⟩ := Int.eq_ofNat_of_zero_le hy
    have e1 : ((a : Int) * 2 ^ k).toNat = a * 2 ^ k := by
      have : ((a : Int) * 2 ^ k) = ((a * 2 ^ k : Nat) : Int) := by simp
      rw [this]; exact Int.toNat_natCast _
    rw [e1, Int.toNat_natCast]
    have hb : b < 2 ^ k := by
      have : ((b : Int)) < ((2 ^ k : Nat) : Int) := by simpa using hlt
      exact Int.ofNat_lt.mp this
    have : a * 2 ^ k &&& b = 0 := by
      apply Nat.eq_of_testBit_eq
      intro j
      rw [Nat.testBit_and, Nat.zero_testBit]
      by_cases hj : j < k
      · rw [Nat.testBit_mul_two_pow]; simp [Nat.not_le.mpr hj]
      · have : b.testBit j = false := Nat.testBit_lt_two_pow (Nat.lt_of_lt_of_le hb (Nat.pow_le_pow_right (by decide) (Nat.le_of_not_lt hj)))
        simp [this]
    rw [this]; rfl
  rw [this]; omega

section
variable {strict : Bool} {n q l p i : Int} {out : List Int}
theorem s61a (h : n = 61) (h1 : 2 ≤ q) (h2 : q + (p + 1) ≤ 4) : step strict n ⟨q, l, p, i, out⟩ = some ⟨q, l, p + 1, i + 1, out⟩ := by
  unfold step; rw [if_pos h, if_pos ⟨h1, h2⟩]
theorem s61b (h : n = 61) : step false n ⟨q, l, p, i, out⟩ = some ⟨q, l, p + 1, i + 1, out⟩ := by
  unfold step; rw [if_pos h]; split <;> rfl
theorem s61c (h : n = 61) (h2 : ¬ (2 ≤ q ∧ q + (p + 1) ≤ 4)) : step true n ⟨q, l, p, i, out⟩ = none := by
  unfold step; rw [if_pos h, if_neg h2]; rfl
theorem s64f (h : n ≠ 61) (h2 : 64 ≤ b64v n) : step false n ⟨q, l, p, i, out⟩ = some ⟨q, l, p, i + 1, out⟩ := by
  unfold step; rw [if_neg h, if_pos h2]; rfl
theorem s64t (h : n ≠ 61) (h2 : 64 ≤ b64v n) : step true n ⟨q, l, p, i, out⟩ = none := by
  unfold step; rw [if_neg h, if_pos h2]; rfl
theorem spt (h : n ≠ 61) (h2 : ¬ 64 ≤ b64v n) (h3 : p ≠ 0) : step true n ⟨q, l, p, i, out⟩ = none := by
  unfold step; rw [if_neg h, if_neg h2, if_pos ⟨h3, rfl⟩]
theorem sq0 (h : n ≠ 61) (h2 : ¬ 64 ≤ b64v n) (h3 : strict = false ∨ p = 0) (h4 : q = 0) : step strict n ⟨q, l, p, i, out⟩ = some ⟨1, b64v n, 0, i + 1, out⟩ := by
  unfold step; rw [if_neg h, if_neg h2, if_neg (by rcases h3 with h3 | h3 <;> simp [h3]), if_pos h4]
theorem sq1 (h : n ≠ 61) (h2 : ¬ 64 ≤ b64v n) (h3 : strict = false ∨ p = 0) (h4 : q = 1) (h5 : 0 ≤ l) :
    step strict n ⟨q, l, p, i, out⟩ = some ⟨2, Builtin.bitAnd (b64v n) 15, 0, i + 1, out ++ [Builtin.bitOr (l * 2 ^ Int.toNat 2) ((b64v n).fdiv (2 ^ Int.toNat 4))]⟩ := by
  have v0 := b64v_lo n
  have e1 : (b64v n).fdiv (2 ^ Int.toNat 4) = b64v n / 16 := by rw [Int.fdiv_eq_ediv_of_nonneg _ (by decide)]; rfl
  have e2 : Builtin.bitOr (l * 2 ^ Int.toNat 2) (b64v n / 16) = l * 4 + b64v n / 16 := by
    have := bitOr_shift (x := l) (y := b64v n / 16) (k := 2) h5 (by omega) (by simp only [Int.reducePow]; omega)
    simpa using this
  unfold step
  rw [if_neg h, if_neg h2, if_neg (by rcases h3 with h3 | h3 <;> simp [h3]), if_neg (by simp only; omega), if_pos h4, e1, e2, bitAnd_m4]
theorem sq2 (h : n ≠ 61) (h2 : ¬ 64 ≤ b64v n) (h3 : strict = false ∨ p = 0) (h4 : q = 2) (h5 : 0 ≤ l) :
    step strict n ⟨q, l, p, i, out⟩ = some ⟨3, Builtin.bitAnd (b64v n) 3, 0, i + 1, out ++ [Builtin.bitOr (l * 2 ^ Int.toNat 4) ((b64v n).fdiv (2 ^ Int.toNat 2))]⟩ := by
  have v0 := b64v_lo n
  have e1 : (b64v n).fdiv (2 ^ Int.toNat 2) = b64v n / 4 := by rw [Int.fdiv_eq_ediv_of_nonneg _ (by decide)]; rfl
  have e2 : Builtin.bitOr (l * 2 ^ Int.toNat 4) (b64v n / 4) = l * 16 + b64v n / 4 := by
    have := bitOr_shift (x := l) (y := b64v n / 4) (k := 4) h5 (by omega) (by simp only [Int.reducePow]; omega)
    simpa using this
  unfold step
  rw [if_neg h, if_neg h2, if_neg (by rcases h3 with h3 | h3 <;> simp [h3]), if_neg (by simp only; omega), if_neg (by simp only; omega), if_pos h4, e1, e2, bitAnd_m2]
theorem sq3 (h : n ≠ 61) (h2 : ¬ 64 ≤ b64v n) (h3 : strict = false ∨ p = 0) (h4 : q ≠ 0) (h4' : q ≠ 1) (h4'' : q ≠ 2) (h5 : 0 ≤ l) :
    step strict n ⟨q, l, p, i, out⟩ = some ⟨0, 0, 0, i + 1, out ++ [Builtin.bitOr (l * 2 ^ Int.toNat 6) (b64v n)]⟩ := by
  have v0 := b64v_lo n
  have e2 : Builtin.bitOr (l * 2 ^ Int.toNat 6) (b64v n) = l * 64 + b64v n := by
    have := bitOr_shift (x := l) (y := b64v n) (k := 6) h5 (by omega) (by simp only [Int.reducePow]; omega)
    simpa using this
  unfold step
  rw [if_neg h, if_neg h2, if_neg (by rcases h3 with h3 | h3 <;> simp [h3]), if_neg h4, if_neg h4', if_neg h4'', e2]
end

section
variable {strict : Bool} {q l p i : Int} {out ks : List Int}
theorem fin_ok0 (h : runS strict ks = some ⟨q, l, p, i, out⟩) (h1 : q ≠ 1) (h2 : q = 0) : a2bP strict ks = some out := by
  simp only [a2bP, h, Option.bind_some, fin4]; rw [if_neg h1, if_neg (by simp [h2])]
theorem fin_ok1 (h : runS strict ks = some ⟨q, l, p, i, out⟩) (h1 : q ≠ 1) (h2 : ¬ q + p < 4) : a2bP strict ks = some out := by
  simp only [a2bP, h, Option.bind_some, fin4]; rw [if_neg h1, if_neg (by simp [h2])]
theorem fin_bad1 (h : runS strict ks = some ⟨q, l, p, i, out⟩) (h1 : q = 1) : a2bP strict ks = none := by
  simp only [a2bP, h, Option.bind_some, fin4]; rw [if_pos h1]
theorem fin_bad2 (h : runS strict ks = some ⟨q, l, p, i, out⟩) (h1 : q ≠ 0) (h2 : q + p < 4) : a2bP strict ks = none := by
  simp only [a2bP, h, Option.bind_some, fin4]; split
  · rfl
  · rw [if_pos ⟨h1, h2⟩]
end
end Mine
end

section
open PySem PySem.W PyProof.Rows
namespace Mine
noncomputable abbrev loose0 : List Str := looseW hd.view_39 [Str.ofString "bytes_types", Str.ofString "a2b_base64", Str.ofString "b64decode"]



structure S5 where
  q : Int
  tq : Tok
  l : Int
  tl : Tok
  p : Int
  tp : Tok
  i : Int
  ti : Tok
  us : List Value
  out : List Int
  n : Nat

theorem a2b_end {strict : Bool} {h₀ h' : Heap} {L lo : Addr} {m₀ m' : Str → Option Value} {news own : List (Addr × Obj)} {adr : List Addr} {s₁ : Shared} {tk : Nat} {pre : List Int} {n q l p i : Int} {tq tl tp ti : Tok} {us : List Value} {out : List Int} {nn : Nat} {x : Str}
    (F : Fr h₀ L h' m') (N : News h₀ L h' ((lo, W.listOf us.toArray nn) :: (news ++ own))) (hf : IntsAre us out)
    (h1 : m' (Str.ofString "quad_pos") = some (.int q tq)) (h2 : m' (Str.ofString "leftchar") = some (.int l tl)) (h3 : m' (Str.ofString "pads") = some (.int p tp)) (h4 : m' (Str.ofString "i") = some (.int i ti))
    (hr : ∀ z, z ≠ x → z ≠ Str.ofString "quad_pos" → z ≠ Str.ofString "leftchar" → z ≠ Str.ofString "pads" → z ≠ Str.ofString "i" → m' z = m₀ z)
    (hp : runS strict (pre ++ [n]) = some ⟨q, l, p, i, out⟩) (ha : lo :: news.map (·.1) = adr) :
    InvEndN h₀ L (KstS (σ := S5) (fun c => (lo, W.listOf c.us.toArray c.n) :: news) (fun c => [(Str.ofString "quad_pos", .int c.q c.tq), (Str.ofString "leftchar", .int c.l c.tl), (Str.ofString "pads", .int c.p c.tp), (Str.ofString "i", .int c.i c.ti)]) (fun c => IntsAre c.us c.out) x [] m₀ (fun pre c => runS strict pre = some ⟨c.q, c.l, c.p, c.i, c.out⟩) (pre ++ [n])) own adr s₁ { s₁ with heap := h', toks := tk } := by
  refine kst_end (S5.mk q tq l tl p tp i ti us out nn) F N ?_ ?_ ha hf ?_ ?_ hp
  · exact List.forall_mem_cons.mpr ⟨.head _, fun p hp => .tail _ (List.mem_append_left _ hp)⟩
  · exact fun p hp => .tail _ (List.mem_append_right _ hp)
  · exact List.forall_mem_cons.mpr ⟨h1, List.forall_mem_cons.mpr ⟨h2, List.forall_mem_cons.mpr ⟨h3, List.forall_mem_cons.mpr ⟨h4, fun _ h => nomatch h⟩⟩⟩⟩
  · exact fun z hx hz _ => hr z hx (hz _ (.head _)) (hz _ (.tail _ (.head _))) (hz _ (.tail _ (.tail _ (.head _)))) (hz _ (.tail _ (.tail _ (.tail _ (.head _)))))


abbrev A2bOk (strict : Bool) (b : Array UInt8) (h₀ : Heap) (L : Addr) (m : Str → Option Value) (news : List (Addr × Obj)) (s : Shared) (Q : Value → Shared → Prop) : Prop :=
  ∀ out t h' tk', a2bP strict (KBw.bInts b) = some out → Fr h₀ L h' m → News h₀ L h' news → Q (.bytes (byteArr out) t) { s with heap := h', toks := tk' }
abbrev A2bBad (strict : Bool) (b : Array UInt8) (h₀ base : Heap) (L : Addr) (m : Str → Option Value) (news : List (Addr × Obj)) (s : Shared) (l : List Env) (E : Value → Shared → Prop) : Prop :=
  ∀ G e t vs h' tk', a2bP strict (KBw.bInts b) = none → Fr h₀ L G m → RaisedS base G l e (.ref 39) t vs news h' → G.UpToSlots h' → E (.ref e) { s with heap := h', toks := tk' }

local macro_rules | `(tactic| walk_at "none of mine") => `(tactic| fail "none")
set_option maxRecDepth 100000 in
set_option maxHeartbeats 8000000 in
theorem a2b_f (w : World) (mean : ExcName → Option Value) (mg mb : Str → Option Value) (b : Array UInt8) (tb : Tok) (hb : b.size ≤ 1000) 
    {e1 e2 : Env} {cn : Str} {cs : Scope} {L a : Addr} {ccd : Value} {base h₀ : Heap} {m : Str → Option Value} {news : List (Addr × Obj)} {s : Shared} {Q E : Value → Shared → Prop}
    (B : Below ((callerA.deeper e1).deeper e2) base [e2, e1] h₀) (F : Fr h₀ L s.heap m) (X : (hd.heap_39 w.params).In h₀) (N : News h₀ L s.heap news) (T : Top hd.view_39 loose0 mean mg mb h₀)
    {fs : List Addr} {g₁ : Heap} (D : KtsDicts fs g₁) (hck : cs.kind = .function)
    (ok : A2bOk false b h₀ L m news s Q) (bad : A2bBad false b h₀ base L m news s (envOf cn cs L a ccd :: [e2, e1]) E) :
    wpAny (model Challenge.rw_qh0085_01.row.prog w) (((callerA.deeper e1).deeper e2).deeper (envOf cn cs L a ccd)) (call (.ref 71) [.bytes b tb] [(Str.ofString "strict_mode", .bool false)]) Q E s := by
  w_top off
  k_with_none
  k_with "InvEndN" => (
      (rename News _ _ _ _ => nE)
      (rename Fr _ _ _ _ => fE)
      (rename IntsAre _ _ => iE)
      (rename runS _ _ = some _ => rE)
      (rename 0 ≤ D4.l _ => lE)
      (try simp only [List.push_toArray] at nE)
      (refine' a2b_end fE nE (by first | exact iE | exact IntsAre.append iE (IntsAre.cons _ _ IntsAre.nil)) (by with_unfolding_all rfl) (by with_unfolding_all rfl) (by with_unfolding_all rfl) (by with_unfolding_all rfl) ?hr ?hp rfl)
      (case hr => intro z zx z1 z2 z3 z4; simp only [if_neg zx, if_neg z1, if_neg z2, if_neg z3, if_neg z4]; (try rfl))
      (case hp =>
        (rw [run_snoc, rE])
        (dsimp only [Option.bind])
        (first
          | exact s61a (by assumption) (by assumption) (by omega)
          | exact s61b (by assumption)
          | exact s64f (by assumption) (by assumption)
          | exact sq0 (by assumption) (by assumption) (by first | exact .inl rfl | exact .inr (by assumption)) (by assumption)
          | exact sq1 (by assumption) (by assumption) (by first | exact .inl rfl | exact .inr (by assumption)) (by assumption) lE
          | exact sq2 (by assumption) (by assumption) (by first | exact .inl rfl | exact .inr (by assumption)) (by assumption) lE
          | exact sq3 (by assumption) (by assumption) (by first | exact .inl rfl | exact .inr (by assumption)) (by assumption) (by assumption) (by assumption) lE)))
  k_with "call type:type" => ((with_reducible show wpAny _ _ (call _ [Value.bytes _ _]) _ _ _); refine call_type_of (Tx := "bytes") rfl (by decide +kernel) ?_)
  revert X; k_fill; intro X
  refine wpAny_call ?_
  (refine' code_def ?k1 ?k2 ?k3 ?k4 ?k5 ?kA ?kF ?kK ?k6 ?k7 ?k8 ?k9 ?kB ?_ ?c2 ?c3 ?c4 ?c5; (case kA => exact rfl); (case kF => exact rfl); (case kK => first | exact rfl | assumption); (case k1 => k_asm); (case k2 => k_asm); (case k3 => k_asm); (case k4 => k_asm); (case k5 => k_asm); (case k6 => k_is); (case k7 => k_is); (case k8 => k_room); (case k9 => first | exact BindsTo.of_eq rfl | exact binds_K (by k_in) rfl (by k_is) rfl rfl rfl | fail "k_enter: no rule for these arguments"); (case c5 => decide); (case kB => exact locs rfl); (case c2 => exact rfl); (case c3 => exact rfl); (case c4 => exact rfl); k_whole; intro g' L' h' FG' F' N' B' X' T'; (try dsimp only); (try k_lift B'); (try k_fold))
  rename Fr _ _ _ _ => F'
  have F2 := Fr.norm F' (fun y => lookup2 y _ _ _ _)
  clear F'
  clear B F N
  k_steps
  rename_i h'
  rename Fr _ _ _ _ => F5
  rename News _ _ _ _ => N5
  have hMk := kstMark
  refine KStb.kst_bytes (σ := S5) (fun c => (_, W.listOf c.us.toArray c.n) :: news) (fun c => [(Str.ofString "quad_pos", .int c.q c.tq), (Str.ofString "leftchar", .int c.l c.tl), (Str.ofString "pads", .int c.p c.tp), (Str.ofString "i", .int c.i c.ti)]) (fun c => IntsAre c.us c.out) [] (fun pre c => runS false pre = some ⟨c.q, c.l, c.p, c.i, c.out⟩) ⟨0, ?tq, 0, ?tl, 0, ?tp, 0, ?ti, [], [], 0⟩ rfl rfl rfl F5 N5 IntsAre.nil ?f2 rfl ?turn ?done
  case f2 => exact List.forall_mem_cons.mpr ⟨by with_unfolding_all rfl, List.forall_mem_cons.mpr ⟨by with_unfolding_all rfl, List.forall_mem_cons.mpr ⟨by with_unfolding_all rfl, List.forall_mem_cons.mpr ⟨by with_unfolding_all rfl, fun _ h => nomatch h⟩⟩⟩⟩
  case done =>
    clear F5 N5
    intro c u h tk kLen kFacts kInv kFr kNews
    obtain ⟨q, tq, l, tl, p, tp, i, ti, us, out, nn⟩ := c
    dsimp only [kstB] at kFr
    dsimp only at kFacts kInv kNews ⊢
    obtain ⟨q0, q3, l0, l1, l2, l3, l4, p0, p1, hn, hby⟩ := run_ok _ _ kInv
    have hlo : out.length ≤ 1000 := by
      dsimp only at hn
      rw [KBw.ints_length] at hn
      omega
    have hus := kFacts.length
    dsimp only at q0 q3 l2 p0 p1 hn
    k_steps
    all_goals first
      | exact ok _ _ _ _ (by first | exact fin_ok0 kInv (by assumption) (by assumption) | exact fin_ok1 kInv (by assumption) (by assumption)) (by assumption) (cb_drop (by assumption) (fun p hp => .tail _ hp))
      | exact bad _ _ _ _ _ _ (by first | exact fin_bad1 kInv (by assumption) | exact fin_bad2 kInv (by assumption) (by assumption)) (by assumption) (raisedS_sub (by assumption) (fun p hp => .tail _ hp)) (by assumption)
  case turn =>
    clear F5 N5
    intro c pre post n t u h tk own kEq kLen kLo kHi kOff kFacts kInv kFr kNews
    obtain ⟨q, tq, l, tl, p, tp, i, ti, us, out, nn⟩ := c
    dsimp only [kstB] at kFr
    dsimp only at kFacts kInv kNews ⊢
    simp only [List.cons_append] at kNews
    obtain ⟨q0, q3, l0, l1, l2, l3, l4, p0, p1, hn, hby⟩ := run_ok _ _ kInv
    have v0 := b64v_lo n
    have v1 := b64v_hi n
    have hlo : out.length ≤ 1000 := by
      dsimp only at hn
      rw [KBw.ints_length] at kLen
      omega
    have hus := kFacts.length
    dsimp only at q0 q3 l2 p0 p1 hn
    have l00 := l0
    dsimp only at l00
    clear hby l1 l3 l4
    k_with "call ref" => k_call_by "_b64_value" b64v
    k_with "tree" => simp only [b64v]
    k_steps
    all_goals exact bad _ _ _ _ _ _ (a2b_stop kEq kInv (by first | exact s61c (by assumption) (by omega) | exact s64t (by assumption) (by assumption) | exact spt (by assumption) (by assumption) (by assumption))) (by assumption) (raisedS_sub (by assumption) (fun p hp => .tail _ (List.mem_append_left _ hp))) (by assumption)
set_option maxRecDepth 100000 in
set_option maxHeartbeats 8000000 in
theorem a2b_t (w : World) (mean : ExcName → Option Value) (mg mb : Str → Option Value) (b : Array UInt8) (tb : Tok) (hb : b.size ≤ 1000) 
    {e1 e2 : Env} {cn : Str} {cs : Scope} {L a : Addr} {ccd : Value} {base h₀ : Heap} {m : Str → Option Value} {news : List (Addr × Obj)} {s : Shared} {Q E : Value → Shared → Prop}
    (B : Below ((callerA.deeper e1).deeper e2) base [e2, e1] h₀) (F : Fr h₀ L s.heap m) (X : (hd.heap_39 w.params).In h₀) (N : News h₀ L s.heap news) (T : Top hd.view_39 loose0 mean mg mb h₀)
    {fs : List Addr} {g₁ : Heap} (D : KtsDicts fs g₁) (hck : cs.kind = .function)
    (ok : A2bOk true b h₀ L m news s Q) (bad : A2bBad true b h₀ base L m news s (envOf cn cs L a ccd :: [e2, e1]) E) :
    wpAny (model Challenge.rw_qh0085_01.row.prog w) (((callerA.deeper e1).deeper e2).deeper (envOf cn cs L a ccd)) (call (.ref 71) [.bytes b tb] [(Str.ofString "strict_mode", .bool true)]) Q E s := by
  w_top off
  k_with_none
  k_with "InvEndN" => (
      (rename News _ _ _ _ => nE)
      (rename Fr _ _ _ _ => fE)
      (rename IntsAre _ _ => iE)
      (rename runS _ _ = some _ => rE)
      (rename 0 ≤ D4.l _ => lE)
      (try simp only [List.push_toArray] at nE)
      (refine' a2b_end fE nE (by first | exact iE | exact IntsAre.append iE (IntsAre.cons _ _ IntsAre.nil)) (by with_unfolding_all rfl) (by with_unfolding_all rfl) (by with_unfolding_all rfl) (by with_unfolding_all rfl) ?hr ?hp rfl)
      (case hr => intro z zx z1 z2 z3 z4; simp only [if_neg zx, if_neg z1, if_neg z2, if_neg z3, if_neg z4]; (try rfl))
      (case hp =>
        (rw [run_snoc, rE])
        (dsimp only [Option.bind])
        (first
          | exact s61a (by assumption) (by assumption) (by omega)
          | exact s61b (by assumption)
          | exact s64f (by assumption) (by assumption)
          | exact sq0 (by assumption) (by assumption) (by first | exact .inl rfl | exact .inr (by assumption)) (by assumption)
          | exact sq1 (by assumption) (by assumption) (by first | exact .inl rfl | exact .inr (by assumption)) (by assumption) lE
          | exact sq2 (by assumption) (by assumption) (by first | exact .inl rfl | exact .inr (by assumption)) (by assumption) lE
          | exact sq3 (by assumption) (by assumption) (by first | exact .inl rfl | exact .inr (by assumption)) (by assumption) (by assumption) (by assumption) lE)))
  k_with "call type:type" => ((with_reducible show wpAny _ _ (call _ [Value.bytes _ _]) _ _ _); refine call_type_of (Tx := "bytes") rfl (by decide +kernel) ?_)
  revert X; k_fill; intro X
  refine wpAny_call ?_
  (refine' code_def ?k1 ?k2 ?k3 ?k4 ?k5 ?kA ?kF ?kK ?k6 ?k7 ?k8 ?k9 ?kB ?_ ?c2 ?c3 ?c4 ?c5; (case kA => exact rfl); (case kF => exact rfl); (case kK => first | exact rfl | assumption); (case k1 => k_asm); (case k2 => k_asm); (case k3 => k_asm); (case k4 => k_asm); (case k5 => k_asm); (case k6 => k_is); (case k7 => k_is); (case k8 => k_room); (case k9 => first | exact BindsTo.of_eq rfl | exact binds_K (by k_in) rfl (by k_is) rfl rfl rfl | fail "k_enter: no rule for these arguments"); (case c5 => decide); (case kB => exact locs rfl); (case c2 => exact rfl); (case c3 => exact rfl); (case c4 => exact rfl); k_whole; intro g' L' h' FG' F' N' B' X' T'; (try dsimp only); (try k_lift B'); (try k_fold))
  rename Fr _ _ _ _ => F'
  have F2 := Fr.norm F' (fun y => lookup2 y _ _ _ _)
  clear F'
  clear B F N
  k_steps
  rename_i h'
  rename Fr _ _ _ _ => F5
  rename News _ _ _ _ => N5
  have hMk := kstMark
  refine KStb.kst_bytes (σ := S5) (fun c => (_, W.listOf c.us.toArray c.n) :: news) (fun c => [(Str.ofString "quad_pos", .int c.q c.tq), (Str.ofString "leftchar", .int c.l c.tl), (Str.ofString "pads", .int c.p c.tp), (Str.ofString "i", .int c.i c.ti)]) (fun c => IntsAre c.us c.out) [] (fun pre c => runS true pre = some ⟨c.q, c.l, c.p, c.i, c.out⟩) ⟨0, ?tq, 0, ?tl, 0, ?tp, 0, ?ti, [], [], 0⟩ rfl rfl rfl F5 N5 IntsAre.nil ?f2 rfl ?turn ?done
  case f2 => exact List.forall_mem_cons.mpr ⟨by with_unfolding_all rfl, List.forall_mem_cons.mpr ⟨by with_unfolding_all rfl, List.forall_mem_cons.mpr ⟨by with_unfolding_all rfl, List.forall_mem_cons.mpr ⟨by with_unfolding_all rfl, fun _ h => nomatch h⟩⟩⟩⟩
  case done =>
    clear F5 N5
    intro c u h tk kLen kFacts kInv kFr kNews
    obtain ⟨q, tq, l, tl, p, tp, i, ti, us, out, nn⟩ := c
    dsimp only [kstB] at kFr
    dsimp only at kFacts kInv kNews ⊢
    obtain ⟨q0, q3, l0, l1, l2, l3, l4, p0, p1, hn, hby⟩ := run_ok _ _ kInv
    have hlo : out.length ≤ 1000 := by
      dsimp only at hn
      rw [KBw.ints_length] at hn
      omega
    have hus := kFacts.length
    dsimp only at q0 q3 l2 p0 p1 hn
    k_steps
    all_goals first
      | exact ok _ _ _ _ (by first | exact fin_ok0 kInv (by assumption) (by assumption) | exact fin_ok1 kInv (by assumption) (by assumption)) (by assumption) (cb_drop (by assumption) (fun p hp => .tail _ hp))
      | exact bad _ _ _ _ _ _ (by first | exact fin_bad1 kInv (by assumption) | exact fin_bad2 kInv (by assumption) (by assumption)) (by assumption) (raisedS_sub (by assumption) (fun p hp => .tail _ hp)) (by assumption)
  case turn =>
    clear F5 N5
    intro c pre post n t u h tk own kEq kLen kLo kHi kOff kFacts kInv kFr kNews
    obtain ⟨q, tq, l, tl, p, tp, i, ti, us, out, nn⟩ := c
    dsimp only [kstB] at kFr
    dsimp only at kFacts kInv kNews ⊢
    simp only [List.cons_append] at kNews
    obtain ⟨q0, q3, l0, l1, l2, l3, l4, p0, p1, hn, hby⟩ := run_ok _ _ kInv
    have v0 := b64v_lo n
    have v1 := b64v_hi n
    have hlo : out.length ≤ 1000 := by
      dsimp only at hn
      rw [KBw.ints_length] at kLen
      omega
    have hus := kFacts.length
    dsimp only at q0 q3 l2 p0 p1 hn
    have l00 := l0
    dsimp only at l00
    clear hby l1 l3 l4
    k_with "call ref" => k_call_by "_b64_value" b64v
    k_with "tree" => simp only [b64v]
    k_steps
    all_goals exact bad _ _ _ _ _ _ (a2b_stop kEq kInv (by first | exact s61c (by assumption) (by omega) | exact s64t (by assumption) (by assumption) | exact spt (by assumption) (by assumption) (by assumption))) (by assumption) (raisedS_sub (by assumption) (fun p hp => .tail _ (List.mem_append_left _ hp))) (by assumption)
end Mine
end

section
open PySem PySem.Spec PySem.Calls PySem.W PyProof.Rows
namespace Mine
open Builtin
set_option maxRecDepth 100000

theorem slot_translate : Slot "bytes" "translate" "bytes.translate" :=
  .of (owner := "bytes") (n := "translate") (by rw [typeLookup_type, builtinLookup_eq_fast]; kernel_rfl) (by decide +kernel) (by decide +kernel) (by decide +kernel)
    (by first | exact .inl (by decide +kernel) | exact .inr (by decide +kernel)) (by rw [isSubtype_type]; kernel_rfl)
theorem type_translate : typeOf (.builtin "bytes.translate") = pure (.type "method_descriptor") := by show builtinType _ = _; rw [builtinType_eq_fast]; kernel_rfl
theorem entry_translate : entryFor table "bytes.translate" = some Builtin.«bytes.translate» := entryFor_of_tree (by kernel_rfl)
theorem args_translate (a b : Value) : argsOk "bytes.translate" ⟨[a, b], []⟩ := by
  unfold argsOk; rw [signature?_of (id := "bytes.translate") (n := ['e', 't', 'a', 'l', 's', 'n', 'a', 'r', 't']) (o := ['s', 'e', 't', 'y', 'b']) (by kernel_rfl) FB.owner_bytes]; kernel_rfl
theorem check_maketrans (a b : Value) : checkBuiltinCall "bytes.maketrans" ⟨[a, b], []⟩ = pure () := by kernel_rfl
theorem plain_maketrans : plainId "bytes.maketrans" = true := by decide +kernel
theorem entry_maketrans : entryFor table "bytes.maketrans" = some Builtin.«bytes.maketrans» := entryFor_of_tree (by kernel_rfl)
noncomputable def tableOf (frm to : Array UInt8) : Array UInt8 := (frm.toList.zip to.toList).foldl (fun t (f, x) => t.setIfInBounds f.toNat x) ((Array.range 256).map (·.toUInt8))

theorem foldl_set_size (l : List (UInt8 × UInt8)) : ∀ t : Array UInt8, (l.foldl (fun t (f, x) => t.setIfInBounds f.toNat x) t).size = t.size := by
  induction l with
  | nil => intro t; rfl
  | cons p r ih => intro t; rw [List.foldl_cons, ih]; simp
theorem tableOf_size (a b : Array UInt8) : (tableOf a b).size = 256 := by
  unfold tableOf
  rw [foldl_set_size]; simp

theorem ite_no {α : Type} {M : Model} {A : Around} {c : Prop} [Decidable c] {a b : Sem α} {Q : α → Shared → Prop} {E : Value → Shared → Prop} {s : Shared} (hc : ¬ c) (h : wpAny M A b Q E s) : wpAny M A (if c then a else b) Q E s := by
  rw [if_neg hc]; exact h

section
variable {prog : Program} {w : World} {M : Model} {A : Around} {E : Value → Shared → Prop} {s : Shared} {Q : Value → Shared → Prop} {a b : Array UInt8} {t u : Tok}

theorem call_maketrans (hs : a.size = b.size) (h : ∀ t' k, Q (.bytes (tableOf a b) t') { s with toks := k }) :
    wpAny (model prog w) A (call (.builtin "bytes.maketrans") [.bytes a t, .bytes b u]) Q E s := by
  refine wpAny_call (codeAny_call_builtin plain_maketrans entry_maketrans (wpAny_of_eq (check_maketrans _ _) ?_))
  show wpAny _ _ (Bytes.maketransM .bytes ⟨[.bytes a t, .bytes b u], []⟩) _ _ s
  show wpAny _ _ (Bytes.bytesLike _ (.bytes a t) >>= fun frm => _) _ _ s
  refine wpAny_bind (wpAny_of_eq KBd.like_eq ?_)
  show wpAny _ _ (Bytes.bytesLike _ (.bytes b u) >>= fun to => _) _ _ s
  refine wpAny_bind (wpAny_of_eq KBd.like_eq ?_)
  have hn : (a.size != b.size) = false := by simp [hs]
  dsimp only
  rw [hn]
  show wpAny _ _ (mkBytes (tableOf a b) >>= fun v => ret v) _ _ s
  unfold mkBytes
  rw [if_neg (by rw [sizeLine_eq, tableOf_size]; decide)]
  exact wpAny_bind (wpAny_bind (wpAny_fresh (wpAny_pure (wpAny_pure (h _ _)))))

theorem call_translate {tbl : Array UInt8} (hs : tbl.size = 256) (hz : b.size ≤ 16777216) (h : ∀ t' k, Q (.bytes (b.map fun c => tbl.getD c.toNat c) t') { s with toks := k }) :
    wpAny (model prog w) A (call (.builtin "bytes.translate") [.bytes b t, .bytes tbl u]) Q E s := by
  refine call_meets (S := fun A R s => ∀ t' k, R (.ok (.ret (.bytes (b.map fun c => tbl.getD c.toNat c) t'))) { s with toks := k }) slot_translate (typeIs_bytes _ _ _) entry_translate (args_translate _ _) (.of_wp fun prog w A R s h => ?_) h
  show wpAny _ _ (Bytes.translateM .bytes ⟨[.bytes b t, .bytes tbl u], []⟩) _ _ s
  unfold Bytes.translateM
  dsimp only
  have hn : (tbl.size != 256) = false := by simp [hs]
  have h0 : (Value.bytes tbl u == Value.none) = false := by rfl
  refine ite_no (show ¬ (1 + 0 > 2) by decide) ?_
  refine ite_no (by simp) ?_
  refine ite_no (by rw [h0]; decide) ?_
  refine wpAny_bind (wpAny_of_eq KBd.like_eq ?_)
  refine ite_no (by rw [hn]; decide) ?_
  refine wpAny_bind (wpAny_pure ?_)
  refine wpAny_bind (wpAny_pure ?_)
  refine wpAny_bind (wpAny_of_eq (show Bytes.payload (.bytes b t) = pure b from rfl) ?_)
  have hf : b.filter (fun x => !(#[] : Array UInt8).contains x) = b := by simp
  rw [hf]
  dsimp only
  split
  · rename_i he
    have he' : (b.map fun c => tbl.getD c.toNat c) = b := eq_of_beq he
    refine wpAny_bind (wpAny_rule ?_)
    show wpAny _ _ (pure (.bytes b t) >>= fun v => ret v) _ _ s
    refine wpAny_bind (wpAny_pure (wpAny_pure ⟨_, rfl, ?_⟩))
    have := h t s.toks
    rw [he'] at this
    exact this
  · show wpAny _ _ (mkBytes _ >>= fun v => ret v) _ _ s
    unfold mkBytes
    rw [if_neg (by rw [sizeLine_eq, Array.size_map]; omega)]
    exact wpAny_bind (wpAny_bind (wpAny_fresh (wpAny_pure (wpAny_pure ⟨_, rfl, h _ _⟩))))

theorem method_translate {pl : Sem Bool} {Q : Value × List Value → Shared → Prop} (h : Q (.builtin "bytes.translate", [.bytes b t]) s) : wpAny M A (getMethod (.bytes b t) "translate" pl) Q E s := by
  with_reducible exact KBd.method_of (.bytes b t) (typeIs_bytes _ _ _) slot_translate type_translate KBd.noRef h
end
end Mine
end

section
open PySem PySem.Spec PySem.Calls PySem.W PyProof.Rows
namespace Mine
open Builtin
set_option maxRecDepth 100000

theorem encode_tree (x : Str) (t u : Tok) : «str.encode» ⟨[.str x t, .str (Str.ofString "ascii") u], []⟩ = ((_codecs.encodeNarrow "str.encode" _codecs.asciiCodec none (.str x t) x >>= fun b => mkBytes b) >>= fun v => ret v) := by
  kernel_rfl

theorem bad_iff (c : Nat) : _codecs.asciiCodec.bad c = decide (128 ≤ c) := rfl
theorem extract0 (a : Array Nat) : a.extract 0 a.size = a := by simp
theorem fold_bytes (l : List Nat) : ∀ acc : Array UInt8, l.foldl (fun acc y => acc ++ (_codecs.asciiCodec.bytesOf y).toArray) acc = acc ++ (l.map (·.toUInt8)).toArray := by
  induction l with
  | nil => intro acc; simp
  | cons c r ih => intro acc; rw [List.foldl_cons, ih]; simp [_codecs.asciiCodec]

abbrev EncSt := Nat × Array UInt8 × _codecs.Faults
theorem narrow_form (x : Str) (self : Value) : ∃ f : Nat → EncSt → Sem (ForInStep EncSt),
    _codecs.encodeNarrow "str.encode" _codecs.asciiCodec none self x = (forIn (List.range' 0 x.cps.size 1) ((0, #[], {}) : EncSt) f >>= fun r => pure r.2.1) ∧
    (∀ k i out st, out.size ≤ sizeLine → x.cps[i]? = none → f k (i, out, st) = pure (.done (i, out, st))) ∧
    (∀ k i out st c, out.size ≤ sizeLine → x.cps[i]? = some c → c < 128 → f k (i, out, st) = pure (.yield (i + ((x.cps.extract i).findIdx? _codecs.asciiCodec.bad).getD (x.cps.extract i).size, ((x.cps.extract i).extract 0 (((x.cps.extract i).findIdx? _codecs.asciiCodec.bad).getD (x.cps.extract i).size)).foldl (fun acc y => acc ++ (_codecs.asciiCodec.bytesOf y).toArray) out, st))) ∧
    (∀ k i out st c, out.size ≤ sizeLine → x.cps[i]? = some c → 128 ≤ c → ∃ (r : String) (stop : Nat) (g : Unit → Sem (ForInStep EncSt)), stop ≤ x.cps.size ∧ f k (i, out, st) = (rule r >>= fun _ => _codecs.raiseEncodeFault st "ascii" self i stop "ordinal not in range(128)" >>= g)) := by
  refine ⟨?f, ?a, ?b, ?c, ?d⟩
  case a =>
    unfold _codecs.encodeNarrow
    dsimp only
    rw [Std.Legacy.Range.forIn_eq_forIn_range']
    have hsz : [:x.length].size = x.cps.size := by simp [Std.Legacy.Range.size, Str.length]
    rw [hsz]
  case b =>
    intro k i out st ho hx
    rw [if_neg (Nat.not_lt.mpr ho)]
    dsimp only
    rw [hx]
  case c =>
    intro k i out st c ho hx hc
    rw [if_neg (Nat.not_lt.mpr ho)]
    dsimp only
    rw [hx]
    dsimp only
    rw [if_pos (by rw [bad_iff]; simp; omega)]
  case d =>
    intro k i out st c ho hx hc
    rw [if_neg (Nat.not_lt.mpr ho)]
    dsimp only
    rw [hx]
    dsimp only
    rw [if_neg (by rw [bad_iff]; simp; omega)]
    have hi : i < x.cps.size := (Array.getElem?_eq_some_iff.mp hx).1
    refine ⟨_, _, _, ?_, rfl⟩
    cases hf : (x.cps.extract i x.cps.size).findIdx? (fun y => !_codecs.asciiCodec.bad y) with
    | none => rw [Option.getD_none]; omega
    | some j =>
      have := (Array.findIdx?_eq_some_iff_getElem.mp hf).1
      rw [Array.size_extract] at this
      rw [Option.getD_some]; omega

theorem narrow_ok (x : Str) (self : Value) (h : ∀ c ∈ x.cps, c < 128) (hl : x.cps.size ≤ 16777216) : _codecs.encodeNarrow "str.encode" _codecs.asciiCodec none self x = pure (x.cps.map (·.toUInt8)) := by
  obtain ⟨f, e, f1, f2, -⟩ := narrow_form x self
  rw [e]
  have hnone : x.cps.findIdx? _codecs.asciiCodec.bad = none := by
    rw [Array.findIdx?_eq_none_iff]
    intro c hc
    rw [bad_iff]
    have := h c hc
    simp; omega
  cases hn : x.cps.size with
  | zero =>
    have : x.cps = #[] := Array.eq_empty_of_size_eq_zero hn
    rw [this, Array.map_empty]
    simp only [List.range'_zero, List.forIn_nil]
    rfl
  | succ n =>
    rw [List.range'_succ, List.forIn_cons]
    have h0 : x.cps[0]? = some x.cps[0] := by simp [hn]
    have hlt : x.cps[0] < 128 := h _ (by simp)
    have he : x.cps.extract 0 = x.cps := by simp
    rw [f2 0 0 #[] {} _ (by simp) h0 hlt, he, hnone, Option.getD_none, extract0, ← Array.foldl_toList, fold_bytes, Nat.zero_add]
    have hb : #[] ++ (List.map (fun x => x.toUInt8) x.cps.toList).toArray = x.cps.map (·.toUInt8) := by
      rw [Array.empty_append, ← Array.toList_map]
    rw [hb]
    show (forIn (List.range' (0 + 1) n) ((x.cps.size, x.cps.map (·.toUInt8), {}) : EncSt) f >>= fun r => pure r.2.1) = _
    cases n with
    | zero =>
      simp only [List.range'_zero, List.forIn_nil]
      rfl
    | succ n =>
      rw [List.range'_succ, List.forIn_cons, f1 _ _ _ _ (by rw [sizeLine_eq]; simpa using hl) (by simp)]
      rfl

section
variable {prog : Program} {w : World} {M : Model} {A : Around} {E : Value → Shared → Prop} {s : Shared} {Q : Value → Shared → Prop} {x : Str} {t u : Tok}
theorem call_encode (hx : ∀ c ∈ x.cps, c < 128) (hl : x.cps.size ≤ 16777216) (h : ∀ t' k, Q (.bytes (x.cps.map (·.toUInt8)) t') { s with toks := k }) :
    wpAny (model prog w) A (call (.builtin "str.encode") [.str x t, .str (Str.ofString "ascii") u]) Q E s := by
  refine call_meets (S := fun A R s => ∀ t' k, R (.ok (.ret (.bytes (x.cps.map (·.toUInt8)) t'))) { s with toks := k }) F.slot_str_encode (typeIs_str _ _ _) F.entry_str_encode (F.args_str_encode_2 _ _) (.of_wp fun prog w A R s h => ?_) h
  rw [encode_tree, narrow_ok x _ hx hl]
  refine wpAny_bind (wpAny_bind (wpAny_pure ?_))
  unfold mkBytes
  rw [if_neg (by rw [sizeLine_eq, Array.size_map]; omega)]
  exact wpAny_bind (wpAny_fresh (wpAny_pure (wpAny_pure ⟨_, rfl, h _ _⟩)))
theorem smethod_of {pl : Sem Bool} {Q : Value × List Value → Shared → Prop} {name : PySem.Str} {id : String} (v : Value) (hT : s.TypeIs v "str") (slot : Slot "str" name id) (ty : typeOf (.builtin id) = pure (.type "method_descriptor"))
    (hd : ∀ a, v = .ref a → ∃ o, s.heap.get? a = some o ∧ o.dict = none) (h : Q (.builtin id, [v]) s) : wpAny M A (getMethod v name pl) Q E s :=
  getMethod_builtin hT F.plainAttrs_str slot ty hd h
theorem snoRef {x : Str} : ∀ a, Value.str x t = .ref a → ∃ o, s.heap.get? a = some o ∧ o.dict = none := fun _ e => nomatch e
theorem method_encode {pl : Sem Bool} {Q : Value × List Value → Shared → Prop} (h : Q (.builtin "str.encode", [.str x t]) s) : wpAny M A (getMethod (.str x t) "encode" pl) Q E s := by
  with_reducible exact smethod_of (.str x t) (typeIs_str _ _ _) F.slot_str_encode F.type_str_encode snoRef h
end
end Mine
end

section
open PySem PySem.Spec PySem.Calls PySem.W PyProof.Rows
namespace Mine
open Builtin
set_option maxRecDepth 100000
abbrev uni : String := "UnicodeEncodeError"
abbrev UniOb (vs : Array Value) : Obj := { cls := .type uni, data := .fields vs }

theorem uni_new : ExcNewFacts uni "UnicodeEncodeError.__new__" where
  ends := by decide +kernel
  owner := by decide +kernel
  entry := entryFor_alias (id' := "BaseException.__new__") (by rw [fastTable_eq_tree]; kernel_rfl) (by first | rfl | decide +kernel) (by decide +kernel) (by rw [fastTable_eq_tree]; kernel_rfl)
  sub := by rw [isSubtype_type]; kernel_rfl
  notAttr := by rw [isSubtype_type]; kernel_rfl
  notName := by rw [isSubtype_type]; kernel_rfl
  made := by kernel_rfl
theorem uni_madeBy : Bind.madeBy (.type uni) = pure (some "UnicodeEncodeError.__new__") := by kernel_rfl
theorem uni_newOk (rest : List Value) : checkBuiltinCall "UnicodeEncodeError.__new__" ⟨.type uni :: rest, []⟩ = pure () := by kernel_rfl
theorem uni_init : Slot uni "__init__" "UnicodeEncodeError.__init__" :=
  .of (owner := "UnicodeEncodeError") (n := "__init__") (by rw [typeLookup_type, builtinLookup_eq_fast]; kernel_rfl) (by decide +kernel) (by decide +kernel) (by decide +kernel)
    (by first | exact .inl (by decide +kernel) | exact .inr (by decide +kernel)) (by rw [isSubtype_type]; kernel_rfl)
theorem uni_initEntry : entryFor table "UnicodeEncodeError.__init__" = some Builtin.«UnicodeEncodeError.__init__» := entryFor_of_tree (by kernel_rfl)
theorem uni_initKind : builtinKind "UnicodeEncodeError.__init__" = some .slot := by kernel_rfl
theorem uni_initSplit : splitId "UnicodeEncodeError.__init__" = some (uni, "__init__") := by kernel_rfl
theorem uni_initRow : Manifest.signature? "UnicodeEncodeError.__init__" = some ⟨.hand, "wrapper __init__", "", .self, []⟩ := by kernel_rfl
theorem uni_mro : ∃ m, mroOf (.type uni) = pure m ∧ m.isEmpty = false := ⟨[.type uni, .type "UnicodeError", .type "ValueError", .type "Exception", .type "BaseException", .type "object"], by rw [mroOf_type]; kernel_rfl, rfl⟩
theorem uni_canMake : ((Manifest.find? uni).bind fun x => List.findSome? (fun t => (Manifest.find? t).bind fun b =>
    if b.noNew = true then some true else if (b.attrs.any fun x => x.fst == "__new__") = true then some false else none) x.mro).getD false = false := by kernel_rfl
theorem uni_noVector (args : Args) : checkTypeCall uni args = pure () := by kernel_rfl

section
variable {prog : Program} {w : World} {A : Around} {E : Value → Shared → Prop} {s : Shared}

theorem uni_check {M : Model} {self : Value} {rest : List Value} {Q : Unit → Shared → Prop} (hT : s.TypeIs self uni) (h : Q () s) : wpAny M A (checkBuiltinCall "UnicodeEncodeError.__init__" ⟨self :: rest, []⟩) Q E s := by
  simp only [checkBuiltinCall, uni_initKind, uni_initSplit, uni_initRow]
  refine wpAny_bind (wpAny_isInstance hT uni_new.sub ?_)
  simp only [Bool.not_true, Bool.false_eq_true, if_false]
  unfold Bind.checkArgs
  dsimp only
  refine wpAny_bind (m := Bind.printed "wrapper __init__" true _ _) (printed_name (by decide) ?_)
  refine wpAny_bind (m := Bind.printed "" false _ _) (printed_name (by decide) ?_)
  show wpAny M A (Sem.onRaise (Bind.check _ _ _ _ []) _) Q E s
  exact wpAny_pure h

abbrev Kp (h h' : Heap) : Prop := ∀ b o, h.get? b = some o → h'.get? b = some o
theorem kp_update {h0 h : Heap} {e : Addr} {f : Obj → Obj} (hk : Kp h0 h) (hn : h0.get? e = none) : Kp h0 (h.update e f) := fun b o hb => by
  have hne : e ≠ b := by rintro rfl; rw [hn] at hb; cases hb
  rw [Heap.get?_update_other _ _ hne]; exact hk b o hb
open UnicodeEncodeError in
theorem setM {M : Model} {h0 : Heap} {e : Addr} {vs : Array Value} {m : Members} {Q : Unit → Shared → Prop} (he : s.heap.get? e = some (UniOb vs)) (hv : vs.size ≤ 20) (hk : Kp h0 s.heap) (hn : h0.get? e = none)
    (h : ∀ h', h'.get? e = some (UniOb (vs.extract 0 6 ++ #[m.encoding, m.object, rawInt m.start, rawInt m.stop, m.reason])) → Kp h0 h' → Q () { s with heap := h' }) : wpAny M A (setMembers (.ref e) m) Q E s := by
  unfold setMembers
  dsimp only
  refine wpAny_updateFields he rfl (h _ ?_ (kp_update hk hn)) ?_
  · exact Heap.get?_update_self (Obj.mapFields fun vs => vs.extract 0 6 ++ #[m.encoding, m.object, rawInt m.start, rawInt m.stop, m.reason]) he rfl
  · rw [sizeLine_eq]; simp; omega
open UnicodeEncodeError in
theorem mem6 {M : Model} {e : Addr} {a b c d f g : Value} {Q : Members → Shared → Prop} (he : s.heap.get? e = some (UniOb #[a, b, c, d, f, g])) (h : Q {} s) : wpAny M A (members (.ref e)) Q E s := by
  unfold members
  refine wpAny_bind (wpAny_fieldsOf he rfl ?_)
  exact wpAny_pure h
open UnicodeEncodeError in
theorem mem11 {M : Model} {e : Addr} {a b c d f g x y r : Value} {i j : Int} {t u : Tok} {Q : Members → Shared → Prop} (he : s.heap.get? e = some (UniOb #[a, b, c, d, f, g, x, y, .int i t, .int j u, r])) (h : Q ⟨x, y, i, j, r⟩ s) : wpAny M A (members (.ref e)) Q E s := by
  unfold members
  refine wpAny_bind (wpAny_fieldsOf he rfl ?_)
  exact wpAny_pure h
open UnicodeEncodeError in
theorem setM6 {M : Model} {h0 : Heap} {e : Addr} {a b c d f g x y r : Value} {i j : Int} {Q : Unit → Shared → Prop} (he : s.heap.get? e = some (UniOb #[a, b, c, d, f, g])) (hk : Kp h0 s.heap) (hn : h0.get? e = none)
    (h : ∀ h', h'.get? e = some (UniOb #[a, b, c, d, f, g, x, y, .int i 0, .int j 0, r]) → Kp h0 h' → Q () { s with heap := h' }) : wpAny M A (setMembers (.ref e) ⟨x, y, i, j, r⟩) Q E s :=
  setM he (by simp) hk hn fun h' e' k => h h' (by simpa [rawInt] using e') k
open UnicodeEncodeError in
theorem setM11 {M : Model} {h0 : Heap} {e : Addr} {a b c d f g x y r x1 x2 x3 x4 x5 : Value} {i j : Int} {Q : Unit → Shared → Prop} (he : s.heap.get? e = some (UniOb #[a, b, c, d, f, g, x1, x2, x3, x4, x5])) (hk : Kp h0 s.heap) (hn : h0.get? e = none)
    (h : ∀ h', h'.get? e = some (UniOb #[a, b, c, d, f, g, x, y, .int i 0, .int j 0, r]) → Kp h0 h' → Q () { s with heap := h' }) : wpAny M A (setMembers (.ref e) ⟨x, y, i, j, r⟩) Q E s :=
  setM he (by simp) hk hn fun h' e' k => h h' (by simpa [rawInt] using e') k
open UnicodeEncodeError in
theorem strArg (n : Nat) (x : Str) (t : Tok) : strArgument "UnicodeEncodeError.__init__" n (.str x t) = pure () := rfl
open UnicodeEncodeError in
theorem sizeArg {i : Int} (h0 : -1000 ≤ i) (h1 : i ≤ 100000) (t : Tok) : sizeArgument "UnicodeEncodeError.__init__" (.int i t) = pure i := by
  unfold sizeArgument
  show (if (decide (i < -(2 ^ 63 : Int)) || decide (i ≥ 2 ^ 63)) = true then _ else _) = _
  rw [if_neg (by simp; omega)]

open UnicodeEncodeError in
theorem uni_init_body {h0 : Heap} {e t0 : Addr} {x y z : Str} {i j : Int} {tx ty tz ti tj : Tok} {Q : Fin → Shared → Prop} (he : s.heap.get? e = some (UniOb #[.ref t0, .none, .none, .none, .bool false, .none])) (hk : Kp h0 s.heap) (hn : h0.get? e = none)
    (i0 : 0 ≤ i) (i1 : i ≤ 100000) (j0 : 0 ≤ j) (j1 : j ≤ 100000)
    (h : ∀ h' t0 vs, h'.get? e = some (UniOb (#[.ref t0, .none, .none, .none, .bool false, .none] ++ vs)) → Kp h0 h' → Q (.done (.ret .none)) { s with heap := h' }) :
    wpAny (model prog w) A (Builtin.«UnicodeEncodeError.__init__» ⟨[.ref e, .str x tx, .str y ty, .int i ti, .int j tj, .str z tz], []⟩) Q E s := by
  unfold Builtin.«UnicodeEncodeError.__init__» beginInit
  dsimp only
  refine wpAny_bind ?_
  rw [if_neg (by decide)]
  refine wpAny_bind (wpAny_field he rfl rfl ?_)
  unfold newTuple
  have hp : Kp h0 (s.heap.push { cls := .type "tuple", data := .seq [Value.str x tx, .str y ty, .int i ti, .int j tj, .str z tz].toArray }) := fun b o hb => Heap.get?_push_of_some _ (hk b o hb)
  have he1 := Heap.get?_push_of_some (h := s.heap) { cls := .type "tuple", data := .seq [Value.str x tx, .str y ty, .int i ti, .int j tj, .str z tz].toArray } he
  refine wpAny_bind (wpAny_newObj_type (wpAny_bind (wpAny_setField (vs := #[.ref t0, .none, .none, .none, .bool false, .none]) he1 rfl (by simp) ?_)) (by size_fits))
  have he2 := Heap.get?_update_self (Obj.mapFields (·.setIfInBounds 0 (.ref s.heap.objs.size))) he1 rfl
  have k2 := kp_update (f := (Obj.mapFields (·.setIfInBounds 0 (.ref s.heap.objs.size)))) hp hn
  revert he2 k2
  generalize Heap.update _ e _ = h2
  intro he2 k2
  replace he2 : h2.get? e = some (UniOb #[.ref s.heap.objs.size, .none, .none, .none, .bool false, .none]) := he2
  refine wpAny_bind (wpAny_letGo ?_)
  rw [if_pos (show ((5 : Nat) == 5) = true from rfl)]
  refine wpAny_bind (mem6 he2 ?_)
  refine wpAny_bind (setM6 he2 k2 hn fun h3 he3 k3 => ?_)
  refine wpAny_bind (wpAny_letGo ?_)
  refine wpAny_bind (mem11 he3 ?_)
  refine wpAny_bind (setM11 he3 k3 hn fun h4 he4 k4 => ?_)
  refine wpAny_bind (wpAny_letGo ?_)
  refine wpAny_bind (mem11 he4 ?_)
  refine wpAny_bind (setM11 he4 k4 hn fun h5 he5 k5 => ?_)
  refine wpAny_bind (wpAny_letGo ?_)
  rw [if_neg (by simp)]
  refine wpAny_pure ?_
  dsimp only
  rw [strArg, strArg, strArg]
  refine wpAny_bind (wpAny_pure ?_)
  refine wpAny_bind (wpAny_pure ?_)
  unfold initRange
  refine wpAny_bind ?_
  rw [sizeArg (by omega) (by omega), sizeArg (by omega) (by omega)]
  refine wpAny_bind (wpAny_pure ?_)
  refine wpAny_bind (mem11 he5 ?_)
  refine wpAny_bind (setM11 he5 k5 hn fun h6 he6 k6 => ?_)
  refine wpAny_bind (wpAny_pure ?_)
  refine wpAny_bind (mem11 he6 ?_)
  refine setM11 he6 k6 hn fun h7 he7 k7 => ?_
  refine wpAny_bind (wpAny_pure ?_)
  refine wpAny_bind (mem11 he7 ?_)
  refine wpAny_bind (setM11 he7 k7 hn fun h8 he8 k8 => ?_)
  exact wpAny_pure (h h8 _ #[_, _, _, _, _] he8 k8)

/-- what the encoder throws: a new object with three slots that are still empty -/
structure NewU (h h' : Heap) (e : Addr) : Prop where
  keeps : Kp h h'
  new : h.get? e = none
  there : ∃ t0 vs, h'.get? e = some (UniOb (#[.ref t0, .none, .none, .none, .bool false, .none] ++ vs))

theorem call_uni {x y z : Str} {i j : Int} {tx ty tz ti tj : Tok} {Q : Value → Shared → Prop} (i0 : 0 ≤ i) (i1 : i ≤ 100000) (j0 : 0 ≤ j) (j1 : j ≤ 100000)
    (h : ∀ h' e, NewU s.heap h' e → Q (.ref e) { s with heap := h' }) : wpAny (model prog w) A (call (.type uni) [.str x tx, .str y ty, .int i ti, .int j tj, .str z tz]) Q E s := by
  refine wpAny_call (codeAny_of_tree ?_)
  show wpAny _ _ (again (.builtin "type.__call__" ⟨.type uni :: [.str x tx, .str y ty, .int i ti, .int j tj, .str z tz], []⟩)) _ _ _
  refine wpAny_pure ⟨Code.quiet_builtin _ (by decide +kernel), codeAny_builtin entry_typeCall ?_⟩
  obtain ⟨hp, g, d, tk, os⟩ := s
  have hnt : (Value.type uni == Value.type "type") = false := by decide +kernel
  have hcan := uni_canMake
  have hchk := uni_noVector ⟨[.str x tx, .str y ty, .int i ti, .int j tj, .str z tz], []⟩
  obtain ⟨m, hmro, hne⟩ := uni_mro
  have hmade := uni_madeBy
  wp_walk
  refine codeAny_call_builtin_code (Code.quiet_builtin _ (by decide +kernel)) (wpAny_of_eq (uni_newOk _) ?_)
  refine codeAny_exc_new uni_new ?_ (by size_fits)
  show wpAny _ _ _ _ _ _
  have hget : ((hp.push { cls := .type "tuple", data := .seq [Value.str x tx, .str y ty, .int i ti, .int j tj, .str z tz].toArray }).push
      { cls := .type uni, data := .fields #[.ref hp.objs.size, .none, .none, .none, .bool false, .none] }).get? (hp.objs.size + 1) = some
      (UniOb #[.ref hp.objs.size, .none, .none, .none, .bool false, .none]) := by heap_get
  refine wpAny_bind (wpAny_isInstance ⟨_, hget, rfl⟩ uni_new.sub ?_)
  wp_step
  have hn : hp.get? (hp.objs.size + 1) = none := Heap.get?_none_of_le (Nat.le_succ _)
  refine wpAny_bind (wpAny_holding (wpAny_callSpecial?_slot ⟨_, hget, rfl⟩ uni_init (wpAny_call (codeAny_call_builtin uni_init.plain uni_initEntry (uni_check ⟨_, hget, rfl⟩ (uni_init_body (h0 := hp) hget (fun b o hb => Heap.get?_push_of_some _ (Heap.get?_push_of_some _ hb)) hn i0 i1 j0 j1 fun h' t0 vs he hk => ?_))))))
  wp_walk
  exact h _ _ ⟨hk, hn, t0, vs, he⟩

theorem fault_form (self : Value) (i stop : Nat) (r : String) {α : Type} : (_codecs.raiseEncodeFault {} "ascii" self i stop r : Sem α) = ((do call (.type uni) [← mkStr (Str.ofString "ascii"), ← pure self, ← mkInt i, ← mkInt stop, ← mkStr (Str.ofString r)]) >>= fun e => raiseNew e) := rfl
theorem wp_fault {x : Str} {tx : Tok} {i stop : Nat} {α : Type} {Q : α → Shared → Prop} (hh : A.handled = none) (hi : i ≤ 10000) (hs : stop ≤ 10000)
    (h : ∀ h' tk e, NewU s.heap h' e → E (.ref e) { s with heap := h', toks := tk }) : wpAny (model prog w) A (_codecs.raiseEncodeFault {} "ascii" (.str x tx) i stop "ordinal not in range(128)" : Sem α) Q E s := by
  rw [fault_form]
  refine wpAny_bind ?_
  refine wpAny_bind (wpAny_mkStr ?_)
  refine wpAny_bind (wpAny_pure ?_)
  refine wpAny_bind (wpAny_mkInt ?_)
  refine wpAny_bind (wpAny_mkInt ?_)
  refine wpAny_bind (wpAny_mkStr ?_)
  refine call_uni (by omega) (by omega) (by omega) (by omega) fun h' e hx => ?_
  unfold raiseNew
  refine wpAny_bind (wpAny_handled ?_)
  rw [hh]
  first
    | exact wpAny_throw (h _ _ _ hx)
    | exact wpAny_bind (wpAny_pure (wpAny_throw (h _ _ _ hx)))
end
end Mine
end

section
open PySem PySem.Spec PySem.Calls PySem.W PyProof.Rows
namespace Mine
open Builtin
set_option maxRecDepth 100000
section
variable {prog : Program} {w : World} {A : Around} {E : Value → Shared → Prop} {s : Shared} {x : Str} {t u : Tok}
theorem wp_faulty {α β : Type} {r : String} {i stop : Nat} {g : β → Sem α} {Q : α → Shared → Prop} (hh : A.handled = none) (hi : i ≤ 10000) (hs : stop ≤ 10000)
    (h : ∀ h' tk e, NewU s.heap h' e → E (.ref e) { s with heap := h', toks := tk }) : wpAny (model prog w) A (rule r >>= fun _ => (_codecs.raiseEncodeFault {} "ascii" (.str x t) i stop "ordinal not in range(128)" : Sem β) >>= g) Q E s :=
  wpAny_bind (wpAny_rule (wpAny_bind (wp_fault hh hi hs h)))

theorem narrow_bad {Q : Array UInt8 → Shared → Prop} (hx : ∃ c ∈ x.cps, 128 ≤ c) (hl : x.cps.size ≤ 1000) (hh : A.handled = none)
    (h : ∀ h' tk e, NewU s.heap h' e → E (.ref e) { s with heap := h', toks := tk }) : wpAny (model prog w) A (_codecs.encodeNarrow "str.encode" _codecs.asciiCodec none (.str x t) x) Q E s := by
  obtain ⟨f, e, f1, f2, f3⟩ := narrow_form x (.str x t)
  rw [e]
  obtain ⟨c, hc, hc2⟩ := hx
  have hpos : 0 < x.cps.size := by
    rcases Array.getElem_of_mem hc with ⟨i, hi, _⟩; omega
  obtain ⟨n, hn⟩ : ∃ n, x.cps.size = n + 1 := ⟨x.cps.size - 1, by omega⟩
  rw [hn, List.range'_succ, List.forIn_cons]
  have h0 : x.cps[0]? = some x.cps[0] := by simp [hn]
  by_cases hb : 128 ≤ x.cps[0]
  · obtain ⟨r, stop, g, hs, e3⟩ := f3 0 0 #[] {} _ (by simp) h0 hb
    rw [e3]
    exact wpAny_bind (wpAny_bind (wp_faulty hh (by omega) (by omega) h))
  · have he : x.cps.extract 0 = x.cps := by simp
    rw [f2 0 0 #[] {} _ (by simp) h0 (by omega), he]
    cases hf : x.cps.findIdx? _codecs.asciiCodec.bad with
    | none =>
      exfalso
      have := Array.findIdx?_eq_none_iff.mp hf c hc
      rw [bad_iff] at this
      simp at this; omega
    | some j =>
      obtain ⟨hj, hj2, _⟩ := Array.findIdx?_eq_some_iff_getElem.mp hf
      rw [bad_iff] at hj2
      have hj2 : 128 ≤ x.cps[j] := by simpa using hj2
      have hj0 : j ≠ 0 := by rintro rfl; exact hb hj2
      obtain ⟨k, hk⟩ : ∃ k, n = k + 1 := ⟨n - 1, by omega⟩
      rw [Option.getD_some, ← Array.foldl_toList, fold_bytes, Nat.zero_add]
      refine wpAny_bind (wpAny_bind (wpAny_pure ?_))
      show wpAny _ _ (forIn (List.range' (0 + 1) n) _ f) _ _ _
      rw [hk, List.range'_succ, List.forIn_cons]
      obtain ⟨r, stop, g, hs, e3⟩ := f3 (0 + 1) j (#[] ++ (List.map (fun x => x.toUInt8) (x.cps.extract 0 j).toList).toArray) {} _ (by rw [sizeLine_eq]; simp; omega) (Array.getElem?_eq_some_iff.mpr ⟨hj, rfl⟩) hj2
      rw [e3]
      exact wpAny_bind (wp_faulty hh (by omega) (by omega) h)

theorem call_encode_bad {Q : Value → Shared → Prop} (hx : ∃ c ∈ x.cps, 128 ≤ c) (hl : x.cps.size ≤ 1000) (hh : A.handled = none)
    (h : ∀ h' tk e, NewU s.heap h' e → E (.ref e) { s with heap := h', toks := tk }) :
    wpAny (model prog w) A (call (.builtin "str.encode") [.str x t, .str (Str.ofString "ascii") u]) Q E s := by
  refine call_meets (S := fun A R s => A.handled = none ∧ ∀ h' tk e, NewU s.heap h' e → R (.error (.ref e)) { s with heap := h', toks := tk }) F.slot_str_encode (typeIs_str _ _ _) F.entry_str_encode (F.args_str_encode_2 _ _) (.of_wp fun prog w A R s h => ?_) ⟨hh, h⟩
  rw [encode_tree]
  exact wpAny_bind (wpAny_bind (narrow_bad hx hl h.1 h.2))
end
end Mine
end

section
open PySem PySem.Spec PySem.Calls PySem.W PyProof.Rows
namespace Mine
set_option maxRecDepth 100000

/-- the encoder's exception, noted in its frame, as the clauses see it -/
structure HeldE (B : Heap) (l : List Env) (e : Addr) (h : Heap) : Prop where
  stays : B.StaysIn h
  new : B.get? e = none
  frames : h.FunFrames B l
  there : ∃ oe vs T oT ts, h.get? e = some oe ∧ oe.cls = .type uni ∧ oe.data = .fields vs ∧ vs[1]? = some (.ref T) ∧ vs[2]? = some .none ∧ B.get? T = none ∧ T ≠ e ∧ h.get? T = some oT ∧ oT.data = .fields ts ∧ 3 < ts.size

theorem HeldE.ne {B : Heap} {l : List Env} {e : Addr} {h : Heap} (H : HeldE B l e h) : ∃ oe vs, h.get? e = some oe ∧ oe.cls = .type uni ∧ oe.data = .fields vs ∧ vs[2]? = some .none := by
  obtain ⟨oe, vs, _, _, _, a, b, c, _, d, _⟩ := H.there
  exact ⟨oe, vs, a, b, c, d⟩

section
variable {M : Model} {A : Around} {E : Value → Shared → Prop} {s : Shared}

theorem note_new {B : Heap} {env : Env} {outer : List Env} {L e t0 : Addr} {ws : Array Value} {Q : Unit → Shared → Prop} (hfr : A.frames = some (env :: outer)) (hl : s.heap.FunFrames B (env :: outer)) (hf : env.frame = some L)
    (he : s.heap.get? e = some (UniOb (#[.ref t0, .none, .none, .none, .bool false, .none] ++ ws))) (hkb : B.StaysIn s.heap) (hen : B.get? e = none)
    (k : ∀ h', HeldE B (env :: outer) e h' → s.heap.UpToSlots h' → Q () { s with heap := h' }) : wpAny M A (noteFrame (.ref e) env) Q E s := by
  have hsz : 1 < (#[Value.ref t0, .none, .none, .none, .bool false, .none] ++ ws).size := by simp; omega
  have hne : e ∉ (env :: outer).filterMap (·.frame) := fun hm => by
    obtain ⟨_, o, ho, hnf⟩ := hl.mem hm
    rw [he] at ho; cases ho; exact hnf _ rfl
  unfold noteFrame
  simp only [hf]
  have f1 : (#[Value.ref t0, .none, .none, .none, .bool false, .none] ++ ws)[1]? = some .none := by rw [Array.getElem?_append_left (by simp)]; rfl
  have f2 : (#[Value.ref t0, .none, .none, .none, .bool false, .none] ++ ws)[2]? = some .none := by rw [Array.getElem?_append_left (by simp)]; rfl
  refine wpAny_bind (wpAny_field he rfl f1 ?_)
  rw [if_neg (by decide)]
  refine wpAny_bind (wpAny_frameOf_fun hfr hl hf fun h₁ sl => ?_)
  obtain ⟨-, soth, sall⟩ := sl
  refine wpAny_bind (wpAny_entryPlaceOf fun pl hpl => ?_)
  unfold EntryCells.newEntry newFields
  refine wpAny_bind (wpAny_newObj_type ?_ (hpl.sizeOk5 _ _ _ _ _))
  generalize hcel : [Value.none, .ref L, .none, rawInt L, .none] ++ (if pl.isEmpty then List.replicate 6 Value.none else pl) = cel
  have hcl : 3 < cel.toArray.size := by rw [← hcel]; simp
  have he₁ : h₁.get? e = some (UniOb (#[.ref t0, .none, .none, .none, .bool false, .none] ++ ws)) := (soth e hne).trans he
  have he₂ := Heap.get?_push_of_some (h := h₁) { cls := .type "traceback", dict := none, data := .fields cel.toArray } he₁
  have hTe : h₁.objs.size ≠ e := Nat.ne_of_gt (Heap.lt_size he₁)
  have keep : ∀ b o, b ≠ e → h₁.get? b = some o → ((h₁.push { cls := .type "traceback", dict := none, data := .fields cel.toArray }).update e (Obj.mapFields (·.setIfInBounds 1 (.ref h₁.objs.size)))).get? b = some o := fun b o hbe hb => by
    rw [Heap.get?_update_other _ _ (Ne.symm hbe)]
    exact Heap.get?_push_of_some _ hb
  have apart : ∀ b o, s.heap.get? b = some o → (∀ vs, o.data ≠ .fields vs) → b ≠ e := fun b o hb hnf q => by
    rw [q, he] at hb
    cases hb
    exact hnf _ rfl
  refine wpAny_setField he₂ rfl hsz (k _ ?_ ?_)
  · have kb₁ : B.StaysIn h₁ := fun b o hbo => (soth b fun hm => by rw [(hl.mem hm).1] at hbo; cases hbo).trans (hkb b o hbo)
    refine ⟨fun b o hbo => keep b o (fun q => by rw [q, hen] at hbo; cases hbo) (kb₁ b o hbo), hen, hl.of_keeps fun b o hb hnf => ?_, ?_⟩
    · obtain ⟨sl, hs⟩ := sall b o hb
      exact ⟨_, keep b _ (apart b o hb hnf) hs, rfl⟩
    · have he₃ := Heap.get?_update_self (Obj.mapFields (·.setIfInBounds 1 (Value.ref h₁.objs.size))) he₂ rfl
      refine ⟨_, _, h₁.objs.size, _, _, he₃, rfl, rfl, ?_, ?_, kb₁.fresh, hTe, (Heap.get?_update_other _ _ (Ne.symm hTe)).trans (Heap.get?_push_size h₁ rfl), rfl, hcl⟩
      · rw [Array.getElem?_setIfInBounds_self, if_pos hsz]
      · rw [Array.getElem?_setIfInBounds_ne (by decide)]; exact f2
  · intro b o hb hnf
    obtain ⟨sl, hs⟩ := sall b o hb
    exact ⟨sl, keep b _ (apart b o hb hnf) hs⟩

theorem flight_off {B : Heap} {l : List Env} {e : Addr} {Q : Unit → Shared → Prop} (H : HeldE B l e s.heap)
    (k : ∀ h', HeldE B l e h' → s.heap.UpToSlots h' → Q () { s with heap := h' }) : wpAny M A (setFlight (.ref e) none) Q E s := by
  obtain ⟨hkb, hen, hl, oe, vs, T, oT, ts, he, hc, hd, h1, h2, hnT, hTe, hT, hdT, h3⟩ := H
  unfold setFlight
  refine wpAny_bind (wpAny_field he hd h1 ?_)
  rw [if_pos (show (Value.ref T != Value.none) = true from by simp)]
  have oth : ∀ b o, b ≠ T → s.heap.get? b = some o → (s.heap.update T (Obj.mapFields (·.setIfInBounds 3 ((none : Option Addr).elim Value.none fun f => rawInt f)))).get? b = some o :=
    fun b o hb ho => (Heap.get?_update_other _ _ (Ne.symm hb)).trans ho
  have apart : ∀ b o, s.heap.get? b = some o → (∀ vs, o.data ≠ .fields vs) → b ≠ T := fun b o hb hnf q => by
    rw [q, hT] at hb; cases hb; exact hnf ts hdT
  refine wpAny_setField hT hdT h3 (k _ ⟨fun b o hbo => oth b o (fun q => by rw [q, hnT] at hbo; cases hbo) (hkb b o hbo), hen, hl.of_keeps fun b o hb hnf => ⟨o, oth b o (apart b o hb hnf) hb, rfl⟩,
    oe, vs, T, _, _, oth e oe (Ne.symm hTe) he, hc, hd, h1, h2, hnT, hTe, Heap.get?_update_self _ hT (Obj.isFreed_of_fields (Obj.data_mapFields hdT _)), Obj.data_mapFields hdT _, by simpa using h3⟩ fun b o hb hnf => ⟨o.slots, oth b o (apart b o hb hnf) hb⟩)
end

theorem uni_exc : isSubtype (.type uni) (.type "BaseException") = pure true := by rw [isSubtype_type]; kernel_rfl
theorem uni_notTuple : isSubtype (.type ((Manifest.find? uni).elim "type" fun y => y.metatype)) (.type "tuple") = pure false := by
  rw [show ((Manifest.find? uni).elim "type" fun x => x.metatype) = "type" from by kernel_rfl, isSubtype_type]; kernel_rfl

section
variable {prog : Program} {w : World} {A₀ : Around} {E : Value → Shared → Prop} {s' : Shared} {base g h : Heap} {outer : List Env} {L a e : Addr} {m : Str → Option Value} {name : Str} {scope : Scope} {cd : Value}
  {b₀ : Stmt} {suite : List Stmt} {pos np : Pos} {rest : List ExceptHandler} {Q : Flow → Shared → Prop} {news : List (Addr × Obj)} {KF : Frag}
  {p : Program} {loose : List Str} {mean : ExcName → Option Value} {mg mb : Str → Option Value} {x : Str}

theorem enc_caught (K : Below A₀ base outer g) (F : Fr g L h m) (N : News g L h news) (hx : NewU h s'.heap e) (XB : KF.In base) (TB : Top p loose mean mg mb base)
    (ex : nsIn KF mainGlobals x = some none) (hv : bootBuiltins x = some (.type uni)) (hn' : x ≠ "__name__")
    (k : ∀ h' g', Fr g' L h' m → News g' L h' news → Below A₀ base outer g' → KF.In g' → Top p loose mean mg mb g' → (∃ B l, HeldE B l e h') → g.UpToSlots g' → (∀ b o, g.get? b = some o → b ∉ outer.filterMap (·.frame) → g'.get? b = some o) →
      (∀ b, g.get? b = none → g'.get? b = none) → (∀ b, g'.get? b = none → g.get? b = none) →
      wpAny (model prog w) ((A₀.deeper (envOf name scope L a cd)).mark (some (.ref e))) (execs (b₀ :: suite) (envOf name scope L a cd)) Q E { s' with heap := h' })
    (hk : scope.kind = .function := by rfl) (hkx : (envOf name scope L a cd).kindOf x = some .globalImplicit := by rfl) (hd : (x == ("__debug__" : Str)) = false := by decide)
    (hE : PassesOwnAt (model prog w) ((A₀.deeper (envOf name scope L a cd)).mark (some (.ref e))) (A₀.deeper (envOf name scope L a cd)) (envOf name scope L a cd) E := by passes_own) :
    wpAny (model prog w) (A₀.deeper (envOf name scope L a cd)) (noteFrame (.ref e) (envOf name scope L a cd))
      (fun _ s₂ => wpAny (model prog w) (A₀.deeper (envOf name scope L a cd)) (setFlight (.ref e) none) (fun _ s₃ =>
        wpAny (model prog w) (A₀.deeper (envOf name scope L a cd)) (handleBy (.ref e) (envOf name scope L a cd) (.ExceptHandler (some (.Name x np)) none (b₀ :: suite) pos :: rest)) Q E s₃) E s₂) E s' := by
  have K' := K.push (name := name) (a := a) (cd := cd) F hk
  have hin : ∀ env ∈ (envOf name scope L a cd :: outer), ∀ b, env.frame = some b → b ∈ (envOf name scope L a cd :: outer).filterMap (·.frame) := fun env he b hb => List.mem_filterMap.mpr ⟨env, he, hb⟩
  have hBG : ∀ b o, h.get? b = some o → b ∉ (envOf name scope L a cd :: outer).filterMap (·.frame) → (hideAll h ((envOf name scope L a cd :: outer).filterMap (·.frame))).get? b = some o := fun b o q nm => hideAll_get _ q nm
  have hNf : ∀ q ∈ news, q.1 ∉ (envOf name scope L a cd :: outer).filterMap (·.frame) := fun q hq hm => by
    rcases kts_mem hm with z | z
    · exact (N q hq).2.1 z
    · obtain ⟨o, ho, _⟩ := (K.frames.mem z).2
      rw [(N q hq).2.2] at ho; cases ho
  have hLB : (hideAll h ((envOf name scope L a cd :: outer).filterMap (·.frame))).get? L = none := hideAll_none _ (hin _ (.head _) L rfl)
  have hen : (hideAll h ((envOf name scope L a cd :: outer).filterMap (·.frame))).get? e = none := by
    cases q : (hideAll h ((envOf name scope L a cd :: outer).filterMap (·.frame))).get? e with
    | none => rfl
    | some o => have := of_hideAll _ q; rw [hx.new] at this; cases this
  obtain ⟨t0, ws, he⟩ := hx.there
  revert hBG hLB hen
  have hfr0 := (funFrames_hide K'.frames hin).of_keeps (h' := s'.heap) fun b o hb _ => ⟨o, hx.keeps b o hb, rfl⟩
  have hst0 : (hideAll h ((envOf name scope L a cd :: outer).filterMap (·.frame))).StaysIn s'.heap := fun b o hb => hx.keeps b o (of_hideAll _ hb)
  have hNB : ∀ q ∈ news, (hideAll h ((envOf name scope L a cd :: outer).filterMap (·.frame))).get? q.1 = some q.2 := fun q hq => hideAll_get _ (N q hq).1 (hNf q hq)
  revert hfr0 hst0 hNB
  generalize hideAll h ((envOf name scope L a cd :: outer).filterMap (·.frame)) = B
  intro hfr0 hst0 hNB hBG hLB hen
  refine note_new (Around.frames_deeper K.stack) hfr0 rfl he hst0 hen fun h₁ H₁ u₁ => ?_
  refine flight_off H₁ fun h₂ H₂ u₂ => ?_
  have U₂ : h.UpToSlots h₂ := ((Heap.UpToSlots.of_keeps hx.keeps).trans u₁).trans u₂
  obtain ⟨g₂, T₂, F₂, K₂⟩ := kts_ground K F hBG H₂.stays U₂
  obtain ⟨oe, vs, hoe, hoc, -, -⟩ := H₂.ne
  refine wpAny_handleBy_builtin (X := uni) (T := uni) (b := true) uni_exc uni_notTuple uni_new.sub (name_B F₂ (XB.keeps K₂.stays) (topRead_of (TB.keeps K₂.stays)) ex hv hn' ⟨rfl, ⟨oe, hoe, hoc⟩, ?_⟩ hk hkx hd)
  refine flight_off H₂ fun h₃ H₃ u₃ => ?_
  have U₃ := U₂.trans u₃
  obtain ⟨g₃, T₃, F₃, K₃⟩ := kts_ground K F hBG H₃.stays U₃
  exact wpAny_passesOwnAt hE (k h₃ g₃ F₃ (fun q hq => ⟨H₃.stays _ _ (hNB q hq), (N q hq).2.1, T₃.none_ _ (N q hq).2.2⟩) K₃ (XB.keeps K₃.stays) (TB.keeps K₃.stays) ⟨_, _, H₃⟩ (fun b o e _ => T₃.up e)
    (fun b o e n => T₃.other b o e n) (fun b e => T₃.none_ b e) (fun b e => by
      cases q : g.get? b with
      | none => rfl
      | some o => obtain ⟨sl, hs⟩ := T₃.up q; rw [e] at hs; cases hs))
end
end Mine
end

section
open PySem PySem.Spec PySem.Calls PySem.W PyProof.Rows
namespace Mine
set_option maxRecDepth 100000
theorem entry_unchain : entryFor table "proto.unchain" = some Builtin.«proto.unchain» := entryFor_of_tree (by kernel_rfl)

section
variable {prog : Program} {w : World} {A : Around} {E : Value → Shared → Prop} {s : Shared} {env : Env} {e : Addr}
/-- what a raise under a handler wants of the value raised -/
noncomputable def Under (e : Addr) (E : Value → Shared → Prop) (v : Value) (s₁ : Shared) : Prop :=
  ∃ a ob vs oe ws, v = .ref a ∧ a ≠ e ∧ s₁.heap.get? a = some ob ∧ ob.cls = .type "ValueError" ∧ ob.data = .fields vs ∧ vs[1]? = some .none ∧ 2 < vs.size ∧ s₁.heap.get? e = some oe ∧ oe.data = .fields ws ∧ ws[2]? = some .none ∧
    E (.ref a) { s₁ with heap := s₁.heap.update a (Obj.mapFields (·.setIfInBounds 2 (.ref e))) }

theorem raise_new_under {α : Type} {a : Addr} {ob oe : Obj} {vs ws : Array Value} {Q : α → Shared → Prop} (hh : A.handled = some (.ref e)) (hne : a ≠ e) (ha : s.heap.get? a = some ob) (hd : ob.data = .fields vs) (h2 : 2 < vs.size)
    (he : s.heap.get? e = some oe) (hw : oe.data = .fields ws) (h0 : ws[2]? = some .none) (hE : E (.ref a) { s with heap := s.heap.update a (Obj.mapFields (·.setIfInBounds 2 (.ref e))) }) :
    wpAny (model prog w) A (raiseNew (.ref a) : Sem α) Q E s := by
  unfold raiseNew
  refine wpAny_bind (wpAny_handled ?_)
  rw [hh]
  dsimp only
  rw [if_pos (show (Value.ref e != Value.ref a) = true from by simp [Ne.symm hne])]
  have key : wpAny (model prog w) A (holding [.ref a] (runValue (.builtin "proto.unchain" ⟨[.ref a, .ref e, .ref e, .bool false], []⟩))) (fun _ s' => s' = s) E s := by
    refine wpAny_holding (wpAny_runValue (codeAny_builtin entry_unchain ?_))
    unfold Builtin.«proto.unchain»
    dsimp only
    refine wpAny_bind (wpAny_field he hw h0 ?_)
    rw [if_pos (show (Value.none == Value.none) = true from rfl)]
    exact wpAny_pure rfl
  have put : ∀ {Q' : Unit → Shared → Prop}, Q' () { s with heap := s.heap.update a (Obj.mapFields (·.setIfInBounds 2 (.ref e))) } → wpAny (model prog w) A (updateField a 2 (.ref e)) Q' E s := fun hq => by
    simp only [updateField]
    refine wpAny_bind (wpAny_load ha ?_)
    rw [hd]
    dsimp only
    rw [if_pos h2]
    exact wpAny_update ha hq
  first
    | exact wpAny_bind (wpAny_bind (wpAny_mono key (fun _ s' e' => by subst e'; exact put (wpAny_throw hE)) fun _ _ x => x))
    | exact wpAny_bind (wpAny_mono key (fun _ s' e' => by subst e'; exact wpAny_bind (put (wpAny_throw hE))) fun _ _ x => x)

theorem Raise_under {x : PySem.Expr} {pos : Pos} {Q : Flow → Shared → Prop} (hh : A.handled = some (.ref e)) (h : wpAny (model prog w) A (eval x env) (Under e E) E s) :
    wpAny (model prog w) A (exec (.Raise (some x) none pos) env) Q E s := by
  show wpAny _ A (do standAt pos; raiseStmt env (some (do let v ← eval x env; standAt pos; pure v)) none) Q E s
  refine wpAny_bind (wpAny_standAt ?_)
  unfold raiseStmt
  dsimp only
  refine wpAny_bind (wpAny_bind (wpAny_mono h (fun v s₁ h₁ => wpAny_bind (wpAny_standAt (wpAny_pure ?_))) fun _ _ x => x))
  obtain ⟨a, ob, vs, oe, ws, rfl, hne, ha, hcls, hd, h1, h2, he, hw, hw2, hE⟩ := h₁
  have hT : s₁.TypeIs (.ref a) "ValueError" := ⟨ob, ha, hcls⟩
  have hnt : ∀ {Q' : Bool → Shared → Prop}, Q' false s₁ → wpAny (model prog w) A (isType (.ref a)) Q' E s₁ := by
    intro Q' hq
    simp only [isType, loadHead]
    refine wpAny_bind (wpAny_loadPart ha ?_)
    rw [hd]; exact wpAny_pure hq
  refine wpAny_bind (wpAny_pure ?_)
  dsimp only
  refine wpAny_bind (wpAny_holding ?_)
  unfold excFromValue isExcClass
  refine wpAny_bind (wpAny_bind (hnt ?_))
  simp only [Bool.false_eq_true, if_false]
  refine wpAny_pure ?_
  simp only [Bool.false_eq_true, if_false]
  refine wpAny_bind (wpAny_isInstance hT excClass_ValueError.base ?_)
  simp only [if_true]
  refine wpAny_pure ?_
  refine wpAny_bind (hnt ?_)
  simp only [Bool.false_eq_true, if_false]
  unfold raisedInstance
  refine wpAny_bind (wpAny_bind (wpAny_typeOf hT (wpAny_bind (m := typeOf (.type "ValueError")) (wpAny_pure ?_))))
  rw [if_pos excClass_ValueError.metaType]
  refine wpAny_pure ?_
  unfold setFlight
  refine wpAny_bind (wpAny_bind (wpAny_field ha hd h1 ?_))
  rw [if_neg (by decide)]
  exact wpAny_pure (raise_new_under hh hne ha hd h2 he hw hw2 hE)
end

theorem leave_newOfS {M : Model} {A : Around} {E : Value → Shared → Prop} {s' : Shared} {base g h : Heap} {outer : List Env} {L a e : Addr} {m : Str → Option Value} {name : Str} {scope : Scope} {cd : Value} {Q : Unit → Shared → Prop} {news : List (Addr × Obj)} {cls : String}
    (K : Below A base outer g) (hx : Heap.NewExcOf h s'.heap e cls) (F : Fr g L h m) (N : News g L h news)
    (hQ : ∀ h', RaisedSN base g outer e (.type cls) news h' → g.UpToSlots h' → Q () { s' with heap := h' }) (hk : scope.kind = .function) :
    wpAny M (A.deeper (envOf name scope L a cd)) (leaving (envOf name scope L a cd) (.ref e)) Q E s' := by
  have K' := K.push (name := name) (a := a) (cd := cd) F hk
  have hin : ∀ env ∈ (envOf name scope L a cd :: outer), ∀ b, env.frame = some b → b ∈ (envOf name scope L a cd :: outer).filterMap (·.frame) := fun env he b hb => List.mem_filterMap.mpr ⟨env, he, hb⟩
  have hNf : ∀ q ∈ news, q.1 ∉ (envOf name scope L a cd :: outer).filterMap (·.frame) := fun q hq hm => by
    rcases kts_mem hm with z | z
    · exact (N q hq).2.1 z
    · obtain ⟨o, ho, _⟩ := (K.frames.mem z).2
      rw [(N q hq).2.2] at ho; cases ho
  have st : base.StaysIn (hideAll h ((envOf name scope L a cd :: outer).filterMap (·.frame))) := fun b o q => hideAll_get _ (K'.stays b o q) fun hm => by
    rw [(K'.frames.mem hm).1] at q; cases q
  have sg : ∀ b o, g.get? b = some o → b ∉ outer.filterMap (·.frame) → (hideAll h ((envOf name scope L a cd :: outer).filterMap (·.frame))).get? b = some o := fun b o q nm => hideAll_get _ (F.keep b o q) fun hm => by
    rcases kts_mem hm with z | z
    · rw [z, kts_self F] at q; cases q
    · exact nm z
  obtain ⟨ob, vs, he, hcls, hd, h1⟩ := hx.there
  have hs := (Array.getElem?_eq_some_iff.mp h1).1
  have h0 : vs[0]? = some vs[0] := Array.getElem?_eq_some_iff.mpr ⟨by omega, rfl⟩
  have hen : (hideAll h ((envOf name scope L a cd :: outer).filterMap (·.frame))).get? e = none := by
    cases q : (hideAll h ((envOf name scope L a cd :: outer).filterMap (·.frame))).get? e with
    | none => rfl
    | some o => have := of_hideAll _ q; rw [hx.new] at this; cases this
  refine wpAny_leaving_firstW K'.stack ((funFrames_hide K'.frames hin).of_keeps fun b o hb _ => ⟨o, hx.keeps b o hb, rfl⟩) rfl he (fun b o hb => hx.keeps b o (of_hideAll _ hb)) hen hd h1 h0 fun h' hL => ?_
  obtain ⟨k1, ⟨_, _, k2⟩, k3, k4⟩ := hL
  refine hQ h' ⟨_, _, st, sg, fun q hq => ⟨hideAll_get _ (N q hq).1 (hNf q hq), (N q hq).2.2, fresh_of_stays K.stays (N q hq).2.2⟩, k1, hen, k2, by rw [← hcls]; exact k3⟩ (((Heap.UpToSlots.of_keeps F.keep).trans (Heap.UpToSlots.of_keeps hx.keeps)).trans k4)
theorem raisedSN_ground {base g g' : Heap} {l : List Env} {e : Addr} {cls : Value} {news : List (Addr × Obj)} {h : Heap} (R : RaisedSN base g' l e cls news h)
    (hO : ∀ b o, g.get? b = some o → b ∉ l.filterMap (·.frame) → g'.get? b = some o) (hY : ∀ b, g'.get? b = none → g.get? b = none) : RaisedSN base g l e cls news h := by
  obtain ⟨B, a0, x1, x2, x3, x4⟩ := R
  exact ⟨B, a0, x1, fun b o q n => x2 b o (hO b o q n) n, fun q hq => ⟨(x3 q hq).1, hY _ (x3 q hq).2.1, (x3 q hq).2.2⟩, x4⟩
end Mine
end

section
open PySem PySem.W PyProof.Rows PySem.Spec PySem.Calls
namespace Mine

set_option maxRecDepth 100000 in
set_option maxHeartbeats 8000000 in
theorem dec_bad (w : World) (mean : ExcName → Option Value) (mg mb : Str → Option Value) (x : Str) (tx : Tok) (hx : ∃ c ∈ x.cps, 128 ≤ c) (hl : x.cps.size ≤ 1000)
    {e1 e2 : Env} {cn : Str} {cs : Scope} {L a : Addr} {ccd : Value} {base h₀ : Heap} {m : Str → Option Value} {news : List (Addr × Obj)} {s : Shared} {Q E : Value → Shared → Prop}
    (B : Below ((callerA.deeper e1).deeper e2) base [e2, e1] h₀) (F : Fr h₀ L s.heap m) (X : (hd.heap_39 w.params).In h₀) (N : News h₀ L s.heap news) (T : Top hd.view_39 loose0 mean mg mb h₀)
    (XB : (hd.heap_39 w.params).In base) (TB : Top hd.view_39 loose0 mean mg mb base) {fs : List Addr} {g₁ : Heap} (D : KtsDicts fs g₁) (hck : cs.kind = .function)
    (bad : ∀ G e h' tk', Fr h₀ L G m → RaisedSN base G (envOf cn cs L a ccd :: [e2, e1]) e (.type "ValueError") news h' → G.UpToSlots h' → E (.ref e) { s with heap := h', toks := tk' }) :
    wpAny (model Challenge.rw_qh0085_01.row.prog w) (((callerA.deeper e1).deeper e2).deeper (envOf cn cs L a ccd)) (call (.ref 29) [.str x tx]) Q E s := by
  w_top off
  k_with_none
  k_with "getMethod str" => (with_reducible refine method_encode ?_)
  revert X; k_fill; intro X
  refine wpAny_call ?_
  (refine' code_def ?k1 ?k2 ?k3 ?k4 ?k5 ?kA ?kF ?kK ?k6 ?k7 ?k8 ?k9 ?kB ?_ ?c2 ?c3 ?c4 ?c5; (case kA => exact rfl); (case kF => exact rfl); (case kK => first | exact rfl | assumption); (case k1 => k_asm); (case k2 => k_asm); (case k3 => k_asm); (case k4 => k_asm); (case k5 => k_asm); (case k6 => k_is); (case k7 => k_is); (case k8 => k_room); (case k9 => first | exact BindsTo.of_eq rfl | exact binds_K (by k_in) rfl (by k_is) rfl rfl rfl | fail "k_enter: no rule for these arguments"); (case c5 => decide); (case kB => exact locs rfl); (case c2 => exact rfl); (case c3 => exact rfl); (case c4 => exact rfl); k_whole; intro g' L' h' FG' F' N' B' X' T'; (try dsimp only); (try k_lift B'); (try k_fold))
  k_steps
  refine call_encode_bad hx hl rfl fun h1 tk1 e1' hU => ?_
  rename Below _ _ _ _ => B5
  rename Fr _ _ _ _ => F5
  rename News _ _ _ _ => N5
  rename Fr h₀ _ _ _ => FG5
  with_unfolding_all refine enc_caught B5 F5 N5 hU XB TB ?ex ?hv ?hn ?k ?hk ?hkx ?hd ?hE
  case ex => k_is
  case hv => with_unfolding_all rfl
  case hn => decide
  case hk => rfl
  case hkx => rfl
  case hd => decide
  case hE => with_unfolding_all passes_own
  case k =>
    intro h2 g2 F2 N2 B2 X2 T2 H2 U2 O2 Z2 Y2
    iterate 2 (first | (k_unfold; (try dsimp only)) | (k_end; wrow_close) | walk1 | (dsimp only; walk1) | (leave1; try dsimp only))
    with_unfolding_all refine Raise_under rfl ?_
    iterate 6 (first | (k_unfold; (try dsimp only)) | (k_end; wrow_close) | walk1 | (dsimp only; walk1) | (leave1; try dsimp only))
    refine wpAny_call_exc PySem.F.excCall_ValueError (fun h3 e3 hM => ?_) (by rw [sizeLine_eq]; simp)
    obtain ⟨BB, ll, HE⟩ := H2
    obtain ⟨oe, ws, he1, he2, he3, he4⟩ := HE.ne
    obtain ⟨t3, ht3, -, -⟩ := hM.there
    have hne : e3 ≠ e1' := by rintro rfl; rw [hM.new] at he1; cases he1
    refine ⟨e3, _, _, oe, ws, rfl, hne, ht3, rfl, rfl, rfl, by simp, hM.keeps _ _ he1, he3, he4, ?_⟩
    have hX : Heap.NewExcOf h2 (h3.update e3 (Obj.mapFields (·.setIfInBounds 2 (.ref e1')))) e3 "ValueError" := by
      refine ⟨fun b o hb => ?_, hM.new, _, _, Heap.get?_update_self _ ht3 rfl, rfl, rfl, rfl⟩
      have hbe : e3 ≠ b := by rintro rfl; rw [hM.new] at hb; cases hb
      rw [Heap.get?_update_other _ _ hbe]
      exact hM.keeps b o hb
    with_unfolding_all refine leave_newOfS B2 hX F2 N2 (fun h4 R4 U4 => ?_) rfl
    exact bad _ _ _ _ FG5 (raisedSN_ground R4 O2 Y2) (U2.trans U4)
end Mine
end

section
open PySem PySem.W PyProof.Rows
namespace Mine
/-- the law's own body and scope, read off the given row -/
noncomputable def lawParts : List Stmt × Scope := match Challenge.pw_qh0085_01.main.body.getLast? with | some (.FunctionDef _ _ body _ _ _ scope _ _ _) => (body, scope) | _ => ([], default)
noncomputable abbrev lawEnv (L fa : Addr) (cd : Value) : Env := envOfC (Str.ofString "law") lawParts.2 L fa cd
noncomputable abbrev prog1 : Program := Challenge.rw_qh0085_01.row.prog

theorem execs_two {M : Model} {A : Around} {env : Env} {E : Value → Shared → Prop} {Q : Flow → Shared → Prop} (a : List Stmt) {b : List Stmt} {s : Shared} (h : wpAny M A (execs a env) (fun f s' => match f with | .next => wpAny M A (execs b env) Q E s' | _ => False) E s) : wpAny M A (execs (a ++ b) env) Q E s := by
  intro Γ p hΓ
  have key : ∀ (a : List Stmt) (p : Pos) (s : Shared), Sem.wp M Γ (execs a env) (fun f _ s' => match f with | .next => wpAny M A (execs b env) Q E s' | _ => False) (fun e _ s' => E e s') p s → Sem.wp M Γ (execs (a ++ b) env) (fun f _ s' => Q f s') (fun e _ s' => E e s') p s := by
    intro a
    induction a with
    | nil =>
      intro p s h
      rw [execs_nil] at h
      exact h Γ p hΓ
    | cons st r ih =>
      intro p s h
      rw [List.cons_append, execs_cons, Sem.wp_bind']
      rw [execs_cons, Sem.wp_bind'] at h
      refine Sem.wp_mono _ Γ _ (fun f p' s' h'' => ?_) (fun _ _ _ x => x) _ _ h
      cases f with
      | next => exact ih _ _ h''
      | brk => exact False.elim h''
      | cont => exact False.elim h''
      | ret v => exact False.elim h''
  exact key a p s (h Γ p hΓ)

theorem Fr.pick {h₀ h : Heap} {L : Addr} {m : Str → Option Value} {a : Str} {v : Value} (F : Fr h₀ L h m) (e : m a = some v) : Fr h₀ L h (fun y => if y = a then some v else m y) :=
  Fr.norm F fun y => by
    by_cases hy : y = a
    · rw [if_pos hy, hy, e]
    · rw [if_neg hy]

/-- the 65 signs that are no letters, no figures and not = -/
noncomputable def othersL : List Int := [0, 1, 2, 3, 4, 5, 6, 7, 8, 9, 10, 11, 12, 13, 14, 15, 16, 17, 18, 19, 20, 21, 22, 23, 24, 25, 26, 27, 28, 29, 30, 31, 32, 33, 34, 35, 36, 37, 38, 39, 40, 41, 42, 43, 44, 45, 46, 47, 58, 59, 60, 62, 63, 64, 91, 92, 93, 94, 95, 96, 123, 124, 125, 126, 127]
theorem othersL_len : (othersL.length : Int) = 65 := rfl
theorem othersL_len' : othersL.length = 65 := rfl
noncomputable def pr0 (t : Int) : Int := othersL.getD (33 + t.fmod 31).toNat 0
noncomputable def pr1 (t : Int) : Int := othersL.getD (33 + (t.fmod 31 + 1 + (t.fdiv 31).fmod 30).fmod 31).toNat 0
noncomputable def valO : Option (List Int) → Tok → Value
  | none, _ => .none
  | some os, t => .bytes (byteArr os) t
end Mine
end

section
open PySem PySem.W PyProof.Rows
namespace Mine

set_option maxRecDepth 100000 in
theorem find_mt (p : Params) : findCls (hd.heap_39 p) (.type "bytes") (.type "type") (Str.ofString "maketrans") = some (.val (.builtin "bytes.maketrans")) := by kernel_rfl
set_option maxRecDepth 100000 in
theorem stub_bytes : Manifest.isStub "bytes" = false := by decide +kernel
set_option maxRecDepth 100000 in
theorem handed_mt : handedIn (.builtin "bytes.maketrans") = true := by decide +kernel
set_option maxRecDepth 100000 in
theorem method_maketrans {prog : Program} {w : World} {A : Around} {E : Value → Shared → Prop} {s : Shared} {h₀ : Heap} {L : Addr} {m : Str → Option Value} {p : Params} {pl : Sem Bool} {Q : Value × List Value → Shared → Prop} (F : Fr h₀ L s.heap m) (X₀ : (hd.heap_39 p).In h₀)
    (h : Q (.builtin "bytes.maketrans", []) { s with toks := s.toks + 1 }) : wpAny (model prog w) A (getMethod (.type "bytes") (Str.ofString "maketrans") pl) Q E s :=
  by with_reducible exact method_type (T := "bytes") (v := .builtin "bytes.maketrans") F X₀ PySem.F.isi_meta_bytes stub_bytes (find_mt p) handed_mt h

abbrev ToldClaim (w : World) (mean : ExcName → Option Value) (mg mb : Str → Option Value) (f : Addr) (vs : List Value) (R : Tok → Value) : Prop :=
  ∀ (cn : Str) (cs : Scope) (a : Addr) (ccd : Value) (cl : List (Str × Addr)) (h₀ : Heap) (L : Addr) (m : Str → Option Value) (news : List (Addr × Obj)) (s : Shared) (Q E : Value → Shared → Prop),
    Below callerA h₀ [] h₀ → Fr h₀ L s.heap m → (hd.heap_39 w.params).In h₀ → News h₀ L s.heap news → Top hd.view_39 loose0 mean mg mb h₀ → cs.kind = .function →
    CbRet h₀ L m news s Q R →
      wpAny (model Challenge.rw_qh0085_01.row.prog w) (callerA.deeper (envX cn cs L a ccd cl)) (call (.ref f) vs) Q E s


local macro_rules | `(tactic| walk_at "call ref") => `(tactic| ((with_reducible show wpAny _ _ (call (Value.ref 71) _ _) _ _ _); (with_unfolding_all (first | refine' a2b_f _ _ _ _ _ _ ?hb ?k1 ?k2 ?k3 ?k4 ?k5 ?k6 ?k7 ?ok ?bad | refine' a2b_t _ _ _ _ _ _ ?hb ?k1 ?k2 ?k3 ?k4 ?k5 ?k6 ?k7 ?ok ?bad)); (case k1 => k_asm); (case k2 => k_asm); (case k3 => k_asm); (case k4 => k_asm); (case k5 => k_asm); (case k6 => k_asm); (case k7 => exact rfl); (case hb => first | assumption | (simp only [Array.size_map]; omega)); (case' ok => intro o1 t1 h1 tk1 ha1 F1 N1); (case' bad => intro G1 e1 t1 vs1 h1 tk1 ha1 F1 R1 U1)))


local macro_rules | `(tactic| walk_at "call builtin:repr") => `(tactic| (exfalso; omega))

noncomputable def asc (x : Str) : Array UInt8 := x.cps.map (·.toUInt8)
noncomputable def trans (al b : Array UInt8) : Array UInt8 := b.map fun c => (tableOf al #[43, 47]).getD c.toNat c

set_option maxRecDepth 100000 in
set_option maxHeartbeats 8000000 in
theorem told_bnf (w : World) (mean : ExcName → Option Value) (mg mb : Str → Option Value) (b : Array UInt8) (tb : Tok) (hb : b.size ≤ 1000) :
    ToldClaim w mean mg mb 135 [Value.bytes b tb, Value.none, Value.bool false] (fun t => valO (a2bP false (KBw.bInts b)) t) := by
  w_top off
  k_with_none
  k_with "getMethod bytes" => (with_reducible refine method_translate ?_)
  k_with "getMethod type:bytes" => (with_reducible refine method_maketrans (by assumption) (by assumption) ?_)
  k_with "call builtin:bytes.maketrans" => ((with_reducible show wpAny _ _ (call (Value.builtin "bytes.maketrans") [Value.bytes _ _, Value.bytes _ _]) _ _ _); refine call_maketrans (by first | assumption | (simp_all; done)) ?_; intro _ _)
  k_with "call builtin:bytes.translate" => ((with_reducible show wpAny _ _ (call (Value.builtin "bytes.translate") [Value.bytes _ _, Value.bytes _ _]) _ _ _); refine call_translate (tableOf_size _ _) (by first | omega | (simp only [Array.size_map]; omega)) ?_; intro _ _)
  k_with "getMethod str" => (with_reducible refine method_encode ?_)
  k_with "call builtin:str.encode" => ((with_reducible show wpAny _ _ (call (Value.builtin "str.encode") [Value.str _ _, Value.str _ _]) _ _ _); refine call_encode (by assumption) (by omega) ?_; intro _ _)
  dsimp only [ToldClaim, CbRet]
  k_fill
  intro cn cs a ccd cl h₀ L m news s Q E B F X N T hk hret
  (try dsimp only [trans, asc] at hret)
  refine wpAny_call ?_
  (refine' enterLaw ?k1 ?k2 ?k3 ?k4 ?k5 ?kA ?kF ?kK ?k6 ?k7 ?k8 ?k9 ?kB ?_ ?c2 ?c3 ?c4 ?c5; (case kA => exact rfl); (case kF => exact rfl); (case kK => assumption); (case k2 => k_asm); (case k1 => k_asm); (case k3 => k_asm); (case k4 => k_asm); (case k5 => k_asm); (case k6 => k_is); (case k7 => k_is); (case k8 => k_room); (case k9 => first | exact binds_K (by k_in) rfl (by k_is) rfl rfl rfl | exact BindsTo.of_eq rfl | fail "kts_go: no rule for these arguments"); (case kB => exact locs rfl); (case c2 => exact rfl); (case c3 => exact rfl); (case c4 => exact rfl); (case c5 => decide); k_whole; intro g' L' h' FG' F' N' B' X' T' D'; (try dsimp only); (try k_lift B'); (try k_fold))
  k_steps
  all_goals (rename a2bP _ _ = _ => hE; rw [hE] at hret; (first | exact hret 0 _ _ (by assumption) (by assumption) | exact hret _ _ _ (by assumption) (by assumption)))

set_option maxRecDepth 100000 in
set_option maxHeartbeats 8000000 in
theorem told_bnt (w : World) (mean : ExcName → Option Value) (mg mb : Str → Option Value) (b : Array UInt8) (tb : Tok) (hb : b.size ≤ 1000) :
    ToldClaim w mean mg mb 135 [Value.bytes b tb, Value.none, Value.bool true] (fun t => valO (a2bP true (KBw.bInts b)) t) := by
  w_top off
  k_with_none
  k_with "getMethod bytes" => (with_reducible refine method_translate ?_)
  k_with "getMethod type:bytes" => (with_reducible refine method_maketrans (by assumption) (by assumption) ?_)
  k_with "call builtin:bytes.maketrans" => ((with_reducible show wpAny _ _ (call (Value.builtin "bytes.maketrans") [Value.bytes _ _, Value.bytes _ _]) _ _ _); refine call_maketrans (by first | assumption | (simp_all; done)) ?_; intro _ _)
  k_with "call builtin:bytes.translate" => ((with_reducible show wpAny _ _ (call (Value.builtin "bytes.translate") [Value.bytes _ _, Value.bytes _ _]) _ _ _); refine call_translate (tableOf_size _ _) (by first | omega | (simp only [Array.size_map]; omega)) ?_; intro _ _)
  k_with "getMethod str" => (with_reducible refine method_encode ?_)
  k_with "call builtin:str.encode" => ((with_reducible show wpAny _ _ (call (Value.builtin "str.encode") [Value.str _ _, Value.str _ _]) _ _ _); refine call_encode (by assumption) (by omega) ?_; intro _ _)
  dsimp only [ToldClaim, CbRet]
  k_fill
  intro cn cs a ccd cl h₀ L m news s Q E B F X N T hk hret
  (try dsimp only [trans, asc] at hret)
  refine wpAny_call ?_
  (refine' enterLaw ?k1 ?k2 ?k3 ?k4 ?k5 ?kA ?kF ?kK ?k6 ?k7 ?k8 ?k9 ?kB ?_ ?c2 ?c3 ?c4 ?c5; (case kA => exact rfl); (case kF => exact rfl); (case kK => assumption); (case k2 => k_asm); (case k1 => k_asm); (case k3 => k_asm); (case k4 => k_asm); (case k5 => k_asm); (case k6 => k_is); (case k7 => k_is); (case k8 => k_room); (case k9 => first | exact binds_K (by k_in) rfl (by k_is) rfl rfl rfl | exact BindsTo.of_eq rfl | fail "kts_go: no rule for these arguments"); (case kB => exact locs rfl); (case c2 => exact rfl); (case c3 => exact rfl); (case c4 => exact rfl); (case c5 => decide); k_whole; intro g' L' h' FG' F' N' B' X' T' D'; (try dsimp only); (try k_lift B'); (try k_fold))
  k_steps
  all_goals (rename a2bP _ _ = _ => hE; rw [hE] at hret; (first | exact hret 0 _ _ (by assumption) (by assumption) | exact hret _ _ _ (by assumption) (by assumption)))

set_option maxRecDepth 100000 in
set_option maxHeartbeats 8000000 in
theorem told_bbf (w : World) (mean : ExcName → Option Value) (mg mb : Str → Option Value) (b : Array UInt8) (tb : Tok) (hb : b.size ≤ 1000) (al : Array UInt8) (ta : Tok) (hal : al.size = 2) :
    ToldClaim w mean mg mb 135 [Value.bytes b tb, Value.bytes al ta, Value.bool false] (fun t => valO (a2bP false (KBw.bInts (trans al b))) t) := by
  w_top off
  k_with_none
  k_with "getMethod bytes" => (with_reducible refine method_translate ?_)
  k_with "getMethod type:bytes" => (with_reducible refine method_maketrans (by assumption) (by assumption) ?_)
  k_with "call builtin:bytes.maketrans" => ((with_reducible show wpAny _ _ (call (Value.builtin "bytes.maketrans") [Value.bytes _ _, Value.bytes _ _]) _ _ _); refine call_maketrans (by first | assumption | (simp_all; done)) ?_; intro _ _)
  k_with "call builtin:bytes.translate" => ((with_reducible show wpAny _ _ (call (Value.builtin "bytes.translate") [Value.bytes _ _, Value.bytes _ _]) _ _ _); refine call_translate (tableOf_size _ _) (by first | omega | (simp only [Array.size_map]; omega)) ?_; intro _ _)
  k_with "getMethod str" => (with_reducible refine method_encode ?_)
  k_with "call builtin:str.encode" => ((with_reducible show wpAny _ _ (call (Value.builtin "str.encode") [Value.str _ _, Value.str _ _]) _ _ _); refine call_encode (by assumption) (by omega) ?_; intro _ _)
  dsimp only [ToldClaim, CbRet]
  k_fill
  intro cn cs a ccd cl h₀ L m news s Q E B F X N T hk hret
  (try dsimp only [trans, asc] at hret)
  have hal2 : (al.size : Int) = 2 := by omega
  refine wpAny_call ?_
  (refine' enterLaw ?k1 ?k2 ?k3 ?k4 ?k5 ?kA ?kF ?kK ?k6 ?k7 ?k8 ?k9 ?kB ?_ ?c2 ?c3 ?c4 ?c5; (case kA => exact rfl); (case kF => exact rfl); (case kK => assumption); (case k2 => k_asm); (case k1 => k_asm); (case k3 => k_asm); (case k4 => k_asm); (case k5 => k_asm); (case k6 => k_is); (case k7 => k_is); (case k8 => k_room); (case k9 => first | exact binds_K (by k_in) rfl (by k_is) rfl rfl rfl | exact BindsTo.of_eq rfl | fail "kts_go: no rule for these arguments"); (case kB => exact locs rfl); (case c2 => exact rfl); (case c3 => exact rfl); (case c4 => exact rfl); (case c5 => decide); k_whole; intro g' L' h' FG' F' N' B' X' T' D'; (try dsimp only); (try k_lift B'); (try k_fold))
  k_steps
  all_goals (rename a2bP _ _ = _ => hE; rw [hE] at hret; (first | exact hret 0 _ _ (by assumption) (by assumption) | exact hret _ _ _ (by assumption) (by assumption)))

set_option maxRecDepth 100000 in
set_option maxHeartbeats 8000000 in
theorem told_bbt (w : World) (mean : ExcName → Option Value) (mg mb : Str → Option Value) (b : Array UInt8) (tb : Tok) (hb : b.size ≤ 1000) (al : Array UInt8) (ta : Tok) (hal : al.size = 2) :
    ToldClaim w mean mg mb 135 [Value.bytes b tb, Value.bytes al ta, Value.bool true] (fun t => valO (a2bP true (KBw.bInts (trans al b))) t) := by
  w_top off
  k_with_none
  k_with "getMethod bytes" => (with_reducible refine method_translate ?_)
  k_with "getMethod type:bytes" => (with_reducible refine method_maketrans (by assumption) (by assumption) ?_)
  k_with "call builtin:bytes.maketrans" => ((with_reducible show wpAny _ _ (call (Value.builtin "bytes.maketrans") [Value.bytes _ _, Value.bytes _ _]) _ _ _); refine call_maketrans (by first | assumption | (simp_all; done)) ?_; intro _ _)
  k_with "call builtin:bytes.translate" => ((with_reducible show wpAny _ _ (call (Value.builtin "bytes.translate") [Value.bytes _ _, Value.bytes _ _]) _ _ _); refine call_translate (tableOf_size _ _) (by first | omega | (simp only [Array.size_map]; omega)) ?_; intro _ _)
  k_with "getMethod str" => (with_reducible refine method_encode ?_)
  k_with "call builtin:str.encode" => ((with_reducible show wpAny _ _ (call (Value.builtin "str.encode") [Value.str _ _, Value.str _ _]) _ _ _); refine call_encode (by assumption) (by omega) ?_; intro _ _)
  dsimp only [ToldClaim, CbRet]
  k_fill
  intro cn cs a ccd cl h₀ L m news s Q E B F X N T hk hret
  (try dsimp only [trans, asc] at hret)
  have hal2 : (al.size : Int) = 2 := by omega
  refine wpAny_call ?_
  (refine' enterLaw ?k1 ?k2 ?k3 ?k4 ?k5 ?kA ?kF ?kK ?k6 ?k7 ?k8 ?k9 ?kB ?_ ?c2 ?c3 ?c4 ?c5; (case kA => exact rfl); (case kF => exact rfl); (case kK => assumption); (case k2 => k_asm); (case k1 => k_asm); (case k3 => k_asm); (case k4 => k_asm); (case k5 => k_asm); (case k6 => k_is); (case k7 => k_is); (case k8 => k_room); (case k9 => first | exact binds_K (by k_in) rfl (by k_is) rfl rfl rfl | exact BindsTo.of_eq rfl | fail "kts_go: no rule for these arguments"); (case kB => exact locs rfl); (case c2 => exact rfl); (case c3 => exact rfl); (case c4 => exact rfl); (case c5 => decide); k_whole; intro g' L' h' FG' F' N' B' X' T' D'; (try dsimp only); (try k_lift B'); (try k_fold))
  k_steps
  all_goals (rename a2bP _ _ = _ => hE; rw [hE] at hret; (first | exact hret 0 _ _ (by assumption) (by assumption) | exact hret _ _ _ (by assumption) (by assumption)))

set_option maxRecDepth 100000 in
set_option maxHeartbeats 8000000 in
theorem told_snf (w : World) (mean : ExcName → Option Value) (mg mb : Str → Option Value) (x : Str) (tx : Tok) (hx : ∀ c ∈ x.cps, c < 128) (hl : x.cps.size ≤ 1000) :
    ToldClaim w mean mg mb 135 [Value.str x tx, Value.none, Value.bool false] (fun t => valO (a2bP false (KBw.bInts (asc x))) t) := by
  w_top off
  k_with_none
  k_with "getMethod bytes" => (with_reducible refine method_translate ?_)
  k_with "getMethod type:bytes" => (with_reducible refine method_maketrans (by assumption) (by assumption) ?_)
  k_with "call builtin:bytes.maketrans" => ((with_reducible show wpAny _ _ (call (Value.builtin "bytes.maketrans") [Value.bytes _ _, Value.bytes _ _]) _ _ _); refine call_maketrans (by first | assumption | (simp_all; done)) ?_; intro _ _)
  k_with "call builtin:bytes.translate" => ((with_reducible show wpAny _ _ (call (Value.builtin "bytes.translate") [Value.bytes _ _, Value.bytes _ _]) _ _ _); refine call_translate (tableOf_size _ _) (by first | omega | (simp only [Array.size_map]; omega)) ?_; intro _ _)
  k_with "getMethod str" => (with_reducible refine method_encode ?_)
  k_with "call builtin:str.encode" => ((with_reducible show wpAny _ _ (call (Value.builtin "str.encode") [Value.str _ _, Value.str _ _]) _ _ _); refine call_encode (by assumption) (by omega) ?_; intro _ _)
  dsimp only [ToldClaim, CbRet]
  k_fill
  intro cn cs a ccd cl h₀ L m news s Q E B F X N T hk hret
  (try dsimp only [trans, asc] at hret)
  refine wpAny_call ?_
  (refine' enterLaw ?k1 ?k2 ?k3 ?k4 ?k5 ?kA ?kF ?kK ?k6 ?k7 ?k8 ?k9 ?kB ?_ ?c2 ?c3 ?c4 ?c5; (case kA => exact rfl); (case kF => exact rfl); (case kK => assumption); (case k2 => k_asm); (case k1 => k_asm); (case k3 => k_asm); (case k4 => k_asm); (case k5 => k_asm); (case k6 => k_is); (case k7 => k_is); (case k8 => k_room); (case k9 => first | exact binds_K (by k_in) rfl (by k_is) rfl rfl rfl | exact BindsTo.of_eq rfl | fail "kts_go: no rule for these arguments"); (case kB => exact locs rfl); (case c2 => exact rfl); (case c3 => exact rfl); (case c4 => exact rfl); (case c5 => decide); k_whole; intro g' L' h' FG' F' N' B' X' T' D'; (try dsimp only); (try k_lift B'); (try k_fold))
  k_steps
  all_goals (rename a2bP _ _ = _ => hE; rw [hE] at hret; (first | exact hret 0 _ _ (by assumption) (by assumption) | exact hret _ _ _ (by assumption) (by assumption)))

set_option maxRecDepth 100000 in
set_option maxHeartbeats 8000000 in
theorem told_snt (w : World) (mean : ExcName → Option Value) (mg mb : Str → Option Value) (x : Str) (tx : Tok) (hx : ∀ c ∈ x.cps, c < 128) (hl : x.cps.size ≤ 1000) :
    ToldClaim w mean mg mb 135 [Value.str x tx, Value.none, Value.bool true] (fun t => valO (a2bP true (KBw.bInts (asc x))) t) := by
  w_top off
  k_with_none
  k_with "getMethod bytes" => (with_reducible refine method_translate ?_)
  k_with "getMethod type:bytes" => (with_reducible refine method_maketrans (by assumption) (by assumption) ?_)
  k_with "call builtin:bytes.maketrans" => ((with_reducible show wpAny _ _ (call (Value.builtin "bytes.maketrans") [Value.bytes _ _, Value.bytes _ _]) _ _ _); refine call_maketrans (by first | assumption | (simp_all; done)) ?_; intro _ _)
  k_with "call builtin:bytes.translate" => ((with_reducible show wpAny _ _ (call (Value.builtin "bytes.translate") [Value.bytes _ _, Value.bytes _ _]) _ _ _); refine call_translate (tableOf_size _ _) (by first | omega | (simp only [Array.size_map]; omega)) ?_; intro _ _)
  k_with "getMethod str" => (with_reducible refine method_encode ?_)
  k_with "call builtin:str.encode" => ((with_reducible show wpAny _ _ (call (Value.builtin "str.encode") [Value.str _ _, Value.str _ _]) _ _ _); refine call_encode (by assumption) (by omega) ?_; intro _ _)
  dsimp only [ToldClaim, CbRet]
  k_fill
  intro cn cs a ccd cl h₀ L m news s Q E B F X N T hk hret
  (try dsimp only [trans, asc] at hret)
  refine wpAny_call ?_
  (refine' enterLaw ?k1 ?k2 ?k3 ?k4 ?k5 ?kA ?kF ?kK ?k6 ?k7 ?k8 ?k9 ?kB ?_ ?c2 ?c3 ?c4 ?c5; (case kA => exact rfl); (case kF => exact rfl); (case kK => assumption); (case k2 => k_asm); (case k1 => k_asm); (case k3 => k_asm); (case k4 => k_asm); (case k5 => k_asm); (case k6 => k_is); (case k7 => k_is); (case k8 => k_room); (case k9 => first | exact binds_K (by k_in) rfl (by k_is) rfl rfl rfl | exact BindsTo.of_eq rfl | fail "kts_go: no rule for these arguments"); (case kB => exact locs rfl); (case c2 => exact rfl); (case c3 => exact rfl); (case c4 => exact rfl); (case c5 => decide); k_whole; intro g' L' h' FG' F' N' B' X' T' D'; (try dsimp only); (try k_lift B'); (try k_fold))
  k_steps
  all_goals (rename a2bP _ _ = _ => hE; rw [hE] at hret; (first | exact hret 0 _ _ (by assumption) (by assumption) | exact hret _ _ _ (by assumption) (by assumption)))

set_option maxRecDepth 100000 in
set_option maxHeartbeats 8000000 in
theorem told_ssf (w : World) (mean : ExcName → Option Value) (mg mb : Str → Option Value) (x : Str) (tx : Tok) (hx : ∀ c ∈ x.cps, c < 128) (hl : x.cps.size ≤ 1000) (y : Str) (ty : Tok) (hy : ∀ c ∈ y.cps, c < 128) (hyl : y.cps.size = 2) :
    ToldClaim w mean mg mb 135 [Value.str x tx, Value.str y ty, Value.bool false] (fun t => valO (a2bP false (KBw.bInts (trans (asc y) (asc x)))) t) := by
  w_top off
  k_with_none
  k_with "getMethod bytes" => (with_reducible refine method_translate ?_)
  k_with "getMethod type:bytes" => (with_reducible refine method_maketrans (by assumption) (by assumption) ?_)
  k_with "call builtin:bytes.maketrans" => ((with_reducible show wpAny _ _ (call (Value.builtin "bytes.maketrans") [Value.bytes _ _, Value.bytes _ _]) _ _ _); refine call_maketrans (by first | assumption | (simp_all; done)) ?_; intro _ _)
  k_with "call builtin:bytes.translate" => ((with_reducible show wpAny _ _ (call (Value.builtin "bytes.translate") [Value.bytes _ _, Value.bytes _ _]) _ _ _); refine call_translate (tableOf_size _ _) (by first | omega | (simp only [Array.size_map]; omega)) ?_; intro _ _)
  k_with "getMethod str" => (with_reducible refine method_encode ?_)
  k_with "call builtin:str.encode" => ((with_reducible show wpAny _ _ (call (Value.builtin "str.encode") [Value.str _ _, Value.str _ _]) _ _ _); refine call_encode (by assumption) (by omega) ?_; intro _ _)
  dsimp only [ToldClaim, CbRet]
  k_fill
  intro cn cs a ccd cl h₀ L m news s Q E B F X N T hk hret
  (try dsimp only [trans, asc] at hret)
  have hal : (y.cps.map (·.toUInt8)).size = 2 := by rw [Array.size_map]; exact hyl
  have hal2 : ((y.cps.map (·.toUInt8)).size : Int) = 2 := by omega
  refine wpAny_call ?_
  (refine' enterLaw ?k1 ?k2 ?k3 ?k4 ?k5 ?kA ?kF ?kK ?k6 ?k7 ?k8 ?k9 ?kB ?_ ?c2 ?c3 ?c4 ?c5; (case kA => exact rfl); (case kF => exact rfl); (case kK => assumption); (case k2 => k_asm); (case k1 => k_asm); (case k3 => k_asm); (case k4 => k_asm); (case k5 => k_asm); (case k6 => k_is); (case k7 => k_is); (case k8 => k_room); (case k9 => first | exact binds_K (by k_in) rfl (by k_is) rfl rfl rfl | exact BindsTo.of_eq rfl | fail "kts_go: no rule for these arguments"); (case kB => exact locs rfl); (case c2 => exact rfl); (case c3 => exact rfl); (case c4 => exact rfl); (case c5 => decide); k_whole; intro g' L' h' FG' F' N' B' X' T' D'; (try dsimp only); (try k_lift B'); (try k_fold))
  k_steps
  all_goals (rename a2bP _ _ = _ => hE; rw [hE] at hret; (first | exact hret 0 _ _ (by assumption) (by assumption) | exact hret _ _ _ (by assumption) (by assumption)))

set_option maxRecDepth 100000 in
set_option maxHeartbeats 8000000 in
theorem told_sst (w : World) (mean : ExcName → Option Value) (mg mb : Str → Option Value) (x : Str) (tx : Tok) (hx : ∀ c ∈ x.cps, c < 128) (hl : x.cps.size ≤ 1000) (y : Str) (ty : Tok) (hy : ∀ c ∈ y.cps, c < 128) (hyl : y.cps.size = 2) :
    ToldClaim w mean mg mb 135 [Value.str x tx, Value.str y ty, Value.bool true] (fun t => valO (a2bP true (KBw.bInts (trans (asc y) (asc x)))) t) := by
  w_top off
  k_with_none
  k_with "getMethod bytes" => (with_reducible refine method_translate ?_)
  k_with "getMethod type:bytes" => (with_reducible refine method_maketrans (by assumption) (by assumption) ?_)
  k_with "call builtin:bytes.maketrans" => ((with_reducible show wpAny _ _ (call (Value.builtin "bytes.maketrans") [Value.bytes _ _, Value.bytes _ _]) _ _ _); refine call_maketrans (by first | assumption | (simp_all; done)) ?_; intro _ _)
  k_with "call builtin:bytes.translate" => ((with_reducible show wpAny _ _ (call (Value.builtin "bytes.translate") [Value.bytes _ _, Value.bytes _ _]) _ _ _); refine call_translate (tableOf_size _ _) (by first | omega | (simp only [Array.size_map]; omega)) ?_; intro _ _)
  k_with "getMethod str" => (with_reducible refine method_encode ?_)
  k_with "call builtin:str.encode" => ((with_reducible show wpAny _ _ (call (Value.builtin "str.encode") [Value.str _ _, Value.str _ _]) _ _ _); refine call_encode (by assumption) (by omega) ?_; intro _ _)
  dsimp only [ToldClaim, CbRet]
  k_fill
  intro cn cs a ccd cl h₀ L m news s Q E B F X N T hk hret
  (try dsimp only [trans, asc] at hret)
  have hal : (y.cps.map (·.toUInt8)).size = 2 := by rw [Array.size_map]; exact hyl
  have hal2 : ((y.cps.map (·.toUInt8)).size : Int) = 2 := by omega
  refine wpAny_call ?_
  (refine' enterLaw ?k1 ?k2 ?k3 ?k4 ?k5 ?kA ?kF ?kK ?k6 ?k7 ?k8 ?k9 ?kB ?_ ?c2 ?c3 ?c4 ?c5; (case kA => exact rfl); (case kF => exact rfl); (case kK => assumption); (case k2 => k_asm); (case k1 => k_asm); (case k3 => k_asm); (case k4 => k_asm); (case k5 => k_asm); (case k6 => k_is); (case k7 => k_is); (case k8 => k_room); (case k9 => first | exact binds_K (by k_in) rfl (by k_is) rfl rfl rfl | exact BindsTo.of_eq rfl | fail "kts_go: no rule for these arguments"); (case kB => exact locs rfl); (case c2 => exact rfl); (case c3 => exact rfl); (case c4 => exact rfl); (case c5 => decide); k_whole; intro g' L' h' FG' F' N' B' X' T' D'; (try dsimp only); (try k_lift B'); (try k_fold))
  k_steps
  all_goals (rename a2bP _ _ = _ => hE; rw [hE] at hret; (first | exact hret 0 _ _ (by assumption) (by assumption) | exact hret _ _ _ (by assumption) (by assumption)))






local macro_rules | `(tactic| walk_at "call ref") => `(tactic| ((with_reducible show wpAny _ _ (call (Value.ref 29) _ _) _ _ _); (with_unfolding_all (refine' dec_bad _ _ _ _ _ _ ?hx ?hl ?k1 ?k2 ?k3 ?k4 ?k5 ?k6 ?k7 ?kD ?k8 ?bad)); (case hx => assumption); (case hl => assumption); (case k1 => k_asm); (case k2 => k_asm); (case k3 => k_asm); (case k4 => k_asm); (case k5 => k_asm); (case k6 => k_asm); (case k7 => k_asm); (case kD => assumption); (case k8 => exact rfl); (case' bad => intro G1 e1 h1 tk1 F1 R1 U1)))

set_option maxRecDepth 100000 in
set_option maxHeartbeats 4000000 in
theorem told_xnf (w : World) (mean : ExcName → Option Value) (mg mb : Str → Option Value) (x : Str) (tx : Tok) (hx : ∃ c ∈ x.cps, 128 ≤ c) (hl : x.cps.size ≤ 1000) :
    ToldClaim w mean mg mb 135 [Value.str x tx, Value.none, Value.bool false] (fun _ => .none) := by
  w_top off
  k_with_none
  k_with "getMethod bytes" => (with_reducible refine method_translate ?_)
  k_with "getMethod type:bytes" => (with_reducible refine method_maketrans (by assumption) (by assumption) ?_)
  k_with "call builtin:bytes.maketrans" => ((with_reducible show wpAny _ _ (call (Value.builtin "bytes.maketrans") [Value.bytes _ _, Value.bytes _ _]) _ _ _); refine call_maketrans (by first | assumption | (simp_all; done)) ?_; intro _ _)
  k_with "call builtin:bytes.translate" => ((with_reducible show wpAny _ _ (call (Value.builtin "bytes.translate") [Value.bytes _ _, Value.bytes _ _]) _ _ _); refine call_translate (tableOf_size _ _) (by first | omega | (simp only [Array.size_map]; omega)) ?_; intro _ _)
  k_with "getMethod str" => (with_reducible refine method_encode ?_)
  k_with "call builtin:str.encode" => ((with_reducible show wpAny _ _ (call (Value.builtin "str.encode") [Value.str _ _, Value.str _ _]) _ _ _); refine call_encode (by assumption) (by omega) ?_; intro _ _)
  dsimp only [ToldClaim, CbRet]
  k_fill
  intro cn cs a ccd cl h₀ L m news s Q E B F X N T hk hret
  refine wpAny_call ?_
  (refine' enterLaw ?k1 ?k2 ?k3 ?k4 ?k5 ?kA ?kF ?kK ?k6 ?k7 ?k8 ?k9 ?kB ?_ ?c2 ?c3 ?c4 ?c5; (case kA => exact rfl); (case kF => exact rfl); (case kK => assumption); (case k2 => k_asm); (case k1 => k_asm); (case k3 => k_asm); (case k4 => k_asm); (case k5 => k_asm); (case k6 => k_is); (case k7 => k_is); (case k8 => k_room); (case k9 => first | exact binds_K (by k_in) rfl (by k_is) rfl rfl rfl | exact BindsTo.of_eq rfl | fail "kts_go: no rule for these arguments"); (case kB => exact locs rfl); (case c2 => exact rfl); (case c3 => exact rfl); (case c4 => exact rfl); (case c5 => decide); k_whole; intro g' L' h' FG' F' N' B' X' T' D'; (try dsimp only); (try k_lift B'); (try k_fold))
  k_steps
  all_goals exact hret 0 _ _ (by assumption) (by assumption)

set_option maxRecDepth 100000 in
set_option maxHeartbeats 4000000 in
theorem told_xnt (w : World) (mean : ExcName → Option Value) (mg mb : Str → Option Value) (x : Str) (tx : Tok) (hx : ∃ c ∈ x.cps, 128 ≤ c) (hl : x.cps.size ≤ 1000) :
    ToldClaim w mean mg mb 135 [Value.str x tx, Value.none, Value.bool true] (fun _ => .none) := by
  w_top off
  k_with_none
  k_with "getMethod bytes" => (with_reducible refine method_translate ?_)
  k_with "getMethod type:bytes" => (with_reducible refine method_maketrans (by assumption) (by assumption) ?_)
  k_with "call builtin:bytes.maketrans" => ((with_reducible show wpAny _ _ (call (Value.builtin "bytes.maketrans") [Value.bytes _ _, Value.bytes _ _]) _ _ _); refine call_maketrans (by first | assumption | (simp_all; done)) ?_; intro _ _)
  k_with "call builtin:bytes.translate" => ((with_reducible show wpAny _ _ (call (Value.builtin "bytes.translate") [Value.bytes _ _, Value.bytes _ _]) _ _ _); refine call_translate (tableOf_size _ _) (by first | omega | (simp only [Array.size_map]; omega)) ?_; intro _ _)
  k_with "getMethod str" => (with_reducible refine method_encode ?_)
  k_with "call builtin:str.encode" => ((with_reducible show wpAny _ _ (call (Value.builtin "str.encode") [Value.str _ _, Value.str _ _]) _ _ _); refine call_encode (by assumption) (by omega) ?_; intro _ _)
  dsimp only [ToldClaim, CbRet]
  k_fill
  intro cn cs a ccd cl h₀ L m news s Q E B F X N T hk hret
  refine wpAny_call ?_
  (refine' enterLaw ?k1 ?k2 ?k3 ?k4 ?k5 ?kA ?kF ?kK ?k6 ?k7 ?k8 ?k9 ?kB ?_ ?c2 ?c3 ?c4 ?c5; (case kA => exact rfl); (case kF => exact rfl); (case kK => assumption); (case k2 => k_asm); (case k1 => k_asm); (case k3 => k_asm); (case k4 => k_asm); (case k5 => k_asm); (case k6 => k_is); (case k7 => k_is); (case k8 => k_room); (case k9 => first | exact binds_K (by k_in) rfl (by k_is) rfl rfl rfl | exact BindsTo.of_eq rfl | fail "kts_go: no rule for these arguments"); (case kB => exact locs rfl); (case c2 => exact rfl); (case c3 => exact rfl); (case c4 => exact rfl); (case c5 => decide); k_whole; intro g' L' h' FG' F' N' B' X' T' D'; (try dsimp only); (try k_lift B'); (try k_fold))
  k_steps
  all_goals exact hret 0 _ _ (by assumption) (by assumption)

set_option maxRecDepth 100000 in
set_option maxHeartbeats 4000000 in
theorem told_xsf (w : World) (mean : ExcName → Option Value) (mg mb : Str → Option Value) (x : Str) (tx : Tok) (hx : ∃ c ∈ x.cps, 128 ≤ c) (hl : x.cps.size ≤ 1000) (y : Str) (ty : Tok) :
    ToldClaim w mean mg mb 135 [Value.str x tx, Value.str y ty, Value.bool false] (fun _ => .none) := by
  w_top off
  k_with_none
  k_with "getMethod bytes" => (with_reducible refine method_translate ?_)
  k_with "getMethod type:bytes" => (with_reducible refine method_maketrans (by assumption) (by assumption) ?_)
  k_with "call builtin:bytes.maketrans" => ((with_reducible show wpAny _ _ (call (Value.builtin "bytes.maketrans") [Value.bytes _ _, Value.bytes _ _]) _ _ _); refine call_maketrans (by first | assumption | (simp_all; done)) ?_; intro _ _)
  k_with "call builtin:bytes.translate" => ((with_reducible show wpAny _ _ (call (Value.builtin "bytes.translate") [Value.bytes _ _, Value.bytes _ _]) _ _ _); refine call_translate (tableOf_size _ _) (by first | omega | (simp only [Array.size_map]; omega)) ?_; intro _ _)
  k_with "getMethod str" => (with_reducible refine method_encode ?_)
  k_with "call builtin:str.encode" => ((with_reducible show wpAny _ _ (call (Value.builtin "str.encode") [Value.str _ _, Value.str _ _]) _ _ _); refine call_encode (by assumption) (by omega) ?_; intro _ _)
  dsimp only [ToldClaim, CbRet]
  k_fill
  intro cn cs a ccd cl h₀ L m news s Q E B F X N T hk hret
  refine wpAny_call ?_
  (refine' enterLaw ?k1 ?k2 ?k3 ?k4 ?k5 ?kA ?kF ?kK ?k6 ?k7 ?k8 ?k9 ?kB ?_ ?c2 ?c3 ?c4 ?c5; (case kA => exact rfl); (case kF => exact rfl); (case kK => assumption); (case k2 => k_asm); (case k1 => k_asm); (case k3 => k_asm); (case k4 => k_asm); (case k5 => k_asm); (case k6 => k_is); (case k7 => k_is); (case k8 => k_room); (case k9 => first | exact binds_K (by k_in) rfl (by k_is) rfl rfl rfl | exact BindsTo.of_eq rfl | fail "kts_go: no rule for these arguments"); (case kB => exact locs rfl); (case c2 => exact rfl); (case c3 => exact rfl); (case c4 => exact rfl); (case c5 => decide); k_whole; intro g' L' h' FG' F' N' B' X' T' D'; (try dsimp only); (try k_lift B'); (try k_fold))
  k_steps
  all_goals exact hret 0 _ _ (by assumption) (by assumption)

set_option maxRecDepth 100000 in
set_option maxHeartbeats 4000000 in
theorem told_xst (w : World) (mean : ExcName → Option Value) (mg mb : Str → Option Value) (x : Str) (tx : Tok) (hx : ∃ c ∈ x.cps, 128 ≤ c) (hl : x.cps.size ≤ 1000) (y : Str) (ty : Tok) :
    ToldClaim w mean mg mb 135 [Value.str x tx, Value.str y ty, Value.bool true] (fun _ => .none) := by
  w_top off
  k_with_none
  k_with "getMethod bytes" => (with_reducible refine method_translate ?_)
  k_with "getMethod type:bytes" => (with_reducible refine method_maketrans (by assumption) (by assumption) ?_)
  k_with "call builtin:bytes.maketrans" => ((with_reducible show wpAny _ _ (call (Value.builtin "bytes.maketrans") [Value.bytes _ _, Value.bytes _ _]) _ _ _); refine call_maketrans (by first | assumption | (simp_all; done)) ?_; intro _ _)
  k_with "call builtin:bytes.translate" => ((with_reducible show wpAny _ _ (call (Value.builtin "bytes.translate") [Value.bytes _ _, Value.bytes _ _]) _ _ _); refine call_translate (tableOf_size _ _) (by first | omega | (simp only [Array.size_map]; omega)) ?_; intro _ _)
  k_with "getMethod str" => (with_reducible refine method_encode ?_)
  k_with "call builtin:str.encode" => ((with_reducible show wpAny _ _ (call (Value.builtin "str.encode") [Value.str _ _, Value.str _ _]) _ _ _); refine call_encode (by assumption) (by omega) ?_; intro _ _)
  dsimp only [ToldClaim, CbRet]
  k_fill
  intro cn cs a ccd cl h₀ L m news s Q E B F X N T hk hret
  refine wpAny_call ?_
  (refine' enterLaw ?k1 ?k2 ?k3 ?k4 ?k5 ?kA ?kF ?kK ?k6 ?k7 ?k8 ?k9 ?kB ?_ ?c2 ?c3 ?c4 ?c5; (case kA => exact rfl); (case kF => exact rfl); (case kK => assumption); (case k2 => k_asm); (case k1 => k_asm); (case k3 => k_asm); (case k4 => k_asm); (case k5 => k_asm); (case k6 => k_is); (case k7 => k_is); (case k8 => k_room); (case k9 => first | exact binds_K (by k_in) rfl (by k_is) rfl rfl rfl | exact BindsTo.of_eq rfl | fail "kts_go: no rule for these arguments"); (case kB => exact locs rfl); (case c2 => exact rfl); (case c3 => exact rfl); (case c4 => exact rfl); (case c5 => decide); k_whole; intro g' L' h' FG' F' N' B' X' T' D'; (try dsimp only); (try k_lift B'); (try k_fold))
  k_steps
  all_goals exact hret 0 _ _ (by assumption) (by assumption)
end Mine
end

section
open PySem PySem.Spec PySem.Calls PySem.W PyProof.Rows
namespace Mine
theorem intsAre_get : ∀ {us : List Value} {ns : List Int}, IntsAre us ns → ∀ k : Nat, k < ns.length → ∃ t, us[k]? = some (.int (ns.getD k 0) t)
  | _, _, .nil, _, h => absurd h (Nat.not_lt_zero _)
  | _, _, .cons n t hI, 0, _ => ⟨t, by simp⟩
  | _, _, .cons n t hI, k + 1, h => by
    obtain ⟨t', e⟩ := intsAre_get hI k (by simpa using h)
    exact ⟨t', by simpa using e⟩
theorem item_ints {prog : Program} {w : World} {A : Around} {E : Value → Shared → Prop} {s : Shared} {value slice : PySem.Expr} {l L : Addr} {h₀ : Heap} {news : List (Addr × Obj)} {us : List Value} {ns : List Int} {c : Nat} {k : Int} {u : Tok} {Q : Value → Shared → Prop}
    (N : News h₀ L s.heap news) (hm : (l, W.listOf us.toArray c) ∈ news) (hI : IntsAre us ns) (h0 : 0 ≤ k) (h1 : k < (ns.length : Int)) (hz : ns.length ≤ 1000) (h : ∀ t, Q (.int (ns.getD k.toNat 0) t) s)
    (hs : subscripted slice false (.ref l) (.int k u) = operate [.ref l, .int k u] (getItem (.ref l) (.int k u)) := by with_unfolding_all rfl) :
    wpAny (model prog w) A (subscriptTail value slice (.ref l) (.int k u)) Q E s := by
  have hl : s.heap.IsList l us.toArray := ⟨_, (N _ hm).1, rfl, c, rfl⟩
  obtain ⟨t, ht⟩ := intsAre_get hI k.toNat (by omega)
  exact tail_any hl.typeIs slot_list_getitem.lookup (wpAny_getItem_list hl h0 (by omega) (by simpa using ht) (h t)) hs

/-- a loop that fills one list with ints -/
structure SL where
  us : List Value
  out : List Int
  n : Nat
theorem seq_end {h₀ h' : Heap} {L ll : Addr} {m₀ m' : Str → Option Value} {led0 own : List (Addr × Obj)} {adr : List Addr} {s₁ : Shared} {tk : Nat} {pre : List Int} {n : Int} {us : List Value} {out : List Int} {nn : Nat} {x : Str} {stored : List Str} {g : List Int → List Int}
    (F : Fr h₀ L h' m') (N : News h₀ L h' ((ll, W.listOf us.toArray nn) :: (led0 ++ own))) (hf : IntsAre us out)
    (hr : ∀ z, z ≠ x → stored.contains z = false → m' z = m₀ z) (hp : out = g (pre ++ [n])) (ha : ll :: led0.map (·.1) = adr) :
    InvEndN h₀ L (KstS (σ := SL) (fun c => (ll, W.listOf c.us.toArray c.n) :: led0) (fun _ => []) (fun c => IntsAre c.us c.out) x stored m₀ (fun pre c => c.out = g pre) (pre ++ [n])) own adr s₁ { s₁ with heap := h', toks := tk } := by
  refine kst_end (SL.mk us out nn) F N ?_ ?_ ha hf (fun _ h => nomatch h) (fun z hx _ hs => hr z hx hs) hp
  · exact List.forall_mem_cons.mpr ⟨.head _, fun p hp => .tail _ (List.mem_append_left _ hp)⟩
  · exact fun p hp => .tail _ (List.mem_append_right _ hp)
end Mine
end

section
open PySem PySem.Spec PySem.Calls PySem.W PyProof.Rows
namespace Mine
set_option maxRecDepth 100000
abbrev ByteAt (b : Array UInt8) (i : Nat) (v : Value) : Prop := ∃ c u, b[i]? = some c ∧ v = .int (c.toNat : Int) u
section
variable {prog : Program} {w : World} {A : Around} {E : Value → Shared → Prop} {s : Shared}
theorem extend_bytes {R : Result → Shared → Prop} (hh : A.handled = none) (b : Array UInt8) (t : Tok) (S : Addr) (res : Value) (c₀ : Nat) (hS : s.heap.get? S = some { cls := .type "list", data := .seq #[] c₀ })
    (hR : ∀ h' tk acc' c', (∀ a o, a ≠ S → s.heap.get? a = some o → h'.get? a = some o) → h'.get? S = some { cls := .type "list", dict := none, data := .seq acc' c', slots := #[] } →
      ItemsOf (ByteAt b) acc' b.size → R (.ok (.ret res)) { s with heap := h', toks := tk }) (hn : b.size ≤ sizeLine) :
    wpAny (model prog w) A.in1 (Builtin.List.listExtendWith (.ref S) (.bytes b t) res)
      (fun fin s' => match fin with | .done f => R (.ok f) s' | .again c' => c'.quiet = true ∧ codeAny (model prog w) A c' R s') (fun e s' => R (.error e) s') s := by
  have hSI : S ≠ s.heap.objs.size := Nat.ne_of_lt (Heap.lt_size hS)
  have hSf : S ∉ [s.heap.objs.size] := fun hm => hSI (List.mem_singleton.mp hm)
  unfold Builtin.List.listExtendWith
  refine wpAny_bind (wpAny_typeOf (T := "bytes") (v := .bytes b t) rfl ?_)
  have h1 : Builtin.List.listSameRef (.ref S) (.bytes b t) = false := rfl
  have h2 : (Value.type "bytes" == Value.type "list") = false := by decide
  have h3 : (Value.type "bytes" == Value.type "tuple") = false := by decide
  simp only [h1, h2, h3, Bool.or_false, Bool.false_eq_true, if_false]
  refine wpAny_bind (KBw.pyIter_bytes ?_)
  refine wpAny_bind (wpAny_holding ?_)
  unfold Builtin.List.listLengthHint
  refine wpAny_bind (wpAny_specialOf (T := "bytes") (v := .bytes b t) rfl FB.slot_bytes_len.lookup ?_)
  wp_delta
  refine wpAny_bind (wpAny_isInstance (T := "bytes") (v := .bytes b t) (b := true) rfl (by rw [isSubtype_type]; kernel_rfl) ?_)
  show wpAny _ _ (typeOf (Value.bytes b t) >>= _) _ _ _
  refine wpAny_bind (wpAny_typeOf (T := "bytes") (v := .bytes b t) rfl ?_)
  refine wpAny_pure ?_
  rw [if_neg (by decide)]
  have W := KBw.walks (prog := prog) (w := w) (A := A.in1) hh s.heap.objs.size b t
  refine wpAny_pure ⟨plainId_quiet PySem.F.plain_extend_loop _, codeAny_extend_loopS W.toS hn _ hSf _ b.size 0 _ _ _ rfl (Nat.zero_le _) ⟨_, Heap.get?_push_size _ rfl, rfl, rfl⟩ (Heap.get?_push_of_some _ hS) (ItemsOf.nil _) fun s' acc' c' hm hS' hacc => ?_⟩
  rw [Moved.eq_with hm]
  refine hR s'.heap s'.toks acc' c' (fun b ob hb e => hm.heap b ob (fun hmem => ?_) (Heap.get?_push_of_some _ e)) hS' hacc
  rcases List.mem_cons.mp hmem with e' | hmem
  · exact hb e'
  · exact absurd (Heap.lt_size e) (by rw [List.mem_singleton.mp hmem]; exact Nat.lt_irrefl _)

theorem list_init_bytes {R : Result → Shared → Prop} (hh : A.handled = none) (b : Array UInt8) (t : Tok) (S : Addr) (hS : s.heap.get? S = some { cls := .type "list", data := .seq #[] })
    (hR : ∀ h' tk acc' c', (∀ b o, b ≠ S → s.heap.get? b = some o → h'.get? b = some o) → h'.get? S = some { cls := .type "list", dict := none, data := .seq acc' c', slots := #[] } →
      ItemsOf (ByteAt b) acc' b.size → R (.ok (.ret .none)) { s with heap := h', toks := tk }) (hn : b.size ≤ sizeLine) :
    wpAny (model prog w) A.in1 (Builtin.«list.__init__» ⟨[.ref S, .bytes b t], []⟩)
      (fun fin s' => match fin with | .done f => R (.ok f) s' | .again c' => c'.quiet = true ∧ codeAny (model prog w) A c' R s') (fun e s' => R (.error e) s') s := by
  show wpAny _ _ (do let old ← Builtin.List.listItems (.ref S); Builtin.List.listUpdate (.ref S) (fun _ => #[]); letGo old.toList.reverse; Builtin.List.listExtendWith (.ref S) (.bytes b t) .none) _ _ s
  refine wpAny_bind ?_
  unfold Builtin.List.listItems
  refine wpAny_bind (wpAny_seqItems hS rfl (wpAny_pure ?_))
  show wpAny _ _ (updateSeq S (fun _ => #[]) >>= fun _ => letGo (#[] : Array Value).toList.reverse >>= fun _ => Builtin.List.listExtendWith (.ref S) (.bytes b t) .none) _ _ s
  refine wpAny_bind (wpAny_updateSeq hS rfl ?_)
  have hS₂ := Heap.get?_update_self (Obj.mapSeq (fun _ => (#[] : Array Value))) hS rfl
  have oth : ∀ b o, b ≠ S → s.heap.get? b = some o → (s.heap.update S (Obj.mapSeq (fun _ => (#[] : Array Value)))).get? b = some o :=
    fun b o hb e => (Heap.get?_update_other _ _ (Ne.symm hb)).trans e
  refine wpAny_bind (wpAny_letGo ?_)
  refine extend_bytes (hn := hn) hh b t S .none _ hS₂ fun h' tk acc' c' hk hS' hacc => ?_
  exact hR h' tk acc' c' (fun b o hb e => hk b o hb (oth b o hb e)) hS' hacc

theorem intsAre_of_items {b : Array UInt8} {acc : Array Value} (h : ItemsOf (ByteAt b) acc b.size) : IntsAre acc.toList (KBw.bInts b) := by
  obtain ⟨hs, hi⟩ := h
  have key : ∀ (l : List Value) (cs : List UInt8), l.length = cs.length → (∀ (i : Nat) (v : Value), l[i]? = some v → ∃ (c : UInt8) (u : Tok), cs[i]? = some c ∧ v = Value.int (c.toNat : Int) u) → IntsAre l (cs.map fun c => (c.toNat : Int)) := by
    intro l
    induction l with
    | nil => intro cs hl _; cases cs with
      | nil => exact .nil
      | cons _ _ => simp at hl
    | cons v l ih =>
      intro cs hl h
      cases cs with
      | nil => simp at hl
      | cons c cs =>
        obtain ⟨c', u, hc, rfl⟩ := h 0 v (by simp)
        simp at hc
        subst hc
        exact .cons _ _ (ih cs (by simpa using hl) fun i v hv => by simpa using h (i + 1) v (by simpa using hv))
  refine key acc.toList b.toList (by simpa using hs) fun i v hv => ?_
  obtain ⟨c, u, hc, rfl⟩ := hi i v (by simpa using hv)
  exact ⟨c, u, by simpa using hc, rfl⟩

theorem list_bytes {h₀ : Heap} {L : Addr} {m : Str → Option Value} {news : List (Addr × Obj)} {b : Array UInt8} {t : Tok} {Q : Value → Shared → Prop} (hh : A.handled = none) (F : Fr h₀ L s.heap m) (N : News h₀ L s.heap news) (hn : b.size ≤ sizeLine)
    (h : ∀ D us c h' tk, Fr h₀ L h' m → News h₀ L h' ((D, W.listOf (List.toArray us) c) :: news) → (∀ p ∈ news, p.1 < D) → IntsAre us (KBw.bInts b) → Q (.ref D) { s with heap := h', toks := tk }) :
    wpAny (model prog w) A (call (.type "list") [.bytes b t]) Q E s := by
  refine callType_codes (Q₁ := fun obj s₁ => obj = .ref s.heap.objs.size ∧ s₁ = { s with heap := s.heap.push { cls := .type "list", data := .seq #[] } }) PySem.F.called_list (PySem.F.typeCall_list_1 _) PySem.F.entry_list_init
    (code_list_new _ ⟨rfl, rfl⟩) fun obj s₁ h₁ => ?_
  obtain ⟨rfl, rfl⟩ := h₁
  have hS : (s.heap.push { cls := .type "list", data := .seq #[] }).get? s.heap.objs.size = some { cls := .type "list", data := .seq #[] } := Heap.get?_push_size _ rfl
  refine ⟨⟨_, hS, rfl⟩, PySem.F.args_list_init_2 _ _, list_init_bytes (A := A.in1) (hn := hn) hh b t _ hS fun h' tk acc' c' hk hS' hacc => ?_⟩
  have hk' : ∀ b o, s.heap.get? b = some o → h'.get? b = some o := fun b o e => hk b o (Nat.ne_of_lt (Heap.lt_size e)) (Heap.get?_push_of_some _ e)
  have hnew : h₀.get? s.heap.objs.size = none := by
    cases e : h₀.get? s.heap.objs.size with
    | none => rfl
    | some o => exact absurd (Heap.lt_size (F.keep _ _ e)) (Nat.lt_irrefl _)
  refine ⟨rfl, h _ acc'.toList c' h' tk (F.keeps hk') ?_ (fun p hp => Heap.lt_size (N p hp).1) (intsAre_of_items hacc)⟩
  intro p hp
  rcases List.mem_cons.mp hp with rfl | hp
  · exact ⟨by simpa using hS', fun e => absurd F.ns.lt (by rw [← e]; exact Nat.lt_irrefl _), hnew⟩
  · exact ⟨hk' _ _ (N p hp).1, (N p hp).2⟩
end
end Mine
end

section
open PySem PySem.Spec PySem.Calls PySem.W PyProof.Rows
namespace Mine
/-- the int of a value, by a test -/
noncomputable def onInt (pz : Int → Bool) : Value → Bool
  | .int a _ => pz a
  | _ => false
theorem intsAre_filter {pz : Int → Bool} {d : Int → Int} : ∀ {us : List Value} {ns : List Int} {ys : List Value}, IntsAre us ns → Paired (fun v r => ∃ a t t', v = Value.int a t ∧ r = Value.int (d a) t') (us.filter (onInt pz)) ys → IntsAre ys ((ns.filter pz).map d)
  | _, _, _, .nil, h => by cases h; exact .nil
  | _, _, ys, .cons n t hI, h => by
    by_cases hp : pz n = true
    · rw [List.filter_cons_of_pos (by exact hp)] at h
      rw [List.filter_cons_of_pos hp, List.map_cons]
      cases h with
      | cons h1 h2 =>
        obtain ⟨a, t1, t', e, rfl⟩ := h1
        cases e
        exact .cons _ _ (intsAre_filter hI h2)
    · rw [List.filter_cons_of_neg (by exact hp)] at h
      rw [List.filter_cons_of_neg hp]
      exact intsAre_filter hI h
theorem intsAre_at : ∀ {us : List Value} {ns : List Int}, IntsAre us ns → ∀ {i : Nat} {v : Value}, us[i]? = some v → ∃ a t, v = Value.int a t ∧ a ∈ ns
  | _, _, .nil, _, _, h => by simp at h
  | _, _, .cons n t hI, 0, v, h => ⟨n, t, by simpa using h.symm, .head _⟩
  | _, _, .cons n t hI, i + 1, v, h => by
    obtain ⟨a, t, e, hm⟩ := intsAre_at hI (i := i) (v := v) (by simpa using h)
    exact ⟨a, t, e, .tail _ hm⟩

section
variable {prog : Program} {w : World} {A : Around} {E : Value → Shared → Prop} {s₁ : Shared} {h₀ : Heap} {L : Addr} {m : Str → Option Value} {news : List (Addr × Obj)}
theorem srcA_ints {env : Env} {elt : Expr} {x z : Str} {ifs : List Expr} {scope : Scope} {Q : Flow → Shared → Prop} {l : Addr} {us : List Value} {ns : List Int} {c : Nat} (pz : Int → Bool) (d : Int → Int)
    (hL : env.locals = L) (hh : A.handled = none) (F : Fr h₀ L s₁.heap m) (N : News h₀ L s₁.heap news) (hm : (l, W.listOf us.toArray c) ∈ news) (hi : IntsAre us ns)
    (g1 : ∀ C a t s₂ m₂ E', a ∈ ns → s₂.heap.Ns (compEnv scope C env).locals m₂ → m₂ x = some (.int a t) →
        wpAny (model prog w) A (forIn ifs true fun c r => if r = true then do let ok ← isTrue c (compEnv scope C env) (eval c (compEnv scope C env)); pure (ForInStep.yield ok) else pure (ForInStep.yield r))
          (fun ok s₃ => ok = pz a ∧ Keeps s₂ s₃) E' s₂)
    (g2 : ∀ C a t s₂ m₂ E', a ∈ ns → pz a = true → s₂.heap.Ns (compEnv scope C env).locals m₂ → m₂ x = some (.int a t) → wpAny (model prog w) A (eval elt (compEnv scope C env)) (fun r s₃ => (∃ t', r = .int (d a) t') ∧ Keeps s₂ s₃) E' s₂)
    (g3 : ∀ D (ys : List Value) k h' tk, Fr h₀ L h' (fun q => if q = z then some (.ref D) else m q) → News h₀ L h' ((D, W.listOf ys.toArray k) :: news) → (∀ p ∈ news, p.1 ≠ D) → IntsAre ys ((ns.filter pz).map d) → Q .next { s₁ with heap := h', toks := tk })
    (hsz : ns.length ≤ 1000) :
    wpAny (model prog w) A (pyIter (.ref l)) (CompPostA prog w A env scope x z ifs elt Q) E s₁ := by
  subst hL
  have hl : s₁.heap.IsList l us.toArray := ⟨_, (N _ hm).1, rfl, c, rfl⟩
  have hlt : l < s₁.heap.objs.size := by obtain ⟨_, e, _⟩ := hl; exact Heap.lt_size e
  refine wpAny_pyIter_list hl ?_
  refine ⟨onInt pz, fun v r => ∃ a t t', v = Value.int a t ∧ r = Value.int (d a) t', s₁.heap.objs.size, [s₁.heap.objs.size, l], [s₁.heap.objs.size], us.toArray.size, _, _, m, rfl, Walks.list hh _ l (Nat.ne_of_lt hlt) us.toArray, (by rw [List.size_toArray, hi.length, sizeLine_eq]; omega),
    ⟨⟨_, Heap.get?_push_size _ rfl, rfl, rfl⟩, hl.at fun o e => Heap.get?_push_of_some _ e⟩, ?_, ?_, (F.push _).ns, ⟨?_, ?_⟩, ?_⟩
  · intro b hb
    show b < (s₁.heap.push _).objs.size
    rw [Heap.size_push]
    rcases List.mem_cons.mp hb with rfl | hb
    · exact Nat.lt_succ_self _
    · rw [List.mem_singleton.mp hb]; exact Nat.lt_succ_of_lt hlt
  · intro hm
    exact absurd F.ns.lt ((List.mem_singleton.mp hm) ▸ Nat.lt_irrefl _)
  · intro C i v s₃ m₃ E' hP hn hm _ htk
    obtain ⟨a, t, rfl, ha⟩ := intsAre_at hi (by simpa using hP)
    exact g1 C a t s₃ m₃ E' ha hn hm
  · intro C i v s₃ m₃ E' hP hp' hn hm _ htk
    obtain ⟨a, t, rfl, ha⟩ := intsAre_at hi (by simpa using hP)
    exact wpAny_mono (g2 C a t s₃ m₃ E' ha hp' hn hm) (fun r s₄ h₄ => ⟨by obtain ⟨t', e⟩ := h₄.1; exact ⟨a, t, t', rfl, e⟩, h₄.2⟩) fun _ _ e => e
  · intro D h' tk ys vs' hnew hlD hplD hlen hP hF hn' hk
    have e' : vs' = us := by simpa using walked_is hlen hP
    subst e'
    have hold : ∀ b o, s₁.heap.get? b = some o → (s₁.heap.push { cls := .type "list_iterator", data := .fields #[.ref l, .int 0 0] }).get? b = some o := fun b o e => Heap.get?_push_of_some _ e
    have hfresh : h₀.get? D = none := by
      cases e : h₀.get? D with
      | none => rfl
      | some o' => rw [hold _ _ (F.keep _ _ e)] at hnew; cases hnew
    have hND : ∀ p ∈ news, p.1 ≠ D := fun p hp e => by rw [← e, hold _ _ (N p hp).1] at hnew; cases hnew
    have hDL : D ≠ env.locals := by
      rintro rfl
      obtain ⟨o, _, _, ho, _⟩ := F.ns
      rw [hold _ _ ho] at hnew; cases hnew
    obtain ⟨k, hD⟩ := hplD
    refine g3 D ys.toList k h' tk ⟨hn', fun b o' e => hk b o' (Nat.ne_of_lt (Nat.lt_of_lt_of_le (Heap.lt_size e) F.above)) (not_iter_of_old (F.keep b o' e)) (hold _ _ (F.keep b o' e)), F.above⟩ ?_ hND (intsAre_filter hi hF)
    intro p hp
    rcases List.mem_cons.mp hp with rfl | hp
    · exact ⟨by simpa using hD, hDL, hfresh⟩
    · exact ⟨hk _ _ (N p hp).2.1 (not_iter_of_old (N p hp).1) (hold _ _ (N p hp).1), (N p hp).2⟩
end
end Mine
end

section
open PySem PySem.W PyProof.Rows
namespace Mine
/-- a sign's worth, as _law_figure tells it -/
noncomputable def figP (q0 q1 c : Int) : Int :=
  if 65 ≤ c ∧ c ≤ 90 then c % 32 - 1 else if 97 ≤ c ∧ c ≤ 122 then c % 32 + 25 else if 48 ≤ c ∧ c ≤ 57 then c % 32 + 36 else if c = q0 then 62 else if c = q1 then 63 else if c = 43 then 62 else if c = 47 then 63 else -1


section
variable {q0 q1 c i : Int}
theorem any2_f {a b : Int} (h : ([a, b].any fun x => x == c) = false) : c ≠ a ∧ c ≠ b := by
  simp only [List.any_cons, List.any_nil, Bool.or_false, Bool.or_eq_false_iff, beq_eq_false_iff_ne] at h
  exact ⟨fun e => h.1 e.symm, fun e => h.2 e.symm⟩
theorem fig_up (h : 65 ≤ c) (h2 : c ≤ 90) : Builtin.bitAnd c 31 - 1 = figP q0 q1 c := by unfold figP; rw [if_pos ⟨h, h2⟩, bitAnd_m5]
theorem fig_lo (h : 97 ≤ c) (h2 : c ≤ 122) : Builtin.bitAnd c 31 + 25 = figP q0 q1 c := by unfold figP; rw [if_neg (by omega), if_pos ⟨h, h2⟩, bitAnd_m5]
theorem fig_dg (h : 48 ≤ c) (h2 : c ≤ 57) : Builtin.bitAnd c 31 + 36 = figP q0 q1 c := by unfold figP; rw [if_neg (by omega), if_neg (by omega), if_pos ⟨h, h2⟩, bitAnd_m5]
theorem fig_pr (h1 : ¬ (65 ≤ c ∧ c ≤ 90)) (h2 : ¬ (97 ≤ c ∧ c ≤ 122)) (h3 : ¬ (48 ≤ c ∧ c ≤ 57)) (hi : i = if c = q0 then 0 else 1) (ho : c = q0 ∨ c = q1) : 62 + i = figP q0 q1 c := by
  unfold figP; rw [if_neg h1, if_neg h2, if_neg h3, hi]
  by_cases e : c = q0
  · rw [if_pos e, if_pos e]; rfl
  · rw [if_neg e, if_neg e, if_pos (ho.resolve_left e)]; rfl
theorem fig_pl (h1 : ¬ (65 ≤ c ∧ c ≤ 90)) (h2 : ¬ (97 ≤ c ∧ c ≤ 122)) (h3 : ¬ (48 ≤ c ∧ c ≤ 57)) (hf : ([q0, q1].any fun x => x == c) = false) (hi : i = if c = 43 then 0 else 1) (ho : c = 43 ∨ c = 47) : 62 + i = figP q0 q1 c := by
  have hf := any2_f hf
  unfold figP; rw [if_neg h1, if_neg h2, if_neg h3, if_neg hf.1, if_neg hf.2, hi]
  by_cases e : c = 43
  · rw [if_pos e, if_pos e]; rfl
  · rw [if_neg e, if_neg e, if_pos (ho.resolve_left e)]; rfl
theorem fig_no (h1 : ¬ (65 ≤ c ∧ c ≤ 90)) (h2 : ¬ (97 ≤ c ∧ c ≤ 122)) (h3 : ¬ (48 ≤ c ∧ c ≤ 57)) (hf : ([q0, q1].any fun x => x == c) = false) (hf' : ([43, 47].any fun x => x == c) = false) : -1 = figP q0 q1 c := by
  have hf := any2_f hf
  have hf' := any2_f hf'
  unfold figP; rw [if_neg h1, if_neg h2, if_neg h3, if_neg hf.1, if_neg hf.2, if_neg hf'.1, if_neg hf'.2]
end
theorem idx2 {prog : Program} {w : World} {A : Around} {E : Value → Shared → Prop} {s : Shared} {h₀ : Heap} {L D : Addr} {news : List (Addr × Obj)} {a b k : Int} {u0 u1 t : Tok} {n : Nat} {Q : Value → Shared → Prop}
    (N : News h₀ L s.heap news) (hm : (D, W.listOf #[.int a u0, .int b u1] n) ∈ news) (hb : ([a, b].any fun x => x == k) = true)
    (h : ∀ i : Int, i = (if k = a then 0 else 1) → (k = a ∨ k = b) → Q (.int i s.toks) { s with toks := s.toks + 1 }) :
    wpAny (model prog w) A (call (.builtin "list.index") [.ref D, .int k t]) Q E s := by
  have hk : k = a ∨ k = b := by
    simp only [List.any_cons, List.any_nil, Bool.or_false, Bool.or_eq_true, beq_iff_eq] at hb
    rcases hb with hb | hb
    · exact .inl hb.symm
    · exact .inr hb.symm
  by_cases e : k = a
  · subst e
    exact kf_index (j := 0) (i := 0) N hm rfl (by simp [kf_at, isInt]) rfl (by rw [sizeLine_eq]; simp) (h 0 (by simp) hk)
  · obtain rfl := hk.resolve_left e
    refine kf_index (j := 1) (i := 1) N hm rfl ?_ rfl (by rw [sizeLine_eq]; simp) (h 1 (by simp [e]) hk)
    have e' : (a == k) = false := by simpa using fun h => e h.symm
    have e'' : (k == a) = false := by simpa using e
    simp [kf_at, isInt, e', e'']

/-- what isupper, islower, isdigit say -/
noncomputable def inP (lo hi c : Int) : Bool := if lo ≤ c then decide (c ≤ hi) else false
theorem inP_t {lo hi c : Int} (h : lo ≤ c) : decide (c ≤ hi) = inP lo hi c := (if_pos h).symm
theorem inP_f {lo hi c : Int} (h : ¬ lo ≤ c) : decide (lo ≤ c) = inP lo hi c := (decide_eq_false h).trans (if_neg h).symm
theorem inP_yes {lo hi c : Int} (h : inP lo hi c = true) : lo ≤ c ∧ c ≤ hi := by
  unfold inP at h; split at h <;> simp at h; exact ⟨by assumption, h⟩
theorem inP_no {lo hi c : Int} (h : inP lo hi c = false) : ¬ (lo ≤ c ∧ c ≤ hi) := by
  unfold inP at h; split at h <;> simp at h <;> omega

set_option maxRecDepth 100000 in
set_option maxHeartbeats 8000000 in
theorem isupper_call (w : World) (mean : ExcName → Option Value) (mg mb : Str → Option Value) {e1 : Env} {cn : Str} {cs : Scope} {L a : Addr} {ccd : Value} {base h₀ : Heap} {m : Str → Option Value} {news : List (Addr × Obj)} {s : Shared} {Q E : Value → Shared → Prop} {c : Int} {tc : Tok}
    (B : Below (callerA.deeper e1) base [e1] h₀) (F : Fr h₀ L s.heap m) (X : (hd.heap_39 w.params).In h₀) (N : News h₀ L s.heap news) (T : Top hd.view_39 loose0 mean mg mb h₀) (hk : cs.kind = .function)
    (ret : ∀ h' tk', Fr h₀ L h' m → News h₀ L h' news → Q (.bool (inP 65 90 c)) { s with heap := h', toks := tk' }) :
    wpAny (model Challenge.rw_qh0085_01.row.prog w) ((callerA.deeper e1).deeper (envOf cn cs L a ccd)) (call (.ref 114) [.int c tc]) Q E s := by
  w_top off
  k_with_none
  k_with "call builtin:list.index" => ((with_reducible show wpAny _ _ (call (Value.builtin _) [Value.ref _, Value.int _ _]) _ _ _); (refine idx2 (by k_asm) (by k_mem) (by assumption) ?_); intro i9 hi9 ho9)
  revert X; k_fill; intro X
  refine wpAny_call ?_
  (refine' code_def ?k1 ?k2 ?k3 ?k4 ?k5 ?kA ?kF ?kK ?k6 ?k7 ?k8 ?k9 ?kB ?_ ?c2 ?c3 ?c4 ?c5; (case kA => exact rfl); (case kF => exact rfl); (case kK => first | exact rfl | assumption); (case k1 => k_asm); (case k2 => k_asm); (case k3 => k_asm); (case k4 => k_asm); (case k5 => k_asm); (case k6 => k_is); (case k7 => k_is); (case k8 => k_room); (case k9 => first | exact BindsTo.of_eq rfl | exact binds_K (by k_in) rfl (by k_is) rfl rfl rfl | fail "k_enter: no rule for these arguments"); (case c5 => decide); (case kB => exact locs rfl); (case c2 => exact rfl); (case c3 => exact rfl); (case c4 => exact rfl); k_whole; intro g' L' h' FG' F' N' B' X' T'; (try dsimp only); (try k_lift B'); (try k_fold))
  k_steps
  · rw [inP_t (by assumption)]; exact ret _ _ (by assumption) (by assumption)
  · rw [inP_f (by assumption)]; exact ret _ _ (by assumption) (by assumption)

set_option maxRecDepth 100000 in
set_option maxHeartbeats 8000000 in
theorem islower_call (w : World) (mean : ExcName → Option Value) (mg mb : Str → Option Value) {e1 : Env} {cn : Str} {cs : Scope} {L a : Addr} {ccd : Value} {base h₀ : Heap} {m : Str → Option Value} {news : List (Addr × Obj)} {s : Shared} {Q E : Value → Shared → Prop} {c : Int} {tc : Tok}
    (B : Below (callerA.deeper e1) base [e1] h₀) (F : Fr h₀ L s.heap m) (X : (hd.heap_39 w.params).In h₀) (N : News h₀ L s.heap news) (T : Top hd.view_39 loose0 mean mg mb h₀) (hk : cs.kind = .function)
    (ret : ∀ h' tk', Fr h₀ L h' m → News h₀ L h' news → Q (.bool (inP 97 122 c)) { s with heap := h', toks := tk' }) :
    wpAny (model Challenge.rw_qh0085_01.row.prog w) ((callerA.deeper e1).deeper (envOf cn cs L a ccd)) (call (.ref 107) [.int c tc]) Q E s := by
  w_top off
  k_with_none
  k_with "call builtin:list.index" => ((with_reducible show wpAny _ _ (call (Value.builtin _) [Value.ref _, Value.int _ _]) _ _ _); (refine idx2 (by k_asm) (by k_mem) (by assumption) ?_); intro i9 hi9 ho9)
  revert X; k_fill; intro X
  refine wpAny_call ?_
  (refine' code_def ?k1 ?k2 ?k3 ?k4 ?k5 ?kA ?kF ?kK ?k6 ?k7 ?k8 ?k9 ?kB ?_ ?c2 ?c3 ?c4 ?c5; (case kA => exact rfl); (case kF => exact rfl); (case kK => first | exact rfl | assumption); (case k1 => k_asm); (case k2 => k_asm); (case k3 => k_asm); (case k4 => k_asm); (case k5 => k_asm); (case k6 => k_is); (case k7 => k_is); (case k8 => k_room); (case k9 => first | exact BindsTo.of_eq rfl | exact binds_K (by k_in) rfl (by k_is) rfl rfl rfl | fail "k_enter: no rule for these arguments"); (case c5 => decide); (case kB => exact locs rfl); (case c2 => exact rfl); (case c3 => exact rfl); (case c4 => exact rfl); k_whole; intro g' L' h' FG' F' N' B' X' T'; (try dsimp only); (try k_lift B'); (try k_fold))
  k_steps
  · rw [inP_t (by assumption)]; exact ret _ _ (by assumption) (by assumption)
  · rw [inP_f (by assumption)]; exact ret _ _ (by assumption) (by assumption)

set_option maxRecDepth 100000 in
set_option maxHeartbeats 8000000 in
theorem isdigit_call (w : World) (mean : ExcName → Option Value) (mg mb : Str → Option Value) {e1 : Env} {cn : Str} {cs : Scope} {L a : Addr} {ccd : Value} {base h₀ : Heap} {m : Str → Option Value} {news : List (Addr × Obj)} {s : Shared} {Q E : Value → Shared → Prop} {c : Int} {tc : Tok}
    (B : Below (callerA.deeper e1) base [e1] h₀) (F : Fr h₀ L s.heap m) (X : (hd.heap_39 w.params).In h₀) (N : News h₀ L s.heap news) (T : Top hd.view_39 loose0 mean mg mb h₀) (hk : cs.kind = .function)
    (ret : ∀ h' tk', Fr h₀ L h' m → News h₀ L h' news → Q (.bool (inP 48 57 c)) { s with heap := h', toks := tk' }) :
    wpAny (model Challenge.rw_qh0085_01.row.prog w) ((callerA.deeper e1).deeper (envOf cn cs L a ccd)) (call (.ref 100) [.int c tc]) Q E s := by
  w_top off
  k_with_none
  k_with "call builtin:list.index" => ((with_reducible show wpAny _ _ (call (Value.builtin _) [Value.ref _, Value.int _ _]) _ _ _); (refine idx2 (by k_asm) (by k_mem) (by assumption) ?_); intro i9 hi9 ho9)
  revert X; k_fill; intro X
  refine wpAny_call ?_
  (refine' code_def ?k1 ?k2 ?k3 ?k4 ?k5 ?kA ?kF ?kK ?k6 ?k7 ?k8 ?k9 ?kB ?_ ?c2 ?c3 ?c4 ?c5; (case kA => exact rfl); (case kF => exact rfl); (case kK => first | exact rfl | assumption); (case k1 => k_asm); (case k2 => k_asm); (case k3 => k_asm); (case k4 => k_asm); (case k5 => k_asm); (case k6 => k_is); (case k7 => k_is); (case k8 => k_room); (case k9 => first | exact BindsTo.of_eq rfl | exact binds_K (by k_in) rfl (by k_is) rfl rfl rfl | fail "k_enter: no rule for these arguments"); (case c5 => decide); (case kB => exact locs rfl); (case c2 => exact rfl); (case c3 => exact rfl); (case c4 => exact rfl); k_whole; intro g' L' h' FG' F' N' B' X' T'; (try dsimp only); (try k_lift B'); (try k_fold))
  k_steps
  · rw [inP_t (by assumption)]; exact ret _ _ (by assumption) (by assumption)
  · rw [inP_f (by assumption)]; exact ret _ _ (by assumption) (by assumption)

local macro_rules | `(tactic| walk_at "call ref") => `(tactic| ((with_reducible show wpAny _ _ (call (Value.ref _) [Value.int _ _] _) _ _ _); (first | refine isupper_call _ _ _ _ (by k_asm) (by k_asm) (by k_asm) (by k_asm) (by k_asm) rfl ?_ | refine islower_call _ _ _ _ (by k_asm) (by k_asm) (by k_asm) (by k_asm) (by k_asm) rfl ?_ | refine isdigit_call _ _ _ _ (by k_asm) (by k_asm) (by k_asm) (by k_asm) (by k_asm) rfl ?_); intro h9 tk9 F9 N9))

set_option maxRecDepth 100000 in
set_option maxHeartbeats 8000000 in
theorem fig_call (w : World) (mean : ExcName → Option Value) (mg mb : Str → Option Value) {cn : Str} {cs : Scope} {a : Addr} {ccd : Value} {cl : List (Str × Addr)} {h₀ : Heap} {L lq : Addr} {m : Str → Option Value} {news : List (Addr × Obj)} {s : Shared} {Q E : Value → Shared → Prop} {c q0 q1 : Int} {tc u0 u1 : Tok} {k : Nat}
    (B : Below callerA h₀ [] h₀) (F : Fr h₀ L s.heap m) (X : (hd.heap_39 w.params).In h₀) (N : News h₀ L s.heap ((lq, W.listOf #[.int q0 u0, .int q1 u1] k) :: news)) (T : Top hd.view_39 loose0 mean mg mb h₀) (hk : cs.kind = .function)
    (ret : ∀ t h' tk', Fr h₀ L h' m → News h₀ L h' ((lq, W.listOf #[.int q0 u0, .int q1 u1] k) :: news) → Q (.int (figP q0 q1 c) t) { s with heap := h', toks := tk' }) :
    wpAny (model Challenge.rw_qh0085_01.row.prog w) (callerA.deeper (envX cn cs L a ccd cl)) (call (.ref 128) [.int c tc, .ref lq]) Q E s := by
  w_top off
  k_with_none
  k_with "call builtin:list.index" => ((with_reducible show wpAny _ _ (call (Value.builtin _) [Value.ref _, Value.int _ _]) _ _ _); (refine idx2 (by k_asm) (by k_mem) (by assumption) ?_); intro i9 hi9 ho9)
  revert X; k_fill; intro X
  refine wpAny_call ?_
  (refine' code_def ?k1 ?k2 ?k3 ?k4 ?k5 ?kA ?kF ?kK ?k6 ?k7 ?k8 ?k9 ?kB ?_ ?c2 ?c3 ?c4 ?c5; (case kA => exact rfl); (case kF => exact rfl); (case kK => first | exact rfl | assumption); (case k1 => k_asm); (case k2 => k_asm); (case k3 => k_asm); (case k4 => k_asm); (case k5 => k_asm); (case k6 => k_is); (case k7 => k_is); (case k8 => k_room); (case k9 => first | exact BindsTo.of_eq rfl | exact binds_K (by k_in) rfl (by k_is) rfl rfl rfl | fail "k_enter: no rule for these arguments"); (case c5 => decide); (case kB => exact locs rfl); (case c2 => exact rfl); (case c3 => exact rfl); (case c4 => exact rfl); k_whole; intro g' L' h' FG' F' N' B' X' T'; (try dsimp only); (try k_lift B'); (try k_fold))
  k_steps
  all_goals (
    refine cb_retI (Q := Q) ret ?e ?f ?n
    case f => assumption
    case n => first | assumption | (rename News h₀ L _ _ => nE; first | exact cb_drop nE (fun p hp => .tail _ hp) | exact cb_drop nE (fun p hp => .tail _ (.tail _ hp)))
    case e => first
      | exact fig_up (inP_yes (by assumption)).1 (inP_yes (by assumption)).2
      | exact fig_lo (inP_yes (by assumption)).1 (inP_yes (by assumption)).2
      | exact fig_dg (inP_yes (by assumption)).1 (inP_yes (by assumption)).2
      | exact fig_pl (inP_no (by assumption)) (inP_no (by assumption)) (inP_no (by assumption)) (by assumption) (by assumption) (by assumption)
      | exact fig_pr (inP_no (by assumption)) (inP_no (by assumption)) (inP_no (by assumption)) (by assumption) (by assumption)
      | exact fig_no (inP_no (by assumption)) (inP_no (by assumption)) (inP_no (by assumption)) (by assumption) (by assumption))

theorem fig_in (w : World) (mean : ExcName → Option Value) (mg mb : Str → Option Value) {cn : Str} {cs : Scope} {a : Addr} {ccd : Value} {cl : List (Str × Addr)} {h₀ : Heap} {L lq : Addr} {m : Str → Option Value} {news : List (Addr × Obj)} {s : Shared} {Q E : Value → Shared → Prop} {c q0 q1 : Int} {tc u0 u1 : Tok} {k : Nat}
    (B : Below callerA h₀ [] h₀) (F : Fr h₀ L s.heap m) (X : (hd.heap_39 w.params).In h₀) (N : News h₀ L s.heap news) (hm : (lq, W.listOf #[.int q0 u0, .int q1 u1] k) ∈ news) (T : Top hd.view_39 loose0 mean mg mb h₀) (hk : cs.kind = .function)
    (ret : ∀ t h' tk', Fr h₀ L h' m → News h₀ L h' news → Q (.int (figP q0 q1 c) t) { s with heap := h', toks := tk' }) :
    wpAny (model Challenge.rw_qh0085_01.row.prog w) (callerA.deeper (envX cn cs L a ccd cl)) (call (.ref 128) [.int c tc, .ref lq]) Q E s :=
  fig_call w mean mg mb B F X (List.forall_mem_cons.mpr ⟨N _ hm, N⟩) T hk fun t h' tk' F' N' => ret t h' tk' F' fun p hp => N' p (.tail _ hp)
end Mine
end

section
open PySem PySem.W PyProof.Rows PySem.Spec PySem.Calls
namespace Mine
set_option maxRecDepth 100000 in
set_option maxHeartbeats 8000000 in
theorem segA (w : World) (mean : ExcName → Option Value) (mg mb : Str → Option Value) {L fa la : Addr} {cd : Value} {h₀ : Heap} {m : Str → Option Value} {s : Shared} {oc : Obj} {vs : List Value} {ns : List Int} {Mid : Shared → Prop}
    (K0 : Below callerA h₀ [] h₀) (X : (hd.heap_39 w.params).In h₀) (T : Top hd.view_39 loose0 mean mg mb h₀)
    (F : Fr h₀ L s.heap (fun y => if y = Str.ofString "script" then some (.ref la) else m y)) (N : News h₀ L s.heap [(L + 1, oc)]) (hS : h₀.IsList la vs.toArray) (hI : IntsAre vs ns) (hn : ns.length ≤ 63)
    (post : ∀ (h' : Heap) (tk' : Nat) (ln : Addr) (us : List Value) (nums : List Int) (nn : Nat) (mr : Str → Option Value), Fr h₀ L h' (fun y => if y = Str.ofString "numbers" then some (.ref ln) else mr y) →
      News h₀ L h' [(ln, W.listOf us.toArray nn), (L + 1, oc)] → L + 1 < ln → IntsAre us nums → 1 ≤ nums.length → nums.length ≤ 16 → Mid { s with heap := h', toks := tk' }) :
    wpAny (model Challenge.rw_qh0085_01.row.prog w) (callerA.deeper (lawEnv L fa cd)) (execs (lawParts.1.take 1) (lawEnv L fa cd)) (fun f s' => match f with | .next => Mid s' | _ => False) (fun _ _ => False) s := by
  w_top off
  k_with_none
  revert X; k_fill; intro X
  dsimp only [lawEnv, lawParts, Challenge.pw_qh0085_01, List.getLast?, List.getLast, List.drop, List.take]
  have hMk := kstMark
  k_steps
  · rename L + 1 < _ => hlt
    exact post _ _ _ _ _ _ _ (by assumption) (by assumption) hlt (by assumption) (by assumption) (by omega)
  · rename _ ∧ L + 1 < _ => hlt
    exact post _ _ _ _ [248, 252, 256, 260] _ _ (by assumption) (cb_drop (by assumption) (List.forall_mem_cons.mpr ⟨.head _, List.forall_mem_cons.mpr ⟨.tail _ (.tail _ (.head _)), fun _ h => nomatch h⟩⟩)) hlt.2 (IntsAre.cons _ _ (IntsAre.cons _ _ (IntsAre.cons _ _ (IntsAre.cons _ _ IntsAre.nil)))) (by decide) (by decide)
end Mine
end

section
open PySem PySem.W PyProof.Rows
namespace Mine



set_option maxRecDepth 100000 in
set_option maxHeartbeats 8000000 in
theorem segB1 (w : World) (mean : ExcName → Option Value) (mg mb : Str → Option Value) {L fa ln : Addr} {cd : Value} {h₀ : Heap} {mr : Str → Option Value} {s : Shared} {oc : Obj} {vs : List Value} {nums : List Int} {nn : Nat} {Mid : Shared → Prop} 
    (K0 : Below callerA h₀ [] h₀) (X : (hd.heap_39 w.params).In h₀) (T : Top hd.view_39 loose0 mean mg mb h₀)
    (F : Fr h₀ L s.heap (fun y => if y = Str.ofString "numbers" then some (.ref ln) else mr y)) (N : News h₀ L s.heap [(ln, W.listOf vs.toArray nn), (L + 1, oc)]) (hln : L + 1 < ln) (hI : IntsAre vs nums) (hn1 : 1 ≤ nums.length) (hn2 : nums.length ≤ 16)
    (post : ∀ (h' : Heap) (tk' : Nat) (lo : Addr) (us : List Value) (tt : Tok) (mr' : Str → Option Value), Fr h₀ L h' (fun y => if y = Str.ofString "others" then some (.ref lo) else if y = Str.ofString "total" then some (.int nums.sum tt) else if y = Str.ofString "numbers" then some (.ref ln) else mr' y) →
      News h₀ L h' [(lo, W.listOf us.toArray 0), (ln, W.listOf vs.toArray nn), (L + 1, oc)] → IntsAre us othersL → L + 1 < lo → Mid { s with heap := h', toks := tk' }) :
    wpAny (model Challenge.rw_qh0085_01.row.prog w) (callerA.deeper (lawEnv L fa cd)) (execs ((lawParts.1.drop 1).take 2) (lawEnv L fa cd)) (fun f s' => match f with | .next => Mid s' | _ => False) (fun _ _ => False) s := by
  w_top off
  k_with_none
  k_with "binaryOp Add ref ref" => ((with_reducible rename CarriedAll _ (List.map PyData.int _) => hcX); (have hiX := IntsAre.ofCarried hcX); clear hcX; k_here; (with_reducible show wpAny _ _ (binaryOp _ (Value.ref _) (Value.ref _)) _ _ _); k_dflt (refine' kmk_add_ints ?F ?N ?a ?b ?i ?j ?_ ?z; (case F => k_asm); (case N => k_asm); (case a => kmk_list); (case b => kmk_list); (case i => l_ints); (case j => l_ints); (case z => kmk_sum)); intro D' ws' h' F' N' l1 hI'; (try k_lt l1); (try k_sweep))
  k_with "call type:list" => ((with_reducible show wpAny _ _ (call (Value.type "list") [Value.bytes _ _]) _ _ _); (with_unfolding_all refine' list_bytes ?hh ?F ?N ?hn ?_); (case hh => rfl); (case F => k_asm); (case N => k_asm); (case hn => exact Nat.le_of_ble_eq_true rfl); intro D' ws' c' h' tk' F' N' l1 hI'; (try k_lt l1); (try k_sweep))
  k_with "InvEndN" => (
      (rename News _ _ _ _ => nE)
      (rename Fr _ _ _ _ => fE)
      (rename _ = List.map _ _ => rE)
      (try simp only [List.push_toArray] at nE)
      (refine' seq_end (led0 := [_, _, _, _]) fE nE ?hf ?hr ?hp rfl)
      (case hf => exact IntsAre.append (by assumption) (IntsAre.cons _ _ IntsAre.nil))
      (case hr => intro z zx zs; (have zc : z ≠ Str.ofString "code" := by intro e; rw [e] at zs; revert zs; decide); simp only [if_neg zx, if_neg zc, zs]; (try rfl))
      (case hp => exact map_snoc rE (by first | exact code61 (pick3 (by assumption)) (by assumption) | exact coden (pick3 (by assumption)) (by assumption) | exact code61 (pickn (by assumption)) (by assumption) | exact coden (pickn (by assumption)) (by assumption))))
  revert X; k_fill; intro X
  dsimp only [lawEnv, lawParts, Challenge.pw_qh0085_01, List.getLast?, List.getLast, List.drop, List.take]
  k_steps
  exact post _ _ _ _ _ mr (by assumption) (cb_drop (by assumption) (List.forall_mem_cons.mpr ⟨by k_mem, List.forall_mem_cons.mpr ⟨by k_mem, List.forall_mem_cons.mpr ⟨by k_mem, fun _ h => nomatch h⟩⟩⟩)) (by rename IntsAre _ (_ ++ rangeInts 123 1 _) => hz; exact hz) (by rename _ < _ ∧ _ < _ ∧ _ < _ ∧ _ < _ ∧ ln < _ ∧ L + 1 < _ => hz; exact hz.2.2.2.2.2)




local macro_rules | `(tactic| walk_at "none of mine") => `(tactic| fail "none")
local macro_rules | `(tactic| walk_at "subscriptTail Name BinOp ref int") => `(tactic| ((with_reducible show wpAny _ _ (subscriptTail _ _ (Value.ref _) (Value.int _ _)) _ _ _); refine' item_ints ?N ?hm ?hI ?h0 ?h1 ?hz ?_; (case N => k_asm); (case hm => k_mem); (case hI => first | assumption | l_ints); (case h0 => first | (simp only [Int.fmod_eq_emod_of_nonneg _ (show (0:Int) ≤ 31 by decide), Int.fmod_eq_emod_of_nonneg _ (show (0:Int) ≤ 30 by decide)]; omega) | omega); (case h1 => first | (simp only [Int.fmod_eq_emod_of_nonneg _ (show (0:Int) ≤ 31 by decide), Int.fmod_eq_emod_of_nonneg _ (show (0:Int) ≤ 30 by decide), othersL_len]; omega) | (simp only [List.length_cons, List.length_nil]; omega)); (case hz => first | (rw [othersL_len']; decide) | (simp only [List.length_cons, List.length_nil]; omega) | omega); intro tI))



set_option maxRecDepth 100000 in
set_option maxHeartbeats 8000000 in
theorem segB2a (w : World) (mean : ExcName → Option Value) (mg mb : Str → Option Value) {L fa ln lo : Addr} {cd : Value} {h₀ : Heap} {mr : Str → Option Value} {s : Shared} {oc : Obj} {vs us : List Value} {nums : List Int} {nn : Nat} {tt : Tok} {Mid : Shared → Prop} 
    (K0 : Below callerA h₀ [] h₀) (X : (hd.heap_39 w.params).In h₀) (T : Top hd.view_39 loose0 mean mg mb h₀)
    (F : Fr h₀ L s.heap (fun y => if y = Str.ofString "others" then some (.ref lo) else if y = Str.ofString "total" then some (.int nums.sum tt) else if y = Str.ofString "numbers" then some (.ref ln) else mr y))
    (N : News h₀ L s.heap [(lo, W.listOf us.toArray 0), (ln, W.listOf vs.toArray nn), (L + 1, oc)]) (hoc : oc.data = .cell none) (hln : L + 1 < ln ∧ L + 1 < lo) (hI : IntsAre vs nums) (hO : IntsAre us othersL) (hn1 : 1 ≤ nums.length) (hn2 : nums.length ≤ 16)
    (post : ∀ (h' : Heap) (tk' : Nat) (lp : Addr) (t0 t1 : Tok) (oc' : Obj), Fr h₀ L h' (fun y => if y = Str.ofString "others" then some (.ref lo) else if y = Str.ofString "total" then some (.int nums.sum tt) else if y = Str.ofString "numbers" then some (.ref ln) else mr y) →
      News h₀ L h' [(lp, W.listOf #[.int (pr0 nums.sum) t0, .int (pr1 nums.sum) t1] 0), (ln, W.listOf vs.toArray nn), (L + 1, oc')] → oc'.data = .cell (some (.ref lp)) → L + 1 < lp → Mid { s with heap := h', toks := tk' }) :
    wpAny (model Challenge.rw_qh0085_01.row.prog w) (callerA.deeper (lawEnv L fa cd)) (execs ((lawParts.1.drop 3).take 1) (lawEnv L fa cd)) (fun f s' => match f with | .next => Mid s' | _ => False) (fun _ _ => False) s := by
  w_top off
  k_with_none
  k_with "binaryOp Add ref ref" => ((with_reducible rename CarriedAll _ (List.map PyData.int _) => hcX); (have hiX := IntsAre.ofCarried hcX); clear hcX; k_here; (with_reducible show wpAny _ _ (binaryOp _ (Value.ref _) (Value.ref _)) _ _ _); k_dflt (refine' kmk_add_ints ?F ?N ?a ?b ?i ?j ?_ ?z; (case F => k_asm); (case N => k_asm); (case a => kmk_list); (case b => kmk_list); (case i => l_ints); (case j => l_ints); (case z => kmk_sum)); intro D' ws' h' F' N' l1 hI'; (try k_lt l1); (try k_sweep))
  k_with "call type:list" => ((with_reducible show wpAny _ _ (call (Value.type "list") [Value.bytes _ _]) _ _ _); (with_unfolding_all refine' list_bytes ?hh ?F ?N ?hn ?_); (case hh => rfl); (case F => k_asm); (case N => k_asm); (case hn => exact Nat.le_of_ble_eq_true rfl); intro D' ws' c' h' tk' F' N' l1 hI'; (try k_lt l1); (try k_sweep))
  k_with "InvEndN" => (
      (rename News _ _ _ _ => nE)
      (rename Fr _ _ _ _ => fE)
      (rename _ = List.map _ _ => rE)
      (try simp only [List.push_toArray] at nE)
      (refine' seq_end (led0 := [_, _, _, _]) fE nE ?hf ?hr ?hp rfl)
      (case hf => exact IntsAre.append (by assumption) (IntsAre.cons _ _ IntsAre.nil))
      (case hr => intro z zx zs; (have zc : z ≠ Str.ofString "code" := by intro e; rw [e] at zs; revert zs; decide); simp only [if_neg zx, if_neg zc, zs]; (try rfl))
      (case hp => exact map_snoc rE (by first | exact code61 (pick3 (by assumption)) (by assumption) | exact coden (pick3 (by assumption)) (by assumption) | exact code61 (pickn (by assumption)) (by assumption) | exact coden (pickn (by assumption)) (by assumption))))
  revert X; k_fill; intro X
  dsimp only [lawEnv, lawParts, Challenge.pw_qh0085_01, List.getLast?, List.getLast, List.drop, List.take]
  k_steps
  exact post _ _ _ _ _ _ (by assumption) (cb_drop (by assumption) (List.forall_mem_cons.mpr ⟨by k_mem, List.forall_mem_cons.mpr ⟨by k_mem, List.forall_mem_cons.mpr ⟨by k_mem, fun _ h => nomatch h⟩⟩⟩)) (by assumption) (by rename _ < _ ∧ _ < _ ∧ L + 1 < _ => hz; exact hz.2.2)






theorem chr_fst {prog : Program} {w : World} {A : Around} {E : Value → Shared → Prop} {s : Shared} {p q : Int} {t : Tok} {Q : Value → Shared → Prop} (h0 : 0 ≤ p) (h1 : p ≤ 1114111) (h : Q (.str ⟨#[p.toNat]⟩ s.toks) { s with toks := s.toks + 1 }) :
    wpAny (model prog w) A (call (.builtin "chr") [.int ([p, q].getD (Int.toNat 0) 0) t]) Q E s := chr_of_range (i := p) h0 h1 h
theorem chr_snd {prog : Program} {w : World} {A : Around} {E : Value → Shared → Prop} {s : Shared} {p q : Int} {t : Tok} {Q : Value → Shared → Prop} (h0 : 0 ≤ q) (h1 : q ≤ 1114111) (h : Q (.str ⟨#[q.toNat]⟩ s.toks) { s with toks := s.toks + 1 }) :
    wpAny (model prog w) A (call (.builtin "chr") [.int ([p, q].getD (Int.toNat 1) 0) t]) Q E s := chr_of_range (i := q) h0 h1 h
local macro_rules | `(tactic| walk_at "call builtin:chr") => `(tactic| first | with_reducible refine chr_fst (by omega) (by omega) ?_ | with_reducible refine chr_snd (by omega) (by omega) ?_)

/-- what altchars and altsigns hold, and the two signs that stand for 62 and 63 -/
inductive AltIs (p0 p1 : Int) : Value → Value → Int → Int → Prop where
  | plain : AltIs p0 p1 .none .none 43 47
  | own (t t' : Tok) : AltIs p0 p1 (.bytes #[p0.toNat.toUInt8, p1.toNat.toUInt8] t) (.str ((⟨#[p0.toNat]⟩ : Str) ++ (⟨#[p1.toNat]⟩ : Str)) t') p0 p1


set_option maxRecDepth 100000 in
set_option maxHeartbeats 8000000 in
theorem segB2b (w : World) (mean : ExcName → Option Value) (mg mb : Str → Option Value) {L fa ln lp : Addr} {p0 p1 : Int} {t0 t1 : Tok} {cd : Value} {h₀ : Heap} {mr : Str → Option Value} {s : Shared} {oc : Obj} {vs : List Value} {nums : List Int} {nn : Nat} {tt : Tok} {Mid : Shared → Prop} 
    (K0 : Below callerA h₀ [] h₀) (X : (hd.heap_39 w.params).In h₀) (T : Top hd.view_39 loose0 mean mg mb h₀)
    (F : Fr h₀ L s.heap (fun y => if y = Str.ofString "total" then some (.int nums.sum tt) else if y = Str.ofString "numbers" then some (.ref ln) else mr y))
    (N : News h₀ L s.heap [(lp, W.listOf #[.int p0 t0, .int p1 t1] 0), (ln, W.listOf vs.toArray nn), (L + 1, oc)]) (hoc : oc.data = .cell (some (.ref lp))) (hln : L + 1 < ln) (hlp : L + 1 < lp) (hI : IntsAre vs nums) (hn1 : 1 ≤ nums.length) (hn2 : nums.length ≤ 16)
    (h0 : 33 ≤ p0) (h0' : p0 ≤ 126) (h1 : 33 ≤ p1) (h1' : p1 ≤ 126)
    (post : ∀ (h' : Heap) (tk' : Nat) (lq : Addr) (va vb : Value) (q0 q1 : Int) (u0 u1 : Tok) (oc' : Obj) (mr' : Str → Option Value), AltIs p0 p1 va vb q0 q1 →
      Fr h₀ L h' (fun y => if y = Str.ofString "altsigns" then some vb else if y = Str.ofString "altchars" then some va else if y = Str.ofString "total" then some (.int nums.sum tt) else if y = Str.ofString "numbers" then some (.ref ln) else mr' y) →
      News h₀ L h' [(lq, W.listOf #[.int q0 u0, .int q1 u1] 0), (ln, W.listOf vs.toArray nn), (L + 1, oc')] → oc'.data = .cell (some (.ref lq)) → L + 1 < lq → Mid { s with heap := h', toks := tk' }) :
    wpAny (model Challenge.rw_qh0085_01.row.prog w) (callerA.deeper (lawEnv L fa cd)) (execs ((lawParts.1.drop 4).take 3) (lawEnv L fa cd)) (fun f s' => match f with | .next => Mid s' | _ => False) (fun _ _ => False) s := by
  w_top off
  k_with_none
  k_with "binaryOp Add ref ref" => ((with_reducible rename CarriedAll _ (List.map PyData.int _) => hcX); (have hiX := IntsAre.ofCarried hcX); clear hcX; k_here; (with_reducible show wpAny _ _ (binaryOp _ (Value.ref _) (Value.ref _)) _ _ _); k_dflt (refine' kmk_add_ints ?F ?N ?a ?b ?i ?j ?_ ?z; (case F => k_asm); (case N => k_asm); (case a => kmk_list); (case b => kmk_list); (case i => l_ints); (case j => l_ints); (case z => kmk_sum)); intro D' ws' h' F' N' l1 hI'; (try k_lt l1); (try k_sweep))
  k_with "call type:list" => ((with_reducible show wpAny _ _ (call (Value.type "list") [Value.bytes _ _]) _ _ _); (with_unfolding_all refine' list_bytes ?hh ?F ?N ?hn ?_); (case hh => rfl); (case F => k_asm); (case N => k_asm); (case hn => exact Nat.le_of_ble_eq_true rfl); intro D' ws' c' h' tk' F' N' l1 hI'; (try k_lt l1); (try k_sweep))
  k_with "InvEndN" => (
      (rename News _ _ _ _ => nE)
      (rename Fr _ _ _ _ => fE)
      (rename _ = List.map _ _ => rE)
      (try simp only [List.push_toArray] at nE)
      (refine' seq_end (led0 := [_, _, _, _]) fE nE ?hf ?hr ?hp rfl)
      (case hf => exact IntsAre.append (by assumption) (IntsAre.cons _ _ IntsAre.nil))
      (case hr => intro z zx zs; (have zc : z ≠ Str.ofString "code" := by intro e; rw [e] at zs; revert zs; decide); simp only [if_neg zx, if_neg zc, zs]; (try rfl))
      (case hp => exact map_snoc rE (by first | exact code61 (pick3 (by assumption)) (by assumption) | exact coden (pick3 (by assumption)) (by assumption) | exact code61 (pickn (by assumption)) (by assumption) | exact coden (pickn (by assumption)) (by assumption))))
  revert X; k_fill; intro X
  dsimp only [lawEnv, lawParts, Challenge.pw_qh0085_01, List.getLast?, List.getLast, List.drop, List.take]
  k_steps
  · exact post _ _ _ _ _ _ _ _ _ _ _ .plain (Fr.pick (Fr.pick (Fr.pick (Fr.pick (by assumption) (by with_unfolding_all rfl)) (by with_unfolding_all rfl)) (by with_unfolding_all rfl)) (by with_unfolding_all rfl)) (cb_drop (by assumption) (List.forall_mem_cons.mpr ⟨by k_mem, List.forall_mem_cons.mpr ⟨by k_mem, List.forall_mem_cons.mpr ⟨by k_mem, fun _ h => nomatch h⟩⟩⟩)) (by assumption) (by rename _ < _ ∧ _ < _ ∧ L + 1 < _ => hz; exact hz.2.2)
  · exact post _ _ _ _ _ _ _ _ _ _ _ (.own _ _) (by assumption) (by assumption) hoc hlp







/-- the alphabet, the two signs, + and / -/
noncomputable def signsL (q0 q1 : Int) : List Int := [65, 66, 67, 68, 69, 70, 71, 72, 73, 74, 75, 76, 77, 78, 79, 80, 81, 82, 83, 84, 85, 86, 87, 88, 89, 90, 97, 98, 99, 100, 101, 102, 103, 104, 105, 106, 107, 108, 109, 110, 111, 112, 113, 114, 115, 116, 117, 118, 119, 120, 121, 122, 48, 49, 50, 51, 52, 53, 54, 55, 56, 57, q0, q1, 43, 47]
theorem signsL_len (q0 q1 : Int) : (signsL q0 q1).length = 66 := rfl
/-- the octet that a number picks -/
noncomputable def pick (sg : List Int) (x : Int) : Int := if x.fmod 4 = 3 then (x.fdiv 4).fmod 256 else sg.getD ((x.fdiv 4).fmod 66).toNat 0
noncomputable def codeOf (sg : List Int) (x : Int) : Int := if pick sg x = 61 then 60 else pick sg x


set_option maxRecDepth 100000 in
set_option maxHeartbeats 8000000 in
theorem segC1 (w : World) (mean : ExcName → Option Value) (mg mb : Str → Option Value) {L fa ln lq : Addr} {q0 q1 : Int} {u0 u1 : Tok} {va vb : Value} {cd : Value} {h₀ : Heap} {mr : Str → Option Value} {s : Shared} {oc : Obj} {vs : List Value} {nums : List Int} {nn : Nat} {tt : Tok} {Mid : Shared → Prop}
    (K0 : Below callerA h₀ [] h₀) (X : (hd.heap_39 w.params).In h₀) (T : Top hd.view_39 loose0 mean mg mb h₀)
    (F : Fr h₀ L s.heap (fun y => if y = Str.ofString "altsigns" then some vb else if y = Str.ofString "altchars" then some va else if y = Str.ofString "total" then some (.int nums.sum tt) else if y = Str.ofString "numbers" then some (.ref ln) else mr y))
    (N : News h₀ L s.heap [(lq, W.listOf #[.int q0 u0, .int q1 u1] 0), (ln, W.listOf vs.toArray nn), (L + 1, oc)]) (hoc : oc.data = .cell (some (.ref lq))) (hln : L + 1 < ln) (hlq : L + 1 < lq) (hI : IntsAre vs nums) (hn1 : 1 ≤ nums.length) (hn2 : nums.length ≤ 16)
    (post : ∀ (h' : Heap) (tk' : Nat) (lsg ll : Addr) (ws : List Value), Fr h₀ L h' (fun y => if y = Str.ofString "line" then some (.ref ll) else if y = Str.ofString "signs" then some (.ref lsg) else if y = Str.ofString "altsigns" then some vb else if y = Str.ofString "altchars" then some va else if y = Str.ofString "total" then some (.int nums.sum tt) else if y = Str.ofString "numbers" then some (.ref ln) else mr y) →
      News h₀ L h' [(ll, W.listOf #[] 0), (lsg, W.listOf ws.toArray 0), (lq, W.listOf #[.int q0 u0, .int q1 u1] 0), (ln, W.listOf vs.toArray nn), (L + 1, oc)] → IntsAre ws (signsL q0 q1) → lsg < ll → lq < ll → ln < ll → L + 1 < ll → Mid { s with heap := h', toks := tk' }) :
    wpAny (model Challenge.rw_qh0085_01.row.prog w) (callerA.deeper (lawEnv L fa cd)) (execs ((lawParts.1.drop 7).take 2) (lawEnv L fa cd)) (fun f s' => match f with | .next => Mid s' | _ => False) (fun _ _ => False) s := by
  w_top off
  k_with_none
  k_with "binaryOp Add ref ref" => ((with_reducible rename CarriedAll _ (List.map PyData.int _) => hcX); (have hiX := IntsAre.ofCarried hcX); clear hcX; k_here; (with_reducible show wpAny _ _ (binaryOp _ (Value.ref _) (Value.ref _)) _ _ _); k_dflt (refine' kmk_add_ints ?F ?N ?a ?b ?i ?j ?_ ?z; (case F => k_asm); (case N => k_asm); (case a => kmk_list); (case b => kmk_list); (case i => l_ints); (case j => l_ints); (case z => kmk_sum)); intro D' ws' h' F' N' l1 hI'; (try k_lt l1); (try k_sweep))
  k_with "call type:list" => ((with_reducible show wpAny _ _ (call (Value.type "list") [Value.bytes _ _]) _ _ _); (with_unfolding_all refine' list_bytes ?hh ?F ?N ?hn ?_); (case hh => rfl); (case F => k_asm); (case N => k_asm); (case hn => exact Nat.le_of_ble_eq_true rfl); intro D' ws' c' h' tk' F' N' l1 hI'; (try k_lt l1); (try k_sweep))
  k_with "InvEndN" => (
      (rename News _ _ _ _ => nE)
      (rename Fr _ _ _ _ => fE)
      (rename _ = List.map _ _ => rE)
      (try simp only [List.push_toArray] at nE)
      (refine' seq_end (led0 := [_, _, _, _]) fE nE ?hf ?hr ?hp rfl)
      (case hf => exact IntsAre.append (by assumption) (IntsAre.cons _ _ IntsAre.nil))
      (case hr => intro z zx zs; (have zc : z ≠ Str.ofString "code" := by intro e; rw [e] at zs; revert zs; decide); simp only [if_neg zx, if_neg zc, zs]; (try rfl))
      (case hp => exact map_snoc rE (by first | exact code61 (pick3 (by assumption)) (by assumption) | exact coden (pick3 (by assumption)) (by assumption) | exact code61 (pickn (by assumption)) (by assumption) | exact coden (pickn (by assumption)) (by assumption))))
  revert X; k_fill; intro X
  dsimp only [lawEnv, lawParts, Challenge.pw_qh0085_01, List.getLast?, List.getLast, List.drop, List.take]
  k_steps
  rename _ < _ ∧ _ < _ ∧ _ < _ ∧ _ < _ ∧ lq < _ ∧ ln < _ ∧ L + 1 < _ => hlt
  rename IntsAre _ (_ ++ [43, 47]) => hS
  exact post _ _ _ _ _ (by assumption) (cb_drop (by assumption) (List.forall_mem_cons.mpr ⟨by k_mem, List.forall_mem_cons.mpr ⟨by k_mem, List.forall_mem_cons.mpr ⟨by k_mem, List.forall_mem_cons.mpr ⟨by k_mem, List.forall_mem_cons.mpr ⟨by k_mem, fun _ h => nomatch h⟩⟩⟩⟩⟩)) hS hlt.1 hlt.2.2.2.2.1 hlt.2.2.2.2.2.1 hlt.2.2.2.2.2.2

theorem pick3 {sg : List Int} {x : Int} (h : x.fmod 4 = 3) : pick sg x = (x.fdiv 4).fmod 256 := if_pos h
theorem pickn {sg : List Int} {x : Int} (h : x.fmod 4 ≠ 3) : pick sg x = sg.getD ((x.fdiv 4).fmod 66).toNat 0 := if_neg h
theorem code61 {sg : List Int} {x c : Int} (h : pick sg x = c) (h2 : c = 61) : codeOf sg x = 60 := by unfold codeOf; rw [if_pos (h.trans h2)]
theorem coden {sg : List Int} {x c : Int} (h : pick sg x = c) (h2 : c ≠ 61) : codeOf sg x = c := by unfold codeOf; rw [if_neg (by rw [h]; exact h2), h]
theorem map_snoc {g : Int → Int} {pre out : List Int} {n v : Int} (h : out = pre.map g) (hv : g n = v) : out ++ [v] = (pre ++ [n]).map g := by rw [List.map_append, h, ← hv]; rfl

local macro_rules | `(tactic| walk_at "call builtin:list.append") => `(tactic| ((with_reducible show wpAny _ _ (call (Value.builtin _) [Value.ref _, _]) _ _ _); (refine append_K (by k_asm) (by k_asm) (Upd.head (by assumption)) ?_ (by rw [sizeLine_eq, List.size_toArray]; omega)); intro h' F' N'; (try k_sweep)))


set_option maxRecDepth 100000 in
set_option maxHeartbeats 8000000 in
theorem segC2 (w : World) (mean : ExcName → Option Value) (mg mb : Str → Option Value) {L fa ln lq lsg ll : Addr} {q0 q1 : Int} {u0 u1 : Tok} {va vb : Value} {cd : Value} {h₀ : Heap} {mr : Str → Option Value} {s : Shared} {oc : Obj} {vs ws : List Value} {nums : List Int} {nn : Nat} {tt : Tok} {Mid : Shared → Prop}
    (K0 : Below callerA h₀ [] h₀) (X : (hd.heap_39 w.params).In h₀) (T : Top hd.view_39 loose0 mean mg mb h₀)
    (F : Fr h₀ L s.heap (fun y => if y = Str.ofString "line" then some (.ref ll) else if y = Str.ofString "signs" then some (.ref lsg) else if y = Str.ofString "altsigns" then some vb else if y = Str.ofString "altchars" then some va else if y = Str.ofString "total" then some (.int nums.sum tt) else if y = Str.ofString "numbers" then some (.ref ln) else mr y))
    (N : News h₀ L s.heap [(ll, W.listOf #[] 0), (lsg, W.listOf ws.toArray 0), (lq, W.listOf #[.int q0 u0, .int q1 u1] 0), (ln, W.listOf vs.toArray nn), (L + 1, oc)]) (hS : IntsAre ws (signsL q0 q1)) (l1 : lsg < ll) (l2 : lq < ll) (l3 : ln < ll) (l4 : L + 1 < ll) (hI : IntsAre vs nums) (hn1 : 1 ≤ nums.length) (hn2 : nums.length ≤ 16)
    (post : ∀ (h' : Heap) (tk' : Nat) (us : List Value) (c : Nat) (mr' : Str → Option Value), Fr h₀ L h' (fun y => if y = Str.ofString "line" then some (.ref ll) else if y = Str.ofString "altsigns" then some vb else if y = Str.ofString "altchars" then some va else if y = Str.ofString "total" then some (.int nums.sum tt) else if y = Str.ofString "numbers" then some (.ref ln) else mr' y) →
      News h₀ L h' [(ll, W.listOf us.toArray c), (lq, W.listOf #[.int q0 u0, .int q1 u1] 0), (L + 1, oc)] → IntsAre us (nums.map (codeOf (signsL q0 q1))) → Mid { s with heap := h', toks := tk' }) :
    wpAny (model Challenge.rw_qh0085_01.row.prog w) (callerA.deeper (lawEnv L fa cd)) (execs ((lawParts.1.drop 9).take 1) (lawEnv L fa cd)) (fun f s' => match f with | .next => Mid s' | _ => False) (fun _ _ => False) s := by
  w_top off
  k_with_none
  k_with "binaryOp Add ref ref" => ((with_reducible rename CarriedAll _ (List.map PyData.int _) => hcX); (have hiX := IntsAre.ofCarried hcX); clear hcX; k_here; (with_reducible show wpAny _ _ (binaryOp _ (Value.ref _) (Value.ref _)) _ _ _); k_dflt (refine' kmk_add_ints ?F ?N ?a ?b ?i ?j ?_ ?z; (case F => k_asm); (case N => k_asm); (case a => kmk_list); (case b => kmk_list); (case i => l_ints); (case j => l_ints); (case z => kmk_sum)); intro D' ws' h' F' N' l1 hI'; (try k_lt l1); (try k_sweep))
  k_with "call type:list" => ((with_reducible show wpAny _ _ (call (Value.type "list") [Value.bytes _ _]) _ _ _); (with_unfolding_all refine' list_bytes ?hh ?F ?N ?hn ?_); (case hh => rfl); (case F => k_asm); (case N => k_asm); (case hn => exact Nat.le_of_ble_eq_true rfl); intro D' ws' c' h' tk' F' N' l1 hI'; (try k_lt l1); (try k_sweep))
  k_with "InvEndN" => (
      (rename News _ _ _ _ => nE)
      (rename Fr _ _ _ _ => fE)
      (rename _ = List.map _ _ => rE)
      (try simp only [List.push_toArray] at nE)
      (refine' seq_end (led0 := [_, _, _, _]) fE nE ?hf ?hr ?hp rfl)
      (case hf => exact IntsAre.append (by assumption) (IntsAre.cons _ _ IntsAre.nil))
      (case hr => intro z zx zs; (have zc : z ≠ Str.ofString "code" := by intro e; rw [e] at zs; revert zs; decide); simp only [if_neg zx, if_neg zc, zs]; (try rfl))
      (case hp => exact map_snoc rE (by first | exact code61 (pick3 (by assumption)) (by assumption) | exact coden (pick3 (by assumption)) (by assumption) | exact code61 (pickn (by assumption)) (by assumption) | exact coden (pickn (by assumption)) (by assumption))))
  revert X; k_fill; intro X
  dsimp only [lawEnv, lawParts, Challenge.pw_qh0085_01, List.getLast?, List.getLast, List.drop, List.take]
  (first | (k_unfold; (try dsimp only)) | (k_end; wrow_close) | walk1 | (dsimp only; walk1) | (leave1; try dsimp only))
  with_unfolding_all refine' For_invVF F ?k1 ?k2 ?_
  case k1 => exact rfl
  case k2 => exact rfl
  (first | (k_unfold; (try dsimp only)) | (k_end; wrow_close) | walk1 | (dsimp only; walk1) | (leave1; try dsimp only))
  have hMk := kstMark
  refine kst_listL (σ := SL) (nn := nn) (fun c => (ll, W.listOf c.us.toArray c.n) :: [(lsg, W.listOf ws.toArray 0), (lq, W.listOf #[.int q0 u0, .int q1 u1] 0), (ln, W.listOf vs.toArray nn), (L + 1, oc)]) (fun _ => []) (fun c => IntsAre c.us c.out) [Str.ofString "code"] (fun pre c => c.out = pre.map (codeOf (signsL q0 q1))) ⟨[], [], 0⟩ rfl ?hl hI F N IntsAre.nil (fun _ h => nomatch h) rfl ?turn ?done
  case hl => intro c; exact .tail _ (.tail _ (.tail _ (.head _)))
  case done => 
    intro c u h tk kFacts kInv kFr kNews
    obtain ⟨us, out, cn⟩ := c
    dsimp only [kstB] at kFr
    dsimp only at kFacts kInv kNews ⊢
    subst kInv
    k_steps
    exact post _ _ us cn _ (Fr.pick (Fr.pick (Fr.pick (Fr.pick (Fr.pick kFr (by with_unfolding_all rfl)) (by with_unfolding_all rfl)) (by with_unfolding_all rfl)) (by with_unfolding_all rfl)) (by with_unfolding_all rfl)) (cb_drop kNews (List.forall_mem_cons.mpr ⟨.head _, List.forall_mem_cons.mpr ⟨.tail _ (.tail _ (.head _)), List.forall_mem_cons.mpr ⟨.tail _ (.tail _ (.tail _ (.tail _ (.head _)))), fun _ h => nomatch h⟩⟩⟩)) kFacts
  case turn =>
    clear F N
    intro c pre post n t u h tk own kEq kMem kOff kFacts kInv kFr kNews
    obtain ⟨us, out, cn⟩ := c
    dsimp only [kstB] at kFr
    dsimp only at kFacts kInv kNews ⊢
    simp only [List.cons_append, List.nil_append] at kNews
    have hus := kFacts.length
    have hlo : out.length ≤ 1000 := by
      have := congrArg List.length kEq
      rw [List.length_append, List.length_cons] at this
      rw [kInv, List.length_map]; omega
    have hne : ∀ p ∈ ((lsg, W.listOf ws.toArray 0) :: (lq, W.listOf #[Value.int q0 u0, Value.int q1 u1] 0) :: (ln, W.listOf vs.toArray nn) :: (L + 1, oc) :: own), p.1 ≠ ll :=
      List.forall_mem_cons.mpr ⟨Nat.ne_of_lt l1, List.forall_mem_cons.mpr ⟨Nat.ne_of_lt l2, List.forall_mem_cons.mpr ⟨Nat.ne_of_lt l3, List.forall_mem_cons.mpr ⟨Nat.ne_of_lt l4, fun p hp => kOff p hp ll (.head _)⟩⟩⟩⟩
    k_steps
end Mine
end

section
open PySem PySem.W PyProof.Rows
namespace Mine





/-- the number of = signs behind -/
noncomputable def padOf (total : Int) (size : Nat) : Int := if total.fmod 3 ≠ 0 then (-(size : Int)).fmod 4 else 0
/-- the worths of the signs that are not passed over -/
noncomputable def figsOf (q0 q1 : Int) (line : List Int) : List Int := (line.map (figP q0 q1)).filter fun a => decide (0 ≤ a)

local macro_rules | `(tactic| walk_at "call ref") => `(tactic| ((with_reducible show wpAny _ _ (call (Value.ref 128) _ _) _ _ _); (with_unfolding_all refine' fig_in _ _ _ _ ?k1 ?k2 ?k3 ?k4 ?km ?k5 ?kK ?ret); (case k1 => k_asm); (case k2 => k_asm); (case k3 => k_asm); (case k4 => k_asm); (case k5 => k_asm); (case kK => first | exact rfl | assumption); (case km => k_dflt k_mem); (case' ret => intro t9 h9 tk9 F9 N9; (try dsimp only); (try k_fold))))

set_option maxRecDepth 100000 in
set_option maxHeartbeats 8000000 in
theorem segD (w : World) (mean : ExcName → Option Value) (mg mb : Str → Option Value) {L fa ln lq ll : Addr} {q0 q1 : Int} {u0 u1 : Tok} {va vb : Value} {cd : Value} {h₀ : Heap} {mr : Str → Option Value} {s : Shared} {oc : Obj} {us : List Value} {nums line : List Int} {cn : Nat} {tt : Tok} {Mid : Shared → Prop}
    (K0 : Below callerA h₀ [] h₀) (X : (hd.heap_39 w.params).In h₀) (T : Top hd.view_39 loose0 mean mg mb h₀)
    (F : Fr h₀ L s.heap (fun y => if y = Str.ofString "line" then some (.ref ll) else if y = Str.ofString "altsigns" then some vb else if y = Str.ofString "altchars" then some va else if y = Str.ofString "total" then some (.int nums.sum tt) else if y = Str.ofString "numbers" then some (.ref ln) else mr y))
    (N : News h₀ L s.heap [(ll, W.listOf us.toArray cn), (lq, W.listOf #[.int q0 u0, .int q1 u1] 0), (L + 1, oc)]) (hoc : oc.data = .cell (some (.ref lq))) (hI : IntsAre us line) (hn1 : 1 ≤ line.length) (hn2 : line.length ≤ 16)
    (post : ∀ (h' : Heap) (tk' : Nat) (lf : Addr) (zs : List Value) (k : Nat), Fr h₀ L h' (fun y => if y = Str.ofString "figures" then some (.ref lf) else if y = Str.ofString "line" then some (.ref ll) else if y = Str.ofString "altsigns" then some vb else if y = Str.ofString "altchars" then some va else if y = Str.ofString "total" then some (.int nums.sum tt) else if y = Str.ofString "numbers" then some (.ref ln) else mr y) →
      News h₀ L h' [(lf, W.listOf zs.toArray k), (ll, W.listOf us.toArray cn), (L + 1, oc)] → IntsAre zs (figsOf q0 q1 line) → Mid { s with heap := h', toks := tk' }) :
    wpAny (model Challenge.rw_qh0085_01.row.prog w) (callerA.deeper (lawEnv L fa cd)) (execs ((lawParts.1.drop 10).take 1) (lawEnv L fa cd)) (fun f s' => match f with | .next => Mid s' | _ => False) (fun _ _ => False) s := by
  w_top off
  k_with_none
  revert X; k_fill; intro X
  dsimp only [lawEnv, lawParts, Challenge.pw_qh0085_01, List.getLast?, List.getLast, List.drop, List.take]
  k_steps
  rename_i ys hI8 hL8 D' h' tk' F' N' o1'
  with_unfolding_all refine srcA_ints (us := ys) (c := ys.length) (fun a => decide (0 ≤ a)) (fun a => a) rfl rfl F' N' (by exact .head _) hI8 ?g1 ?g2 ?g3 (by rw [List.length_map]; omega)
  case g3 =>
    intro D zs k h2 tk2 F2 N2 hne hz
    rw [List.map_id'] at hz
    k_steps
    exact post _ _ D zs k F2 (cb_drop N2 (List.forall_mem_cons.mpr ⟨.head _, List.forall_mem_cons.mpr ⟨.tail _ (.tail _ (.head _)), List.forall_mem_cons.mpr ⟨.tail _ (.tail _ (.tail _ (.tail _ (.head _)))), fun _ h => nomatch h⟩⟩⟩)) hz
  case g1 =>
    intro C a t s₂ m₂ E' ha hns hm
    k_steps
    exact ⟨_, _, rfl, fun _ _ e => e⟩
  case g2 =>
    intro C a t s₂ m₂ E' ha hp hns hm
    k_steps
    exact ⟨_, _, rfl, fun _ _ e => e⟩

set_option maxRecDepth 100000 in
set_option maxHeartbeats 8000000 in
theorem segD2 (w : World) (mean : ExcName → Option Value) (mg mb : Str → Option Value) {L fa ll lf : Addr} {va vb : Value} {cd : Value} {h₀ : Heap} {mr : Str → Option Value} {s : Shared} {oc : Obj} {us zs : List Value} {nums line figs : List Int} {cn k : Nat} {tt : Tok} {Mid : Shared → Prop}
    (K0 : Below callerA h₀ [] h₀) (X : (hd.heap_39 w.params).In h₀) (T : Top hd.view_39 loose0 mean mg mb h₀)
    (F : Fr h₀ L s.heap (fun y => if y = Str.ofString "figures" then some (.ref lf) else if y = Str.ofString "line" then some (.ref ll) else if y = Str.ofString "altsigns" then some vb else if y = Str.ofString "altchars" then some va else if y = Str.ofString "total" then some (.int nums.sum tt) else mr y))
    (N : News h₀ L s.heap [(lf, W.listOf zs.toArray k), (ll, W.listOf us.toArray cn), (L + 1, oc)]) (hZ : IntsAre zs figs) (hf : figs.length ≤ 16)
    (post : ∀ (h' : Heap) (tk' : Nat) (t1 t2 : Tok), Fr h₀ L h' (fun y => if y = Str.ofString "pads" then some (.int (padOf nums.sum figs.length) t1) else if y = Str.ofString "size" then some (.int figs.length t2) else if y = Str.ofString "figures" then some (.ref lf) else if y = Str.ofString "line" then some (.ref ll) else if y = Str.ofString "altsigns" then some vb else if y = Str.ofString "altchars" then some va else if y = Str.ofString "total" then some (.int nums.sum tt) else mr y) →
      News h₀ L h' [(lf, W.listOf zs.toArray k), (ll, W.listOf us.toArray cn), (L + 1, oc)] → Mid { s with heap := h', toks := tk' }) :
    wpAny (model Challenge.rw_qh0085_01.row.prog w) (callerA.deeper (lawEnv L fa cd)) (execs ((lawParts.1.drop 11).take 2) (lawEnv L fa cd)) (fun f s' => match f with | .next => Mid s' | _ => False) (fun _ _ => False) s := by
  w_top off
  k_with_none
  revert X; k_fill; intro X
  dsimp only [lawEnv, lawParts, Challenge.pw_qh0085_01, List.getLast?, List.getLast, List.drop, List.take]
  have hMk := kstMark
  k_steps
  · have e : padOf nums.sum figs.length = (-(figs.length : Int)).fmod 4 := if_pos (by assumption)
    rw [e] at post
    exact post _ _ _ _ (by assumption) (by assumption)
  · have e : padOf nums.sum figs.length = 0 := if_neg (by simp only [ne_eq, Decidable.not_not]; assumption)
    rw [e] at post
    exact post _ _ _ _ (by assumption) (by assumption)
end Mine
end

section
open PySem PySem.W PyProof.Rows
namespace Mine






theorem Fr.dup {h₀ h : Heap} {L : Addr} {m : Str → Option Value} {a : Str} {v v' : Value} (F : Fr h₀ L h (fun y => if y = a then some v else if y = a then some v' else m y)) : Fr h₀ L h (fun y => if y = a then some v else m y) :=
  Fr.norm F fun y => by
    by_cases hy : y = a
    · rw [if_pos hy, if_pos hy]
    · rw [if_neg hy, if_neg hy, if_neg hy]
noncomputable def dueBody : List Stmt := match (lawParts.1.drop 14).head? with | some (Stmt.If _ body _ _) => body | _ => []
/-- the k-th octet due -/
noncomputable def dueAt (figs : List Int) (n : Int) : Int := ((64 * figs.getD ((8 * n).fdiv 6).toNat 0 + figs.getD ((8 * n).fdiv 6 + 1).toNat 0).fdiv (2 ^ (4 - (8 * n).fmod 6).toNat)).fmod 256

set_option maxRecDepth 100000 in
set_option maxHeartbeats 8000000 in
theorem segE1 (w : World) (mean : ExcName → Option Value) (mg mb : Str → Option Value) {L fa ll lf : Addr} {cd : Value} {h₀ : Heap} {mr : Str → Option Value} {s : Shared} {oc : Obj} {us zs : List Value} {figs : List Int} {cn k : Nat} {t2 : Tok} {Mid : Shared → Prop}
    (K0 : Below callerA h₀ [] h₀) (X : (hd.heap_39 w.params).In h₀) (T : Top hd.view_39 loose0 mean mg mb h₀)
    (F : Fr h₀ L s.heap (fun y => if y = Str.ofString "size" then some (.int figs.length t2) else if y = Str.ofString "figures" then some (.ref lf) else mr y))
    (N : News h₀ L s.heap [(lf, W.listOf zs.toArray k), (ll, W.listOf us.toArray cn), (L + 1, oc)])
    (post : ∀ (h' : Heap) (tk' : Nat) (ld : Addr), Fr h₀ L h' (fun y => if y = Str.ofString "due" then some (.ref ld) else if y = Str.ofString "size" then some (.int figs.length t2) else if y = Str.ofString "figures" then some (.ref lf) else mr y) → News h₀ L h' ((ld, W.listOf #[] 0) :: [(lf, W.listOf zs.toArray k), (ll, W.listOf us.toArray cn), (L + 1, oc)]) → lf < ld → ll < ld → L + 1 < ld → Mid { s with heap := h', toks := tk' }) :
    wpAny (model Challenge.rw_qh0085_01.row.prog w) (callerA.deeper (lawEnv L fa cd)) (execs (dueBody.take 1) (lawEnv L fa cd)) (fun f s' => match f with | .next => Mid s' | _ => False) (fun _ _ => False) s := by
  w_top off
  k_with_none
  k_with "InvEndN" => (
      (rename News _ _ _ _ => nE)
      (rename Fr _ _ _ _ => fE)
      (rename _ = List.map _ _ => rE)
      (try simp only [List.push_toArray] at nE)
      (refine' seq_end (led0 := [_, _, _]) fE nE ?hf ?hr ?hp rfl)
      (case hf => exact IntsAre.append (by assumption) (IntsAre.cons _ _ IntsAre.nil))
      (case hr => intro z zx zs; (have zc : z ≠ Str.ofString "place" := by intro e; rw [e] at zs; revert zs; decide); simp only [if_neg zx, if_neg zc, zs]; (try rfl))
      (case hp => exact map_snoc' rE rfl))
  revert X; k_fill; intro X
  dsimp only [lawEnv, dueBody, lawParts, Challenge.pw_qh0085_01, List.getLast?, List.getLast, List.drop, List.take, List.head?]
  k_steps
  rename lf < _ ∧ ll < _ ∧ L + 1 < _ => hlt
  exact post _ _ _ (by assumption) (by assumption) hlt.1 hlt.2.1 hlt.2.2

local macro_rules | `(tactic| walk_at "subscriptTail Name Name ref int") => `(tactic| ((with_reducible show wpAny _ _ (subscriptTail _ _ (Value.ref _) (Value.int _ _)) _ _ _); refine' item_ints ?N ?hm ?hI ?h0 ?h1 ?hz ?_; (case N => k_asm); (case hm => k_dflt k_mem); (case hI => assumption); (case h0 => assumption); (case h1 => assumption); (case hz => assumption); intro tI))
local macro_rules | `(tactic| walk_at "subscriptTail Name BinOp ref int") => `(tactic| ((with_reducible show wpAny _ _ (subscriptTail _ _ (Value.ref _) (Value.int _ _)) _ _ _); refine' item_ints ?N ?hm ?hI ?h0 ?h1 ?hz ?_; (case N => k_asm); (case hm => k_dflt k_mem); (case hI => assumption); (case h0 => assumption); (case h1 => assumption); (case hz => assumption); intro tI))
local macro_rules | `(tactic| walk_at "binaryOp Pow int int") => `(tactic| (with_reducible refine pow_int_small (by assumption) (by assumption) (by decide) ?_))
local macro_rules | `(tactic| walk_at "binaryOp FloorDiv int int") => `(tactic| first | (with_reducible refine floordiv_int (by decide) ?_ (Or.inl (PyProof.noPylong_small (by decide)))) | (with_reducible refine floordiv_int (by assumption) ?_ (Or.inl (PyProof.noPylong_small (by assumption)))))
local macro_rules | `(tactic| walk_at "call builtin:list.append") => `(tactic| ((with_reducible show wpAny _ _ (call (Value.builtin _) [Value.ref _, _]) _ _ _); (refine append_K (by k_asm) (by k_asm) (Upd.head (by assumption)) ?_ (by rw [sizeLine_eq, List.size_toArray]; assumption)); intro h' F' N'; (try k_sweep)))

theorem rangeSize_nat' (n : Nat) : Builtin.Range.rangeSize 0 (n : Int) 1 = (n : Int) := by
  have := rangeSize_nat 0 (n : Int)
  simpa using this
theorem map_snoc' {g : Int → Int} {pre out : List Int} {n v : Int} (h : out = pre.map g) (hv : g n = v) : out ++ [v] = (pre ++ [n]).map g := by rw [List.map_append, h, ← hv]; rfl


set_option maxRecDepth 100000 in
set_option maxHeartbeats 8000000 in
theorem segE2 (w : World) (mean : ExcName → Option Value) (mg mb : Str → Option Value) {L fa ll lf ld : Addr} {cd : Value} {h₀ : Heap} {mr : Str → Option Value} {s : Shared} {oc : Obj} {us zs : List Value} {figs : List Int} {cn k : Nat} {t2 : Tok} {Mid : Shared → Prop}
    (K0 : Below callerA h₀ [] h₀) (X : (hd.heap_39 w.params).In h₀) (T : Top hd.view_39 loose0 mean mg mb h₀)
    (F : Fr h₀ L s.heap (fun y => if y = Str.ofString "due" then some (.ref ld) else if y = Str.ofString "size" then some (.int figs.length t2) else if y = Str.ofString "figures" then some (.ref lf) else mr y))
    (N : News h₀ L s.heap ((ld, W.listOf #[] 0) :: [(lf, W.listOf zs.toArray k), (ll, W.listOf us.toArray cn), (L + 1, oc)])) (l1 : lf < ld) (l2 : ll < ld) (l3 : L + 1 < ld) (hZ : IntsAre zs figs) (hf : figs.length ≤ 16)
    (post : ∀ (h' : Heap) (tk' : Nat) (ys : List Value) (c : Nat) (mr' : Str → Option Value), Fr h₀ L h' (fun y => if y = Str.ofString "due" then some (.ref ld) else mr' y) → (∀ y, y ≠ Str.ofString "due" → y ≠ Str.ofString "k" → y ≠ Str.ofString "place" → mr' y = if y = Str.ofString "size" then some (.int figs.length t2) else if y = Str.ofString "figures" then some (.ref lf) else mr y) →
      News h₀ L h' ((ld, W.listOf ys.toArray c) :: [(lf, W.listOf zs.toArray k), (ll, W.listOf us.toArray cn), (L + 1, oc)]) → IntsAre ys ((rangeKs 0 (6 * figs.length / 8)).map (dueAt figs)) → Mid { s with heap := h', toks := tk' }) :
    wpAny (model Challenge.rw_qh0085_01.row.prog w) (callerA.deeper (lawEnv L fa cd)) (execs ((dueBody.drop 1).take 1) (lawEnv L fa cd)) (fun f s' => match f with | .next => Mid s' | _ => False) (fun _ _ => False) s := by
  w_top off
  k_with_none
  k_with "InvEndN" => (
      (rename News _ _ _ _ => nE)
      (rename Fr _ _ _ _ => fE)
      (rename _ = List.map _ _ => rE)
      (try simp only [List.push_toArray] at nE)
      (refine' seq_end (led0 := [_, _, _]) fE nE ?hf ?hr ?hp rfl)
      (case hf => exact IntsAre.append (by assumption) (IntsAre.cons _ _ IntsAre.nil))
      (case hr => intro z zx zs; (have zc : z ≠ Str.ofString "place" := by intro e; rw [e] at zs; revert zs; decide); simp only [if_neg zx, if_neg zc, zs]; (try rfl))
      (case hp => exact map_snoc' rE rfl))
  revert X; k_fill; intro X
  dsimp only [lawEnv, dueBody, lawParts, Challenge.pw_qh0085_01, List.getLast?, List.getLast, List.drop, List.take, List.head?]
  (first | (k_unfold; (try dsimp only)) | (k_end; wrow_close) | walk1 | (dsimp only; walk1) | (leave1; try dsimp only))
  with_unfolding_all refine' For_invVF F ?k1 ?k2 ?_
  case k1 => exact rfl
  case k2 => exact rfl
  iterate 13 (first | (k_unfold; (try dsimp only)) | (k_end; wrow_close) | walk1 | (dsimp only; walk1) | (leave1; try dsimp only))
  rename IsRange _ _ _ _ _ _ _ _ => rgX
  rename Fr _ _ _ _ => F6
  rename News _ _ _ _ => N6
  have hb : (6 * (figs.length : Int)).fdiv 8 = ((6 * figs.length / 8 : Nat) : Int) := by rw [Int.fdiv_eq_ediv_of_nonneg _ (by decide)]; omega
  rw [hb] at rgX
  have hMk := kstMark
  refine kst_range (σ := SL) (n := 6 * figs.length / 8) (fun c => (ld, W.listOf c.us.toArray c.n) :: [(lf, W.listOf zs.toArray k), (ll, W.listOf us.toArray cn), (L + 1, oc)]) (fun _ => []) (fun c => IntsAre c.us c.out) [Str.ofString "place"] (fun pre c => c.out = pre.map (dueAt figs)) ⟨[], [], 0⟩ rfl rgX (small_one (by omega) (by omega) (by omega) (by omega)) (rangeSize_nat' _) F6 N6 IntsAre.nil (fun _ h => nomatch h) rfl ?turn ?done
  case done =>
    intro c u h tk kFacts kInv kFr kNews
    obtain ⟨ys, out, cc⟩ := c
    dsimp only [kstB] at kFr
    dsimp only at kFacts kInv kNews ⊢
    subst kInv
    k_steps
    refine post _ _ ys cc _ (Fr.pick kFr (by with_unfolding_all rfl)) (fun y y1 y2 y3 => ?_) kNews kFacts
    have hc : [Str.ofString "place"].contains y = false := by simpa using y3
    simp only [if_neg y1, if_neg y2, hc]
    rfl
  case turn =>
    clear F6 N6
    intro c pre n t u h tk own kEq kLt kOff kFacts kInv kFr kNews
    obtain ⟨ys, out, cc⟩ := c
    dsimp only [kstB] at kFr
    dsimp only at kFacts kInv kNews ⊢
    simp only [List.cons_append, List.nil_append] at kNews
    have hus := kFacts.length
    have hlo : ys.length ≤ 16777216 := by rw [hus, kInv, List.length_map]; omega
    have hne : ∀ p ∈ ((lf, W.listOf zs.toArray k) :: (ll, W.listOf us.toArray cn) :: (L + 1, oc) :: own), p.1 ≠ ld :=
      List.forall_mem_cons.mpr ⟨Nat.ne_of_lt l1, List.forall_mem_cons.mpr ⟨Nat.ne_of_lt l2, List.forall_mem_cons.mpr ⟨Nat.ne_of_lt l3, fun p hp => kOff p hp ld (.head _)⟩⟩⟩
    have e6 : (8 * n).fdiv 6 = 8 * n / 6 := Int.fdiv_eq_ediv_of_nonneg _ (by decide)
    have m6 : (8 * n).fmod 6 = 8 * n % 6 := Int.fmod_eq_emod_of_nonneg _ (by decide)
    have b1 : 0 ≤ (8 * n).fdiv 6 := by rw [e6]; omega
    have b2 : (8 * n).fdiv 6 < (figs.length : Int) := by rw [e6]; omega
    have b3 : 0 ≤ (8 * n).fdiv 6 + 1 := by omega
    have b4 : (8 * n).fdiv 6 + 1 < (figs.length : Int) := by rw [e6]; omega
    have b5 : figs.length ≤ 1000 := by omega
    have b6 : 0 ≤ 4 - (8 * n).fmod 6 := by rw [m6]; omega
    have b7 : 4 - (8 * n).fmod 6 ≤ 1000000 := by rw [m6]; omega
    have b8 : (2 : Int) ^ (4 - (8 * n).fmod 6).toNat ≠ 0 := Int.ne_of_gt (Int.pow_pos (by decide))
    have b9 : ((2 : Int) ^ (4 - (8 * n).fmod 6).toNat).natAbs < 1073741824 := by
      have : (4 - (8 * n).fmod 6).toNat ≤ 4 := by rw [m6]; omega
      rw [Int.natAbs_pow]
      exact Nat.lt_of_le_of_lt (Nat.pow_le_pow_right (by decide) this) (by decide)
    clear e6 m6 kEq kLt l1 l2 l3 hf hb
    k_steps

set_option maxRecDepth 100000 in
set_option maxHeartbeats 8000000 in
theorem segE3 (w : World) (mean : ExcName → Option Value) (mg mb : Str → Option Value) {L fa ld : Addr} {cd : Value} {h₀ : Heap} {mr : Str → Option Value} {s : Shared} {ys : List Value} {dl : List Int} {c : Nat} {led : List (Addr × Obj)} {Mid : Shared → Prop}
    (K0 : Below callerA h₀ [] h₀) (X : (hd.heap_39 w.params).In h₀) (T : Top hd.view_39 loose0 mean mg mb h₀)
    (F : Fr h₀ L s.heap (fun y => if y = Str.ofString "due" then some (.ref ld) else mr y))
    (N : News h₀ L s.heap ((ld, W.listOf ys.toArray c) :: led)) (hI : IntsAre ys dl) (hby : ∀ x ∈ dl, 0 ≤ x ∧ x < 256) (hlo : dl.length ≤ 1000)
    (post : ∀ (h' : Heap) (tk' : Nat) (t : Tok), Fr h₀ L h' (fun y => if y = Str.ofString "due" then some (.bytes (byteArr dl) t) else mr y) → News h₀ L h' led → Mid { s with heap := h', toks := tk' }) :
    wpAny (model Challenge.rw_qh0085_01.row.prog w) (callerA.deeper (lawEnv L fa cd)) (execs (dueBody.drop 2) (lawEnv L fa cd)) (fun f s' => match f with | .next => Mid s' | _ => False) (fun _ _ => False) s := by
  w_top off
  k_with_none
  k_with "InvEndN" => (
      (rename News _ _ _ _ => nE)
      (rename Fr _ _ _ _ => fE)
      (rename _ = List.map _ _ => rE)
      (try simp only [List.push_toArray] at nE)
      (refine' seq_end (led0 := [_, _, _]) fE nE ?hf ?hr ?hp rfl)
      (case hf => exact IntsAre.append (by assumption) (IntsAre.cons _ _ IntsAre.nil))
      (case hr => intro z zx zs; (have zc : z ≠ Str.ofString "place" := by intro e; rw [e] at zs; revert zs; decide); simp only [if_neg zx, if_neg zc, zs]; (try rfl))
      (case hp => exact map_snoc' rE rfl))
  revert X; k_fill; intro X
  dsimp only [lawEnv, dueBody, lawParts, Challenge.pw_qh0085_01, List.getLast?, List.getLast, List.drop, List.take, List.head?]
  have hus := hI.length
  have hMk := kstMark
  k_steps
  rename Fr _ _ _ _ => F9
  rename News _ _ _ _ => N9
  exact post _ _ _ (Fr.dup F9) (cb_drop N9 fun p hp => .tail _ hp)

noncomputable def dueL (figs : List Int) : List Int := (rangeKs 0 (6 * figs.length / 8)).map (dueAt figs)
/-- what the law expects -/
noncomputable def dueOf (figs : List Int) (pd : Int) : Option (List Int) := if (figs.length : Int).fmod 4 ≠ 1 ∧ ((figs.length : Int) + pd).fmod 4 = 0 then some (dueL figs) else none
theorem dueAt_in (figs : List Int) (n : Int) : 0 ≤ dueAt figs n ∧ dueAt figs n < 256 := by
  unfold dueAt
  rw [Int.fmod_eq_emod_of_nonneg _ (by decide)]
  omega
theorem dueL_in (figs : List Int) : ∀ x ∈ dueL figs, 0 ≤ x ∧ x < 256 := by
  intro x hx
  obtain ⟨n, _, rfl⟩ := List.mem_map.mp hx
  exact dueAt_in figs n

set_option maxRecDepth 100000 in
set_option maxHeartbeats 8000000 in
theorem segE (w : World) (mean : ExcName → Option Value) (mg mb : Str → Option Value) {L fa ll lf : Addr} {va vb : Value} {cd : Value} {h₀ : Heap} {mr : Str → Option Value} {s : Shared} {oc : Obj} {us zs : List Value} {figs : List Int} {cn k : Nat} {pd : Int} {t1 t2 : Tok} {Mid : Shared → Prop}
    (K0 : Below callerA h₀ [] h₀) (X : (hd.heap_39 w.params).In h₀) (T : Top hd.view_39 loose0 mean mg mb h₀)
    (F : Fr h₀ L s.heap (fun y => if y = Str.ofString "pads" then some (.int pd t1) else if y = Str.ofString "size" then some (.int figs.length t2) else if y = Str.ofString "figures" then some (.ref lf) else if y = Str.ofString "line" then some (.ref ll) else if y = Str.ofString "altsigns" then some vb else if y = Str.ofString "altchars" then some va else mr y))
    (N : News h₀ L s.heap [(lf, W.listOf zs.toArray k), (ll, W.listOf us.toArray cn), (L + 1, oc)]) (hZ : IntsAre zs figs) (hf : figs.length ≤ 16)
    (post : ∀ (h' : Heap) (tk' : Nat) (t : Tok) (mr' : Str → Option Value), Fr h₀ L h' (fun y => if y = Str.ofString "due" then some (valO (dueOf figs pd) t) else if y = Str.ofString "pads" then some (.int pd t1) else if y = Str.ofString "size" then some (.int figs.length t2) else if y = Str.ofString "figures" then some (.ref lf) else if y = Str.ofString "line" then some (.ref ll) else if y = Str.ofString "altsigns" then some vb else if y = Str.ofString "altchars" then some va else mr' y) →
      News h₀ L h' [(lf, W.listOf zs.toArray k), (ll, W.listOf us.toArray cn), (L + 1, oc)] → Mid { s with heap := h', toks := tk' }) :
    wpAny (model Challenge.rw_qh0085_01.row.prog w) (callerA.deeper (lawEnv L fa cd)) (execs ((lawParts.1.drop 13).take 2) (lawEnv L fa cd)) (fun f s' => match f with | .next => Mid s' | _ => False) (fun _ _ => False) s := by
  w_top off
  k_with_none
  k_with "InvEndN" => (
      (rename News _ _ _ _ => nE)
      (rename Fr _ _ _ _ => fE)
      (rename _ = List.map _ _ => rE)
      (try simp only [List.push_toArray] at nE)
      (refine' seq_end (led0 := [_, _, _]) fE nE ?hf ?hr ?hp rfl)
      (case hf => exact IntsAre.append (by assumption) (IntsAre.cons _ _ IntsAre.nil))
      (case hr => intro z zx zs; (have zc : z ≠ Str.ofString "place" := by intro e; rw [e] at zs; revert zs; decide); simp only [if_neg zx, if_neg zc, zs]; (try rfl))
      (case hp => exact map_snoc' rE rfl))
  revert X; k_fill; intro X
  dsimp only [lawEnv, lawParts, Challenge.pw_qh0085_01, List.getLast?, List.getLast, List.drop, List.take]
  iterate 31 (first | (k_unfold; (try dsimp only)) | (k_end; wrow_close) | walk1 | (dsimp only; walk1) | (leave1; try dsimp only))
  · rename_i h' F' N' c1 c2
    have e : dueOf figs pd = some (dueL figs) := if_pos ⟨c1, c2⟩
    rw [e] at post
    clear c1 c2 e
    with_unfolding_all refine execs_two (dueBody.take 1) (b := (dueBody.drop 1).take 1 ++ dueBody.drop 2) ?_
    refine segE1 w mean mg mb K0 X T (Fr.pick (Fr.pick F' (a := Str.ofString "figures") (by with_unfolding_all rfl)) (a := Str.ofString "size") (by with_unfolding_all rfl)) N' ?_
    intro h1 tk1 ld F1 N1 l1 l2 l3
    refine execs_two _ ?_
    refine segE2 w mean mg mb K0 X T F1 N1 l1 l2 l3 hZ hf ?_
    intro h2 tk2 ys c mr2 F2 hmr N2 hY
    refine wpAny_mono (segE3 w mean mg mb (Mid := fun s' => _) K0 X T F2 N2 hY (dueL_in figs) (by rw [List.length_map, rangeKs_length]; omega) ?_) (fun f s' h => by cases f <;> first | exact h | exact h.elim) (fun _ _ h => h)
    intro h3 tk3 t3 F3 N3
    dsimp only
    k_steps
    have g : ∀ a v, a ≠ Str.ofString "due" → mr2 a = some v → (if a = Str.ofString "due" then some (Value.bytes (byteArr (List.map (dueAt figs) (rangeKs 0 (6 * figs.length / 8)))) t3) else mr2 a) = some v := fun a v ha hv => by rw [if_neg ha]; exact hv
    exact post h3 tk3 t3 _ (Fr.pick (Fr.pick (Fr.pick (Fr.pick (Fr.pick (Fr.pick (Fr.pick F3
      (a := Str.ofString "altchars") (g _ _ (by decide) ((hmr _ (by decide) (by decide) (by decide)).trans (by with_unfolding_all rfl))))
      (a := Str.ofString "altsigns") (by with_unfolding_all exact (hmr (Str.ofString "altsigns") (by decide) (by decide) (by decide)).trans (by with_unfolding_all rfl)))
      (a := Str.ofString "line") (by with_unfolding_all exact (hmr (Str.ofString "line") (by decide) (by decide) (by decide)).trans (by with_unfolding_all rfl)))
      (a := Str.ofString "figures") (by with_unfolding_all exact (hmr (Str.ofString "figures") (by decide) (by decide) (by decide)).trans (by with_unfolding_all rfl)))
      (a := Str.ofString "size") (by with_unfolding_all exact (hmr (Str.ofString "size") (by decide) (by decide) (by decide)).trans (by with_unfolding_all rfl)))
      (a := Str.ofString "pads") (by with_unfolding_all exact (hmr (Str.ofString "pads") (by decide) (by decide) (by decide)).trans (by with_unfolding_all rfl)))
      (a := Str.ofString "due") (by with_unfolding_all rfl)) N3
  all_goals (
    have e : dueOf figs pd = none := if_neg (by rintro ⟨z1, z2⟩; first | exact absurd z1 (by assumption) | exact absurd z2 (by assumption) | (apply z1; assumption))
    rw [e] at post
    k_steps
    exact post _ _ 0 _ (by assumption) (by assumption))
end Mine
end

section
open PySem PySem.W PyProof.Rows
namespace Mine







/-- the octets: the line, and = signs behind it -/
noncomputable def octOf (line : List Int) (pd : Int) : Array UInt8 := byteArr line ++ (List.replicate pd.toNat [61]).flatten.toArray

local macro_rules | `(tactic| walk_at "binaryOp Add bytes bytes") => `(tactic| ((with_reducible show wpAny _ _ (binaryOp Operator.Add (Value.bytes _ _) (Value.bytes _ _)) _ _ _); (refine KBy.add_bytes (by assumption) ?_); intro _ _))

set_option maxRecDepth 100000 in
set_option maxHeartbeats 8000000 in
theorem segF1 (w : World) (mean : ExcName → Option Value) (mg mb : Str → Option Value) {L fa ll : Addr} {va vb vd : Value} {cd : Value} {h₀ : Heap} {mr : Str → Option Value} {s : Shared} {oc : Obj} {us : List Value} {figs line : List Int} {cn : Nat} {pd : Int} {t1 t2 : Tok} {Mid : Shared → Prop}
    (K0 : Below callerA h₀ [] h₀) (X : (hd.heap_39 w.params).In h₀) (T : Top hd.view_39 loose0 mean mg mb h₀)
    (F : Fr h₀ L s.heap (fun y => if y = Str.ofString "due" then some vd else if y = Str.ofString "pads" then some (.int pd t1) else if y = Str.ofString "size" then some (.int figs.length t2) else if y = Str.ofString "line" then some (.ref ll) else if y = Str.ofString "altsigns" then some vb else if y = Str.ofString "altchars" then some va else mr y))
    (N : News h₀ L s.heap [(ll, W.listOf us.toArray cn), (L + 1, oc)]) (hI : IntsAre us line) (hby : ∀ x ∈ line, 0 ≤ x ∧ x < 256) (hlo : line.length ≤ 1000) (hp0 : 0 ≤ pd) (hp1 : pd ≤ 3)
    (post : ∀ (h' : Heap) (tk' : Nat) (t : Tok), Fr h₀ L h' (fun y => if y = Str.ofString "octets" then some (.bytes (octOf line pd) t) else if y = Str.ofString "due" then some vd else if y = Str.ofString "pads" then some (.int pd t1) else if y = Str.ofString "size" then some (.int figs.length t2) else if y = Str.ofString "line" then some (.ref ll) else if y = Str.ofString "altsigns" then some vb else if y = Str.ofString "altchars" then some va else mr y) → News h₀ L h' [(ll, W.listOf us.toArray cn), (L + 1, oc)] → Mid { s with heap := h', toks := tk' }) :
    wpAny (model Challenge.rw_qh0085_01.row.prog w) (callerA.deeper (lawEnv L fa cd)) (execs ((lawParts.1.drop 15).take 1) (lawEnv L fa cd)) (fun f s' => match f with | .next => Mid s' | _ => False) (fun _ _ => False) s := by
  w_top off
  k_with_none
  revert X; k_fill; intro X
  dsimp only [lawEnv, lawParts, Challenge.pw_qh0085_01, List.getLast?, List.getLast, List.drop, List.take]
  have hus := hI.length
  have hMk := kstMark
  have hsz2 : (byteArr line).size + ((List.replicate pd.toNat [61]).flatten.toArray : Array UInt8).size ≤ 16777216 := by
    have e1 : (byteArr line).size = line.length := by simp [byteArr]
    have e2 : ((List.replicate pd.toNat [61]).flatten.toArray : Array UInt8).size = pd.toNat := by simp
    rw [e1, e2]; omega
  k_steps
  exact post _ _ _ (by assumption) (by assumption)
end Mine
end

section
open PySem PySem.W PyProof.Rows
namespace Mine

/-- the translated sign -/
noncomputable def tr (q0 q1 c : Int) : Int := if c = q1 then 47 else if c = q0 then 43 else c
structure Alt (q0 q1 : Int) : Prop where
  ne : q0 ≠ q1
  a0 : 33 ≤ q0 ∧ q0 ≤ 126 ∧ ¬ (65 ≤ q0 ∧ q0 ≤ 90) ∧ ¬ (97 ≤ q0 ∧ q0 ≤ 122) ∧ ¬ (48 ≤ q0 ∧ q0 ≤ 57) ∧ q0 ≠ 61
  a1 : 33 ≤ q1 ∧ q1 ≤ 126 ∧ ¬ (65 ≤ q1 ∧ q1 ≤ 90) ∧ ¬ (97 ≤ q1 ∧ q1 ≤ 122) ∧ ¬ (48 ≤ q1 ∧ q1 ≤ 57) ∧ q1 ≠ 61

theorem tr_fig {q0 q1 c : Int} (h : Alt q0 q1) (hc : c ≠ 61) :
    tr q0 q1 c ≠ 61 ∧ (if 0 ≤ figP q0 q1 c then b64v (tr q0 q1 c) = figP q0 q1 c ∧ figP q0 q1 c < 64 else b64v (tr q0 q1 c) = 64) := by
  obtain ⟨ne, a0, a1⟩ := h
  unfold tr
  constructor
  · repeat' split
    all_goals omega
  · by_cases h1 : c = q1
    · subst h1
      have : figP q0 c c = 63 := by unfold figP; rw [if_neg (by omega), if_neg (by omega), if_neg (by omega), if_neg (by omega), if_pos rfl]
      rw [this, if_pos (by decide), if_pos rfl]
      decide
    · rw [if_neg h1]
      by_cases h0 : c = q0
      · subst h0
        have : figP c q1 c = 62 := by unfold figP; rw [if_neg (by omega), if_neg (by omega), if_neg (by omega), if_pos rfl]
        rw [this, if_pos (by decide), if_pos rfl]
        decide
      · rw [if_neg h0]
        unfold figP b64v
        rw [if_neg h0, if_neg h1]
        repeat' split
        all_goals first | omega | (constructor <;> omega)

/-- what the decoder holds after the figures fs, no = met -/
noncomputable def leftOf (fs : List Int) : Int :=
  if fs.length % 4 = 0 then 0 else if fs.length % 4 = 1 then fs.getD (fs.length - 1) 0 else if fs.length % 4 = 2 then fs.getD (fs.length - 1) 0 % 16 else fs.getD (fs.length - 1) 0 % 4

theorem dueAt_app (fs : List Int) (v : Int) (n : Nat) (h : 8 * n / 6 + 1 < fs.length) : dueAt (fs ++ [v]) n = dueAt fs n := by
  unfold dueAt
  have e : ((8 * (n : Int)).fdiv 6) = ((8 * n / 6 : Nat) : Int) := by rw [Int.fdiv_eq_ediv_of_nonneg _ (by decide)]; omega
  rw [e]
  have e2 : (((8 * n / 6 : Nat) : Int) + 1).toNat = 8 * n / 6 + 1 := by omega
  rw [e2, Int.toNat_natCast]
  simp only [List.getD_eq_getElem?_getD]
  rw [List.getElem?_append_left (by omega), List.getElem?_append_left (by omega)]

theorem dueL_eq (fs : List Int) : dueL fs = (List.range (6 * fs.length / 8)).map fun n => dueAt fs (n : Nat) := by
  unfold dueL rangeKs
  rw [List.map_map]
  apply List.map_congr_left
  intro a _
  simp

theorem dueL_app (fs : List Int) (v : Int) : (fs.length % 4 = 0 → dueL (fs ++ [v]) = dueL fs) ∧
    (fs.length % 4 ≠ 0 → dueL (fs ++ [v]) = dueL fs ++ [dueAt (fs ++ [v]) ((6 * fs.length / 8 : Nat) : Int)]) := by
  rw [dueL_eq, dueL_eq]
  have key : (List.range (6 * fs.length / 8)).map (fun n => dueAt (fs ++ [v]) (n : Nat)) = (List.range (6 * fs.length / 8)).map (fun n => dueAt fs (n : Nat)) := by
    apply List.map_congr_left
    intro a ha
    have := List.mem_range.mp ha
    exact dueAt_app fs v a (by omega)
  constructor
  · intro h
    have : 6 * (fs ++ [v]).length / 8 = 6 * fs.length / 8 := by rw [List.length_append, List.length_singleton]; omega
    rw [this, key]
  · intro h
    have : 6 * (fs ++ [v]).length / 8 = 6 * fs.length / 8 + 1 := by
      rw [List.length_append, List.length_singleton]
      obtain ⟨m, hm⟩ : ∃ m, m = fs.length / 4 := ⟨_, rfl⟩
      have : fs.length = 4 * m + 1 ∨ fs.length = 4 * m + 2 ∨ fs.length = 4 * m + 3 := by omega
      rcases this with e | e | e <;> (rw [e]; omega)
    rw [this, List.range_succ, List.map_append, key]
    simp

theorem dueAt_last (fs : List Int) (v : Int) (k : Nat) (hk : fs.length = k + 1) (hv : 0 ≤ v ∧ v < 64) (hf : 0 ≤ fs.getD k 0 ∧ fs.getD k 0 < 64) (hm : fs.length % 4 ≠ 0) :
    dueAt (fs ++ [v]) ((6 * fs.length / 8 : Nat) : Int) =
      if fs.length % 4 = 1 then fs.getD k 0 * 4 + v / 16 else if fs.length % 4 = 2 then fs.getD k 0 % 16 * 16 + v / 4 else fs.getD k 0 % 4 * 64 + v := by
  unfold dueAt
  have g0 : (fs ++ [v]).getD k 0 = fs.getD k 0 := by
    simp only [List.getD_eq_getElem?_getD]; rw [List.getElem?_append_left (by rw [hk]; exact Nat.lt_succ_self k)]
  have g1 : (fs ++ [v]).getD (k + 1) 0 = v := by
    simp only [List.getD_eq_getElem?_getD]; rw [List.getElem?_append_right (by rw [hk]; exact Nat.le_refl _), hk]; simp
  have e2 : ((k : Int) + 1).toNat = k + 1 := rfl
  generalize fs.getD k 0 = f at hf g0
  generalize hn : 6 * fs.length / 8 = n
  obtain ⟨m, hm'⟩ : ∃ m : Nat, (k = 4 * m ∧ n = 3 * m) ∨ (k = 4 * m + 1 ∧ n = 3 * m + 1) ∨ (k = 4 * m + 2 ∧ n = 3 * m + 2) := by
    rw [hk] at hm hn
    clear e2 g0 g1 hv hf hk
    have e4 := Nat.div_add_mod k 4
    refine ⟨k / 4, ?_⟩
    generalize k / 4 = m at e4 ⊢
    have : k % 4 = 0 ∨ k % 4 = 1 ∨ k % 4 = 2 := by omega
    rcases this with e | e | e <;> rw [e] at e4 <;> omega
  have d1 : ∀ x : Int, x.fdiv 6 = x / 6 := fun x => Int.fdiv_eq_ediv_of_nonneg _ (by decide)
  have d2 : ∀ x : Int, x.fmod 6 = x % 6 := fun x => Int.fmod_eq_emod_of_nonneg _ (by decide)
  have d3 : ∀ x : Int, x.fmod 256 = x % 256 := fun x => Int.fmod_eq_emod_of_nonneg _ (by decide)
  have key : ∀ (r : Int) (j : Nat), 8 * (n : Int) / 6 = k → 8 * (n : Int) % 6 = r → (4 - r).toNat = j →
      (64 * (fs ++ [v]).getD ((8 * (n : Int)).fdiv 6).toNat 0 + (fs ++ [v]).getD ((8 * (n : Int)).fdiv 6 + 1).toNat 0).fdiv (2 ^ (4 - (8 * (n : Int)).fmod 6).toNat) = (64 * f + v) / 2 ^ j := by
    intro r j q1 q2 q3
    rw [d1, d2, q1, q2, q3, e2, Int.toNat_natCast, g0, g1]
    exact Int.fdiv_eq_ediv_of_nonneg _ (Int.le_of_lt (Int.pow_pos (by decide)))
  clear hm e2 g0 g1 d1 d2
  rw [d3]
  clear d3
  rcases hm' with ⟨e1, e2⟩ | ⟨e1, e2⟩ | ⟨e1, e2⟩
  · rw [key 0 4 (by rw [e1, e2]; clear key hn hk; omega) (by rw [e2]; clear key hn hk; omega) rfl, if_pos (by rw [hk, e1]; clear key hn hk; omega)]
    clear key hn hk e1 e2
    show (64 * f + v) / 16 % 256 = _
    omega
  · rw [key 2 2 (by rw [e1, e2]; clear key hn hk; omega) (by rw [e2]; clear key hn hk; omega) rfl, if_neg (by rw [hk, e1]; clear key hn hk; omega), if_pos (by rw [hk, e1]; clear key hn hk; omega)]
    clear key hn hk e1 e2
    show (64 * f + v) / 4 % 256 = _
    omega
  · rw [key 4 0 (by rw [e1, e2]; clear key hn hk; omega) (by rw [e2]; clear key hn hk; omega) rfl, if_neg (by rw [hk, e1]; clear key hn hk; omega), if_neg (by rw [hk, e1]; clear key hn hk; omega)]
    clear key hn hk e1 e2
    show (64 * f + v) / 1 % 256 = _
    omega

structure Held (fs : List Int) (d : D4) : Prop where
  q : d.q = ((fs.length % 4 : Nat) : Int)
  p : d.p = 0
  l : d.l = leftOf fs
  out : d.out = dueL fs

theorem held_nil : Held [] ⟨0, 0, 0, 0, []⟩ := ⟨rfl, rfl, rfl, rfl⟩

theorem leftOf_app (fs : List Int) (v : Int) : leftOf (fs ++ [v]) = if fs.length % 4 = 3 then 0 else if fs.length % 4 = 0 then v else if fs.length % 4 = 1 then v % 16 else v % 4 := by
  unfold leftOf
  have g : (fs ++ [v]).getD ((fs ++ [v]).length - 1) 0 = v := by
    simp [List.getD_eq_getElem?_getD]
  rw [g, List.length_append, List.length_singleton]
  repeat' split
  all_goals first | rfl | omega

theorem held_step {strict : Bool} {fs : List Int} {d : D4} {n v : Int} (H : Held fs d) (hfs : ∀ x ∈ fs, 0 ≤ x ∧ x < 64) (hn : n ≠ 61) (hv : b64v n = v) (h0 : 0 ≤ v ∧ v < 64) :
    ∃ d', step strict n d = some d' ∧ Held (fs ++ [v]) d' := by
  obtain ⟨q, p, l, out⟩ := H
  unfold step
  rw [if_neg hn, hv, if_neg (by omega), if_neg (by simp [p])]
  have hl := dueL_app fs v
  have hL := leftOf_app fs v
  by_cases m0 : fs.length % 4 = 0
  · rw [if_pos (by omega)]
    exact ⟨_, rfl, by simp only [List.length_append, List.length_singleton]; omega, rfl, by rw [hL, if_neg (by omega), if_pos m0], by rw [hl.1 m0]; exact out⟩
  · rw [if_neg (by omega)]
    obtain ⟨k, hk⟩ : ∃ k, fs.length = k + 1 := ⟨fs.length - 1, by omega⟩
    have hf : 0 ≤ fs.getD k 0 ∧ fs.getD k 0 < 64 := by
      rw [List.getD_eq_getElem?_getD, List.getElem?_eq_getElem (by omega)]
      exact hfs _ (List.getElem_mem _)
    have hA := dueAt_last fs v k hk h0 hf m0
    have lk : leftOf fs = if fs.length % 4 = 0 then 0 else if fs.length % 4 = 1 then fs.getD k 0 else if fs.length % 4 = 2 then fs.getD k 0 % 16 else fs.getD k 0 % 4 := by
      unfold leftOf; rw [hk]; rfl
    rw [if_neg m0] at lk
    by_cases m1 : fs.length % 4 = 1
    · rw [if_pos (by omega)]
      rw [if_pos m1] at hA lk
      exact ⟨_, rfl, by simp only [List.length_append, List.length_singleton]; omega, rfl, by rw [hL, if_neg (by omega), if_neg m0, if_pos m1], by rw [hl.2 m0, hA, out, l, lk]⟩
    · rw [if_neg (by omega)]
      rw [if_neg m1] at hA lk
      by_cases m2 : fs.length % 4 = 2
      · rw [if_pos (by omega)]
        rw [if_pos m2] at hA lk
        exact ⟨_, rfl, by simp only [List.length_append, List.length_singleton]; omega, rfl, by rw [hL, if_neg (by omega), if_neg m0, if_neg m1], by rw [hl.2 m0, hA, out, l, lk]⟩
      · rw [if_neg (by omega)]
        rw [if_neg m2] at hA lk
        exact ⟨_, rfl, by simp only [List.length_append, List.length_singleton]; omega, rfl, by rw [hL, if_pos (by omega)], by rw [hl.2 m0, hA, out, l, lk]⟩
end Mine
end

section
open PySem PySem.W PyProof.Rows
namespace Mine

noncomputable def go (strict : Bool) (cs : List Int) (o : Option D4) : Option D4 := cs.foldl (fun o n => o.bind (step strict n)) o
theorem go_run (strict : Bool) (cs : List Int) : runS strict cs = go strict cs (some ⟨0, 0, 0, 0, []⟩) := rfl
theorem go_app (strict : Bool) (a b : List Int) (o : Option D4) : go strict (a ++ b) o = go strict b (go strict a o) := List.foldl_append
theorem go_none (strict : Bool) (a : List Int) : go strict a none = none := run_none strict a
theorem go_cons (strict : Bool) (a : Int) (b : List Int) (d : D4) : go strict (a :: b) (some d) = go strict b (step strict a d) := rfl

theorem figsOf_cons (q0 q1 c : Int) (l : List Int) : figsOf q0 q1 (c :: l) = if 0 ≤ figP q0 q1 c then figP q0 q1 c :: figsOf q0 q1 l else figsOf q0 q1 l := by
  unfold figsOf
  rw [List.map_cons, List.filter_cons]
  by_cases h : 0 ≤ figP q0 q1 c <;> simp [h]
theorem figsOf_le (q0 q1 : Int) (l : List Int) : (figsOf q0 q1 l).length ≤ l.length := by
  unfold figsOf
  exact Nat.le_trans (List.length_filter_le _ _) (Nat.le_of_eq (List.length_map _))

theorem go_f {q0 q1 : Int} (h : Alt q0 q1) : ∀ (l : List Int) (fs : List Int) (d : D4), (∀ c ∈ l, c ≠ 61) → (∀ x ∈ fs, 0 ≤ x ∧ x < 64) → Held fs d →
    ∃ d', go false (l.map (tr q0 q1)) (some d) = some d' ∧ Held (fs ++ figsOf q0 q1 l) d'
  | [], fs, d, _, _, H => ⟨d, rfl, by simpa [figsOf] using H⟩
  | c :: l, fs, d, hl, hf, H => by
    obtain ⟨t1, t2⟩ := tr_fig h (hl c (List.mem_cons_self ..))
    rw [List.map_cons, go_cons, figsOf_cons]
    by_cases h0 : 0 ≤ figP q0 q1 c
    · rw [if_pos h0] at t2 ⊢
      obtain ⟨d', e, H'⟩ := held_step (strict := false) H hf t1 t2.1 ⟨h0, t2.2⟩
      rw [e]
      have := go_f h l (fs ++ [figP q0 q1 c]) d' (fun x hx => hl x (List.mem_cons_of_mem _ hx)) (by
        intro x hx
        rcases List.mem_append.mp hx with hx | hx
        · exact hf x hx
        · rw [List.mem_singleton.mp hx]; exact ⟨h0, t2.2⟩) H'
      rwa [List.append_assoc, List.singleton_append] at this
    · rw [if_neg h0] at t2 ⊢
      have e : step false (tr q0 q1 c) d = some ⟨d.q, d.l, d.p, d.i + 1, d.out⟩ := by
        unfold step
        rw [if_neg t1, t2, if_pos (by decide), if_neg (by decide)]
      rw [e]
      exact go_f h l fs _ (fun x hx => hl x (List.mem_cons_of_mem _ hx)) hf ⟨H.q, H.p, H.l, H.out⟩

theorem go_t {q0 q1 : Int} (h : Alt q0 q1) : ∀ (l : List Int) (fs : List Int) (d : D4), (∀ c ∈ l, c ≠ 61) → (∀ x ∈ fs, 0 ≤ x ∧ x < 64) → Held fs d →
    if (figsOf q0 q1 l).length = l.length then ∃ d', go true (l.map (tr q0 q1)) (some d) = some d' ∧ Held (fs ++ figsOf q0 q1 l) d' else go true (l.map (tr q0 q1)) (some d) = none
  | [], fs, d, _, _, H => by
    rw [if_pos (show (figsOf q0 q1 []).length = ([] : List Int).length from rfl)]
    exact ⟨d, rfl, by simpa [figsOf] using H⟩
  | c :: l, fs, d, hl, hf, H => by
    obtain ⟨t1, t2⟩ := tr_fig h (hl c (List.mem_cons_self ..))
    rw [List.map_cons, go_cons, figsOf_cons]
    have hle := figsOf_le q0 q1 l
    by_cases h0 : 0 ≤ figP q0 q1 c
    · rw [if_pos h0] at t2 ⊢
      obtain ⟨d', e, H'⟩ := held_step (strict := true) H hf t1 t2.1 ⟨h0, t2.2⟩
      rw [e]
      have := go_t h l (fs ++ [figP q0 q1 c]) d' (fun x hx => hl x (List.mem_cons_of_mem _ hx)) (by
        intro x hx
        rcases List.mem_append.mp hx with hx | hx
        · exact hf x hx
        · rw [List.mem_singleton.mp hx]; exact ⟨h0, t2.2⟩) H'
      rw [List.append_assoc, List.singleton_append] at this
      simpa using this
    · rw [if_neg h0] at t2 ⊢
      have e : step true (tr q0 q1 c) d = none := by
        unfold step
        rw [if_neg t1, t2, if_pos (by decide), if_pos rfl]
      rw [e, go_none, if_neg (by rw [List.length_cons]; omega)]

theorem pads_f (n : Nat) : ∀ (d : D4), go false (List.replicate n 61) (some d) = some ⟨d.q, d.l, d.p + n, d.i + n, d.out⟩ := by
  induction n with
  | zero => intro d; simp [go]
  | succ n ih =>
    intro d
    rw [List.replicate_succ, go_cons]
    have : step false 61 d = some ⟨d.q, d.l, d.p + 1, d.i + 1, d.out⟩ := by
      unfold step
      rw [if_pos rfl]
      split <;> rfl
    rw [this, ih]
    simp only [Option.some.injEq, D4.mk.injEq, true_and, and_true]
    constructor <;> (push_cast; omega)

theorem pads_t (n : Nat) : ∀ (d : D4), 0 ≤ d.p → 0 ≤ d.q → (n = 0 ∨ d.q + d.p + n ≤ 4) → 
    go true (List.replicate n 61) (some d) = if n = 0 ∨ 2 ≤ d.q then some ⟨d.q, d.l, d.p + n, d.i + n, d.out⟩ else none := by
  induction n with
  | zero => intro d _ _ _; simp [go]
  | succ n ih =>
    intro d hp hq hn
    rw [List.replicate_succ, go_cons]
    by_cases h2 : 2 ≤ d.q
    · have : step true 61 d = some ⟨d.q, d.l, d.p + 1, d.i + 1, d.out⟩ := by
        unfold step
        rw [if_pos rfl, if_pos ⟨h2, by omega⟩]
      rw [this, ih _ (by simp only; omega) (by simp only; omega) (by simp only; omega), if_pos (Or.inr h2), if_pos (Or.inr h2)]
      simp only [Option.some.injEq, D4.mk.injEq, true_and, and_true]
      constructor <;> (push_cast; omega)
    · have : step true 61 d = none := by
        unfold step
        rw [if_pos rfl, if_neg (by omega), if_neg (by decide)]
      rw [this, go_none, if_neg (by omega)]

theorem padOf_nat (total : Int) (size : Nat) : ∃ n : Nat, padOf total size = n ∧ (n = 0 ∨ (size % 4 ≠ 0 ∧ n = 4 - size % 4)) := by
  unfold padOf
  split
  · rw [Int.fmod_eq_emod_of_nonneg _ (by decide)]
    by_cases h : size % 4 = 0
    · exact ⟨0, by omega, Or.inl rfl⟩
    · exact ⟨4 - size % 4, by omega, Or.inr ⟨h, rfl⟩⟩
  · exact ⟨0, rfl, Or.inl rfl⟩

theorem fin_due (fs : List Int) (d : D4) (n : Nat) (pd : Int) (hp : pd = n) (hn : n = 0 ∨ (fs.length % 4 ≠ 0 ∧ n = 4 - fs.length % 4)) (H : Held fs d) :
    fin4 ⟨d.q, d.l, d.p + n, d.i + n, d.out⟩ = dueOf fs pd := by
  obtain ⟨q, p, l, out⟩ := H
  unfold fin4 dueOf
  subst hp
  simp only [q, p, out, Int.fmod_eq_emod_of_nonneg _ (show (0 : Int) ≤ 4 by decide)]
  by_cases h1 : fs.length % 4 = 1
  · rw [if_pos (by omega), if_neg (by omega)]
  · rw [if_neg (by omega)]
    by_cases h2 : ((fs.length % 4 : Nat) : Int) ≠ 0 ∧ ((fs.length % 4 : Nat) : Int) + (0 + (n : Int)) < 4
    · rw [if_pos h2, if_neg (by omega)]
    · rw [if_neg h2, if_pos (by omega)]

theorem plain_f {q0 q1 total : Int} (h : Alt q0 q1) (line : List Int) (hl : ∀ c ∈ line, c ≠ 61) :
    a2bP false (line.map (tr q0 q1) ++ List.replicate (padOf total (figsOf q0 q1 line).length).toNat 61) = dueOf (figsOf q0 q1 line) (padOf total (figsOf q0 q1 line).length) := by
  obtain ⟨n, e, hn⟩ := padOf_nat total (figsOf q0 q1 line).length
  obtain ⟨d, e2, H⟩ := go_f h line [] _ hl (by intro x hx; cases hx) held_nil
  rw [List.nil_append] at H
  rw [e, Int.toNat_natCast]
  unfold a2bP
  rw [go_run, go_app, e2, pads_f]
  exact fin_due _ d n _ rfl hn H

theorem plain_t {q0 q1 total : Int} (h : Alt q0 q1) (line : List Int) (hl : ∀ c ∈ line, c ≠ 61) :
    a2bP true (line.map (tr q0 q1) ++ List.replicate (padOf total (figsOf q0 q1 line).length).toNat 61) =
      if (figsOf q0 q1 line).length = line.length then dueOf (figsOf q0 q1 line) (padOf total (figsOf q0 q1 line).length) else none := by
  obtain ⟨n, e, hn⟩ := padOf_nat total (figsOf q0 q1 line).length
  have key := go_t h line [] _ hl (by intro x hx; cases hx) held_nil
  rw [e, Int.toNat_natCast]
  unfold a2bP
  rw [go_run, go_app]
  split at key
  · rename_i hs
    obtain ⟨d, e2, H⟩ := key
    rw [List.nil_append] at H
    rw [e2, if_pos hs, pads_t n d (by rw [H.p]; decide) (by rw [H.q]; omega) (by rw [H.p, H.q]; omega)]
    by_cases hh : n = 0 ∨ 2 ≤ d.q
    · rw [if_pos hh]
      exact fin_due _ d n _ rfl hn H
    · rw [if_neg hh]
      have hq := H.q
      have : (figsOf q0 q1 line).length % 4 = 1 := by omega
      unfold dueOf
      rw [if_neg (by rw [Int.fmod_eq_emod_of_nonneg _ (show (0 : Int) ≤ 4 by decide)]; omega)]
      rfl
  · rename_i hs
    rw [key, go_none, if_neg hs]
    rfl
end Mine
end

section
open PySem PySem.W PyProof.Rows
namespace Mine
theorem tab_get (a b c : UInt8) : (tableOf #[a, b] #[43, 47]).getD c.toNat c = if c = b then 47 else if c = a then 43 else c := by
  unfold tableOf
  simp only [List.zip_cons_cons, List.foldl_cons, List.foldl_nil, List.zip_nil_right]
  rw [Array.getD_eq_getD_getElem?]
  have hc := c.toNat_lt
  rw [Array.getElem?_setIfInBounds, Array.getElem?_setIfInBounds]
  simp only [Array.size_setIfInBounds, Array.size_map, Array.size_range]
  by_cases h1 : c = b
  · subst h1
    simp [hc]
  · have n1 : b.toNat ≠ c.toNat := fun e => h1 (UInt8.toNat_inj.mp e.symm)
    rw [if_neg n1, if_neg h1]
    by_cases h0 : c = a
    · subst h0
      simp [hc]
    · have n0 : a.toNat ≠ c.toNat := fun e => h0 (UInt8.toNat_inj.mp e.symm)
      rw [if_neg n0, if_neg h0]
      simp [hc]
theorem ints_trans (a b : UInt8) (x : Array UInt8) : KBw.bInts (x.map fun c => (tableOf #[a, b] #[43, 47]).getD c.toNat c) = (KBw.bInts x).map (tr a.toNat b.toNat) := by
  unfold KBw.bInts
  rw [Array.toList_map, List.map_map, List.map_map]
  apply List.map_congr_left
  intro c _
  simp only [Function.comp]
  rw [tab_get]
  unfold tr
  have e1 : ((c.toNat : Int) = b.toNat) ↔ c = b := by
    constructor
    · intro h; exact UInt8.toNat_inj.mp (by omega)
    · intro h; rw [h]
  have e0 : ((c.toNat : Int) = a.toNat) ↔ c = a := by
    constructor
    · intro h; exact UInt8.toNat_inj.mp (by omega)
    · intro h; rw [h]
  by_cases h1 : c = b
  · rw [if_pos h1, if_pos (e1.mpr h1)]; rfl
  · rw [if_neg h1, if_neg (fun h => h1 (e1.mp h))]
    by_cases h0 : c = a
    · rw [if_pos h0, if_pos (e0.mpr h0)]; rfl
    · rw [if_neg h0, if_neg (fun h => h0 (e0.mp h))]

theorem tr_id (c : Int) : tr 43 47 c = c := by
  unfold tr; repeat' split
  all_goals omega

theorem alt_plain : Alt 43 47 := ⟨by decide, by decide, by decide⟩

theorem oth_ok : ∀ i : Nat, i < 31 → (33 ≤ othersL.getD (33 + i) 0 ∧ othersL.getD (33 + i) 0 ≤ 126 ∧ ¬ (65 ≤ othersL.getD (33 + i) 0 ∧ othersL.getD (33 + i) 0 ≤ 90) ∧ ¬ (97 ≤ othersL.getD (33 + i) 0 ∧ othersL.getD (33 + i) 0 ≤ 122) ∧ ¬ (48 ≤ othersL.getD (33 + i) 0 ∧ othersL.getD (33 + i) 0 ≤ 57) ∧ othersL.getD (33 + i) 0 ≠ 61) := by decide
theorem oth_ne : ∀ i : Nat, i < 31 → ∀ j : Nat, j < 31 → i ≠ j → othersL.getD (33 + i) 0 ≠ othersL.getD (33 + j) 0 := by decide
theorem alt_own (t : Int) : Alt (pr0 t) (pr1 t) := by
  unfold pr0 pr1
  rw [Int.fmod_eq_emod_of_nonneg t (by decide), Int.fmod_eq_emod_of_nonneg (t.fdiv 31) (by decide), Int.fmod_eq_emod_of_nonneg _ (by decide)]
  generalize t.fdiv 31 = u
  obtain ⟨i, hi, ei⟩ : ∃ i : Nat, i < 31 ∧ t % 31 = (i : Int) := ⟨(t % 31).toNat, by omega, by omega⟩
  obtain ⟨j, hj, ej⟩ : ∃ j : Nat, j < 31 ∧ (t % 31 + 1 + u % 30) % 31 = (j : Int) := ⟨((t % 31 + 1 + u % 30) % 31).toNat, by omega, by omega⟩
  have hij : i ≠ j := by omega
  rw [ej, ei]
  have e1 : (33 + (i : Int)).toNat = 33 + i := by omega
  have e2 : (33 + (j : Int)).toNat = 33 + j := by omega
  rw [e1, e2]
  exact ⟨oth_ne i hi j hj hij, oth_ok i hi, oth_ok j hj⟩
end Mine
end

section
open PySem PySem.W PyProof.Rows
namespace Mine
theorem oct_ints {line : List Int} {pd : Int} (h : KBa.In line) : KBw.bInts (octOf line pd) = line ++ List.replicate pd.toNat 61 := by
  unfold octOf
  have : KBw.bInts (byteArr line ++ (List.replicate pd.toNat [61]).flatten.toArray) = KBw.bInts (byteArr line) ++ KBw.bInts (List.replicate pd.toNat [61]).flatten.toArray := by
    unfold KBw.bInts; simp
  rw [this, KBa.ints_make h]
  congr 1
  unfold KBw.bInts
  generalize pd.toNat = n
  induction n with
  | zero => rfl
  | succ n ih =>
    rw [List.replicate_succ, List.flatten_cons, List.replicate_succ, ← ih]
    rfl
theorem tr_61 {q0 q1 : Int} (h : Alt q0 q1) : tr q0 q1 61 = 61 := by
  unfold tr
  rw [if_neg (fun e => h.a1.2.2.2.2.2 e.symm), if_neg (fun e => h.a0.2.2.2.2.2 e.symm)]
theorem tr_pads {q0 q1 : Int} (h : Alt q0 q1) (line : List Int) (n : Nat) : (line ++ List.replicate n 61).map (tr q0 q1) = line.map (tr q0 q1) ++ List.replicate n 61 := by
  rw [List.map_append, List.map_replicate, tr_61 h]
/-- what the decoder says of the octets, their altchars turned to + and / -/
theorem oct_f {q0 q1 total : Int} (h : Alt q0 q1) {line : List Int} (hr : KBa.In line) (hl : ∀ c ∈ line, c ≠ 61) :
    a2bP false ((KBw.bInts (octOf line (padOf total (figsOf q0 q1 line).length))).map (tr q0 q1)) = dueOf (figsOf q0 q1 line) (padOf total (figsOf q0 q1 line).length) := by
  rw [oct_ints hr, tr_pads h]; exact plain_f h line hl
theorem oct_t {q0 q1 total : Int} (h : Alt q0 q1) {line : List Int} (hr : KBa.In line) (hl : ∀ c ∈ line, c ≠ 61) :
    a2bP true ((KBw.bInts (octOf line (padOf total (figsOf q0 q1 line).length))).map (tr q0 q1)) =
      if (figsOf q0 q1 line).length = line.length then dueOf (figsOf q0 q1 line) (padOf total (figsOf q0 q1 line).length) else none := by
  rw [oct_ints hr, tr_pads h]; exact plain_t h line hl
theorem map_tr_id (l : List Int) : l.map (tr 43 47) = l := by
  have : tr 43 47 = id := funext tr_id
  rw [this, List.map_id]
/-- a code beyond ASCII is no sign -/
theorem fig_beyond {q0 q1 c : Int} (h : Alt q0 q1) (hc : 128 ≤ c) : figP q0 q1 c = -1 := by
  obtain ⟨_, a0, a1⟩ := h
  unfold figP
  repeat' split
  all_goals omega
theorem beyond_short {q0 q1 : Int} (h : Alt q0 q1) {line : List Int} {c : Int} (hc : c ∈ line) (hb : 128 ≤ c) : (figsOf q0 q1 line).length ≠ line.length := by
  intro e
  unfold figsOf at e
  have e2 : ((line.map (figP q0 q1)).filter fun a => decide (0 ≤ a)).length = (line.map (figP q0 q1)).length := by rw [e, List.length_map]
  have := (List.filter_eq_self.mp ((List.filter_sublist).eq_of_length e2)) _ (List.mem_map_of_mem hc)
  rw [fig_beyond h hb] at this
  exact absurd this (by decide)
/-- the alphabet -/
noncomputable def alpha62 : List Int := [65, 66, 67, 68, 69, 70, 71, 72, 73, 74, 75, 76, 77, 78, 79, 80, 81, 82, 83, 84, 85, 86, 87, 88, 89, 90, 97, 98, 99, 100, 101, 102, 103, 104, 105, 106, 107, 108, 109, 110, 111, 112, 113, 114, 115, 116, 117, 118, 119, 120, 121, 122, 48, 49, 50, 51, 52, 53, 54, 55, 56, 57]
theorem alpha62_ok : (alpha62.all fun y => decide (0 ≤ y ∧ y < 256)) = true := by decide +kernel
/-- the codes of the line -/
theorem codeOf_ok {q0 q1 : Int} (h : Alt q0 q1) (x : Int) : 0 ≤ codeOf (signsL q0 q1) x ∧ codeOf (signsL q0 q1) x < 256 ∧ codeOf (signsL q0 q1) x ≠ 61 := by
  have hp : 0 ≤ pick (signsL q0 q1) x ∧ pick (signsL q0 q1) x < 256 := by
    unfold pick
    split
    · rw [Int.fmod_eq_emod_of_nonneg _ (by decide)]; omega
    · rw [Int.fmod_eq_emod_of_nonneg (x.fdiv 4) (by decide)]
      have : ((x.fdiv 4) % 66).toNat < (signsL q0 q1).length := by show _ < 66; omega
      rw [List.getD_eq_getElem?_getD, List.getElem?_eq_getElem this]
      have hm : (signsL q0 q1)[((x.fdiv 4) % 66).toNat] ∈ signsL q0 q1 := List.getElem_mem _
      have hall : ∀ y ∈ signsL q0 q1, 0 ≤ y ∧ y < 256 := by
        obtain ⟨_, a0, a1⟩ := h
        intro y hy
        rcases List.mem_append.mp (show y ∈ alpha62 ++ [q0, q1, 43, 47] from hy) with hy | hy
        · have := List.all_eq_true.mp alpha62_ok y hy
          simpa using this
        · simp only [List.mem_cons, List.not_mem_nil, or_false] at hy
          omega
      exact hall _ hm
  unfold codeOf
  split <;> omega
end Mine
end

section
open PySem PySem.Spec PySem.Calls PySem.W PyProof.Rows
namespace Mine
/-- the texts that a comprehension over octets makes -/
theorem strs_oct {d : Nat → Str} : ∀ {bs : List UInt8} {vs ys : List Value}, vs.length = bs.length → (∀ (j : Nat) v, vs[j]? = some v → ∃ c u, bs[j]? = some c ∧ v = Value.int ((c : UInt8).toNat : Int) u) →
    Paired (fun v r => ∃ (c : UInt8) (u t' : Tok), v = Value.int (c.toNat : Int) u ∧ r = Value.str (d c.toNat) t') vs ys → StrsAre ys (bs.map fun c => d c.toNat)
  | [], [], _, _, _, h => by cases h; exact .nil
  | [], _ :: _, _, hl, _, _ => by simp at hl
  | _ :: _, [], _, hl, _, _ => by simp at hl
  | b :: bs, v :: vs, _, hl, hv, h => by
    cases h with
    | cons h1 h2 =>
      obtain ⟨c, u, t', e, rfl⟩ := h1
      obtain ⟨c', u', e1, e2⟩ := hv 0 v rfl
      have e1' : b = c' := by simpa using e1
      subst e1'
      rw [e2] at e
      injection e with e3 _
      have e4 : b.toNat = c.toNat := by omega
      rw [List.map_cons, e4]
      exact .cons _ _ (strs_oct (by simpa using hl) (fun j v hj => hv (j + 1) v (by simpa using hj)) h2)

section
variable {prog : Program} {w : World} {A : Around} {E : Value → Shared → Prop} {s₁ : Shared} {h₀ : Heap} {L : Addr} {m : Str → Option Value} {news : List (Addr × Obj)}
theorem srcC_bytes {env : Env} {elt : Expr} {x : Str} {scope : Scope} {Q : Value → Shared → Prop} {b : Array UInt8} {t : Tok} (d : Nat → Str)
    (hL : env.locals = L) (hh : A.handled = none) (F : Fr h₀ L s₁.heap m) (N : News h₀ L s₁.heap news)
    (g2 : ∀ C (c : UInt8) u s₂ m₂ E', s₂.heap.Ns (compEnv scope C env).locals m₂ → m₂ x = some (.int (c.toNat : Int) u) → (∀ a o, h₀.get? a = some o → s₂.heap.get? a = some o) → wpAny (model prog w) A (eval elt (compEnv scope C env)) (fun r s₃ => (∃ t', r = .str (d c.toNat) t') ∧ Keeps s₂ s₃) E' s₂)
    (g3 : ∀ D (ys : List Value) k h' tk, Fr h₀ L h' m → News h₀ L h' ((D, W.listOf ys.toArray k) :: news) → (∀ p ∈ news, p.1 ≠ D) → StrsAre ys (b.toList.map fun c => d c.toNat) → Q (.ref D) { s₁ with heap := h', toks := tk })
    (hsz : b.size ≤ 1000) :
    wpAny (model prog w) A (pyIter (.bytes b t)) (CompPost prog w A env scope x [] elt Q) E s₁ := by
  subst hL
  refine KBw.pyIter_bytes ?_
  have hold : ∀ (ob : Obj) (a : Addr) (o : Obj), s₁.heap.get? a = some o → (s₁.heap.push ob).get? a = some o := fun _ a o e => Heap.get?_push_of_some _ e
  have hI : ∀ {a : Addr} {o : Obj}, s₁.heap.get? a = some o → a ∉ [s₁.heap.objs.size] := fun e hm => absurd (Heap.lt_size e) ((List.mem_singleton.mp hm) ▸ Nat.lt_irrefl _)
  refine ⟨fun _ => true, fun v r => ∃ (c : UInt8) (u t' : Tok), v = Value.int (c.toNat : Int) u ∧ r = Value.str (d c.toNat) t', s₁.heap.objs.size, [s₁.heap.objs.size], [s₁.heap.objs.size], b.size, _, _, rfl, KBw.walks hh _ b t, (by rw [sizeLine_eq]; omega),
    ⟨_, Heap.get?_push_size _ rfl, rfl, rfl⟩, ?_, ⟨?_, ?_⟩, ?_⟩
  · intro a ha
    show a < (s₁.heap.push _).objs.size
    rw [Heap.size_push, List.mem_singleton.mp ha]
    exact Nat.lt_succ_self _
  · intro C i v s₃ m₃ E' hP hn hm hk htk
    exact wpAny_pure ⟨rfl, _, _, rfl, fun _ _ e => e⟩
  · intro C i v s₃ m₃ E' hP _ hn hm hk htk
    obtain ⟨c, u, _, rfl⟩ := hP
    refine wpAny_mono (g2 C c u s₃ m₃ E' hn hm (fun a o e => hk a o (hI (F.keep a o e)) (hold _ _ _ (F.keep a o e)))) (fun r s₄ h₄ => ⟨?_, h₄.2⟩) fun _ _ e => e
    obtain ⟨t', e⟩ := h₄.1
    exact ⟨c, u, t', rfl, e⟩
  · intro D h' tk ys vs' hnew hlD hplD hlen hP hF hk
    rw [List.filter_eq_self.mpr (fun _ _ => rfl)] at hF
    have hfresh : h₀.get? D = none := by
      cases e : h₀.get? D with
      | none => rfl
      | some o' => rw [hold _ _ _ (F.keep _ _ e)] at hnew; cases hnew
    have hND : ∀ p ∈ news, p.1 ≠ D := fun p hp e => by rw [← e, hold _ _ _ (N p hp).1] at hnew; cases hnew
    have hDL : D ≠ env.locals := by
      rintro rfl
      obtain ⟨o, _, _, ho, _⟩ := F.ns
      rw [hold _ _ _ ho] at hnew; cases hnew
    obtain ⟨k, hD⟩ := hplD
    have hk' : ∀ a o, s₁.heap.get? a = some o → h'.get? a = some o := fun a o e => hk a o (hI e) (hold _ _ _ e)
    refine g3 D ys.toList k h' tk (F.kept hk') ?_ hND (strs_oct (bs := b.toList) (by simpa using hlen) (fun j v hj => by obtain ⟨c, u, e, e2⟩ := hP j v hj; exact ⟨c, u, by simpa using e, e2⟩) hF)
    intro p hp
    rcases List.mem_cons.mp hp with rfl | hp
    · exact ⟨by simpa using hD, hDL, hfresh⟩
    · exact ⟨hk' _ _ (N p hp).1, (N p hp).2⟩
end
end Mine
end

section
open PySem PySem.W PyProof.Rows PySem.Spec PySem.Calls
namespace Mine

set_option maxRecDepth 100000 in
set_option maxHeartbeats 8000000 in
theorem segF2 (w : World) (mean : ExcName → Option Value) (mg mb : Str → Option Value) {L fa ll : Addr} {cd : Value} {h₀ : Heap} {mr : Str → Option Value} {s : Shared} {oc : Obj} {us : List Value} {cn : Nat} {ob : Array UInt8} {t1 : Tok} {Mid : Shared → Prop}
    (K0 : Below callerA h₀ [] h₀) (X : (hd.heap_39 w.params).In h₀) (T : Top hd.view_39 loose0 mean mg mb h₀)
    (F : Fr h₀ L s.heap (fun y => if y = Str.ofString "octets" then some (.bytes ob t1) else mr y))
    (N : News h₀ L s.heap [(ll, W.listOf us.toArray cn), (L + 1, oc)]) (hlo : ob.size ≤ 1000)
    (post : ∀ (h' : Heap) (tk' : Nat) (t' : Tok), Fr h₀ L h' (fun y => if y = Str.ofString "text" then some (.str (Txt.join (Str.ofString "") (ob.toList.map fun c => (⟨#[c.toNat]⟩ : Str))) t') else if y = Str.ofString "octets" then some (.bytes ob t1) else mr y) →
      News h₀ L h' [(ll, W.listOf us.toArray cn), (L + 1, oc)] → Mid { s with heap := h', toks := tk' }) :
    wpAny (model Challenge.rw_qh0085_01.row.prog w) (callerA.deeper (lawEnv L fa cd)) (execs ((lawParts.1.drop 16).take 1) (lawEnv L fa cd)) (fun f s' => match f with | .next => Mid s' | _ => False) (fun _ _ => False) s := by
  w_top off
  k_with_none
  revert X; k_fill; intro X
  dsimp only [lawEnv, lawParts, Challenge.pw_qh0085_01, List.getLast?, List.getLast, List.drop, List.take]
  iterate 7 (first | (k_unfold; (try dsimp only)) | (k_end; wrow_close) | walk1 | (dsimp only; walk1) | (leave1; try dsimp only))
  with_unfolding_all refine' ListComp_rowsP ?a ?b ?c ?d ?e ?_ ?f
  case a => decide
  case b => decide
  case c => with_unfolding_all rfl
  case d => decide
  case e => with_unfolding_all rfl
  case f => intro _; with_unfolding_all rfl
  (first | (k_unfold; (try dsimp only)) | (k_end; wrow_close) | walk1 | (dsimp only; walk1) | (leave1; try dsimp only))
  refine' srcC_bytes (fun n => ⟨#[n]⟩) rfl rfl F N ?g2 ?g3 hlo
  case g2 =>
    intro C c u s₂ m₂ E' hn hm hk
    have hg := T.g.keeps hk
    have hb := T.b.keeps hk
    have hmg : mg (Str.ofString "chr") = none := mg_none_of X T.g (by with_unfolding_all rfl)
    (first | (k_unfold; (try dsimp only)) | (k_end; wrow_close) | walk1 | (dsimp only; walk1) | (leave1; try dsimp only))
    with_unfolding_all refine' Name_function_global rfl (by with_unfolding_all rfl) (loadGlobal_builtin (v := .builtin "chr") hg hmg hb ?v ?_)
    case v => exact (T.builtins (Str.ofString "chr") (by decide)).trans (by with_unfolding_all rfl)
    iterate 4 (first | (k_unfold; (try dsimp only)) | (k_end; wrow_close) | walk1 | (dsimp only; walk1) | (leave1; try dsimp only))
    have hc := c.toNat_lt
    refine chr_of_range (by omega) (by omega) ?_
    exact ⟨⟨_, rfl⟩, _, _, rfl, fun _ _ e => e⟩
  case g3 =>
    intro D ys k h' tk F' N' hnd hS
    replace F' : Fr h₀ L h' _ := F'
    replace N' : News h₀ L h' _ := N'
    (first | (k_unfold; (try dsimp only)) | (k_end; wrow_close) | walk1 | (dsimp only; walk1) | (leave1; try dsimp only))
    refine join_listC (News.isList N' (.head _)) hS (by decide) ?_ ?_
    · have : ∀ l : List UInt8, ((l.map fun c => (⟨#[c.toNat]⟩ : Str)).map (·.length)).sum = l.length := by
        intro l
        induction l with
        | nil => rfl
        | cons a r ih => rw [List.map_cons, List.map_cons, List.sum_cons, ih, List.length_cons]; show 1 + r.length = _; omega
      rw [this, List.length_map, Array.length_toList]; omega
    intro t' k'
    k_steps
    exact post _ _ _ (by assumption) (cb_drop (by assumption) (List.forall_mem_cons.mpr ⟨by k_mem, List.forall_mem_cons.mpr ⟨by k_mem, fun _ h => nomatch h⟩⟩))
end Mine
end

section
open PySem PySem.W PyProof.Rows
namespace Mine
theorem glue_ones : ∀ (l : List UInt8) (a : Array Nat), (l.map fun c => (⟨#[c.toNat]⟩ : Str)).foldl (fun acc p => acc ++ (#[] : Array Nat) ++ p.cps) a = a ++ (l.map (·.toNat)).toArray
  | [], a => by simp
  | c :: l, a => by
    rw [List.map_cons, List.foldl_cons, glue_ones l]
    simp
theorem join_ones (l : List UInt8) : Txt.join (Str.ofString "") (l.map fun c => (⟨#[c.toNat]⟩ : Str)) = ⟨(l.map (·.toNat)).toArray⟩ := by
  cases l with
  | nil => with_unfolding_all rfl
  | cons c l =>
    have e : (Str.ofString "").cps = #[] := by with_unfolding_all rfl
    unfold Txt.join Builtin.Str.glued
    rw [e, List.map_cons, List.drop_one, List.tail_cons, List.headD_cons, glue_ones]
    simp
end Mine
end

section
open PySem PySem.W PyProof.Rows PySem.Spec PySem.Calls
namespace Mine
local macro_rules | `(tactic| walk_at "none of mine") => `(tactic| fail "none")
set_option maxRecDepth 100000 in
set_option maxHeartbeats 8000000 in
theorem segG18 (w : World) (mean : ExcName → Option Value) (mg mb : Str → Option Value) {L fa ll : Addr} {cd vd : Value} {h₀ : Heap} {mr : Str → Option Value} {s : Shared} {oc : Obj} {us : List Value} {line figs : List Int} {cn : Nat} {t3 : Tok} {Mid : Shared → Prop}
    (K0 : Below callerA h₀ [] h₀) (X : (hd.heap_39 w.params).In h₀) (T : Top hd.view_39 loose0 mean mg mb h₀)
    (F : Fr h₀ L s.heap (fun y => if y = Str.ofString "due" then some vd else if y = Str.ofString "size" then some (.int figs.length t3) else if y = Str.ofString "line" then some (.ref ll) else mr y))
    (N : News h₀ L s.heap [(ll, W.listOf us.toArray cn), (L + 1, oc)]) (hI : IntsAre us line) (hlo : line.length ≤ 16)
    (post : ∀ (h' : Heap) (tk' : Nat), Fr h₀ L h' (fun y => if y = Str.ofString "narrow" then some (if figs.length = line.length then vd else .none) else if y = Str.ofString "due" then some vd else if y = Str.ofString "size" then some (.int figs.length t3) else if y = Str.ofString "line" then some (.ref ll) else mr y) → News h₀ L h' [(ll, W.listOf us.toArray cn), (L + 1, oc)] → Mid { s with heap := h', toks := tk' }) :
    wpAny (model Challenge.rw_qh0085_01.row.prog w) (callerA.deeper (lawEnv L fa cd)) (execs ((lawParts.1.drop 18).take 1) (lawEnv L fa cd)) (fun f s' => match f with | .next => Mid s' | _ => False) (fun _ _ => False) s := by
  w_top off
  k_with_none
  revert X; k_fill; intro X
  dsimp only [lawEnv, lawParts, Challenge.pw_qh0085_01, List.getLast?, List.getLast, List.drop, List.take]
  have hMk := kstMark
  k_steps
  · rw [if_pos (by omega)] at post
    exact post _ _ (by assumption) (by assumption)
  · rw [if_neg (by omega)] at post
    exact post _ _ (by assumption) (by assumption)
end Mine
end

section
open PySem PySem.W PyProof.Rows PySem.Spec PySem.Calls
namespace Mine
noncomputable def asciiP (c : Int) : Bool := if 0 ≤ c then decide (c ≤ 127) else false
theorem asciiP_t {c : Int} (h : 0 ≤ c) : decide (c ≤ 127) = asciiP c := (if_pos h).symm
theorem asciiP_f {c : Int} (h : ¬ 0 ≤ c) : decide (0 ≤ c) = asciiP c := (decide_eq_false h).trans (if_neg h).symm
set_option maxRecDepth 100000 in
set_option maxHeartbeats 8000000 in
theorem isa_call (w : World) (mean : ExcName → Option Value) (mg mb : Str → Option Value) {cn : Str} {cs : Scope} {a : Addr} {ccd : Value} {cl : List (Str × Addr)} {h₀ s₂ : Heap} {L : Addr} {m : Str → Option Value} {news : List (Addr × Obj)} {s : Shared} {Q E : Value → Shared → Prop} {c : Int} {tc : Tok}
    (B : Below callerA h₀ [] h₀) (F : Fr h₀ L s.heap m) (X : (hd.heap_39 w.params).In h₀) (N : News h₀ L s.heap news) (T : Top hd.view_39 loose0 mean mg mb h₀) (hk : cs.kind = .function) (E0 : InElt s₂ s.heap)
    (ret : ∀ h' tk', Fr h₀ L h' m → News h₀ L h' news → InElt s₂ h' → Q (.bool (asciiP c)) { s with heap := h', toks := tk' }) :
    wpAny (model Challenge.rw_qh0085_01.row.prog w) (callerA.deeper (envX cn cs L a ccd cl)) (call (.ref 93) [.int c tc]) Q E s := by
  w_top off
  k_with_none
  revert X; k_fill; intro X
  refine wpAny_call ?_
  (refine' code_defG ?k1 ?k2 ?k3 ?k4 ?k5 ?kA ?kF ?kK ?k6 ?k7 ?k8 ?k9 ?kB ?_ ?c2 ?c3 ?c4 ?c5; (case kA => exact rfl); (case kF => exact rfl); (case kK => first | exact rfl | assumption); (case k1 => k_asm); (case k2 => k_asm); (case k3 => k_asm); (case k4 => k_asm); (case k5 => k_asm); (case k6 => k_is); (case k7 => k_is); (case k8 => k_room); (case k9 => first | exact BindsTo.of_eq rfl | exact binds_K (by k_in) rfl (by k_is) rfl rfl rfl | fail "k_enter: no rule for these arguments"); (case c5 => decide); (case kB => exact locs rfl); (case c2 => exact rfl); (case c3 => exact rfl); (case c4 => exact rfl); k_whole; intro g' L' h' FG' F' N' B' X' T' kG'; (try dsimp only); (try k_lift B'); (try k_fold))
  k_steps
  · rw [asciiP_t (by assumption)]; exact ret _ _ (by assumption) (by assumption) (by assumption)
  · rw [asciiP_f (by assumption)]; exact ret _ _ (by assumption) (by assumption) (by assumption)
end Mine
end

section
open PySem PySem.W PyProof.Rows PySem.Spec PySem.Calls
namespace Mine
local macro_rules | `(tactic| walk_at "call ref") => `(tactic| ((with_reducible show wpAny _ _ (call (Value.ref 93) _ _) _ _ _); (with_unfolding_all refine' isa_call _ _ _ _ ?k1 ?k2 ?k3 ?k4 ?k5 ?kK ?kE ?ret); (case k1 => k_asm); (case k2 => k_asm); (case k3 => k_asm); (case k4 => k_asm); (case k5 => k_asm); (case kK => first | exact rfl | assumption); (case kE => with_reducible assumption); (case' ret => intro h9 tk9 F9 N9 E9; (try dsimp only); (try k_fold))))
set_option maxRecDepth 100000 in
set_option maxHeartbeats 8000000 in
theorem segG20 (w : World) (mean : ExcName → Option Value) (mg mb : Str → Option Value) {L fa ll : Addr} {cd : Value} {h₀ : Heap} {mr : Str → Option Value} {s : Shared} {oc : Obj} {us : List Value} {line : List Int} {cn : Nat} {Mid : Shared → Prop}
    (K0 : Below callerA h₀ [] h₀) (X : (hd.heap_39 w.params).In h₀) (T : Top hd.view_39 loose0 mean mg mb h₀)
    (F : Fr h₀ L s.heap (fun y => if y = Str.ofString "line" then some (.ref ll) else mr y))
    (N : News h₀ L s.heap [(ll, W.listOf us.toArray cn), (L + 1, oc)]) (hI : IntsAre us line) (hlo : line.length ≤ 16)
    (post : ∀ (h' : Heap) (tk' : Nat) (lb : Addr) (ys : List Value) (k : Nat), Fr h₀ L h' (fun y => if y = Str.ofString "beyond" then some (.ref lb) else if y = Str.ofString "line" then some (.ref ll) else mr y) → News h₀ L h' [(lb, W.listOf ys.toArray k), (ll, W.listOf us.toArray cn), (L + 1, oc)] → IntsAre ys (line.filter fun a => !asciiP a) → Mid { s with heap := h', toks := tk' }) :
    wpAny (model Challenge.rw_qh0085_01.row.prog w) (callerA.deeper (lawEnv L fa cd)) (execs ((lawParts.1.drop 20).take 1) (lawEnv L fa cd)) (fun f s' => match f with | .next => Mid s' | _ => False) (fun _ _ => False) s := by
  w_top off
  k_with_none
  revert X; k_fill; intro X
  dsimp only [lawEnv, lawParts, Challenge.pw_qh0085_01, List.getLast?, List.getLast, List.drop, List.take]
  have hMk := kstMark
  k_steps
  · exact Str.ofString "x"
  · exact 0
  · exact Value.none
  rename NewPlain _ _ _ _ => hP
  rename CarriedAll _ _ => hC
  rename Heap.get? h₀ _ = none => hD
  rename News _ _ _ _ => hN
  rename Fr _ _ _ _ => hF
  obtain ⟨kn, gN, -⟩ := gn_enter hP hF hN hD
  exact post _ _ _ _ _ hF gN (IntsAre.ofCarried hC)
end Mine
end

section
open PySem PySem.W PyProof.Rows PySem.Spec PySem.Calls
namespace Mine
theorem told_use {w : World} {mean : ExcName → Option Value} {mg mb : Str → Option Value} {vs : List Value} {R : Tok → Value} {cn : Str} {cs : Scope} {a : Addr} {ccd : Value} {cl : List (Str × Addr)} {h₀ : Heap} {L : Addr} {m : Str → Option Value} {news : List (Addr × Obj)} {s : Shared} {Q E : Value → Shared → Prop}
    (H : ToldClaim w mean mg mb 135 vs R) (B : Below callerA h₀ [] h₀) (F : Fr h₀ L s.heap m) (X : (hd.heap_39 w.params).In h₀) (N : News h₀ L s.heap news) (T : Top hd.view_39 loose0 mean mg mb h₀) (hk : cs.kind = .function)
    (ret : CbRet h₀ L m news s Q R) : wpAny (model Challenge.rw_qh0085_01.row.prog w) (callerA.deeper (envX cn cs L a ccd cl)) (call (.ref 135) vs) Q E s :=
  H cn cs a ccd cl h₀ L m news s Q E B F X N T hk ret
local macro_rules | `(tactic| walk_at "none of mine") => `(tactic| fail "none")
local macro_rules | `(tactic| walk_at "call ref") => `(tactic| ((with_reducible show wpAny _ _ (call (Value.ref 135) _ _) _ _ _); (with_unfolding_all (refine' told_use ?H ?k1 ?k2 ?k3 ?k4 ?k5 ?k6 ?k7)); (case H => assumption); (case k1 => k_asm); (case k2 => k_asm); (case k3 => k_asm); (case k4 => k_asm); (case k5 => k_asm); (case k6 => exact rfl); (case' k7 => (intro t1 h1 tk1 F1 N1))))

set_option maxRecDepth 100000 in
set_option maxHeartbeats 8000000 in
theorem segG17b (w : World) (mean : ExcName → Option Value) (mg mb : Str → Option Value) {L fa ll : Addr} {cd : Value} {h₀ : Heap} {mr : Str → Option Value} {s : Shared} {oc : Obj} {us : List Value} {cn : Nat} {ob db : Array UInt8} {va : Value} {t1 t2 : Tok} {Mid : Shared → Prop}
    (K0 : Below callerA h₀ [] h₀) (X : (hd.heap_39 w.params).In h₀) (T : Top hd.view_39 loose0 mean mg mb h₀)
    (F : Fr h₀ L s.heap (fun y => if y = Str.ofString "octets" then some (.bytes ob t1) else if y = Str.ofString "due" then some (.bytes db t2) else if y = Str.ofString "altchars" then some va else  mr y))
    (N : News h₀ L s.heap [(ll, W.listOf us.toArray cn), (L + 1, oc)])
    (H1 : ToldClaim w mean mg mb 135 [.bytes ob t1, va, .bool false] (fun t2 => (.bytes db t2)))
    (post : ∀ (h' : Heap) (tk' : Nat), Fr h₀ L h' (fun y => if y = Str.ofString "octets" then some (.bytes ob t1) else if y = Str.ofString "due" then some (.bytes db t2) else if y = Str.ofString "altchars" then some va else  mr y) → News h₀ L h' [(ll, W.listOf us.toArray cn), (L + 1, oc)] → Mid { s with heap := h', toks := tk' }) :
    wpAny (model Challenge.rw_qh0085_01.row.prog w) (callerA.deeper (lawEnv L fa cd)) (execs ((lawParts.1.drop 17).take 1) (lawEnv L fa cd)) (fun f s' => match f with | .next => Mid s' | _ => False) (fun _ _ => False) s := by
  w_top off
  k_with_none
  revert X; k_fill; intro X
  dsimp only [lawEnv, lawParts, Challenge.pw_qh0085_01, List.getLast?, List.getLast, List.drop, List.take]
  k_steps
  exact post _ _ (by assumption) (by assumption)

set_option maxRecDepth 100000 in
set_option maxHeartbeats 8000000 in
theorem segG19b (w : World) (mean : ExcName → Option Value) (mg mb : Str → Option Value) {L fa ll : Addr} {cd : Value} {h₀ : Heap} {mr : Str → Option Value} {s : Shared} {oc : Obj} {us : List Value} {cn : Nat} {ob db : Array UInt8} {xt : Str} {va vb : Value} {t1 t2 t4 : Tok} {Mid : Shared → Prop}
    (K0 : Below callerA h₀ [] h₀) (X : (hd.heap_39 w.params).In h₀) (T : Top hd.view_39 loose0 mean mg mb h₀)
    (F : Fr h₀ L s.heap (fun y => if y = Str.ofString "narrow" then some (.bytes db t2) else if y = Str.ofString "text" then some (.str xt t4) else if y = Str.ofString "octets" then some (.bytes ob t1) else if y = Str.ofString "altsigns" then some vb else if y = Str.ofString "altchars" then some va else  mr y))
    (N : News h₀ L s.heap [(ll, W.listOf us.toArray cn), (L + 1, oc)])
    (H2 : ToldClaim w mean mg mb 135 [.bytes ob t1, va, .bool true] (fun t2 => (.bytes db t2))) (H3 : ToldClaim w mean mg mb 135 [.str xt t4, vb, .bool true] (fun t2 => (.bytes db t2)))
    (post : ∀ (h' : Heap) (tk' : Nat), Fr h₀ L h' (fun y => if y = Str.ofString "narrow" then some (.bytes db t2) else if y = Str.ofString "text" then some (.str xt t4) else if y = Str.ofString "octets" then some (.bytes ob t1) else if y = Str.ofString "altsigns" then some vb else if y = Str.ofString "altchars" then some va else  mr y) → News h₀ L h' [(ll, W.listOf us.toArray cn), (L + 1, oc)] → Mid { s with heap := h', toks := tk' }) :
    wpAny (model Challenge.rw_qh0085_01.row.prog w) (callerA.deeper (lawEnv L fa cd)) (execs ((lawParts.1.drop 19).take 1) (lawEnv L fa cd)) (fun f s' => match f with | .next => Mid s' | _ => False) (fun _ _ => False) s := by
  w_top off
  k_with_none
  revert X; k_fill; intro X
  dsimp only [lawEnv, lawParts, Challenge.pw_qh0085_01, List.getLast?, List.getLast, List.drop, List.take]
  iterate 15 (first | (k_unfold; (try dsimp only)) | (k_end; wrow_close) | walk1 | (dsimp only; walk1) | (leave1; try dsimp only))
  walk_at "call ref"
  k_steps
  exact post _ _ (by assumption) (by assumption)

set_option maxRecDepth 100000 in
set_option maxHeartbeats 8000000 in
theorem segG17n (w : World) (mean : ExcName → Option Value) (mg mb : Str → Option Value) {L fa ll : Addr} {cd : Value} {h₀ : Heap} {mr : Str → Option Value} {s : Shared} {oc : Obj} {us : List Value} {cn : Nat} {ob : Array UInt8} {va : Value} {t1 : Tok} {Mid : Shared → Prop}
    (K0 : Below callerA h₀ [] h₀) (X : (hd.heap_39 w.params).In h₀) (T : Top hd.view_39 loose0 mean mg mb h₀)
    (F : Fr h₀ L s.heap (fun y => if y = Str.ofString "octets" then some (.bytes ob t1) else if y = Str.ofString "due" then some .none else if y = Str.ofString "altchars" then some va else  mr y))
    (N : News h₀ L s.heap [(ll, W.listOf us.toArray cn), (L + 1, oc)])
    (H1 : ToldClaim w mean mg mb 135 [.bytes ob t1, va, .bool false] (fun t2 => .none))
    (post : ∀ (h' : Heap) (tk' : Nat), Fr h₀ L h' (fun y => if y = Str.ofString "octets" then some (.bytes ob t1) else if y = Str.ofString "due" then some .none else if y = Str.ofString "altchars" then some va else  mr y) → News h₀ L h' [(ll, W.listOf us.toArray cn), (L + 1, oc)] → Mid { s with heap := h', toks := tk' }) :
    wpAny (model Challenge.rw_qh0085_01.row.prog w) (callerA.deeper (lawEnv L fa cd)) (execs ((lawParts.1.drop 17).take 1) (lawEnv L fa cd)) (fun f s' => match f with | .next => Mid s' | _ => False) (fun _ _ => False) s := by
  w_top off
  k_with_none
  revert X; k_fill; intro X
  dsimp only [lawEnv, lawParts, Challenge.pw_qh0085_01, List.getLast?, List.getLast, List.drop, List.take]
  k_steps
  exact post _ _ (by assumption) (by assumption)

set_option maxRecDepth 100000 in
set_option maxHeartbeats 8000000 in
theorem segG19n (w : World) (mean : ExcName → Option Value) (mg mb : Str → Option Value) {L fa ll : Addr} {cd : Value} {h₀ : Heap} {mr : Str → Option Value} {s : Shared} {oc : Obj} {us : List Value} {cn : Nat} {ob : Array UInt8} {xt : Str} {va vb : Value} {t1 t4 : Tok} {Mid : Shared → Prop}
    (K0 : Below callerA h₀ [] h₀) (X : (hd.heap_39 w.params).In h₀) (T : Top hd.view_39 loose0 mean mg mb h₀)
    (F : Fr h₀ L s.heap (fun y => if y = Str.ofString "narrow" then some .none else if y = Str.ofString "text" then some (.str xt t4) else if y = Str.ofString "octets" then some (.bytes ob t1) else if y = Str.ofString "altsigns" then some vb else if y = Str.ofString "altchars" then some va else  mr y))
    (N : News h₀ L s.heap [(ll, W.listOf us.toArray cn), (L + 1, oc)])
    (H2 : ToldClaim w mean mg mb 135 [.bytes ob t1, va, .bool true] (fun t2 => .none)) (H3 : ToldClaim w mean mg mb 135 [.str xt t4, vb, .bool true] (fun t2 => .none))
    (post : ∀ (h' : Heap) (tk' : Nat), Fr h₀ L h' (fun y => if y = Str.ofString "narrow" then some .none else if y = Str.ofString "text" then some (.str xt t4) else if y = Str.ofString "octets" then some (.bytes ob t1) else if y = Str.ofString "altsigns" then some vb else if y = Str.ofString "altchars" then some va else  mr y) → News h₀ L h' [(ll, W.listOf us.toArray cn), (L + 1, oc)] → Mid { s with heap := h', toks := tk' }) :
    wpAny (model Challenge.rw_qh0085_01.row.prog w) (callerA.deeper (lawEnv L fa cd)) (execs ((lawParts.1.drop 19).take 1) (lawEnv L fa cd)) (fun f s' => match f with | .next => Mid s' | _ => False) (fun _ _ => False) s := by
  w_top off
  k_with_none
  revert X; k_fill; intro X
  dsimp only [lawEnv, lawParts, Challenge.pw_qh0085_01, List.getLast?, List.getLast, List.drop, List.take]
  iterate 15 (first | (k_unfold; (try dsimp only)) | (k_end; wrow_close) | walk1 | (dsimp only; walk1) | (leave1; try dsimp only))
  walk_at "call ref"
  k_steps
  exact post _ _ (by assumption) (by assumption)


set_option maxRecDepth 100000 in
set_option maxHeartbeats 8000000 in
theorem segG21b (w : World) (mean : ExcName → Option Value) (mg mb : Str → Option Value) {L fa ll lb : Addr} {cd : Value} {h₀ : Heap} {mr : Str → Option Value} {s : Shared} {oc : Obj} {us : List Value} {cn k : Nat} {db : Array UInt8} {xt : Str} {vb : Value} {t2 t4 : Tok} {Q : Flow → Shared → Prop} {E : Value → Shared → Prop}
    (K0 : Below callerA h₀ [] h₀) (X : (hd.heap_39 w.params).In h₀) (T : Top hd.view_39 loose0 mean mg mb h₀)
    (F : Fr h₀ L s.heap (fun y => if y = Str.ofString "beyond" then some (.ref lb) else if y = Str.ofString "text" then some (.str xt t4) else if y = Str.ofString "due" then some (.bytes db t2) else if y = Str.ofString "altsigns" then some vb else mr y))
    (N : News h₀ L s.heap [(lb, W.listOf #[] k), (ll, W.listOf us.toArray cn), (L + 1, oc)])
    (H : ToldClaim w mean mg mb 135 [.str xt t4, vb, .bool false] (fun t2 => (.bytes db t2)))
    (post : ∀ (h' : Heap) (tk' : Nat) (m' : Str → Option Value), Fr h₀ L h' m' → Q (.ret (.bool true)) { s with heap := h', toks := tk' }) :
    wpAny (model Challenge.rw_qh0085_01.row.prog w) (callerA.deeper (lawEnv L fa cd)) (execs (lawParts.1.drop 21) (lawEnv L fa cd)) Q E s := by
  w_top off
  k_with_none
  revert X; k_fill; intro X
  dsimp only [lawEnv, lawParts, Challenge.pw_qh0085_01, List.getLast?, List.getLast, List.drop, List.take]
  have hMk := kstMark
  k_steps
  rw [show (db.toList == db.toList) = true from beq_self_eq_true _]
  exact post _ _ _ (by assumption)

set_option maxRecDepth 100000 in
set_option maxHeartbeats 8000000 in
theorem segG21n (w : World) (mean : ExcName → Option Value) (mg mb : Str → Option Value) {L fa ll lb : Addr} {cd : Value} {h₀ : Heap} {mr : Str → Option Value} {s : Shared} {oc : Obj} {us : List Value} {cn k : Nat} {xt : Str} {vb : Value} {t4 : Tok} {Q : Flow → Shared → Prop} {E : Value → Shared → Prop}
    (K0 : Below callerA h₀ [] h₀) (X : (hd.heap_39 w.params).In h₀) (T : Top hd.view_39 loose0 mean mg mb h₀)
    (F : Fr h₀ L s.heap (fun y => if y = Str.ofString "beyond" then some (.ref lb) else if y = Str.ofString "text" then some (.str xt t4) else if y = Str.ofString "due" then some .none else if y = Str.ofString "altsigns" then some vb else mr y))
    (N : News h₀ L s.heap [(lb, W.listOf #[] k), (ll, W.listOf us.toArray cn), (L + 1, oc)])
    (H : ToldClaim w mean mg mb 135 [.str xt t4, vb, .bool false] (fun t2 => .none))
    (post : ∀ (h' : Heap) (tk' : Nat) (m' : Str → Option Value), Fr h₀ L h' m' → Q (.ret (.bool true)) { s with heap := h', toks := tk' }) :
    wpAny (model Challenge.rw_qh0085_01.row.prog w) (callerA.deeper (lawEnv L fa cd)) (execs (lawParts.1.drop 21) (lawEnv L fa cd)) Q E s := by
  w_top off
  k_with_none
  revert X; k_fill; intro X
  dsimp only [lawEnv, lawParts, Challenge.pw_qh0085_01, List.getLast?, List.getLast, List.drop, List.take]
  have hMk := kstMark
  k_steps
  exact post _ _ _ (by assumption)

set_option maxRecDepth 100000 in
set_option maxHeartbeats 8000000 in
theorem segG21x (w : World) (mean : ExcName → Option Value) (mg mb : Str → Option Value) {L fa ll lb : Addr} {cd : Value} {h₀ : Heap} {mr : Str → Option Value} {s : Shared} {oc : Obj} {us ys : List Value} {bl : List Int} {cn k : Nat} {xt : Str} {vb vd : Value} {t4 : Tok} {Q : Flow → Shared → Prop} {E : Value → Shared → Prop}
    (K0 : Below callerA h₀ [] h₀) (X : (hd.heap_39 w.params).In h₀) (T : Top hd.view_39 loose0 mean mg mb h₀)
    (F : Fr h₀ L s.heap (fun y => if y = Str.ofString "beyond" then some (.ref lb) else if y = Str.ofString "text" then some (.str xt t4) else if y = Str.ofString "due" then some vd else if y = Str.ofString "altsigns" then some vb else mr y))
    (N : News h₀ L s.heap [(lb, W.listOf ys.toArray k), (ll, W.listOf us.toArray cn), (L + 1, oc)]) (hI : IntsAre ys bl) (hb : bl ≠ []) (hlo : bl.length ≤ 16)
    (H : ToldClaim w mean mg mb 135 [.str xt t4, vb, .bool false] (fun t2 => .none))
    (post : ∀ (h' : Heap) (tk' : Nat) (m' : Str → Option Value), Fr h₀ L h' m' → Q (.ret (.bool true)) { s with heap := h', toks := tk' }) :
    wpAny (model Challenge.rw_qh0085_01.row.prog w) (callerA.deeper (lawEnv L fa cd)) (execs (lawParts.1.drop 21) (lawEnv L fa cd)) Q E s := by
  w_top off
  k_with_none
  revert X; k_fill; intro X
  dsimp only [lawEnv, lawParts, Challenge.pw_qh0085_01, List.getLast?, List.getLast, List.drop, List.take]
  have hMk := kstMark
  k_steps
  exact post _ _ _ (by assumption)
end Mine
end

section
open PySem PySem.W PyProof.Rows PySem.Spec PySem.Calls
namespace Mine
/-- the text of the octets -/
noncomputable def textOf (ob : Array UInt8) : Str := Txt.join (Str.ofString "") (ob.toList.map fun c => (⟨#[c.toNat]⟩ : Str))
theorem textOf_cps (ob : Array UInt8) : (textOf ob).cps = ob.map (·.toNat) := by
  unfold textOf
  rw [join_ones]
  show (List.map (fun x => x.toNat) ob.toList).toArray = _
  rw [← Array.toList_map, Array.toArray_toList]
theorem asc_text (ob : Array UInt8) : asc (textOf ob) = ob := by
  unfold asc
  rw [textOf_cps, Array.map_map]
  have : (fun x : Nat => x.toUInt8) ∘ (fun x : UInt8 => x.toNat) = id := by
    funext c
    show c.toNat.toUInt8 = c
    apply UInt8.toNat_inj.mp
    have := c.toNat_lt
    simp
  rw [this, Array.map_id]

theorem byte_back {p : Int} (h0 : 0 ≤ p) (h1 : p < 256) : (((p.toNat.toUInt8).toNat : Nat) : Int) = p := by
  have : p.toNat.toUInt8.toNat = p.toNat := by
    simp [Nat.toUInt8]; omega
  rw [this]; omega

theorem oct_size {line : List Int} {pd : Int} : (octOf line pd).size = line.length + pd.toNat := by
  unfold octOf; simp [byteArr]
theorem oct_mem {line : List Int} {pd : Int} (hr : KBa.In line) {c : UInt8} (hc : c ∈ octOf line pd) : (c.toNat : Int) ∈ line ∨ c.toNat = 61 := by
  have h1 : (c.toNat : Int) ∈ KBw.bInts (octOf line pd) := by
    unfold KBw.bInts
    exact List.mem_map.mpr ⟨c, by simpa using hc, rfl⟩
  rw [oct_ints hr] at h1
  rcases List.mem_append.mp h1 with h | h
  · exact .inl h
  · have := (List.mem_replicate.mp h).2
    exact .inr (by omega)
theorem oct_mem' {line : List Int} {pd x : Int} (hr : KBa.In line) (hx : x ∈ line) : ∃ c ∈ octOf line pd, (c.toNat : Int) = x := by
  have h1 : x ∈ KBw.bInts (octOf line pd) := by
    rw [oct_ints hr]; exact List.mem_append_left _ hx
  unfold KBw.bInts at h1
  obtain ⟨c, hc, e⟩ := List.mem_map.mp h1
  exact ⟨c, by simpa using hc, e⟩

/-- the codes that isascii refuses -/
noncomputable def beyondOf (line : List Int) : List Int := line.filter fun a => !asciiP a
theorem beyond_nil {line : List Int} (h : beyondOf line = []) : ∀ x ∈ line, x ≤ 127 := by
  intro x hx
  have := List.filter_eq_nil_iff.mp h x hx
  unfold asciiP at this
  split at this <;> simp at this
  exact this
theorem beyond_some {line : List Int} (hr : KBa.In line) (h : beyondOf line ≠ []) : ∃ x ∈ line, 128 ≤ x := by
  obtain ⟨x, hx⟩ := List.exists_mem_of_ne_nil _ h
  obtain ⟨h1, h2⟩ := List.mem_filter.mp hx
  refine ⟨x, h1, ?_⟩
  have h0 := (hr x h1).1
  unfold asciiP at h2
  rw [if_pos h0] at h2
  simp at h2
  omega

theorem text_ascii {line : List Int} {pd : Int} (hr : KBa.In line) (h : beyondOf line = []) : ∀ c ∈ (textOf (octOf line pd)).cps, c < 128 := by
  intro c hc
  rw [textOf_cps] at hc
  obtain ⟨d, hd, rfl⟩ := Array.mem_map.mp hc
  rcases oct_mem hr hd with h1 | h1
  · have := beyond_nil h _ h1; omega
  · omega
theorem text_beyond {line : List Int} {pd : Int} (hr : KBa.In line) (h : beyondOf line ≠ []) : ∃ c ∈ (textOf (octOf line pd)).cps, 128 ≤ c := by
  obtain ⟨x, hx, h2⟩ := beyond_some hr h
  obtain ⟨c, hc, e⟩ := oct_mem' (pd := pd) hr hx
  refine ⟨c.toNat, ?_, by omega⟩
  rw [textOf_cps]
  exact Array.mem_map.mpr ⟨c, hc, rfl⟩
theorem text_size (ob : Array UInt8) : (textOf ob).cps.size = ob.size := by rw [textOf_cps, Array.size_map]

section
variable {w : World} {mean : ExcName → Option Value} {mg mb : Str → Option Value} {p0 p1 q0 q1 total : Int} {va vb : Value} {line : List Int}

theorem alt_of (h : Alt p0 p1) (hA : AltIs p0 p1 va vb q0 q1) : Alt q0 q1 := by
  cases hA with
  | plain => exact alt_plain
  | own _ _ => exact h

theorem trans_ints (h : Alt p0 p1) (x : Array UInt8) : KBw.bInts (trans #[p0.toNat.toUInt8, p1.toNat.toUInt8] x) = (KBw.bInts x).map (tr p0 p1) := by
  unfold trans
  rw [ints_trans, byte_back (by have := h.a0.1; omega) (by have := h.a0.2.1; omega), byte_back (by have := h.a1.1; omega) (by have := h.a1.2.1; omega)]

/-- the altchars' text, as bytes -/
theorem asc_alt (a b : Nat) : asc ((⟨#[a]⟩ : Str) ++ (⟨#[b]⟩ : Str)) = #[a.toUInt8, b.toUInt8] := by
  unfold asc
  show Array.map _ (#[a] ++ #[b]) = _
  simp
theorem alt_ascii (h : Alt p0 p1) : ∀ c ∈ ((⟨#[p0.toNat]⟩ : Str) ++ (⟨#[p1.toNat]⟩ : Str)).cps, c < 128 := by
  intro c hc
  have : c = p0.toNat ∨ c = p1.toNat := by
    have hc : c ∈ #[p0.toNat, p1.toNat] := hc
    simpa using hc
  have := h.a0.2.1
  have := h.a1.2.1
  omega

theorem claim_bf (h : Alt p0 p1) (hA : AltIs p0 p1 va vb q0 q1) (hr : KBa.In line) (hl : ∀ c ∈ line, c ≠ 61) (hz : (octOf line (padOf total (figsOf q0 q1 line).length)).size ≤ 1000) (t : Tok) :
    ToldClaim w mean mg mb 135 [.bytes (octOf line (padOf total (figsOf q0 q1 line).length)) t, va, .bool false] (fun t => valO (dueOf (figsOf q0 q1 line) (padOf total (figsOf q0 q1 line).length)) t) := by
  have e := oct_f (total := total) (alt_of h hA) hr hl
  cases hA with
  | plain => rw [map_tr_id] at e; rw [← e]; exact told_bnf w mean mg mb _ t hz
  | own u u' => rw [← trans_ints h] at e; rw [← e]; exact told_bbf w mean mg mb _ t hz _ u rfl
theorem claim_bt (h : Alt p0 p1) (hA : AltIs p0 p1 va vb q0 q1) (hr : KBa.In line) (hl : ∀ c ∈ line, c ≠ 61) (hz : (octOf line (padOf total (figsOf q0 q1 line).length)).size ≤ 1000) (t : Tok) :
    ToldClaim w mean mg mb 135 [.bytes (octOf line (padOf total (figsOf q0 q1 line).length)) t, va, .bool true] (fun t => valO (if (figsOf q0 q1 line).length = line.length then dueOf (figsOf q0 q1 line) (padOf total (figsOf q0 q1 line).length) else none) t) := by
  have e := oct_t (total := total) (alt_of h hA) hr hl
  cases hA with
  | plain => rw [map_tr_id] at e; rw [← e]; exact told_bnt w mean mg mb _ t hz
  | own u u' => rw [← trans_ints h] at e; rw [← e]; exact told_bbt w mean mg mb _ t hz _ u rfl

theorem claim_st (h : Alt p0 p1) (hA : AltIs p0 p1 va vb q0 q1) (hr : KBa.In line) (hl : ∀ c ∈ line, c ≠ 61) (hz : (octOf line (padOf total (figsOf q0 q1 line).length)).size ≤ 1000) (t : Tok) :
    ToldClaim w mean mg mb 135 [.str (textOf (octOf line (padOf total (figsOf q0 q1 line).length))) t, vb, .bool true] (fun t => valO (if (figsOf q0 q1 line).length = line.length then dueOf (figsOf q0 q1 line) (padOf total (figsOf q0 q1 line).length) else none) t) := by
  by_cases hb : beyondOf line = []
  · have e := oct_t (total := total) (alt_of h hA) hr hl
    have hx := text_ascii (pd := padOf total (figsOf q0 q1 line).length) hr hb
    have hs : (textOf (octOf line (padOf total (figsOf q0 q1 line).length))).cps.size ≤ 1000 := by rw [text_size]; exact hz
    have ea := asc_text (octOf line (padOf total (figsOf q0 q1 line).length))
    cases hA with
    | plain =>
      rw [map_tr_id] at e
      have := told_snt w mean mg mb _ t hx hs
      rw [ea, e] at this
      exact this
    | own u u' =>
      have := told_sst w mean mg mb _ t hx hs _ u' (alt_ascii h) rfl
      rw [ea, asc_alt, trans_ints h, e] at this
      exact this
  · obtain ⟨x, hx, h2⟩ := beyond_some hr hb
    rw [if_neg (beyond_short (alt_of h hA) hx h2)]
    have hx := text_beyond (pd := padOf total (figsOf q0 q1 line).length) hr hb
    have hs : (textOf (octOf line (padOf total (figsOf q0 q1 line).length))).cps.size ≤ 1000 := by rw [text_size]; exact hz
    cases hA with
    | plain => exact told_xnt w mean mg mb _ t hx hs
    | own u u' => exact told_xst w mean mg mb _ t hx hs _ u'
theorem claim_sf (h : Alt p0 p1) (hA : AltIs p0 p1 va vb q0 q1) (hr : KBa.In line) (hl : ∀ c ∈ line, c ≠ 61) (hz : (octOf line (padOf total (figsOf q0 q1 line).length)).size ≤ 1000) (t : Tok) :
    ToldClaim w mean mg mb 135 [.str (textOf (octOf line (padOf total (figsOf q0 q1 line).length))) t, vb, .bool false] (fun t => valO (if beyondOf line = [] then dueOf (figsOf q0 q1 line) (padOf total (figsOf q0 q1 line).length) else none) t) := by
  by_cases hb : beyondOf line = []
  · rw [if_pos hb]
    have e := oct_f (total := total) (alt_of h hA) hr hl
    have hx := text_ascii (pd := padOf total (figsOf q0 q1 line).length) hr hb
    have hs : (textOf (octOf line (padOf total (figsOf q0 q1 line).length))).cps.size ≤ 1000 := by rw [text_size]; exact hz
    have ea := asc_text (octOf line (padOf total (figsOf q0 q1 line).length))
    cases hA with
    | plain =>
      rw [map_tr_id] at e
      have := told_snf w mean mg mb _ t hx hs
      rw [ea, e] at this
      exact this
    | own u u' =>
      have := told_ssf w mean mg mb _ t hx hs _ u' (alt_ascii h) rfl
      rw [ea, asc_alt, trans_ints h, e] at this
      exact this
  · rw [if_neg hb]
    have hx := text_beyond (pd := padOf total (figsOf q0 q1 line).length) hr hb
    have hs : (textOf (octOf line (padOf total (figsOf q0 q1 line).length))).cps.size ≤ 1000 := by rw [text_size]; exact hz
    cases hA with
    | plain => exact told_xnf w mean mg mb _ t hx hs
    | own u u' => exact told_xsf w mean mg mb _ t hx hs _ u'
end
end Mine
end

section
open PySem PySem.W PyProof.Rows PySem.Spec PySem.Calls
namespace Mine
theorem go_on {M : Model} {A : Around} {l : List Stmt} {env : Env} {Q : Flow → Shared → Prop} {E : Value → Shared → Prop} {s : Shared} (k n : Nat)
    (h : wpAny M A (execs ((l.drop k).take n) env) (fun f s' => match f with | .next => wpAny M A (execs (l.drop (k + n)) env) Q E s' | _ => False) (fun _ _ => False) s) : wpAny M A (execs (l.drop k) env) Q E s := by
  rw [← List.take_append_drop n (l.drop k), List.drop_drop]
  exact execs_two _ (wpAny_mono h (fun _ _ x => x) fun _ _ x => x.elim)

theorem intsAre_nil : ∀ {us : List Value}, IntsAre us [] → us = []
  | _, .nil => rfl

section
variable {w : World} {mean : ExcName → Option Value} {mg mb : Str → Option Value} {L fa ll : Addr} {cd va vb : Value} {h₀ : Heap} {mr : Str → Option Value} {s : Shared} {oc : Obj} {us : List Value} {line figs : List Int} {cn : Nat} {due : Option (List Int)} {ob : Array UInt8} {xt : Str} {t1 t2 t3 t4 : Tok} {Q : Flow → Shared → Prop} {E : Value → Shared → Prop}

/-- the law's last statement -/
theorem tail21 {lb : Addr} {ys : List Value} {k : Nat} (K0 : Below callerA h₀ [] h₀) (X : (hd.heap_39 w.params).In h₀) (T : Top hd.view_39 loose0 mean mg mb h₀)
    (F : Fr h₀ L s.heap (fun y => if y = Str.ofString "beyond" then some (.ref lb) else if y = Str.ofString "text" then some (.str xt t4) else if y = Str.ofString "due" then some (valO due t2) else if y = Str.ofString "altsigns" then some vb else mr y))
    (N : News h₀ L s.heap [(lb, W.listOf ys.toArray k), (ll, W.listOf us.toArray cn), (L + 1, oc)]) (hI : IntsAre ys (beyondOf line)) (hlo : line.length ≤ 16)
    (H : ToldClaim w mean mg mb 135 [.str xt t4, vb, .bool false] (fun t => valO (if beyondOf line = [] then due else none) t))
    (post : ∀ (h' : Heap) (tk' : Nat) (m' : Str → Option Value), Fr h₀ L h' m' → Q (.ret (.bool true)) { s with heap := h', toks := tk' }) :
    wpAny (model Challenge.rw_qh0085_01.row.prog w) (callerA.deeper (lawEnv L fa cd)) (execs (lawParts.1.drop 21) (lawEnv L fa cd)) Q E s := by
  by_cases hb : beyondOf line = []
  · rw [if_pos hb] at H
    rw [hb] at hI
    obtain rfl := intsAre_nil hI
    rcases due with _ | ds
    · exact segG21n w mean mg mb K0 X T F N H post
    · exact segG21b w mean mg mb K0 X T F N H post
  · rw [if_neg hb] at H
    exact segG21x w mean mg mb K0 X T F N hI hb (Nat.le_trans (List.length_filter_le _ _) hlo) H post

/-- the law's last five statements -/
theorem tail17 (K0 : Below callerA h₀ [] h₀) (X : (hd.heap_39 w.params).In h₀) (T : Top hd.view_39 loose0 mean mg mb h₀)
    (F : Fr h₀ L s.heap (fun y => if y = Str.ofString "text" then some (.str xt t4) else if y = Str.ofString "octets" then some (.bytes ob t1) else if y = Str.ofString "due" then some (valO due t2) else if y = Str.ofString "size" then some (.int figs.length t3) else if y = Str.ofString "line" then some (.ref ll) else if y = Str.ofString "altsigns" then some vb else if y = Str.ofString "altchars" then some va else mr y))
    (N : News h₀ L s.heap [(ll, W.listOf us.toArray cn), (L + 1, oc)]) (hI : IntsAre us line) (hlo : line.length ≤ 16)
    (H1 : ToldClaim w mean mg mb 135 [.bytes ob t1, va, .bool false] (fun t => valO due t))
    (H2 : ToldClaim w mean mg mb 135 [.bytes ob t1, va, .bool true] (fun t => valO (if figs.length = line.length then due else none) t))
    (H3 : ToldClaim w mean mg mb 135 [.str xt t4, vb, .bool true] (fun t => valO (if figs.length = line.length then due else none) t))
    (H4 : ToldClaim w mean mg mb 135 [.str xt t4, vb, .bool false] (fun t => valO (if beyondOf line = [] then due else none) t))
    (post : ∀ (h' : Heap) (tk' : Nat) (m' : Str → Option Value), Fr h₀ L h' m' → Q (.ret (.bool true)) { s with heap := h', toks := tk' }) :
    wpAny (model Challenge.rw_qh0085_01.row.prog w) (callerA.deeper (lawEnv L fa cd)) (execs (lawParts.1.drop 17) (lawEnv L fa cd)) Q E s := by
  have fin20 : ∀ (h' : Heap) (tk' : Nat) (m' : Str → Option Value), Fr h₀ L h' (fun y => if y = Str.ofString "text" then some (.str xt t4) else if y = Str.ofString "due" then some (valO due t2) else if y = Str.ofString "line" then some (.ref ll) else if y = Str.ofString "altsigns" then some vb else m' y) →
      News h₀ L h' [(ll, W.listOf us.toArray cn), (L + 1, oc)] → wpAny (model Challenge.rw_qh0085_01.row.prog w) (callerA.deeper (lawEnv L fa cd)) (execs (lawParts.1.drop 20) (lawEnv L fa cd)) Q E { s with heap := h', toks := tk' } := by
    intro h' tk' m' F' N'
    refine go_on 20 1 ?_
    refine segG20 w mean mg mb K0 X T (Fr.pick F' (a := Str.ofString "line") (by with_unfolding_all rfl)) N' hI hlo ?_
    intro h2 tk2 lb ys k F2 N2 hY
    exact tail21 K0 X T (Fr.pick (Fr.pick (Fr.pick (Fr.pick F2 (a := Str.ofString "altsigns") (by with_unfolding_all rfl)) (a := Str.ofString "due") (by with_unfolding_all rfl)) (a := Str.ofString "text") (by with_unfolding_all rfl)) (a := Str.ofString "beyond") (by with_unfolding_all rfl)) N2 hY hlo H4 post
  have fin19 : ∀ (h' : Heap) (tk' : Nat) (m' : Str → Option Value), Fr h₀ L h' (fun y => if y = Str.ofString "narrow" then some (if figs.length = line.length then valO due t2 else .none) else if y = Str.ofString "text" then some (.str xt t4) else if y = Str.ofString "octets" then some (.bytes ob t1) else if y = Str.ofString "altsigns" then some vb else if y = Str.ofString "altchars" then some va else if y = Str.ofString "due" then some (valO due t2) else if y = Str.ofString "line" then some (.ref ll) else m' y) →
      News h₀ L h' [(ll, W.listOf us.toArray cn), (L + 1, oc)] → wpAny (model Challenge.rw_qh0085_01.row.prog w) (callerA.deeper (lawEnv L fa cd)) (execs (lawParts.1.drop 19) (lawEnv L fa cd)) Q E { s with heap := h', toks := tk' } := by
    intro h' tk' m' F' N'
    refine go_on 19 1 ?_
    by_cases hq : figs.length = line.length
    · rw [if_pos hq] at H2 H3
      rw [if_pos hq] at F'
      rcases due with _ | ds
      · exact segG19n w mean mg mb K0 X T F' N' H2 H3 fun h2 tk2 F2 N2 => fin20 _ _ _ (Fr.pick (Fr.pick (Fr.pick (Fr.pick F2 (a := Str.ofString "altsigns") (by with_unfolding_all rfl)) (a := Str.ofString "line") (by with_unfolding_all rfl)) (a := Str.ofString "due") (by with_unfolding_all rfl)) (a := Str.ofString "text") (by with_unfolding_all rfl)) N2
      · exact segG19b w mean mg mb K0 X T F' N' H2 H3 fun h2 tk2 F2 N2 => fin20 _ _ _ (Fr.pick (Fr.pick (Fr.pick (Fr.pick F2 (a := Str.ofString "altsigns") (by with_unfolding_all rfl)) (a := Str.ofString "line") (by with_unfolding_all rfl)) (a := Str.ofString "due") (by with_unfolding_all rfl)) (a := Str.ofString "text") (by with_unfolding_all rfl)) N2
    · rw [if_neg hq] at H2 H3
      rw [if_neg hq] at F'
      exact segG19n w mean mg mb K0 X T F' N' H2 H3 fun h2 tk2 F2 N2 => fin20 _ _ _ (Fr.pick (Fr.pick (Fr.pick (Fr.pick F2 (a := Str.ofString "altsigns") (by with_unfolding_all rfl)) (a := Str.ofString "line") (by with_unfolding_all rfl)) (a := Str.ofString "due") (by with_unfolding_all rfl)) (a := Str.ofString "text") (by with_unfolding_all rfl)) N2
  have fin18 : ∀ (h' : Heap) (tk' : Nat) (m' : Str → Option Value), Fr h₀ L h' (fun y => if y = Str.ofString "due" then some (valO due t2) else if y = Str.ofString "size" then some (.int figs.length t3) else if y = Str.ofString "line" then some (.ref ll) else if y = Str.ofString "text" then some (.str xt t4) else if y = Str.ofString "octets" then some (.bytes ob t1) else if y = Str.ofString "altsigns" then some vb else if y = Str.ofString "altchars" then some va else m' y) →
      News h₀ L h' [(ll, W.listOf us.toArray cn), (L + 1, oc)] → wpAny (model Challenge.rw_qh0085_01.row.prog w) (callerA.deeper (lawEnv L fa cd)) (execs (lawParts.1.drop 18) (lawEnv L fa cd)) Q E { s with heap := h', toks := tk' } := by
    intro h' tk' m' F' N'
    refine go_on 18 1 ?_
    refine segG18 w mean mg mb K0 X T F' N' hI hlo ?_
    intro h2 tk2 F2 N2
    exact fin19 _ _ _ (Fr.pick (Fr.pick (Fr.pick (Fr.pick (Fr.pick (Fr.pick (Fr.pick F2 (a := Str.ofString "line") (by with_unfolding_all rfl)) (a := Str.ofString "due") (by with_unfolding_all rfl)) (a := Str.ofString "altchars") (by with_unfolding_all rfl)) (a := Str.ofString "altsigns") (by with_unfolding_all rfl)) (a := Str.ofString "octets") (by with_unfolding_all rfl)) (a := Str.ofString "text") (by with_unfolding_all rfl)) (a := Str.ofString "narrow") (by with_unfolding_all rfl)) N2
  refine go_on 17 1 ?_
  have F1 := Fr.pick (Fr.pick (Fr.pick F (a := Str.ofString "altchars") (by with_unfolding_all rfl)) (a := Str.ofString "due") (by with_unfolding_all rfl)) (a := Str.ofString "octets") (by with_unfolding_all rfl)
  rcases due with _ | ds
  · refine segG17n w mean mg mb K0 X T F1 N H1 fun h2 tk2 F2 N2 => ?_
    exact fin18 _ _ _ (Fr.pick (Fr.pick (Fr.pick (Fr.pick (Fr.pick (Fr.pick (Fr.pick F2 (a := Str.ofString "altchars") (by with_unfolding_all rfl)) (a := Str.ofString "altsigns") (by with_unfolding_all rfl)) (a := Str.ofString "octets") (by with_unfolding_all rfl)) (a := Str.ofString "text") (by with_unfolding_all rfl)) (a := Str.ofString "line") (by with_unfolding_all rfl)) (a := Str.ofString "size") (by with_unfolding_all rfl)) (a := Str.ofString "due") (by with_unfolding_all rfl)) N2
  · refine segG17b w mean mg mb K0 X T F1 N H1 fun h2 tk2 F2 N2 => ?_
    exact fin18 _ _ _ (Fr.pick (Fr.pick (Fr.pick (Fr.pick (Fr.pick (Fr.pick (Fr.pick F2 (a := Str.ofString "altchars") (by with_unfolding_all rfl)) (a := Str.ofString "altsigns") (by with_unfolding_all rfl)) (a := Str.ofString "octets") (by with_unfolding_all rfl)) (a := Str.ofString "text") (by with_unfolding_all rfl)) (a := Str.ofString "line") (by with_unfolding_all rfl)) (a := Str.ofString "size") (by with_unfolding_all rfl)) (a := Str.ofString "due") (by with_unfolding_all rfl)) N2
end
end Mine
end

section
open PySem PySem.W PyProof.Rows PySem.Spec PySem.Calls
namespace Mine
section
variable {w : World} {mean : ExcName → Option Value} {mg mb : Str → Option Value} {L fa la : Addr} {cd : Value} {h₀ : Heap} {m : Str → Option Value} {s : Shared} {oc : Obj} {vs : List Value} {ns : List Int} {Q : Flow → Shared → Prop} {E : Value → Shared → Prop}

theorem pad_in (total : Int) (n : Nat) : 0 ≤ padOf total n ∧ padOf total n ≤ 3 := by
  obtain ⟨k, e, hk⟩ := padOf_nat total n
  rw [e]; omega

set_option maxRecDepth 100000 in
set_option maxHeartbeats 2000000 in
/-- from the picked pair on -/
theorem law_mid {ln lp : Addr} {nums : List Int} {nn : Nat} {p0 p1 : Int} {t0 t1 tt : Tok} (hp : Alt p0 p1)
    (K0 : Below callerA h₀ [] h₀) (X : (hd.heap_39 w.params).In h₀) (T : Top hd.view_39 loose0 mean mg mb h₀)
    (F : Fr h₀ L s.heap (fun y => if y = Str.ofString "total" then some (.int nums.sum tt) else if y = Str.ofString "numbers" then some (.ref ln) else m y))
    (N : News h₀ L s.heap [(lp, W.listOf #[.int p0 t0, .int p1 t1] 0), (ln, W.listOf vs.toArray nn), (L + 1, oc)]) (hoc : oc.data = .cell (some (.ref lp))) (hln : L + 1 < ln) (hlp : L + 1 < lp) (hI : IntsAre vs nums) (hn1 : 1 ≤ nums.length) (hn2 : nums.length ≤ 16)
    (post : ∀ (h' : Heap) (tk' : Nat) (m' : Str → Option Value), Fr h₀ L h' m' → Q (.ret (.bool true)) { s with heap := h', toks := tk' }) :
    wpAny (model Challenge.rw_qh0085_01.row.prog w) (callerA.deeper (lawEnv L fa cd)) (execs (lawParts.1.drop 4) (lawEnv L fa cd)) Q E s := by
  refine go_on 4 3 ?_
  refine segB2b w mean mg mb K0 X T F N hoc hln hlp hI hn1 hn2 hp.a0.1 hp.a0.2.1 hp.a1.1 hp.a1.2.1 ?_
  intro h1 tk1 lq va vb q0 q1 u0 u1 oc1 m1 hA F1 N1 hoc1 hlq
  have hq := alt_of hp hA
  refine go_on (s := { s with heap := h1, toks := tk1 }) 7 2 ?_
  refine segC1 w mean mg mb K0 X T F1 N1 hoc1 hln hlq hI hn1 hn2 ?_
  intro h2 tk2 lsg ll ws F2 N2 hS l1 l2 l3 l4
  refine go_on (s := { s with heap := h2, toks := tk2 }) 9 1 ?_
  refine segC2 w mean mg mb K0 X T F2 N2 hS l1 l2 l3 l4 hI hn1 hn2 ?_
  intro h3 tk3 us c m3 F3 N3 hU
  have hlen : (nums.map (codeOf (signsL q0 q1))).length = nums.length := List.length_map _
  have hok : ∀ x ∈ nums.map (codeOf (signsL q0 q1)), 0 ≤ x ∧ x < 256 ∧ x ≠ 61 := fun x hx => by
    obtain ⟨y, _, rfl⟩ := List.mem_map.mp hx
    exact codeOf_ok hq y
  revert hlen hok hU
  generalize nums.map (codeOf (signsL q0 q1)) = line
  intro hU hlen hok
  have hr : KBa.In line := fun x hx => ⟨(hok x hx).1, (hok x hx).2.1⟩
  refine go_on (s := { s with heap := h3, toks := tk3 }) 10 1 ?_
  refine segD w mean mg mb K0 X T F3 N3 hoc1 hU (by omega) (by omega) ?_
  intro h4 tk4 lf zs k F4 N4 hZ
  have hfl := figsOf_le q0 q1 line
  refine go_on (s := { s with heap := h4, toks := tk4 }) 11 2 ?_
  refine segD2 w mean mg mb (line := line) K0 X T F4 N4 hZ (by omega) ?_
  intro h5 tk5 t5 t6 F5 N5
  obtain ⟨hp0, hp3⟩ := pad_in nums.sum (figsOf q0 q1 line).length
  have hz : (octOf line (padOf nums.sum (figsOf q0 q1 line).length)).size ≤ 1000 := by rw [oct_size]; omega
  have c1 := claim_bf (w := w) (mean := mean) (mg := mg) (mb := mb) (total := nums.sum) hp hA hr (fun c hc => (hok c hc).2.2) hz
  have c2 := claim_bt (w := w) (mean := mean) (mg := mg) (mb := mb) (total := nums.sum) hp hA hr (fun c hc => (hok c hc).2.2) hz
  have c3 := claim_st (w := w) (mean := mean) (mg := mg) (mb := mb) (total := nums.sum) hp hA hr (fun c hc => (hok c hc).2.2) hz
  have c4 := claim_sf (w := w) (mean := mean) (mg := mg) (mb := mb) (total := nums.sum) hp hA hr (fun c hc => (hok c hc).2.2) hz
  revert hp0 hp3 hz c1 c2 c3 c4 F5
  generalize hfg : figsOf q0 q1 line = figs at *
  generalize padOf nums.sum figs.length = pd
  intro F5 hp0 hp3 hz c1 c2 c3 c4
  refine go_on (s := { s with heap := h5, toks := tk5 }) 13 2 ?_
  refine segE w mean mg mb K0 X T F5 N5 hZ (by omega) ?_
  intro h6 tk6 t7 m6 F6 N6
  refine go_on (s := { s with heap := h6, toks := tk6 }) 15 1 ?_
  refine segF1 w mean mg mb K0 X T (Fr.pick (Fr.pick (Fr.pick (Fr.pick (Fr.pick (Fr.pick F6 (a := Str.ofString "altchars") (by with_unfolding_all rfl)) (a := Str.ofString "altsigns") (by with_unfolding_all rfl)) (a := Str.ofString "line") (by with_unfolding_all rfl)) (a := Str.ofString "size") (by with_unfolding_all rfl)) (a := Str.ofString "pads") (by with_unfolding_all rfl)) (a := Str.ofString "due") (by with_unfolding_all rfl))
    (cb_drop N6 (fun p hp => .tail _ hp)) hU (fun x hx => hr x hx) (by omega) hp0 hp3 ?_
  intro h7 tk7 t8 F7 N7
  refine go_on (s := { s with heap := h7, toks := tk7 }) 16 1 ?_
  refine segF2 w mean mg mb K0 X T F7 N7 hz ?_
  intro h8 tk8 t9 F8 N8
  exact tail17 K0 X T (Fr.pick (Fr.pick (Fr.pick (Fr.pick (Fr.pick (Fr.pick (Fr.pick F8 (a := Str.ofString "altchars") (by with_unfolding_all rfl)) (a := Str.ofString "altsigns") (by with_unfolding_all rfl)) (a := Str.ofString "line") (by with_unfolding_all rfl)) (a := Str.ofString "size") (by with_unfolding_all rfl)) (a := Str.ofString "due") (by with_unfolding_all rfl)) (a := Str.ofString "octets") (by with_unfolding_all rfl)) (a := Str.ofString "text") (by with_unfolding_all rfl)) N8 hU (by omega) (c1 _) (c2 _) (c3 _) (c4 _) post

set_option maxRecDepth 100000 in
set_option maxHeartbeats 2000000 in
theorem law_all (K0 : Below callerA h₀ [] h₀) (X : (hd.heap_39 w.params).In h₀) (T : Top hd.view_39 loose0 mean mg mb h₀)
    (F : Fr h₀ L s.heap (fun y => if y = Str.ofString "script" then some (.ref la) else m y)) (N : News h₀ L s.heap [(L + 1, oc)]) (hoc : oc.data = .cell none) (hS : h₀.IsList la vs.toArray) (hI : IntsAre vs ns) (hn : ns.length ≤ 63)
    (post : ∀ (h' : Heap) (tk' : Nat) (m' : Str → Option Value), Fr h₀ L h' m' → Q (.ret (.bool true)) { s with heap := h', toks := tk' }) :
    wpAny (model Challenge.rw_qh0085_01.row.prog w) (callerA.deeper (lawEnv L fa cd)) (execs lawParts.1 (lawEnv L fa cd)) Q E s := by
  refine go_on (l := lawParts.1) 0 1 ?_
  refine segA w mean mg mb K0 X T F N hS hI hn ?_
  intro h1 tk1 ln us nums nn m1 F1 N1 hln hU hn1 hn2
  refine go_on (s := { s with heap := h1, toks := tk1 }) 1 2 ?_
  refine segB1 w mean mg mb K0 X T F1 N1 hln hU hn1 hn2 ?_
  intro h2 tk2 lo os tt m2 F2 N2 hO hlo
  refine go_on (s := { s with heap := h2, toks := tk2 }) 3 1 ?_
  refine segB2a w mean mg mb K0 X T F2 N2 hoc ⟨hln, hlo⟩ hU hO hn1 hn2 ?_
  intro h3 tk3 lp t0 t1 oc3 F3 N3 hoc3 hlp
  exact law_mid (alt_own nums.sum) K0 X T (Fr.pick (Fr.pick F3 (a := Str.ofString "numbers") (by with_unfolding_all rfl)) (a := Str.ofString "total") (by with_unfolding_all rfl)) N3 hoc3 hln hlp hU hn1 hn2 post
end
end Mine
end

open PySem PySem.W PyProof.Rows PySem.Spec PySem.Calls
set_option maxRecDepth 100000 in
set_option maxHeartbeats 8000000 in
theorem PySem.Challenge.cw_qh0085_01_holds : PySem.Challenge.rw_qh0085_01.Holds := by
  w_top off
  k_with_none
  refine Mine.hd ?_
  k_go0
  rename Below callerA _ [] _ => K0
  rename IntsAre _ _ => hI
  rename News _ _ _ _ => N0
  rename Fr _ _ _ _ => F0
  rename Heap.IsList _ _ _ => hS
  rename Frag.In _ _ => KX
  rename Top _ _ _ _ _ _ => T0
  rename _ = Data.cell _ => hoc
  rename ¬ ((63 : Int) < _) => hcond
  with_unfolding_all refine Mine.law_all K0 KX T0 (Mine.Fr.pick F0 (a := Str.ofString "script") (by with_unfolding_all rfl)) N0 hoc hS hI (by omega) ?_
  intro h' tk' m' F'
  k_steps
