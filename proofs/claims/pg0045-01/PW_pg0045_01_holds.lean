import PyProof.Rows.All
import Wide.All
import OpenK.AllK
import Wide.FinOn
import PySem.Challenge.RW_pg0045_01
set_option Elab.async false

section
open PySem PySem.W PyProof.Rows
set_option maxRecDepth 100000
set_option maxHeartbeats 8000000
namespace Mine
open_top hd for PySem.Challenge.rw_pg0045_01
end Mine
end

section
open PySem PySem.W PyProof.Rows PySem.Spec
set_option maxRecDepth 100000
set_option maxHeartbeats 4000000
namespace Mine
section
variable {prog : Program} {w : World} {A : Around} {E : Value → Shared → Prop} {s : Shared} {env : Env} {h₀ : Heap} {x : Str} {body orelse : List Stmt} {Q : Flow → Shared → Prop}

/-- a loop with an else part: as the library's LoopAtV, but the end runs the else part -/
def LoopAtE (prog : Program) (w : World) (A : Around) (h₀ : Heap) (env : Env) (x : Str) (body orelse : List Stmt) (Q : Flow → Shared → Prop) (it : Value) (s₂ : Shared) : Prop :=
  ∃ (I : Addr) (n : Nat) (P : Nat → Value → Prop) (St : Nat → Heap → Prop) (m : Str → Option Value) (news : List (Addr × Obj)) (J : Nat → (Str → Option Value) → List (Addr × Obj) → Prop),
    it = .ref I ∧ Walks prog w A I [I] [I] n P St ∧ env.locals ≠ I ∧ h₀.get? I = none ∧ (∀ p ∈ news, p.1 ≠ I) ∧ St 0 s₂.heap ∧ Fr h₀ env.locals s₂.heap m ∧ News h₀ env.locals s₂.heap news ∧ J 0 m news ∧
    (∀ i v m₁ news₁ h tk own, i < n → P i v → J i m₁ news₁ → (∀ p ∈ news₁, p.1 ≠ I) → (∀ p ∈ own, p.1 = I) →
      Fr h₀ env.locals h (fun y => if y = x then some v else m₁ y) → News h₀ env.locals h (news₁ ++ own) →
      wpAny (model prog w) A (execs body env) (fun f s' => match f with
        | .ret v => Q (.ret v) s'
        | .brk => Q .next s'
        | _ => ∃ h' tk' m' nx, s' = { s₂ with heap := h', toks := tk' } ∧ Fr h₀ env.locals h' m' ∧ News h₀ env.locals h' (nx ++ own) ∧ (∀ p ∈ nx, p.1 ≠ I) ∧ J (i + 1) m' nx) (fun _ _ => False) { s₂ with heap := h, toks := tk }) ∧
    ∀ h' tk m' news', Fr h₀ env.locals h' m' → News h₀ env.locals h' news' → J n m' news' → wpAny (model prog w) A (execs orelse env) Q (fun _ _ => False) { s₂ with heap := h', toks := tk }

theorem For_E {px pos : Pos} {iter : PySem.Expr} {m : Str → Option Value} (F : Fr h₀ env.locals s.heap m) (hx : env.kindOf x = some .local)
    (hp : (env.scope.kind == .class || (env.scope.kind == .module && env.locals != env.globals)) = false)
    (h : wpAny (model prog w) A (eval iter env) (fun xv s₁ => wpAny (model prog w) A (pyIter xv) (fun it s₂ => LoopAtE prog w A h₀ env x body orelse Q it s₂) E s₁) E s)
    (hs : ∀ x, foldedSetIterable iter env x = pure x := by intro _; rfl) :
    wpAny (model prog w) A (exec (.For (.Name x px) iter body orelse pos) env) Q E s := by
  clear F
  refine wpAny_For (wpAny_mono h (fun xv s₁ h₁ => wpAny_mono h₁ (fun it s₂ h₂ => ?_) fun _ _ e => e) fun _ _ e => e) hs
  obtain ⟨I, n, P, St, m, news, J, rfl, W, hLI, hI0, hnI, hst, F, N, h0, step, hend⟩ := h₂
  have old : ∀ b o, h₀.get? b = some o → b ≠ I := fun b o e hb => by rw [hb, hI0] at e; cases e
  refine codeAny_forLoop
    (fun k s' => ∃ h' tk m' news' i, s' = { s₂ with heap := h', toks := tk } ∧ St i h' ∧ Fr h₀ env.locals h' m' ∧ News h₀ env.locals h' news' ∧ (∀ p ∈ news', p.1 ≠ I) ∧ J i m' news' ∧ i ≤ n ∧ k = n + 1 - i) ?_ (n + 1)
    ⟨s₂.heap, s₂.toks, m, news, 0, rfl, hst, F, N, hnI, h0, Nat.zero_le _, rfl⟩
  rintro k s' ⟨h', tk, m', news', i, rfl, hst', F', N', hnI', hJ, hi, rfl⟩
  have next : ∀ h₁ : Heap, (∀ b o, b ∉ [I] → h'.get? b = some o → h₁.get? b = some o) → Fr h₀ env.locals h₁ m' ∧ News h₀ env.locals h₁ news' := fun h₁ hk₁ =>
    ⟨⟨F'.ns.at' fun o e => hk₁ _ o (by simpa using hLI) e, fun b o e => hk₁ b o (by simpa using old b o e) (F'.keep b o e), F'.above⟩, fun p hp => ⟨hk₁ _ _ (by simpa using hnI' p hp) (N' p hp).1, (N' p hp).2⟩⟩
  by_cases hlt : i < n
  · refine W.item i _ _ _ hlt hst' fun v h₁ tk₁ hP hst₁ hk₁ => ?_
    obtain ⟨F₁, N₁⟩ := next h₁ hk₁
    refine wpAny_noRaise (wpAny_assign_Name (wpAny_storeName_local hx F₁.ns (fun h₂ hn₂ hs₂ => ?_) hp))
    have F₂ := F₁.set hn₂ hs₂
    have hLf : env.locals ∉ [I] := by simpa using hLI
    have Nown : News h₀ env.locals h₂ (ownOf h₀ [I] h₂) := news_ownOf hLf
    have N₂ : News h₀ env.locals h₂ (news' ++ ownOf h₀ [I] h₂) := fun p hp => (List.mem_append.mp hp).elim ((N₁.set hs₂) p) (Nown p)
    refine wpAny_noRaise (wpAny_mono (step i v m' news' h₂ _ (ownOf h₀ [I] h₂) hlt hP hJ hnI' (fun p hp => List.mem_singleton.mp (ownOf_sub p hp)) F₂ N₂) (fun f s₃ h₃ => ?_) fun _ _ e => e)
    have fin : (∃ h' tk' m' nx, s₃ = { s₂ with heap := h', toks := tk' } ∧ Fr h₀ env.locals h' m' ∧ News h₀ env.locals h' (nx ++ ownOf h₀ [I] h₂) ∧ (∀ p ∈ nx, p.1 ≠ I) ∧ J (i + 1) m' nx) →
        ∃ m, m < n + 1 - i ∧ ∃ h' tk m' news' i, s₃ = { s₂ with heap := h', toks := tk } ∧ St i h' ∧ Fr h₀ env.locals h' m' ∧ News h₀ env.locals h' news' ∧ (∀ p ∈ news', p.1 ≠ I) ∧ J i m' news' ∧ i ≤ n ∧ m = n + 1 - i := by
      rintro ⟨h₃', tk₃, m₂, nx, rfl, F₃, N₃, ha₃, hJ₃⟩
      refine ⟨n + 1 - (i + 1), by omega, h₃', tk₃, m₂, nx, i + 1, rfl, ?_, F₃, (fun p hp => N₃ p (List.mem_append.mpr (.inl hp))), ha₃, hJ₃, hlt, rfl⟩
      refine W.frame _ _ _ hst₁ fun b hb o e => ?_
      have e₂ : h₂.get? b = some o := (hs₂.2 b fun q => hLf (q ▸ hb)).trans e
      have hbI : b = I := List.mem_singleton.mp hb
      exact (N₃ _ (List.mem_append_right _ (mem_ownOf hb (hbI ▸ hI0) e₂))).1
    cases f with
    | ret v => exact h₃
    | brk => exact h₃
    | cont => exact fin h₃
    | next => exact fin h₃
  · have hin : i = n := by omega
    subst hin
    refine W.done _ _ _ hst' fun h₁ tk₁ hk₁ => ?_
    obtain ⟨F₁, N₁⟩ := next h₁ hk₁
    exact wpAny_noRaise (hend h₁ tk₁ m' news' F₁ N₁ hJ)
end
end Mine
end

section
open PySem PySem.W PyProof.Rows PySem.Spec
set_option maxRecDepth 100000
namespace Mine
def flagNames : List Str := [Str.ofString "OPTIMIZED", Str.ofString "NEWLOCALS", Str.ofString "VARARGS", Str.ofString "VARKEYWORDS", Str.ofString "NESTED", Str.ofString "GENERATOR", Str.ofString "NOFREE", Str.ofString "COROUTINE", Str.ofString "ITERABLE_COROUTINE", Str.ofString "ASYNC_GENERATOR"]
def wordOf (i : Nat) : Str := match flagNames[i]? with
  | some x => x
  | none => baseText "0x" 16 (2 ^ i)
def bitOf (x : Int) (i : Nat) : Bool := decide (x / 2 ^ i % 2 = 1)
def restAt (x : Int) (i : Nat) : Int := x - x % 2 ^ i
def wordsAt (x : Int) (i : Nat) : List Str := ((List.range i).filter (bitOf x)).map wordOf
def wordsOf (x : Int) : List Str := if restAt x 32 = 0 ∧ x ≠ 0 then wordsAt x 32 else wordsAt x 32 ++ [baseText "0x" 16 (restAt x 32)]
def pf (x : Int) : Str := Txt.join (Str.ofString ", ") (wordsOf x)

theorem wordsAt_zero (x : Int) : wordsAt x 0 = [] := rfl
theorem wordsAt_pos {x : Int} {i : Nat} (h : bitOf x i = true) : wordsAt x (i + 1) = wordsAt x i ++ [wordOf i] := by
  unfold wordsAt
  rw [List.range_succ, List.filter_append, List.map_append, List.filter_cons, if_pos h]
  rfl
theorem wordsAt_neg {x : Int} {i : Nat} (h : bitOf x i = false) : wordsAt x (i + 1) = wordsAt x i := by
  unfold wordsAt
  rw [List.range_succ, List.filter_append, List.map_append, List.filter_cons, if_neg (by rw [h]; exact Bool.false_ne_true)]
  simp
theorem wordsAt_length (x : Int) (i : Nat) : (wordsAt x i).length ≤ i := by
  unfold wordsAt
  rw [List.length_map]
  exact Nat.le_trans (List.length_filter_le _ _) (by rw [List.length_range]; exact Nat.le_refl _)

theorem restAt_zero (x : Int) : restAt x 0 = x := by
  unfold restAt
  rw [show (2 : Int) ^ 0 = 1 from rfl, Int.emod_one]
  omega
theorem restAt_eq (x : Int) (i : Nat) : restAt x i = 2 ^ i * (x / 2 ^ i) := by
  unfold restAt
  have := Int.emod_def x (2 ^ i)
  omega
theorem restAt_div (x : Int) (i : Nat) : restAt x i / 2 ^ i = x / 2 ^ i := by
  rw [restAt_eq]
  exact Int.mul_ediv_cancel_left _ (Int.ne_of_gt (kbt_pos i))
/-- x by 2^(i+1) -/
theorem div_half (x : Int) (i : Nat) : x / 2 ^ (i + 1) = x / 2 ^ i / 2 := by
  rw [Int.pow_succ, Int.ediv_ediv_of_nonneg (Int.le_of_lt (kbt_pos i))]
theorem restAt_succ (x : Int) (i : Nat) : restAt x (i + 1) = restAt x i - (x / 2 ^ i % 2) * 2 ^ i := by
  rw [restAt_eq, restAt_eq, div_half, Int.pow_succ]
  have h := Int.emod_def (x / 2 ^ i) 2
  generalize x / 2 ^ i / 2 = q at *
  generalize x / 2 ^ i = y at *
  rw [h, Int.sub_mul, Int.mul_comm (2 ^ i) y, Int.mul_assoc]
  have : 2 * q * 2 ^ i = 2 ^ i * (2 * q) := Int.mul_comm _ _
  omega
theorem bit_cases (x : Int) (i : Nat) : (bitOf x i = true ∧ x / 2 ^ i % 2 = 1) ∨ (bitOf x i = false ∧ x / 2 ^ i % 2 = 0) := by
  unfold bitOf
  by_cases h : x / 2 ^ i % 2 = 1
  · exact .inl ⟨decide_eq_true h, h⟩
  · exact .inr ⟨decide_eq_false h, by omega⟩
theorem and_bit (x : Int) (i : Nat) : Builtin.bitAnd (restAt x i) (1 * 2 ^ ((i : Nat) : Int).toNat) = (x / 2 ^ i % 2) * 2 ^ i := by
  rw [Int.one_mul, Int.toNat_natCast, kbt_bit, restAt_div]
theorem bit_of_and {x : Int} {i : Nat} (h : Builtin.bitAnd (restAt x i) (1 * 2 ^ ((i : Nat) : Int).toNat) ≠ 0) : bitOf x i = true := by
  rcases bit_cases x i with ⟨a, _⟩ | ⟨_, b⟩
  · exact a
  · rw [and_bit, b, Int.zero_mul] at h; exact absurd rfl h
theorem nobit_of_and {x : Int} {i : Nat} (h : Builtin.bitAnd (restAt x i) (1 * 2 ^ ((i : Nat) : Int).toNat) = 0) : bitOf x i = false := by
  rcases bit_cases x i with ⟨_, b⟩ | ⟨a, _⟩
  · rw [and_bit, b, Int.one_mul] at h; exact absurd h (Int.ne_of_gt (kbt_pos i))
  · exact a
theorem xor_bit {x : Int} {i : Nat} (h : bitOf x i = true) : Builtin.bitXor (restAt x i) (1 * 2 ^ ((i : Nat) : Int).toNat) = restAt x (i + 1) := by
  have hb : x / 2 ^ i % 2 = 1 := by
    rcases bit_cases x i with ⟨_, b⟩ | ⟨a, _⟩
    · exact b
    · rw [h] at a; cases a
  rw [bitXor_and, and_bit, restAt_succ, hb, Int.one_mul, Int.one_mul, Int.toNat_natCast]
  omega
theorem restAt_nobit {x : Int} {i : Nat} (h : bitOf x i = false) : restAt x (i + 1) = restAt x i := by
  have hb : x / 2 ^ i % 2 = 0 := by
    rcases bit_cases x i with ⟨a, _⟩ | ⟨_, b⟩
    · rw [h] at a; cases a
    · exact b
  rw [restAt_succ, hb, Int.zero_mul]
  omega
/-- what is above stays nought -/
theorem above_zero {x : Int} {i : Nat} (h : restAt x i = 0) : ∀ k, x / 2 ^ (i + k) = 0
  | 0 => by
    have h1 := restAt_div x i
    rw [h, Int.zero_ediv] at h1
    exact h1.symm
  | k + 1 => by
    have := above_zero h k
    rw [← Nat.add_assoc, div_half, this]
    rfl
theorem wordsAt_above {x : Int} {i : Nat} (h : restAt x i = 0) : ∀ k, wordsAt x (i + k) = wordsAt x i ∧ restAt x (i + k) = 0
  | 0 => ⟨rfl, h⟩
  | k + 1 => by
    obtain ⟨a, b⟩ := wordsAt_above h k
    have hn : bitOf x (i + k) = false := by
      unfold bitOf
      rw [above_zero h k]
      rfl
    rw [← Nat.add_assoc]
    exact ⟨(wordsAt_neg hn).trans a, (restAt_nobit hn).trans b⟩
theorem wordsOf_broken {x : Int} {i : Nat} (hi : i < 32) (hb : bitOf x i = true) (h : restAt x (i + 1) = 0) : wordsOf x = wordsAt x i ++ [wordOf i] := by
  obtain ⟨a, b⟩ := wordsAt_above h (32 - (i + 1))
  have e : i + 1 + (32 - (i + 1)) = 32 := by omega
  rw [e] at a b
  unfold wordsOf
  have hx : x ≠ 0 := by
    rintro rfl
    unfold bitOf at hb
    rw [Int.zero_ediv] at hb
    cases hb
  rw [if_pos ⟨b, hx⟩, a, wordsAt_pos hb]
theorem wordsOf_whole {x : Int} (h : restAt x 32 = 0 → x = 0) : wordsOf x = wordsAt x 32 ++ [baseText "0x" 16 (restAt x 32)] := by
  unfold wordsOf
  rw [if_neg fun c => c.2 (h c.1)]
theorem restAt_bound {x : Int} (h : -2 ^ 40 ≤ x ∧ x ≤ 2 ^ 40) : (restAt x 32).natAbs < 18446744073709551616 := by
  unfold restAt
  have h1 := Int.emod_nonneg x (show (2 : Int) ^ 32 ≠ 0 by decide)
  have h2 := Int.emod_lt_of_pos x (show (0 : Int) < 2 ^ 32 by decide)
  omega
theorem baseText_len20 {i : Int} (h : i.natAbs < 18446744073709551616) : (baseText "0x" 16 i).length ≤ 19 := by
  have e : (16 : Nat) ^ 16 = 18446744073709551616 := by decide
  have h1 := toDigits_len_pow (b := 16) (k := 16) (n := i.natAbs) (by decide) (by decide) (by rw [e]; exact h)
  have h5 := ofString_ofList_length (Nat.toDigits 16 i.natAbs)
  unfold baseText
  rw [Str.length_append, Str.length_append, h5]
  have h3 : (Str.ofString (if i < 0 then "-" else "")).length ≤ 1 := by
    split <;> (rw [PyProof.Rows.ofString_len]; decide)
  have h4 : (Str.ofString "0x").length = 2 := by rw [PyProof.Rows.ofString_len]; decide
  omega
theorem wordOf_len {i : Nat} (hi : i < 32) : (wordOf i).length ≤ 19 := by
  unfold wordOf
  split
  · rename_i y e
    have hm := List.mem_of_getElem? e
    have : ∀ z ∈ flagNames, z.length ≤ 19 := by decide
    exact this y hm
  · refine baseText_len20 ?_
    rw [Int.natAbs_pow]
    exact Nat.lt_of_le_of_lt (Nat.pow_le_pow_right (by decide) (Nat.le_of_lt hi)) (by decide)
theorem wordsAt_len (x : Int) {n : Nat} (hn : n ≤ 32) : ∀ y ∈ wordsAt x n, y.length ≤ 19 := by
  intro y hy
  unfold wordsAt at hy
  obtain ⟨i, hi, rfl⟩ := List.mem_map.mp hy
  have := List.mem_range.mp (List.mem_filter.mp hi).1
  exact wordOf_len (by omega)
theorem wordsOf_len {x : Int} (h : -2 ^ 40 ≤ x ∧ x ≤ 2 ^ 40) : ∀ y ∈ wordsOf x, y.length ≤ 19 := by
  intro y hy
  unfold wordsOf at hy
  split at hy
  · exact wordsAt_len x (Nat.le_refl _) y hy
  · rcases List.mem_append.mp hy with hy | hy
    · exact wordsAt_len x (Nat.le_refl _) y hy
    · rw [List.mem_singleton.mp hy]
      exact baseText_len20 (restAt_bound h)
theorem wordsOf_length (x : Int) : (wordsOf x).length ≤ 33 := by
  have := wordsAt_length x 32
  unfold wordsOf
  split
  · omega
  · rw [List.length_append]; simp only [List.length_cons, List.length_nil]; omega
theorem sum_lens {b : Nat} : ∀ {l : List Str}, (∀ y ∈ l, y.length ≤ b) → (l.map (·.length)).sum ≤ l.length * b
  | [], _ => by simp
  | y :: r, h => by
    have h1 := h y (.head _)
    have h2 := sum_lens (l := r) fun z hz => h z (.tail _ hz)
    simp only [List.map_cons, List.sum_cons, List.length_cons, Nat.succ_mul]
    omega
theorem joinOk_few {l : List Str} (h1 : ∀ y ∈ l, y.length ≤ 19) (h2 : l.length ≤ 33) : JoinOk (Str.ofString ", ") l = true := by
  refine joinOk_of ?_
  have h3 := sum_lens h1
  have h4 : (Str.ofString ", ").length = 2 := by rw [PyProof.Rows.ofString_len]; decide
  rw [h4]
  omega
theorem joinOk_wordsOf {x : Int} (h : -2 ^ 40 ≤ x ∧ x ≤ 2 ^ 40) : JoinOk (Str.ofString ", ") (wordsOf x) = true := joinOk_few (wordsOf_len h) (wordsOf_length x)
def gW (x : Int) (l : List Int) (k : Int) : List Int := if (x.fdiv (2 ^ k.toNat)).fmod 2 = 1 then l ++ [2 ^ k.toNat] else l
theorem gW_grows (x : Int) : KPfGrows (gW x) := by
  intro l k
  unfold gW
  split
  · rw [List.length_append]; simp
  · omega
def worthsAll (x : Int) : List Int := (rangeKs 0 32).foldl (gW x) []
def worthsOf (x : Int) : List Int := if (x.fdiv (2 ^ 32) * 2 ^ 32 ≠ 0 ∨ x = 0) then worthsAll x ++ [x.fdiv (2 ^ 32) * 2 ^ 32] else worthsAll x
end Mine
end

section
open PySem PySem.W PyProof.Rows PySem.Spec
set_option maxRecDepth 100000
namespace Mine
/-- the places below 32 that are set -/
def placesOf (x : Int) : List Nat := (List.range 32).filter (bitOf x)
def pow2 (i : Nat) : Int := 2 ^ i
theorem fdiv_pow (x : Int) (i : Nat) : x.fdiv (2 ^ i) = x / 2 ^ i := Int.fdiv_eq_ediv_of_nonneg _ (Int.le_of_lt (kbt_pos i))
theorem gW_nat (x : Int) (l : List Int) (i : Nat) : gW x l (0 + (i : Int)) = if bitOf x i = true then l ++ [pow2 i] else l := by
  have e : (0 + (i : Int)).toNat = i := by omega
  unfold gW bitOf pow2
  rw [e, fdiv_pow, Int.fmod_eq_emod_of_nonneg _ (by decide)]
  by_cases h : x / 2 ^ i % 2 = 1
  · rw [if_pos h, if_pos (decide_eq_true h)]
  · rw [if_neg h, if_neg (by rw [decide_eq_true_eq]; exact h)]
theorem fold_gW (x : Int) : ∀ n : Nat, (rangeKs 0 n).foldl (gW x) [] = ((List.range n).filter (bitOf x)).map pow2
  | 0 => rfl
  | n + 1 => by
    have ih := fold_gW x n
    unfold rangeKs at ih ⊢
    rw [List.range_succ, List.map_append, List.foldl_append, ih, List.filter_append, List.map_append]
    show gW x _ (0 + (n : Int)) = _
    rw [gW_nat]
    by_cases h : bitOf x n = true
    · rw [if_pos h, List.filter_cons, if_pos h]; rfl
    · rw [if_neg h, List.filter_cons, if_neg h]; simp
def lastW (x : Int) : List Str := if restAt x 32 = 0 ∧ x ≠ 0 then [] else [baseText "0x" 16 (restAt x 32)]
def lastC (x : Int) : List Int := if restAt x 32 = 0 ∧ x ≠ 0 then [] else [restAt x 32]
theorem wordsOf_eq (x : Int) : wordsOf x = (placesOf x).map wordOf ++ lastW x := by
  unfold wordsOf lastW wordsAt placesOf
  split <;> simp
theorem worthsOf_eq (x : Int) : worthsOf x = (placesOf x).map pow2 ++ lastC x := by
  have e : x.fdiv (2 ^ 32) * 2 ^ 32 = restAt x 32 := by rw [fdiv_pow, restAt_eq]; exact Int.mul_comm _ _
  unfold worthsOf lastC worthsAll placesOf
  rw [fold_gW, e]
  by_cases h : restAt x 32 = 0 ∧ x ≠ 0
  · rw [if_pos h, if_neg (fun c => c.elim (fun c => c h.1) h.2), List.append_nil]
  · rw [if_neg h, if_pos (by
      by_cases c : restAt x 32 = 0
      · exact .inr (Classical.byContradiction fun d => h ⟨c, d⟩)
      · exact .inl c)]
theorem last_len (x : Int) : (lastC x).length = (lastW x).length := by
  unfold lastC lastW
  split <;> rfl
theorem worths_len (x : Int) : (worthsOf x).length = (wordsOf x).length := by
  rw [worthsOf_eq, wordsOf_eq, List.length_append, List.length_append, List.length_map, List.length_map, last_len]

/-- no comma, dot, colon, line end -/
def CleanC (c : Nat) : Bool := c != 44 && c != 46 && c != 58 && c != 10
def CleanS (y : Str) : Bool := y.cps.toList.all CleanC
theorem cleanS_append {a b : Str} (ha : CleanS a = true) (hb : CleanS b = true) : CleanS (a ++ b) = true := by
  unfold CleanS at *
  rw [Str.cps_append, Array.toList_append, List.all_append, ha, hb]
  rfl
theorem digit_clean : ∀ d : Nat, d < 16 → CleanC (Nat.digitChar d).toNat = true := by decide
theorem digitsCore_clean : ∀ (fuel n : Nat) (acc : List Char), (∀ c ∈ acc, CleanC c.toNat = true) → ∀ c ∈ Nat.toDigitsCore 16 fuel n acc, CleanC c.toNat = true
  | 0, _, acc, h => by simpa [Nat.toDigitsCore] using h
  | fuel + 1, n, acc, h => by
    have hd : CleanC (Nat.digitChar (n % 16)).toNat = true := digit_clean _ (Nat.mod_lt _ (by decide))
    have h' : ∀ c ∈ Nat.digitChar (n % 16) :: acc, CleanC c.toNat = true := fun c hc => (List.mem_cons.mp hc).elim (fun e => e ▸ hd) (h c)
    unfold Nat.toDigitsCore
    dsimp only
    split
    · exact h'
    · exact digitsCore_clean fuel _ _ h'
theorem base_clean (i : Int) : CleanS (baseText "0x" 16 i) = true := by
  unfold baseText
  refine cleanS_append (cleanS_append ?_ (by decide)) ?_
  · split <;> decide
  · unfold CleanS
    rw [Str.ofString_eq_toList, List.toList_toArray, List.all_eq_true]
    intro c hc
    obtain ⟨d, hd, rfl⟩ := List.mem_map.mp hc
    rw [String.toList_ofList] at hd
    exact digitsCore_clean _ _ [] (fun _ h => nomatch h) d hd
theorem wordOf_clean (i : Nat) : CleanS (wordOf i) = true := by
  unfold wordOf
  split
  · rename_i y e
    have hm := List.mem_of_getElem? e
    have : ∀ z ∈ flagNames, CleanS z = true := by decide
    exact this y hm
  · exact base_clean _
theorem words_clean (x : Int) : ∀ y ∈ wordsOf x, CleanS y = true := by
  intro y hy
  rw [wordsOf_eq] at hy
  rcases List.mem_append.mp hy with h | h
  · obtain ⟨i, _, rfl⟩ := List.mem_map.mp h
    exact wordOf_clean i
  · unfold lastW at h
    split at h
    · cases h
    · rw [List.mem_singleton.mp h]; exact base_clean _
theorem wordsOf_ne (x : Int) : wordsOf x ≠ [] := by
  intro h
  have h1 := wordsOf_eq x
  rw [h] at h1
  have h2 := (List.append_eq_nil_iff.mp h1.symm)
  have h3 : placesOf x = [] := List.map_eq_nil_iff.mp h2.1
  have h4 : restAt x 32 = 0 ∧ x ≠ 0 := by
    have := h2.2
    unfold lastW at this
    split at this
    · assumption
    · cases this
  have h5 : ∀ n, n ≤ 32 → restAt x n = x := by
    intro n
    induction n with
    | zero => intro _; exact restAt_zero x
    | succ n ih =>
      intro hn
      have hb : bitOf x n = false := by
        cases hc : bitOf x n with
        | false => rfl
        | true =>
          have : n ∈ placesOf x := List.mem_filter.mpr ⟨List.mem_range.mpr (by omega), hc⟩
          rw [h3] at this
          cases this
      rw [restAt_nobit hb]
      exact ih (by omega)
  exact h4.2 ((h5 32 (Nat.le_refl _)).symm.trans h4.1)

section
open PySem.StrLaws PySem.Builtin.Str
/-- ", " at a place -/
theorem at_sep {x : Str} {i : Nat} : At x (Str.ofString ", ") x.length i ↔ (x.cps.toList.drop i).take 2 = [44, 32] := by
  unfold At
  have e1 : (Str.ofString ", ").length = 2 := by decide
  have e2 : (Str.ofString ", ").cps.toList = [44, 32] := by decide
  rw [subAt_eq, e1, e2, beq_iff_eq]
  constructor
  · exact fun h => h.2
  · intro h
    refine ⟨?_, h⟩
    have := congrArg List.length h
    simp only [List.length_take, List.length_drop, List.length_cons, List.length_nil] at this
    have e3 : x.length = x.cps.toList.length := by simp [Str.length]
    omega
theorem drop_in {α : Type} {L w r : List α} {a k : Nat} (h : L.drop a = w ++ r) (h1 : a ≤ k) (h2 : k < a + w.length) : ∃ c l, L.drop k = c :: l ∧ c ∈ w := by
  have e : L.drop k = (L.drop a).drop (k - a) := by rw [List.drop_drop]; congr 1; omega
  rw [h, List.drop_append_of_le_length (by omega)] at e
  have hl : k - a < w.length := by omega
  rw [List.drop_eq_getElem_cons hl] at e
  exact ⟨_, _, e, List.getElem_mem _⟩
theorem no_sep_in {x : Str} {w r : List Nat} {a k : Nat} (h : x.cps.toList.drop a = w ++ r) (hw : w.all CleanC = true) (h1 : a ≤ k) (h2 : k < a + w.length) : ¬ At x (Str.ofString ", ") x.length k := by
  rw [at_sep]
  obtain ⟨c, l, e, hc⟩ := drop_in h h1 h2
  rw [e]
  intro hh
  have : c = 44 := by
    cases l with
    | nil => cases hh
    | cons d l => exact (List.cons.inj hh).1
  have hc' := List.all_eq_true.mp hw c hc
  rw [this] at hc'
  exact absurd hc' (by decide)
theorem str_eq {a b : Str} (h : a.cps.toList = b.cps.toList) : a = b := Str.ext' (Array.toList_inj.mp h)
theorem join_more (w y : Str) (r : List Str) : (Str.join (Str.ofString ", ") (w :: y :: r)).cps.toList = w.cps.toList ++ ([44, 32] ++ (Str.join (Str.ofString ", ") (y :: r)).cps.toList) := by
  show (w ++ Str.ofString ", " ++ Str.join (Str.ofString ", ") (y :: r)).cps.toList = _
  rw [Str.cps_append, Str.cps_append, Array.toList_append, Array.toList_append, List.append_assoc]
  have e : (Str.ofString ", ").cps.toList = [44, 32] := by decide
  rw [e]
theorem parts_of_join (x : Str) : ∀ (ws : List Str) (a f : Nat) (cuts : List Nat), ws ≠ [] → (∀ y ∈ ws, CleanS y = true) → x.cps.toList.drop a = (Str.join (Str.ofString ", ") ws).cps.toList →
    ChainG x (Str.ofString ", ") x.length a cuts f → (∀ k, f ≤ k → ¬ At x (Str.ofString ", ") x.length k) → partsFrom x 2 a cuts = ws
  | [], _, _, _, h, _, _, _, _ => absurd rfl h
  | [w], a, f, cuts, _, hc, hd, hG, hn => by
    have hw := hc w (.head _)
    have hd' : x.cps.toList.drop a = w.cps.toList ++ [] := by rw [List.append_nil]; exact hd
    have hlen : x.length = x.cps.toList.length := by simp [Str.length]
    have hL : x.cps.toList.length - a = w.cps.toList.length := by
      have := congrArg List.length hd
      rw [List.length_drop] at this
      exact this
    have none : ∀ k, a ≤ k → ¬ At x (Str.ofString ", ") x.length k := by
      intro k hk
      by_cases h : k < a + w.cps.toList.length
      · exact no_sep_in hd' hw hk h
      · rw [at_sep, List.drop_eq_nil_of_le (by omega)]
        intro h'
        cases h'
    cases cuts with
    | cons c r => exact absurd hG.2.1 (none c hG.1)
    | nil =>
      show [strSub x a x.length] = [w]
      congr 1
      apply str_eq
      rw [strSub_toList, hd, hlen, hL]
      exact List.take_of_length_le (Nat.le_refl _)
  | w :: y :: r, a, f, cuts, _, hc, hd, hG, hn => by
    have hw := hc w (.head _)
    rw [join_more] at hd
    have hat : At x (Str.ofString ", ") x.length (a + w.cps.toList.length) := by
      rw [at_sep, ← List.drop_drop, hd, List.drop_left]
      rfl
    cases cuts with
    | nil =>
      have e : f = a := hG
      exact absurd hat (hn _ (by omega))
    | cons c q =>
      obtain ⟨h1, h2, h3, h4⟩ := hG
      have hc1 : c = a + w.cps.toList.length := by
        rcases Nat.lt_trichotomy c (a + w.cps.toList.length) with h | h | h
        · exact absurd h2 (no_sep_in hd hw h1 h)
        · exact h
        · exact absurd hat (h3 _ (by omega) h)
      have hd2 : x.cps.toList.drop (c + 2) = (Str.join (Str.ofString ", ") (y :: r)).cps.toList := by
        rw [hc1, Nat.add_assoc, ← List.drop_drop, hd, ← List.drop_drop, List.drop_left]
        rfl
      have ih := parts_of_join x (y :: r) (c + 2) f q (by simp) (fun z hz => hc z (.tail _ hz)) hd2 h4 hn
      show strSub x a c :: partsFrom x 2 (c + 2) q = _
      rw [ih]
      congr 1
      apply str_eq
      rw [strSub_toList, hd, hc1, Nat.add_sub_cancel_left]
      exact List.take_left
theorem split_join {ws : List Str} (h0 : ws ≠ []) (hc : ∀ y ∈ ws, CleanS y = true) : Txt.split (Str.join (Str.ofString ", ") ws) (Str.ofString ", ") = ws := by
  obtain ⟨f, hG, hn⟩ := occ_tight (Str.join (Str.ofString ", ") ws) (Str.ofString ", ") (by decide)
  have key := parts_of_join _ ws 0 f _ h0 hc rfl hG hn
  have e2 : (Str.ofString ", ").length = 2 := by decide
  unfold Txt.split
  generalize Str.join (Str.ofString ", ") ws = x at *
  have one : (∀ i, ¬ At x (Str.ofString ", ") x.length i) → [x] = ws := by
    intro hno
    cases hcu : occurrences x (Str.ofString ", ") 0 x.length (x.length + 1) with
    | nil =>
      rw [hcu] at key
      rw [← key]
      show [x] = [strSub x 0 x.length]
      rw [sub_whole]
    | cons c r =>
      rw [hcu] at hG
      exact absurd hG.2.1 (hno c)
  split
  · rename_i hcond
    rw [Bool.or_eq_true, decide_eq_true_eq, decide_eq_true_eq] at hcond
    rcases hcond with h | h
    · exact one fun i hi => by have := hi.1; omega
    · have hk : Builtin.Str.strKind (Str.ofString ", ") = 1 := by decide +kernel
      have hx : 1 ≤ Builtin.Str.strKind x := by
        unfold Builtin.Str.strKind
        split
        · omega
        · split <;> omega
      omega
  · split
    · rename_i he
      rw [List.isEmpty_iff.mp he] at key
      rw [← key]
      show [x] = [strSub x 0 x.length]
      rw [sub_whole]
    · rw [partsBetween_eq, e2]
      exact key
end
theorem split_pf (x : Int) : Txt.split (pf x) (Str.ofString ", ") = wordsOf x := by
  unfold pf Txt.join
  rw [StrLaws.glued_eq_join]
  exact split_join (wordsOf_ne x) (words_clean x)
theorem pf_length {x : Int} (hx : -2 ^ 40 ≤ x ∧ x ≤ 2 ^ 40) : (pf x).length ≤ 1000 := by
  have h1 := sum_lens (wordsOf_len hx)
  have h2 := wordsOf_length x
  have h4 : (Str.ofString ", ").length = 2 := by rw [PyProof.Rows.ofString_len]; decide
  unfold pf Txt.join
  rw [StrLaws.glued_eq_join]
  have h3 := StrLaws.join_length_le (Str.ofString ", ") (wordsOf x)
  rw [h4] at h3
  omega
end Mine
end

section
open PySem PySem.W PyProof.Rows PySem.Spec
set_option maxRecDepth 100000
namespace Mine
/-- the state of the law's second loop -/
structure LSt where
  text : Str
  parts : List (Int × Int × Int)
  begin : Int
  total : Int
def preOf (X : Int) : Str := [Str.ofString "", Str.ofString ".", Str.ofString "dis."].getD (X.fmod 3).toNat Str.empty
def sufOf (X : Int) : Str := [Str.ofString ": 1.5", Str.ofString "", Str.ofString "\n.:"].getD ((X.fdiv 3).fmod 3).toNat Str.empty
def cutOf (X : Int) (k : Nat) : Int := (X.fdiv ((k : Int) + 2) + 5 * (k : Int)).fmod 12
/-- one turn: ws the words, cs their worths -/
def stepL (X : Int) (ws : List Str) (cs : List Int) (k : Nat) (st : LSt) : LSt :=
  if (k : Int) + 1 = (ws.length : Int) then ⟨st.text ++ ws.getD k Str.empty ++ sufOf X, st.parts ++ [(st.begin, -1, st.total + cs.getD k 0)], st.begin, st.total + cs.getD k 0⟩
  else if cutOf X k < 8 then ⟨st.text ++ ws.getD k Str.empty ++ Str.ofString ", ", st.parts, st.begin, st.total + cs.getD k 0⟩
  else if cutOf X k < 10 then ⟨st.text ++ ws.getD k Str.empty ++ Str.ofString ".", st.parts ++ [(st.begin, ((st.text ++ ws.getD k Str.empty).length : Int), st.total + cs.getD k 0)], st.begin, 0⟩
  else if cutOf X k = 10 then ⟨st.text ++ ws.getD k Str.empty ++ Str.ofString ":", st.parts ++ [(st.begin, -1, st.total + cs.getD k 0)], ((st.text ++ ws.getD k Str.empty ++ Str.ofString ":").length : Int), 0⟩
  else ⟨st.text ++ ws.getD k Str.empty ++ Str.ofString "\n", st.parts ++ [(st.begin, -1, st.total + cs.getD k 0)], ((st.text ++ ws.getD k Str.empty ++ Str.ofString "\n").length : Int), 0⟩
def runL (X : Int) (ws : List Str) (cs : List Int) : Nat → LSt
  | 0 => ⟨preOf X, [], 0, 0⟩
  | k + 1 => stepL X ws cs k (runL X ws cs k)
theorem preOf_len (X : Int) : (preOf X).length ≤ 4 := by
  unfold preOf
  have h : ∀ j, ([Str.ofString "", Str.ofString ".", Str.ofString "dis."].getD j Str.empty).length ≤ 4 := by
    intro j
    match j with
    | 0 => decide
    | 1 => decide
    | 2 => decide
    | _ + 3 => exact (show Str.empty.length ≤ 4 by decide)
  exact h _
theorem sufOf_len (X : Int) : (sufOf X).length ≤ 5 := by
  unfold sufOf
  have h : ∀ j, ([Str.ofString ": 1.5", Str.ofString "", Str.ofString "\n.:"].getD j Str.empty).length ≤ 5 := by
    intro j
    match j with
    | 0 => decide
    | 1 => decide
    | 2 => decide
    | _ + 3 => exact (show Str.empty.length ≤ 5 by decide)
  exact h _
theorem getD_len {ws : List Str} (h : ∀ y ∈ ws, y.length ≤ 19) (k : Nat) : (ws.getD k Str.empty).length ≤ 19 := by
  rw [List.getD_eq_getElem?_getD]
  cases e : ws[k]? with
  | none => decide
  | some y => exact h y (List.mem_of_getElem? e)
theorem runL_len (X : Int) {ws : List Str} (cs : List Int) (h : ∀ y ∈ ws, y.length ≤ 19) : ∀ k, (runL X ws cs k).text.length ≤ 4 + 24 * k
  | 0 => preOf_len X
  | k + 1 => by
    have ih := runL_len X cs h k
    have hw := getD_len h k
    have hs := sufOf_len X
    have e1 : (Str.ofString ", ").length = 2 := by decide
    have e2 : (Str.ofString ".").length = 1 := by decide
    have e3 : (Str.ofString ":").length = 1 := by decide
    have e4 : (Str.ofString "\n").length = 1 := by decide
    unfold runL stepL
    split
    · simp only [Str.length_append]; omega
    · split
      · simp only [Str.length_append]; omega
      · split
        · simp only [Str.length_append]; omega
        · split
          · simp only [Str.length_append]; omega
          · simp only [Str.length_append]; omega
theorem runL_parts_len (X : Int) (ws : List Str) (cs : List Int) : ∀ k, (runL X ws cs k).parts.length ≤ k
  | 0 => Nat.le_refl 0
  | k + 1 => by
    have ih := runL_parts_len X ws cs k
    unfold runL stepL
    split
    · simp only [List.length_append, List.length_cons, List.length_nil]; omega
    · split
      · simp only; omega
      · split
        · simp only [List.length_append, List.length_cons, List.length_nil]; omega
        · split
          · simp only [List.length_append, List.length_cons, List.length_nil]; omega
          · simp only [List.length_append, List.length_cons, List.length_nil]; omega
end Mine
end

section
open PySem PySem.W PyProof.Rows PySem.Spec
set_option maxRecDepth 100000
set_option maxHeartbeats 4000000
namespace Mine
def Hold (p : Prop) : Prop := p
theorem hold_of {p : Prop} (h : Hold p) : p := h
abbrev tupOf (b e d : Int) (tb te td : Tok) (n : Nat) : Obj := { cls := .type "tuple", data := .seq #[.int b tb, .int e te, .int d td] n }
/-- a list of triples, each a tuple of the ledger's -/
inductive PartsAre (news : List (Addr × Obj)) : List Value → List (Int × Int × Int) → Prop
  | nil : PartsAre news [] []
  | cons {T : Addr} {n : Nat} {b e d : Int} {tb te td : Tok} {vs : List Value} {r : List (Int × Int × Int)} : (T, tupOf b e d tb te td n) ∈ news → PartsAre news vs r → PartsAre news (.ref T :: vs) ((b, e, d) :: r)
theorem PartsAre.mono {news news' : List (Addr × Obj)} (hs : ∀ p ∈ news, p ∈ news') {vs : List Value} {r : List (Int × Int × Int)} (h : PartsAre news vs r) : PartsAre news' vs r := by
  induction h with
  | nil => exact .nil
  | cons hm _ ih => exact .cons (hs _ hm) ih
theorem PartsAre.snoc {news : List (Addr × Obj)} {vs : List Value} {r : List (Int × Int × Int)} {T : Addr} {n : Nat} {b e d : Int} {tb te td : Tok} (h : PartsAre news vs r) (hm : (T, tupOf b e d tb te td n) ∈ news) : PartsAre news (vs ++ [.ref T]) (r ++ [(b, e, d)]) := by
  induction h with
  | nil => exact .cons hm .nil
  | cons hm' _ ih => exact .cons hm' ih
theorem PartsAre.length {news : List (Addr × Obj)} {vs : List Value} {r : List (Int × Int × Int)} (h : PartsAre news vs r) : vs.length = r.length := by
  induction h with
  | nil => rfl
  | cons _ _ ih => rw [List.length_cons, List.length_cons, ih]
theorem PartsAre.get {news : List (Addr × Obj)} {vs : List Value} {r : List (Int × Int × Int)} (h : PartsAre news vs r) : ∀ {i : Nat} {v : Value}, vs[i]? = some v → ∃ T n b e d tb te td, v = .ref T ∧ (T, tupOf b e d tb te td n) ∈ news ∧ r[i]? = some (b, e, d) := by
  induction h with
  | nil => intro i v hv; cases hv
  | @cons T n b e d tb te td vs r hm _ ih =>
    intro i v hv
    cases i with
    | zero =>
      refine ⟨T, n, b, e, d, tb, te, td, ?_, hm, rfl⟩
      exact (Option.some.inj hv).symm
    | succ i => exact ih hv

section
variable {prog : Program} {w : World} {A : Around} {s : Shared} {env : Env} {h₀ : Heap} {body : List Stmt} {Q : Flow → Shared → Prop}

/-- the end of a turn of the law's second loop -/
def KEnd (h₀ : Heap) (L lp : Addr) (fx : List (Addr × Obj)) (more own : List (Addr × Obj)) (m₀ : Str → Option Value) (S : LSt) (s s' : Shared) : Prop :=
  ∃ h' tk' m' pvs cnt tl t1 t2 t3, s' = { s with heap := h', toks := tk' } ∧ Fr h₀ L h' m' ∧ News h₀ L h' ((lp, listOf pvs.toArray cnt) :: (fx ++ (more ++ (tl ++ own)))) ∧ OwnOff tl [lp] ∧ OwnOff own (tl.map (·.1)) ∧ PartsAre tl pvs S.parts ∧
    m' (Str.ofString "text") = some (.str S.text t1) ∧ m' (Str.ofString "begin") = some (.int S.begin t2) ∧ m' (Str.ofString "total") = some (.int S.total t3) ∧
    ∀ z, z ≠ Str.ofString "k" → z ≠ Str.ofString "text" → z ≠ Str.ofString "begin" → z ≠ Str.ofString "total" → z ≠ Str.ofString "cut" → m' z = m₀ z

theorem k_map {m m₀ : Str → Option Value} {v : Value} {S : LSt} {t1 t2 t3 : Tok} (h1 : m (Str.ofString "text") = some (.str S.text t1)) (h2 : m (Str.ofString "begin") = some (.int S.begin t2)) (h3 : m (Str.ofString "total") = some (.int S.total t3))
    (hz : ∀ z, z ≠ Str.ofString "k" → z ≠ Str.ofString "text" → z ≠ Str.ofString "begin" → z ≠ Str.ofString "total" → z ≠ Str.ofString "cut" → m z = m₀ z) :
    (fun y => if y = Str.ofString "k" then some v else m y) = (fun y => if y = Str.ofString "k" then some v else if y = Str.ofString "text" then some (Value.str S.text t1) else if y = Str.ofString "begin" then some (Value.int S.begin t2) else if y = Str.ofString "total" then some (Value.int S.total t3) else if y = Str.ofString "cut" then m y else m₀ y) := by
  funext y
  by_cases a : y = Str.ofString "k"
  · rw [if_pos a, if_pos a]
  · rw [if_neg a, if_neg a]
    by_cases b : y = Str.ofString "text"
    · rw [if_pos b, b, h1]
    · rw [if_neg b]
      by_cases c : y = Str.ofString "begin"
      · rw [if_pos c, c, h2]
      · rw [if_neg c]
        by_cases d : y = Str.ofString "total"
        · rw [if_pos d, d, h3]
        · rw [if_neg d]
          by_cases e : y = Str.ofString "cut"
          · rw [if_pos e]
          · rw [if_neg e]; exact hz y a b c d e

theorem k_loop {lp r : Addr} {fx more : List (Addr × Obj)} {t₀ u₀ v₀ tt tb tl0 : Tok} {c0 : Nat} {m₀ : Str → Option Value} (n : Nat) (S : Nat → LSt)
    (hh : A.handled = none) (hr : IsRange s.heap r 0 (n : Int) 1 t₀ u₀ v₀) (hsmall : Builtin.Range.small 0 (n : Int) 1 = true) (hn : Builtin.Range.rangeSize 0 (n : Int) 1 = (n : Int))
    (F : Fr h₀ env.locals s.heap m₀) (N : News h₀ env.locals s.heap ((lp, listOf #[] c0) :: (fx ++ more)))
    (ht : m₀ (Str.ofString "text") = some (.str (S 0).text tt)) (hb : m₀ (Str.ofString "begin") = some (.int (S 0).begin tb)) (hto : m₀ (Str.ofString "total") = some (.int (S 0).total tl0)) (hp0 : (S 0).parts = [])
    (turn : ∀ (k : Nat) tk1 pvs cnt t1 t2 t3 (u : Str → Option Value) h tk tl own, k < n → OwnOff own (lp :: (fx ++ more).map (·.1)) → OwnOff own (tl.map (·.1)) → OwnOff tl [lp] → PartsAre tl pvs (S k).parts →
      Fr h₀ env.locals h (fun y => if y = Str.ofString "k" then some (.int (k : Int) tk1) else if y = Str.ofString "text" then some (.str (S k).text t1) else if y = Str.ofString "begin" then some (.int (S k).begin t2) else if y = Str.ofString "total" then some (.int (S k).total t3) else if y = Str.ofString "cut" then u y else m₀ y) →
      News h₀ env.locals h ((lp, listOf pvs.toArray cnt) :: (fx ++ (more ++ (tl ++ own)))) →
      wpAny (model prog w) A (execs body env) (fun f s' => match f with
        | .ret v => Q (.ret v) s'
        | .brk => Q .next s'
        | _ => KEnd h₀ env.locals lp fx more own m₀ (S (k + 1)) s s') (fun _ _ => False) { s with heap := h, toks := tk })
    (done : ∀ pvs cnt t1 t2 t3 (u : Str → Option Value) h tk tl, OwnOff tl [lp] → PartsAre tl pvs (S n).parts →
      Fr h₀ env.locals h (fun y => if y = Str.ofString "k" then u y else if y = Str.ofString "text" then some (.str (S n).text t1) else if y = Str.ofString "begin" then some (.int (S n).begin t2) else if y = Str.ofString "total" then some (.int (S n).total t3) else if y = Str.ofString "cut" then u y else m₀ y) →
      News h₀ env.locals h ((lp, listOf pvs.toArray cnt) :: (fx ++ (more ++ tl))) → Q .next { s with heap := h, toks := tk }) :
    wpAny (model prog w) A (pyIter (.ref r)) (fun it s₂ => LoopAtV prog w A h₀ env (Str.ofString "k") body Q (fun _ _ => False) it s₂) (fun _ _ => False) s := by
  refine wpAny_pyIter_range hr hsmall ?_
  have Wk : Walks prog w A s.heap.objs.size [s.heap.objs.size] [s.heap.objs.size] n (fun i v => i < n ∧ ∃ t, v = .int (0 + i * 1) t)
      (fun i h => IsRangeIter h s.heap.objs.size (0 + (i : Nat) * 1) ((n : Int) - (i : Nat)) 1) := (Walks.range hh _ 0 1 n).bound
  have hadr : ∀ p ∈ (lp, listOf #[] c0) :: (fx ++ more), p.1 ≠ s.heap.objs.size := fun p hp hI => absurd (Heap.lt_size (N p hp).1) (hI ▸ Nat.lt_irrefl _)
  refine kdr_loop (news := (lp, listOf #[] c0) :: (fx ++ more)) (fun i m nx => ∃ pvs cnt tl t1 t2 t3, nx = (lp, listOf pvs.toArray cnt) :: (fx ++ (more ++ tl)) ∧ OwnOff tl [lp] ∧ PartsAre tl pvs (S i).parts ∧
      m (Str.ofString "text") = some (.str (S i).text t1) ∧ m (Str.ofString "begin") = some (.int (S i).begin t2) ∧ m (Str.ofString "total") = some (.int (S i).total t3) ∧
      ∀ z, z ≠ Str.ofString "k" → z ≠ Str.ofString "text" → z ≠ Str.ofString "begin" → z ≠ Str.ofString "total" → z ≠ Str.ofString "cut" → m z = m₀ z)
    Wk (fun _ h => h) (fun _ h => h) ?_ ?_ ?_ ?_ (by show IsRangeIter _ _ _ _ _; rw [hn]; simpa using Heap.get?_push_size _ rfl) (F.push _) (fun p hp => ⟨Heap.get?_push_of_some _ (N p hp).1, (N p hp).2⟩) ?_ ?_ ?_
  · intro i h hi b hb'
    rw [List.mem_singleton.mp hb']
    exact ⟨_, hi⟩
  · intro hm
    exact absurd F.ns.lt ((List.mem_singleton.mp hm) ▸ Nat.lt_irrefl _)
  · intro b hb'
    rw [List.mem_singleton.mp hb']
    exact next_is_new F
  · intro p hp hI
    exact hadr p hp (List.mem_singleton.mp hI)
  · refine ⟨[], c0, [], tt, tb, tl0, by rw [List.append_nil], (fun _ hp => nomatch hp), by rw [hp0]; exact .nil, ht, hb, hto, fun _ _ _ _ _ _ => rfl⟩
  · rintro i v m₁ nx h tk own hi ⟨_, ti, rfl⟩ hoff ⟨pvs, cnt, tl, t1, t2, t3, rfl, htl, hpa, h1, h2, h3, hz⟩ F₁ N₁
    have e1 : (0 : Int) + (i : Int) * 1 = (i : Int) := by omega
    rw [e1, k_map h1 h2 h3 hz] at F₁
    have ho1 : OwnOff own (lp :: (fx ++ more).map (·.1)) := by
      intro p hp b hb' e
      refine hoff p hp b ?_ e
      rcases List.mem_cons.mp hb' with rfl | hb'
      · exact .head _
      · obtain ⟨q, hq, rfl⟩ := List.mem_map.mp hb'
        refine List.mem_map.mpr ⟨q, .tail _ ?_, rfl⟩
        rcases List.mem_append.mp hq with hq | hq
        · exact List.mem_append.mpr (.inl hq)
        · exact List.mem_append.mpr (.inr (List.mem_append.mpr (.inl hq)))
    have ho2 : OwnOff own (tl.map (·.1)) := by
      intro p hp b hb' e
      obtain ⟨q, hq, rfl⟩ := List.mem_map.mp hb'
      exact hoff p hp _ (List.mem_map.mpr ⟨q, .tail _ (List.mem_append.mpr (.inr (List.mem_append.mpr (.inr hq)))), rfl⟩) e
    have N₂ : News h₀ env.locals h ((lp, listOf pvs.toArray cnt) :: (fx ++ (more ++ (tl ++ own)))) := by
      intro p hp
      refine N₁ p ?_
      simp only [List.mem_cons, List.mem_append] at hp ⊢
      rcases hp with a | a | a | a | a
      · exact .inl (.inl a)
      · exact .inl (.inr (.inl a))
      · exact .inl (.inr (.inr (.inl a)))
      · exact .inl (.inr (.inr (.inr a)))
      · exact .inr a
    refine wpAny_mono (turn i ti pvs cnt t1 t2 t3 m₁ h tk tl own hi ho1 ho2 htl hpa F₁ N₂) (fun f s₂ p => ?_) fun _ _ e => e
    have fin : KEnd h₀ env.locals lp fx more own m₀ (S (i + 1)) s s₂ → InvEndG h₀ env.locals (fun m nx => ∃ pvs cnt tl t1 t2 t3, nx = (lp, listOf pvs.toArray cnt) :: (fx ++ (more ++ tl)) ∧ OwnOff tl [lp] ∧ PartsAre tl pvs (S (i + 1)).parts ∧
      m (Str.ofString "text") = some (.str (S (i + 1)).text t1) ∧ m (Str.ofString "begin") = some (.int (S (i + 1)).begin t2) ∧ m (Str.ofString "total") = some (.int (S (i + 1)).total t3) ∧
      ∀ z, z ≠ Str.ofString "k" → z ≠ Str.ofString "text" → z ≠ Str.ofString "begin" → z ≠ Str.ofString "total" → z ≠ Str.ofString "cut" → m z = m₀ z) own { s with heap := h, toks := tk } s₂ := by
      rintro ⟨h', tk', m', pvs', cnt', tl', t1', t2', t3', e, F', N', htl', hot', hpa', h1', h2', h3', hz'⟩
      refine ⟨h', tk', m', _, (lp, listOf pvs'.toArray cnt') :: (fx ++ (more ++ tl')), e, F', N', ?_, ?_, ?_, pvs', cnt', tl', t1', t2', t3', rfl, htl', hpa', h1', h2', h3', hz'⟩
      · intro p hp
        simp only [List.mem_cons, List.mem_append] at hp ⊢
        rcases hp with a | a | a | a
        · exact .inl a
        · exact .inr (.inl a)
        · exact .inr (.inr (.inl a))
        · exact .inr (.inr (.inr (.inl a)))
      · intro p hp
        simp only [List.mem_cons, List.mem_append]
        exact .inr (.inr (.inr (.inr hp)))
      · intro p0 hp b hb' e'
        rcases List.mem_cons.mp hb' with hb' | hb'
        · exact ho1 p0 hp lp (.head _) (e'.trans hb')
        · obtain ⟨q, hq, rfl⟩ := List.mem_map.mp hb'
          simp only [List.mem_append] at hq
          rcases hq with a | a | a
          · exact ho1 p0 hp _ (.tail _ (List.mem_map.mpr ⟨q, List.mem_append.mpr (.inl a), rfl⟩)) e'
          · exact ho1 p0 hp _ (.tail _ (List.mem_map.mpr ⟨q, List.mem_append.mpr (.inr a), rfl⟩)) e'
          · exact hot' p0 hp _ (List.mem_map.mpr ⟨q, a, rfl⟩) e'
    cases f with
    | ret v => exact p
    | brk => exact p
    | next => exact fin p
    | cont => exact fin p
  · rintro m₁ nx h tk ⟨pvs, cnt, tl, t1, t2, t3, rfl, htl, hpa, h1, h2, h3, hz⟩ F₁ N₁
    have em : m₁ = (fun y => if y = Str.ofString "k" then m₁ y else if y = Str.ofString "text" then some (Value.str (S n).text t1) else if y = Str.ofString "begin" then some (Value.int (S n).begin t2) else if y = Str.ofString "total" then some (Value.int (S n).total t3) else if y = Str.ofString "cut" then m₁ y else m₀ y) := by
      funext y
      by_cases a : y = Str.ofString "k"
      · rw [if_pos a]
      · have := congrFun (k_map (v := .none) h1 h2 h3 hz) y
        simp only [if_neg a] at this ⊢
        exact this
    rw [em] at F₁
    exact done pvs cnt t1 t2 t3 m₁ h tk tl htl hpa F₁ N₁
end
end Mine
end

section
open PySem PySem.W PyProof.Rows PySem.Spec
set_option maxRecDepth 100000
set_option maxHeartbeats 8000000
namespace Mine
section
variable {prog : Program} {w : World} {A : Around} {E : Value → Shared → Prop} {s : Shared} {h₀ : Heap} {L : Addr} {news : List (Addr × Obj)} {value slice : PySem.Expr} {Q : Value → Shared → Prop}
theorem word_item {lw : Addr} {us : List Value} {cw k : Nat} {ws : List Str} {u : Tok} (N : News h₀ L s.heap news) (hm : (lw, listOf us.toArray cw) ∈ news) (hw : StrsAre us ws) (hk : k < ws.length) (hb : ws.length ≤ 33) (h : ∀ t', Q (.str (ws.getD k Str.empty) t') s)
    (hs : subscripted slice false (.ref lw) (.int (k : Int) u) = operate [.ref lw, .int (k : Int) u] (getItem (.ref lw) (.int (k : Int) u)) := by with_unfolding_all rfl) :
    wpAny (model prog w) A (subscriptTail value slice (.ref lw) (.int (k : Int) u)) Q E s := by
  have hl : s.heap.IsList lw us.toArray := ⟨_, (N _ hm).1, rfl, cw, rfl⟩
  obtain ⟨t', e⟩ := hw.get k (ws.getD k Str.empty) (by rw [List.getD_eq_getElem?_getD, List.getElem?_eq_getElem hk]; rfl)
  exact tail_any hl.typeIs slot_list_getitem.lookup (wpAny_getItem_list hl (by omega) (by omega) (x := .str _ t') (by simpa using e) (h t')) hs
theorem worth_item {lc : Addr} {us : List Value} {cc k : Nat} {cs : List Int} {u : Tok} (N : News h₀ L s.heap news) (hm : (lc, listOf us.toArray cc) ∈ news) (hw : IntsAre us cs) (hk : k < cs.length) (hb : cs.length ≤ 33) (h : ∀ t', Q (.int (cs.getD k 0) t') s)
    (hs : subscripted slice false (.ref lc) (.int (k : Int) u) = operate [.ref lc, .int (k : Int) u] (getItem (.ref lc) (.int (k : Int) u)) := by with_unfolding_all rfl) :
    wpAny (model prog w) A (subscriptTail value slice (.ref lc) (.int (k : Int) u)) Q E s := by
  have hl : s.heap.IsList lc us.toArray := ⟨_, (N _ hm).1, rfl, cc, rfl⟩
  obtain ⟨t', e⟩ := hw.get k (cs.getD k 0) (by rw [List.getD_eq_getElem?_getD, List.getElem?_eq_getElem hk]; rfl)
  exact tail_any hl.typeIs slot_list_getitem.lookup (wpAny_getItem_list hl (by omega) (by omega) (x := .int _ t') (by simpa using e) (h t')) hs
end
section
variable {prog : Program} {w : World} {A : Around} {E : Value → Shared → Prop} {s : Shared} {h₀ : Heap} {L : Addr} {m : Str → Option Value} {Q : Value → Shared → Prop}
theorem parts_append {lp D : Addr} {o : Obj} {pvs : List Value} {n : Nat} {y : Value} {r : List (Addr × Obj)} {R : Prop} (F : Fr h₀ L s.heap m) (N : News h₀ L s.heap ((D, o) :: (lp, listOf pvs.toArray n) :: r)) (hlt : lp < D ∧ R) (hoff : ∀ p ∈ r, p.1 ≠ lp) (hz : pvs.length ≤ 33)
    (h : ∀ h', Fr h₀ L h' m → News h₀ L h' ((D, o) :: (lp, listOf (pvs ++ [y]).toArray (n + 1)) :: r) → Q .none { s with heap := h' }) : wpAny (model prog w) A (call (.builtin "list.append") [.ref lp, y]) Q E s := by
  refine append_K F N (.tail (fun e => Nat.lt_irrefl lp (by have := hlt.1; rw [show D = lp from e] at this; exact this)) (.head hoff)) (fun h' F' N' => h h' F' ?_) (by rw [List.size_toArray, sizeLine_eq]; omega)
  rw [List.push_toArray] at N'
  exact N'
end
/-- behind the law's second loop -/
def KDone (h₀ : Heap) (L lp : Addr) (fx more : List (Addr × Obj)) (m₀ : Str → Option Value) (S : LSt) (s : Shared) (f : Flow) (s' : Shared) : Prop :=
  f = .next ∧ ∃ h' tk' pvs cnt tl t1 t2 t3, ∃ u : Str → Option Value, s' = { s with heap := h', toks := tk' } ∧ OwnOff tl [lp] ∧ PartsAre tl pvs S.parts ∧
    Fr h₀ L h' (fun y => if y = Str.ofString "k" then u y else if y = Str.ofString "text" then some (.str S.text t1) else if y = Str.ofString "begin" then some (.int S.begin t2) else if y = Str.ofString "total" then some (.int S.total t3) else if y = Str.ofString "cut" then u y else m₀ y) ∧
    News h₀ L h' ((lp, listOf pvs.toArray cnt) :: (fx ++ (more ++ tl)))
theorem off_parts {lp lw lc : Addr} {o1 o2 : Obj} {more tl own : List (Addr × Obj)} {adr : List Addr} (hp1 : lw < lp) (hp2 : lc < lp) (hp3 : AllLt lp more) (htl : OwnOff tl [lp]) (ho1 : OwnOff own (lp :: adr)) :
    ∀ p ∈ (lw, o1) :: (lc, o2) :: (more ++ (tl ++ own)), p.1 ≠ lp := by
  intro p hp
  simp only [List.mem_cons, List.mem_append] at hp
  rcases hp with rfl | rfl | hp | hp | hp
  · exact Nat.ne_of_lt hp1
  · exact Nat.ne_of_lt hp2
  · exact Nat.ne_of_lt (kst_ltOf hp3 p hp)
  · exact htl p hp lp (.head _)
  · exact ho1 p hp lp (.head _)
section
variable {h₀ h' : Heap} {L lp lw lc D l' : Addr} {o1 o2 ol : Obj} {more tl own : List (Addr × Obj)} {m₀ m' : Str → Option Value} {S' : LSt} {s : Shared} {tk' cnt n : Nat} {pvs : List Value} {t1 t2 t3 tb te td : Tok} {b e d : Int} {P : List (Int × Int × Int)} {adr : List Addr} {R1 R2 : Prop}
theorem kEnd_same (F : Fr h₀ L h' m') (N : News h₀ L h' ((lp, listOf pvs.toArray cnt) :: (lw, o1) :: (lc, o2) :: (more ++ (tl ++ own)))) (htl : OwnOff tl [lp]) (ho2 : OwnOff own (tl.map (·.1))) (hpa : PartsAre tl pvs S'.parts)
    (e1 : m' (Str.ofString "text") = some (.str S'.text t1)) (e2 : m' (Str.ofString "begin") = some (.int S'.begin t2)) (e3 : m' (Str.ofString "total") = some (.int S'.total t3))
    (hz : ∀ z, z ≠ Str.ofString "k" → z ≠ Str.ofString "text" → z ≠ Str.ofString "begin" → z ≠ Str.ofString "total" → z ≠ Str.ofString "cut" → m' z = m₀ z) :
    KEnd h₀ L lp [(lw, o1), (lc, o2)] more own m₀ S' s { s with heap := h', toks := tk' } :=
  ⟨h', tk', m', pvs, cnt, tl, t1, t2, t3, rfl, F, N, htl, ho2, hpa, e1, e2, e3, hz⟩
theorem kEnd_push (F : Fr h₀ L h' m') (N : News h₀ L h' ((D, tupOf b e d tb te td n) :: (lp, listOf (pvs ++ [Value.ref D]).toArray cnt) :: (lw, o1) :: (lc, o2) :: (more ++ (tl ++ own)))) (hlt : lp < D ∧ R1 ∧ R2 ∧ AllLt D (more ++ (tl ++ own)))
    (htl : OwnOff tl [lp]) (ho2 : OwnOff own (tl.map (·.1))) (hpa : PartsAre tl pvs P) (hP : S'.parts = P ++ [(b, e, d)])
    (e1 : m' (Str.ofString "text") = some (.str S'.text t1)) (e2 : m' (Str.ofString "begin") = some (.int S'.begin t2)) (e3 : m' (Str.ofString "total") = some (.int S'.total t3))
    (hz : ∀ z, z ≠ Str.ofString "k" → z ≠ Str.ofString "text" → z ≠ Str.ofString "begin" → z ≠ Str.ofString "total" → z ≠ Str.ofString "cut" → m' z = m₀ z) :
    KEnd h₀ L lp [(lw, o1), (lc, o2)] more own m₀ S' s { s with heap := h', toks := tk' } := by
  obtain ⟨l1, _, _, l2⟩ := hlt
  refine ⟨h', tk', m', pvs ++ [.ref D], cnt, (D, tupOf b e d tb te td n) :: tl, t1, t2, t3, rfl, F, ?_, ?_, ?_, ?_, e1, e2, e3, hz⟩
  · intro p hp
    refine N p ?_
    simp only [List.mem_cons, List.mem_append, List.not_mem_nil, or_false] at hp ⊢
    rcases hp with a | (a | a) | a | (a | a) | a
    · exact .inr (.inl a)
    · exact .inr (.inr (.inl a))
    · exact .inr (.inr (.inr (.inl a)))
    · exact .inr (.inr (.inr (.inr (.inl a))))
    · exact .inl a
    · exact .inr (.inr (.inr (.inr (.inr (.inl a)))))
    · exact .inr (.inr (.inr (.inr (.inr (.inr a)))))
  · intro p hp b hb
    rw [List.mem_singleton.mp hb]
    rcases List.mem_cons.mp hp with rfl | hp
    · exact Nat.ne_of_gt l1
    · exact htl p hp lp (.head _)
  · intro p hp b hb
    rcases List.mem_cons.mp hb with rfl | hb
    · exact Nat.ne_of_lt (kst_ltOf l2 p (List.mem_append.mpr (.inr (List.mem_append.mpr (.inr hp)))))
    · exact ho2 p hp b hb
  · rw [hP]
    exact (hpa.mono fun p hp => .tail _ hp).snoc (.head _)
end
section
variable {X : Int} {ws : List Str} {cs : List Int} {k : Nat}
theorem run_last (h : (k : Int) + 1 = (ws.length : Int)) : runL X ws cs (k + 1) = ⟨(runL X ws cs k).text ++ ws.getD k Str.empty ++ sufOf X, (runL X ws cs k).parts ++ [((runL X ws cs k).begin, -1, (runL X ws cs k).total + cs.getD k 0)], (runL X ws cs k).begin, (runL X ws cs k).total + cs.getD k 0⟩ := by
  rw [runL, stepL, if_pos h]
theorem run_join (h : (k : Int) + 1 ≠ (ws.length : Int)) (hc : (X.fdiv ((k : Int) + 2) + 5 * (k : Int)).fmod 12 < 8) : runL X ws cs (k + 1) = ⟨(runL X ws cs k).text ++ ws.getD k Str.empty ++ Str.ofString ", ", (runL X ws cs k).parts, (runL X ws cs k).begin, (runL X ws cs k).total + cs.getD k 0⟩ := by
  rw [runL, stepL, if_neg h, if_pos (show cutOf X k < 8 from hc)]
theorem run_dot (h : (k : Int) + 1 ≠ (ws.length : Int)) (hc : ¬ (X.fdiv ((k : Int) + 2) + 5 * (k : Int)).fmod 12 < 8) (hd : (X.fdiv ((k : Int) + 2) + 5 * (k : Int)).fmod 12 < 10) : runL X ws cs (k + 1) = ⟨(runL X ws cs k).text ++ ws.getD k Str.empty ++ Str.ofString ".", (runL X ws cs k).parts ++ [((runL X ws cs k).begin, (((runL X ws cs k).text ++ ws.getD k Str.empty).length : Int), (runL X ws cs k).total + cs.getD k 0)], (runL X ws cs k).begin, 0⟩ := by
  rw [runL, stepL, if_neg h, if_neg (show ¬ cutOf X k < 8 from hc), if_pos (show cutOf X k < 10 from hd)]
theorem run_colon (h : (k : Int) + 1 ≠ (ws.length : Int)) (hc : ¬ (X.fdiv ((k : Int) + 2) + 5 * (k : Int)).fmod 12 < 8) (hd : ¬ (X.fdiv ((k : Int) + 2) + 5 * (k : Int)).fmod 12 < 10) (he : (X.fdiv ((k : Int) + 2) + 5 * (k : Int)).fmod 12 = 10) : runL X ws cs (k + 1) = ⟨(runL X ws cs k).text ++ ws.getD k Str.empty ++ Str.ofString ":", (runL X ws cs k).parts ++ [((runL X ws cs k).begin, -1, (runL X ws cs k).total + cs.getD k 0)], (((runL X ws cs k).text.length + (ws.getD k Str.empty).length + (Str.ofString ":").length : Nat) : Int), 0⟩ := by
  rw [runL, stepL, if_neg h, if_neg (show ¬ cutOf X k < 8 from hc), if_neg (show ¬ cutOf X k < 10 from hd), if_pos (show cutOf X k = 10 from he), Str.length_append, Str.length_append]
theorem run_line (h : (k : Int) + 1 ≠ (ws.length : Int)) (hc : ¬ (X.fdiv ((k : Int) + 2) + 5 * (k : Int)).fmod 12 < 8) (hd : ¬ (X.fdiv ((k : Int) + 2) + 5 * (k : Int)).fmod 12 < 10) (he : (X.fdiv ((k : Int) + 2) + 5 * (k : Int)).fmod 12 ≠ 10) : runL X ws cs (k + 1) = ⟨(runL X ws cs k).text ++ ws.getD k Str.empty ++ Str.ofString "\n", (runL X ws cs k).parts ++ [((runL X ws cs k).begin, -1, (runL X ws cs k).total + cs.getD k 0)], (((runL X ws cs k).text.length + (ws.getD k Str.empty).length + (Str.ofString "\n").length : Nat) : Int), 0⟩ := by
  rw [runL, stepL, if_neg h, if_neg (show ¬ cutOf X k < 8 from hc), if_neg (show ¬ cutOf X k < 10 from hd), if_neg (show ¬ cutOf X k = 10 from he), Str.length_append, Str.length_append]
end
section
variable {prog : Program} {w : World} {A : Around} {E : Value → Shared → Prop} {s : Shared} {h₀ : Heap} {L : Addr} {r : List (Addr × Obj)} {value slice : PySem.Expr} {Q : Value → Shared → Prop}
theorem suf_item {l' : Addr} {n : Nat} {t1 t2 t3 u : Tok} {x : Int} (N : News h₀ L s.heap ((l', listOf #[.str (Str.ofString ": 1.5") t1, .str (Str.ofString "") t2, .str (Str.ofString "\n.:") t3] n) :: r)) (h : ∀ t', Q (.str (sufOf x) t') s)
    (hs : subscripted slice false (.ref l') (.int ((x.fdiv 3).fmod 3) u) = operate [.ref l', .int ((x.fdiv 3).fmod 3) u] (getItem (.ref l') (.int ((x.fdiv 3).fmod 3) u)) := by with_unfolding_all rfl) :
    wpAny (model prog w) A (subscriptTail value slice (.ref l') (.int ((x.fdiv 3).fmod 3) u)) Q E s := by
  have h1 := Int.fmod_nonneg_of_pos (x.fdiv 3) (show (0 : Int) < 3 by decide)
  have h2 := Int.fmod_lt_of_pos (x.fdiv 3) (show (0 : Int) < 3 by decide)
  unfold sufOf at h
  generalize (x.fdiv 3).fmod 3 = j at *
  have hl : s.heap.IsList l' #[.str (Str.ofString ": 1.5") t1, .str (Str.ofString "") t2, .str (Str.ofString "\n.:") t3] := ⟨_, (N _ (.head _)).1, rfl, n, rfl⟩
  have : j = 0 ∨ j = 1 ∨ j = 2 := by omega
  rcases this with rfl | rfl | rfl
  · exact tail_any hl.typeIs slot_list_getitem.lookup (wpAny_getItem_list hl (by omega) (by omega) rfl (h t1)) hs
  · exact tail_any hl.typeIs slot_list_getitem.lookup (wpAny_getItem_list hl (by omega) (by omega) rfl (h t2)) hs
  · exact tail_any hl.typeIs slot_list_getitem.lookup (wpAny_getItem_list hl (by omega) (by omega) rfl (h t3)) hs
end
end Mine
end

section
open PySem PySem.W PyProof.Rows PySem.Spec
set_option maxRecDepth 100000
set_option maxHeartbeats 8000000
namespace Mine
section
variable {prog : Program} {w : World} {A : Around} {s : Shared} {env : Env} {h₀ : Heap} {target : PySem.Expr} {body : List Stmt} {Q : Flow → Shared → Prop}
/-- the end of a turn of the law's third loop -/
def PEnd (h₀ : Heap) (L : Addr) (all : List (Addr × Obj)) (keep : Str → Prop) (m₀ : Str → Option Value) (s : Shared) (f : Flow) (s' : Shared) : Prop :=
  f = .next ∧ ∃ h' tk' m', s' = { s with heap := h', toks := tk' } ∧ Fr h₀ L h' m' ∧ News h₀ L h' all ∧ ∀ z, keep z → m' z = m₀ z
theorem p_loop {lp : Addr} {vs : List Value} {nn : Nat} {m₀ : Str → Option Value} {news : List (Addr × Obj)} (keep : Str → Prop)
    (hh : A.handled = none) (hl : (lp, listOf vs.toArray nn) ∈ news) (F : Fr h₀ env.locals s.heap m₀) (N : News h₀ env.locals s.heap news)
    (turn : ∀ (i : Nat) v m₁ (s₁ : Shared) own, vs[i]? = some v → OwnOff own (news.map (·.1)) → (∀ z, keep z → m₁ z = m₀ z) → Fr h₀ env.locals s₁.heap m₁ → News h₀ env.locals s₁.heap (news ++ own) →
      wpAny (model prog w) A (assign target env v) (fun _ s₃ => wpAny (model prog w) A (execs body env) (PEnd h₀ env.locals (news ++ own) keep m₀ s₁) (fun _ _ => False) s₃) (fun _ _ => False) s₁)
    (done : ∀ m₁ h tk, (∀ z, keep z → m₁ z = m₀ z) → Fr h₀ env.locals h m₁ → News h₀ env.locals h news → Q .next { s with heap := h, toks := tk }) :
    wpAny (model prog w) A (pyIter (.ref lp)) (fun it s₂ => LoopAtT prog w A h₀ env target body Q (fun _ _ => False) it s₂) (fun _ _ => False) s := by
  have hol : s.heap.get? lp = some (listOf vs.toArray nn) := (N _ hl).1
  have hls : s.heap.IsList lp vs.toArray := ⟨_, hol, rfl, nn, rfl⟩
  have hne : lp ≠ s.heap.objs.size := Nat.ne_of_lt (Heap.lt_size hol)
  refine wpAny_pyIter_list hls ?_
  have W := Walks.list (prog := prog) (w := w) hh s.heap.objs.size lp hne vs.toArray
  have hlen : vs.toArray.size = vs.length := by simp
  rw [hlen] at W
  refine ⟨_, _, _, vs.length, _, _, m₀, news, (fun _ m nx => nx = news ∧ ∀ z, keep z → m z = m₀ z), rfl, W, ?_, ?_, ?_, ⟨⟨_, Heap.get?_push_size _ rfl, rfl, rfl⟩, hls.at fun o e => Heap.get?_push_of_some _ e⟩, F.push _, (fun p hp => ⟨Heap.get?_push_of_some _ (N p hp).1, (N p hp).2⟩), (fun i s' v Q' st hQ' => letGo_listiter st.1 hQ'), ⟨rfl, fun _ _ => rfl⟩, ?_, ?_⟩
  · intro hm
    rcases List.mem_cons.mp hm with e | hm
    · exact absurd F.ns.lt (e ▸ Nat.lt_irrefl _)
    · exact (N _ hl).2.1 ((List.mem_singleton.mp hm).symm)
  · intro b hb
    rw [List.mem_singleton.mp hb]
    exact next_is_new F
  · intro p hp hI
    exact absurd (Heap.lt_size (N p hp).1) ((List.mem_singleton.mp hI) ▸ Nat.lt_irrefl _)
  · rintro i v m₁ news₁ s₁ own hin hP ⟨rfl, hJ⟩ hoff hown hget hfp hst F₁ N₁
    have hP' : vs[i]? = some v := by simpa using hP
    have hsep : OwnOff (own.filter fun p => decide (p.1 = s.heap.objs.size)) (news₁.map (·.1)) := by
      intro p hp b hb e
      obtain ⟨q, hq, rfl⟩ := List.mem_map.mp hb
      have h1 : p.1 = s.heap.objs.size := by simpa using (List.mem_filter.mp hp).2
      exact hoff q hq (List.mem_singleton.mpr (e ▸ h1))
    have N₂ : News h₀ env.locals s₁.heap (news₁ ++ own.filter fun p => decide (p.1 = s.heap.objs.size)) := fun p hp => N₁ p ((List.mem_append.mp hp).elim (fun h => List.mem_append.mpr (.inr h)) fun h => List.mem_append.mpr (.inl ((List.mem_filter.mp h).1)))
    have hlo : s₁.heap.get? lp = some (listOf vs.toArray nn) := (N₁ _ (List.mem_append.mpr (.inr hl))).1
    refine wpAny_mono (turn i v m₁ s₁ _ hP' hsep hJ F₁ N₂) (fun _ s₃ h₃ => wpAny_mono h₃ (fun f s₄ p => ?_) fun _ _ e => e) fun _ _ e => e
    obtain ⟨rfl, h', tk', m', rfl, F', N', hk⟩ := p
    refine ⟨rfl, h', tk', m', news₁, rfl, F', fun p hp => ?_, hoff, rfl, hk⟩
    rcases List.mem_append.mp hp with h | h
    · by_cases hI : p.1 = s.heap.objs.size
      · exact N' p (List.mem_append.mpr (.inr (List.mem_filter.mpr ⟨h, by simpa using hI⟩)))
      · have h1 : p.1 = lp := by
          rcases List.mem_cons.mp (hown p h) with h2 | h2
          · exact absurd h2 hI
          · exact List.mem_singleton.mp h2
        have h2 : s₁.heap.get? p.1 = some p.2 := hget p h
        rw [h1, hlo] at h2
        have h3 : p = (lp, listOf vs.toArray nn) := Prod.ext h1 (Option.some.inj h2).symm
        rw [h3]
        exact N' _ (List.mem_append.mpr (.inl hl))
    · exact N' p (List.mem_append.mpr (.inl h))
  · rintro h' tk m' news' F' N' _ ⟨rfl, hJ⟩
    exact done m' h' tk hJ F' N'
end
end Mine
end

section
open PySem PySem.W PyProof.Rows
set_option maxRecDepth 100000
set_option maxHeartbeats 4000000
namespace Mine
section
open PySem.Builtin PySem.Builtin.Str
def find4 (x y : Str) (i j : Int) : Int := match occurrences x y (fromIndex x.length i) (min (fromIndex x.length j) x.length) 1 with | k :: _ => (k : Int) | [] => -1
def rfind4 (x y : Str) (i j : Int) : Int := match lastOccurrence x y (fromIndex x.length i) (min (fromIndex x.length j) x.length) with | some k => (k : Int) | none => -1
theorem gives_find4 (x y : Str) (i j : Int) (t u v v' : Tok) : Gives («str.find» ⟨[.str x t, .str y u, .int i v, .int j v'], []⟩) (.int (find4 x y i j)) := by
  unfold find4
  show Gives (match occurrences x y (fromIndex x.length i) (min (fromIndex x.length j) x.length) 1 with | k :: _ => retInt k | [] => (do rule "str.find.not-found"; retInt (-1))) _
  cases occurrences x y (fromIndex x.length i) (min (fromIndex x.length j) x.length) 1 with
  | nil => exact .rule (.of_eq rfl)
  | cons k _ => exact .of_eq rfl
theorem gives_rfind4 (x y : Str) (i j : Int) (t u v v' : Tok) : Gives («str.rfind» ⟨[.str x t, .str y u, .int i v, .int j v'], []⟩) (.int (rfind4 x y i j)) := by
  unfold rfind4
  show Gives (match lastOccurrence x y (fromIndex x.length i) (min (fromIndex x.length j) x.length) with | some k => retInt k | none => (do rule "str.rfind.not-found"; retInt (-1))) _
  cases lastOccurrence x y (fromIndex x.length i) (min (fromIndex x.length j) x.length) with
  | none => exact .rule (.of_eq rfl)
  | some k => exact .of_eq rfl
variable {prog : Program} {w : World} {A : Around} {E : Value → Shared → Prop} {s : Shared} {x : Str} {t : Tok} {Q : Value → Shared → Prop}
theorem find4_call {y : Str} {u v v' : Tok} {i j : Int} (hq : Q (.int (find4 x y i j) s.toks) { s with toks := s.toks + 1 }) : wpAny (model prog w) A (call (.builtin "str.find") [.str x t, .str y u, .int i v, .int j v']) Q E s :=
  call_gives F.slot_str_find (typeIs_str _ _ _) F.entry_str_find (F.args_str_find_4 _ _ _ _) (gives_find4 x y i j t u v v') (hq)
theorem rfind4_call {y : Str} {u v v' : Tok} {i j : Int} (hq : Q (.int (rfind4 x y i j) s.toks) { s with toks := s.toks + 1 }) : wpAny (model prog w) A (call (.builtin "str.rfind") [.str x t, .str y u, .int i v, .int j v']) Q E s :=
  call_gives F.slot_str_rfind (typeIs_str _ _ _) F.entry_str_rfind (F.args_str_rfind_4 _ _ _ _) (gives_rfind4 x y i j t u v v') (hq)
end
local macro_rules | `(tactic| walk_at "call builtin:str.find") => `(tactic| refine find4_call ?_)
local macro_rules | `(tactic| walk_at "call builtin:str.rfind") => `(tactic| refine rfind4_call ?_)

theorem fill9 : hd.heap_39 = hd.heap_39 ∧ PySem.Challenge.rw_pg0045_01 = PySem.Challenge.rw_pg0045_01 := by
  k_fill
  exact ⟨rfl, rfl⟩

def stripR (x : Str) (r : Int) : Str :=
  Txt.slice x (some (if 0 ≤ rfind4 x (Str.ofString ".") 0 (if 0 ≤ find4 x (Str.ofString ":") 0 r then find4 x (Str.ofString ":") 0 r else r) then rfind4 x (Str.ofString ".") 0 (if 0 ≤ find4 x (Str.ofString ":") 0 r then find4 x (Str.ofString ":") 0 r else r) + 1 else 0))
    (some (if 0 ≤ find4 x (Str.ofString ":") 0 r then find4 x (Str.ofString ":") 0 r else r))
def stripE (x : Str) : Str := stripR x (if 0 ≤ Txt.find x (Str.ofString "\n") then Txt.find x (Str.ofString "\n") else (x.length : Int))
theorem stripE_eq {x : Str} {r : Int} (h : (0 ≤ Txt.find x (Str.ofString "\n") ∧ r = Txt.find x (Str.ofString "\n")) ∨ (¬ 0 ≤ Txt.find x (Str.ofString "\n") ∧ r = (x.length : Int))) : stripR x r = stripE x := by
  unfold stripE
  rcases h with ⟨h, rfl⟩ | ⟨h, rfl⟩
  · rw [if_pos h]
  · rw [if_neg h]
theorem strip_w1 {x : Str} {r : Int} (h : (0 ≤ Txt.find x (Str.ofString "\n") ∧ r = Txt.find x (Str.ofString "\n")) ∨ (¬ 0 ≤ Txt.find x (Str.ofString "\n") ∧ r = (x.length : Int)))
    (h1 : 0 ≤ find4 x (Str.ofString ":") 0 r) (h2 : 0 ≤ rfind4 x (Str.ofString ".") 0 (find4 x (Str.ofString ":") 0 r)) :
    Txt.slice x (some (rfind4 x (Str.ofString ".") 0 (find4 x (Str.ofString ":") 0 r) + 1)) (some (find4 x (Str.ofString ":") 0 r)) = stripE x := by
  rw [← stripE_eq h]; unfold stripR; rw [if_pos h1, if_pos h2]
theorem strip_w2 {x : Str} {r : Int} (h : (0 ≤ Txt.find x (Str.ofString "\n") ∧ r = Txt.find x (Str.ofString "\n")) ∨ (¬ 0 ≤ Txt.find x (Str.ofString "\n") ∧ r = (x.length : Int)))
    (h1 : 0 ≤ find4 x (Str.ofString ":") 0 r) (h2 : ¬ 0 ≤ rfind4 x (Str.ofString ".") 0 (find4 x (Str.ofString ":") 0 r)) :
    Txt.slice x (some 0) (some (find4 x (Str.ofString ":") 0 r)) = stripE x := by
  rw [← stripE_eq h]; unfold stripR; rw [if_pos h1, if_neg h2]
theorem strip_w3 {x : Str} {r : Int} (h : (0 ≤ Txt.find x (Str.ofString "\n") ∧ r = Txt.find x (Str.ofString "\n")) ∨ (¬ 0 ≤ Txt.find x (Str.ofString "\n") ∧ r = (x.length : Int)))
    (h1 : ¬ 0 ≤ find4 x (Str.ofString ":") 0 r) (h2 : 0 ≤ rfind4 x (Str.ofString ".") 0 r) :
    Txt.slice x (some (rfind4 x (Str.ofString ".") 0 r + 1)) (some r) = stripE x := by
  rw [← stripE_eq h]; unfold stripR; rw [if_neg h1, if_pos h2]
theorem strip_w4 {x : Str} {r : Int} (h : (0 ≤ Txt.find x (Str.ofString "\n") ∧ r = Txt.find x (Str.ofString "\n")) ∨ (¬ 0 ≤ Txt.find x (Str.ofString "\n") ∧ r = (x.length : Int)))
    (h1 : ¬ 0 ≤ find4 x (Str.ofString ":") 0 r) (h2 : ¬ 0 ≤ rfind4 x (Str.ofString ".") 0 r) :
    Txt.slice x (some 0) (some r) = stripE x := by
  rw [← stripE_eq h]; unfold stripR; rw [if_neg h1, if_neg h2]

theorem strip_call (prog : Program) (w : World) (p : Program) (loose : List Str) (mean : ExcName → Option Value) (mg mb : Str → Option Value) (news : List (Addr × Obj))
  (x : Str) (t : Tok) (hx : x.length ≤ 100000) : CbClaim prog w (hd.heap_39 w.params) p loose mean mg mb 21 news [] True [.str x t] (fun t => .str (stripE x) t) := by
  w_top off
  dsimp only [CbClaim, CbLists, CbRet]
  intro dp un gd cn cs a ccd cl outer A₀ base h₀ L m s Q E B F X N T hk _ hd hu hret
  refine wpAny_call ?_
  k_dflt cell_enter
  k_steps
  all_goals refine cb_retS (Q := Q) (s := s) hret (by with_reducible (first | exact strip_w1 (by assumption) (by assumption) (by assumption) | exact strip_w2 (by assumption) (by assumption) (by assumption) | exact strip_w3 (by assumption) (by assumption) (by assumption) | exact strip_w4 (by assumption) (by assumption) (by assumption))) (by with_reducible assumption) (cb_drop (by with_reducible assumption) (by exact fun _ h => .tail _ h))
end Mine
end

section
open PySem PySem.W PyProof.Rows PySem.Spec
set_option maxRecDepth 100000
set_option maxHeartbeats 4000000
namespace Mine
section
variable {prog : Program} {w : World} {A : Around} {E : Value → Shared → Prop} {s : Shared} {env : Env} {h₀ : Heap} {body orelse : List Stmt} {Q : Flow → Shared → Prop}

/-- the end of a turn of the loop in pretty_flags -/
def PfEnd (h₀ : Heap) (L : Addr) (l : Addr) (news own : List (Addr × Obj)) (m₀ : Str → Option Value) (W : List Str) (R : Int) (I : Prop) (s s' : Shared) : Prop :=
  I ∧ ∃ h' tk' m' vs cnt t, s' = { s with heap := h', toks := tk' } ∧ Fr h₀ L h' m' ∧ News h₀ L h' (((l, listOf vs.toArray cnt) :: news) ++ own) ∧ StrsAre vs W ∧ m' (Str.ofString "flags") = some (.int R t) ∧
    ∀ z, z ≠ Str.ofString "i" → z ≠ Str.ofString "flags" → z ≠ Str.ofString "flag" → m' z = m₀ z

theorem pf_loop {l r : Addr} {t₀ u₀ v₀ tf : Tok} {m₀ : Str → Option Value} {news : List (Addr × Obj)} (n : Nat) (W : Nat → List Str) (R : Nat → Int) (I : Nat → Prop) (hI0 : I 0)
    (hh : A.handled = none) (hr : IsRange s.heap r 0 (n : Int) 1 t₀ u₀ v₀) (hsmall : Builtin.Range.small 0 (n : Int) 1 = true) (hn : Builtin.Range.rangeSize 0 (n : Int) 1 = (n : Int))
    (F : Fr h₀ env.locals s.heap m₀) (N : News h₀ env.locals s.heap ((l, listOf #[] 0) :: news)) (hf : m₀ (Str.ofString "flags") = some (.int (R 0) tf)) (hW : W 0 = [])
    (turn : ∀ (i : Nat) ti vs cnt t (u : Str → Option Value) h tk own, i < n → I i → OwnOff own (l :: news.map (·.1)) → StrsAre vs (W i) →
      Fr h₀ env.locals h (fun y => if y = Str.ofString "i" then some (.int (i : Int) ti) else if y = Str.ofString "flags" then some (.int (R i) t) else if y = Str.ofString "flag" then u y else m₀ y) →
      News h₀ env.locals h (((l, listOf vs.toArray cnt) :: news) ++ own) →
      wpAny (model prog w) A (execs body env) (fun f s' => match f with
        | .ret v => Q (.ret v) s'
        | .brk => Q .next s'
        | _ => PfEnd h₀ env.locals l news own m₀ (W (i + 1)) (R (i + 1)) (I (i + 1)) s s') (fun _ _ => False) { s with heap := h, toks := tk })
    (done : ∀ vs cnt t (u : Str → Option Value) h tk, I n → StrsAre vs (W n) →
      Fr h₀ env.locals h (fun y => if y = Str.ofString "flags" then some (.int (R n) t) else if y = Str.ofString "i" then u y else if y = Str.ofString "flag" then u y else m₀ y) →
      News h₀ env.locals h ((l, listOf vs.toArray cnt) :: news) →
      wpAny (model prog w) A (execs orelse env) Q (fun _ _ => False) { s with heap := h, toks := tk }) :
    wpAny (model prog w) A (pyIter (.ref r)) (fun it s₂ => LoopAtE prog w A h₀ env (Str.ofString "i") body orelse Q it s₂) E s := by
  refine wpAny_pyIter_range hr hsmall ?_
  have Wk : Walks prog w A s.heap.objs.size [s.heap.objs.size] [s.heap.objs.size] n (fun i v => i < n ∧ ∃ t, v = .int (0 + i * 1) t)
      (fun i h => IsRangeIter h s.heap.objs.size (0 + (i : Nat) * 1) ((n : Int) - (i : Nat)) 1) := (Walks.range hh _ 0 1 n).bound
  have hadr : ∀ p ∈ (l, listOf #[] 0) :: news, p.1 ≠ s.heap.objs.size := fun p hp hI => absurd (Heap.lt_size (N p hp).1) (hI ▸ Nat.lt_irrefl _)
  refine ⟨_, n, _, _, m₀, (l, listOf #[] 0) :: news, (fun i m nx => I i ∧ ∃ vs cnt t, nx = (l, listOf vs.toArray cnt) :: news ∧ StrsAre vs (W i) ∧ m (Str.ofString "flags") = some (.int (R i) t) ∧ ∀ z, z ≠ Str.ofString "i" → z ≠ Str.ofString "flags" → z ≠ Str.ofString "flag" → m z = m₀ z), rfl, Wk, ?_, next_is_new F, hadr, (by show IsRangeIter _ _ _ _ _; rw [hn]; simpa using Heap.get?_push_size _ rfl), F.push _, (fun p hp => ⟨Heap.get?_push_of_some _ (N p hp).1, (N p hp).2⟩), ⟨hI0, [], 0, tf, rfl, by rw [hW]; exact .nil, hf, fun _ _ _ _ => rfl⟩, ?_, ?_⟩
  · intro hm
    exact absurd F.ns.lt (hm ▸ Nat.lt_irrefl _)
  · rintro i v m₁ nx h tk own hi ⟨_, ti, rfl⟩ ⟨hIi, vs, cnt, t, rfl, hs, hfl, hz⟩ hnI hown F₁ N₁
    have e1 : (0 : Int) + (i : Int) * 1 = (i : Int) := by omega
    rw [e1] at F₁
    have hoff : OwnOff own (l :: news.map (·.1)) := by
      intro p hp b hb e
      have : b = s.heap.objs.size := e ▸ hown p hp
      rcases List.mem_cons.mp hb with rfl | hb
      · exact hadr _ (.head _) this
      · obtain ⟨q, hq, rfl⟩ := List.mem_map.mp hb
        exact hadr q (.tail _ hq) this
    have em : (fun y => if y = Str.ofString "i" then some (Value.int (i : Int) ti) else m₁ y) = (fun y => if y = Str.ofString "i" then some (Value.int (i : Int) ti) else if y = Str.ofString "flags" then some (Value.int (R i) t) else if y = Str.ofString "flag" then m₁ y else m₀ y) := by
      funext y
      by_cases h1 : y = Str.ofString "i"
      · rw [if_pos h1, if_pos h1]
      · rw [if_neg h1, if_neg h1]
        by_cases h2 : y = Str.ofString "flags"
        · rw [if_pos h2, h2, hfl]
        · rw [if_neg h2]
          by_cases h3 : y = Str.ofString "flag"
          · rw [if_pos h3]
          · rw [if_neg h3]; exact hz y h1 h2 h3
    rw [em] at F₁
    refine wpAny_mono (turn i ti vs cnt t m₁ h tk own hi hIi hoff hs F₁ N₁) (fun f s₂ p => ?_) fun _ _ e => e
    have fin : PfEnd h₀ env.locals l news own m₀ (W (i + 1)) (R (i + 1)) (I (i + 1)) s s₂ →
        ∃ h' tk' m' nx, s₂ = { s with heap := h', toks := tk' } ∧ Fr h₀ env.locals h' m' ∧ News h₀ env.locals h' (nx ++ own) ∧ (∀ p ∈ nx, p.1 ≠ s.heap.objs.size) ∧ I (i + 1) ∧ ∃ vs cnt t, nx = (l, listOf vs.toArray cnt) :: news ∧ StrsAre vs (W (i + 1)) ∧ m' (Str.ofString "flags") = some (.int (R (i + 1)) t) ∧ ∀ z, z ≠ Str.ofString "i" → z ≠ Str.ofString "flags" → z ≠ Str.ofString "flag" → m' z = m₀ z := by
      rintro ⟨hI', h', tk', m', vs', cnt', t', e, F', N', hs', hfl', hz'⟩
      refine ⟨h', tk', m', _, e, F', N', fun p hp hI => ?_, hI', vs', cnt', t', rfl, hs', hfl', hz'⟩
      rcases List.mem_cons.mp hp with rfl | hp
      · exact hadr (l, listOf #[] 0) (.head _) hI
      · exact hadr p (.tail _ hp) hI
    cases f with
    | ret v => exact p
    | brk => exact p
    | next => exact fin p
    | cont => exact fin p
  · rintro h tk m₁ nx F₁ N₁ ⟨hIn, vs, cnt, t, rfl, hs, hfl, hz⟩
    have em : m₁ = (fun y => if y = Str.ofString "flags" then some (Value.int (R n) t) else if y = Str.ofString "i" then m₁ y else if y = Str.ofString "flag" then m₁ y else m₀ y) := by
      funext y
      by_cases h2 : y = Str.ofString "flags"
      · rw [if_pos h2, h2, hfl]
      · rw [if_neg h2]
        by_cases h1 : y = Str.ofString "i"
        · rw [if_pos h1]
        · rw [if_neg h1]
          by_cases h3 : y = Str.ofString "flag"
          · rw [if_pos h3]
          · rw [if_neg h3]; exact hz y h1 h2 h3
    rw [em] at F₁
    exact done vs cnt t m₁ h tk hIn hs F₁ N₁
end

theorem fill2 : hd.heap_39 = hd.heap_39 ∧ PySem.Challenge.rw_pg0045_01 = PySem.Challenge.rw_pg0045_01 := by
  k_fill
  exact ⟨rfl, rfl⟩

theorem hex_fits_pow {i : Nat} (h : i < 32) : (baseText "0x" 16 (1 * 2 ^ ((i : Nat) : Int).toNat)).length ≤ sizeLine := by
  refine baseText_under (by rw [PyProof.Rows.ofString_len]; decide) (by decide) ?_
  have h1 : (1 * 2 ^ ((i : Nat) : Int).toNat : Int).natAbs = 2 ^ i := by
    rw [Int.one_mul, Int.toNat_natCast, Int.natAbs_pow]; rfl
  rw [h1]
  exact Nat.lt_of_le_of_lt (Nat.pow_le_pow_right (by decide) (Nat.le_of_lt h)) (by decide)
theorem hex_fits_rest {x : Int} (h : -2 ^ 40 ≤ x ∧ x ≤ 2 ^ 40) : (baseText "0x" 16 (restAt x 32)).length ≤ sizeLine :=
  baseText_under (by rw [PyProof.Rows.ofString_len]; decide) (by decide) (restAt_bound h)
def flagTab : List (Int × PyData) := [(1, .str (Str.ofString "OPTIMIZED")), (2, .str (Str.ofString "NEWLOCALS")), (4, .str (Str.ofString "VARARGS")), (8, .str (Str.ofString "VARKEYWORDS")), (16, .str (Str.ofString "NESTED")), (32, .str (Str.ofString "GENERATOR")), (64, .str (Str.ofString "NOFREE")), (128, .str (Str.ofString "COROUTINE")), (256, .str (Str.ofString "ITERABLE_COROUTINE")), (512, .str (Str.ofString "ASYNC_GENERATOR"))]
theorem flag_keyed {P : Params} {h : Heap} (X : (hd.heap_39 P).In h) : KTD.Keyed h 22 flagTab := kt_keyed_in X (by kernel_rfl)
theorem flag_look (d : Str) : ∀ i : Nat, i < 32 → d = baseText "0x" 16 (2 ^ i) → (PySem.Spec.lookup (PyData.int (2 ^ i)) (flagTab.map fun p => (PyData.int p.1, p.2))).getD (.str d) = .str (wordOf i) := by
  intro i hi hd
  subst hd
  rw [KTD.lookup_keyed]
  have hw : wordOf i = match flagNames[i]? with | some x => x | none => baseText "0x" 16 (2 ^ i) := rfl
  rw [hw]
  rcases Nat.lt_or_ge i 10 with h | h
  · have : i = 0 ∨ i = 1 ∨ i = 2 ∨ i = 3 ∨ i = 4 ∨ i = 5 ∨ i = 6 ∨ i = 7 ∨ i = 8 ∨ i = 9 := by omega
    rcases this with rfl | rfl | rfl | rfl | rfl | rfl | rfl | rfl | rfl | rfl <;> rfl
  · have e1 : flagNames[i]? = none := List.getElem?_eq_none (by show flagNames.length ≤ i; exact h)
    have h2 : (2 : Int) ^ 10 ≤ 2 ^ i := by
      have := Nat.pow_le_pow_right (show 0 < 2 by decide) h
      have e3 := kbt_cast i
      have e4 := kbt_cast 10
      omega
    have e2 : KTD.datumAt (2 ^ i) flagTab = none := by
      generalize (2 : Int) ^ i = z at h2
      unfold flagTab
      simp only [KTD.datumAt]
      rw [show (2 : Int) ^ 10 = 1024 from rfl] at h2
      repeat rw [if_neg (by simp only [decide_eq_true_eq]; omega)]
    rw [e1, e2]
    rfl
section
variable {prog : Program} {w : World} {A : Around} {E : Value → Shared → Prop} {s : Shared} {h₀ : Heap} {L : Addr} {m : Str → Option Value} {Q : Value → Shared → Prop}
theorem get_flag (F : Fr h₀ L s.heap m) (X₀ : (hd.heap_39 w.params).In h₀) {i : Nat} (hi : i < 32) {u u' : Tok} (h : ∀ t', Q (.str (wordOf i) t') { s with toks := s.toks + 1 }) :
    wpAny (model prog w) A (call (.builtin "dict.get") [.ref 22, .int (1 * 2 ^ ((i : Nat) : Int).toNat) u, .str (baseText "0x" 16 (1 * 2 ^ ((i : Nat) : Int).toNat)) u']) Q E s := by
  have e : (1 * 2 ^ ((i : Nat) : Int).toNat : Int) = 2 ^ i := by rw [Int.one_mul, Int.toNat_natCast]
  rw [e]
  refine call_get2_intTab ((flag_keyed X₀).keep (fun b o q => F.keep b o q) prog w) (PyProof.V.Flat.str _ _) fun v hv => ?_
  rw [flag_look _ i hi rfl] at hv
  obtain ⟨t, rfl⟩ := PyProof.V.Flat.str_inv hv
  exact h t
theorem join_words {D : Addr} {vs : List Value} {cnt : Nat} {t : Tok} {ws : List Str} {items : Array Value} {news : List (Addr × Obj)} (N : News h₀ L s.heap ((D, listOf items cnt) :: news)) (e : items.toList = vs) (hs : StrsAre vs ws) (h1 : ∀ y ∈ ws, y.length ≤ 19) (h2 : ws.length ≤ 33)
    (h : ∀ t' k, Q (.str (Txt.join (Str.ofString ", ") ws) t') { s with toks := k }) : wpAny (model prog w) A (call (.builtin "str.join") [.str (Str.ofString ", ") t, .ref D]) Q E s := by
  have hl : s.heap.IsList D items := ⟨_, (N _ (.head _)).1, rfl, cnt, rfl⟩
  refine join_listC hl (by rw [e]; exact hs) (by rw [PyProof.Rows.ofString_len]; decide) ?_ h
  have := sum_lens h1
  omega
theorem join_broken {D : Addr} {vs : List Value} {cnt i : Nat} {t ty : Tok} {x : Int} {news : List (Addr × Obj)} (N : News h₀ L s.heap ((D, listOf (vs.toArray.push (.str (wordOf i) ty)) cnt) :: news)) (hs : StrsAre vs (wordsAt x i)) (hx : -2 ^ 40 ≤ x ∧ x ≤ 2 ^ 40) (hi : i < 32)
    (ha : Builtin.bitAnd (restAt x i) (1 * 2 ^ ((i : Nat) : Int).toNat) ≠ 0) (hb : Builtin.bitXor (restAt x i) (1 * 2 ^ ((i : Nat) : Int).toNat) = 0)
    (h : ∀ t' k, Q (.str (pf x) t') { s with toks := k }) : wpAny (model prog w) A (call (.builtin "str.join") [.str (Str.ofString ", ") t, .ref D]) Q E s := by
  have hbit := bit_of_and ha
  rw [xor_bit hbit] at hb
  have e := wordsOf_broken hi hbit hb
  have hw := wordsOf_len hx
  have hl := wordsOf_length x
  unfold pf at h
  rw [e] at h hw hl
  exact join_words N (by rw [List.push_toArray]) (StrsAre.append' hs (.cons _ ty .nil)) hw hl h
theorem join_whole {D : Addr} {vs : List Value} {cnt : Nat} {t ty : Tok} {x : Int} {news : List (Addr × Obj)} (N : News h₀ L s.heap ((D, listOf (vs.toArray.push (.str (baseText "0x" 16 (restAt x 32)) ty)) cnt) :: news)) (hs : StrsAre vs (wordsAt x 32)) (hx : -2 ^ 40 ≤ x ∧ x ≤ 2 ^ 40) (hI : restAt x 32 = 0 → x = 0)
    (h : ∀ t' k, Q (.str (pf x) t') { s with toks := k }) : wpAny (model prog w) A (call (.builtin "str.join") [.str (Str.ofString ", ") t, .ref D]) Q E s := by
  have e := wordsOf_whole hI
  have hw := wordsOf_len hx
  have hl := wordsOf_length x
  unfold pf at h
  rw [e] at h hw hl
  exact join_words N (by rw [List.push_toArray]) (StrsAre.append' hs (.cons _ ty .nil)) hw hl h
end
theorem pfEnd_push {h₀ h' : Heap} {L l : Addr} {news own : List (Addr × Obj)} {m₀ m' : Str → Option Value} {vs : List Value} {cnt i : Nat} {ty t : Tok} {x : Int} {s : Shared} {tk : Nat}
    (F : Fr h₀ L h' m') (N : News h₀ L h' ((l, listOf (vs.toArray.push (.str (wordOf i) ty)) cnt) :: (news ++ own))) (hs : StrsAre vs (wordsAt x i))
    (ha : Builtin.bitAnd (restAt x i) (1 * 2 ^ ((i : Nat) : Int).toNat) ≠ 0) (hb : Builtin.bitXor (restAt x i) (1 * 2 ^ ((i : Nat) : Int).toNat) ≠ 0)
    (hf : m' (Str.ofString "flags") = some (.int (Builtin.bitXor (restAt x i) (1 * 2 ^ ((i : Nat) : Int).toNat)) t)) (hz : ∀ z, z ≠ Str.ofString "i" → z ≠ Str.ofString "flags" → z ≠ Str.ofString "flag" → m' z = m₀ z) :
    PfEnd h₀ L l news own m₀ (wordsAt x (i + 1)) (restAt x (i + 1)) (restAt x (i + 1) = 0 → x = 0) s { s with heap := h', toks := tk } := by
  have hbit := bit_of_and ha
  rw [xor_bit hbit] at hb hf
  refine ⟨fun e => absurd e hb, h', tk, m', vs ++ [.str (wordOf i) ty], cnt, t, rfl, F, ?_, ?_, hf, hz⟩
  · rw [List.cons_append, show (vs ++ [Value.str (wordOf i) ty]).toArray = vs.toArray.push (.str (wordOf i) ty) by simp]
    exact N
  · rw [wordsAt_pos hbit]
    exact StrsAre.append' hs (.cons _ _ .nil)
theorem pfEnd_same {h₀ h' : Heap} {L l : Addr} {news own : List (Addr × Obj)} {m₀ m' : Str → Option Value} {vs : List Value} {cnt i : Nat} {t : Tok} {x : Int} {s : Shared} {tk : Nat}
    (F : Fr h₀ L h' m') (N : News h₀ L h' ((l, listOf vs.toArray cnt) :: (news ++ own))) (hs : StrsAre vs (wordsAt x i)) (hI : restAt x i = 0 → x = 0)
    (ha : Builtin.bitAnd (restAt x i) (1 * 2 ^ ((i : Nat) : Int).toNat) = 0)
    (hf : m' (Str.ofString "flags") = some (.int (restAt x i) t)) (hz : ∀ z, z ≠ Str.ofString "i" → z ≠ Str.ofString "flags" → z ≠ Str.ofString "flag" → m' z = m₀ z) :
    PfEnd h₀ L l news own m₀ (wordsAt x (i + 1)) (restAt x (i + 1)) (restAt x (i + 1) = 0 → x = 0) s { s with heap := h', toks := tk } := by
  have hbit := nobit_of_and ha
  rw [restAt_nobit hbit, wordsAt_neg hbit]
  exact ⟨hI, h', tk, m', vs, cnt, t, rfl, F, N, hs, hf, hz⟩
local macro_rules | `(tactic| walk_at "call builtin:hex") => `(tactic| (refine P.hex_of_int ?_ (hex_fits_rest (by assumption))))
local macro_rules | `(tactic| walk_at "call builtin:hex") => `(tactic| (refine P.hex_of_int ?_ (hex_fits_pow (by assumption))))
local macro_rules | `(tactic| walk_at "call builtin:dict.get") => `(tactic| (refine get_flag (by with_reducible assumption) (by with_reducible assumption) (by with_reducible assumption) ?_; intro _))
local macro_rules | `(tactic| walk_at "call builtin:str.join") => `(tactic| (refine join_broken (by with_reducible assumption) (by with_reducible assumption) (by with_reducible assumption) (by with_reducible assumption) (by with_reducible assumption) (by with_reducible assumption) ?_; intro _ _))
local macro_rules | `(tactic| walk_at "call builtin:str.join") => `(tactic| (refine join_whole (by with_reducible assumption) (by with_reducible assumption) (by with_reducible assumption) (by with_reducible assumption) ?_; intro _ _))

theorem pretty_call (prog : Program) (w : World) (p : Program) (loose : List Str) (mean : ExcName → Option Value) (mg mb : Str → Option Value) (news : List (Addr × Obj))
  (x : Int) (t : Tok) (hx : -2 ^ 40 ≤ x ∧ x ≤ 2 ^ 40) : CbClaim prog w (hd.heap_39 w.params) p loose mean mg mb 29 news [] True [.int x t] (fun t => .str (pf x) t) := by
  w_top off
  dsimp only [CbClaim, CbLists, CbRet]
  intro dp un gd cn cs a ccd cl outer A₀ base h₀ L m s Q E B F X N T hk _ hd hu hret
  refine wpAny_call ?_
  k_dflt cell_enter
  k_steps
  (rename Fr _ _ _ _ => lF')
  with_unfolding_all refine' For_E (x := Str.ofString "i") lF' ?k1 ?k2 ?_
  case k1 => exact rfl
  case k2 => exact rfl
  k_steps
  (rename Fr _ _ _ _ => lF')
  (rename News _ _ _ _ => lN')
  (rename IsRange _ _ _ _ _ _ _ _ => rgX)
  refine' pf_loop 32 (wordsAt x) (restAt x) (fun i => restAt x i = 0 → x = 0) (by rw [restAt_zero]; exact fun h => h) (by rfl) rgX ?k1 ?k2 lF' lN' ?k3 ?k4 ?turn ?done
  case k1 => decide
  case k2 => decide
  case k3 => rw [restAt_zero]; with_unfolding_all rfl
  case k4 => rfl
  case turn =>
    clear lF' lN'
    intro i ti vs cnt tf u h tk own hi hI hoff hs F' N'
    have kMark := kstMark
    have hlen : vs.length ≤ 32 := by rw [hs.len_eq]; exact Nat.le_trans (wordsAt_length x i) (Nat.le_of_lt hi)
    simp only [List.cons_append] at N'
    k_steps
    · exact pfEnd_push (by k_asm) (by k_asm) (by with_reducible assumption) (by with_reducible assumption) (by with_reducible assumption) (by with_unfolding_all rfl) (by intro z h1 h2 h3; simp [h1, h2, h3])
    · exact cb_retS (Q := Q) (s := s) hret (by rfl) (by with_reducible assumption) (cb_drop (by with_reducible assumption) (by exact fun _ h => .tail _ (List.mem_append.mpr (.inl h))))
    · exact pfEnd_same (by k_asm) (by k_asm) (by with_reducible assumption) (by with_reducible assumption) (by with_reducible assumption) (by with_unfolding_all rfl) (by intro z h1 h2 h3; simp [h1, h2, h3])
  case done =>
    clear lF' lN'
    intro vs cnt tf u h tk hI hs F' N'
    have kMark := kstMark
    have hlen : vs.length ≤ 32 := by rw [hs.len_eq]; exact wordsAt_length x 32
    k_steps
    exact cb_retS (Q := Q) (s := s) hret (by rfl) (by with_reducible assumption) (cb_drop (by with_reducible assumption) (by exact fun _ h => .tail _ h))
end Mine
end

section
open PySem PySem.W PyProof.Rows PySem.Spec
set_option maxRecDepth 100000
set_option maxHeartbeats 4000000
namespace Mine
theorem fill3 : hd.heap_39 = hd.heap_39 ∧ PySem.Challenge.rw_pg0045_01 = PySem.Challenge.rw_pg0045_01 := by
  k_fill
  exact ⟨rfl, rfl⟩
/-- the call of _law_worths: a new list of ints -/
abbrev WorthsClaim (prog : Program) (w : World) (K : Frag) (p : Program) (loose : List Str) (mean : ExcName → Option Value) (mg mb : Str → Option Value) (f : Addr) (news : List (Addr × Obj)) (vs : List Value) (ns : List Int) : Prop :=
  ∀ (dp un : Nat) (gd : Option (List Code)) (cn : Str) (cs : Scope) (a : Addr) (ccd : Value) (cl : List (Str × Addr)) (outer : List Env) (A₀ : Around) (base h₀ : Heap) (L : Addr) (m : Str → Option Value) (s : Shared) (Q E : Value → Shared → Prop),
    Below A₀ base outer h₀ → Fr h₀ L s.heap m → K.In h₀ → News h₀ L s.heap news → Top p loose mean mg mb h₀ → cs.kind = .function → dp + 1 < recursionLimit → un + 8 < cLine →
    (∀ (l : Addr) (us : List Value) (cnt : Nat) (h' : Heap) (tk' : Nat), Fr h₀ L h' m → News h₀ L h' ((l, listOf us.toArray cnt) :: news) → IntsAre us ns → Q (.ref l) { s with heap := h', toks := tk' }) →
      wpAny (model prog w) (ktrTop dp un gd cn cs L a ccd cl outer) (call (.ref f) vs) Q E s
section
variable {h₀ h' : Heap} {L I C D : Addr} {oI oC : Obj} {m : Str → Option Value} {s₁ : Shared} {ys : List Value} {l : List Int} {news : List (Addr × Obj)} {k x : Int} {t : Tok} {tk : Nat}
theorem worth_yes (F : Fr h₀ L h' m) (N : News h₀ L h' ((I, oI) :: (C, oC) :: (D, LCg.lst ys) :: news)) (off : LCg.Off3 I C D news) (hc : (x.fdiv (2 ^ k.toNat)).fmod 2 = 1) :
    LCg.CompEnd h₀ L m s₁ I oI C oC D (LCg.lst ys) (fun _ => True) (fun y news' => KCiEl news l (gW x l k) y news') (Value.int (2 ^ k.toNat) t) { s₁ with heap := h', toks := tk } :=
  LCg.CompEnd.intro F N news (fun _ h => h) off True.intro (kci_el (by unfold gW; rw [if_pos hc]) rfl rfl)
theorem worth_no (F : Fr h₀ L h' m) (N : News h₀ L h' ((I, oI) :: (C, oC) :: (D, LCg.lst ys) :: news)) (off : LCg.Off3 I C D news) (hc : ¬ (x.fdiv (2 ^ k.toNat)).fmod 2 = 1) :
    LCg.CompEnd h₀ L m s₁ I oI C oC D (LCg.lst ys) (fun _ => True) (fun _ news' => KCiNo news l (gW x l k) news') Value.none { s₁ with heap := h', toks := tk } :=
  LCg.CompEnd.intro F N news (fun _ h => h) off True.intro (kci_no (by unfold gW; rw [if_neg hc]) rfl)
end
theorem worths_1 {x : Int} {us : List Value} (hI : IntsAre us (List.foldl (gW x) [] (rangeKs 0 32) ++ [x.fdiv (2 ^ Int.toNat 32) * 2 ^ Int.toNat 32])) (hc : x.fdiv (2 ^ Int.toNat 32) * 2 ^ Int.toNat 32 ≠ 0) : IntsAre us (worthsOf x) := by
  unfold worthsOf
  rw [if_pos (.inl hc)]
  exact hI
theorem worths_2 {x : Int} {us : List Value} (hI : IntsAre us (List.foldl (gW x) [] (rangeKs 0 32) ++ [x.fdiv (2 ^ Int.toNat 32) * 2 ^ Int.toNat 32])) (hx : x = 0) : IntsAre us (worthsOf x) := by
  unfold worthsOf
  rw [if_pos (.inr hx)]
  exact hI
theorem worths_3 {x : Int} {us : List Value} (hI : IntsAre us (List.foldl (gW x) [] (rangeKs 0 32))) (hc : x.fdiv (2 ^ Int.toNat 32) * 2 ^ Int.toNat 32 = 0) (hx : x ≠ 0) : IntsAre us (worthsOf x) := by
  unfold worthsOf
  rw [if_neg (fun c => c.elim (fun h => h hc) hx)]
  exact hI
theorem worths_ret {h₀ h' : Heap} {L l : Addr} {m : Str → Option Value} {news rest : List (Addr × Obj)} {ns : List Int} {us : List Value} {cnt tk : Nat} {s : Shared} {Q : Value → Shared → Prop}
    (hret : ∀ (l : Addr) (us : List Value) (cnt : Nat) (h' : Heap) (tk' : Nat), Fr h₀ L h' m → News h₀ L h' ((l, listOf us.toArray cnt) :: news) → IntsAre us ns → Q (.ref l) { s with heap := h', toks := tk' })
    (F : Fr h₀ L h' m) (N : News h₀ L h' ((l, listOf us.toArray cnt) :: rest)) (hs : ∀ p ∈ news, p ∈ rest) (hI : IntsAre us ns) : Q (.ref l) { s with heap := h', toks := tk } :=
  hret l us cnt h' tk F (fun p hp => N p ((List.mem_cons.mp hp).elim (fun e => e ▸ .head _) fun h => .tail _ (hs p h))) hI
local macro_rules | `(tactic| walk_at "CompSrcT") => `(tactic| k_extra "mineComp")
local macro_rules | `(tactic| walk_at "CompEnd") => `(tactic| first | exact worth_yes (by k_asm) (by k_asm) (by k_asm) (by k_asm) | exact worth_no (by k_asm) (by k_asm) (by k_asm) (by k_asm))

theorem worths_call (prog : Program) (w : World) (p : Program) (loose : List Str) (mean : ExcName → Option Value) (mg mb : Str → Option Value) (news : List (Addr × Obj))
  (x : Int) (t : Tok) (hx : -2 ^ 40 ≤ x ∧ x ≤ 2 ^ 40) : WorthsClaim prog w (hd.heap_39 w.params) p loose mean mg mb 34 news [.int x t] (worthsOf x) := by
  w_top off
  dsimp only [WorthsClaim]
  intro dp un gd cn cs a ccd cl outer A₀ base h₀ L m s Q E B F X N T hk hd hu hret
  refine wpAny_call ?_
  k_dflt (refine' code_defC ?k1 ?k2 ?k3 ?k4 ?k5 ?kA ?kF ?kK ?k6 ?k7 ?k8 ?k9 ?kB ?kD ?_ ?c2 ?c3 ?c4; (case kA => exact rfl); (case kF => exact rfl); (case kK => assumption); (case k1 => k_asm); (case k2 => k_asm); (case k3 => k_asm); (case k4 => k_asm); (case k5 => k_asm); (case k6 => k_is); (case k7 => k_is); (case k8 => ktr_room); (case k9 => exact BindsTo.of_eq rfl); (case kB => exact rfl); (case kD => decide +kernel); (case c2 => exact rfl); (case c3 => exact rfl); (case c4 => exact rfl); k_whole; intro g' L' h' tk' cells' FG' F' N' Y' B' X' T' l1; (try k_lt l1); k_cells Y'; (try simp only [List.cons_append, List.nil_append] at N'); (try dsimp only); (try k_lift B'); (try k_fold))
  k_with "mineComp" =>
    (k_dflt (refine LCt.CompSrcT.range (by rfl) (by k_asm) (by k_asm) (by assumption) (by decide) (by rfl) (by exact Nat.le_of_ble_eq_true rfl) ?_; intro g'; (refine' kci_range (n := 32) (gW x) (fun k' t' I' oI' C' oC' D' m' ys' l' h' tk' E' hlo' hhi' hI' hC' hx' F' N' off' ne' hMark' => ?_) ?_ (gW_grows x)); kcf_last))
  k_steps
  · exact worths_ret hret (by k_asm) (by k_asm) (fun _ h => .tail _ (.tail _ (.tail _ h))) (worths_1 (by k_asm) (by k_asm))
  · exact worths_ret hret (by k_asm) (by k_asm) (fun _ h => .tail _ (.tail _ (.tail _ h))) (worths_2 (by k_asm) (by k_asm))
  · exact worths_ret hret (by k_asm) (by k_asm) (fun _ h => .tail _ h) (worths_3 (by k_asm) (by k_asm) (by k_asm))
end Mine
end

section
open PySem PySem.W PyProof.Rows PySem.Spec
set_option maxRecDepth 100000
set_option maxHeartbeats 8000000
namespace Mine
local macro_rules | `(tactic| walk_at "mine") => `(tactic| ((with_reducible show wpAny _ _ (subscriptTail _ _ (Value.ref _) (Value.int (Nat.cast (R := Int) _) _)) _ _ _); k_dflt (first
  | (refine word_item (by k_asm) (by k_mem) (by with_reducible assumption) (by with_reducible assumption) (by with_reducible assumption) ?_; intro _)
  | (refine worth_item (by k_asm) (by k_mem) (by with_reducible assumption) (by with_reducible assumption) (by with_reducible assumption) ?_; intro _))))
local macro_rules | `(tactic| walk_at "mine") => `(tactic| ((with_reducible show wpAny _ _ (pyIter (Value.ref _)) _ _ _); refine hold_of ?_))
local macro_rules | `(tactic| walk_at "mine") => `(tactic| ((with_reducible show wpAny _ _ (call (Value.builtin "list.append") _) _ _ _); k_dflt (refine parts_append (by k_asm) (by k_asm) (by with_reducible assumption) (by with_reducible assumption) (by with_reducible assumption) ?_; intro h' F' N')))
local macro_rules | `(tactic| walk_at "mine") => `(tactic| ((with_reducible show wpAny _ _ (subscriptTail _ _ (Value.ref _) (Value.int (Int.fmod _ 3) _)) _ _ _); k_dflt (refine suf_item (by k_asm) ?_; intro _)))
theorem fill5 : hd.heap_39 = hd.heap_39 ∧ PySem.Challenge.rw_pg0045_01 = PySem.Challenge.rw_pg0045_01 := by
  k_fill
  exact ⟨rfl, rfl⟩
theorem inner_k (prog : Program) (w : World) (p : Program) (loose : List Str) (mean : ExcName → Option Value) (mg mb : Str → Option Value)
    {oc : Value} {od : Option Addr} {osl : Array (Option Value)} {name qual : Str} {params : Arguments} {body fb oe : List Stmt} {scope : Scope} {dV kV doc pm : Value} {an : Option Addr} {cdv ct : Value} {b0 b2 c1 c2 c3 c4 c5 c6 c7 c8 c9 forK forP : Stmt} {tgt itr : PySem.Expr} {fp : Pos}
    (hb : (hd.heap_39 w.params).lookup 41 = some ⟨oc, od, .func (fnOf name qual params body scope dV kV doc pm an cdv ct), osl⟩)
    (hbody : body = [b0, .For tgt itr fb oe fp, b2]) (hfb : fb = [c1, c2, c3, c4, c5, c6, c7, c8, c9, forK, forP])
    (dp un : Nat) (gd : Option (List Code)) (a : Addr) (ccd : Value) (outer : List Env) (A₀ : Around) (base h₀ : Heap) (L : Addr) (s : Shared)
    (B : Below A₀ base outer h₀) (X : (hd.heap_39 w.params).In h₀) (T : Top p loose mean mg mb h₀) (h1 : dp + 1 < recursionLimit) (hu : un + 8 < cLine)
    (lp lw lc : Addr) (us cvs : List Value) (cw cc : Nat) (more : List (Addr × Obj)) (ws : List Str) (cs : List Int) (x num : Int) (e1 e2 e3 e4 e5 : Tok) (mr : Str → Option Value)
    (hws : StrsAre us ws) (hcs : IntsAre cvs cs) (hlen : ws.length ≤ 33) (hlc : cs.length ≤ 33) (heq : cs.length = ws.length) (hsh : ∀ y ∈ ws, y.length ≤ 19)
    (hp1 : lw < lp) (hp2 : lc < lp) (hp3 : AllLt lp more)
    (F : Fr h₀ L s.heap (fun y => if y = Str.ofString "total" then some (.int 0 e1) else if y = Str.ofString "begin" then some (.int 0 e2) else if y = Str.ofString "parts" then some (.ref lp) else if y = Str.ofString "text" then some (.str (preOf x) e3)
      else if y = Str.ofString "worths" then some (.ref lc) else if y = Str.ofString "words" then some (.ref lw) else if y = Str.ofString "number" then some (.int num e4) else if y = Str.ofString "x" then some (.int x e5) else mr y))
    (N : News h₀ L s.heap ((lp, listOf #[] 0) :: ([(lw, listOf us.toArray cw), (lc, listOf cvs.toArray cc)] ++ more))) :
    wpAny (model prog w) (ktrTop dp un gd qual scope L a ccd [] outer) (exec forK (envX qual scope L a ccd []))
      (KDone h₀ L lp [(lw, listOf us.toArray cw), (lc, listOf cvs.toArray cc)] more (fun y => if y = Str.ofString "total" then some (.int 0 e1) else if y = Str.ofString "begin" then some (.int 0 e2) else if y = Str.ofString "parts" then some (.ref lp) else if y = Str.ofString "text" then some (.str (preOf x) e3)
      else if y = Str.ofString "worths" then some (.ref lc) else if y = Str.ofString "words" then some (.ref lw) else if y = Str.ofString "number" then some (.int num e4) else if y = Str.ofString "x" then some (.int x e5) else mr y) (runL x ws cs ws.length) s) (fun _ _ => False) s := by
  w_top off
  subst hbody
  subst hfb
  have key := hb
  rw [show (hd.heap_39 w.params).lookup 41 = some _ from by k_is] at key
  simp only [fnOf, Option.some.injEq, Obj.mk.injEq, Data.func.injEq, FuncData.mk.injEq, FuncBody.stmts.injEq, List.cons.injEq, Stmt.For.injEq, and_true] at key
  obtain ⟨-, -, ⟨-, rfl, -, ⟨-, ⟨-, -, ⟨-, -, -, -, -, -, -, -, -, rfl, -⟩, -⟩, -⟩, rfl, -⟩, -⟩ := key
  clear hb
  have kMark := kstMark
  (rename Fr _ _ _ _ => lF')
  with_unfolding_all refine' For_invVF lF' ?k1 ?k2 ?_
  case k1 => exact rfl
  case k2 => exact rfl
  repeat' (first | (k_unfold; (try dsimp only)) | (k_end; wrow_close) | walk_at "mine" | walk1 | (dsimp only; walk1) | fail "no step")
  skip
  (rename Fr _ _ _ _ => lF')
  (rename News _ _ _ _ => lN')
  (rename IsRange _ _ _ _ _ _ _ _ => rgX)
  refine' k_loop ws.length (runL x ws cs) (tt := e3) (tb := e2) (tl0 := e1) (by rfl) rgX ?k1 ?k2 lF' lN' ?k3 ?k4 ?k5 ?k6 ?turn ?done
  case k1 => exact small_one (by omega) (by omega) (by omega) (by omega)
  case k2 => exact rangeSize_nat _ _
  case k3 => with_unfolding_all rfl
  case k4 => with_unfolding_all rfl
  case k5 => with_unfolding_all rfl
  case k6 => rfl
  case done =>
    clear lF' lN'
    intro pvs cnt t1 t2 t3 u h tk tl htl hpa F' N'
    exact ⟨rfl, h, tk, pvs, cnt, tl, t1, t2, t3, u, rfl, htl, hpa, F', N'⟩
  case turn =>
    clear lF' lN' rgX
    intro k tk1 pvs cnt t1 t2 t3 u h tk tl own hk ho1 ho2 htl hpa F' N'
    have hTl := runL_len x cs hsh k
    have hwl := getD_len hsh k
    have hsl := sufOf_len x
    have hkc : k < cs.length := by omega
    have hpl : pvs.length ≤ 33 := by
      rw [hpa.length]
      exact Nat.le_trans (runL_parts_len x ws cs k) (by omega)
    have hoff : ∀ p ∈ (lw, listOf us.toArray cw) :: (lc, listOf cvs.toArray cc) :: (more ++ (tl ++ own)), p.1 ≠ lp := off_parts hp1 hp2 hp3 htl ho1
    simp only [List.cons_append, List.nil_append] at N'
    dsimp only at F'
    k_with "table" => skip
    repeat' (first | (k_unfold; (try dsimp only)) | (k_end; wrow_close) | walk_at "mine" | walk1 | (dsimp only; walk1) | fail "no step")
    · show KEnd _ _ _ _ _ _ _ _ _ _
      rw [run_last (by with_reducible assumption)]
      exact kEnd_push (P := (runL x ws cs k).parts) (by k_asm) (cb_drop (by with_reducible assumption) (by exact fun _ h => .tail _ h)) (by with_reducible assumption) (by with_reducible assumption) (by with_reducible assumption) (by with_reducible assumption) rfl (by with_unfolding_all rfl) (by with_unfolding_all rfl) (by with_unfolding_all rfl) (by intro z g1 g2 g3 g4 g5; simp only [if_neg g1, if_neg g2, if_neg g3, if_neg g4, if_neg g5])
    · show KEnd _ _ _ _ _ _ _ _ _ _
      rw [run_join (by with_reducible assumption) (by with_reducible assumption)]
      exact kEnd_same (by k_asm) (by with_reducible assumption) (by with_reducible assumption) (by with_reducible assumption) (by with_reducible assumption) (by with_unfolding_all rfl) (by with_unfolding_all rfl) (by with_unfolding_all rfl) (by intro z g1 g2 g3 g4 g5; simp only [if_neg g1, if_neg g2, if_neg g3, if_neg g4, if_neg g5])
    · show KEnd _ _ _ _ _ _ _ _ _ _
      rw [run_dot (by with_reducible assumption) (by with_reducible assumption) (by with_reducible assumption)]
      exact kEnd_push (P := (runL x ws cs k).parts) (by k_asm) (by with_reducible assumption) (by with_reducible assumption) (by with_reducible assumption) (by with_reducible assumption) (by with_reducible assumption) rfl (by with_unfolding_all rfl) (by with_unfolding_all rfl) (by with_unfolding_all rfl) (by intro z g1 g2 g3 g4 g5; simp only [if_neg g1, if_neg g2, if_neg g3, if_neg g4, if_neg g5])
    · show KEnd _ _ _ _ _ _ _ _ _ _
      rw [run_colon (by with_reducible assumption) (by with_reducible assumption) (by with_reducible assumption) (by with_reducible assumption)]
      exact kEnd_push (P := (runL x ws cs k).parts) (by k_asm) (by with_reducible assumption) (by with_reducible assumption) (by with_reducible assumption) (by with_reducible assumption) (by with_reducible assumption) rfl (by with_unfolding_all rfl) (by with_unfolding_all rfl) (by with_unfolding_all rfl) (by intro z g1 g2 g3 g4 g5; simp only [if_neg g1, if_neg g2, if_neg g3, if_neg g4, if_neg g5])
    · show KEnd _ _ _ _ _ _ _ _ _ _
      rw [run_line (by with_reducible assumption) (by with_reducible assumption) (by with_reducible assumption) (by with_reducible assumption)]
      exact kEnd_push (P := (runL x ws cs k).parts) (by k_asm) (by with_reducible assumption) (by with_reducible assumption) (by with_reducible assumption) (by with_reducible assumption) (by with_reducible assumption) rfl (by with_unfolding_all rfl) (by with_unfolding_all rfl) (by with_unfolding_all rfl) (by intro z g1 g2 g3 g4 g5; simp only [if_neg g1, if_neg g2, if_neg g3, if_neg g4, if_neg g5])
end Mine
end

section
open PySem PySem.W PyProof.Rows PySem.Spec
set_option maxRecDepth 100000
set_option maxHeartbeats 8000000
namespace Mine
section
variable {prog : Program} {w : World} {p : Program} {loose : List Str} {mean : ExcName → Option Value} {mg mb : Str → Option Value} {dp un : Nat} {gd : Option (List Code)} {cn : Str} {cs : Scope} {a : Addr} {ccd : Value} {cl : List (Str × Addr)} {outer : List Env} {A₀ : Around} {base h₀ : Heap} {L : Addr} {m : Str → Option Value} {news : List (Addr × Obj)} {s : Shared} {Q E : Value → Shared → Prop}
theorem pretty_use {x : Int} {t : Tok} (B : Below A₀ base outer h₀) (F : Fr h₀ L s.heap m) (X : (hd.heap_39 w.params).In h₀) (N : News h₀ L s.heap news) (T : Top p loose mean mg mb h₀) (hk : cs.kind = .function) (hx : -2 ^ 40 ≤ x ∧ x ≤ 2 ^ 40) (h1 : dp + 1 < recursionLimit) (hu : un + 8 < cLine)
    (ret : ∀ (t : Tok) (h' : Heap) (tk' : Nat), Fr h₀ L h' m → News h₀ L h' news → Q (.str (pf x) t) { s with heap := h', toks := tk' }) :
    wpAny (model prog w) (ktrTop dp un gd cn cs L a ccd cl outer) (call (.ref 29) [.int x t]) Q E s :=
  pretty_call prog w p loose mean mg mb news x t hx dp un gd cn cs a ccd cl outer A₀ base h₀ L m s Q E B F X N T hk trivial h1 hu ret
theorem strip_use {x : Str} {t : Tok} (B : Below A₀ base outer h₀) (F : Fr h₀ L s.heap m) (X : (hd.heap_39 w.params).In h₀) (N : News h₀ L s.heap news) (T : Top p loose mean mg mb h₀) (hk : cs.kind = .function) (hx : x.length ≤ 100000) (h1 : dp + 1 < recursionLimit) (hu : un + 8 < cLine)
    (ret : ∀ (t : Tok) (h' : Heap) (tk' : Nat), Fr h₀ L h' m → News h₀ L h' news → Q (.str (stripE x) t) { s with heap := h', toks := tk' }) :
    wpAny (model prog w) (ktrTop dp un gd cn cs L a ccd cl outer) (call (.ref 21) [.str x t]) Q E s :=
  strip_call prog w p loose mean mg mb news x t hx dp un gd cn cs a ccd cl outer A₀ base h₀ L m s Q E B F X N T hk trivial h1 hu ret
end
def keepP (z : Str) : Prop := z ≠ Str.ofString "start" ∧ z ≠ Str.ofString "end" ∧ z ≠ Str.ofString "due" ∧ z ≠ Str.ofString "message"
theorem p_map {m₁ m₀ : Str → Option Value} {T : Str} {t1 : Tok} (h1 : m₀ (Str.ofString "text") = some (.str T t1)) (hz : ∀ z, keepP z → m₁ z = m₀ z) :
    m₁ = (fun y => if y = Str.ofString "start" then m₁ y else if y = Str.ofString "end" then m₁ y else if y = Str.ofString "due" then m₁ y else if y = Str.ofString "message" then m₁ y else if y = Str.ofString "text" then some (.str T t1) else m₀ y) := by
  funext y
  by_cases a : y = Str.ofString "start"
  · rw [if_pos a]
  · rw [if_neg a]
    by_cases b : y = Str.ofString "end"
    · rw [if_pos b]
    · rw [if_neg b]
      by_cases c : y = Str.ofString "due"
      · rw [if_pos c]
      · rw [if_neg c]
        by_cases d : y = Str.ofString "message"
        · rw [if_pos d]
        · rw [if_neg d]
          by_cases e : y = Str.ofString "text"
          · rw [if_pos e, ← h1, e]
            exact hz _ (by rw [← e]; exact ⟨a, b, c, d⟩)
          · rw [if_neg e]; exact hz y ⟨a, b, c, d⟩
/-- what is asked of a part -/
def GoodP (T : Str) (q : Int × Int × Int) : Prop :=
  (-2 ^ 40 ≤ q.2.2 ∧ q.2.2 ≤ 2 ^ 40) ∧ (q.2.1 < 0 → stripE (Txt.slice T (some q.1) none) = pf q.2.2) ∧ (¬ q.2.1 < 0 → stripE (Txt.slice T (some q.1) (some q.2.1)) = pf q.2.2)
def PDone (h₀ : Heap) (L : Addr) (all : List (Addr × Obj)) (m₀ : Str → Option Value) (s : Shared) (f : Flow) (s' : Shared) : Prop :=
  f = .next ∧ ∃ h' tk' m', s' = { s with heap := h', toks := tk' } ∧ Fr h₀ L h' m' ∧ News h₀ L h' all ∧ ∀ z, keepP z → m' z = m₀ z
theorem slice_short {T : Str} (hT : T.length ≤ 1000) (l u : Option Int) : (Txt.slice T l u).length ≤ 100000 := Nat.le_trans (Txt.slice_le T l u) (by omega)
theorem p_absurd {x y : Str} (h : (x != y) = true) (e : x = y) : False := by
  rw [e] at h
  simp at h
theorem pEnd_of {h₀ h' : Heap} {L : Addr} {all : List (Addr × Obj)} {m₀ m' : Str → Option Value} {s : Shared} {tk' : Nat} (F : Fr h₀ L h' m') (N : News h₀ L h' all) (hz : ∀ z, keepP z → m' z = m₀ z) :
    PEnd h₀ L all keepP m₀ s .next { s with heap := h', toks := tk' } := ⟨rfl, h', tk', m', rfl, F, N, hz⟩
theorem p_text {m : Str → Option Value} {T : Str} {t1 : Tok} (et : m (Str.ofString "text") = some (.str T t1)) (z : Str) : (if z = Str.ofString "text" then some (.str T t1) else m z) = m z := by
  by_cases e : z = Str.ofString "text"
  · rw [if_pos e, e, et]
  · rw [if_neg e]
local macro_rules | `(tactic| walk_at "mine") => `(tactic| (k_here; k_dflt (first
  | ((with_reducible show wpAny _ _ (call (Value.ref 29) _) _ _ _); refine' pretty_use ?k1 ?k2 ?k3 ?k4 ?k5 ?kK ?kx ?kd ?ku ?kR; (case k1 => k_asm); (case k2 => k_asm); (case k3 => k_asm); (case k4 => k_asm); (case k5 => k_asm); (case kK => exact rfl); (case kx => assumption); (case kd => ktr_room); (case ku => ktr_units); intro t9 h9 tk9 F9 N9; (try dsimp only); (try k_fold))
  | ((with_reducible show wpAny _ _ (call (Value.ref 21) _) _ _ _); refine' strip_use ?k1 ?k2 ?k3 ?k4 ?k5 ?kK ?kx ?kd ?ku ?kR; (case k1 => k_asm); (case k2 => k_asm); (case k3 => k_asm); (case k4 => k_asm); (case k5 => k_asm); (case kK => exact rfl); (case kx => exact slice_short (by assumption) _ _); (case kd => ktr_room); (case ku => ktr_units); intro t9 h9 tk9 F9 N9; (try dsimp only); (try k_fold)))))
local macro_rules | `(tactic| walk_at "mine") => `(tactic| ((with_reducible show wpAny _ _ (pyIter (Value.ref _)) _ _ _); refine hold_of ?_))
theorem fill6 : hd.heap_39 = hd.heap_39 ∧ PySem.Challenge.rw_pg0045_01 = PySem.Challenge.rw_pg0045_01 := by
  k_fill
  exact ⟨rfl, rfl⟩
theorem inner_p (prog : Program) (w : World) (p : Program) (loose : List Str) (mean : ExcName → Option Value) (mg mb : Str → Option Value)
    {oc : Value} {od : Option Addr} {osl : Array (Option Value)} {name qual : Str} {params : Arguments} {body fb oe : List Stmt} {scope : Scope} {dV kV doc pm : Value} {an : Option Addr} {cdv ct : Value} {b0 b2 c1 c2 c3 c4 c5 c6 c7 c8 c9 forK forP : Stmt} {tgt itr : PySem.Expr} {fp : Pos}
    (hb : (hd.heap_39 w.params).lookup 41 = some ⟨oc, od, .func (fnOf name qual params body scope dV kV doc pm an cdv ct), osl⟩)
    (hbody : body = [b0, .For tgt itr fb oe fp, b2]) (hfb : fb = [c1, c2, c3, c4, c5, c6, c7, c8, c9, forK, forP])
    (dp un : Nat) (gd : Option (List Code)) (a : Addr) (ccd : Value) (outer : List Env) (A₀ : Around) (base h₀ : Heap) (L : Addr) (s : Shared)
    (B : Below A₀ base outer h₀) (X : (hd.heap_39 w.params).In h₀) (T : Top p loose mean mg mb h₀) (h1 : dp + 1 < recursionLimit) (hu : un + 8 < cLine)
    (lp : Addr) (pvs : List Value) (cnt : Nat) (news : List (Addr × Obj)) (text : Str) (parts : List (Int × Int × Int)) (t1 : Tok) (m : Str → Option Value)
    (hl : (lp, listOf pvs.toArray cnt) ∈ news) (hpa : PartsAre news pvs parts) (hT : text.length ≤ 1000) (hgood : ∀ q ∈ parts, GoodP text q)
    (et : m (Str.ofString "text") = some (.str text t1)) (ep : m (Str.ofString "parts") = some (.ref lp))
    (F : Fr h₀ L s.heap m) (N : News h₀ L s.heap news) :
    wpAny (model prog w) (ktrTop dp un gd qual scope L a ccd [] outer) (exec forP (envX qual scope L a ccd []))
      (PDone h₀ L news m s) (fun _ _ => False) s := by
  w_top off
  subst hbody
  subst hfb
  have key := hb
  rw [show (hd.heap_39 w.params).lookup 41 = some _ from by k_is] at key
  simp only [fnOf, Option.some.injEq, Obj.mk.injEq, Data.func.injEq, FuncData.mk.injEq, FuncBody.stmts.injEq, List.cons.injEq, Stmt.For.injEq, and_true] at key
  obtain ⟨-, -, ⟨-, rfl, -, ⟨-, ⟨-, -, ⟨-, -, -, -, -, -, -, -, -, -, rfl⟩, -⟩, -⟩, rfl, -⟩, -⟩ := key
  clear hb
  have kMark := kstMark
  have em : m = (fun y => if y = Str.ofString "parts" then some (.ref lp) else m y) := by
    funext y
    by_cases e : y = Str.ofString "parts"
    · rw [if_pos e, e, ep]
    · rw [if_neg e]
  have F' : Fr h₀ L s.heap (fun y => if y = Str.ofString "parts" then some (.ref lp) else m y) := by rw [← em]; exact F
  refine For_invTF F' ?_ (by intro _; rfl)
  clear F
  repeat' (first | (k_unfold; (try dsimp only)) | (k_end; wrow_close) | walk_at "mine" | walk1 | (dsimp only; walk1) | fail "no step")
  skip
  (rename Fr _ _ _ _ => lF')
  refine' p_loop keepP (by rfl) hl (m₀ := m) (by rw [em]; exact lF') N ?turn ?done
  case done =>
    clear lF'
    intro m₁ h tk hz F' N'
    exact ⟨rfl, h, tk, m₁, rfl, F', N', hz⟩
  case turn =>
    clear lF' N em ep
    intro i v m₁ s₁ own hv hoff hz F' N'
    obtain ⟨T1, n1, b, e, d, tb, te, td, rfl, hm, hq⟩ := hpa.get hv
    have hg := hgood _ (List.mem_of_getElem? hq)
    obtain ⟨hdb, hg1, hg2⟩ := hg
    dsimp only at hdb hg1 hg2
    have hTup : IsTup s₁.heap T1 #[.int b tb, .int e te, .int d td] := News.isTup N' (List.mem_append.mpr (.inl hm))
    clear hm hq hgood hpa hv hl
    rw [p_map et hz] at F'
    clear hz
    repeat' (first | (k_unfold; (try dsimp only)) | (k_end; wrow_close) | walk_at "mine" | walk1 | (dsimp only; walk1) | fail "no step")
    · exact (p_absurd (by with_reducible assumption) (hg1 (by with_reducible assumption))).elim
    · exact pEnd_of (by k_asm) (by k_asm) (by intro z hz; obtain ⟨z1, z2, z3, z4⟩ := hz; simp only [if_neg z1, if_neg z2, if_neg z3, if_neg z4]; exact p_text et z)
    · exact (p_absurd (by with_reducible assumption) (hg2 (by with_reducible assumption))).elim
    · exact pEnd_of (by k_asm) (by k_asm) (by intro z hz; obtain ⟨z1, z2, z3, z4⟩ := hz; simp only [if_neg z1, if_neg z2, if_neg z3, if_neg z4]; exact p_text et z)
end Mine
end

section
open PySem PySem.W PyProof.Rows PySem.Spec
set_option maxRecDepth 100000
namespace Mine
theorem sum_append_int (a b : List Int) : (a ++ b).sum = a.sum + b.sum := by
  induction a with
  | nil => simp
  | cons x a ih => simp only [List.cons_append, List.sum_cons, ih]; omega
theorem sub_one {l : List Nat} {n : Nat} (h : l.Sublist [n]) : l = [] ∨ l = [n] := by
  cases h with
  | cons _ h => exact .inl (List.sublist_nil.mp h)
  | cons_cons _ h => exact .inr (by rw [List.sublist_nil.mp h])
/-- the places of a sum of powers -/
theorem sub_bits : ∀ (n : Nat) (l : List Nat), l.Sublist (List.range n) → (0 ≤ (l.map pow2).sum ∧ (l.map pow2).sum < 2 ^ n) ∧ ∀ c : Int, (List.range n).filter (bitOf ((l.map pow2).sum + 2 ^ n * c)) = l
  | 0, l, h => by
    have e : l = [] := List.sublist_nil.mp h
    subst e
    exact ⟨⟨by decide, by decide⟩, fun _ => rfl⟩
  | n + 1, l, h => by
    rw [List.range_succ] at h
    obtain ⟨l1, l2, rfl, h1, h2⟩ := List.sublist_append_iff.mp h
    obtain ⟨⟨b1, b2⟩, ih⟩ := sub_bits n l1 h1
    have hp : (0 : Int) < 2 ^ n := kbt_pos n
    have hs : (2 : Int) ^ (n + 1) = 2 ^ n * 2 := Int.pow_succ ..
    have key : ∀ b : Int, (b = 0 ∧ l2 = []) ∨ (b = 1 ∧ l2 = [n]) → (l2.map pow2).sum = 2 ^ n * b → (0 ≤ ((l1 ++ l2).map pow2).sum ∧ ((l1 ++ l2).map pow2).sum < 2 ^ (n + 1)) ∧ ∀ c : Int, (List.range (n + 1)).filter (bitOf (((l1 ++ l2).map pow2).sum + 2 ^ (n + 1) * c)) = l1 ++ l2 := by
      intro b hb he
      rw [List.map_append, sum_append_int, he, hs]
      generalize (l1.map pow2).sum = N at *
      refine ⟨?_, fun c => ?_⟩
      · rcases hb with ⟨rfl, _⟩ | ⟨rfl, _⟩ <;> omega
      · have e1 : N + 2 ^ n * b + 2 ^ n * 2 * c = N + 2 ^ n * (b + 2 * c) := by
          rw [Int.mul_add, Int.mul_assoc]; omega
        rw [e1, List.range_succ, List.filter_append, ih]
        congr 1
        have e2 : (N + 2 ^ n * (b + 2 * c)) / 2 ^ n = b + 2 * c := by
          rw [Int.add_mul_ediv_left _ _ (Int.ne_of_gt hp), Int.ediv_eq_zero_of_lt b1 b2]
          omega
        rcases hb with ⟨rfl, rfl⟩ | ⟨rfl, rfl⟩
        · rw [List.filter_cons, if_neg]
          · rfl
          · unfold bitOf
            rw [e2, decide_eq_true_eq]
            omega
        · rw [List.filter_cons, if_pos]
          · rfl
          · unfold bitOf
            rw [e2, decide_eq_true_eq]
            omega
    rcases sub_one h2 with rfl | rfl
    · exact key 0 (.inl ⟨rfl, rfl⟩) (by simp)
    · exact key 1 (.inr ⟨rfl, rfl⟩) (by simp [pow2])
theorem pow_sum_pos : ∀ {l : List Nat}, l ≠ [] → 0 < (l.map pow2).sum
  | [], h => absurd rfl h
  | [i], _ => by
    simp only [List.map_cons, List.map_nil, List.sum_cons, List.sum_nil]
    have : 0 < pow2 i := kbt_pos i
    omega
  | i :: j :: r, _ => by
    have h1 := pow_sum_pos (l := j :: r) (by simp)
    have h2 : 0 < pow2 i := kbt_pos i
    rw [List.map_cons, List.sum_cons]
    omega
theorem places_sub (x : Int) : (placesOf x).Sublist (List.range 32) := List.filter_sublist
theorem rest_sum {l : List Nat} (hl : l.Sublist (List.range 32)) (c : Int) : placesOf ((l.map pow2).sum + 2 ^ 32 * c) = l ∧ restAt ((l.map pow2).sum + 2 ^ 32 * c) 32 = 2 ^ 32 * c := by
  obtain ⟨⟨b1, b2⟩, h⟩ := sub_bits 32 l hl
  refine ⟨h c, ?_⟩
  rw [restAt_eq, Int.add_mul_ediv_left _ _ (by decide), Int.ediv_eq_zero_of_lt b1 b2, Int.zero_add]
/-- words ws[j..k], worths cs[j..k] -/
def segW (x : Int) (j k : Nat) : List Str := ((wordsOf x).take (k + 1)).drop j
def segC (x : Int) (j k : Nat) : Int := (((worthsOf x).take (k + 1)).drop j).sum
theorem seg_law {x : Int} (hx : -2 ^ 40 ≤ x ∧ x ≤ 2 ^ 40) {j k : Nat} (hj : j ≤ k) (hk : k < (wordsOf x).length) : wordsOf (segC x j k) = segW x j k ∧ -2 ^ 40 ≤ segC x j k ∧ segC x j k ≤ 2 ^ 40 := by
  have hp := places_sub x
  have hr : restAt x 32 = 2 ^ 32 * (x / 2 ^ 32) := restAt_eq x 32
  unfold segC segW
  rw [wordsOf_eq, List.length_append, List.length_map] at hk
  rw [wordsOf_eq x, worthsOf_eq]
  by_cases h : k < (placesOf x).length
  · have hl : (((placesOf x).take (k + 1)).drop j).Sublist (List.range 32) := ((List.drop_sublist _ _).trans (List.take_sublist _ _)).trans hp
    have hne : ((placesOf x).take (k + 1)).drop j ≠ [] := by
      intro e
      have := congrArg List.length e
      simp only [List.length_drop, List.length_take, List.length_nil] at this
      omega
    rw [List.take_append_of_le_length (by rw [List.length_map]; omega), List.take_append_of_le_length (by rw [List.length_map]; omega), ← List.map_take, ← List.map_take, ← List.map_drop, ← List.map_drop]
    generalize ((placesOf x).take (k + 1)).drop j = l at *
    obtain ⟨⟨b1, b2⟩, _⟩ := sub_bits 32 l hl
    obtain ⟨e1, e2⟩ := rest_sum hl 0
    have hpos := pow_sum_pos hne
    rw [Int.mul_zero, Int.add_zero] at e1 e2
    refine ⟨?_, by omega, by omega⟩
    rw [wordsOf_eq, e1]
    unfold lastW
    rw [if_pos ⟨e2, by omega⟩, List.append_nil]
  · have hc : ¬ (restAt x 32 = 0 ∧ x ≠ 0) := by
      intro c
      unfold lastW at hk
      rw [if_pos c] at hk
      simp only [List.length_nil] at hk
      omega
    have ew : lastW x = [baseText "0x" 16 (restAt x 32)] := by unfold lastW; rw [if_neg hc]
    have ec : lastC x = [restAt x 32] := by unfold lastC; rw [if_neg hc]
    rw [ew] at hk
    simp only [List.length_cons, List.length_nil] at hk
    have hl : ((placesOf x).drop j).Sublist (List.range 32) := (List.drop_sublist _ _).trans hp
    rw [ew, ec, List.take_of_length_le (by rw [List.length_append, List.length_map]; simp only [List.length_cons, List.length_nil]; omega), List.take_of_length_le (by rw [List.length_append, List.length_map]; simp only [List.length_cons, List.length_nil]; omega), List.drop_append_of_le_length (by rw [List.length_map]; omega), List.drop_append_of_le_length (by rw [List.length_map]; omega), ← List.map_drop, ← List.map_drop, sum_append_int]
    have hx0 : restAt x 32 = 0 → placesOf x = [] := by
      intro h0
      have : x = 0 := Classical.byContradiction fun d => hc ⟨h0, d⟩
      rw [this]
      decide +kernel
    have htop : restAt x 32 = 2 ^ 40 → placesOf x = [] := by
      intro h0
      have : x = 2 ^ 40 := by
        unfold restAt at h0
        have := Int.emod_nonneg x (show (2 : Int) ^ 32 ≠ 0 by decide)
        omega
      rw [this]
      decide +kernel
    obtain ⟨⟨b1, b2⟩, _⟩ := sub_bits 32 _ hl
    obtain ⟨e1, e2⟩ := rest_sum hl (x / 2 ^ 32)
    rw [← hr] at e1 e2
    have hs : (([restAt x 32] : List Int)).sum = restAt x 32 := by simp
    rw [hs]
    have hd : placesOf x = [] → ((List.drop j (placesOf x)).map pow2).sum = 0 := by
      intro e
      rw [e]
      simp
    refine ⟨?_, ?_⟩
    · rw [wordsOf_eq, e1]
      congr 1
      unfold lastW
      rw [e2, if_neg]
      rintro ⟨c1, c2⟩
      rw [hd (hx0 c1), c1] at c2
      exact c2 rfl
    · have hq : (2 : Int) ^ 40 = 1099511627776 := by decide
      have hq2 : (2 : Int) ^ 32 = 4294967296 := by decide
      rw [hq] at *
      rw [hq2] at *
      generalize ((List.drop j (placesOf x)).map pow2).sum = N at *
      by_cases h9 : restAt x 32 = 1099511627776
      · have := hd (htop h9)
        omega
      · omega
end Mine
end

section
open PySem PySem.W PyProof.Rows PySem.Spec
set_option maxRecDepth 100000
namespace Mine
section
open PySem.StrLaws PySem.Builtin.Str
theorem at_one {x y : Str} {c hi i : Nat} (hy : y.cps.toList = [c]) (hh : hi ≤ x.cps.toList.length) : At x y hi i ↔ (i < hi ∧ x.cps.toList[i]? = some c) := by
  have e1 : y.length = 1 := by
    have := congrArg List.length hy
    simpa [Str.length] using this
  unfold At
  rw [subAt_eq, e1, hy, beq_iff_eq]
  constructor
  · rintro ⟨h1, h2⟩
    refine ⟨by omega, ?_⟩
    have h3 : i < x.cps.toList.length := by omega
    rw [List.drop_eq_getElem_cons h3] at h2
    rw [List.getElem?_eq_getElem h3]
    exact congrArg some (List.cons.inj h2).1
  · rintro ⟨h1, h2⟩
    refine ⟨by omega, ?_⟩
    obtain ⟨h3, h4⟩ := List.getElem?_eq_some_iff.mp h2
    rw [List.drop_eq_getElem_cons h3, h4]
    rfl
theorem cons_of_get {l : List Nat} {a : Nat} (h : l[0]? = some a) : ∃ r, l = a :: r := by
  cases l with
  | nil => cases h
  | cons b r => exact ⟨r, by rw [Option.some.inj (show some b = some a from h)]⟩
theorem first_at {x y : Str} {hi : Nat} : (occurrences x y 0 hi 1 = [] ∧ ∀ i, ¬ At x y hi i) ∨ ∃ i r, occurrences x y 0 hi 1 = i :: r ∧ At x y hi i ∧ ∀ k, k < i → ¬ At x y hi k := by
  have all : ∀ i, At x y hi i → i ∈ List.range' 0 (hi + 1 - 0) := fun i h => List.mem_range'_1.mpr ⟨Nat.zero_le _, by have := h.1; omega⟩
  rw [occ_eq]
  rcases occ_first x y hi 1 (Nat.le_refl 1) (List.range' 0 (hi + 1 - 0)) 0 (fun _ _ => Nat.zero_le _) with ⟨e, none⟩ | ⟨pre, i, post, split, e, here, before⟩
  · exact .inl ⟨by rw [e], fun i h => none i (all i h) h⟩
  · obtain ⟨r, er⟩ := cons_of_get ((Array.getElem?_toList ..).trans e)
    exact .inr ⟨i, r, er, here, fun k hk => before k (range'_split split k hk)⟩
theorem last_at {x y : Str} {hi : Nat} : (lastOccurrence x y 0 hi = none ∧ ∀ i, ¬ At x y hi i) ∨ ∃ i, lastOccurrence x y 0 hi = some i ∧ At x y hi i ∧ ∀ k, i < k → ¬ At x y hi k := by
  have all : ∀ i, At x y hi i → i ∈ [] ++ List.range' 0 (hi + 1 - 0) := fun i h => List.mem_range'_1.mpr ⟨Nat.zero_le _, by have := h.1; omega⟩
  have told : LastOk x y hi ([] ++ List.range' 0 (hi + 1 - 0)) (lastOccurrence x y 0 hi) := by
    rw [last_eq]
    exact last_run x y hi _ [] none (fun _ h => nomatch h) (fun _ h => nomatch h) (List.pairwise_lt_range' ..)
  cases e : lastOccurrence x y 0 hi with
  | none =>
    rw [e] at told
    exact .inl ⟨rfl, fun i h => told i (all i h) h⟩
  | some i =>
    rw [e] at told
    exact .inr ⟨i, rfl, told.1, fun k hk h => told.2 k (all k h) hk h⟩
/-- where a sign is first found below hi -/
def firstIn (L : List Nat) (c hi : Nat) (v : Int) : Prop := (v = -1 ∧ ∀ i, i < hi → L[i]? ≠ some c) ∨ ∃ i : Nat, v = i ∧ i < hi ∧ L[i]? = some c ∧ ∀ k, k < i → L[k]? ≠ some c
def lastIn (L : List Nat) (c hi : Nat) (v : Int) : Prop := (v = -1 ∧ ∀ i, i < hi → L[i]? ≠ some c) ∨ ∃ i : Nat, v = i ∧ i < hi ∧ L[i]? = some c ∧ ∀ k, i < k → k < hi → L[k]? ≠ some c
theorem from_nat (n k : Nat) : fromIndex n (k : Int) = k := by
  unfold fromIndex
  rw [if_neg (by omega)]
  omega
theorem from_zero (n : Nat) : fromIndex n 0 = 0 := from_nat n 0
theorem find_first {x y : Str} {c : Nat} (hy : y.cps.toList = [c]) : firstIn x.cps.toList c x.cps.toList.length (Txt.find x y) := by
  have hl : x.length = x.cps.toList.length := by simp [Str.length]
  unfold Txt.find
  rw [hl]
  rcases first_at (x := x) (y := y) (hi := x.cps.toList.length) with ⟨e, h⟩ | ⟨i, r, e, h1, h2⟩
  · rw [e]
    exact .inl ⟨rfl, fun i hi hc => h i ((at_one hy (Nat.le_refl _)).mpr ⟨hi, hc⟩)⟩
  · rw [e]
    obtain ⟨h3, h4⟩ := (at_one hy (Nat.le_refl _)).mp h1
    exact .inr ⟨i, rfl, h3, h4, fun k hk hc => h2 k hk ((at_one hy (Nat.le_refl _)).mpr ⟨by omega, hc⟩)⟩
theorem find4_first {x y : Str} {c hi : Nat} (hy : y.cps.toList = [c]) (hh : hi ≤ x.cps.toList.length) : firstIn x.cps.toList c hi (find4 x y 0 (hi : Int)) := by
  have hl : x.length = x.cps.toList.length := by simp [Str.length]
  unfold find4
  rw [from_zero, from_nat, hl, Nat.min_eq_left hh]
  rcases first_at (x := x) (y := y) (hi := hi) with ⟨e, h⟩ | ⟨i, r, e, h1, h2⟩
  · rw [e]
    exact .inl ⟨rfl, fun i hi hc => h i ((at_one hy hh).mpr ⟨hi, hc⟩)⟩
  · rw [e]
    obtain ⟨h3, h4⟩ := (at_one hy hh).mp h1
    exact .inr ⟨i, rfl, h3, h4, fun k hk hc => h2 k hk ((at_one hy hh).mpr ⟨by omega, hc⟩)⟩
theorem rfind4_last {x y : Str} {c hi : Nat} (hy : y.cps.toList = [c]) (hh : hi ≤ x.cps.toList.length) : lastIn x.cps.toList c hi (rfind4 x y 0 (hi : Int)) := by
  have hl : x.length = x.cps.toList.length := by simp [Str.length]
  unfold rfind4
  rw [from_zero, from_nat, hl, Nat.min_eq_left hh]
  rcases last_at (x := x) (y := y) (hi := hi) with ⟨e, h⟩ | ⟨i, e, h1, h2⟩
  · rw [e]
    exact .inl ⟨rfl, fun i hi hc => h i ((at_one hy hh).mpr ⟨hi, hc⟩)⟩
  · rw [e]
    obtain ⟨h3, h4⟩ := (at_one hy hh).mp h1
    exact .inr ⟨i, rfl, h3, h4, fun k hk hk2 hc => h2 k hk ((at_one hy hh).mpr ⟨hk2, hc⟩)⟩
theorem slice_nat {x : Str} {a b : Nat} (hab : a ≤ b) (hb : b ≤ x.cps.toList.length) : (Txt.slice x (some (a : Int)) (some (b : Int))).cps.toList = (x.cps.toList.drop a).take (b - a) := by
  have h := sliceText_nat x hab (show b ≤ x.length by simpa [Str.length] using hb)
  show (sliceText x (some (a : Int)) (some (b : Int))).cps.toList = _
  rw [h]
theorem slice_end {x : Str} {a : Nat} (ha : a ≤ x.cps.toList.length) : (Txt.slice x (some (a : Int)) none).cps.toList = x.cps.toList.drop a := by
  have h := sliceText_from (x := x) (i := (a : Int)) ⟨by omega, by omega⟩
  show (sliceText x (some (a : Int)) none).cps.toList = _
  rw [h]
  show (List.drop (a : Int).toNat x.cps.toList).take _ = _
  rw [Int.toNat_natCast]
  exact List.take_of_length_le (by rw [List.length_drop]; omega)
end
/-- no colon, no line end -/
def NoEnd (l : List Nat) : Prop := ∀ c ∈ l, c ≠ 58 ∧ c ≠ 10
def NoDot (l : List Nat) : Prop := ∀ c ∈ l, c ≠ 46
def DotOrNone (l : List Nat) : Prop := l = [] ∨ ∃ m, l = m ++ [46]
def EndOrNone (l : List Nat) : Prop := l = [] ∨ ∃ c m, l = c :: m ∧ (c = 58 ∨ c = 10)
theorem in_left {u v : List Nat} {i c : Nat} (hi : i < u.length) (h : (u ++ v)[i]? = some c) : c ∈ u := by
  rw [List.getElem?_append_left hi] at h
  exact List.mem_of_getElem? h
theorem strip_core {x : Str} {a seg b : List Nat} (hx : x.cps.toList = a ++ seg ++ b) (ha : NoEnd a) (hs : NoEnd seg) (hd : NoDot seg) (ha' : DotOrNone a) (hb : EndOrNone b) : (stripE x).cps.toList = seg := by
  have hl : x.length = x.cps.toList.length := by simp [Str.length]
  have hlen : x.cps.toList.length = a.length + seg.length + b.length := by rw [hx, List.length_append, List.length_append]
  have hc : ∀ (i c : Nat), i < a.length + seg.length → x.cps.toList[i]? = some c → c ≠ 58 ∧ c ≠ 10 := by
    intro i c hi h
    rw [hx] at h
    rcases List.mem_append.mp (in_left (by rw [List.length_append]; exact hi) h) with h | h
    · exact ha c h
    · exact hs c h
  have hbe : ∀ c m, b = c :: m → x.cps.toList[a.length + seg.length]? = some c := by
    intro c m e
    rw [hx, e, List.getElem?_append_right (by rw [List.length_append]; omega), List.length_append, Nat.sub_self]
    rfl
  -- the first line end
  have hn := find_first (x := x) (y := Str.ofString "\n") (c := 10) (by decide)
  obtain ⟨r, hr1, hr2, hr3, hr4⟩ : ∃ r : Nat, (if 0 ≤ Txt.find x (Str.ofString "\n") then Txt.find x (Str.ofString "\n") else (x.length : Int)) = (r : Int) ∧ r ≤ x.cps.toList.length ∧ a.length + seg.length ≤ r ∧ ((∃ m, b = 58 :: m) → a.length + seg.length < r) ∧ (¬ (∃ m, b = 58 :: m) → r = a.length + seg.length) := by
    rcases hn with ⟨e, h⟩ | ⟨i, e, h1, h2, h3⟩
    · rw [e, if_neg (by decide)]
      refine ⟨x.length, rfl, by omega, by omega, ?_, ?_⟩
      · rintro ⟨m, rfl⟩
        rw [hl, hlen, List.length_cons]
        omega
      · intro hno
        rcases hb with rfl | ⟨c, m, rfl, rfl | rfl⟩
        · rw [hl, hlen]; rfl
        · exact absurd ⟨m, rfl⟩ hno
        · exact absurd (hbe 10 m rfl) (h _ (by rw [hlen, List.length_cons]; omega))
    · rw [e, if_pos (by omega)]
      have hge : a.length + seg.length ≤ i := by
        rcases Nat.lt_or_ge i (a.length + seg.length) with h | h
        · exact absurd rfl (hc i 10 h h2).2
        · exact h
      refine ⟨i, rfl, by omega, hge, ?_, ?_⟩
      · rintro ⟨m, rfl⟩
        rcases Nat.lt_or_ge (a.length + seg.length) i with h | h
        · exact h
        · have : i = a.length + seg.length := by omega
          rw [this, hbe 58 m rfl] at h2
          cases h2
      · intro hno
        rcases hb with rfl | ⟨c, m, rfl, rfl | rfl⟩
        · rw [hlen] at h1
          simp only [List.length_nil] at h1
          omega
        · exact absurd ⟨m, rfl⟩ hno
        · rcases Nat.lt_or_ge (a.length + seg.length) i with h | h
          · exact absurd (hbe 10 m rfl) (h3 _ h)
          · omega
  -- the first colon
  have hq := find4_first (x := x) (y := Str.ofString ":") (c := 58) (hi := r) (by decide) hr2
  have hend : (if 0 ≤ find4 x (Str.ofString ":") 0 (r : Int) then find4 x (Str.ofString ":") 0 (r : Int) else (r : Int)) = ((a.length + seg.length : Nat) : Int) := by
    rcases hq with ⟨e, h⟩ | ⟨i, e, h1, h2, h3⟩
    · rw [e, if_neg (by decide)]
      by_cases hm : ∃ m, b = 58 :: m
      · obtain ⟨m, hm'⟩ := hm
        exact absurd (hbe 58 m hm') (h _ (hr4.1 ⟨m, hm'⟩))
      · rw [hr4.2 hm]
    · rw [e, if_pos (by omega)]
      have hge : a.length + seg.length ≤ i := by
        rcases Nat.lt_or_ge i (a.length + seg.length) with h | h
        · exact absurd rfl (hc i 58 h h2).1
        · exact h
      by_cases hm : ∃ m, b = 58 :: m
      · obtain ⟨m, hm'⟩ := hm
        rcases Nat.lt_or_ge (a.length + seg.length) i with h | h
        · exact absurd (hbe 58 m hm') (h3 _ h)
        · have : i = a.length + seg.length := by omega
          rw [this]
      · have := hr4.2 hm
        omega
  unfold stripE
  rw [hr1]
  unfold stripR
  rw [hend]
  have hp := rfind4_last (x := x) (y := Str.ofString ".") (c := 46) (hi := a.length + seg.length) (by decide) (by omega)
  have hst : (if 0 ≤ rfind4 x (Str.ofString ".") 0 ((a.length + seg.length : Nat) : Int) then rfind4 x (Str.ofString ".") 0 ((a.length + seg.length : Nat) : Int) + 1 else 0) = (a.length : Int) := by
    have hin : ∀ i c, a.length ≤ i → i < a.length + seg.length → x.cps.toList[i]? = some c → c ∈ seg := by
      intro i c h1 h2 h
      rw [hx, List.append_assoc, List.getElem?_append_right h1] at h
      exact in_left (by omega) h
    have hdot : ∀ m, a = m ++ [46] → x.cps.toList[a.length - 1]? = some 46 ∧ 0 < a.length := by
      rintro m rfl
      refine ⟨?_, by rw [List.length_append]; simp⟩
      rw [hx, List.append_assoc, List.append_assoc, List.length_append, List.getElem?_append_right (by simp)]
      simp
    rcases hp with ⟨e, h⟩ | ⟨i, e, h1, h2, h3⟩
    · rw [e, if_neg (by decide)]
      rcases ha' with rfl | ⟨m, hm⟩
      · rfl
      · obtain ⟨h4, h5⟩ := hdot m hm
        exact absurd h4 (h _ (by omega))
    · rw [e, if_pos (by omega)]
      have hlt : i < a.length := by
        rcases Nat.lt_or_ge i a.length with h | h
        · exact h
        · exact absurd rfl (hd 46 (hin i 46 h h1 h2))
      rcases ha' with rfl | ⟨m, hm⟩
      · simp at hlt
      · obtain ⟨h4, h5⟩ := hdot m hm
        rcases Nat.lt_or_ge i (a.length - 1) with h | h
        · exact absurd h4 (h3 _ h (by omega))
        · omega
  rw [hst, slice_nat (by omega) (by omega), hx, List.append_assoc, List.drop_left, Nat.add_sub_cancel_left, List.take_left]
end Mine
end

section
open PySem PySem.W PyProof.Rows PySem.Spec
set_option maxRecDepth 100000
namespace Mine
def toL (y : Str) : List Nat := y.cps.toList
theorem toL_append (a b : Str) : toL (a ++ b) = toL a ++ toL b := by
  unfold toL
  rw [Str.cps_append, Array.toList_append]
theorem toL_length (a : Str) : (toL a).length = a.length := by simp [toL, Str.length]
def withSep (l : List Str) : List Nat := l.flatMap fun w => toL w ++ [44, 32]
theorem join_snoc : ∀ (l : List Str) (w : Str), toL (Str.join (Str.ofString ", ") (l ++ [w])) = withSep l ++ toL w
  | [], w => rfl
  | [v], w => by
    show toL (Str.join (Str.ofString ", ") (v :: w :: [])) = _
    unfold toL
    rw [join_more]
    simp [withSep, toL, Str.join]
  | v :: u :: r, w => by
    have ih := join_snoc (u :: r) w
    show toL (Str.join (Str.ofString ", ") (v :: u :: (r ++ [w]))) = _
    unfold toL
    rw [join_more]
    have e : Str.join (Str.ofString ", ") (u :: (r ++ [w])) = Str.join (Str.ofString ", ") (u :: r ++ [w]) := rfl
    rw [e]
    unfold toL at ih
    rw [ih]
    simp [withSep, toL]
theorem take_drop_succ {α : Type} {l : List α} {j k : Nat} (d : α) (hj : j ≤ k) (hk : k < l.length) : (l.take (k + 1)).drop j = (l.take k).drop j ++ [l.getD k d] := by
  rw [List.take_add_one, List.getElem?_eq_getElem hk, List.drop_append_of_le_length (by rw [List.length_take]; omega), List.getD_eq_getElem?_getD, List.getElem?_eq_getElem hk]
  rfl
theorem clean_noEnd {l : List Nat} (h : l.all CleanC = true) : NoEnd l ∧ NoDot l := by
  have key : ∀ c ∈ l, c ≠ 44 ∧ c ≠ 46 ∧ c ≠ 58 ∧ c ≠ 10 := by
    intro c hc
    have := List.all_eq_true.mp h c hc
    unfold CleanC at this
    simp only [Bool.and_eq_true, bne_iff_ne] at this
    obtain ⟨⟨⟨a, b⟩, c⟩, d⟩ := this
    exact ⟨a, b, c, d⟩
  exact ⟨fun c hc => (key c hc).2.2, fun c hc => (key c hc).2.1⟩
theorem noEnd_append {a b : List Nat} (ha : NoEnd a) (hb : NoEnd b) : NoEnd (a ++ b) := fun c hc => (List.mem_append.mp hc).elim (ha c) (hb c)
theorem noDot_append {a b : List Nat} (ha : NoDot a) (hb : NoDot b) : NoDot (a ++ b) := fun c hc => (List.mem_append.mp hc).elim (ha c) (hb c)
theorem sep_ok : NoEnd [44, 32] ∧ NoDot [44, 32] := by
  constructor <;> intro c hc <;> simp only [List.mem_cons, List.not_mem_nil, or_false] at hc <;> omega
theorem noEnd_nil : NoEnd [] := fun _ h => nomatch h
theorem noDot_nil : NoDot [] := fun _ h => nomatch h
theorem withSep_ok : ∀ {l : List Str}, (∀ y ∈ l, CleanS y = true) → NoEnd (withSep l) ∧ NoDot (withSep l)
  | [], _ => ⟨noEnd_nil, noDot_nil⟩
  | w :: r, h => by
    obtain ⟨i1, i2⟩ := withSep_ok (l := r) fun y hy => h y (.tail _ hy)
    obtain ⟨c1, c2⟩ := clean_noEnd (h w (.head _))
    have e : withSep (w :: r) = (toL w ++ [44, 32]) ++ withSep r := rfl
    rw [e]
    exact ⟨noEnd_append (noEnd_append c1 sep_ok.1) i1, noDot_append (noDot_append c2 sep_ok.2) i2⟩
theorem sub_mem {l : List Str} {j k : Nat} {y : Str} (h : y ∈ (l.take k).drop j) : y ∈ l := List.mem_of_mem_take (List.mem_of_mem_drop h)
section
variable {num : Int} (hn : -2 ^ 40 ≤ num ∧ num ≤ 2 ^ 40) {j k : Nat} (hj : j ≤ k) (hk : k < (wordsOf num).length)
include hj hk
theorem segC_step : segC num j k = (((worthsOf num).take k).drop j).sum + (worthsOf num).getD k 0 := by
  unfold segC
  rw [take_drop_succ 0 hj (by rw [worths_len]; exact hk), sum_append_int]
  simp
theorem seg_ok : NoEnd (withSep (((wordsOf num).take k).drop j) ++ toL ((wordsOf num).getD k Str.empty)) ∧ NoDot (withSep (((wordsOf num).take k).drop j) ++ toL ((wordsOf num).getD k Str.empty)) := by
  have hw := words_clean num
  obtain ⟨a, b⟩ := withSep_ok fun y hy => hw y (sub_mem hy)
  have hm : (wordsOf num).getD k Str.empty ∈ wordsOf num := by
    rw [List.getD_eq_getElem?_getD, List.getElem?_eq_getElem hk]
    exact List.getElem_mem _
  obtain ⟨c, d⟩ := clean_noEnd (hw _ hm)
  exact ⟨noEnd_append a c, noDot_append b d⟩
include hn
theorem pf_seg : toL (pf (segC num j k)) = withSep (((wordsOf num).take k).drop j) ++ toL ((wordsOf num).getD k Str.empty) := by
  unfold pf Txt.join
  rw [StrLaws.glued_eq_join, (seg_law hn hj hk).1]
  unfold segW
  rw [take_drop_succ Str.empty hj hk, join_snoc]
end
/-- a part, to be read in the text -/
def PartOk (fin : Bool) (T : List Nat) (q : Int × Int × Int) : Prop :=
  ∃ P a seg t : List Nat, T = P ++ a ++ seg ++ t ∧ q.1 = (P.length : Int) ∧ NoEnd a ∧ DotOrNone a ∧ NoEnd seg ∧ NoDot seg ∧ seg = toL (pf q.2.2) ∧ (-2 ^ 40 ≤ q.2.2 ∧ q.2.2 ≤ 2 ^ 40) ∧
    ((q.2.1 = -1 ∧ EndOrNone t ∧ (fin = false → t ≠ [])) ∨ q.2.1 = ((P.length + a.length + seg.length : Nat) : Int))
theorem PartOk.more {fin : Bool} {T u : List Nat} {q : Int × Int × Int} (h : PartOk false T q) : PartOk fin (T ++ u) q := by
  obtain ⟨P, a, seg, t, rfl, h1, h2, h3, h4, h5, h6, h7, h8⟩ := h
  refine ⟨P, a, seg, t ++ u, by simp only [List.append_assoc], h1, h2, h3, h4, h5, h6, h7, ?_⟩
  rcases h8 with ⟨e, h9, h10⟩ | e
  · rcases h9 with rfl | ⟨c, m, rfl, hc⟩
    · exact absurd rfl (h10 rfl)
    · exact .inl ⟨e, .inr ⟨c, m ++ u, rfl, hc⟩, fun _ h => nomatch h⟩
  · exact .inr e
theorem PartOk.good {fin : Bool} {T : Str} {q : Int × Int × Int} (h : PartOk fin (toL T) q) : GoodP T q := by
  obtain ⟨P, a, seg, t, hT, h1, h2, h3, h4, h5, h6, h7, h8⟩ := h
  have hlen : (toL T).length = P.length + a.length + seg.length + t.length := by rw [hT]; simp only [List.length_append]
  refine ⟨h7, fun hneg => ?_, fun hpos => ?_⟩
  · rcases h8 with ⟨e, h9, _⟩ | e
    · rw [h1]
      apply str_eq
      show (stripE _).cps.toList = toL (pf q.2.2)
      rw [← h6]
      refine strip_core (a := a) (b := t) ?_ h2 h4 h5 h3 h9
      rw [slice_end (show P.length ≤ (toL T).length by omega)]
      show (toL T).drop P.length = _
      rw [hT, List.append_assoc, List.append_assoc, List.drop_left, List.append_assoc]
    · omega
  · rcases h8 with ⟨e, _, _⟩ | e
    · omega
    · rw [h1, e]
      apply str_eq
      show (stripE _).cps.toList = toL (pf q.2.2)
      rw [← h6]
      refine strip_core (a := a) (b := []) ?_ h2 h4 h5 h3 (.inl rfl)
      rw [slice_nat (by omega) (show P.length + a.length + seg.length ≤ (toL T).length by omega)]
      show ((toL T).drop P.length).take _ = _
      rw [hT, List.append_assoc, List.append_assoc, List.drop_left, ← List.append_assoc, List.append_nil]
      have e2 : P.length + a.length + seg.length - P.length = (a ++ seg).length := by rw [List.length_append]; omega
      rw [e2, List.take_left]
/-- between the turns -/
def Inv (num : Int) (k : Nat) (st : LSt) : Prop :=
  ∃ P a j, j ≤ k ∧ toL st.text = P ++ a ++ withSep (((wordsOf num).take k).drop j) ∧ st.begin = (List.length P : Int) ∧ NoEnd a ∧ DotOrNone a ∧ st.total = (((worthsOf num).take k).drop j).sum ∧ ∀ q ∈ st.parts, PartOk false (toL st.text) q
theorem preOf_ok (x : Int) : NoEnd (toL (preOf x)) ∧ DotOrNone (toL (preOf x)) := by
  have key : ∀ j, NoEnd (toL ([Str.ofString "", Str.ofString ".", Str.ofString "dis."].getD j Str.empty)) ∧ DotOrNone (toL ([Str.ofString "", Str.ofString ".", Str.ofString "dis."].getD j Str.empty)) := by
    intro j
    have h0 : toL (Str.ofString "") = [] := by decide
    have h1 : toL (Str.ofString ".") = [46] := by decide
    have h2 : toL (Str.ofString "dis.") = [100, 105, 115] ++ [46] := by decide
    match j with
    | 0 =>
      show NoEnd (toL (Str.ofString "")) ∧ DotOrNone (toL (Str.ofString ""))
      rw [h0]
      exact ⟨noEnd_nil, .inl rfl⟩
    | 1 =>
      show NoEnd (toL (Str.ofString ".")) ∧ DotOrNone (toL (Str.ofString "."))
      rw [h1]
      exact ⟨fun c hc => by rw [List.mem_singleton.mp hc]; decide, .inr ⟨[], rfl⟩⟩
    | 2 =>
      show NoEnd (toL (Str.ofString "dis.")) ∧ DotOrNone (toL (Str.ofString "dis."))
      rw [h2]
      exact ⟨fun c hc => by simp only [List.cons_append, List.nil_append, List.mem_cons, List.not_mem_nil, or_false] at hc; omega, .inr ⟨_, rfl⟩⟩
    | _ + 3 => exact ⟨noEnd_nil, .inl rfl⟩
  exact key _
theorem sufOf_ok (x : Int) : EndOrNone (toL (sufOf x)) := by
  have key : ∀ j, EndOrNone (toL ([Str.ofString ": 1.5", Str.ofString "", Str.ofString "\n.:"].getD j Str.empty)) := by
    intro j
    have h0 : toL (Str.ofString ": 1.5") = 58 :: [32, 49, 46, 53] := by decide
    have h1 : toL (Str.ofString "") = [] := by decide
    have h2 : toL (Str.ofString "\n.:") = 10 :: [46, 58] := by decide
    match j with
    | 0 =>
      show EndOrNone (toL (Str.ofString ": 1.5"))
      rw [h0]
      exact .inr ⟨_, _, rfl, .inl rfl⟩
    | 1 =>
      show EndOrNone (toL (Str.ofString ""))
      rw [h1]
      exact .inl rfl
    | 2 =>
      show EndOrNone (toL (Str.ofString "\n.:"))
      rw [h2]
      exact .inr ⟨_, _, rfl, .inr rfl⟩
    | _ + 3 => exact .inl rfl
  exact key _
section
variable {x num : Int} (hn : -2 ^ 40 ≤ num ∧ num ≤ 2 ^ 40)
theorem inv_zero : Inv num 0 (runL x (wordsOf num) (worthsOf num) 0) := by
  refine ⟨[], toL (preOf x), 0, Nat.le_refl _, ?_, rfl, (preOf_ok x).1, (preOf_ok x).2, ?_, fun _ h => nomatch h⟩
  · show toL (preOf x) = _
    simp [withSep]
  · show (0 : Int) = _
    simp
include hn
theorem inv_step {k : Nat} (hk : k + 1 < (wordsOf num).length) {st : LSt} (h : Inv num k st) : Inv num (k + 1) (stepL x (wordsOf num) (worthsOf num) k st) := by
  obtain ⟨P, a, j, hj, hT, hb, ha, ha', ht, hp⟩ := h
  have hk' : k < (wordsOf num).length := by omega
  obtain ⟨s1, s2⟩ := seg_ok hj hk'
  have hpf := pf_seg hn hj hk'
  have hbd := (seg_law hn hj hk').2
  have hC := segC_step hj hk'
  have e1 : toL (Str.ofString ", ") = [44, 32] := by decide
  have e2 : toL (Str.ofString ".") = [46] := by decide
  have e3 : toL (Str.ofString ":") = [58] := by decide
  have e4 : toL (Str.ofString "\n") = [10] := by decide
  have htk : ∀ {α : Type} (l : List α), (l.take (k + 1)).drop (k + 1) = [] := fun l => List.drop_eq_nil_of_le (by rw [List.length_take]; omega)
  have old : ∀ u : Str, ∀ q ∈ st.parts, PartOk false (toL (st.text ++ (wordsOf num).getD k Str.empty ++ u)) q := by
    intro u q hq
    rw [toL_append, toL_append, List.append_assoc]
    exact (hp q hq).more
  have hTx : ∀ u : Str, toL (st.text ++ (wordsOf num).getD k Str.empty ++ u) = P ++ a ++ (withSep (((wordsOf num).take k).drop j) ++ toL ((wordsOf num).getD k Str.empty)) ++ toL u := by
    intro u
    rw [toL_append, toL_append, hT]
    simp only [List.append_assoc]
  unfold stepL
  rw [if_neg (by omega)]
  rw [ht, ← hC]
  split
  · refine ⟨P, a, j, by omega, ?_, hb, ha, ha', ?_, old _⟩
    · show toL _ = _
      rw [hTx, e1, take_drop_succ Str.empty hj hk']
      simp [withSep]
    · show segC num j k = _
      unfold segC
      rfl
  · split
    · refine ⟨P, a ++ (withSep (((wordsOf num).take k).drop j) ++ toL ((wordsOf num).getD k Str.empty)) ++ [46], k + 1, Nat.le_refl _, ?_, hb, ?_, .inr ⟨_, rfl⟩, ?_, ?_⟩
      · show toL _ = _
        rw [hTx, e2, htk]
        simp [withSep]
      · exact noEnd_append (noEnd_append ha s1) (fun c hc => by rw [List.mem_singleton.mp hc]; decide)
      · show (0 : Int) = _
        rw [htk]
        rfl
      · intro q hq
        rcases List.mem_append.mp hq with hq | hq
        · exact old _ q hq
        · rw [List.mem_singleton.mp hq]
          refine ⟨P, a, _, [46], ?_, hb, ha, ha', s1, s2, hpf.symm, hbd, .inr ?_⟩
          · show toL _ = _
            rw [hTx, e2]
          · show (((st.text ++ (wordsOf num).getD k Str.empty).length : Nat) : Int) = _
            rw [← toL_length, toL_append, hT]
            simp only [List.length_append]
            omega
    · split
      · refine ⟨toL (st.text ++ (wordsOf num).getD k Str.empty ++ Str.ofString ":"), [], k + 1, Nat.le_refl _, ?_, ?_, noEnd_nil, .inl rfl, ?_, ?_⟩
        · show toL _ = _
          rw [htk]
          simp [withSep]
        · show ((Str.length _ : Nat) : Int) = _
          rw [toL_length]
        · show (0 : Int) = _
          rw [htk]
          rfl
        · intro q hq
          rcases List.mem_append.mp hq with hq | hq
          · exact old _ q hq
          · rw [List.mem_singleton.mp hq]
            refine ⟨P, a, _, [58], ?_, hb, ha, ha', s1, s2, hpf.symm, hbd, .inl ⟨rfl, .inr ⟨58, [], rfl, .inl rfl⟩, fun _ h => nomatch h⟩⟩
            show toL _ = _
            rw [hTx, e3]
      · refine ⟨toL (st.text ++ (wordsOf num).getD k Str.empty ++ Str.ofString "\n"), [], k + 1, Nat.le_refl _, ?_, ?_, noEnd_nil, .inl rfl, ?_, ?_⟩
        · show toL _ = _
          rw [htk]
          simp [withSep]
        · show ((Str.length _ : Nat) : Int) = _
          rw [toL_length]
        · show (0 : Int) = _
          rw [htk]
          rfl
        · intro q hq
          rcases List.mem_append.mp hq with hq | hq
          · exact old _ q hq
          · rw [List.mem_singleton.mp hq]
            refine ⟨P, a, _, [10], ?_, hb, ha, ha', s1, s2, hpf.symm, hbd, .inl ⟨rfl, .inr ⟨10, [], rfl, .inr rfl⟩, fun _ h => nomatch h⟩⟩
            show toL _ = _
            rw [hTx, e4]
theorem inv_run : ∀ k, k < (wordsOf num).length → Inv num k (runL x (wordsOf num) (worthsOf num) k)
  | 0, _ => inv_zero
  | k + 1, h => inv_step hn h (inv_run k (by omega))
theorem inv_last {k : Nat} (hk : k + 1 = (wordsOf num).length) {st : LSt} (h : Inv num k st) : ∀ q ∈ (stepL x (wordsOf num) (worthsOf num) k st).parts, GoodP (stepL x (wordsOf num) (worthsOf num) k st).text q := by
  obtain ⟨P, a, j, hj, hT, hb, ha, ha', ht, hp⟩ := h
  have hk' : k < (wordsOf num).length := by omega
  obtain ⟨s1, s2⟩ := seg_ok hj hk'
  have hpf := pf_seg hn hj hk'
  have hbd := (seg_law hn hj hk').2
  have hC := segC_step hj hk'
  unfold stepL
  rw [if_pos (by omega)]
  intro q hq
  refine PartOk.good (fin := true) ?_
  show PartOk true (toL (st.text ++ (wordsOf num).getD k Str.empty ++ sufOf x)) q
  rcases List.mem_append.mp hq with hq | hq
  · rw [toL_append, toL_append, List.append_assoc]
    exact (hp q hq).more
  · rw [List.mem_singleton.mp hq, ht, ← hC]
    refine ⟨P, a, _, toL (sufOf x), ?_, hb, ha, ha', s1, s2, hpf.symm, hbd, .inl ⟨rfl, sufOf_ok x, fun h => nomatch h⟩⟩
    rw [toL_append, toL_append, hT]
    simp only [List.append_assoc]
end
theorem parts_good (x num : Int) (hn : -2 ^ 40 ≤ num ∧ num ≤ 2 ^ 40) : ∀ q ∈ (runL x (wordsOf num) (worthsOf num) (wordsOf num).length).parts, GoodP (runL x (wordsOf num) (worthsOf num) (wordsOf num).length).text q := by
  have h0 : 0 < (wordsOf num).length := List.length_pos_iff.mpr (wordsOf_ne num)
  obtain ⟨k, hk⟩ : ∃ k, (wordsOf num).length = k + 1 := ⟨(wordsOf num).length - 1, by omega⟩
  have h := inv_last hn (x := x) hk.symm (inv_run hn (x := x) k (by omega))
  have e : runL x (wordsOf num) (worthsOf num) (wordsOf num).length = stepL x (wordsOf num) (worthsOf num) k (runL x (wordsOf num) (worthsOf num) k) := by rw [hk]; rfl
  rw [e]
  exact h
end Mine
end

section
open PySem PySem.W PyProof.Rows PySem.Spec
set_option maxRecDepth 100000
set_option maxHeartbeats 8000000
namespace Mine
/-- the names that the law's inner loops store -/
def keepT (z : Str) : Prop := (z ≠ Str.ofString "k" ∧ z ≠ Str.ofString "text" ∧ z ≠ Str.ofString "begin" ∧ z ≠ Str.ofString "total" ∧ z ≠ Str.ofString "cut") ∧ keepP z
def TDone (h₀ : Heap) (L : Addr) (all : List (Addr × Obj)) (m₀ : Str → Option Value) (s : Shared) (f : Flow) (s' : Shared) : Prop :=
  f = .next ∧ ∃ h' tk' m', s' = { s with heap := h', toks := tk' } ∧ Fr h₀ L h' m' ∧ News h₀ L h' all ∧ ∀ z, keepT z → m' z = m₀ z
theorem law_tail (prog : Program) (w : World) (p : Program) (loose : List Str) (mean : ExcName → Option Value) (mg mb : Str → Option Value)
    {oc : Value} {od : Option Addr} {osl : Array (Option Value)} {name qual : Str} {params : Arguments} {body fb oe : List Stmt} {scope : Scope} {dV kV doc pm : Value} {an : Option Addr} {cdv ct : Value} {b0 b2 c1 c2 c3 c4 c5 c6 c7 c8 c9 forK forP : Stmt} {tgt itr : PySem.Expr} {fp : Pos}
    (hb : (hd.heap_39 w.params).lookup 41 = some ⟨oc, od, .func (fnOf name qual params body scope dV kV doc pm an cdv ct), osl⟩)
    (hbody : body = [b0, .For tgt itr fb oe fp, b2]) (hfb : fb = [c1, c2, c3, c4, c5, c6, c7, c8, c9, forK, forP])
    (dp un : Nat) (gd : Option (List Code)) (a : Addr) (ccd : Value) (outer : List Env) (A₀ : Around) (base h₀ : Heap) (L : Addr) (s : Shared)
    (B : Below A₀ base outer h₀) (X : (hd.heap_39 w.params).In h₀) (T : Top p loose mean mg mb h₀) (h1 : dp + 1 < recursionLimit) (hu : un + 8 < cLine)
    (lp lt lc lw : Addr) (ot : Obj) (us cvs : List Value) (cw cc : Nat) (rest : List (Addr × Obj)) (x num : Int) (e1 e2 e3 e4 e5 : Tok) (mr : Str → Option Value)
    (hnum : -2 ^ 40 ≤ num ∧ num ≤ 2 ^ 40)
    (hws : StrsAre us (wordsOf num)) (hcs : IntsAre cvs (worthsOf num)) (heq : (worthsOf num).length = (wordsOf num).length)
    (hlt : lt < lp ∧ lc < lp ∧ lw < lp ∧ AllLt lp rest)
    (F : Fr h₀ L s.heap (fun y => if y = Str.ofString "total" then some (.int 0 e1) else if y = Str.ofString "begin" then some (.int 0 e2) else if y = Str.ofString "parts" then some (.ref lp) else if y = Str.ofString "text" then some (.str (preOf x) e3)
      else if y = Str.ofString "worths" then some (.ref lc) else if y = Str.ofString "words" then some (.ref lw) else if y = Str.ofString "number" then some (.int num e4) else if y = Str.ofString "x" then some (.int x e5) else mr y))
    (N : News h₀ L s.heap ((lp, listOf #[] 0) :: (lt, ot) :: (lc, listOf cvs.toArray cc) :: (lw, listOf us.toArray cw) :: rest)) :
    wpAny (model prog w) (ktrTop dp un gd qual scope L a ccd [] outer) (execs [forK, forP] (envX qual scope L a ccd []))
      (TDone h₀ L rest (fun y => if y = Str.ofString "total" then some (.int 0 e1) else if y = Str.ofString "begin" then some (.int 0 e2) else if y = Str.ofString "parts" then some (.ref lp) else if y = Str.ofString "text" then some (.str (preOf x) e3)
      else if y = Str.ofString "worths" then some (.ref lc) else if y = Str.ofString "words" then some (.ref lw) else if y = Str.ofString "number" then some (.int num e4) else if y = Str.ofString "x" then some (.int x e5) else mr y) s) (fun _ _ => False) s := by
  obtain ⟨-, hp1, hp2, hp3⟩ := hlt
  have hlen := wordsOf_length num
  have hsh := wordsOf_len hnum
  have hN : News h₀ L s.heap ((lp, listOf #[] 0) :: ([(lw, listOf us.toArray cw), (lc, listOf cvs.toArray cc)] ++ rest)) := by
    intro q hq
    refine N q ?_
    simp only [List.mem_cons, List.mem_append, List.not_mem_nil, or_false] at hq ⊢
    rcases hq with e | (e | e) | e
    · exact .inl e
    · exact .inr (.inr (.inr (.inl e)))
    · exact .inr (.inr (.inl e))
    · exact .inr (.inr (.inr (.inr e)))
  refine wpAny_execs_cons ?_
  refine wpAny_mono (inner_k prog w p loose mean mg mb hb hbody hfb dp un gd a ccd outer A₀ base h₀ L s B X T h1 hu lp lw lc us cvs cw cc rest (wordsOf num) (worthsOf num) x num e1 e2 e3 e4 e5 mr hws hcs hlen (by omega) heq hsh hp2 hp1 hp3 F hN) (fun f s' h => ?_) fun _ _ e => e
  obtain ⟨rfl, h', tk', pvs, cnt, tl, t1, t2, t3, u, rfl, htl, hpa, F', N'⟩ := h
  have hT := runL_len x (worthsOf num) hsh (wordsOf num).length
  dsimp only
  refine wpAny_execs_cons ?_
  refine wpAny_mono (inner_p prog w p loose mean mg mb hb hbody hfb dp un gd a ccd outer A₀ base h₀ L _ B X T h1 hu lp pvs cnt _ (runL x (wordsOf num) (worthsOf num) (wordsOf num).length).text _ t1 _ (.head _) (hpa.mono fun q hq => .tail _ (List.mem_append.mpr (.inr (List.mem_append.mpr (.inr hq))))) (by omega) (parts_good x num hnum) (by with_unfolding_all rfl) (by with_unfolding_all rfl) F' N') (fun f s'' h => ?_) fun _ _ e => e
  obtain ⟨rfl, h'', tk'', m'', rfl, F'', N'', hz⟩ := h
  dsimp only
  refine wpAny_execs_nil ?_
  refine ⟨rfl, h'', tk'', m'', rfl, F'', (fun q hq => N'' q (.tail _ (List.mem_append.mpr (.inr (List.mem_append.mpr (.inl hq)))))), fun z hk => ?_⟩
  obtain ⟨⟨z1, z2, z3, z4, z5⟩, hk'⟩ := hk
  rw [hz z hk']
  simp only [if_neg z1, if_neg z2, if_neg z3, if_neg z4, if_neg z5]
theorem ne_of_stored {stored : List Str} {z : Str} (h : stored.contains z = false) (y : Str) (hy : stored.contains y = true) : z ≠ y := by
  intro e
  rw [e, hy] at h
  cases h
theorem keepT_number : keepT (Str.ofString "number") := ⟨⟨by decide, by decide, by decide, by decide, by decide⟩, by decide, by decide, by decide, by decide⟩
theorem keepT_of {stored : List Str} {z : Str} (h : stored.contains z = false) (g : ([Str.ofString "k", Str.ofString "text", Str.ofString "begin", Str.ofString "total", Str.ofString "cut", Str.ofString "start", Str.ofString "end", Str.ofString "due", Str.ofString "message"].all fun y => stored.contains y) = true) : keepT z := by
  simp only [List.all_cons, List.all_nil, Bool.and_eq_true, and_true] at g
  obtain ⟨g1, g2, g3, g4, g5, g6, g7, g8, g9⟩ := g
  have e := ne_of_stored h
  exact ⟨⟨e _ g1, e _ g2, e _ g3, e _ g4, e _ g5⟩, e _ g6, e _ g7, e _ g8, e _ g9⟩
theorem turn_end {h₀ : Heap} {L : Addr} {led all own : List (Addr × Obj)} {adr : List Addr} {stored : List Str} {m m₀ : Str → Option Value} {pre : List Int} {s s₁ s' : Shared} {Q : Flow → Shared → Prop} {f : Flow} {num : Int} {t : Nat}
    (h : TDone h₀ L all m s f s') (hs : ∀ h tk, ({ s with heap := h, toks := tk } : Shared) = { s₁ with heap := h, toks := tk }) (h1 : ∀ p ∈ led, p ∈ all) (h2 : ∀ p ∈ own, p ∈ all) (ha : led.map (·.1) = adr)
    (hn : m (Str.ofString "number") = some (.int num t)) (hb : -2 ^ 40 ≤ num ∧ num ≤ 2 ^ 40) (hk : keepT (Str.ofString "number"))
    (hm : ∀ z, z ≠ Str.ofString "item" → z ≠ Str.ofString "number" → stored.contains z = false → keepT z ∧ m z = m₀ z) :
    InvPostN h₀ L (KstS (fun _ : Int × Nat => led) (fun c => [(Str.ofString "number", Value.int c.1 c.2)]) (fun _ => True) (Str.ofString "item") stored m₀ (fun _ c => -2 ^ 40 ≤ c.1 ∧ c.1 ≤ 2 ^ 40) pre) own adr s₁ Q f s' := by
  obtain ⟨rfl, h', tk', m', rfl, F, N, hz⟩ := h
  show InvEndN _ _ _ _ _ _ _
  refine ⟨h', tk', m', all, led, hs h' tk', F, N, h1, h2, ha, (num, t), rfl, trivial, ?_, ?_, hb⟩
  · intro q hq
    rw [List.mem_singleton.mp hq]
    exact (hz _ hk).trans hn
  · intro z z1 z2 z3
    obtain ⟨k1, k2⟩ := hm z z1 (z2 _ (.head _)) z3
    exact (hz z k1).trans k2
end Mine
end

section
open PySem PySem.W PyProof.Rows PySem.Spec
set_option maxRecDepth 100000
set_option maxHeartbeats 8000000
namespace Mine
section
variable {prog : Program} {w : World} {p : Program} {loose : List Str} {mean : ExcName → Option Value} {mg mb : Str → Option Value} {dp un : Nat} {gd : Option (List Code)} {cn : Str} {cs : Scope} {a : Addr} {ccd : Value} {cl : List (Str × Addr)} {outer : List Env} {A₀ : Around} {base h₀ : Heap} {L : Addr} {m : Str → Option Value} {news : List (Addr × Obj)} {s : Shared} {Q E : Value → Shared → Prop}
theorem worths_use {x : Int} {t : Tok} (B : Below A₀ base outer h₀) (F : Fr h₀ L s.heap m) (X : (hd.heap_39 w.params).In h₀) (N : News h₀ L s.heap news) (T : Top p loose mean mg mb h₀) (hk : cs.kind = .function) (hx : -2 ^ 40 ≤ x ∧ x ≤ 2 ^ 40) (h1 : dp + 1 < recursionLimit) (hu : un + 8 < cLine)
    (ret : ∀ (l : Addr) (us : List Value) (cnt : Nat) (h' : Heap) (tk' : Nat), Fr h₀ L h' m → News h₀ L h' ((l, listOf us.toArray cnt) :: news) → IntsAre us (worthsOf x) → (worthsOf x).length = (wordsOf x).length → Q (.ref l) { s with heap := h', toks := tk' }) :
    wpAny (model prog w) (ktrTop dp un gd cn cs L a ccd cl outer) (call (.ref 34) [.int x t]) Q E s :=
  worths_call prog w p loose mean mg mb news x t hx dp un gd cn cs a ccd cl outer A₀ base h₀ L m s Q E B F X N T hk h1 hu fun l us cnt h' tk' a b c => ret l us cnt h' tk' a b c (worths_len x)
end
theorem split_use {prog : Program} {w : World} {A : Around} {E : Value → Shared → Prop} {s : Shared} {h₀ : Heap} {L : Addr} {m : Str → Option Value} {news : List (Addr × Obj)} {x : Int} {t u : Tok} {Q : Value → Shared → Prop} (F : Fr h₀ L s.heap m) (N : News h₀ L s.heap news) (hx : -2 ^ 40 ≤ x ∧ x ≤ 2 ^ 40)
    (h : ∀ D us h' k, Fr h₀ L h' m → News h₀ L h' ((D, listOf us.toArray 0) :: news) → (∀ p ∈ news, p.1 < D) → StrsAre us (wordsOf x) → (wordsOf x).length ≤ 33 → Q (.ref D) { s with heap := h', toks := k }) :
    wpAny (model prog w) A (call (.builtin "str.split") [.str (pf x) t, .str (Str.ofString ", ") u]) Q E s := by
  refine KSpl.split1 F N (by decide) (fun D l h' k e a F' N' l1 => h D (strValues l) h' k F' N' l1 ?_ (wordsOf_length x)) ?_
  · rw [e, split_pf x] at a
    exact a
  · have := pf_length hx
    rw [sizeLine_eq]
    omega
/-- the law's end -/
def LawEnd (h₀ : Heap) (L : Addr) (s : Shared) (f : Flow) (s' : Shared) : Prop := ∃ h' tk' m', f = .ret (.bool true) ∧ s' = { s with heap := h', toks := tk' } ∧ Fr h₀ L h' m'
theorem lawEnd {h₀ h' : Heap} {L : Addr} {s : Shared} {tk' : Nat} {m' : Str → Option Value} (F : Fr h₀ L h' m') : LawEnd h₀ L s (.ret (.bool true)) { s with heap := h', toks := tk' } := ⟨h', tk', m', rfl, rfl, F⟩
theorem num_bound (a b : Int) : -2 ^ 40 ≤ a.fmod (2 ^ Int.toNat 32) + (b.fmod 4 - 1) * 2 ^ Int.toNat 32 ∧ a.fmod (2 ^ Int.toNat 32) + (b.fmod 4 - 1) * 2 ^ Int.toNat 32 ≤ 2 ^ 40 := by
  have h1 := Int.fmod_nonneg_of_pos a (show (0 : Int) < 2 ^ Int.toNat 32 by decide)
  have h2 := Int.fmod_lt_of_pos a (show (0 : Int) < 2 ^ Int.toNat 32 by decide)
  have h3 := Int.fmod_nonneg_of_pos b (show (0 : Int) < 4 by decide)
  have h4 := Int.fmod_lt_of_pos b (show (0 : Int) < 4 by decide)
  generalize a.fmod (2 ^ Int.toNat 32) = u at *
  generalize b.fmod 4 = v at *
  rw [show (2 : Int) ^ Int.toNat 32 = 4294967296 from rfl] at *
  omega
local macro_rules | `(tactic| walk_at "mine") => `(tactic| (k_here; k_dflt (first
  | ((with_reducible show wpAny _ _ (call (Value.ref 29) _) _ _ _); refine' pretty_use ?k1 ?k2 ?k3 ?k4 ?k5 ?kK ?kx ?kd ?ku ?kR; (case k1 => k_asm); (case k2 => k_asm); (case k3 => k_asm); (case k4 => k_asm); (case k5 => k_asm); (case kK => exact rfl); (case kx => first | exact num_bound _ _ | assumption); (case kd => ktr_room); (case ku => ktr_units); intro t9 h9 tk9 F9 N9; (try dsimp only); (try k_fold))
  | ((with_reducible show wpAny _ _ (call (Value.ref 34) _) _ _ _); refine' worths_use ?k1 ?k2 ?k3 ?k4 ?k5 ?kK ?kx ?kd ?ku ?kR; (case k1 => k_asm); (case k2 => k_asm); (case k3 => k_asm); (case k4 => k_asm); (case k5 => k_asm); (case kK => exact rfl); (case kx => first | exact num_bound _ _ | assumption); (case kd => ktr_room); (case ku => ktr_units); intro l9 us9 cnt9 h9 tk9 F9 N9 I9 e9; (try dsimp only); (try k_fold))
  | ((with_reducible show wpAny _ _ (call (Value.ref 21) _) _ _ _); refine' strip_use ?k1 ?k2 ?k3 ?k4 ?k5 ?kK ?kx ?kd ?ku ?kR; (case k1 => k_asm); (case k2 => k_asm); (case k3 => k_asm); (case k4 => k_asm); (case k5 => k_asm); (case kK => exact rfl); (case kx => first | assumption | omega); (case kd => ktr_room); (case ku => ktr_units); intro t9 h9 tk9 F9 N9; (try dsimp only); (try k_fold)))))
local macro_rules | `(tactic| walk_at "binaryOp Pow int int") => `(tactic| (with_reducible refine pow_int_small (by decide) (by decide) (by decide) ?_))
local macro_rules | `(tactic| walk_at "exec For Name BinOp cons nil") => `(tactic| (k_here; (rename Fr _ _ _ _ => lF'); (with_unfolding_all refine' For_invVF lF' ?k1 ?k2 ?_; (case k1 => exact rfl); (case k2 => exact rfl); k_whole)))
local macro_rules | `(tactic| walk_at "call builtin:str.split") => `(tactic| (k_here; refine split_use (by k_asm) (by k_asm) (by first | exact num_bound _ _ | assumption) ?_; intro D' us' h' k' F' N' l1 a' hwl'; (try k_lt l1)))
local macro_rules | `(tactic| walk_at "LawEnd") => `(tactic| first | exact lawEnd (by k_asm) | (exfalso; omega))
local macro_rules | `(tactic| walk_at "mine") => `(tactic| ((with_reducible show wpAny _ _ (execs (Stmt.For (PySem.Expr.Name (Str.ofString "k") _) _ _ _ _ :: _) _) _ _ _); refine hold_of ?_))
theorem fill4 : hd.heap_39 = hd.heap_39 ∧ PySem.Challenge.rw_pg0045_01 = PySem.Challenge.rw_pg0045_01 := by
  k_fill
  exact ⟨rfl, rfl⟩
theorem law_body (prog : Program) (w : World) (p : Program) (loose : List Str) (mean : ExcName → Option Value) (mg mb : Str → Option Value)
    {oc : Value} {od : Option Addr} {osl : Array (Option Value)} {name qual : Str} {params : Arguments} {body : List Stmt} {scope : Scope} {dV kV doc pm : Value} {an : Option Addr} {cdv ct : Value}
    (hb : (hd.heap_39 w.params).lookup 41 = some ⟨oc, od, .func (fnOf name qual params body scope dV kV doc pm an cdv ct), osl⟩)
    (dp un : Nat) (gd : Option (List Code)) (a : Addr) (ccd : Value) (outer : List Env) (A₀ : Around) (base h₀ : Heap) (L : Addr) (s : Shared) (l : Addr) (vs : List Value) (ns : List Int)
    (B : Below A₀ base outer h₀) (F : Fr h₀ L s.heap (fun y => List.lookup y [(Str.ofString "script", Value.ref l)])) (X : (hd.heap_39 w.params).In h₀) (N : News h₀ L s.heap []) (T : Top p loose mean mg mb h₀)
    (hl : h₀.IsList l vs.toArray) (hi : IntsAre vs ns) (hn : ns.length ≤ 63) (h1 : dp + 1 < recursionLimit) (hu : un + 8 < cLine) :
    wpAny (model prog w) (ktrTop dp un gd qual scope L a ccd [] outer) (execs body (envX qual scope L a ccd []))
      (LawEnd h₀ L s) (fun _ _ => False) s := by
  w_top off
  have key := hb
  rw [show (hd.heap_39 w.params).lookup 41 = some _ from by k_is] at key
  simp only [fnOf, Option.some.injEq, Obj.mk.injEq, Data.func.injEq, FuncData.mk.injEq, FuncBody.stmts.injEq] at key
  obtain ⟨_, _, ⟨rfl, rfl, rfl, rfl, rfl, _⟩, _⟩ := key
  clear hb
  k_with "table" => skip
  k_with "pyIter ref" => (k_of "item" => k_state (fun pre n => -2 ^ 40 ≤ n ∧ n ≤ 2 ^ 40) "number")
  repeat' (first | (k_unfold; (try dsimp only)) | (k_end; wrow_close) | walk_at "mine" | walk1 | (dsimp only; walk1) | (leave1; walk_say "STEP leave1"; try dsimp only) | fail "no step")
  skip
  (rename Fr _ _ _ _ => lF')
  (rename News _ _ _ _ => lN')
  refine wpAny_mono (law_tail prog w p loose mean mg mb (show (hd.heap_39 w.params).lookup 41 = some _ from by k_is) rfl rfl dp un gd a ccd outer A₀ base h₀ L _ B X T h1 hu _ _ _ _ _ _ _ _ _ _ _ _ _ _ _ _ _ _ (num_bound _ _) (by k_asm) (by k_asm) (by k_asm) (by assumption) lF' lN') (fun f s' h => ?_) fun _ _ e => e
  refine turn_end h (fun _ _ => rfl) ?k1 ?k2 rfl (by with_unfolding_all rfl) (num_bound _ _) ?k3 ?k4
  case k1 => intro q hq; exact List.mem_append.mpr (.inl hq)
  case k2 => intro q hq; exact .tail _ (.tail _ (.tail _ hq))
  case k3 => exact keepT_number
  case k4 =>
    clear h lF' lN'
    intro z z1 z2 z3
    have hne := ne_of_stored z3
    refine ⟨keepT_of z3 (by decide), ?_⟩
    simp only [if_neg z1, if_neg z2, if_neg (hne (Str.ofString "total") (by decide)), if_neg (hne (Str.ofString "begin") (by decide)), if_neg (hne (Str.ofString "parts") (by decide)), if_neg (hne (Str.ofString "text") (by decide)), if_neg (hne (Str.ofString "worths") (by decide)), if_neg (hne (Str.ofString "words") (by decide)), if_neg (hne (Str.ofString "x") (by decide))]
    rw [if_neg (by rw [z3]; exact Bool.false_ne_true)]
end Mine
end

open PySem PySem.W PyProof.Rows PySem.Spec
set_option maxRecDepth 100000
set_option maxHeartbeats 8000000
theorem PySem.Challenge.cw_pg0045_01_holds : PySem.Challenge.rw_pg0045_01.Holds := by
  refine Mine.hd ?_
  k_go0
  (rename Fr _ _ _ _ => lF)
  (rename News _ _ _ _ => lN)
  (rename Below _ _ _ _ => lB)
  (rename Frag.In _ _ => lX)
  (rename PyProof.Rows.Top _ _ _ _ _ _ => lT)
  (rename Heap.IsList _ _ _ => lL)
  (rename IntsAre _ _ => lI)
  with_unfolding_all refine' wpAny_mono (Mine.law_body _ _ _ _ _ _ _ (hb := ?hb) _ _ _ _ _ _ _ _ _ _ _ _ _ _ lB lF lX lN lT lL lI ?hn ?h1 ?hu) ?q1 ?q2
  case hb => exact (show _ = some _ from by k_is)
  case hn => omega
  case h1 => decide +kernel
  case hu => decide +kernel
  case q2 => exact fun _ _ e => e.elim
  case q1 =>
    rintro f s' ⟨h', tk', m', rfl, rfl, F'⟩
    k_end
    wrow_close
