import PyProof.Rows.All
import Wide.All
import OpenK.AllK
import Wide.FinOn
import PySem.Challenge.RW_bj0060_01
set_option Elab.async false
set_option maxRecDepth 100000
set_option maxHeartbeats 8000000
namespace BJ
section
open PySem PySem.W PyProof.Rows
open_top hd for PySem.Challenge.rw_bj0060_01
end
section
open PySem PySem.W PySem.Calls PyProof.Rows

abbrev aTop (dp un : Nat) (fr : Option (List Env)) (gd : Option (List Code)) : Around := { handled := none, depth := dp, frames := fr, guards := gd, units := un }

/-- what every call of ours stands on: the written part and the top, at a heap below -/
structure Gr (K : Frag) (p : Program) (loose : List Str) (mean : ExcName → Option Value) (mg mb : Str → Option Value) (h₀ : Heap) : Prop where
  X : K.In h₀
  T : Top p loose mean mg mb h₀

section
variable {prog : Program} {w : World} {A : Around} {E : Value → Shared → Prop} {s : Shared} {K : Frag} {h₀ : Heap} {p : Program} {loose : List Str} {mean : ExcName → Option Value} {mg mb : Str → Option Value}
  {name qual : Str} {params : Arguments} {body : List Stmt} {scope : Scope} {dV kV doc pm cdv ct oc : Value} {an od : Option Addr} {osl : Array (Option Value)} {f : Addr} {args : Args} {binds : List (Str × Value)} {R : Result → Shared → Prop}

theorem Gr.keeps {h : Heap} (G : Gr K p loose mean mg mb h₀) (k : h₀.StaysIn h) : Gr K p loose mean mg mb h := ⟨G.X.keeps k, G.T.keeps k⟩

theorem enter (G : Gr K p loose mean mg mb h₀) (k : h₀.StaysIn s.heap) (small : List (Addr × Obj)) (hS : ∀ q ∈ small, s.heap.get? q.1 = some q.2 ∧ h₀.get? q.1 = none)
    (ho : K.lookup f = some ⟨oc, od, .func (fnOf name qual params body scope dV kV doc pm an cdv ct), osl⟩) (hcd : codeIn K cdv qual = true) (hroom : A.depth < recursionLimit)
    (hbind : BindsTo s (fnOf name qual params body scope dV kV doc pm an cdv ct) args binds) (hloc : ∀ y ∈ binds, scope.names.lookup y.1 = some .local)
    (h : ∀ g L' h₁, Gr K p loose mean mg mb g → h₀.StaysIn g → (∀ b o, s.heap.get? b = some o → b ∉ small.map (·.1) → g.get? b = some o) → g.StaysIn s.heap → s.heap.objs.size = L' → Fr g L' h₁ (fun y => binds.reverse.lookup y) → News g L' h₁ small → (∀ q ∈ small, q.1 < L') →
      wpAny (model prog w) (A.deeper (envOf qual scope L' f cdv)) (execs body (envOf qual scope L' f cdv))
        (fun fl s' => R (.ok (.ret (match fl with | .ret v => v | _ => .none))) s') (fun _ _ => False) { s with heap := h₁, toks := s.toks + binds.length })
    (hco : scope.isCoroutine = false) (hgen : scope.isGenerator = false) (hk : scope.kind = .function) (hcell : ∀ x ∈ scope.names, x.2 ≠ .cell) :
    codeAny (model prog w) A (.call (.ref f) args) R s := by
  have nm : ∀ b o, h₀.get? b = some o → b ∉ small.map (·.1) := fun b o e q => by
    obtain ⟨p, hp, rfl⟩ := List.mem_map.mp q
    rw [(hS p hp).2] at e; cases e
  have st : h₀.StaysIn (hideAll s.heap (small.map (·.1))) := fun b o e => hideAll_get _ (k b o e) (nm b o e)
  refine codeAny_call_def (fd := fnOf name qual params body scope dV kV doc pm an cdv ct) (body := body) (binds := binds) hroom (k _ _ (G.X _ _ ho)) rfl (G.T.nolimit.keeps k) ((codeRec_of G.X hcd).keeps k) rfl hbind hcell hloc (fun h₁ hns hk₁ => ?_) hco hgen hk
  refine wpAny_mono (h (hideAll s.heap (small.map (·.1))) s.heap.objs.size h₁ (G.keeps st) st (fun b o e n => hideAll_get _ e n) (fun b o e => of_hideAll _ e) rfl
    ⟨hns, fun b o e => hk₁ b o (of_hideAll _ e), Nat.le_of_eq (hideAll_size _ _)⟩
    (fun p hp => ⟨hk₁ _ _ (hS p hp).1, Nat.ne_of_lt (Heap.lt_size (hS p hp).1), hideAll_none _ (List.mem_map_of_mem hp)⟩) (fun p hp => Heap.lt_size (hS p hp).1)) (fun fl s' hl => hl) fun _ _ y => y.elim
end
end
section
def xt (a : Nat) : Nat := if a < 128 then 2 * a else (2 * a) ^^^ 285
def tms : Nat → Nat → Nat → Nat → Nat
  | 0, told, _, _ => told
  | f + 1, told, a, b => if b = 0 then told else tms f (if b % 2 = 1 then told ^^^ a else told) (xt a) (b / 2)
def times (a b : Nat) : Nat := tms 8 0 a b
def pow2 : Nat → Nat
  | 0 => 1
  | n + 1 => xt (pow2 n)
def powE (e : Nat) : Nat := pow2 (e % 255)
/-- the powers of 2, each place after the other -/
def expT : List Nat := (List.range 256).map pow2
/-- where each number but nought stands among the powers -/
def logT : List Nat := 0 :: (List.range 255).map fun i => expT.idxOf (i + 1)
def gx (n : Int) : Nat := expT.getD (n.fmod 255).toNat 0
def lg (n : Nat) : Nat := logT.getD n 0
theorem xor_and (x y : Nat) : (x ^^^ y) + 2 * (x &&& y) = x + y := by
  induction x using Nat.strongRecOn generalizing y with
  | _ x ih =>
    by_cases hx : x = 0
    · subst hx; simp
    · have h1 : (x ^^^ y) / 2 = (x / 2) ^^^ (y / 2) := Nat.xor_div_two
      have h2 : (x ^^^ y) % 2 = (x + y) % 2 := by
        have h := Nat.xor_mod_two_pow (a := x) (b := y) (n := 1)
        simp only [Nat.pow_one] at h
        rw [h, Nat.add_mod]
        rcases Nat.mod_two_eq_zero_or_one x with h1 | h1 <;> rcases Nat.mod_two_eq_zero_or_one y with h2 | h2 <;> rw [h1, h2] <;> rfl
      have h3 : (x &&& y) / 2 = (x / 2) &&& (y / 2) := Nat.and_div_two
      have h4 : (x &&& y) % 2 = (x % 2) * (y % 2) := by
        have h := Nat.and_mod_two_pow (a := x) (b := y) (n := 1)
        simp only [Nat.pow_one] at h
        rw [h]
        rcases Nat.mod_two_eq_zero_or_one x with h1 | h1 <;> rcases Nat.mod_two_eq_zero_or_one y with h2 | h2 <;> rw [h1, h2] <;> rfl
      have := ih (x / 2) (by omega) (y / 2)
      rw [← h1, ← h3] at this
      rcases Nat.mod_two_eq_zero_or_one x with a | a <;> rcases Nat.mod_two_eq_zero_or_one y with b | b <;> rw [a, b] at h4 <;> omega
theorem xor_lt {a b n : Nat} (ha : a < 2 ^ n) (hb : b < 2 ^ n) : a ^^^ b < 2 ^ n := Nat.xor_lt_two_pow ha hb
theorem xt_lt {a : Nat} (h : a < 256) : xt a < 256 := by
  unfold xt
  split
  · omega
  · rename_i h1
    have key : ∀ i : Fin 256, ¬ i.val < 128 → (2 * i.val) ^^^ 285 < 256 := by decide +kernel
    exact key ⟨a, h⟩ h1
theorem pow2_lt : ∀ n, pow2 n < 256
  | 0 => by decide
  | n + 1 => xt_lt (pow2_lt n)
theorem tms_lt : ∀ f told a b, told < 256 → a < 256 → tms f told a b < 256
  | 0, told, _, _, h, _ => h
  | f + 1, told, a, b, h, ha => by
    unfold tms
    split
    · exact h
    · refine tms_lt f _ _ _ ?_ (xt_lt ha)
      split
      · exact xor_lt (n := 8) h ha
      · exact h
theorem times_lt {a b : Nat} (ha : a < 256) : times a b < 256 := tms_lt 8 0 a b (by decide) ha
theorem tms_step (f told a : Nat) {b : Nat} (hb : b ≠ 0) : tms (f + 1) told a b = tms f (if b % 2 = 1 then told ^^^ a else told) (xt a) (b / 2) := by
  rw [tms, if_neg hb]
/-- ahead of enough fuel the answer does not turn -/
theorem tms_more : ∀ f told a b, b < 2 ^ f → tms (f + 1) told a b = tms f told a b
  | 0, told, a, b, h => by
    have : b = 0 := by omega
    subst this
    rfl
  | f + 1, told, a, b, h => by
    by_cases hb : b = 0
    · subst hb; rfl
    · rw [tms_step (f + 1) _ _ hb, tms_step f _ _ hb]
      exact tms_more f _ _ _ (by rw [Nat.pow_succ] at h; omega)
theorem expT_len : expT.length = 256 := by rw [expT, List.length_map, List.length_range]
theorem logT_len : logT.length = 256 := by rw [logT, List.length_cons, List.length_map, List.length_range]
/-- n places from i on: f j is added at i + j -/
def rowAcc (f : Nat → Nat) (i : Nat) : Nat → List Nat → List Nat
  | 0, t => t
  | n + 1, t => (rowAcc f i n t).set (i + n) ((rowAcc f i n t).getD (i + n) 0 ^^^ f n)
def prodAcc (F : Nat → Nat → Nat) (m : Nat) : Nat → List Nat → List Nat
  | 0, t => t
  | n + 1, t => rowAcc (F n) n m (prodAcc F m n t)
theorem rowAcc_len (f : Nat → Nat) (i : Nat) : ∀ n t, (rowAcc f i n t).length = t.length
  | 0, _ => rfl
  | n + 1, t => by rw [rowAcc, List.length_set, rowAcc_len f i n t]
theorem prodAcc_len (F : Nat → Nat → Nat) (m : Nat) : ∀ n t, (prodAcc F m n t).length = t.length
  | 0, _ => rfl
  | n + 1, t => by rw [prodAcc, rowAcc_len, prodAcc_len F m n t]
def product (a b : List Nat) : List Nat := prodAcc (fun i j => times (a.getD i 0) (b.getD j 0)) b.length a.length (List.replicate (a.length + b.length - 1) 0)
theorem product_len (a b : List Nat) : (product a b).length = a.length + b.length - 1 := by rw [product, prodAcc_len, List.length_replicate]
/-- powers of the divisor's head, and their product so far -/
def sqI (d : Nat) : Nat → Nat × Nat
  | 0 => (d, 1)
  | n + 1 => (times (sqI d n).1 (sqI d n).1, times (sqI d n).2 (times (sqI d n).1 (sqI d n).1))
theorem sqI_lt (d : Nat) (hd : d < 256) : ∀ n, (sqI d n).1 < 256 ∧ (sqI d n).2 < 256
  | 0 => ⟨hd, (by decide : (1 : Nat) < 256)⟩
  | n + 1 => ⟨times_lt (sqI_lt d hd n).1, times_lt (sqI_lt d hd n).2⟩
def inv (d : Nat) : Nat := (sqI d 7).2
def divAcc (iv : Nat) (d : List Nat) : Nat → List Nat → List Nat
  | 0, r => r
  | n + 1, r => rowAcc (fun k => times (times ((divAcc iv d n r).getD n 0) iv) (d.getD k 0)) n d.length (divAcc iv d n r)
theorem divAcc_len (iv : Nat) (d : List Nat) : ∀ n r, (divAcc iv d n r).length = r.length
  | 0, _ => rfl
  | n + 1, r => by rw [divAcc, rowAcc_len, divAcc_len iv d n r]
def Small (t : List Nat) : Prop := ∀ i, t.getD i 0 < 256
theorem Small.set {t : List Nat} (h : Small t) (k : Nat) {y : Nat} (hy : y < 256) : Small (t.set k y) := by
  intro i
  rw [List.getD_eq_getElem?_getD, List.getElem?_set]
  split
  · split
    · exact hy
    · exact (by decide : (0 : Nat) < 256)
  · have := h i; rwa [List.getD_eq_getElem?_getD] at this
theorem rowAcc_small {f : Nat → Nat} (i : Nat) : ∀ n t, (∀ j, j < n → f j < 256) → Small t → Small (rowAcc f i n t)
  | 0, _, _, h => h
  | n + 1, t, hf, h => by
    have ih := rowAcc_small i n t (fun j hj => hf j (Nat.lt_succ_of_lt hj)) h
    rw [rowAcc]
    exact ih.set _ (xor_lt (n := 8) (ih _) (hf n (Nat.lt_succ_self n)))
theorem divAcc_small {iv : Nat} {d : List Nat} : ∀ n r, Small r → Small (divAcc iv d n r)
  | 0, _, h => h
  | n + 1, r, h => by
    have ih := divAcc_small (iv := iv) (d := d) n r h
    rw [divAcc]
    exact rowAcc_small n _ _ (fun j _ => times_lt (times_lt (ih n))) ih
/-- the row less its leading noughts, one element at least -/
def least : List Nat → List Nat
  | [] => []
  | [x] => [x]
  | x :: y :: r => if x = 0 then least (y :: r) else x :: y :: r
theorem least_drop {ns : List Nat} {i : Nat} (h1 : i + 1 < ns.length) (h2 : ns.getD i 0 = 0) : least (ns.drop i) = least (ns.drop (i + 1)) := by
  have e1 : ns.drop i = 0 :: ns.drop (i + 1) := by
    rw [List.drop_eq_getElem_cons (by omega)]
    rw [List.getD_eq_getElem?_getD, List.getElem?_eq_getElem (by omega)] at h2
    simp only [Option.getD_some] at h2
    rw [h2]
  rw [e1]
  rw [List.drop_eq_getElem_cons h1]
  rw [least, if_pos rfl]
theorem least_here {ns : List Nat} {i : Nat} (h : ¬ (i + 1 < ns.length ∧ ns.getD i 0 = 0)) : least (ns.drop i) = ns.drop i := by
  by_cases h1 : i + 1 < ns.length
  · rw [List.drop_eq_getElem_cons (by omega), List.drop_eq_getElem_cons h1, least, if_neg]
    intro h2
    refine h ⟨h1, ?_⟩
    rw [List.getD_eq_getElem?_getD, List.getElem?_eq_getElem (by omega)]
    exact h2
  · by_cases h3 : i < ns.length
    · have : ns.drop i = [ns[i]] := by
        rw [List.drop_eq_getElem_cons h3, List.drop_eq_nil_of_le (by omega)]
      rw [this, least]
    · rw [List.drop_eq_nil_of_le (by omega), least]
def rest (row d : List Nat) : List Nat := least (divAcc (inv (d.getD 0 0)) d (row.length + 1 - d.length) row)
theorem div2_xor (x y : Nat) : (x ^^^ y) / 128 = (x / 128) ^^^ (y / 128) := by
  have := Nat.shiftRight_xor_distrib (a := x) (b := y) (i := 7)
  simpa [Nat.shiftRight_eq_div_pow] using this
theorem mul2_xor (x y : Nat) : 2 * (x ^^^ y) = (2 * x) ^^^ (2 * y) := by
  have := Nat.shiftLeft_xor_distrib (a := x) (b := y) (i := 1)
  simp only [Nat.shiftLeft_eq, Nat.pow_one] at this
  rw [Nat.mul_comm, this, Nat.mul_comm x, Nat.mul_comm y]
theorem xt_eq {a : Nat} (h : a < 256) : xt a = (2 * a) ^^^ (285 * (a / 128)) := by
  unfold xt
  split
  · rename_i h1
    have : a / 128 = 0 := by omega
    rw [this, Nat.mul_zero, Nat.xor_zero]
  · have : a / 128 = 1 := by omega
    rw [this]
theorem xt_xor {x y : Nat} (hx : x < 256) (hy : y < 256) : xt (x ^^^ y) = xt x ^^^ xt y := by
  have hxy : x ^^^ y < 256 := xor_lt (n := 8) hx hy
  rw [xt_eq hx, xt_eq hy, xt_eq hxy, mul2_xor, div2_xor]
  have e1 : x / 128 = 0 ∨ x / 128 = 1 := by omega
  have e2 : y / 128 = 0 ∨ y / 128 = 1 := by omega
  have key : ∀ p q : Nat, (p = 0 ∨ p = 1) → (q = 0 ∨ q = 1) → 285 * (p ^^^ q) = (285 * p) ^^^ (285 * q) := by
    rintro p q (rfl | rfl) (rfl | rfl) <;> decide
  rw [key _ _ e1 e2]
  simp only [Nat.xor_assoc]
  congr 1
  rw [← Nat.xor_assoc, ← Nat.xor_assoc, Nat.xor_comm (2 * y)]
theorem tms_xt : ∀ f told a b, told < 256 → a < 256 → tms f (xt told) (xt a) b = xt (tms f told a b)
  | 0, _, _, _, _, _ => rfl
  | f + 1, told, a, b, ht, ha => by
    unfold tms
    split
    · rfl
    · split
      · rw [← xt_xor ht ha]
        exact tms_xt f _ _ _ (xor_lt (n := 8) ht ha) (xt_lt ha)
      · exact tms_xt f _ _ _ ht (xt_lt ha)
theorem times_xt {a : Nat} (b : Nat) (ha : a < 256) : times (xt a) b = xt (times a b) := tms_xt 8 0 a b (by decide) ha
theorem times_one {b : Nat} (hb : b < 256) : times 1 b = b := by
  have key : ∀ i : Fin 256, times 1 i.val = i.val := by decide +kernel
  exact key ⟨b, hb⟩
theorem times_pow2 (i j : Nat) : times (pow2 i) (pow2 j) = pow2 (i + j) := by
  induction i with
  | zero => rw [Nat.zero_add]; exact times_one (pow2_lt j)
  | succ n ih => rw [pow2, times_xt _ (pow2_lt n), ih, Nat.succ_add]; rfl
theorem pow2_period (n : Nat) : pow2 (n + 255) = pow2 n := by
  induction n with
  | zero => decide +kernel
  | succ n ih => rw [Nat.succ_add, pow2, ih]; rfl
theorem pow2_mod (n : Nat) : pow2 (n % 255) = pow2 n := by
  induction n using Nat.strongRecOn with
  | _ n ih =>
    by_cases h : n < 255
    · rw [Nat.mod_eq_of_lt h]
    · obtain ⟨m, rfl⟩ : ∃ m, n = m + 255 := ⟨n - 255, by omega⟩
      rw [Nat.add_mod_right, ih m (by omega), pow2_period]
theorem xt_ne {a : Nat} (h : a ≠ 0) : xt a ≠ 0 := by
  unfold xt
  split
  · omega
  · intro e
    have := xor_and (2 * a) 285
    omega
theorem pow2_ne : ∀ n, pow2 n ≠ 0
  | 0 => by decide
  | n + 1 => xt_ne (pow2_ne n)
/-- none of the next n powers is one -/
def noOne : Nat → Nat → Bool
  | 0, _ => true
  | n + 1, a => a != 1 && noOne n (xt a)
theorem noOne_at : ∀ n k, noOne n (pow2 k) = true → ∀ j, j < n → pow2 (k + j) ≠ 1
  | 0, _, _, j, hj => absurd hj (Nat.not_lt_zero j)
  | n + 1, k, h, j, hj => by
    obtain ⟨h1, h2⟩ := Bool.and_eq_true_iff.mp h
    match j with
    | 0 => exact bne_iff_ne.mp h1
    | j + 1 =>
      have := noOne_at n (k + 1) h2 j (by omega)
      rwa [show k + (j + 1) = k + 1 + j from by omega]
theorem pow2_ne_one {j : Nat} (h0 : j ≠ 0) (h : j < 255) : pow2 j ≠ 1 := by
  have key : noOne 254 (pow2 1) = true := by decide +kernel
  have := noOne_at 254 1 key (j - 1) (by omega)
  rwa [show 1 + (j - 1) = j from by omega] at this
theorem pow2_inj_le {i j : Nat} (hij : i ≤ j) (hj : j < 255) (e : pow2 i = pow2 j) : i = j := by
  have h1 : times (pow2 i) (pow2 (255 - i)) = 1 := by
    rw [times_pow2, show i + (255 - i) = 0 + 255 from by omega, pow2_period]
    rfl
  have h2 : times (pow2 j) (pow2 (255 - i)) = pow2 (j - i) := by
    rw [times_pow2, show j + (255 - i) = (j - i) + 255 from by omega, pow2_period]
  by_cases q : j - i = 0
  · omega
  · rw [← e, h1] at h2
    exact absurd h2.symm (pow2_ne_one q (by omega))
theorem pow2_inj {i j : Nat} (hi : i < 255) (hj : j < 255) (e : pow2 i = pow2 j) : i = j := by
  rcases Nat.le_total i j with h | h
  · exact pow2_inj_le h hj e
  · exact (pow2_inj_le h hi e.symm).symm
/-- a bit for each of the next n powers -/
def marks : Nat → Nat → Nat → Nat
  | 0, _, acc => acc
  | n + 1, a, acc => marks n (xt a) (acc ||| 2 ^ a)
theorem marks_at (v : Nat) : ∀ n k acc, (marks n (pow2 k) acc).testBit v = true → acc.testBit v = true ∨ ∃ j, j < n ∧ pow2 (k + j) = v
  | 0, _, _, h => .inl h
  | n + 1, k, acc, h => by
    rcases marks_at v n (k + 1) _ h with h | ⟨j, hj, e⟩
    · rw [Nat.testBit_or] at h
      rcases Bool.or_eq_true_iff.mp h with h | h
      · exact .inl h
      · rw [Nat.testBit_two_pow] at h
        exact .inr ⟨0, by omega, of_decide_eq_true h⟩
    · exact .inr ⟨j + 1, by omega, by rw [← e, show k + 1 + j = k + (j + 1) from by omega]⟩
theorem marks_all : marks 255 (pow2 0) 0 = 2 ^ 256 - (1 + 1) := by decide +kernel
theorem pow2_sur {v : Nat} (h0 : v ≠ 0) (h : v < 256) : ∃ j, j < 255 ∧ pow2 j = v := by
  have hb : (marks 255 (pow2 0) 0).testBit v = true := by
    have h1 : Nat.testBit 1 v = false := by
      have := Nat.testBit_two_pow (n := 0) (m := v)
      rw [Nat.pow_zero] at this
      rw [this]
      exact decide_eq_false (Ne.symm h0)
    rw [marks_all, Nat.testBit_two_pow_sub_succ (by decide), decide_eq_true h, h1]
    rfl
  rcases marks_at v 255 0 0 hb with h | ⟨j, hj, e⟩
  · rw [Nat.zero_testBit] at h; cases h
  · exact ⟨j, hj, by rw [← e, Nat.zero_add]⟩
theorem exp_get {i : Nat} (h : i < 256) : expT.getD i 0 = pow2 i := by
  unfold expT
  rw [List.getD_eq_getElem?_getD, List.getElem?_map, List.getElem?_range h]
  rfl
theorem idx_get : ∀ {l : List Nat} {x j : Nat}, l[j]? = some x → l.idxOf x ≤ j ∧ l.getD (l.idxOf x) 0 = x
  | [], _, _, h => by cases h
  | a :: l, x, j, h => by
    rw [List.idxOf_cons]
    by_cases e : a = x
    · subst e
      rw [beq_self_eq_true]
      exact ⟨Nat.zero_le _, rfl⟩
    · rw [beq_eq_false_iff_ne.mpr e]
      match j, h with
      | 0, h => exact absurd (Option.some.inj h) e
      | j + 1, h =>
        obtain ⟨h1, h2⟩ := idx_get (l := l) (j := j) (x := x) h
        exact ⟨Nat.succ_le_succ h1, h2⟩
theorem lg_at {n : Nat} (h1 : n ≠ 0) (h2 : n < 256) : lg n < 255 ∧ pow2 (lg n) = n := by
  obtain ⟨j, hj, e⟩ := pow2_sur h1 h2
  have hl : lg n = expT.idxOf n := by
    obtain ⟨k, rfl⟩ : ∃ k, n = k + 1 := ⟨n - 1, by omega⟩
    show ((List.range 255).map fun i => expT.idxOf (i + 1)).getD k 0 = _
    rw [List.getD_eq_getElem?_getD, List.getElem?_map, List.getElem?_range (by omega)]
    rfl
  have he : expT[j]? = some n := by
    unfold expT
    rw [List.getElem?_map, List.getElem?_range (by omega), Option.map_some, e]
  obtain ⟨i1, i2⟩ := idx_get he
  rw [hl]
  refine ⟨by omega, ?_⟩
  rw [exp_get (by omega)] at i2
  exact i2
theorem gx_at (n : Int) : gx n = pow2 (n.fmod 255).toNat := by
  unfold gx
  have := Int.fmod_lt_of_pos n (b := 255) (by decide)
  exact exp_get (by omega)
theorem gx_lt (n : Int) : gx n < 256 := by
  rw [gx_at]; exact pow2_lt _
theorem lg_lt (n : Nat) (h : n < 256) : lg n < 256 := by
  by_cases h0 : n = 0
  · subst h0; exact (by decide : (0 : Nat) < 256)
  · have := (lg_at h0 h).1
    omega
/-- the product by logarithms -/
def pmulRaw (a b : List Nat) : List Nat := prodAcc (fun i j => gx ((lg (a.getD i 0) : Int) + (lg (b.getD j 0) : Int))) b.length a.length (List.replicate (a.length + b.length - 1) 0)
def pmul (a b : List Nat) : List Nat := least (pmulRaw a b)
theorem pmulRaw_len (a b : List Nat) : (pmulRaw a b).length = a.length + b.length - 1 := by rw [pmulRaw, prodAcc_len, List.length_replicate]
end
section
open PySem PySem.W PySem.Calls PyProof.Rows

/-- the end of a turn -/
def TEnd (g : Heap) (L : Addr) (I : Addr) (oI : Obj) (J : (Str → Option Value) → List (Addr × Obj) → Prop) (s : Shared) (Qr : Value → Shared → Prop) (Qb : Shared → Prop) (f : Flow) (s' : Shared) : Prop := match f with
  | .ret v => Qr v s'
  | .brk => Qb s'
  | _ => ∃ h' tk' m' news', s' = { s with heap := h', toks := tk' } ∧ Fr g L h' m' ∧ News g L h' ((I, oI) :: news') ∧ (∀ q ∈ news', q.1 ≠ I) ∧ J m' news'

theorem TEnd.next {g : Heap} {L I : Addr} {oI : Obj} {J : (Str → Option Value) → List (Addr × Obj) → Prop} {s : Shared} {Qr : Value → Shared → Prop} {Qb : Shared → Prop} {h' : Heap} {tk' : Nat} {m' : Str → Option Value} {news' : List (Addr × Obj)}
    (F : Fr g L h' m') (N : News g L h' ((I, oI) :: news')) (hI : ∀ q ∈ news', q.1 ≠ I) (hJ : J m' news') : TEnd g L I oI J s Qr Qb .next { s with heap := h', toks := tk' } := ⟨h', tk', m', news', rfl, F, N, hI, hJ⟩

section
variable {prog : Program} {w : World} {A : Around} {E : Value → Shared → Prop} {s : Shared} {env : Env} {g : Heap} {x : Str} {body : List Stmt} {Q : Flow → Shared → Prop} {m : Str → Option Value} {news : List (Addr × Obj)}

theorem own_news {L I : Addr} {oI : Obj} {h : Heap} {own nx : List (Addr × Obj)} (hI : h.get? I = some oI) (ho : ∀ q ∈ own, q.1 = I) (hg : ∀ q ∈ own, h.get? q.1 = some q.2) (hm : (I, oI) ∈ own) (N : News g L h (own ++ nx)) :
    News g L h ((I, oI) :: nx) ∧ ∀ q ∈ own, q = (I, oI) := by
  refine ⟨fun q hq => ?_, fun q hq => ?_⟩
  · rcases List.mem_cons.mp hq with rfl | hq
    · exact N _ (List.mem_append_left _ hm)
    · exact N _ (List.mem_append_right _ hq)
  · have h1 := ho q hq
    have h2 := hg q hq
    rw [h1, hI] at h2
    exact Prod.ext h1 (Option.some.inj h2).symm

theorem loop_range {r : Addr} {b : Int} {t0 u0 v0 : Tok} {n : Nat} (J₀ : (Str → Option Value) → Nat → (Str → Option Value) → List (Addr × Obj) → Prop) (hh : A.handled = none) (hr : IsRange s.heap r 0 b 1 t0 u0 v0) (hb : b.toNat = n) (hb1 : -1000000 < b) (hn : n < 1000000)
    (F : Fr g env.locals s.heap m) (N : News g env.locals s.heap news) (hJ : J₀ m 0 m news)
    (turn : ∀ (i : Nat) (t : Tok) (I : Addr) (oI : Obj) m₁ news₁ h tk, i < n → J₀ m i m₁ news₁ → (∀ q ∈ news, q.1 < I) → (∀ q ∈ news₁, q.1 ≠ I) → Fr g env.locals h (fun y => if y = x then some (.int (i : Int) t) else m₁ y) → News g env.locals h ((I, oI) :: news₁) →
      wpAny (model prog w) A (execs body env) (TEnd g env.locals I oI (J₀ m (i + 1)) { s with heap := h, toks := tk } (fun v s' => Q (.ret v) s') fun s' => Q .next s') E { s with heap := h, toks := tk })
    (done : ∀ h tk m₁ news₁, J₀ m n m₁ news₁ → Fr g env.locals h m₁ → News g env.locals h news₁ → Q .next { s with heap := h, toks := tk }) :
    wpAny (model prog w) A (pyIter (.ref r)) (fun it s₂ => LoopAtV prog w A g env x body Q E it s₂) E s := by
  generalize hJe : J₀ m = J at *
  have hsz : Builtin.Range.rangeSize 0 b 1 = (n : Int) := by rw [rangeSize_one]; split <;> omega
  refine wpAny_pyIter_range hr (small_one (by omega) (by omega) (by omega) (by omega)) ?_
  have W := (Walks.range (prog := prog) (w := w) hh s.heap.objs.size 0 1 n)
  refine ⟨_, _, _, n, _, _, m, news, J, rfl, W, ?_, ?_, ?_, ?_, F.push _, (fun q hq => ⟨Heap.get?_push_of_some _ (N q hq).1, (N q hq).2⟩), hJ, ?_, ?_⟩
  · intro hm
    exact absurd F.ns.lt (List.mem_singleton.mp hm ▸ Nat.lt_irrefl _)
  · intro c hc
    rw [List.mem_singleton.mp hc]
    exact next_is_new F
  · intro q hq hI
    exact absurd (Heap.lt_size (N q hq).1) ((List.mem_singleton.mp hI) ▸ Nat.lt_irrefl _)
  · show IsRangeIter _ _ _ _ _
    have e1 : ((0 : Int) + ((0 : Nat) : Int) * 1) = 0 := by simp
    have e2 : ((n : Int) - ((0 : Nat) : Int)) = Builtin.Range.rangeSize 0 b 1 := by rw [hsz]; simp
    rw [e1, e2]
    exact Heap.get?_push_size _ rfl
  · rintro i v m₁ news₁ s₁ own ⟨h, tk, rfl⟩ hi ⟨t, rfl⟩ hJ₁ hoff hown hget hfp hst F₁ N₁
    obtain ⟨oI, hI⟩ : ∃ o, h.get? s.heap.objs.size = some o := ⟨_, hst⟩
    have hfr : g.get? s.heap.objs.size = none := next_is_new F
    have hmem := hfp s.heap.objs.size (.head _) hfr _ hI
    obtain ⟨N₂, hall⟩ := own_news hI (fun q hq => List.mem_singleton.mp (hown q hq)) hget hmem N₁
    have hne : ∀ q ∈ news₁, q.1 ≠ s.heap.objs.size := fun q hq e => hoff q hq (by rw [e]; exact .head _)
    have e3 : (0 : Int) + (i : Int) * 1 = (i : Int) := by omega
    rw [e3] at F₁
    refine wpAny_mono (turn i t s.heap.objs.size _ m₁ news₁ h tk hi hJ₁ (fun q hq => Heap.lt_size (N q hq).1) hne F₁ N₂) (fun f s₂ z => ?_) fun _ _ e => e
    have fin : (∃ h' tk' m' news', s₂ = { s with heap := h', toks := tk' } ∧ Fr g env.locals h' m' ∧ News g env.locals h' ((s.heap.objs.size, oI) :: news') ∧ (∀ q ∈ news', q.1 ≠ s.heap.objs.size) ∧ J (i + 1) m' news') →
        LoopStepU g env.locals [s.heap.objs.size] own (J (i + 1)) { s with heap := h, toks := tk } .next s₂ := by
      rintro ⟨h', tk', m', news', e, F', N', hd, hj⟩
      refine ⟨rfl, h', tk', m', news', e, F', fun q hq => ?_, fun q hq => by rw [List.mem_singleton]; exact hd q hq, hj⟩
      rcases List.mem_append.mp hq with hq | hq
      · rw [hall q hq]; exact N' _ (.head _)
      · exact N' _ (.tail _ hq)
    cases f with
    | ret v => exact z
    | brk => exact z
    | next => exact .next (fin z)
    | cont => exact .cont (fin z)
  · exact fun h' tk m' news' F' N' _ hJ' => done h' tk m' news' hJ' F' N'

/-- a loop that may break: what holds behind it, said once -/
theorem loop_range_brk {r : Addr} {b : Int} {t0 u0 v0 : Tok} {n : Nat} (J₀ : (Str → Option Value) → Nat → (Str → Option Value) → List (Addr × Obj) → Prop) (R : (Str → Option Value) → List (Addr × Obj) → Prop) (hh : A.handled = none) (hr : IsRange s.heap r 0 b 1 t0 u0 v0) (hb : b.toNat = n) (hb1 : -1000000 < b) (hn : n < 1000000)
    (F : Fr g env.locals s.heap m) (N : News g env.locals s.heap news) (hJ : J₀ m 0 m news)
    (turn : ∀ (i : Nat) (t : Tok) (I : Addr) (oI : Obj) m₁ news₁ h tk, i < n → J₀ m i m₁ news₁ → (∀ q ∈ news, q.1 < I) → (∀ q ∈ news₁, q.1 ≠ I) → Fr g env.locals h (fun y => if y = x then some (.int (i : Int) t) else m₁ y) → News g env.locals h ((I, oI) :: news₁) →
      wpAny (model prog w) A (execs body env) (TEnd g env.locals I oI (J₀ m (i + 1)) { s with heap := h, toks := tk } (fun v s' => Q (.ret v) s') fun s' => ∃ h' tk' m' news', s' = { s with heap := h', toks := tk' } ∧ Fr g env.locals h' m' ∧ News g env.locals h' news' ∧ R m' news') E { s with heap := h, toks := tk })
    (fin : ∀ m₁ news₁, J₀ m n m₁ news₁ → R m₁ news₁)
    (done : ∀ h tk m₁ news₁, R m₁ news₁ → Fr g env.locals h m₁ → News g env.locals h news₁ → Q .next { s with heap := h, toks := tk }) :
    wpAny (model prog w) A (pyIter (.ref r)) (fun it s₂ => LoopAtV prog w A g env x body Q E it s₂) E s := by
  refine loop_range J₀ hh hr hb hb1 hn F N hJ (fun i t I oI m₁ news₁ h tk hi hj hlt hne F1 N1 => ?_) fun h tk m₁ news₁ hj F1 N1 => done h tk m₁ news₁ (fin _ _ hj) F1 N1
  refine wpAny_mono (turn i t I oI m₁ news₁ h tk hi hj hlt hne F1 N1) (fun f s' z => ?_) fun _ _ e => e
  cases f with
  | ret v => exact z
  | next => exact z
  | cont => exact z
  | brk =>
    obtain ⟨h', tk', m', news', rfl, F2, N2, hR⟩ := z
    exact done h' tk' m' news' hR F2 N2
theorem loop_list {l : Addr} {vs : List Value} {ns : List Int} (J₀ : (Str → Option Value) → Nat → (Str → Option Value) → List (Addr × Obj) → Prop) (hh : A.handled = none) (hl : g.IsList l vs.toArray) (hi : IntsAre vs ns)
    (F : Fr g env.locals s.heap m) (N : News g env.locals s.heap news) (hJ : J₀ m 0 m news)
    (turn : ∀ (i : Nat) (a : Int) (t : Tok) (I : Addr) (oI : Obj) m₁ news₁ h tk, ns[i]? = some a → J₀ m i m₁ news₁ → (∀ q ∈ news, q.1 < I) → (∀ q ∈ news₁, q.1 ≠ I) → Fr g env.locals h (fun y => if y = x then some (.int a t) else m₁ y) → News g env.locals h ((I, oI) :: news₁) →
      wpAny (model prog w) A (execs body env) (TEnd g env.locals I oI (J₀ m (i + 1)) { s with heap := h, toks := tk } (fun v s' => Q (.ret v) s') fun s' => Q .next s') E { s with heap := h, toks := tk })
    (done : ∀ h tk m₁ news₁, J₀ m ns.length m₁ news₁ → Fr g env.locals h m₁ → News g env.locals h news₁ → Q .next { s with heap := h, toks := tk }) :
    wpAny (model prog w) A (pyIter (.ref l)) (fun it s₂ => LoopAtV prog w A g env x body Q E it s₂) E s := by
  generalize hJe : J₀ m = J at *
  have hls : s.heap.IsList l vs.toArray := hl.at fun o e => F.keep l o e
  obtain ⟨ol, hol, _⟩ := id hl
  have hlt : l < g.objs.size := Heap.lt_size hol
  have hne : l ≠ s.heap.objs.size := Nat.ne_of_lt (Nat.lt_trans (Nat.lt_of_lt_of_le hlt F.above) F.ns.lt)
  refine wpAny_pyIter_list hls ?_
  have W := Walks.list (prog := prog) (w := w) hh s.heap.objs.size l hne vs.toArray
  have hlen : vs.toArray.size = ns.length := by simp [hi.length]
  rw [hlen] at W
  refine ⟨_, _, _, ns.length, _, _, m, news, J, rfl, W, ?_, ?_, ?_, ⟨⟨_, Heap.get?_push_size _ rfl, rfl, rfl⟩, hls.at fun o e => Heap.get?_push_of_some _ e⟩, F.push _, (fun q hq => ⟨Heap.get?_push_of_some _ (N q hq).1, (N q hq).2⟩), hJ, ?_, ?_⟩
  · intro hm
    rcases List.mem_cons.mp hm with e | hm
    · exact absurd F.ns.lt (e ▸ Nat.lt_irrefl _)
    · exact absurd (Nat.lt_of_lt_of_le hlt F.above) ((List.mem_singleton.mp hm) ▸ Nat.lt_irrefl _)
  · intro c hc
    rw [List.mem_singleton.mp hc]
    exact next_is_new F
  · intro q hq hI
    exact absurd (Heap.lt_size (N q hq).1) ((List.mem_singleton.mp hI) ▸ Nat.lt_irrefl _)
  · rintro i v m₁ news₁ s₁ own ⟨h, tk, rfl⟩ hin hP hJ₁ hoff hown hget hfp hst F₁ N₁
    have hlt' : i < ns.length := hin
    obtain ⟨t, hx⟩ := hi.get i ns[i] (by simp [hlt'])
    have hv : v = .int ns[i] t := by
      have hP' : vs[i]? = some v := by simpa using hP
      rw [hx] at hP'; exact (Option.some.inj hP').symm
    subst hv
    obtain ⟨oI, hI, _⟩ := id hst.1
    have hfr : g.get? s.heap.objs.size = none := next_is_new F
    have hmem := hfp s.heap.objs.size (.head _) hfr _ hI
    obtain ⟨N₂, hall⟩ := own_news hI (fun q hq => by
      rcases List.mem_cons.mp (hown q hq) with e | e
      · exact e
      · have e := List.mem_singleton.mp e
        have h3 := (N₁ q (List.mem_append_left _ hq)).2.2
        rw [e, hol] at h3
        cases h3) hget hmem N₁
    have hne : ∀ q ∈ news₁, q.1 ≠ s.heap.objs.size := fun q hq e => hoff q hq (by rw [e]; exact .head _)
    refine wpAny_mono (turn i ns[i] t s.heap.objs.size _ m₁ news₁ h tk (by simp [hlt']) hJ₁ (fun q hq => Heap.lt_size (N q hq).1) hne F₁ N₂) (fun f s₂ z => ?_) fun _ _ e => e
    have fin : (∃ h' tk' m' news', s₂ = { s with heap := h', toks := tk' } ∧ Fr g env.locals h' m' ∧ News g env.locals h' ((s.heap.objs.size, oI) :: news') ∧ (∀ q ∈ news', q.1 ≠ s.heap.objs.size) ∧ J (i + 1) m' news') →
        LoopStepU g env.locals [s.heap.objs.size] own (J (i + 1)) { s with heap := h, toks := tk } .next s₂ := by
      rintro ⟨h', tk', m', news', e, F', N', hd, hj⟩
      refine ⟨rfl, h', tk', m', news', e, F', fun q hq => ?_, fun q hq => by rw [List.mem_singleton]; exact hd q hq, hj⟩
      rcases List.mem_append.mp hq with hq | hq
      · rw [hall q hq]; exact N' _ (.head _)
      · exact N' _ (.tail _ hq)
    cases f with
    | ret v => exact z
    | brk => exact z
    | next => exact .next (fin z)
    | cont => exact .cont (fin z)
  · exact fun h' tk m' news' F' N' _ hJ' => done h' tk m' news' hJ' F' N'
end

def AllNe (d : Nat) : List (Addr × Obj) → Prop
  | [] => True
  | p :: r => @Ne Nat p.1 d ∧ AllNe d r
theorem allNe_of {d : Addr} : ∀ {l : List (Addr × Obj)}, (∀ p ∈ l, p.1 ≠ d) → AllNe d l
  | [], _ => trivial
  | p :: _, h => ⟨h p (.head _), allNe_of fun q hq => h q (.tail _ hq)⟩
theorem newsAdd {g h h' : Heap} {L D : Addr} {m : Str → Option Value} {o : Obj} {news : List (Addr × Obj)} (F : Fr g L h m) (N : News g L h news) (hk : h.StaysIn h') (hf : h.get? D = none) (hg : h'.get? D = some o) : News g L h' ((D, o) :: news) := by
  intro q hq
  rcases List.mem_cons.mp hq with rfl | hq
  · refine ⟨hg, fun e => ?_, ?_⟩
    · obtain ⟨oL, _, _, hL, _⟩ := F.ns
      have e : D = L := e
      rw [← e, hf] at hL; cases hL
    · cases e : g.get? D with
      | none => rfl
      | some o' => have := F.keep _ _ e; rw [hf] at this; cases this
  · exact ⟨hk _ _ (N q hq).1, (N q hq).2⟩
theorem newsNe {g h : Heap} {L D : Addr} {news : List (Addr × Obj)} (N : News g L h news) (hf : h.get? D = none) : ∀ q ∈ news, q.1 ≠ D := fun q hq e => by
  have := (N q hq).1
  rw [e, hf] at this; cases this
/-- what is known of a name, said of the frame -/
theorem frA {g h : Heap} {L : Addr} {a : Str} {v : Value} {m : Str → Option Value} (F : Fr g L h m) (ha : m a = some v) : Fr g L h (fun y => if y = a then some v else m y) := by
  have : m = fun y => if y = a then some v else m y := by
    funext y
    by_cases h2 : y = a
    · subst h2; simp [ha]
    · simp [h2]
  exact this ▸ F
theorem frB {g h : Heap} {L : Addr} {x a : Str} {vx : Option Value} {v : Value} {m : Str → Option Value} (F : Fr g L h (fun y => if y = x then vx else m y)) (ha : m a = some v) : Fr g L h (fun y => if y = x then vx else if y = a then some v else m y) := by
  have : (fun y => if y = x then vx else m y) = fun y => if y = x then vx else if y = a then some v else m y := by
    funext y
    by_cases h2 : y = a
    · subst h2; simp [ha]
    · simp [h2]
  exact this ▸ F
theorem fr1 {g h : Heap} {L : Addr} {x a : Str} {vx : Option Value} {v : Value} {m₁ m₀ : Str → Option Value} (F : Fr g L h (fun y => if y = x then vx else m₁ y)) (ha : m₁ a = some v)
    (hk : ∀ y, y ≠ a → y ≠ x → m₁ y = m₀ y) : Fr g L h (fun y => if y = x then vx else if y = a then some v else m₀ y) := by
  have : (fun y => if y = x then vx else m₁ y) = fun y => if y = x then vx else if y = a then some v else m₀ y := by
    funext y
    by_cases h1 : y = x
    · simp [h1]
    · by_cases h2 : y = a
      · subst h2; simp [h1, ha]
      · simp [h1, h2, hk y h2 h1]
  exact this ▸ F
theorem fr2 {g h : Heap} {L : Addr} {x a b : Str} {vx : Option Value} {va vb : Value} {m₁ m₀ : Str → Option Value} (F : Fr g L h (fun y => if y = x then vx else m₁ y)) (ha : m₁ a = some va) (hb : m₁ b = some vb)
    (hk : ∀ y, y ≠ a → y ≠ b → y ≠ x → m₁ y = m₀ y) : Fr g L h (fun y => if y = x then vx else if y = a then some va else if y = b then some vb else m₀ y) := by
  have : (fun y => if y = x then vx else m₁ y) = fun y => if y = x then vx else if y = a then some va else if y = b then some vb else m₀ y := by
    funext y
    by_cases h1 : y = x
    · simp [h1]
    · by_cases h2 : y = a
      · subst h2; simp [h1, ha]
      · by_cases h3 : y = b
        · subst h3; simp [h1, h2, hb]
        · simp [h1, h2, h3, hk y h2 h3 h1]
  exact this ▸ F
/-- names that the loop has made or turned are forgotten -/
theorem frx {g h : Heap} {L : Addr} {x : Str} {vx : Option Value} {m₁ m₀ : Str → Option Value} (F : Fr g L h (fun y => if y = x then vx else m₁ y)) (hk : ∀ y, y ≠ x → m₁ y = m₀ y) : Fr g L h (fun y => if y = x then vx else m₀ y) := by
  have : (fun y => if y = x then vx else m₁ y) = fun y => if y = x then vx else m₀ y := by
    funext y
    by_cases h1 : y = x
    · simp [h1]
    · simp [h1, hk y h1]
  exact this ▸ F
/-- at a loop's end: one name turned, the loop's own name open -/
theorem fr1e {g h : Heap} {L : Addr} {x a : Str} {v : Value} {m₁ m₀ : Str → Option Value} (F : Fr g L h m₁) (ha : m₁ a = some v)
    (hk : ∀ y, y ≠ a → y ≠ x → m₁ y = m₀ y) : ∃ u, Fr g L h (fun y => if y = a then some v else if y = x then u else m₀ y) := by
  refine ⟨m₁ x, ?_⟩
  have : m₁ = fun y => if y = a then some v else if y = x then m₁ x else m₀ y := by
    funext y
    by_cases h2 : y = a
    · subst h2; simp [ha]
    · by_cases h1 : y = x
      · subst h1; simp [h2]
      · simp [h1, h2, hk y h2 h1]
  exact this ▸ F

/-- a call of ours that leaves all as it stood -/
theorem enter0 {prog : Program} {w : World} {A : Around} {s : Shared} {K : Frag} {h₀ : Heap} {p : Program} {loose : List Str} {mean : ExcName → Option Value} {mg mb : Str → Option Value}
    {name qual : Str} {params : Arguments} {body : List Stmt} {scope : Scope} {dV kV doc pm cdv ct oc : Value} {an od : Option Addr} {osl : Array (Option Value)} {f : Addr} {args : Args} {binds : List (Str × Value)} {R : Result → Shared → Prop}
    (G : Gr K p loose mean mg mb h₀) (k : h₀.StaysIn s.heap)
    (ho : K.lookup f = some ⟨oc, od, .func (fnOf name qual params body scope dV kV doc pm an cdv ct), osl⟩) (hcd : codeIn K cdv qual = true) (hroom : A.depth < recursionLimit)
    (hbind : BindsTo s (fnOf name qual params body scope dV kV doc pm an cdv ct) args binds) (hloc : ∀ y ∈ binds, scope.names.lookup y.1 = some .local)
    (h : ∀ g L' h₁, g = s.heap → Gr K p loose mean mg mb g → Fr g L' h₁ (fun y => binds.reverse.lookup y) → News g L' h₁ [] →
      wpAny (model prog w) (A.deeper (envOf qual scope L' f cdv)) (execs body (envOf qual scope L' f cdv))
        (fun fl s' => R (.ok (.ret (match fl with | .ret v => v | _ => .none))) s') (fun _ _ => False) { s with heap := h₁, toks := s.toks + binds.length })
    (hco : scope.isCoroutine = false) (hgen : scope.isGenerator = false) (hk : scope.kind = .function) (hcell : ∀ x ∈ scope.names, x.2 ≠ .cell) :
    codeAny (model prog w) A (.call (.ref f) args) R s := by
  refine codeAny_call_def (fd := fnOf name qual params body scope dV kV doc pm an cdv ct) (body := body) (binds := binds) hroom (k _ _ (G.X _ _ ho)) rfl (G.T.nolimit.keeps k) ((codeRec_of G.X hcd).keeps k) rfl hbind hcell hloc (fun h₁ hns hk₁ => ?_) hco hgen hk
  exact wpAny_mono (h s.heap s.heap.objs.size h₁ rfl (G.keeps k) ⟨hns, fun b o e => hk₁ b o e, Nat.le_refl _⟩ News.nil) (fun fl s' hl => hl) fun _ _ y => y.elim
end
section
open PySem PySem.W PySem.Calls PyProof.Rows
theorem bx {x y : Int} (hx : 0 ≤ x) (hy : 0 ≤ y) : Builtin.bitXor x y = ((x.toNat ^^^ y.toNat : Nat) : Int) := by
  rw [bitXor_and, bitAnd_pp hx hy]
  have := xor_and x.toNat y.toNat
  omega

theorem valEq {x y : Int} {t : Tok} (h : x = y) : some (Value.int x t) = some (Value.int y t) := by rw [h]
theorem xt_i1 {a : Nat} (h : a < 128) : ((xt a : Nat) : Int) = 2 * (a : Int) := by
  unfold xt; rw [if_pos h]; omega
theorem xt_i2 {a : Nat} (h : ¬ a < 128) : ((xt a : Nat) : Int) = Builtin.bitXor (2 * (a : Int)) 285 := by
  unfold xt; rw [if_neg h, bx (by omega) (by omega)]
  have : (2 * (a : Int)).toNat = 2 * a := by omega
  rw [this]
  rfl
theorem bxn (a b : Nat) : Builtin.bitXor (a : Int) (b : Int) = ((a ^^^ b : Nat) : Int) := by
  rw [bx (by omega) (by omega)]; rfl
theorem fdiv2 (a : Nat) : (a : Int).fdiv 2 = ((a / 2 : Nat) : Int) := by
  rw [Int.fdiv_eq_ediv_of_nonneg _ (by decide)]; omega
theorem fmod2 (a : Nat) : (a : Int).fmod 2 = ((a % 2 : Nat) : Int) := by
  rw [Int.fmod_eq_emod_of_nonneg _ (by decide)]; omega
/-- ints that stand for these numbers -/
abbrev Nums (vs : List Value) (ns : List Nat) : Prop := IntsAre vs (ns.map fun n => ((n : Nat) : Int))

def mkV (t : Nat) : List Nat → List Value
  | [] => []
  | n :: r => .int (n : Int) t :: mkV (t + 1) r
theorem mkV_ints : ∀ (ns : List Nat) (t : Nat), Nums (mkV t ns) ns
  | [], _ => .nil
  | n :: r, t => .cons (n : Int) t (mkV_ints r (t + 1))
theorem getD_map (ns : List Nat) (i : Nat) : (ns.map fun n => ((n : Nat) : Int)).getD i 0 = ((ns.getD i 0 : Nat) : Int) := by
  rw [List.getD_eq_getElem?_getD, List.getD_eq_getElem?_getD, List.getElem?_map]
  cases ns[i]? <;> rfl

theorem exp_at (P : Params) : List.lookup 15 (hd.heap_39 P) = some ⟨.type "list", none, .seq (mkV 189 expT).toArray 0, #[]⟩ := by kernel_rfl
theorem log_at (P : Params) : List.lookup 16 (hd.heap_39 P) = some ⟨.type "list", none, .seq (mkV 446 logT).toArray 0, #[]⟩ := by kernel_rfl

def Stop (P : Prop) : Prop := P
theorem Stop.out {P : Prop} (h : Stop P) : P := h
theorem Stop.mk {P : Prop} (h : P) : Stop P := h
theorem Fr.congr {g h : Heap} {L : Addr} {m m' : Str → Option Value} (F : Fr g L h m) (e : ∀ y, m y = m' y) : Fr g L h m' := by
  have : m = m' := funext e
  exact this ▸ F
local macro_rules | `(tactic| walk_at "pyIter ref") => `(tactic| refine Stop.out ?_)
local macro_rules | `(tactic| walk_at "exec While") => `(tactic| refine Stop.out ?_)
local macro_rules | `(tactic| walk_at "exec While Compare cons nil") => `(tactic| refine Stop.out ?_)
local macro_rules | `(tactic| walk_at "BJ.map") => `(tactic| (intro y; (repeat' split) <;> (first | rfl | (simp_all (decide := true); done))))
local macro_rules | `(tactic| walk_at "BJ.in") => `(tactic| (
  (case ho => k_is); (case hcd => k_is); (case hb => exact BindsTo.of_eq rfl); (case hloc => exact locs rfl); (case c1 => exact rfl); (case c2 => exact rfl); (case c3 => exact rfl); (case c4 => decide)))

section
variable {w : World} {p : Program} {loose : List Str} {mean : ExcName → Option Value} {mg mb : Str → Option Value} {h₀ : Heap} {s : Shared} {dp un : Nat} {fr : Option (List Env)} {gd : Option (List Code)} {Q E : Value → Shared → Prop}

theorem glog_spec {n : Int} {tn : Tok} (G : Gr (hd.heap_39 w.params) p loose mean mg mb h₀) (k : h₀.StaysIn s.heap) (hroom : dp + 1 < recursionLimit)
    (h1 : 1 ≤ n) (h2 : n < 256)
    (h : ∀ h' tk' t, s.heap.StaysIn h' → Q (.int (lg n.toNat : Nat) t) { s with heap := h', toks := tk' }) :
    wpAny (model Challenge.rw_bj0060_01.row.prog w) (aTop dp un fr gd) (call (.ref 23) [.int n tn]) Q E s := by
  revert G
  k_fill
  intro G
  refine wpAny_call ?_
  refine' enter0 (binds := [(Str.ofString "n", .int n tn)]) G k ?ho ?hcd ?hroom ?hb ?hloc ?body ?c1 ?c2 ?c3 ?c4
  walk_at "BJ.in"
  case hroom => show dp < _; omega
  case body =>
    rintro g L' h₁ rfl G' F N
    have X := G'.X
    have T := G'.T
    have hl := lstK X (log_at w.params)
    have hi := mkV_ints logT 446
    have hL : (logT.map fun n => ((n : Nat) : Int)).length = 256 := by rw [List.length_map]; exact logT_len
    dsimp only
    k_steps
    rw [getD_map]
    exact h _ _ _ (Fr.keep (by assumption))

theorem gexp_spec {n : Int} {tn : Tok} (G : Gr (hd.heap_39 w.params) p loose mean mg mb h₀) (k : h₀.StaysIn s.heap) (hroom : dp + 1 < recursionLimit)
    (h1 : -100000 ≤ n) (h2 : n < 100000)
    (h : ∀ h' tk' t, s.heap.StaysIn h' → Q (.int (gx n : Nat) t) { s with heap := h', toks := tk' }) :
    wpAny (model Challenge.rw_bj0060_01.row.prog w) (aTop dp un fr gd) (call (.ref 30) [.int n tn]) Q E s := by
  revert G
  k_fill
  intro G
  refine wpAny_call ?_
  refine' enter0 (binds := [(Str.ofString "n", .int n tn)]) G k ?ho ?hcd ?hroom ?hb ?hloc ?body ?c1 ?c2 ?c3 ?c4
  walk_at "BJ.in"
  case hroom => show dp < _; omega
  case body =>
    rintro g L' h₁ rfl G' F N
    have X := G'.X
    have T := G'.T
    have hl := lstK X (exp_at w.params)
    have hi := mkV_ints expT 189
    have hL : (expT.map fun n => ((n : Nat) : Int)).length = 256 := by rw [List.length_map]; exact expT_len
    dsimp only
    k_steps
    rw [getD_map]
    exact h _ _ _ (Fr.keep (by assumption))

theorem power_spec {n : Int} {tn : Tok} (G : Gr (hd.heap_39 w.params) p loose mean mg mb h₀) (k : h₀.StaysIn s.heap) (hroom : dp + 1 < recursionLimit)
    (h1 : 0 ≤ n) (h2 : n < 100000)
    (h : ∀ h' tk' t, s.heap.StaysIn h' → Q (.int (powE n.toNat : Nat) t) { s with heap := h', toks := tk' }) :
    wpAny (model Challenge.rw_bj0060_01.row.prog w) (aTop dp un fr gd) (call (.ref 119) [.int n tn]) Q E s := by
  revert G
  k_fill
  intro G
  refine wpAny_call ?_
  refine' enter0 (binds := [(Str.ofString "exponent", .int n tn)]) G k ?ho ?hcd ?hroom ?hb ?hloc ?body ?c1 ?c2 ?c3 ?c4
  walk_at "BJ.in"
  case hroom => show dp < _; omega
  case body =>
    rintro g L' h₁ rfl G' F N
    have X := G'.X
    have T := G'.T
    dsimp only
    k_steps
    refine Stop.mk ?_
    (with_reducible rename IsRange _ _ _ _ _ _ _ _ => rg)
    (with_reducible rename Fr _ _ _ _ => F1)
    (with_reducible rename News _ _ _ _ => N1)
    have hfm : 0 ≤ n.fmod 255 := Int.fmod_nonneg_of_pos _ (by decide)
    have hfm2 : n.fmod 255 < 255 := Int.fmod_lt_of_pos _ (by decide)
    refine' loop_range (n := (n.fmod 255).toNat) (fun m₀ i m₁ news₁ => news₁ = [] ∧ (∃ t : Tok, m₁ (Str.ofString "told") = some (.int (pow2 i : Nat) t))) rfl rg ?hb ?hb1 ?hn F1 N1 ?hJ ?turn ?done
    case hb => omega
    case hb1 => omega
    case hn => omega
    case hJ => exact ⟨rfl, _, rfl⟩
    case turn =>
      rintro i t I oI m₁ news₁ h2 tk hi ⟨rfl, t', hm⟩ hlt hne F2 N2
      replace F2 := frB F2 hm
      dsimp only
      have hp := pow2_lt i
      k_steps
      all_goals (refine TEnd.next (by k_asm) (by k_asm) ?_ ⟨rfl, _, valEq ?_⟩; (intro _ hq; cases hq))
      · exact (xt_i1 (by omega)).symm
      · exact (xt_i2 (by omega)).symm
    case done =>
      rintro h2 tk m₁ news₁ ⟨rfl, t', hm⟩ F2 N2
      replace F2 := frA F2 hm
      dsimp only
      k_steps
      have e : (n.fmod 255).toNat = n.toNat % 255 := by rw [Int.fmod_eq_emod_of_nonneg _ (by decide)]; omega
      rw [e]
      exact h _ _ _ (Fr.keep (by assumption))

theorem times_spec {a b : Int} {ta tb : Tok} (G : Gr (hd.heap_39 w.params) p loose mean mg mb h₀) (k : h₀.StaysIn s.heap) (hroom : dp + 1 < recursionLimit)
    (h1 : 0 ≤ a) (h2 : a < 256) (h3 : 0 ≤ b) (h4 : b < 256)
    (h : ∀ h' tk' t, s.heap.StaysIn h' → Q (.int (times a.toNat b.toNat : Nat) t) { s with heap := h', toks := tk' }) :
    wpAny (model Challenge.rw_bj0060_01.row.prog w) (aTop dp un fr gd) (call (.ref 112) [.int a ta, .int b tb]) Q E s := by
  obtain ⟨a₀, rfl⟩ := Int.eq_ofNat_of_zero_le h1
  obtain ⟨b₀, rfl⟩ := Int.eq_ofNat_of_zero_le h3
  revert G
  k_fill
  intro G
  refine wpAny_call ?_
  refine' enter0 (binds := [(Str.ofString "one", .int a₀ ta), (Str.ofString "other", .int b₀ tb)]) G k ?ho ?hcd ?hroom ?hb ?hloc ?body ?c1 ?c2 ?c3 ?c4
  walk_at "BJ.in"
  case hroom => show dp < _; omega
  case body =>
    rintro g L' h₁ rfl G' F N
    have X := G'.X
    have T := G'.T
    dsimp only
    k_steps
    refine Stop.mk ?_
    (with_reducible rename Fr _ _ _ _ => F1)
    (with_reducible rename News _ _ _ _ => N1)
    refine' While_inv (n₀ := 8) (fun f m₁ news₁ => news₁ = [] ∧ ∃ (c x y : Nat) (t1 t2 t3 : Tok), m₁ (Str.ofString "told") = some (.int c t1) ∧ m₁ (Str.ofString "one") = some (.int x t2) ∧ m₁ (Str.ofString "other") = some (.int y t3) ∧ c < 256 ∧ x < 256 ∧ y < 2 ^ f ∧ tms f c x y = times a₀ b₀) F1 N1 ?hJ ?turn PassesOwn.never
    case hJ => exact ⟨rfl, 0, a₀, b₀, _, _, _, rfl, rfl, rfl, by decide, by omega, by omega, rfl⟩
    case turn =>
      rintro f m₁ news₁ h₂ tk F2 N2 ⟨rfl, c, x, y, t1, t2, t3, e1, e2, e3, hc, hx, hy, ht⟩
      replace F2 := frA (a := "other") (frA (a := "one") (frA (a := "told") F2 e1) e2) e3
      dsimp only
      have hx1 := xt_i1 (a := x)
      have hx2 := xt_i2 (a := x)
      have hd := fdiv2 y
      have hm := fmod2 y
      have hb := bxn c x
      have hxl := xt_lt hx
      have hcx : c ^^^ x < 256 := xor_lt (n := 8) hc hx
      k_steps
      rotate_right 1
      · have : y = 0 := by omega
        subst this
        have : c = times a₀ b₀ := by
          rw [← ht]
          cases f <;> rfl
        subst this
        exact h _ _ _ (Fr.keep (by assumption))
      all_goals (
        have hy0 : y ≠ 0 := by omega
        cases f with
        | zero => omega
        | succ f =>
          rw [tms_step f _ _ hy0] at ht
          rw [Nat.pow_succ] at hy
          have hyh : y / 2 < 2 ^ f := by omega
          first
          | rw [if_pos (by omega)] at ht; exact WhileStep.intro (n' := f) (by k_asm) (by k_asm) (Nat.lt_succ_self _) ⟨rfl, _, _, _, _, _, _, valEq hb, valEq (by first | exact (hx1 (by omega)).symm | exact (hx2 (by omega)).symm), valEq hd, hcx, hxl, hyh, ht⟩
          | rw [if_neg (by omega)] at ht; exact WhileStep.intro (n' := f) (by k_asm) (by k_asm) (Nat.lt_succ_self _) ⟨rfl, _, _, _, _, _, _, rfl, valEq (by first | exact (hx1 (by omega)).symm | exact (hx2 (by omega)).symm), valEq hd, hc, hxl, hyh, ht⟩)

/-- what the draws' state is: the script's head, a place in it, a number below 2 ^ 31 -/
def StO (sc : Addr) (len : Nat) (o : Obj) : Prop := ∃ (i x : Int) (ti tx : Tok) (n : Nat), o = listOf #[.ref sc, .int i ti, .int x tx] n ∧ 0 ≤ i ∧ i ≤ len ∧ 0 ≤ x ∧ x < 2147483647

theorem next_spec {st sc : Addr} {o : Obj} {many : Int} {tm : Tok} {nn : Nat} {vs : List Value} {ns : List Int}
    (G : Gr (hd.heap_39 w.params) p loose mean mg mb h₀) (k : h₀.StaysIn s.heap) (hroom : dp + 1 < recursionLimit)
    (hst : s.heap.get? st = some o) (hO : StO sc ns.length o) (hst0 : h₀.get? st = none)
    (hsc : s.heap.get? sc = some (listOf vs.toArray nn)) (hsc0 : h₀.get? sc = none) (hne : st ≠ sc)
    (hi : IntsAre vs ns) (hl : ns.length < 1000) (hm : 0 < many) (hm1 : many < 1000)
    (h : ∀ h' tk' t r o', 0 ≤ r → r < many → StO sc ns.length o' → h'.get? st = some o' → (∀ b ob, b ≠ st → s.heap.get? b = some ob → h'.get? b = some ob) → Q (.int r t) { s with heap := h', toks := tk' }) :
    wpAny (model Challenge.rw_bj0060_01.row.prog w) (aTop dp un fr gd) (call (.ref 105) [.ref st, .int many tm]) Q E s := by
  obtain ⟨i, x, ti, tx, n, rfl, h0, h1, hx0, hx1⟩ := hO
  revert G
  k_fill
  intro G
  refine wpAny_call ?_
  refine' enter (binds := [(Str.ofString "state", .ref st), (Str.ofString "many", .int many tm)]) G k [(st, listOf #[.ref sc, .int i ti, .int x tx] n), (sc, listOf vs.toArray nn)] ?hS ?ho ?hcd ?hroom ?hb ?hloc ?body ?c1 ?c2 ?c3 ?c4
  walk_at "BJ.in"
  case hroom => show dp < _; omega
  case hS =>
    intro q hq
    rcases List.mem_cons.mp hq with rfl | hq
    · exact ⟨hst, hst0⟩
    · rw [List.mem_singleton.mp hq]; exact ⟨hsc, hsc0⟩
  case body =>
    intro g L' h₁ G' st' up dn hL F N lt
    have X := G'.X
    have T := G'.T
    have l1 : @LT.lt Nat _ st L' := lt _ (.head _)
    have l2 : @LT.lt Nat _ sc L' := lt _ (.tail _ (.head _))
    have l3 : @Ne Nat st sc := hne
    have kp : ∀ h', (∃ m, Fr g L' h' m) → h'.get? sc = some (listOf vs.toArray nn) → ∀ b ob, b ≠ st → s.heap.get? b = some ob → h'.get? b = some ob := by
      rintro h' ⟨m, F'⟩ hs b ob hb e
      by_cases hb2 : b = sc
      · rw [hb2] at e ⊢; rw [hs]; rw [hsc] at e; exact e
      · exact F'.keep b ob (up b ob e (by simp [hb, hb2]))
    have fm : ∀ y : Int, 0 ≤ y.fmod many ∧ y.fmod many < many := fun y => ⟨Int.fmod_nonneg_of_pos _ hm, Int.fmod_lt_of_pos _ hm⟩
    have fp : ∀ y : Int, 0 ≤ y.fmod 2147483647 ∧ y.fmod 2147483647 < 2147483647 := fun y => ⟨Int.fmod_nonneg_of_pos _ (by decide), Int.fmod_lt_of_pos _ (by decide)⟩
    dsimp only
    k_steps
    · (with_reducible rename Fr _ _ _ _ => F1)
      (with_reducible rename News _ _ _ _ => N1)
      exact h _ _ _ _ _ (fm _).1 (fm _).2 ⟨_, _, _, _, _, rfl, by omega, by omega, (fp _).1, (fp _).2⟩ (N1 _ (.head _)).1 (kp _ ⟨_, F1⟩ (N1 _ (.tail _ (.head _))).1)
    · (with_reducible rename Fr _ _ _ _ => F1)
      (with_reducible rename News _ _ _ _ => N1)
      exact h _ _ _ _ _ (fm _).1 (fm _).2 ⟨_, _, _, _, _, rfl, by omega, by omega, (fp _).1, (fp _).2⟩ (N1 _ (.head _)).1 (kp _ ⟨_, F1⟩ (N1 _ (.tail _ (.head _))).1)

theorem times_specN {x y : Int} {a b : Nat} {ta tb : Tok} (G : Gr (hd.heap_39 w.params) p loose mean mg mb h₀) (k : h₀.StaysIn s.heap) (hroom : dp + 1 < recursionLimit)
    (hx : x = (a : Int)) (hy : y = (b : Int)) (h2 : a < 256) (h4 : b < 256)
    (h : ∀ h' tk' t, s.heap.StaysIn h' → Q (.int (times a b : Nat) t) { s with heap := h', toks := tk' }) :
    wpAny (model Challenge.rw_bj0060_01.row.prog w) (aTop dp un fr gd) (call (.ref 112) [.int x ta, .int y tb]) Q E s := by
  subst hx hy
  exact times_spec G k hroom (by omega) (by omega) (by omega) (by omega) h
theorem glog_specN {x : Int} {a : Nat} {ta : Tok} (G : Gr (hd.heap_39 w.params) p loose mean mg mb h₀) (k : h₀.StaysIn s.heap) (hroom : dp + 1 < recursionLimit)
    (hx : x = (a : Int)) (h1 : a ≠ 0) (h2 : a < 256)
    (h : ∀ h' tk' t, s.heap.StaysIn h' → Q (.int (lg a : Nat) t) { s with heap := h', toks := tk' }) :
    wpAny (model Challenge.rw_bj0060_01.row.prog w) (aTop dp un fr gd) (call (.ref 23) [.int x ta]) Q E s := by
  subst hx
  exact glog_spec G k hroom (by omega) (by omega) h
theorem power_specN {x : Int} {a : Nat} {ta : Tok} (G : Gr (hd.heap_39 w.params) p loose mean mg mb h₀) (k : h₀.StaysIn s.heap) (hroom : dp + 1 < recursionLimit)
    (hx : x = (a : Int)) (h2 : a < 100000)
    (h : ∀ h' tk' t, s.heap.StaysIn h' → Q (.int (powE a : Nat) t) { s with heap := h', toks := tk' }) :
    wpAny (model Challenge.rw_bj0060_01.row.prog w) (aTop dp un fr gd) (call (.ref 119) [.int x ta]) Q E s := by
  subst hx
  exact power_spec G k hroom (by omega) (by omega) h
theorem toN {x : Int} (h : 0 ≤ x) : x = ((x.toNat : Nat) : Int) := (Int.toNat_of_nonneg h).symm
end
end
section
open PySem PySem.W PySem.Calls PyProof.Rows
local macro_rules | `(tactic| walk_at "pyIter ref") => `(tactic| refine Stop.out ?_)
local macro_rules | `(tactic| walk_at "exec While") => `(tactic| refine Stop.out ?_)
local macro_rules | `(tactic| walk_at "exec While Compare cons nil") => `(tactic| refine Stop.out ?_)
local macro_rules | `(tactic| walk_at "exec While BoolOp cons nil") => `(tactic| refine Stop.out ?_)
local macro_rules | `(tactic| walk_at "subscriptTail Name Slice ref ref") => `(tactic| (k_here; (with_reducible show wpAny _ _ (subscriptTail _ (PySem.Expr.Slice _ _ none _) (Value.ref _) (Value.ref _)) _ _ _); k_dflt (refine' kms_slice_lit ?F ?N ?l ?p ?q rfl ?_ ?s ?t ?z; (case F => k_asm); (case N => k_asm); (case l => kmk_list); (case p => kmk_part); (case q => kmk_part); (case s => with_unfolding_all rfl); (case t => kmk_pure); (case z => first | assumption | kmk_size)); intro D' h' F' N' l1; (try k_lt l1); (try k_sweep)))
local macro_rules | `(tactic| walk_at "BJ.after") => `(tactic| (intro h9 tk9 t9 hk9; (with_reducible rename Fr _ _ _ _ => kF); (with_reducible rename News _ _ _ _ => kN); have kF9 := Fr.keeps kF hk9; have kN9 := News.keepsAll kN hk9; (try k_sweep); clear hk9; (try dsimp only)))
local macro_rules | `(tactic| walk_at "BJ.eqN") => `(tactic| first | (with_reducible assumption) | (with_reducible rfl) | exact toN (by omega))
local macro_rules | `(tactic| walk_at "call ref") => `(tactic| (
  (with_reducible show wpAny _ _ (PySem.call (Value.ref 112) _ _) _ _ _);
  (refine' times_specN ?G ?k ?hr ?a1 ?a2 ?a3 ?a4 ?_; (case k => exact Fr.keep (by k_asm)); (case G => assumption); (case hr => dsimp only [Around.deeper]; omega); (case a1 => walk_at "BJ.eqN"); (case a2 => walk_at "BJ.eqN"); (case a3 => first | assumption | omega); (case a4 => first | assumption | omega));
  walk_at "BJ.after"))
local macro_rules | `(tactic| walk_at "BJ.in") => `(tactic| (
  (case ho => k_is); (case hcd => k_is); (case hb => exact BindsTo.of_eq rfl); (case hloc => exact locs rfl); (case c1 => exact rfl); (case c2 => exact rfl); (case c3 => exact rfl); (case c4 => decide)))
theorem newsHead {h₀ h : Heap} {L : Addr} {a : Addr × Obj} {r : List (Addr × Obj)} (N : News h₀ L h (a :: r)) : News h₀ L h [a] := fun q hq => by rw [List.mem_singleton.mp hq]; exact N _ (.head _)
theorem getD_cast (ns : List Nat) {i : Int} (h : 0 ≤ i) : (ns.map fun n => ((n : Nat) : Int)).getD i.toNat 0 = ((ns.getD i.toNat 0 : Nat) : Int) := getD_map ns _
theorem intsCast {vs : List Value} {ns ms : List Int} (h : IntsAre vs ns) (e : ns = ms) : IntsAre vs ms := e ▸ h
theorem set_cast (T : List Nat) (k : Nat) {c : Int} {y : Nat} (hc : c.toNat = k) : (T.map fun n => ((n : Nat) : Int)).set c.toNat (Builtin.bitXor ((T.map fun n => ((n : Nat) : Int)).getD c.toNat 0) (y : Int)) = (T.set k (T.getD k 0 ^^^ y)).map fun n => ((n : Nat) : Int) := by
  rw [hc, getD_map, bxn, List.map_set]
theorem pick_from {vs : List Value} {ns : List Int} (hi : IntsAre vs ns) (i : Nat) : IntsAre (kms_pick vs.toArray.toList (some (i : Int)) none) (ns.drop i) := by
  have hl := hi.length
  unfold kms_pick kms_lo kms_hi
  dsimp only
  rw [if_neg (by omega)]
  have e : (min ((i : Int).toNat) vs.length) = min i vs.length := by simp
  rw [e]
  have e2 : ((vs.drop (min i vs.length)).take (vs.length - min i vs.length)) = vs.drop i := by
    rw [List.take_of_length_le (by rw [List.length_drop]; exact Nat.le_refl _)]
    by_cases h : i ≤ vs.length
    · rw [Nat.min_eq_left h]
    · rw [Nat.min_eq_right (by omega), List.drop_eq_nil_of_le (by omega), List.drop_eq_nil_of_le (by omega)]
  rw [e2]
  exact hi.drop i
section
variable {w : World} {p : Program} {loose : List Str} {mean : ExcName → Option Value} {mg mb : Str → Option Value} {h₀ : Heap} {s : Shared} {dp un : Nat} {fr : Option (List Env)} {gd : Option (List Code)} {Q E : Value → Shared → Prop}

theorem least_spec {l : Addr} {vs : List Value} {ns : List Nat} (G : Gr (hd.heap_39 w.params) p loose mean mg mb h₀) (k : h₀.StaysIn s.heap) (hroom : dp + 1 < recursionLimit)
    (hl : s.heap.IsList l vs.toArray) (hv : Nums vs ns) (hn : ns.length < 1000)
    (h : ∀ h' tk' D us c, s.heap.StaysIn h' → s.heap.get? D = none → h'.get? D = some (listOf us.toArray c) → Nums us (least ns) → Q (.ref D) { s with heap := h', toks := tk' }) :
    wpAny (model Challenge.rw_bj0060_01.row.prog w) (aTop dp un fr gd) (call (.ref 133) [.ref l]) Q E s := by
  revert G
  k_fill
  intro G
  refine wpAny_call ?_
  refine' enter0 (binds := [(Str.ofString "row", .ref l)]) G k ?ho ?hcd ?hroom ?hb ?hloc ?body ?c1 ?c2 ?c3 ?c4
  walk_at "BJ.in"
  case hroom => show dp < _; omega
  case body =>
    rintro g L' h₁ rfl G' F N
    have X := G'.X
    have T := G'.T
    have hnl : (ns.map fun n => ((n : Nat) : Int)).length = ns.length := List.length_map _
    have hsz : vs.toArray.size ≤ sizeLine := by
      rw [List.size_toArray, hv.length, hnl, sizeLine_eq]; omega
    dsimp only
    k_steps
    refine Stop.mk ?_
    (with_reducible rename Fr _ _ _ _ => F1)
    (with_reducible rename News _ _ _ _ => N1)
    refine' While_inv (n₀ := ns.length) (fun f m₁ news₁ => news₁ = [] ∧ ∃ (i : Nat) (t : Tok), m₁ (Str.ofString "at") = some (.int i t) ∧ m₁ (Str.ofString "row") = some (.ref l) ∧ i + f = ns.length ∧ least (ns.drop i) = least ns) F1 N1 ?hJ ?turn PassesOwn.never
    case hJ => exact ⟨rfl, 0, _, rfl, rfl, by omega, rfl⟩
    case turn =>
      rintro f m₁ news₁ h₂ tk F2 N2 ⟨rfl, i, t, e1, e2, hf, hd⟩
      replace F2 := frA (a := "row") (frA (a := "at") F2 e1) e2
      dsimp only
      have hg : (ns.map fun n => ((n : Nat) : Int)).getD (i : Int).toNat 0 = ((ns.getD i 0 : Nat) : Int) := getD_map ns i
      k_steps
      · refine WhileStep.intro (n' := f - 1) (by k_asm) (by k_asm) (by omega) ⟨rfl, i + 1, _, valEq (show (i : Int) + 1 = ((i + 1 : Nat) : Int) from rfl), rfl, by omega, ?_⟩
        rw [← hd]
        exact (least_drop (by omega) (by omega)).symm
      · (with_reducible rename Fr _ _ _ _ => F3)
        (with_reducible rename News _ _ _ _ => N3)
        refine h _ _ _ _ _ F3.keep (N3 _ (.head _)).2.2 (N3 _ (.head _)).1 ?_
        have e := pick_from hv i
        rw [← List.map_drop] at e
        rw [← hd, least_here (by rintro ⟨_, q⟩; omega)]
        exact e
      · (with_reducible rename Fr _ _ _ _ => F3)
        (with_reducible rename News _ _ _ _ => N3)
        refine h _ _ _ _ _ F3.keep (N3 _ (.head _)).2.2 (N3 _ (.head _)).1 ?_
        have e := pick_from hv i
        rw [← List.map_drop] at e
        rw [← hd, least_here (by rintro ⟨_, q⟩; omega)]
        exact e

theorem product_spec {l₁ l₂ : Addr} {vs₁ vs₂ : List Value} {ns₁ ns₂ : List Nat} (G : Gr (hd.heap_39 w.params) p loose mean mg mb h₀) (k : h₀.StaysIn s.heap) (hroom : dp + 2 < recursionLimit)
    (hl₁ : s.heap.IsList l₁ vs₁.toArray) (hv₁ : Nums vs₁ ns₁) (hn₁ : 1 ≤ ns₁.length) (hm₁ : ns₁.length < 1000) (hb₁ : ∀ i, ns₁.getD i 0 < 256) (hl₂ : s.heap.IsList l₂ vs₂.toArray) (hv₂ : Nums vs₂ ns₂) (hn₂ : 1 ≤ ns₂.length) (hm₂ : ns₂.length < 1000) (hb₂ : ∀ i, ns₂.getD i 0 < 256)
    (h : ∀ h' tk' D us c, s.heap.StaysIn h' → s.heap.get? D = none → h'.get? D = some (listOf us.toArray c) → Nums us (product ns₁ ns₂) → Q (.ref D) { s with heap := h', toks := tk' }) :
    wpAny (model Challenge.rw_bj0060_01.row.prog w) (aTop dp un fr gd) (call (.ref 126) [.ref l₁, .ref l₂]) Q E s := by
  revert G
  k_fill
  intro G
  refine wpAny_call ?_
  refine' enter0 (binds := [(Str.ofString "one", .ref l₁), (Str.ofString "other", .ref l₂)]) G k ?ho ?hcd ?hroom ?hb ?hloc ?body ?c1 ?c2 ?c3 ?c4
  walk_at "BJ.in"
  case hroom => show dp < _; omega
  case body =>
    rintro g L' h₁ rfl G' F N
    have X := G'.X
    have T := G'.T
    have hnl₁ : (ns₁.map fun n => ((n : Nat) : Int)).length = ns₁.length := List.length_map _
    have hnl₂ : (ns₂.map fun n => ((n : Nat) : Int)).length = ns₂.length := List.length_map _
    dsimp only
    k_steps
    refine Stop.mk ?_
    (with_reducible rename IsRange _ _ _ _ _ _ _ _ => rg)
    (with_reducible rename Fr _ _ _ _ => F1)
    (with_reducible rename News _ _ _ _ => N1)
    (rename IntsAre _ (List.flatten (List.replicate _ [0])) => hz)
    have hflat : ∀ n : Nat, (List.replicate n [(0 : Int)]).flatten = (List.replicate n 0).map fun n => ((n : Nat) : Int) := by
      intro n
      induction n with
      | zero => rfl
      | succ n ih => rw [List.replicate_succ, List.flatten_cons, ih, List.replicate_succ, List.map_cons]; rfl
    rw [hflat] at hz
    have hN : (((ns₁.map fun n => ((n : Nat) : Int)).length : Int) + ((ns₂.map fun n => ((n : Nat) : Int)).length : Int) - 1).toNat = ns₁.length + ns₂.length - 1 := by omega
    rw [hN] at hz N1
    obtain ⟨D, us, F2, N2, hz2⟩ : ∃ D us, Fr s.heap L' _ (fun y => if y = Str.ofString "told" then some (Value.ref D) else List.lookup y [(Str.ofString "one", Value.ref l₁), (Str.ofString "other", Value.ref l₂)].reverse) ∧ News s.heap L' _ [(D, listOf (List.toArray us) 0)] ∧ Nums us (List.replicate (ns₁.length + ns₂.length - 1) 0) := ⟨_, _, F1, newsHead N1, hz⟩
    clear N1 hz F1 hN hflat
    refine' loop_range (n := ns₁.length) (fun m₀ i m₁ news₁ => ∃ us, news₁ = [(D, listOf (List.toArray us) 0)] ∧ Nums us (prodAcc (fun i j => times (ns₁.getD i 0) (ns₂.getD j 0)) ns₂.length i (List.replicate (ns₁.length + ns₂.length - 1) 0)) ∧ m₁ (Str.ofString "told") = some (.ref D) ∧ m₁ (Str.ofString "one") = some (.ref l₁) ∧ m₁ (Str.ofString "other") = some (.ref l₂)) rfl rg ?hb ?hb1 ?hn F2 N2 ?hJ ?turn ?done
    case hb => omega
    case hb1 => omega
    case hn => omega
    case hJ => exact ⟨us, rfl, hz2, rfl, rfl, rfl⟩
    case turn =>
      rintro i t I oI m₁ news₁ h2 tk hi ⟨us, rfl, hus, e1, e2, e3⟩ hlt hne F3 N3
      have l1 : @LT.lt Nat _ D I := hlt _ (.head _)
      replace F3 := frB (a := "told") (frB (a := "one") (frB (a := "other") F3 e3) e2) e1
      clear e1 e2 e3 hz2 F2 N2 hlt hne
      dsimp only
      k_steps
      refine Stop.mk ?_
      (with_reducible rename IsRange _ _ _ _ _ _ _ _ => rg2)
      (with_reducible rename Fr _ _ _ _ => F4)
      (with_reducible rename News _ _ _ _ => N4)
      refine' loop_range (n := ns₂.length) (fun m₀ j m₁ news₁ => ∃ us, news₁ = [(I, oI), (D, listOf (List.toArray us) 0)] ∧ Nums us (rowAcc (fun j => times (ns₁.getD i 0) (ns₂.getD j 0)) i j (prodAcc (fun i j => times (ns₁.getD i 0) (ns₂.getD j 0)) ns₂.length i (List.replicate (ns₁.length + ns₂.length - 1) 0))) ∧ m₁ (Str.ofString "told") = some (.ref D) ∧ m₁ (Str.ofString "one") = some (.ref l₁) ∧ m₁ (Str.ofString "other") = some (.ref l₂) ∧ m₁ (Str.ofString "i") = some (.int i t)) rfl rg2 ?hb2 ?hb21 ?hn2 F4 N4 ?hJ2 ?turn2 ?done2
      case hb2 => omega
      case hb21 => omega
      case hn2 => omega
      case hJ2 => exact ⟨us, rfl, hus, rfl, rfl, rfl, rfl⟩
      case turn2 =>
        rintro j t2 I2 oI2 m₂ news₂ h3 tk3 hj ⟨us2, rfl, hus2, e1, e2, e3, e4⟩ hlt2 hne2 F5 N5
        have l2 : @LT.lt Nat _ I I2 := hlt2 _ (.head _)
        have l3 : @LT.lt Nat _ D I2 := hlt2 _ (.tail _ (.head _))
        replace F5 := frB (a := "told") (frB (a := "one") (frB (a := "other") (frB (a := "i") F5 e4) e3) e2) e1
        clear e1 e2 e3 e4 F4 N4 hlt2 hne2 hus
        generalize hT : rowAcc (fun j => times (ns₁.getD i 0) (ns₂.getD j 0)) i j (prodAcc (fun i j => times (ns₁.getD i 0) (ns₂.getD j 0)) ns₂.length i (List.replicate (ns₁.length + ns₂.length - 1) 0)) = T2 at hus2
        have hlen : (T2.map fun n => ((n : Nat) : Int)).length = ns₁.length + ns₂.length - 1 := by
          rw [List.length_map, ← hT, rowAcc_len, prodAcc_len, List.length_replicate]
        have hg1 : (ns₁.map fun n => ((n : Nat) : Int)).getD (i : Int).toNat 0 = ((ns₁.getD i 0 : Nat) : Int) := getD_map ns₁ i
        have hg2 : (ns₂.map fun n => ((n : Nat) : Int)).getD (j : Int).toNat 0 = ((ns₂.getD j 0 : Nat) : Int) := getD_map ns₂ j
        have hx1 := hb₁ i
        have hx2 := hb₂ j
        dsimp only
        k_steps
        (with_reducible rename Fr _ _ _ _ => F6)
        (with_reducible rename News _ _ _ _ => N6)
        (rename IntsAre _ (List.set _ _ _) => hi6)
        refine TEnd.next F6 N6 (by intro q hq; rcases List.mem_cons.mp hq with rfl | hq; exact Nat.ne_of_lt l2; rw [List.mem_singleton.mp hq]; exact Nat.ne_of_lt l3) ⟨_, rfl, ?_, rfl, rfl, rfl, rfl⟩
        rw [rowAcc, hT]
        refine intsCast hi6 ?_
        rw [set_cast T2 (i + j) (by omega)]
      case done2 =>
        rintro h3 tk3 m₂ news₂ ⟨us2, rfl, hus2, e1, e2, e3, e4⟩ F5 N5
        dsimp only
        k_steps
        exact TEnd.next F5 N5 (by intro q hq; rw [List.mem_singleton.mp hq]; exact Nat.ne_of_lt l1) ⟨us2, rfl, hus2, e1, e2, e3⟩
    case done =>
      rintro h2 tk m₁ news₁ ⟨us, rfl, hus, e1, e2, e3⟩ F3 N3
      replace F3 := frA (a := "told") F3 e1
      dsimp only
      k_steps
      exact h _ _ _ _ _ F3.keep (N3 _ (.head _)).2.2 (N3 _ (.head _)).1 hus
end
end
section
open PySem PySem.W PySem.Calls PyProof.Rows
local macro_rules | `(tactic| walk_at "pyIter ref") => `(tactic| refine Stop.out ?_)
local macro_rules | `(tactic| walk_at "BJ.after") => `(tactic| (intro h9 tk9 t9 hk9; (with_reducible rename Fr _ _ _ _ => kF); (with_reducible rename News _ _ _ _ => kN); have kF9 := Fr.keeps kF hk9; have kN9 := News.keepsAll kN hk9; (try k_sweep); clear hk9; (try dsimp only)))
local macro_rules | `(tactic| walk_at "BJ.afterNew") => `(tactic| (intro h9 tk9 D9 us9 c9 hk9 hf9 hg9 hv9; (with_reducible rename Fr _ _ _ _ => kF); (with_reducible rename News _ _ _ _ => kN); have kF9 := Fr.keeps kF hk9; have kN9 := newsAdd kF kN hk9 hf9 hg9; have kD9 := allNe_of (newsNe kN hf9); (try simp only [AllNe, and_true] at kD9); (try k_sweep); clear hk9 hf9 hg9; (try dsimp only)))
local macro_rules | `(tactic| walk_at "BJ.eqN") => `(tactic| first | (with_reducible assumption) | (with_reducible rfl) | exact toN (by omega))
local macro_rules | `(tactic| walk_at "call ref") => `(tactic| (
  (with_reducible show wpAny _ _ (PySem.call (Value.ref 112) _ _) _ _ _);
  (refine' times_specN ?G ?k ?hr ?a1 ?a2 ?a3 ?a4 ?_; (case k => exact Fr.keep (by k_asm)); (case G => assumption); (case hr => dsimp only [Around.deeper]; omega); (case a1 => walk_at "BJ.eqN"); (case a2 => walk_at "BJ.eqN"); (case a3 => first | assumption | omega); (case a4 => first | assumption | omega));
  walk_at "BJ.after"))
local macro_rules | `(tactic| walk_at "BJ.in") => `(tactic| (
  (case ho => k_is); (case hcd => k_is); (case hb => exact BindsTo.of_eq rfl); (case hloc => exact locs rfl); (case c1 => exact rfl); (case c2 => exact rfl); (case c3 => exact rfl); (case c4 => decide)))
theorem newsTail {h₀ h : Heap} {L : Addr} {a : Addr × Obj} {r : List (Addr × Obj)} (N : News h₀ L h (a :: r)) : News h₀ L h r := fun q hq => N q (.tail _ hq)
section
variable {w : World} {p : Program} {loose : List Str} {mean : ExcName → Option Value} {mg mb : Str → Option Value} {h₀ : Heap} {s : Shared} {dp un : Nat} {fr : Option (List Env)} {gd : Option (List Code)} {Q E : Value → Shared → Prop}

theorem rest_spec {l₁ l₂ : Addr} {vs₁ vs₂ : List Value} {ns₁ ns₂ : List Nat} (G : Gr (hd.heap_39 w.params) p loose mean mg mb h₀) (k : h₀.StaysIn s.heap) (hroom : dp + 2 < recursionLimit)
    (hl₁ : s.heap.IsList l₁ vs₁.toArray) (hv₁ : Nums vs₁ ns₁) (hm₁ : ns₁.length < 1000) (hb₁ : Small ns₁) (hl₂ : s.heap.IsList l₂ vs₂.toArray) (hv₂ : Nums vs₂ ns₂) (hn₂ : 1 ≤ ns₂.length) (hm₂ : ns₂.length < 1000) (hb₂ : Small ns₂)
    (h : ∀ h' tk' D us c, s.heap.StaysIn h' → s.heap.get? D = none → h'.get? D = some (listOf us.toArray c) → Nums us (rest ns₁ ns₂) → Q (.ref D) { s with heap := h', toks := tk' }) :
    wpAny (model Challenge.rw_bj0060_01.row.prog w) (aTop dp un fr gd) (call (.ref 140) [.ref l₁, .ref l₂]) Q E s := by
  revert G
  k_fill
  intro G
  refine wpAny_call ?_
  refine' enter0 (binds := [(Str.ofString "row", .ref l₁), (Str.ofString "divisor", .ref l₂)]) G k ?ho ?hcd ?hroom ?hb ?hloc ?body ?c1 ?c2 ?c3 ?c4
  walk_at "BJ.in"
  case hroom => show dp < _; omega
  case body =>
    rintro g L' h₁ rfl G' F N
    have X := G'.X
    have T := G'.T
    have hnl₁ : (ns₁.map fun n => ((n : Nat) : Int)).length = ns₁.length := List.length_map _
    have hnl₂ : (ns₂.map fun n => ((n : Nat) : Int)).length = ns₂.length := List.length_map _
    dsimp only
    k_steps
    refine Stop.mk ?_
    (with_reducible rename IsRange _ _ _ _ _ _ _ _ => rg)
    (with_reducible rename Fr _ _ _ _ => F1)
    (with_reducible rename News _ _ _ _ => N1)
    have hd0 : ns₂.getD 0 0 < 256 := hb₂ 0
    rw [getD_map] at F1
    obtain ⟨R, c, t1, t2, F2, N2⟩ : ∃ R c t1 t2, Fr s.heap L' _ (fun y => if y = "row" then some (Value.ref R) else if y = "inverse" then some (.int ((sqI (ns₂.getD 0 0) 0).2 : Nat) t1) else if y = "square" then some (.int ((sqI (ns₂.getD 0 0) 0).1 : Nat) t2) else List.lookup y [(Str.ofString "row", Value.ref l₁), (Str.ofString "divisor", Value.ref l₂)].reverse) ∧ News s.heap L' _ [(R, listOf (List.toArray vs₁) c)] := ⟨_, _, _, _, F1, newsTail N1⟩
    refine' loop_range (n := 7) (fun m₀ i m₁ news₁ => news₁ = [(R, listOf (List.toArray vs₁) c)] ∧ ∃ t1 t2, m₁ "row" = some (Value.ref R) ∧ m₁ "inverse" = some (.int ((sqI (ns₂.getD 0 0) i).2 : Nat) t1) ∧ m₁ "square" = some (.int ((sqI (ns₂.getD 0 0) i).1 : Nat) t2) ∧ m₁ "divisor" = some (.ref l₂)) rfl rg ?hb ?hb1 ?hn F2 N2 ?hJ ?turn ?done
    case hb => decide
    case hb1 => decide
    case hn => decide
    case hJ => exact ⟨rfl, _, _, rfl, rfl, rfl, rfl⟩
    case turn =>
      rintro i t I oI m₁ news₁ h2 tk hi ⟨rfl, t1, t2, e1, e2, e3, e4⟩ hlt hne F3 N3
      have l1 : @LT.lt Nat _ R I := hlt _ (.head _)
      replace F3 := frB (a := "inverse") (frB (a := "square") F3 e3) e2
      have q1 := (sqI_lt _ hd0 i).1
      have q2 := (sqI_lt _ hd0 i).2
      have q3 := times_lt (b := (sqI (ns₂.getD 0 0) i).1) q1
      clear F2 N2 F1 N1
      dsimp only
      k_steps
      (with_reducible rename Fr _ _ _ _ => F6)
      (with_reducible rename News _ _ _ _ => N6)
      refine TEnd.next F6 N6 ?_ ?_
      · intro q hq; rw [List.mem_singleton.mp hq]; exact Nat.ne_of_lt l1
      · exact ⟨rfl, _, _, e1, rfl, rfl, e4⟩
    case done =>
      rintro h2 tk m₁ news₁ ⟨rfl, t1, t2, e1, e2, e3, e4⟩ F3 N3
      replace F3 := frA (a := "row") (frA (a := "divisor") (frA (a := "inverse") F3 e2) e4) e1
      have q2 : inv (ns₂.getD 0 0) < 256 := (sqI_lt _ hd0 7).2
      clear F2 N2 F1 N1
      change Fr s.heap _ h2 (fun y => if y = "row" then some (Value.ref R) else if y = "divisor" then some (Value.ref l₂) else if y = "inverse" then some (.int (inv (ns₂.getD 0 0) : Nat) t1) else m₁ y) at F3
      dsimp only
      k_steps
      refine Stop.mk ?_
      (with_reducible rename IsRange _ _ _ _ _ _ _ _ => rg2)
      (with_reducible rename Fr _ _ _ _ => F4)
      (with_reducible rename News _ _ _ _ => N4)
      refine' loop_range (n := ns₁.length + 1 - ns₂.length) (fun m₀ i m₁ news₁ => ∃ us, news₁ = [(R, listOf (List.toArray us) c)] ∧ Nums us (divAcc (inv (ns₂.getD 0 0)) ns₂ i ns₁) ∧ ∃ t1, m₁ "row" = some (Value.ref R) ∧ m₁ "divisor" = some (.ref l₂) ∧ m₁ "inverse" = some (.int (inv (ns₂.getD 0 0) : Nat) t1)) rfl rg2 ?hb2 ?hb12 ?hn2 F4 N4 ?hJ2 ?turn2 ?done2
      case hb2 => omega
      case hb12 => omega
      case hn2 => omega
      case hJ2 => exact ⟨_, rfl, hv₁, _, rfl, rfl, rfl⟩
      case turn2 =>
        rintro i t I oI m₁ news₁ h2 tk hi ⟨us, rfl, hus, t1, e1, e2, e3⟩ hlt hne F5 N5
        have l1 : @LT.lt Nat _ R I := hlt _ (.head _)
        replace F5 := frB (a := "row") (frB (a := "divisor") (frB (a := "inverse") F5 e3) e2) e1
        have hlen : ((divAcc (inv (ns₂.getD 0 0)) ns₂ i ns₁).map fun n => ((n : Nat) : Int)).length = ns₁.length := by
          rw [List.length_map, divAcc_len]
        have hs1 := divAcc_small (iv := inv (ns₂.getD 0 0)) (d := ns₂) i ns₁ hb₁
        have hg1 : ((divAcc (inv (ns₂.getD 0 0)) ns₂ i ns₁).map fun n => ((n : Nat) : Int)).getD (i : Int).toNat 0 = (((divAcc (inv (ns₂.getD 0 0)) ns₂ i ns₁).getD i 0 : Nat) : Int) := getD_map _ i
        have hx1 := hs1 i
        clear e1 e2 e3
        dsimp only
        k_steps
        refine Stop.mk ?_
        (with_reducible rename IsRange _ _ _ _ _ _ _ _ => rg3)
        (with_reducible rename Fr _ _ _ _ => F6)
        (with_reducible rename News _ _ _ _ => N6)
        obtain ⟨sh, hsv⟩ : ∃ sh, sh = times ((divAcc (inv (ns₂.getD 0 0)) ns₂ i ns₁).getD i 0) (inv (ns₂.getD 0 0)) := ⟨_, rfl⟩
        rw [← hsv] at F6
        have hsh : sh < 256 := hsv ▸ times_lt hx1
        refine' loop_range (n := ns₂.length) (fun m₀ j m₁ news₁ => ∃ us, news₁ = [(I, oI), (R, listOf (List.toArray us) c)] ∧ Nums us (rowAcc (fun k => times sh (ns₂.getD k 0)) i j (divAcc (inv (ns₂.getD 0 0)) ns₂ i ns₁)) ∧ ∃ t1 t2, m₁ "row" = some (Value.ref R) ∧ m₁ "divisor" = some (.ref l₂) ∧ m₁ "inverse" = some (.int (inv (ns₂.getD 0 0) : Nat) t1) ∧ m₁ "at" = some (.int (i : Int) t) ∧ m₁ "share" = some (.int (sh : Nat) t2)) rfl rg3 ?hb3 ?hb13 ?hn3 F6 N6 ?hJ3 ?turn3 ?done3
        case hb3 => omega
        case hb13 => omega
        case hn3 => omega
        case hJ3 => exact ⟨_, rfl, hus, _, _, rfl, rfl, rfl, rfl, rfl⟩
        case turn3 =>
          rintro j t2 I2 oI2 m₂ news₂ h3 tk3 hj ⟨us2, rfl, hus2, t3, t4, e1, e2, e3, e4, e5⟩ hlt2 hne2 F7 N7
          have l2 : @LT.lt Nat _ I I2 := hlt2 _ (.head _)
          have l3 : @LT.lt Nat _ R I2 := hlt2 _ (.tail _ (.head _))
          replace F7 := frB (a := "row") (frB (a := "divisor") (frB (a := "inverse") (frB (a := "at") (frB (a := "share") F7 e5) e4) e3) e2) e1
          generalize hT : rowAcc (fun k => times sh (ns₂.getD k 0)) i j (divAcc (inv (ns₂.getD 0 0)) ns₂ i ns₁) = T2 at hus2
          have hlen2 : (T2.map fun n => ((n : Nat) : Int)).length = ns₁.length := by
            rw [List.length_map, ← hT, rowAcc_len, divAcc_len]
          have hg2 : (ns₂.map fun n => ((n : Nat) : Int)).getD (j : Int).toNat 0 = ((ns₂.getD j 0 : Nat) : Int) := getD_map ns₂ j
          have hx2 := hb₂ j
          clear e1 e2 e3 e4 e5 F6 N6 hlt2 hne2 hus hg1
          dsimp only
          k_steps
          (with_reducible rename Fr _ _ _ _ => F8)
          (with_reducible rename News _ _ _ _ => N8)
          (rename IntsAre _ (List.set _ _ _) => hi8)
          refine TEnd.next F8 N8 ?_ ⟨_, rfl, ?_, _, _, rfl, rfl, rfl, rfl, rfl⟩
          · intro q hq; rcases List.mem_cons.mp hq with rfl | hq; exact Nat.ne_of_lt l2; rw [List.mem_singleton.mp hq]; exact Nat.ne_of_lt l3
          · rw [rowAcc, hT]
            refine intsCast hi8 ?_
            rw [set_cast T2 (i + j) (by omega)]
        case done3 =>
          rintro h3 tk3 m₂ news₂ ⟨us2, rfl, hus2, t3, t4, e1, e2, e3, e4, e5⟩ F7 N7
          dsimp only
          k_steps
          exact TEnd.next F7 N7 (by intro q hq; rw [List.mem_singleton.mp hq]; exact Nat.ne_of_lt l1) ⟨us2, rfl, by rw [divAcc, ← hsv]; exact hus2, _, e1, e2, e3⟩
      case done2 =>
        rintro h2 tk m₁ news₁ ⟨us, rfl, hus, t1, e1, e2, e3⟩ F5 N5
        replace F5 := frA (a := "row") F5 e1
        dsimp only
        k_steps
        refine' least_spec ?G9 ?k9 ?hr9 ?l9 ?v9 ?nn ?_
        case k9 => exact F5.keep
        case G9 => assumption
        case hr9 => dsimp only [Around.deeper]; omega
        case l9 => exact News.isList N5 (.head _)
        case v9 => exact hus
        case nn => rw [divAcc_len]; exact hm₁
        intro h9 tk9 D9 us9 c9 hk9 hf9 hg9 hv9
        have kF9 := Fr.keeps F5 hk9
        refine h _ _ _ _ _ kF9.keep ?_ hg9 hv9
        cases e : s.heap.get? D9 with
        | none => rfl
        | some o => have := F5.keep _ _ e; rw [hf9] at this; cases this
end
end
section
open PySem PySem.W PySem.Calls PyProof.Rows
local macro_rules | `(tactic| walk_at "pyIter ref") => `(tactic| refine Stop.out ?_)
local macro_rules | `(tactic| walk_at "subscriptTail Name Slice ref ref") => `(tactic| (k_here; (with_reducible show wpAny _ _ (subscriptTail _ (PySem.Expr.Slice _ _ none _) (Value.ref _) (Value.ref _)) _ _ _); k_dflt (refine' kms_slice_lit ?F ?N ?l ?p ?q rfl ?_ ?s ?t ?z; (case F => k_asm); (case N => k_asm); (case l => kmk_list); (case p => kmk_part); (case q => kmk_part); (case s => with_unfolding_all rfl); (case t => kmk_pure); (case z => first | assumption | kmk_size)); intro D' h' F' N' l1; (try k_lt l1); (try k_sweep)))
local macro_rules | `(tactic| walk_at "BJ.in") => `(tactic| (
  (case ho => k_is); (case hcd => k_is); (case hb => exact BindsTo.of_eq rfl); (case hloc => exact locs rfl); (case c1 => exact rfl); (case c2 => exact rfl); (case c3 => exact rfl); (case c4 => decide)))

theorem make_raw {prog : Program} {w : World} {A : Around} {K : Frag} {C : Addr} {s : Shared} {R : Result → Shared → Prop} {rest : List Value} {kw : List (Str × Value)} {fI : Addr} (X : K.In s.heap) (hm : makesIn K C = true)
    (hi : findIn K (.ref C) "__init__" = some (some (.ref fI))) (hf : typeIn K (.ref fI) = some (.type "function"))
    (h : ∀ x dx h', s.heap.StaysIn h' → s.heap.get? x = none → s.heap.get? dx = none → @LT.lt Nat _ dx x → h'.get? x = some (instObj C dx) → h'.get? dx = some (dictOf [] 0) →
      codeAny (model prog w) (A.under (.builtin "type.__call__" ⟨.ref C :: rest, kw⟩)) (.call (.ref fI) ⟨.ref x :: rest, kw⟩) (InitBack x R) { s with heap := h' }) :
    codeAny (model prog w) A (.call (.ref C) ⟨rest, kw⟩) R s := by
  obtain ⟨hh, g, d, t, os⟩ := s
  have none_of : ∀ a, hh.objs.size ≤ a → hh.get? a = none := fun a ha => by
    cases e : hh.get? a with
    | none => rfl
    | some o => exact absurd (Heap.lt_size e) (Nat.not_lt.mpr ha)
  refine make_core (makes_of X hm) (looks_findIn X hi) (fun self => bind_fn X self hf) (.inl rfl)
    (h (hh.objs.size + 1) hh.objs.size _ (fun b o e => Heap.get?_push_of_some _ (Heap.get?_push_of_some _ e)) (none_of _ (Nat.le_succ _)) (none_of _ (Nat.le_refl _)) (Nat.lt_succ_self _) ?_ ?_)
  · have := Heap.get?_push_size (h := hh.push emptyDict) (o := instObj C hh.objs.size) rfl
    rwa [Heap.size_push] at this
  · exact Heap.get?_push_of_some _ (Heap.get?_push_size _ rfl)

theorem flat0 (n : Nat) : (List.replicate n [(0 : Int)]).flatten = (List.replicate n 0).map fun n => ((n : Nat) : Int) := by
  induction n with
  | zero => rfl
  | succ n ih => rw [List.replicate_succ, List.flatten_cons, ih, List.replicate_succ, List.map_cons]; rfl
/-- a polynomial stands at x, its list at l -/
def PolyL (h : Heap) (x l : Addr) (vs : List Value) : Prop :=
  ∃ (dx : Addr) (hsh : Int) (tk : Tok) (n c : Nat), h.get? x = some (instObj 80 dx) ∧ h.get? dx = some (dictOf [⟨hsh, .str "num" tk, .ref l⟩] n) ∧ h.get? l = some (listOf vs.toArray c)
def PolyAt (h : Heap) (x : Addr) (ns : List Nat) : Prop := ∃ l vs, PolyL h x l vs ∧ Nums vs ns
theorem PolyL.keeps {h h' : Heap} {x l : Addr} {vs : List Value} (P : PolyL h x l vs) (k : h.StaysIn h') : PolyL h' x l vs :=
  let ⟨dx, hsh, tk, n, c, a, b, d⟩ := P; ⟨dx, hsh, tk, n, c, k _ _ a, k _ _ b, k _ _ d⟩
theorem PolyL.isList {h : Heap} {x l : Addr} {vs : List Value} (P : PolyL h x l vs) : h.IsList l vs.toArray :=
  let ⟨_, _, _, _, c, _, _, d⟩ := P; ⟨_, d, rfl, c, rfl⟩
theorem PolyAt.keeps {h h' : Heap} {x : Addr} {ns : List Nat} (P : PolyAt h x ns) (k : h.StaysIn h') : PolyAt h' x ns :=
  let ⟨l, vs, a, b⟩ := P; ⟨l, vs, a.keeps k, b⟩
/-- a polynomial of ours at x, none of its parts in b -/
def PolyNew (b h : Heap) (x : Addr) (ns : List Nat) : Prop :=
  ∃ (l : Addr) (vs : List Value) (dx : Addr) (hsh : Int) (tk : Tok) (n c : Nat), b.get? x = none ∧ b.get? dx = none ∧ b.get? l = none ∧ h.get? x = some (instObj 80 dx) ∧ h.get? dx = some (dictOf [⟨hsh, .str "num" tk, .ref l⟩] n) ∧ h.get? l = some (listOf vs.toArray c) ∧ Nums vs ns
theorem PolyNew.at {b h : Heap} {x : Addr} {ns : List Nat} (P : PolyNew b h x ns) : PolyAt h x ns :=
  let ⟨l, vs, dx, hsh, tk, n, c, _, _, _, e1, e2, e3, hv⟩ := P; ⟨l, vs, ⟨dx, hsh, tk, n, c, e1, e2, e3⟩, hv⟩
theorem PolyNew.keeps {b h h' : Heap} {x : Addr} {ns : List Nat} (P : PolyNew b h x ns) (k : h.StaysIn h') : PolyNew b h' x ns :=
  let ⟨l, vs, dx, hsh, tk, n, c, a1, a2, a3, e1, e2, e3, hv⟩ := P; ⟨l, vs, dx, hsh, tk, n, c, a1, a2, a3, k _ _ e1, k _ _ e2, k _ _ e3, hv⟩
theorem none_down {b b' : Heap} {x : Addr} (k : b'.StaysIn b) (e : b.get? x = none) : b'.get? x = none := by
  cases q : b'.get? x with
  | none => rfl
  | some o => rw [k _ _ q] at e; cases e
theorem PolyNew.down {b b' h : Heap} {x : Addr} {ns : List Nat} (P : PolyNew b h x ns) (k : b'.StaysIn b) : PolyNew b' h x ns :=
  let ⟨l, vs, dx, hsh, tk, n, c, a1, a2, a3, e1, e2, e3, hv⟩ := P; ⟨l, vs, dx, hsh, tk, n, c, none_down k a1, none_down k a2, none_down k a3, e1, e2, e3, hv⟩
section
variable {w : World} {p : Program} {loose : List Str} {mean : ExcName → Option Value} {mg mb : Str → Option Value} {h₀ : Heap} {s : Shared} {dp un : Nat} {fr : Option (List Env)} {gd : Option (List Code)} {Q E : Value → Shared → Prop}

theorem poly_new {l : Addr} {vs : List Value} {ns : List Nat} {sh : Nat} {ts : Tok} (G : Gr (hd.heap_39 w.params) p loose mean mg mb h₀) (k : h₀.StaysIn s.heap) (hroom : dp + 2 < recursionLimit)
    (hl : s.heap.IsList l vs.toArray) (hv : Nums vs ns) (hn : ns.length < 1000) (hn1 : 1 ≤ ns.length) (hsh : sh < 1000)
    (h : ∀ h' tk' x, s.heap.StaysIn h' → s.heap.get? x = none → PolyNew s.heap h' x (least ns ++ List.replicate sh 0) → Q (.ref x) { s with heap := h', toks := tk' }) :
    wpAny (model Challenge.rw_bj0060_01.row.prog w) (aTop dp un fr gd) (call (.ref 80) [.ref l, .int (sh : Int) ts]) Q E s := by
  revert G
  k_fill
  intro G
  refine wpAny_call ?_
  refine make_raw (fI := 44) (G.X.keeps k) (by k_is) (by k_is) (by k_is) ?_
  intro x dx h1 k1 f1 f2 lx gx gdx
  have hl1 : h1.IsList l vs.toArray := hl.at fun o e => k1 _ _ e
  refine' enter (s := { s with heap := h1 }) (binds := [(Str.ofString "self", .ref x), (Str.ofString "num", .ref l), (Str.ofString "shift", .int (sh : Int) ts)]) (G.keeps k) k1 [(x, instObj 80 dx), (dx, dictOf [] 0)] ?hS ?ho ?hcd ?hroom ?hb ?hloc ?body ?c1 ?c2 ?c3 ?c4
  walk_at "BJ.in"
  case hroom => show (aTop dp un fr gd).depth + 1 < _; dsimp only; omega
  case hS =>
    intro q hq
    rcases List.mem_cons.mp hq with rfl | hq
    · exact ⟨gx, f1⟩
    · rw [List.mem_singleton.mp hq]; exact ⟨gdx, f2⟩
  case body =>
    intro g L' h₁ G' st' up dn hL F N lt
    have X := G'.X
    have T := G'.T
    have l1 : @LT.lt Nat _ x L' := lt _ (.head _)
    have l2 : @LT.lt Nat _ dx L' := lt _ (.tail _ (.head _))
    have hlg : g.IsList l vs.toArray := hl.at fun o e => st' _ _ e
    have hnl : (ns.map fun n => ((n : Nat) : Int)).length = ns.length := List.length_map _
    have hsz : vs.toArray.size ≤ sizeLine := by
      rw [List.size_toArray, hv.length, hnl, sizeLine_eq]; omega
    dsimp only
    k_steps
    refine Stop.mk ?_
    (with_reducible rename IsRange _ _ _ _ _ _ _ _ => rg)
    (with_reducible rename Fr _ _ _ _ => F1)
    (with_reducible rename News _ _ _ _ => N1)
    have hne1 : ns.length - 1 + 1 = ns.length := by omega
    refine' loop_range_brk (n := ns.length) (fun m₀ i m₁ news₁ => news₁ = [(x, instObj 80 dx), (dx, dictOf [] 0)] ∧ (∃ (o : Nat) (t : Tok), m₁ "offset" = some (.int (o : Int) t) ∧ o < ns.length ∧ (i < ns.length → least (ns.drop i) = least ns) ∧ (i = ns.length → least ns = ns.drop o)) ∧ m₁ "self" = some (.ref x) ∧ m₁ "num" = some (.ref l) ∧ m₁ "shift" = some (.int (sh : Int) ts))
      (fun m₁ news₁ => news₁ = [(x, instObj 80 dx), (dx, dictOf [] 0)] ∧ (∃ (o : Nat) (t : Tok), m₁ "offset" = some (.int (o : Int) t) ∧ o < ns.length ∧ least ns = ns.drop o) ∧ m₁ "self" = some (.ref x) ∧ m₁ "num" = some (.ref l) ∧ m₁ "shift" = some (.int (sh : Int) ts)) rfl rg ?hb1 ?hb11 ?hn1 F1 N1 ?hJ1 ?turn1 ?fin1 ?done1
    case hb1 => omega
    case hb11 => omega
    case hn1 => omega
    case hJ1 => exact ⟨rfl, ⟨0, _, rfl, by omega, fun _ => rfl, fun e => by omega⟩, rfl, rfl, rfl⟩
    case fin1 =>
      rintro m₁ news₁ ⟨e0, ⟨o, t, e1, e2, e3, e4⟩, r⟩
      exact ⟨e0, ⟨o, t, e1, e2, e4 rfl⟩, r⟩
    case turn1 =>
      rintro i t I oI m₁ news₁ h2 tk hi ⟨rfl, ⟨o, t', e1, e2, e3, e4⟩, e5, e6, e7⟩ hlt hne F2 N2
      replace F2 := frB (a := "self") (frB (a := "num") (frB (a := "shift") F2 e7) e6) e5
      have hg1 : (ns.map fun n => ((n : Nat) : Int)).getD (i : Int).toNat 0 = ((ns.getD i 0 : Nat) : Int) := getD_map ns i
      have l3 : x < I := hlt _ (.head _)
      have l4 : dx < I := hlt _ (.tail _ (.head _))
      dsimp only
      k_steps
      · (with_reducible rename Fr _ _ _ _ => F3)
        (with_reducible rename News _ _ _ _ => N3)
        refine ⟨_, _, _, _, rfl, F3, newsTail N3, rfl, ⟨i, _, rfl, hi, ?_⟩, rfl, rfl, rfl⟩
        rw [← e3 hi, least_here (by rintro ⟨_, q⟩; omega)]
      · (with_reducible rename Fr _ _ _ _ => F3)
        (with_reducible rename News _ _ _ _ => N3)
        have hz : ns.getD i 0 = 0 := by omega
        refine TEnd.next F3 N3 ?_ ⟨rfl, ⟨i, _, rfl, hi, fun q => ?_, fun q => ?_⟩, rfl, rfl, rfl⟩
        · intro q hq
          rcases List.mem_cons.mp hq with rfl | hq
          · exact Nat.ne_of_lt l3
          · rw [List.mem_singleton.mp hq]; exact Nat.ne_of_lt l4
        · rw [← e3 hi]; exact (least_drop q hz).symm
        · rw [← e3 hi, least_here (by rintro ⟨q2, _⟩; omega)]
    case done1 =>
      rintro h2 tk m₁ news₁ ⟨rfl, ⟨o, t', e1, e2, e3⟩, e5, e6, e7⟩ F2 N2
      replace F2 := frA (a := "self") (frA (a := "num") (frA (a := "shift") (frA (a := "offset") F2 e1) e7) e6) e5
      clear F1 N1
      dsimp only
      k_steps
      (with_reducible rename Fr _ _ _ _ => F3)
      (with_reducible rename News _ _ _ _ => N3)
      (rename IntsAre _ (List.flatten (List.replicate _ [0])) => hz)
      have hpk := pick_from hv o
      rw [flat0 (sh : Int).toNat] at hz
      refine' kmk_add_ints F3 N3 (News.isList N3 (.tail _ (.tail _ (.head _)))) (News.isList N3 (.head _)) hpk hz ?_ ?z1
      case z1 =>
        rw [List.length_drop, List.length_map, List.length_map, List.length_replicate, sizeLine_eq]; omega
      intro D' us' h' F' N' l1 hus
      k_lt l1
      clear F3 N3
      k_steps
      (with_reducible rename Fr _ _ _ _ => F5)
      (with_reducible rename News _ _ _ _ => N5)
      refine ⟨rfl, h _ _ x (fun b o e => F5.keep b o (st' b o e)) f1 ?_⟩
      refine ⟨D', us', dx, _, _, _, 0, f1, f2, none_down (fun b o e => st' b o e) (N5 (D', listOf (List.toArray us') 0) (by k_mem)).2.2, (N5 (x, instObj 80 dx) (by k_mem)).1, (N5 (dx, dictOf [⟨_, .str "num" _, .ref D'⟩] 1) (by k_mem)).1, (N5 (D', listOf (List.toArray us') 0) (by k_mem)).1, ?_⟩
      refine intsCast hus ?_
      rw [e3, List.map_append, List.map_drop]
      rfl
end
end
section
open PySem PySem.W PySem.Calls PyProof.Rows
theorem instUp {g h : Heap} {x C : Addr} {ox : Obj} {od : Option Obj} (I : PySem.W.InstAt g x ox C od) (k : g.StaysIn h) : PySem.W.InstAt h x ox C od := by
  obtain ⟨a, b, c, d⟩ := I
  refine ⟨k _ _ a, b, c, ?_⟩
  cases e1 : ox.dict with
  | none => rw [e1] at d; cases od <;> exact d
  | some dx =>
    rw [e1] at d
    cases od with
    | none => exact d
    | some o => exact k _ _ d
local macro_rules | `(tactic| walk_at "BJ.in") => `(tactic| (
  (case ho => k_is); (case hcd => k_is); (case hb => exact BindsTo.of_eq rfl); (case hloc => exact locs rfl); (case c1 => exact rfl); (case c2 => exact rfl); (case c3 => exact rfl); (case c4 => decide)))
local macro_rules | `(tactic| k_inst) => `(tactic| exact instUp (by assumption) (Fr.keep (by k_asm)))

theorem list_iter {prog : Program} {w : World} {A : Around} {E : Value → Shared → Prop} {s : Shared} {l : Addr} {items : Array Value} {Q : Value → Shared → Prop} (hl : s.heap.IsList l items)
    (h : ∀ h' I, s.heap.StaysIn h' → s.heap.get? I = none → h'.IsListIter I l 0 → Q (.ref I) { s with heap := h' }) : wpAny (model prog w) A (call (.builtin "iter") [.ref l]) Q E s := by
  refine call_function_entry (by decide +kernel) (by decide +kernel) kdk_entry_iter (kdk_args_iter _) ?_
  unfold Builtin.«iter»
  refine wpAny_bind (m := someArgs "iter" 1 2 _) (wpAny_of_eq (a := [Value.ref l]) (by first | rfl | kernel_rfl!) ?_)
  show wpAny _ _ (pyIter (.ref l) >>= _) _ _ _
  refine wpAny_bind (wpAny_pyIter_list hl ?_)
  refine wpAny_pure ⟨_, rfl, h _ _ (fun b o e => Heap.get?_push_of_some _ e) ?_ ⟨_, Heap.get?_push_size _ rfl, rfl, rfl⟩⟩
  cases e : s.heap.get? s.heap.objs.size with
  | none => rfl
  | some o => exact absurd (Heap.lt_size e) (Nat.lt_irrefl _)
section
variable {w : World} {p : Program} {loose : List Str} {mean : ExcName → Option Value} {mg mb : Str → Option Value} {h₀ g : Heap} {s : Shared} {dp un : Nat} {fr : Option (List Env)} {gd : Option (List Code)} {Q E : Value → Shared → Prop} {L : Addr} {m : Str → Option Value}

theorem len_spec {x : Addr} {ns : List Nat} (G : Gr (hd.heap_39 w.params) p loose mean mg mb h₀) (k : h₀.StaysIn s.heap) (hroom : dp + 1 < recursionLimit)
    (P : PolyAt s.heap x ns) (hn : ns.length < 1000)
    (h : ∀ h' tk' t, s.heap.StaysIn h' → Q (.int (ns.length : Nat) t) { s with heap := h', toks := tk' }) :
    wpAny (model Challenge.rw_bj0060_01.row.prog w) (aTop dp un fr gd) (call (.ref 65) [.ref x]) Q E s := by
  obtain ⟨l, vs, ⟨dx, hsh, tk, n, c, e1, e2, e3⟩, hv⟩ := P
  have I : PySem.W.InstAt s.heap x (instObj 80 dx) 80 (some (dictOf [⟨hsh, .str "num" tk, .ref l⟩] n)) := ⟨e1, rfl, rfl, e2⟩
  have hl : s.heap.IsList l vs.toArray := ⟨_, e3, rfl, c, rfl⟩
  revert G
  k_fill
  intro G
  refine wpAny_call ?_
  refine' enter0 (binds := [(Str.ofString "self", .ref x)]) G k ?ho ?hcd ?hroom ?hb ?hloc ?body ?c1 ?c2 ?c3 ?c4
  walk_at "BJ.in"
  case hroom => show dp < _; omega
  case body =>
    rintro g L' h₁ rfl G' F N
    have X := G'.X
    have T := G'.T
    have hnl : (ns.map fun n => ((n : Nat) : Int)).length = ns.length := List.length_map _
    dsimp only
    k_steps
    rw [hnl]
    exact h _ _ _ (Fr.keep (by assumption))

theorem get_spec {x : Addr} {ns : List Nat} {i : Nat} {ti : Tok} (G : Gr (hd.heap_39 w.params) p loose mean mg mb h₀) (k : h₀.StaysIn s.heap) (hroom : dp + 1 < recursionLimit)
    (P : PolyAt s.heap x ns) (hn : ns.length < 1000) (hi : i < ns.length)
    (h : ∀ h' tk' t, s.heap.StaysIn h' → Q (.int (ns.getD i 0 : Nat) t) { s with heap := h', toks := tk' }) :
    wpAny (model Challenge.rw_bj0060_01.row.prog w) (aTop dp un fr gd) (call (.ref 51) [.ref x, .int (i : Int) ti]) Q E s := by
  obtain ⟨l, vs, ⟨dx, hsh, tk, n, c, e1, e2, e3⟩, hv⟩ := P
  have I : PySem.W.InstAt s.heap x (instObj 80 dx) 80 (some (dictOf [⟨hsh, .str "num" tk, .ref l⟩] n)) := ⟨e1, rfl, rfl, e2⟩
  have hl : s.heap.IsList l vs.toArray := ⟨_, e3, rfl, c, rfl⟩
  revert G
  k_fill
  intro G
  refine wpAny_call ?_
  refine' enter0 (binds := [(Str.ofString "self", .ref x), (Str.ofString "index", .int (i : Int) ti)]) G k ?ho ?hcd ?hroom ?hb ?hloc ?body ?c1 ?c2 ?c3 ?c4
  walk_at "BJ.in"
  case hroom => show dp < _; omega
  case body =>
    rintro g L' h₁ rfl G' F N
    have X := G'.X
    have T := G'.T
    have hnl : (ns.map fun n => ((n : Nat) : Int)).length = ns.length := List.length_map _
    dsimp only
    k_steps
    rw [getD_map]
    exact h _ _ _ (Fr.keep (by assumption))

theorem iter_spec {x l : Addr} {vs : List Value} (G : Gr (hd.heap_39 w.params) p loose mean mg mb h₀) (k : h₀.StaysIn s.heap) (hroom : dp + 1 < recursionLimit)
    (P : PolyL s.heap x l vs)
    (h : ∀ h' tk' I, s.heap.StaysIn h' → s.heap.get? I = none → h'.IsListIter I l 0 → Q (.ref I) { s with heap := h', toks := tk' }) :
    wpAny (model Challenge.rw_bj0060_01.row.prog w) (aTop dp un fr gd) (call (.ref 58) [.ref x]) Q E s := by
  obtain ⟨dx, hsh, tk, n, c, e1, e2, e3⟩ := P
  have I : PySem.W.InstAt s.heap x (instObj 80 dx) 80 (some (dictOf [⟨hsh, .str "num" tk, .ref l⟩] n)) := ⟨e1, rfl, rfl, e2⟩
  have hl : s.heap.IsList l vs.toArray := ⟨_, e3, rfl, c, rfl⟩
  revert G
  k_fill
  intro G
  refine wpAny_call ?_
  refine' enter0 (binds := [(Str.ofString "self", .ref x)]) G k ?ho ?hcd ?hroom ?hb ?hloc ?body ?c1 ?c2 ?c3 ?c4
  walk_at "BJ.in"
  case hroom => show dp < _; omega
  case body =>
    rintro g L' h₁ rfl G' F N
    have X := G'.X
    have T := G'.T
    dsimp only
    k_steps
    (with_reducible rename Fr _ _ _ _ => F1)
    refine list_iter (hl.at fun o e => F1.keep _ _ e) ?_
    intro h2 I k2 f2 hI
    refine h _ _ I (fun b o e => k2 _ _ (F1.keep _ _ e)) ?_ hI
    cases e : s.heap.get? I with
    | none => rfl
    | some o => have := F1.keep _ _ e; rw [f2] at this; cases this

theorem poly_pyIter {x l : Addr} {vs : List Value} (G : Gr (hd.heap_39 w.params) p loose mean mg mb g) (F : Fr g L s.heap m) (hroom : dp + 1 < recursionLimit)
    (P : PolyL s.heap x l vs)
    (h : ∀ h' tk' I, s.heap.StaysIn h' → s.heap.get? I = none → h'.IsListIter I l 0 → Q (.ref I) { s with heap := h', toks := tk' }) :
    wpAny (model Challenge.rw_bj0060_01.row.prog w) (aTop dp un fr gd) (pyIter (.ref x)) Q E s := by
  have P0 := P
  obtain ⟨dx, hsh, tk, n, c, e1, e2, e3⟩ := P
  have I : PySem.W.InstAt s.heap x (instObj 80 dx) 80 (some (dictOf [⟨hsh, .str "num" tk, .ref l⟩] n)) := ⟨e1, rfl, rfl, e2⟩
  revert G
  k_fill
  intro G
  refine owit_iter (f := 58) F G.X I (by k_is) (by k_is) ?_
  refine iter_spec G F.keep hroom P0 ?_
  intro h' tk' I k1 f1 hI
  unfold OwitIt
  refine wpAny_specialOf (name := Str.ofString "__next__") (T := "list_iterator") ?_ slot_listiter_next.lookup ?_
  · obtain ⟨o, a, b, _⟩ := hI
    exact ⟨o, a, b⟩
  · exact h _ _ _ k1 f1 hI
end
end
section
open PySem PySem.W PySem.Calls PyProof.Rows
open AutoSeq1 (wpAny_loadPart')
section
variable {w : World} {p : Program} {loose : List Str} {mean : ExcName → Option Value} {mg mb : Str → Option Value} {h₀ g : Heap} {s : Shared} {dp un : Nat} {fr : Option (List Env)} {gd : Option (List Code)} {Q E : Value → Shared → Prop} {L : Addr} {m : Str → Option Value}

theorem poly_enum {x l : Addr} {vs : List Value} (G : Gr (hd.heap_39 w.params) p loose mean mg mb g) (F : Fr g L s.heap m) (hroom : dp + 1 < recursionLimit)
    (P : PolyL s.heap x l vs)
    (h : ∀ h' tk' e it, s.heap.StaysIn h' → s.heap.get? e = none → s.heap.get? it = none → e ≠ it → IsEnum h' e it 0 .none → h'.IsListIter it l 0 → Q (.ref e) { s with heap := h', toks := tk' }) :
    wpAny (model Challenge.rw_bj0060_01.row.prog w) (aTop dp un fr gd) (call (.type "enumerate") [.ref x]) Q E s := by
  have P0 := P
  obtain ⟨dx, hsh, tk, n, c, e1, e2, e3⟩ := P
  refine callType_codes (Q₁ := fun obj s₁ => s₁.TypeIs obj "enumerate" ∧ Q obj s₁) PySem.F.called_enumerate (PySem.F.typeCall_enumerate_1 _) PySem.F.entry_object_init ?hnew ?hnext
  case hnext =>
    intro obj s₁ hq
    refine ⟨hq.1, PySem.F.args_object_init_2 obj _, ?_⟩
    exact object_init_meets PySem.F.called_enumerate.init.lookup PySem.F.called_enumerate.made (by decide) _ _ _ _ _ ⟨hq.1, rfl, hq.2⟩
  case hnew =>
    refine codeAny_call_builtin PySem.F.called_enumerate.plain PySem.F.entry_enumerate_new (wpAny_of_eq (PySem.F.newCall_enumerate_1 _) ?_)
    have hsub := sub_enumerate
    obtain ⟨hp, ge, d, tk, os⟩ := s
    wp_walk using wpAny_loadPart' e1
    refine wpAny_stack_any fun st => wpAny_pure ?_
    have fin : ∀ h' tk' I, hp.StaysIn h' → hp.get? I = none → h'.IsListIter I l 0 → 
        Q (.ref h'.objs.size) ⟨h'.push { cls := .type "enumerate", data := .fields #[.none, .bool false, .ref I, rawInt 0, .none, .none] }, ge, d, tk', os⟩ := by
      intro h' tk' I k1 f1 hI
      have kk : h'.StaysIn (h'.push { cls := .type "enumerate", data := .fields #[.none, .bool false, .ref I, rawInt 0, .none, .none] }) := fun b o e => Heap.get?_push_of_some _ e
      obtain ⟨oI, g1, _⟩ := id hI
      refine h _ _ h'.objs.size I (fun b o e => kk _ _ (k1 _ _ e)) ?_ f1 ?_ (Heap.get?_push_size _ rfl) (hI.at fun o e => kk _ _ e)
      · cases e : hp.get? h'.objs.size with
        | none => rfl
        | some o => exact absurd (Heap.lt_size (k1 _ _ e)) (Nat.lt_irrefl _)
      · exact Nat.ne_of_gt (Heap.lt_size g1)
    have typ : ∀ (h' : Heap) (o : Obj) (tk' : Nat), o.cls = .type "enumerate" → o.isFreed = false → Shared.TypeIs ⟨h'.push o, ge, d, tk', os⟩ (.ref h'.objs.size) "enumerate" := fun h' o tk' hc hf => ⟨o, Heap.get?_push_size _ hf, hc⟩
    have pit : ∀ {Q' : Value → Shared → Prop} {E' : Value → Shared → Prop}, (∀ h' tk' I, hp.StaysIn h' → hp.get? I = none → h'.IsListIter I l 0 → Q' (.ref I) ⟨h', ge, d, tk', os⟩) →
        wpAny (model Challenge.rw_bj0060_01.row.prog w) (aTop dp un fr gd).in1.in1 (pyIter (.ref x)) Q' E' ⟨hp, ge, d, tk, os⟩ := fun z => poly_pyIter G F hroom P0 z
    split
    · rename_i c' _ _ _ _ _
      cases (c' == Value.type "enumerate")
      all_goals (
        wp_walk using wpAny_loadPart' e1, pit
        intro h' tk' I k1 f1 hI
        wp_walk
        exact ⟨typ _ _ _ rfl rfl, fin h' tk' I k1 f1 hI⟩)
    · wp_walk using wpAny_loadPart' e1, pit
      intro h' tk' I k1 f1 hI
      wp_walk
      exact ⟨typ _ _ _ rfl rfl, fin h' tk' I k1 f1 hI⟩
end
end
section
open PySem PySem.W PySem.Calls PyProof.Rows
def TEnd2 (g : Heap) (L e it : Addr) (oe oi : Obj) (J : (Str → Option Value) → List (Addr × Obj) → Prop) (s : Shared) (Qr : Value → Shared → Prop) (Qb : Shared → Prop) (f : Flow) (s' : Shared) : Prop := match f with
  | .ret v => Qr v s'
  | .brk => Qb s'
  | _ => ∃ h' tk' m' news', s' = { s with heap := h', toks := tk' } ∧ Fr g L h' m' ∧ News g L h' ((e, oe) :: (it, oi) :: news') ∧ (∀ q ∈ news', q.1 ≠ e ∧ q.1 ≠ it) ∧ J m' news'
theorem TEnd2.next {g : Heap} {L e it : Addr} {oe oi : Obj} {J : (Str → Option Value) → List (Addr × Obj) → Prop} {s : Shared} {Qr : Value → Shared → Prop} {Qb : Shared → Prop} {h' : Heap} {tk' : Nat} {m' : Str → Option Value} {news' : List (Addr × Obj)}
    (F : Fr g L h' m') (N : News g L h' ((e, oe) :: (it, oi) :: news')) (hI : ∀ q ∈ news', q.1 ≠ e ∧ q.1 ≠ it) (hJ : J m' news') : TEnd2 g L e it oe oi J s Qr Qb .next { s with heap := h', toks := tk' } := ⟨h', tk', m', news', rfl, F, N, hI, hJ⟩

theorem loop_enum {prog : Program} {w : World} {A : Around} {E : Value → Shared → Prop} {s : Shared} {env : Env} {g : Heap} {xi xc : Str} {pk pv pt : Pos} {x1 : Nat} {body : List Stmt} {Q : Flow → Shared → Prop} {m : Str → Option Value} {oe0 oi0 : Obj} {news : List (Addr × Obj)}
    {e it l : Addr} {vs : List Value} {ns : List Int} (J : Nat → (Str → Option Value) → List (Addr × Obj) → Prop) (hh : A.handled = none)
    (hxi : env.kindOf xi = some .local) (hxc : env.kindOf xc = some .local) (hp : (env.scope.kind == .class || (env.scope.kind == .module && env.locals != env.globals)) = false)
    (hei : e ≠ it) (he : IsEnum s.heap e it 0 .none) (hit : s.heap.IsListIter it l 0) (hl : g.IsList l vs.toArray) (hi : IntsAre vs ns)
    (F : Fr g env.locals s.heap m) (N : News g env.locals s.heap ((e, oe0) :: (it, oi0) :: news)) (hne : ∀ q ∈ news, q.1 ≠ e ∧ q.1 ≠ it) (hJ : J 0 m news)
    (turn : ∀ (i : Nat) (a : Int) (t1 t2 : Tok) (oe oi : Obj) m₁ news₁ h tk, ns[i]? = some a → J i m₁ news₁ → (∀ q ∈ news₁, q.1 ≠ e ∧ q.1 ≠ it) →
      Fr g env.locals h (fun y => if y = xc then some (.int a t2) else if y = xi then some (.int (i : Int) t1) else m₁ y) → News g env.locals h ((e, oe) :: (it, oi) :: news₁) →
      wpAny (model prog w) A (execs body env) (TEnd2 g env.locals e it oe oi (J (i + 1)) { s with heap := h, toks := tk } (fun v s' => Q (.ret v) s') fun s' => Q .next s') E { s with heap := h, toks := tk })
    (done : ∀ h tk m₁ news₁, J ns.length m₁ news₁ → Fr g env.locals h m₁ → News g env.locals h news₁ → Q .next { s with heap := h, toks := tk })
    (hE : PassesOwn (model prog w) A env E) :
    codeAny (model prog w) A (.forLoop (.Tuple [.Name xi pk, .Name xc pv] x1 pt) (.ref e) body [] env) (fun r s' => match r with | .ok f => Q f s' | .error x => cameBackBy (model prog w) A env E x s') s := by
  have fe : g.get? e = none := (N _ (.head _)).2.2
  have fi : g.get? it = none := (N _ (.tail _ (.head _))).2.2
  have Le : env.locals ≠ e := fun q => (N _ (.head _)).2.1 q.symm
  have Li : env.locals ≠ it := fun q => (N _ (.tail _ (.head _))).2.1 q.symm
  obtain ⟨ol, hol, _⟩ := id hl
  have hle : l ≠ e := fun q => by rw [q, fe] at hol; cases hol
  have hli : l ≠ it := fun q => by rw [q, fi] at hol; cases hol
  have hlL : l ≠ env.locals := fun q => absurd (Nat.lt_of_lt_of_le (Heap.lt_size hol) F.above) (q ▸ Nat.lt_irrefl _)
  have W := WalksT.enumerate (prog := prog) (w := w) hh e it l hei hle hli vs.toArray
  have hsz : vs.toArray.size = ns.length := by simp [hi.length]
  rw [hsz] at W
  have old : ∀ b o, g.get? b = some o → b ∉ [e, it] := fun b o q hb => by
    rcases List.mem_cons.mp hb with rfl | hb
    · rw [fe] at q; cases q
    · rw [List.mem_singleton.mp hb, fi] at q; cases q
  have offN : ∀ {nw : List (Addr × Obj)}, (∀ q ∈ nw, q.1 ≠ e ∧ q.1 ≠ it) → ∀ q ∈ nw, q.1 ∉ [e, it] := fun h q hq hb => by
    rcases List.mem_cons.mp hb with h1 | hb
    · exact (h q hq).1 h1
    · exact (h q hq).2 (List.mem_singleton.mp hb)
  have offL : env.locals ∉ [e, it] := fun hb => by
    rcases List.mem_cons.mp hb with h1 | hb
    · exact Le h1
    · exact Li (List.mem_singleton.mp hb)
  refine codeAny_forLoop_any
    (fun k s' => ∃ h' tk m' news' i, s' = { s with heap := h', toks := tk } ∧ ((∃ o, IsEnum h' e it (i : Nat) o) ∧ h'.IsListIter it l i ∧ h'.IsList l vs.toArray) ∧ Fr g env.locals h' m' ∧ News g env.locals h' news' ∧ (∀ q ∈ news', q.1 ≠ e ∧ q.1 ≠ it) ∧ J i m' news' ∧ i ≤ ns.length ∧ k = ns.length + 1 - i) ?_ (ns.length + 1)
    ⟨s.heap, s.toks, m, news, 0, rfl, ⟨⟨_, he⟩, hit, hl.at fun o q => F.keep l o q⟩, F, fun q hq => N q (.tail _ (.tail _ hq)), hne, hJ, Nat.zero_le _, rfl⟩
  rintro k s' ⟨H, tk, m', news', i, rfl, hst', F', N', hne', hJ', hile, rfl⟩
  have next : ∀ h₁ : Heap, (∀ b o, b ∉ [e, it] → H.get? b = some o → h₁.get? b = some o) → Fr g env.locals h₁ m' ∧ News g env.locals h₁ news' := fun h₁ hk₁ =>
    ⟨⟨F'.ns.at' fun o q => hk₁ _ o offL q, fun b o q => hk₁ b o (old b o q) (F'.keep b o q), F'.above⟩, fun q hq => ⟨hk₁ _ _ (offN hne' q hq) (N' q hq).1, (N' q hq).2⟩⟩
  by_cases hlt : i < ns.length
  · refine W.item i _ _ _ hlt hst' fun T vals h₁ tk₁ hPt hTs hT hMid hk₁ => ?_
    obtain ⟨t1, x, hx, rfl⟩ := hPt
    refine W.go _ x1 pt i T _ _ _ hMid fun h₂ hst₂ hk₂ => ?_
    have ht₂ : h₂.IsTuple T #[.int i t1, x] := hT.at fun o q => hk₂ T o (W.apart i T h₁ hMid) q
    refine wpAny_assign_Tuple hh ht₂ rfl rfl fun h₃ hx₃ => ?_
    replace hx₃ : Heap.ExtBut h₂.objs.size h₂ h₃ := hx₃
    have up₃ : ∀ b o, h₂.get? b = some o → h₃.get? b = some o := fun b o q => hx₃ b o (Nat.ne_of_lt (Heap.lt_size q)) q
    obtain ⟨F₃, N₃⟩ := next h₃ fun b o hb q => up₃ b o (hk₂ b o hb (hk₁ b o hb q))
    show wpAny _ A (do holding [x] (assign (.Name xi pk) env (.int i t1)); do holding [] (assign (.Name xc pv) env x); pure ()) _ _ _
    refine wpAny_bind (wpAny_holding (wpAny_assign_Name (wpAny_storeName_local hxi F₃.ns (fun h₄ hn₄ hs₄ => ?_) hp)))
    replace hs₄ : Heap.SameBut env.locals h₃ h₄ := hs₄
    have F₄ := F₃.set hn₄ hs₄
    refine wpAny_bind (wpAny_holding (wpAny_assign_Name (wpAny_storeName_local hxc F₄.ns (fun h₅ hn₅ hs₅ => wpAny_pure ?_) hp)))
    replace hs₅ : Heap.SameBut env.locals h₄ h₅ := hs₅
    have F₅ := F₄.set hn₅ hs₅
    have N₅ : News g env.locals h₅ news' := (N₃.set hs₄).set hs₅
    have hst₅ := W.frame _ _ _ hst₂ fun b hb o q => hs₅.extBut b o (fun z => by
      rcases List.mem_cons.mp hb with h1 | hb
      · exact Le (z ▸ h1)
      · rcases List.mem_cons.mp hb with h1 | hb
        · exact Li (z ▸ h1)
        · exact hlL (z ▸ (List.mem_singleton.mp hb).symm)) (hs₄.extBut b o (fun z => by
      rcases List.mem_cons.mp hb with h1 | hb
      · exact Le (z ▸ h1)
      · rcases List.mem_cons.mp hb with h1 | hb
        · exact Li (z ▸ h1)
        · exact hlL (z ▸ (List.mem_singleton.mp hb).symm)) (up₃ b o q))
    obtain ⟨t2, hx'⟩ := hi.get i ns[i] (by simp [hlt])
    have hxv : x = .int ns[i] t2 := by
      have hP' : vs[i]? = some x := by simpa using hx
      rw [hx'] at hP'; exact (Option.some.inj hP').symm
    subst hxv
    obtain ⟨⟨oo, hge0⟩, hgi, _⟩ := id hst₅
    obtain ⟨oe, hge⟩ : ∃ oe, h₅.get? e = some oe := ⟨_, hge0⟩
    obtain ⟨oi, hgi', _⟩ := id hgi
    have N₆ : News g env.locals h₅ ((e, oe) :: (it, oi) :: news') := fun q hq => by
      rcases List.mem_cons.mp hq with rfl | hq
      · exact ⟨hge, Ne.symm Le, fe⟩
      · rcases List.mem_cons.mp hq with rfl | hq
        · exact ⟨hgi', Ne.symm Li, fi⟩
        · exact N₅ q hq
    refine wpAny_mono (wpAny_passesOwn hE (turn i ns[i] t1 t2 oe oi m' news' h₅ _ (by simp [hlt]) hJ' hne' F₅ N₆)) (fun f s₃ h₆ => ?_) fun _ _ z => z
    have fin : (∃ h' tk' m' news', s₃ = { s with heap := h', toks := tk' } ∧ Fr g env.locals h' m' ∧ News g env.locals h' ((e, oe) :: (it, oi) :: news') ∧ (∀ q ∈ news', q.1 ≠ e ∧ q.1 ≠ it) ∧ J (i + 1) m' news') →
        ∃ k', k' < ns.length + 1 - i ∧ ∃ h' tk m' news' j, s₃ = { s with heap := h', toks := tk } ∧ ((∃ o, IsEnum h' e it (j : Nat) o) ∧ h'.IsListIter it l j ∧ h'.IsList l vs.toArray) ∧ Fr g env.locals h' m' ∧ News g env.locals h' news' ∧ (∀ q ∈ news', q.1 ≠ e ∧ q.1 ≠ it) ∧ J j m' news' ∧ j ≤ ns.length ∧ k' = ns.length + 1 - j := by
      rintro ⟨h', tk', m2, news2, rfl, F7, N7, hne7, hJ7⟩
      refine ⟨ns.length + 1 - (i + 1), by omega, h', tk', m2, news2, i + 1, rfl, ?_, F7, fun q hq => N7 q (.tail _ (.tail _ hq)), hne7, hJ7, hlt, rfl⟩
      refine W.frame _ _ _ hst₅ fun b hb o q => ?_
      rcases List.mem_cons.mp hb with rfl | hb
      · have := (N7 _ (.head _)).1; rw [hge] at q; cases q; exact this
      · rcases List.mem_cons.mp hb with rfl | hb
        · have := (N7 _ (.tail _ (.head _))).1; rw [hgi'] at q; cases q; exact this
        · rw [List.mem_singleton.mp hb] at q ⊢
          have h8 := F₅.keep l ol hol
          rw [h8] at q; cases q
          exact F7.keep l _ hol
    cases f with
    | ret v => exact h₆
    | brk => exact h₆
    | cont => exact fin h₆
    | next => exact fin h₆
  · have hin : i = ns.length := by omega
    subst hin
    refine W.done _ _ _ hst' fun h₁ tk₁ hk₁ => wpAny_execs_nil ?_
    obtain ⟨F₁, N₁⟩ := next h₁ hk₁
    exact done h₁ tk₁ m' news' hJ' F₁ N₁
end
section
open PySem PySem.W PySem.Calls PyProof.Rows
theorem at_cast {ns : List Nat} {i : Nat} {a : Int} (h : (ns.map fun n => ((n : Nat) : Int))[i]? = some a) : i < ns.length ∧ a = ((ns.getD i 0 : Nat) : Int) := by
  rw [List.getElem?_map] at h
  cases e : ns[i]? with
  | none => rw [e] at h; cases h
  | some b =>
    rw [e] at h
    refine ⟨(List.getElem?_eq_some_iff.mp e).1, ?_⟩
    rw [List.getD_eq_getElem?_getD, e]
    exact (Option.some.inj h).symm
theorem poly_len {w : World} {p : Program} {loose : List Str} {mean : ExcName → Option Value} {mg mb : Str → Option Value} {g : Heap} {s : Shared} {dp un : Nat} {fr : Option (List Env)} {gd : Option (List Code)} {Q E : Value → Shared → Prop} {L : Addr} {m : Str → Option Value}
    {x : Addr} {ns : List Nat} (G : Gr (hd.heap_39 w.params) p loose mean mg mb g) (F : Fr g L s.heap m) (hroom : dp + 1 < recursionLimit) (P : PolyAt s.heap x ns) (hn : ns.length < 1000)
    (h : ∀ h' tk' t, s.heap.StaysIn h' → Q (.int (ns.length : Nat) t) { s with heap := h', toks := tk' }) :
    wpAny (model Challenge.rw_bj0060_01.row.prog w) (aTop dp un fr gd) (call (.builtin "len") [.ref x]) Q E s := by
  have P0 := P
  obtain ⟨l, vs, ⟨dx, hsh, tk, n, c, e1, e2, e3⟩, hv⟩ := P
  have I : PySem.W.InstAt s.heap x (instObj 80 dx) 80 (some (dictOf [⟨hsh, .str "num" tk, .ref l⟩] n)) := ⟨e1, rfl, rfl, e2⟩
  revert G
  k_fill
  intro G
  refine len_K (f := 65) F G.X I (by k_is) (by k_is) ?_
  refine len_spec G F.keep hroom P0 hn ?_
  intro h' tk' t k1
  exact ⟨⟨by omega, by omega⟩, h _ _ _ k1⟩

local macro_rules | `(tactic| walk_at "pyIter ref") => `(tactic| refine Stop.out ?_)
local macro_rules | `(tactic| walk_at "exec For Tuple Call cons nil") => `(tactic| refine Stop.out ?_)
local macro_rules | `(tactic| walk_at "BJ.eqN") => `(tactic| first | (with_reducible assumption) | (with_reducible rfl) | exact toN (by omega))
local macro_rules | `(tactic| walk_at "BJ.after") => `(tactic| (intro h9 tk9 t9 hk9; (with_reducible rename Fr _ _ _ _ => kF); (with_reducible rename News _ _ _ _ => kN); have kF9 := Fr.keeps kF hk9; have kN9 := News.keepsAll kN hk9; (try k_sweep); clear hk9; (try dsimp only)))
local macro_rules | `(tactic| walk_at "BJ.room") => `(tactic| (dsimp only [Around.deeper]; omega))
local macro_rules | `(tactic| walk_at "call ref") => `(tactic| (
  (with_reducible show wpAny _ _ (PySem.call (Value.ref 23) _ _) _ _ _);
  (refine' glog_specN ?G ?k ?hr ?a1 ?a2 ?a3 ?_; (case k => exact Fr.keep (by k_asm)); (case G => assumption); (case hr => walk_at "BJ.room"); (case a1 => walk_at "BJ.eqN"); (case a2 => first | assumption | omega); (case a3 => first | assumption | omega));
  walk_at "BJ.after"))
local macro_rules | `(tactic| walk_at "call ref") => `(tactic| (
  (with_reducible show wpAny _ _ (PySem.call (Value.ref 30) _ _) _ _ _);
  (refine' gexp_spec ?G ?k ?hr ?a1 ?a2 ?_; (case k => exact Fr.keep (by k_asm)); (case G => assumption); (case hr => walk_at "BJ.room"); (case a1 => omega); (case a2 => omega));
  walk_at "BJ.after"))
local macro_rules | `(tactic| walk_at "call builtin:len") => `(tactic| (
  (with_reducible show wpAny _ _ (PySem.call (Value.builtin "len") [Value.ref _]) _ _ _);
  (with_reducible rename Fr _ _ _ _ => kF0);
  (refine' poly_len ?G kF0 ?hr (PolyAt.keeps (by assumption) (Fr.keep kF0)) ?a1 ?_; (case G => assumption); (case hr => walk_at "BJ.room"); (case a1 => omega));
  walk_at "BJ.after"))
local macro_rules | `(tactic| walk_at "BJ.in") => `(tactic| (
  (case ho => k_is); (case hcd => k_is); (case hb => exact BindsTo.of_eq rfl); (case hloc => exact locs rfl); (case c1 => exact rfl); (case c2 => exact rfl); (case c3 => exact rfl); (case c4 => decide)))
section
variable {w : World} {p : Program} {loose : List Str} {mean : ExcName → Option Value} {mg mb : Str → Option Value} {h₀ : Heap} {s : Shared} {dp un : Nat} {fr : Option (List Env)} {gd : Option (List Code)} {Q E : Value → Shared → Prop}

theorem mul_spec {x y : Addr} {ns₁ ns₂ : List Nat} (G : Gr (hd.heap_39 w.params) p loose mean mg mb h₀) (k : h₀.StaysIn s.heap) (hroom : dp + 4 < recursionLimit)
    (P₁ : PolyAt s.heap x ns₁) (hn₁ : 1 ≤ ns₁.length) (hm₁ : ns₁.length < 100) (hb₁ : Small ns₁) (hz₁ : ∀ i, i < ns₁.length → ns₁.getD i 0 ≠ 0)
    (P₂ : PolyAt s.heap y ns₂) (hn₂ : 1 ≤ ns₂.length) (hm₂ : ns₂.length < 100) (hb₂ : Small ns₂) (hz₂ : ∀ i, i < ns₂.length → ns₂.getD i 0 ≠ 0)
    (h : ∀ h' tk' z, s.heap.StaysIn h' → PolyNew s.heap h' z (pmul ns₁ ns₂) → Q (.ref z) { s with heap := h', toks := tk' }) :
    wpAny (model Challenge.rw_bj0060_01.row.prog w) (aTop dp un fr gd) (call (.ref 72) [.ref x, .ref y]) Q E s := by
  revert G
  k_fill
  intro G
  refine wpAny_call ?_
  refine' enter0 (binds := [(Str.ofString "self", .ref x), (Str.ofString "other", .ref y)]) G k ?ho ?hcd ?hroom ?hb ?hloc ?body ?c1 ?c2 ?c3 ?c4
  walk_at "BJ.in"
  case hroom => show dp < _; omega
  case body =>
    rintro g L' h₁ rfl G' F N
    have X := G'.X
    have T := G'.T
    dsimp only
    k_steps
    refine Stop.mk ?_
    (with_reducible rename Fr _ _ _ _ => F1)
    (with_reducible rename News _ _ _ _ => N1)
    (rename IntsAre _ (List.flatten (List.replicate _ [0])) => hz)
    rw [flat0] at hz
    have hN : ((ns₁.length : Int) + (ns₂.length : Int) - 1).toNat = ns₁.length + ns₂.length - 1 := by omega
    rw [hN] at hz N1
    obtain ⟨lx, vsx, Px, hvx⟩ := id P₁
    obtain ⟨ly, vsy, Py, hvy⟩ := id P₂
    obtain ⟨D, us, F2, N2, hz2⟩ : ∃ D us, Fr s.heap L' _ (fun z => if z = Str.ofString "num" then some (Value.ref D) else List.lookup z [(Str.ofString "self", Value.ref x), (Str.ofString "other", Value.ref y)].reverse) ∧ News s.heap L' _ [(D, listOf (List.toArray us) 0)] ∧ Nums us (List.replicate (ns₁.length + ns₂.length - 1) 0) := ⟨_, _, F1, newsHead N1, hz⟩
    clear N1 hz F1 hN
    refine wpAny_For ?_ (by intro _; rfl)
    k_steps
    refine poly_enum G' F2 (by walk_at "BJ.room") (Px.keeps F2.keep) ?_
    intro h9 tk9 e it hk9 fe fi hei he hit
    have F3 := Fr.keeps F2 hk9
    obtain ⟨oi, hoi, _⟩ := id hit
    have N3 := newsAdd F2 N2 hk9 fi hoi
    have N3 : News s.heap L' h9 ((e, _) :: (it, oi) :: [(D, listOf (List.toArray us) 0)]) := fun q hq => by
      rcases List.mem_cons.mp hq with rfl | hq
      · exact newsAdd F2 News.nil hk9 fe he _ (.head _)
      · exact N3 q hq
    have hDe := newsNe N2 fe _ (.head _)
    have hDi := newsNe N2 fi _ (.head _)
    dsimp only at hDe hDi ⊢
    refine wpAny_pyIter_enum he ?_
    have hDe' : @Ne Nat D e := hDe
    have hDi' : @Ne Nat D it := hDi
    refine' loop_enum (fun i m₁ news₁ => ∃ us, news₁ = [(D, listOf (List.toArray us) 0)] ∧ Nums us (prodAcc (fun i j => gx ((lg (ns₁.getD i 0) : Int) + (lg (ns₂.getD j 0) : Int))) ns₂.length i (List.replicate (ns₁.length + ns₂.length - 1) 0)) ∧ m₁ "num" = some (.ref D) ∧ m₁ "other" = some (.ref y)) rfl rfl rfl rfl hei he hit Px.isList hvx F3 N3 ?hne1 ?hJ1 ?turn1 ?done1 PassesOwn.never
    case hne1 => intro q hq; rw [List.mem_singleton.mp hq]; exact ⟨hDe, hDi⟩
    case hJ1 => exact ⟨us, rfl, hz2, rfl, rfl⟩
    case turn1 =>
      rintro i a t1 t2 oe oi m₁ news₁ h2 tk2 ha ⟨us, rfl, hus, e1, e2⟩ hne F4 N4
      obtain ⟨hil, rfl⟩ := at_cast ha
      replace F4 := frA (a := "num") (frA (a := "other") F4 e2) e1
      clear F2 N2 F3 N3 hz2
      refine wpAny_execs_cons ?_
      refine wpAny_For ?_ (by intro _; rfl)
      dsimp only
      k_steps
      refine poly_enum G' F4 (by walk_at "BJ.room") (Py.keeps F4.keep) ?_
      intro h10 tk10 e2 it2 hk10 fe2 fi2 hei2 he2 hit2
      have F5 := Fr.keeps F4 hk10
      obtain ⟨oi2, hoi2, _⟩ := id hit2
      have N5 := newsAdd F4 N4 hk10 fi2 hoi2
      have N5 : News s.heap L' h10 ((e2, _) :: (it2, oi2) :: [(e, oe), (it, oi), (D, listOf (List.toArray us) 0)]) := fun q hq => by
        rcases List.mem_cons.mp hq with rfl | hq
        · exact newsAdd F4 News.nil hk10 fe2 he2 _ (.head _)
        · exact N5 q hq
      have hNe := allNe_of (newsNe N4 fe2)
      have hNi := allNe_of (newsNe N4 fi2)
      simp only [AllNe, and_true] at hNe hNi
      dsimp only at hNe hNi ⊢
      refine wpAny_pyIter_enum he2 ?_
      refine' loop_enum (fun j m₁ news₁ => ∃ us, news₁ = [(e, oe), (it, oi), (D, listOf (List.toArray us) 0)] ∧ Nums us (rowAcc (fun j => gx ((lg (ns₁.getD i 0) : Int) + (lg (ns₂.getD j 0) : Int))) i j (prodAcc (fun i j => gx ((lg (ns₁.getD i 0) : Int) + (lg (ns₂.getD j 0) : Int))) ns₂.length i (List.replicate (ns₁.length + ns₂.length - 1) 0))) ∧ m₁ "num" = some (.ref D) ∧ m₁ "other" = some (.ref y) ∧ m₁ "i" = some (.int (i : Int) t1) ∧ m₁ "item" = some (.int (ns₁.getD i 0 : Nat) t2)) rfl rfl rfl rfl hei2 he2 hit2 Py.isList hvy F5 N5 ?hne2 ?hJ2 ?turn2 ?done2 PassesOwn.never
      case hne2 =>
        intro q hq
        rcases List.mem_cons.mp hq with rfl | hq
        · exact ⟨hNe.1, hNi.1⟩
        · rcases List.mem_cons.mp hq with rfl | hq
          · exact ⟨hNe.2.1, hNi.2.1⟩
          · rw [List.mem_singleton.mp hq]; exact ⟨hNe.2.2, hNi.2.2⟩
      case hJ2 => exact ⟨us, rfl, hus, rfl, rfl, rfl, rfl⟩
      case turn2 =>
        rintro j b t3 t4 oe2 oi2 m₂ news₂ h3 tk3 hb ⟨us2, rfl, hus2, e1, e2, e3, e4⟩ hne2 F6 N6
        obtain ⟨hjl, rfl⟩ := at_cast hb
        replace F6 := frA (a := "num") (frA (a := "i") (frA (a := "item") F6 e4) e3) e1
        clear F4 N4 F5 N5 hus
        generalize hT : rowAcc (fun j => gx ((lg (ns₁.getD i 0) : Int) + (lg (ns₂.getD j 0) : Int))) i j (prodAcc (fun i j => gx ((lg (ns₁.getD i 0) : Int) + (lg (ns₂.getD j 0) : Int))) ns₂.length i (List.replicate (ns₁.length + ns₂.length - 1) 0)) = T2 at hus2
        have hlen : (T2.map fun n => ((n : Nat) : Int)).length = ns₁.length + ns₂.length - 1 := by
          rw [List.length_map, ← hT, rowAcc_len, prodAcc_len, List.length_replicate]
        have hx1 := hb₁ i
        have hx2 := hb₂ j
        have hx3 := hz₁ i hil
        have hx4 := hz₂ j hjl
        have hx5 := lg_lt _ hx1
        have hx6 := lg_lt _ hx2
        dsimp only
        k_steps
        (with_reducible rename Fr _ _ _ _ => F8)
        (with_reducible rename News _ _ _ _ => N8)
        (rename IntsAre _ (List.set _ _ _) => hi8)
        refine TEnd2.next F8 N8 ?_ ⟨_, rfl, ?_, rfl, e2, rfl, rfl⟩
        · intro q hq
          rcases List.mem_cons.mp hq with rfl | hq
          · exact ⟨hNe.1, hNi.1⟩
          · rcases List.mem_cons.mp hq with rfl | hq
            · exact ⟨hNe.2.1, hNi.2.1⟩
            · rw [List.mem_singleton.mp hq]; exact ⟨hNe.2.2, hNi.2.2⟩
        · rw [rowAcc, hT]
          refine intsCast hi8 ?_
          rw [set_cast T2 (i + j) (by omega)]
      case done2 =>
        rintro h3 tk3 m₂ news₂ ⟨us2, rfl, hus2, e1, e2, e3, e4⟩ F6 N6
        clear F4 N4 F5 N5 hus
        refine wpAny_execs_nil ?_
        refine TEnd2.next F6 N6 ?_ ⟨us2, rfl, ?_, e1, e2⟩
        · intro q hq; rw [List.mem_singleton.mp hq]; exact ⟨hDe, hDi⟩
        · rw [List.length_map] at hus2
          exact hus2
    case done1 =>
      rintro h2 tk2 m₁ news₁ ⟨us, rfl, hus, e1, e2⟩ F4 N4
      replace F4 := frA (a := "num") F4 e1
      clear F2 N2 F3 N3 hz2
      dsimp only
      k_steps
      rw [List.length_map] at hus
      refine poly_new (sh := 0) G' F4.keep (by walk_at "BJ.room") (News.isList N4 (.head _)) hus ?_ ?_ (by decide) ?_
      · rw [prodAcc_len, List.length_replicate]; omega
      · rw [prodAcc_len, List.length_replicate]; omega
      intro h9 tk9 z hk9 fz hz
      refine h _ _ z (fun b o q => hk9 _ _ (F4.keep _ _ q)) ?_
      rw [List.replicate_zero, List.append_nil] at hz
      exact hz.down F4.keep
end
end
section
open PySem PySem.W PySem.Calls PyProof.Rows PyProof.Rows.LCg PyProof.Rows.LCp
abbrev ZSt (z TI TO i1 i2 l1 l2 : Addr) (xs ys : Array Value) (i : Nat) (h : Heap) : Prop :=
  IsZip h z TI TO .none ∧ IsPair h TI (.ref i1) (.ref i2) ∧ (∃ a b, IsPair h TO a b) ∧ h.IsListIter i1 l1 i ∧ h.IsListIter i2 l2 i ∧ h.IsList l1 xs ∧ h.IsList l2 ys
section
variable {prog : Program} {w : World} {A : Around} {E : Value → Shared → Prop} {s : Shared} {h₀ : Heap} {L : Addr} {m : Str → Option Value} {env : Env}

theorem block_Z {elt iter : Expr} {x x₂ : Str} {px px₂ tp : Pos} {tk} {scope : Scope} {cl : List (Str × Addr)} {pos : Pos} {s₂ : Shared} {z TI TO i1 i2 l1 l2 : Addr} {xs ys : Array Value} {n : Nat} {V : Nat → Value → Prop} {news : List (Addr × Obj)}
    {RR : Value → Addr → Result → Shared → Prop}
    (hh : A.handled = none) (D0 : ZipApart z TI TO i1 i2 l1 l2) (hn : min xs.size ys.size = n) (hsz : n ≤ sizeLine)
    (hcell : ∀ y ∈ scope.names, y.2 ≠ .cell) (hkind : scope.kind = .function) (hx : scope.names.lookup x = some .local) (hx₂ : scope.names.lookup x₂ = some .local) (hxx : x ≠ x₂) (hst : ZSt z TI TO i1 i2 l1 l2 xs ys 0 s₂.heap)
    (F : Fr h₀ L s₂.heap m) (N : News h₀ L s₂.heap news) (hw : ∀ b ∈ [z, TI, TO, i1, i2], h₀.get? b = none ∧ b ≠ L ∧ ∀ p ∈ news, p.1 ≠ b) (hl1 : h₀.IsList l1 xs) (hl2 : h₀.IsList l2 ys)
    (turn : ∀ i v₁ v₂ C oC D oD oz oTI oTO o1 o2 m₂ h tk (E' : Value → Shared → Prop), i < n → xs[i]? = some v₁ → ys[i]? = some v₂ → NsObj oC m₂ → m₂ x = some v₁ → m₂ x₂ = some v₂ → Fr h₀ L h m →
      News h₀ L h ((C, oC) :: (D, oD) :: (z, oz) :: (TI, oTI) :: (TO, oTO) :: (i1, o1) :: (i2, o2) :: news) →
      wpAny (model prog w) A (eval elt (compEnvC scope cl C env)) (fun y s' => V i y ∧ ∃ h' tk', s' = { s₂ with heap := h', toks := tk' } ∧ Fr h₀ L h' m ∧ News h₀ L h' ((C, oC) :: (D, oD) :: (z, oz) :: (TI, oTI) :: (TO, oTO) :: (i1, o1) :: (i2, o2) :: news)) E' { s₂ with heap := h, toks := tk })
    (hRR : ∀ D C h tk m' vs, Fr h₀ L h m → News h₀ L h ((D, lst vs) :: news) → (∀ p ∈ news, p.1 ≠ D) → h.Ns C m' → h₀.get? C = none → C ≠ L → C ≠ D → (∀ p ∈ news, p.1 ≠ C) → vs.length = n → (∀ i, i < n → ∃ v, vs[i]? = some v ∧ V i v) →
      RR (.ref D) C (.ok .next) { s₂ with heap := h, toks := tk }) :
    wpAny (model prog w) A (newList []) (fun acc s₃ => wpAny (model prog w) A (newFunctionEnv scope env.globals cl [] env.qual none .none (some env)) (fun cenv s₄ =>
      codeAny (model prog w) A (.compStart (.ListComp elt [⟨.Tuple [.Name x px, .Name x₂ px₂] tk tp, iter, [], 0⟩] scope pos) 0 (.ref z) acc { cenv with scope := relabel scope env }) (RR acc cenv.locals) s₄) E s₃) E s₂ := by
  have W := WalksT.zip2 (prog := prog) (w := w) hh z TI TO i1 i2 l1 l2 D0 xs ys
  rw [hn] at W
  refine wpAny_newObj_type (wpAny_newFunctionEnv hcell (by intro y hy; simp at hy) (fun h₁ hns₁ hsb₁ => ?_) hkind)
  dsimp only at hns₁ hsb₁ ⊢
  generalize hH2 : s₂.heap.push { cls := .type "list", dict := none, data := .seq ([] : List Value).toArray } = H2 at hns₁ hsb₁ ⊢
  have hC : H2.objs.size = s₂.heap.objs.size + 1 := by rw [← hH2, Heap.size_push]
  have hDC : s₂.heap.objs.size ≠ H2.objs.size := by rw [hC]; exact Nat.ne_of_lt (Nat.lt_succ_self _)
  have below : ∀ b, b < s₂.heap.objs.size → b ≠ H2.objs.size ∧ b ≠ s₂.heap.objs.size := fun b hb => ⟨by rw [hC]; exact Nat.ne_of_lt (Nat.lt_succ_of_lt hb), Nat.ne_of_lt hb⟩
  have hfp : ∀ b ∈ [z, TI, TO, i1, i2, l1, l2], b < s₂.heap.objs.size := by
    obtain ⟨hz, hTI, ⟨a, b, hTO⟩, ⟨_, g1, _⟩, ⟨_, g2, _⟩, ⟨_, g3, _⟩, ⟨_, g4, _⟩⟩ := hst
    intro b hb
    simp only [List.mem_cons, List.not_mem_nil, or_false] at hb
    rcases hb with rfl | rfl | rfl | rfl | rfl | rfl | rfl
    · exact Heap.lt_size hz
    · exact Heap.lt_size hTI
    · exact Heap.lt_size hTO
    · exact Heap.lt_size g1
    · exact Heap.lt_size g2
    · exact Heap.lt_size g3
    · exact Heap.lt_size g4
  have hDf : s₂.heap.objs.size ∉ [z, TI, TO, i1, i2, l1, l2] := fun hm => Nat.lt_irrefl _ (hfp _ hm)
  have hCf : H2.objs.size ∉ [z, TI, TO, i1, i2, l1, l2] := fun hm => by have := hfp _ hm; rw [hC] at this; exact Nat.lt_irrefl _ (Nat.lt_of_succ_lt this)
  have hDw : s₂.heap.objs.size ∉ [z, TO, i1, i2] := fun hm => hDf (W.sub _ hm)
  have hCw : H2.objs.size ∉ [z, TO, i1, i2] := fun hm => hCf (W.sub _ hm)
  have old : ∀ b o, s₂.heap.get? b = some o → h₁.get? b = some o := fun b o e => hsb₁.extBut b o (below b (Heap.lt_size e)).1 (Heap.get?_push_of_some _ (hH2 ▸ Heap.get?_push_of_some _ e))
  have hacc : h₁.get? s₂.heap.objs.size = some (lst []) := hsb₁.extBut _ _ hDC (Heap.get?_push_of_some _ (hH2 ▸ Heap.get?_push_size _ rfl))
  have hst₁ : ZSt z TI TO i1 i2 l1 l2 xs ys 0 h₁ := W.frame _ _ _ hst fun b _ o e => old b o e
  have fresh : ∀ a, s₂.heap.objs.size ≤ a → s₂.heap.get? a = none := fun a ha => by
    cases e : s₂.heap.get? a with
    | none => rfl
    | some o' => exact absurd (Heap.lt_size e) (Nat.not_lt.mpr ha)
  have fresh₀ : ∀ a, s₂.heap.objs.size ≤ a → h₀.get? a = none := fun a ha => by
    cases e : h₀.get? a with
    | none => rfl
    | some o' => have := F.keep a o' e; rw [fresh a ha] at this; cases this
  have hD₀ : h₀.get? s₂.heap.objs.size = none := fresh₀ _ (Nat.le_refl _)
  have hC₀ : h₀.get? H2.objs.size = none := fresh₀ _ (by rw [hC]; exact Nat.le_succ _)
  have hLlt : L < s₂.heap.objs.size := F.ns.lt
  have hDL : s₂.heap.objs.size ≠ L := Ne.symm (below L hLlt).2
  have hCL : H2.objs.size ≠ L := Ne.symm (below L hLlt).1
  have offD : ∀ p ∈ news, p.1 ≠ s₂.heap.objs.size := fun p hp => (below _ (Heap.lt_size (N p hp).1)).2
  have offC : ∀ p ∈ news, p.1 ≠ H2.objs.size := fun p hp => (below _ (Heap.lt_size (N p hp).1)).1
  have hsubw : ∀ b ∈ [z, TO, i1, i2], b ∈ [z, TI, TO, i1, i2] := fun b hb => by
    simp only [List.mem_cons, List.not_mem_nil, or_false] at hb ⊢
    rcases hb with h | h | h | h
    · exact .inl h
    · exact .inr (.inr (.inl h))
    · exact .inr (.inr (.inr (.inl h)))
    · exact .inr (.inr (.inr (.inr h)))
  have hLw : L ∉ [z, TO, i1, i2] := fun hm => (hw L (hsubw _ hm)).2.1 rfl
  have frW : ∀ {h h'}, Fr h₀ L h m → (∀ b o, b ∉ [z, TO, i1, i2] → h.get? b = some o → h'.get? b = some o) → Fr h₀ L h' m := fun {h h'} F' k =>
    ⟨F'.ns.at' fun o e => k _ o hLw e, fun b o e => k b o (fun hm => by rw [(hw b (hsubw _ hm)).1] at e; cases e) (F'.keep b o e), F'.above⟩
  have nwW : ∀ {h h'} {vs : List Value}, News h₀ L h ((s₂.heap.objs.size, lst vs) :: news) → (∀ b o, b ∉ [z, TO, i1, i2] → h.get? b = some o → h'.get? b = some o) → News h₀ L h' ((s₂.heap.objs.size, lst vs) :: news) := fun {h h' vs} N' k p hp => by
    refine ⟨k _ _ ?_ (N' p hp).1, (N' p hp).2⟩
    rcases List.mem_cons.mp hp with rfl | hp
    · exact hDw
    · exact fun hm => (hw _ (hsubw _ hm)).2.2 p hp rfl
  have loop : ∀ s₃ : Shared, s₃ = { s₂ with heap := h₁, toks := s₂.toks + ([] : List (Str × Value)).length } →
      codeAny (model prog w) A (.compLoop (.ListComp elt [⟨.Tuple [.Name x px, .Name x₂ px₂] tk tp, iter, [], 0⟩] scope pos) 0 (.ref z) (.ref s₂.heap.objs.size) (compEnvC scope cl H2.objs.size env))
        (RR (.ref s₂.heap.objs.size) H2.objs.size) s₃ := by
    rintro s₃ rfl
    refine codeAny_compLoop_pair
      (fun k s' => ∃ h' tk i vs m', s' = { s₂ with heap := h', toks := tk } ∧ i ≤ n ∧ k = n + 1 - i ∧ vs.length = i ∧ ZSt z TI TO i1 i2 l1 l2 xs ys i h' ∧ Fr h₀ L h' m ∧ h'.Ns H2.objs.size m' ∧ News h₀ L h' ((s₂.heap.objs.size, lst vs) :: news) ∧
        (∀ j, j < i → ∃ v, vs[j]? = some v ∧ V j v)) ?_ (n + 1)
      ⟨h₁, _, 0, [], _, rfl, Nat.zero_le _, rfl, rfl, hst₁, F.keeps old, hns₁, fun p hp => ?_, fun j hj => absurd hj (Nat.not_lt_zero _)⟩
    · rintro k s' ⟨h', tk, i, vs, m', rfl, hi, rfl, hyl, hst', F', hn', N', hV⟩
      by_cases hlt : i < n
      · refine W.item i _ _ _ hlt hst' fun T vals h₂ tk₂ hPv hTge hT₂ hM₂ hk₂ => ?_
        obtain ⟨v₁, v₂, hv1, hv2, rfl⟩ := hPv
        have hTw := W.apart _ _ _ hM₂
        refine W.go _ _ _ i T _ _ _ hM₂ fun h₄ hst₄ hk₄ => ?_
        have hT₄ : IsTup h₄ T #[v₁, v₂] := by obtain ⟨o, e, r⟩ := hT₂; exact ⟨o, hk₄ _ _ hTw e, r⟩
        have hk₂' : ∀ b o, b ∉ [z, TO, i1, i2] → h'.get? b = some o → h₄.get? b = some o := fun b o hb e => hk₄ b o hb (hk₂ b o hb e)
        refine assign_Tuple_tuple hh hT₄ rfl rfl fun h₅ he => ?_
        have he' : ∀ b o, h₄.get? b = some o → h₅.get? b = some o := fun b o e => he b o (Nat.ne_of_lt (Heap.lt_size e)) e
        refine assignInOrder_cons (wpAny_assign_Name (wpAny_storeName_local (lookup_relabel_local hx) ((hn'.at' fun o e => hk₂' _ o hCw e).at' fun o e => he' _ o e) (fun h₆ hn₆ hs₆ => ?_) (by simp [compEnvC, relabel, hkind])))
        refine assignInOrder_cons (wpAny_assign_Name (wpAny_storeName_local (lookup_relabel_local hx₂) hn₆ (fun h₃ hn₃ hs₃ => ?_) (by simp [compEnvC, relabel, hkind])))
        refine assignInOrder_nil ?_
        have old3 : ∀ b o, b ≠ H2.objs.size → h₄.get? b = some o → h₃.get? b = some o := fun b o hb e => hs₃.extBut b o hb (hs₆.extBut b o hb (he' b o e))
        have hst₃ : ZSt z TI TO i1 i2 l1 l2 xs ys (i + 1) h₃ := W.frame _ _ _ hst₄ fun b hb o e => old3 b o (fun q => hCf (by have q' : b = H2.objs.size := q; rw [← q']; exact hb)) e
        obtain ⟨oC, heC, hoC⟩ := ns_obj hn₃
        have F₃ : Fr h₀ L h₃ m := (((frW F' hk₂').keeps he').change hs₆ hCL hC₀).change hs₃ hCL hC₀
        have N₂ : News h₀ L h₄ ((s₂.heap.objs.size, lst vs) :: news) := nwW N' hk₂'
        have N₃ : News h₀ L h₃ ((s₂.heap.objs.size, lst vs) :: news) := fun p hp => by
          refine ⟨old3 _ _ ?_ (N₂ p hp).1, (N₂ p hp).2⟩
          rcases List.mem_cons.mp hp with rfl | hp
          · exact hDC
          · exact offC p hp
        obtain ⟨gz, gTI, ⟨ga, gb, gTO⟩, ⟨og1, gi1, ri1⟩, ⟨og2, gi2, ri2⟩, _, _⟩ := id hst₃
        have N₃' : News h₀ L h₃ ((H2.objs.size, oC) :: (s₂.heap.objs.size, lst vs) :: (z, _) :: (TI, _) :: (TO, _) :: (i1, og1) :: (i2, og2) :: news) := fun p hp => by
          have hwz := hw z (by simp)
          have hwTI := hw TI (by simp)
          have hwTO := hw TO (by simp)
          have hwi1 := hw i1 (by simp)
          have hwi2 := hw i2 (by simp)
          rcases List.mem_cons.mp hp with rfl | hp
          · exact ⟨heC, hCL, hC₀⟩
          rcases List.mem_cons.mp hp with rfl | hp
          · exact N₃ _ List.mem_cons_self
          rcases List.mem_cons.mp hp with rfl | hp
          · exact ⟨gz, hwz.2.1, hwz.1⟩
          rcases List.mem_cons.mp hp with rfl | hp
          · exact ⟨gTI, hwTI.2.1, hwTI.1⟩
          rcases List.mem_cons.mp hp with rfl | hp
          · exact ⟨gTO, hwTO.2.1, hwTO.1⟩
          rcases List.mem_cons.mp hp with rfl | hp
          · exact ⟨gi1, hwi1.2.1, hwi1.1⟩
          rcases List.mem_cons.mp hp with rfl | hp
          · exact ⟨gi2, hwi2.2.1, hwi2.1⟩
          exact N₃ p (List.mem_cons_of_mem _ hp)
        refine wpAny_mono (turn i v₁ v₂ H2.objs.size oC _ _ _ _ _ _ _ _ h₃ _ _ hlt hv1 hv2 hoC (by simp [hxx]) (by simp) F₃ N₃') (fun y s₄ h₄ => ?_) fun _ _ e => e
        obtain ⟨hVy, h₄, tk₄, rfl, F₄, N₄⟩ := h₄
        have zC := (N₄ _ (.head _)).1
        have zD := (N₄ _ (.tail _ (.head _))).1
        have hst4 : ∀ b ∈ [z, TI, TO, i1, i2, l1, l2], ∀ o, h₃.get? b = some o → h₄.get? b = some o := by
          intro b hb o e
          simp only [List.mem_cons, List.not_mem_nil, or_false] at hb
          have q : ∀ p ∈ ((H2.objs.size, oC) :: (s₂.heap.objs.size, lst vs) :: (z, _) :: (TI, _) :: (TO, _) :: (i1, og1) :: (i2, og2) :: news : List (Addr × Obj)), h₃.get? p.1 = some o → h₄.get? p.1 = some o := fun p hp e => by
            rw [(N₃' p hp).1] at e; cases e; exact (N₄ p hp).1
          rcases hb with rfl | rfl | rfl | rfl | rfl | rfl | rfl
          · exact q _ (.tail _ (.tail _ (.head _))) e
          · exact q _ (.tail _ (.tail _ (.tail _ (.head _)))) e
          · exact q _ (.tail _ (.tail _ (.tail _ (.tail _ (.head _))))) e
          · exact q _ (.tail _ (.tail _ (.tail _ (.tail _ (.tail _ (.head _)))))) e
          · exact q _ (.tail _ (.tail _ (.tail _ (.tail _ (.tail _ (.tail _ (.head _))))))) e
          · obtain ⟨ol, hol, _⟩ := hl1
            rw [F₃.keep _ _ hol] at e; cases e; exact F₄.keep _ _ hol
          · obtain ⟨ol, hol, _⟩ := hl2
            rw [F₃.keep _ _ hol] at e; cases e; exact F₄.keep _ _ hol
        refine append_at (hsz := by show vs.toArray.size ≤ sizeLine; rw [List.size_toArray, hyl]; exact Nat.le_trans hi hsz) zD fun h₅ hs₅ hD₅ => ?_
        refine ⟨n + 1 - (i + 1), by omega, h₅, tk₄, i + 1, vs ++ [y], _, rfl, hlt, rfl, by rw [List.length_append, List.length_singleton, hyl], W.frame _ _ _ hst₃ fun b hb o e => hs₅.extBut b o (fun q => hDf (q ▸ hb)) (hst4 b hb o e), F₄.change hs₅ hDL hD₀,
          (hoC.ns zC).sameBut hs₅ (Ne.symm hDC), fun p hp => ?_, fun j hj => ?_⟩
        · rcases List.mem_cons.mp hp with rfl | hp
          · exact ⟨hD₅.trans (congrArg some (lst_snoc vs y)), hDL, hD₀⟩
          · exact ⟨hs₅.extBut _ _ (offD p hp) (N₄ p (.tail _ (.tail _ (.tail _ (.tail _ (.tail _ (.tail _ (.tail _ hp)))))))).1, (N₃ p (List.mem_cons_of_mem _ hp)).2⟩
        · by_cases hji : j < i
          · obtain ⟨v, e1, e2⟩ := hV j hji
            exact ⟨v, by rw [List.getElem?_append_left (by omega)]; exact e1, e2⟩
          · have : j = i := by omega
            subst this
            exact ⟨y, by rw [← hyl]; simp, hVy⟩
      · obtain rfl : i = n := Nat.le_antisymm hi (Nat.not_lt.mp hlt)
        refine W.done _ _ _ hst' fun h₂ tk₂ hk₂ => ?_
        exact hRR _ _ h₂ tk₂ _ vs (frW F' hk₂) (nwW N' hk₂) offD (hn'.at' fun o e => hk₂ _ o hCw e) hC₀ hCL (Ne.symm hDC) offC hyl hV
    · rcases List.mem_cons.mp hp with rfl | hp
      · exact ⟨hacc, hDL, hD₀⟩
      · exact ⟨old _ _ (N p hp).1, (N p hp).2⟩
  exact codeAny_compStart_list (loop _ rfl) (W.self 0 _ _ _ hst₁ (loop _ rfl))

theorem Assign_ListComp_Z {elt iter : Expr} {x x₂ y : Str} {px px₂ tp py : Pos} {tk} {scope : Scope} {cl : List (Str × Addr)} {pos spos : Pos} {Q : Flow → Shared → Prop} (V : Nat → Value → Prop) (n : Nat) (xs ys : Array Value) (l1 l2 : Addr) {news : List (Addr × Obj)} (_F₀ : Fr h₀ L s.heap m) (_N₀ : News h₀ L s.heap news) (hl1 : h₀.IsList l1 xs) (hl2 : h₀.IsList l2 ys) (hLe : env.locals = L)
    (hsw : swapsWith (.ListComp elt [⟨.Tuple [.Name x px, .Name x₂ px₂] tk tp, iter, [], 0⟩] scope pos) (some (.Name y py)) spos.line env = pure true)
    (hclos : closureFor scope env = pure cl) (hcell : ∀ z ∈ scope.names, z.2 ≠ .cell) (hkind : scope.kind = .function)
    (hnames : ∀ z ∈ scope.names, z.2 = .local → scope.names.lookup z.1 = some .local) (hx : scope.names.lookup x = some .local) (hx₂ : scope.names.lookup x₂ = some .local) (hxx : x ≠ x₂)
    (hy : env.kindOf y = some .local) (hp : (env.scope.kind == .class || (env.scope.kind == .module && env.locals != env.globals)) = false)
    (hs : ∀ x, foldedSetIterable iter env x = pure x)
    (hh : A.handled = none) (hn : min xs.size ys.size = n) (hsz : n ≤ sizeLine)
    (h : wpAny (model prog w) A (eval iter env) (fun zv s₁ => (∃ h1 tk1, s₁ = { s with heap := h1, toks := tk1 }) ∧ ∃ z TI TO i1 i2, zv = .ref z ∧ ZipApart z TI TO i1 i2 l1 l2 ∧ ZSt z TI TO i1 i2 l1 l2 xs ys 0 s₁.heap ∧
      Fr h₀ L s₁.heap m ∧ News h₀ L s₁.heap news ∧ (∀ b ∈ [z, TI, TO, i1, i2], h₀.get? b = none ∧ b ≠ L ∧ ∀ p ∈ news, p.1 ≠ b)) E s)
    (turn : ∀ z TI TO i1 i2 i v₁ v₂ C oC D oD oz oTI oTO o1 o2 m₂ h tk (E' : Value → Shared → Prop), i < n → xs[i]? = some v₁ → ys[i]? = some v₂ → NsObj oC m₂ → m₂ x = some v₁ → m₂ x₂ = some v₂ → Fr h₀ L h m →
      News h₀ L h ((C, oC) :: (D, oD) :: (z, oz) :: (TI, oTI) :: (TO, oTO) :: (i1, o1) :: (i2, o2) :: news) →
      wpAny (model prog w) A (eval elt (compEnvC scope cl C env)) (fun y s' => V i y ∧ ∃ h' tk', s' = { s with heap := h', toks := tk' } ∧ Fr h₀ L h' m ∧ News h₀ L h' ((C, oC) :: (D, oD) :: (z, oz) :: (TI, oTI) :: (TO, oTO) :: (i1, o1) :: (i2, o2) :: news)) E' { s with heap := h, toks := tk })
    (done : ∀ D h tk vs, Fr h₀ L h (fun z => if z = y then some (.ref D) else m z) → News h₀ L h ((D, lst vs) :: news) → (∀ p ∈ news, p.1 ≠ D) → vs.length = n → (∀ i, i < n → ∃ v, vs[i]? = some v ∧ V i v) → Q .next { s with heap := h, toks := tk }) :
    wpAny (model prog w) A (exec (.Assign [.Name y py] (.ListComp elt [⟨.Tuple [.Name x px, .Name x₂ px₂] tk tp, iter, [], 0⟩] scope pos) spos) env) Q E s := by
  subst hLe
  rw [exec_Assign_Name_used _ _ _ _ hsw]
  refine wpAny_bind (wpAny_standAt (wpAny_bind ?_))
  show wpAny _ A (do let _ ← comprehension (.ListComp elt [⟨.Tuple [.Name x px, .Name x₂ px₂] tk tp, iter, [], 0⟩] scope pos) scope env _ (newList []) false (eval iter env) (some (assign (.Name y py) env))) _ _ s
  refine wpAny_bind (wpAny_mono (wpAny_comprehension_free (use := some (assign (.Name y py) env)) (Q := fun _ s' => Q .next s') rfl hs hclos hkind hnames
    (wpAny_mono h (fun xv s₁ h₁ => ?_) fun _ _ e => e)) (fun _ s' hq => wpAny_pure (wpAny_pure hq)) fun _ _ e => e)
  obtain ⟨⟨g1, tk1, rfl⟩, z, TI, TO, i1, i2, rfl, D0, hst, F, N, hw⟩ := h₁
  refine wpAny_pyIter_zip hst.1 ?_
  refine block_Z hh D0 hn hsz hcell hkind hx hx₂ hxx hst F N hw hl1 hl2 (V := V) (turn z TI TO i1 i2) ?_
  intro D C h' tk m' vs F' N' oD hn' hC₀ hCL hCD offC hlen hV
  show wpAny _ A (assign (.Name y py) env (.ref D)) _ _ _
  refine wpAny_assign_Name (wpAny_storeName_local hy F'.ns (fun h₂ hn₂ hs₂ => ?_) hp)
  have hL₀ : h₀.get? env.locals = none := Heap.get?_none_of_le F'.above
  have F₂ : Fr h₀ env.locals h₂ (fun z => if z = y then some (.ref D) else m z) := ⟨hn₂, fun b o e => hs₂.extBut b o (fun q => by rw [q, hL₀] at e; cases e) (F'.keep b o e), F'.above⟩
  refine ⟨m', hn'.sameBut hs₂ hCL, fun h'' hs'' => done D h'' _ vs (F₂.change hs'' hCL hC₀) (fun p hp => ?_) oD hlen hV⟩
  have z : h₂.get? p.1 = some p.2 := hs₂.extBut _ _ (N' p hp).2.1 (N' p hp).1
  refine ⟨hs''.extBut _ _ ?_ z, (N' p hp).2⟩
  rcases List.mem_cons.mp hp with rfl | hp
  · exact Ne.symm hCD
  · exact offC p hp

/-- enter a function whose scope keeps cells; all stands as it stood -/
theorem enterC0 {K : Frag} {p : Program} {loose : List Str} {mean : ExcName → Option Value} {mg mb : Str → Option Value}
    {name qual : Str} {params : Arguments} {body : List Stmt} {scope : Scope} {dV kV doc pm cdv ct oc : Value} {an od : Option Addr} {osl : Array (Option Value)} {f : Addr} {args : Args} {binds : List (Str × Value)} {R : Result → Shared → Prop}
    (G : Gr K p loose mean mg mb h₀) (k : h₀.StaysIn s.heap)
    (ho : K.lookup f = some ⟨oc, od, .func (fnOf name qual params body scope dV kV doc pm an cdv ct), osl⟩) (hcd : codeIn K cdv qual = true) (hroom : A.depth < recursionLimit)
    (hbind : BindsTo s (fnOf name qual params body scope dV kV doc pm an cdv ct) args binds) (hkind : (binds.all fun y => scope.names.lookup y.1 == some .local || scope.names.lookup y.1 == some .cell) = true)
    (hnd : ((cellsFrom 0 scope.names []).map (·.1)).Nodup)
    (h : ∀ g L' h₁ tk cells, g = s.heap → Gr K p loose mean mg mb g → Fr g L' h₁ (bindL (envOfC qual scope L' f cdv).kindOf binds fun _ => none) → News g L' h₁ cells →
      CellsAre (bindC (envOfC qual scope L' f cdv).kindOf binds fun _ => none) (cellsFrom (L' + 1) scope.names []) cells →
      wpAny (model prog w) (A.deeper (envOfC qual scope L' f cdv)) (execs body (envOfC qual scope L' f cdv))
        (fun fl s' => R (.ok (.ret (match fl with | .ret v => v | _ => .none))) s') (fun _ _ => False) { s with heap := h₁, toks := tk })
    (hco : scope.isCoroutine = false) (hgen : scope.isGenerator = false) (hk : scope.kind = .function) :
    codeAny (model prog w) A (.call (.ref f) args) R s := by
  refine codeAny_call_function hroom (k _ _ (G.X _ _ ho)) rfl hco hgen rfl ((codeRec_of G.X hcd).keeps k) (hbind _ _ _ _ ?_)
  refine wpAny_newFunctionEnv_cells hk (kindsX hkind _) fun env' he s' x => ?_
  subst he
  refine ⟨(G.T.nolimit.keeps k).keeps x.toInCall.keep, codeAny_func ?_⟩
  obtain ⟨h₁, tk, rfl, _⟩ := x.done
  have hk₁ := x.toInCall.keep
  obtain ⟨cells, NC, Y⟩ := Cl.news (h₀ := s.heap) (Nat.le_refl _) fun n c hm => ⟨x.cell n c (lookup_of_mem_nodup (cellsFrom_names scope.names 0 (s.heap.objs.size + 1) [] [] rfl ▸ hnd) hm), x.above n c hm⟩
  exact wpAny_mono (h s.heap s.heap.objs.size h₁ tk cells rfl (G.keeps k) ⟨x.toInCall.ns, fun b o e => hk₁ b o e, Nat.le_refl _⟩ NC Y) (fun fl s' hl => hl) fun _ _ y => y.elim
end
end
section
open PySem PySem.W PySem.Calls PyProof.Rows
open AutoSeq1 (wpAny_loadPart')
theorem zip_made {h2 : Heap} {I1 I2 l l₂ : Addr} {xs ys : Array Value} (hI1 : h2.IsListIter I1 l 0) (hI2 : h2.IsListIter I2 l₂ 0) (hl : h2.IsList l xs) (hl₂ : h2.IsList l₂ ys)
    (n1 : I1 ≠ I2) (n2 : l ≠ I1) (n3 : l ≠ I2) (n4 : l₂ ≠ I1) (n5 : l₂ ≠ I2) {H3 H4 H5 : Heap} (e3 : H3 = h2.push { cls := .type "tuple", data := .seq #[.ref I1, .ref I2] })
    (e4 : H4 = H3.push { cls := .type "tuple", data := .seq #[.none, .none] }) (e5 : H5 = H4.push { cls := .type "zip", data := .fields #[.none, .bool false, .bool false, .ref h2.objs.size, .ref H3.objs.size] }) :
    ZipApart H4.objs.size h2.objs.size H3.objs.size I1 I2 l l₂ ∧ ZSt H4.objs.size h2.objs.size H3.objs.size I1 I2 l l₂ xs ys 0 H5 ∧ h2.StaysIn H5 ∧ H3.objs.size = h2.objs.size + 1 ∧ H4.objs.size = h2.objs.size + 2 := by
  have s3 : H3.objs.size = h2.objs.size + 1 := by rw [e3]; exact Heap.size_push ..
  have s4 : H4.objs.size = h2.objs.size + 2 := by rw [e4, Heap.size_push, s3]
  have k3 : h2.StaysIn H3 := fun b o e => by rw [e3]; exact Heap.get?_push_of_some _ e
  have k4 : H3.StaysIn H4 := fun b o e => by rw [e4]; exact Heap.get?_push_of_some _ e
  have k5 : H4.StaysIn H5 := fun b o e => by rw [e5]; exact Heap.get?_push_of_some _ e
  have k : h2.StaysIn H5 := fun b o e => k5 _ _ (k4 _ _ (k3 _ _ e))
  have q1 : @LT.lt Nat _ I1 h2.objs.size := by obtain ⟨_, e, _⟩ := hI1; exact Heap.lt_size e
  have q2 : @LT.lt Nat _ I2 h2.objs.size := by obtain ⟨_, e, _⟩ := hI2; exact Heap.lt_size e
  have q3 : @LT.lt Nat _ l h2.objs.size := by obtain ⟨_, e, _⟩ := hl; exact Heap.lt_size e
  have q4 : @LT.lt Nat _ l₂ h2.objs.size := by obtain ⟨_, e, _⟩ := hl₂; exact Heap.lt_size e
  refine ⟨⟨?_, ?_, ?_, ?_, ?_, ?_, ?_, ?_, ?_, n1, ?_, ?_, n2, n3, ?_, ?_, n4, n5⟩, ⟨?_, ?_, ⟨.none, .none, ?_⟩, hI1.at fun o e => k _ _ e, hI2.at fun o e => k _ _ e, hl.at fun o e => k _ _ e, hl₂.at fun o e => k _ _ e⟩, k, s3, s4⟩
  any_goals (refine neN ?_; omega)
  · show H5.get? _ = some _
    rw [e5]; exact Heap.get?_push_size _ rfl
  · exact k5 _ _ (k4 _ _ (by rw [e3]; exact Heap.get?_push_size _ rfl))
  · exact k5 _ _ (by rw [e4]; exact Heap.get?_push_size _ rfl)
section
variable {w : World} {p : Program} {loose : List Str} {mean : ExcName → Option Value} {mg mb : Str → Option Value} {h₀ g : Heap} {s : Shared} {dp un : Nat} {fr : Option (List Env)} {gd : Option (List Code)} {Q E : Value → Shared → Prop} {L : Addr} {m : Str → Option Value}

theorem poly_zip {x l y l₂ : Addr} {vs vs₂ : List Value} (G : Gr (hd.heap_39 w.params) p loose mean mg mb g) (F : Fr g L s.heap m) (hroom : dp + 1 < recursionLimit)
    (P : PolyL s.heap x l vs) (P₂ : PolyL s.heap y l₂ vs₂)
    (h : ∀ h' tk' z TI TO i1 i2, s.heap.StaysIn h' → (∀ b ∈ [z, TI, TO, i1, i2], s.heap.get? b = none) → ZipApart z TI TO i1 i2 l l₂ → ZSt z TI TO i1 i2 l l₂ vs.toArray vs₂.toArray 0 h' → Q (.ref z) { s with heap := h', toks := tk' }) :
    wpAny (model Challenge.rw_bj0060_01.row.prog w) (aTop dp un fr gd) (call (.type "zip") [.ref x, .ref y]) Q E s := by
  have P0 := P
  have P02 := P₂
  obtain ⟨dx, hsh, tk, n, c, e1, e2, e3⟩ := P
  refine callType_codes (Q₁ := fun obj s₁ => s₁.TypeIs obj "zip" ∧ Q obj s₁) PySem.F.called_zip (PySem.F.typeCall_zip_2 _ _) PySem.F.entry_object_init ?hnew ?hnext
  case hnext =>
    intro obj s₁ hq
    refine ⟨hq.1, PySem.F.args_object_init_3 obj _ _, ?_⟩
    exact object_init_meets PySem.F.called_zip.init.lookup PySem.F.called_zip.made (by decide) _ _ _ _ _ ⟨hq.1, rfl, hq.2⟩
  case hnew =>
    refine codeAny_call_builtin PySem.F.called_zip.plain PySem.F.entry_zip_new (wpAny_of_eq (PySem.F.newCall_zip_2 _ _) ?_)
    have hsub := sub_zip
    obtain ⟨hp, ge, d, tk, os⟩ := s
    have pit : ∀ {Q' : Value → Shared → Prop} {E' : Value → Shared → Prop}, (∀ h' tk' I, hp.StaysIn h' → hp.get? I = none → h'.IsListIter I l 0 → Q' (.ref I) ⟨h', ge, d, tk', os⟩) →
        wpAny (model Challenge.rw_bj0060_01.row.prog w) (aTop dp un fr gd).in1.in1 (pyIter (.ref x)) Q' E' ⟨hp, ge, d, tk, os⟩ := fun z => poly_pyIter G F hroom P0 z
    wp_walk using wpAny_loadPart' e1, pit
    intro h1 tk1 I1 k1 f1 hI1
    have pit2 : ∀ {Q' : Value → Shared → Prop} {E' : Value → Shared → Prop}, (∀ h' tk' I, h1.StaysIn h' → h1.get? I = none → h'.IsListIter I l₂ 0 → Q' (.ref I) ⟨h', ge, d, tk', os⟩) →
        wpAny (model Challenge.rw_bj0060_01.row.prog w) (aTop dp un fr gd).in1.in1 (pyIter (.ref y)) Q' E' ⟨h1, ge, d, tk1, os⟩ := fun z => poly_pyIter (s := ⟨h1, ge, d, tk1, os⟩) G (F.keeps k1) hroom (P02.keeps k1) z
    wp_walk using pit2
    intro h2 tk2 I2 k2 f2 hI2
    wp_walk
    have k2' : hp.StaysIn h2 := fun b o e => k2 _ _ (k1 _ _ e)
    have hI1' : h2.IsListIter I1 l 0 := hI1.at fun o e => k2 _ _ e
    have ex : ∀ {h : Heap} {a b : Addr}, h.get? a = none → (∃ o, h.get? b = some o) → b ≠ a := fun e1 ⟨o, e2⟩ e => by rw [e, e1] at e2; cases e2
    have gl : ∃ o, hp.get? l = some o := ⟨_, e3⟩
    have gl2 : ∃ o, hp.get? l₂ = some o := by obtain ⟨_, e, _⟩ := P02.isList; exact ⟨_, e⟩
    have up : ∀ {b : Addr}, (∃ o, hp.get? b = some o) → ∃ o, h1.get? b = some o := fun ⟨o, e⟩ => ⟨o, k1 _ _ e⟩
    obtain ⟨D, Z, kk, s3, s4⟩ := zip_made hI1' hI2 ((P0.keeps k2').isList) ((P02.keeps k2').isList)
      (ex f2 (by obtain ⟨o, e, _⟩ := hI1; exact ⟨o, e⟩)) (ex f1 gl) (ex f2 (up gl)) (ex f1 gl2) (ex f2 (up gl2)) rfl rfl rfl
    refine ⟨⟨_, Heap.get?_push_size _ rfl, rfl⟩, ?_⟩
    refine h _ _ _ _ _ I1 I2 (fun b o e => kk _ _ (k2' _ _ e)) ?_ D Z
    intro b hb
    have big : ∀ a : Nat, h2.objs.size ≤ a → hp.get? a = none := fun a ha => by
      cases e : hp.get? a with
      | none => rfl
      | some o => exact absurd (Heap.lt_size (k2' _ _ e)) (Nat.not_lt.mpr ha)
    simp only [List.mem_cons, List.not_mem_nil, or_false] at hb
    rcases hb with rfl | rfl | rfl | rfl | rfl
    · exact big _ (Nat.le_trans (Nat.le_add_right _ 2) (Nat.le_of_eq s4.symm))
    · exact big _ (Nat.le_refl _)
    · exact big _ (Nat.le_trans (Nat.le_add_right _ 1) (Nat.le_of_eq s3.symm))
    · exact f1
    · cases e : hp.get? b with
      | none => rfl
      | some o => rw [k1 _ _ e] at f2; cases f2
end
end
section
/-- one step of the remainder by logarithms -/
def pstrip (a d : List Nat) : List Nat := (List.range d.length).map (fun i => a.getD i 0 ^^^ gx ((lg (d.getD i 0) : Int) + ((lg (a.getD 0 0) : Int) - (lg (d.getD 0 0) : Int)))) ++ a.drop d.length
def pmod : Nat → List Nat → List Nat → List Nat
  | 0, a, _ => a
  | f + 1, a, d => if a.length < d.length then a else pmod f (least (pstrip a d)) d
theorem pstrip_len {a d : List Nat} (h : d.length ≤ a.length) : (pstrip a d).length = a.length := by
  rw [pstrip, List.length_append, List.length_map, List.length_range, List.length_drop]
  omega
theorem getD_lt {l : List Nat} {i : Nat} {n : Nat} (h : ∀ x ∈ l, x < n) (hn : 0 < n) : l.getD i 0 < n := by
  rw [List.getD_eq_getElem?_getD]
  cases e : l[i]? with
  | none => exact hn
  | some x => exact h x (List.mem_of_getElem? e)
theorem Small.of {l : List Nat} (h : ∀ x ∈ l, x < 256) : Small l := fun i => getD_lt h (by decide)
theorem Small.mem {l : List Nat} (h : Small l) : ∀ x ∈ l, x < 256 := fun x hx => by
  obtain ⟨i, hi, rfl⟩ := List.getElem_of_mem hx
  have := h i
  rw [List.getD_eq_getElem?_getD, List.getElem?_eq_getElem hi] at this
  exact this
theorem pstrip_small {a d : List Nat} (h : Small a) : Small (pstrip a d) := by
  refine Small.of fun x hx => ?_
  rcases List.mem_append.mp hx with hx | hx
  · obtain ⟨i, _, rfl⟩ := List.mem_map.mp hx
    exact xor_lt (n := 8) (h i) (gx_lt _)
  · exact h.mem x (List.mem_of_mem_drop hx)
theorem least_mem : ∀ {l : List Nat} {x : Nat}, x ∈ least l → x ∈ l
  | [], _, h => h
  | [_], _, h => h
  | y :: z :: r, x, h => by
    unfold least at h
    split at h
    · exact List.mem_cons_of_mem _ (least_mem h)
    · exact h
theorem least_small {l : List Nat} (h : Small l) : Small (least l) := Small.of fun x hx => h.mem x (least_mem hx)
theorem least_le : ∀ l : List Nat, (least l).length ≤ l.length
  | [] => Nat.le_refl _
  | [_] => Nat.le_refl _
  | y :: z :: r => by
    unfold least
    split
    · exact Nat.le_trans (least_le (z :: r)) (Nat.le_succ _)
    · exact Nat.le_refl _
theorem least_ne : ∀ {l : List Nat}, l ≠ [] → 1 ≤ (least l).length
  | [], h => absurd rfl h
  | [_], _ => Nat.le_refl _
  | y :: z :: r, _ => by
    unfold least
    split
    · exact least_ne (List.cons_ne_nil _ _)
    · exact Nat.succ_le_succ (Nat.zero_le _)
/-- the head of the least row is no nought, but for a row of one -/
theorem least_head : ∀ {l : List Nat}, 2 ≤ (least l).length → (least l).getD 0 0 ≠ 0
  | [], h => absurd h (by decide)
  | [_], h => absurd h (by decide : ¬ 2 ≤ 1)
  | y :: z :: r, h => by
    unfold least at h ⊢
    split
    · rename_i e
      rw [if_pos e] at h
      exact least_head h
    · assumption
theorem least_less {l : List Nat} (h : 2 ≤ l.length) (h0 : l.getD 0 0 = 0) : (least l).length < l.length := by
  match l, h, h0 with
  | y :: z :: r, _, h0 =>
    have h0 : y = 0 := h0
    unfold least
    rw [if_pos h0]
    exact Nat.lt_succ_of_le (least_le _)
theorem gx_lg {a : Nat} (h1 : a ≠ 0) (h2 : a < 256) : gx (lg a : Nat) = a := by
  obtain ⟨e1, e2⟩ := lg_at h1 h2
  have e : ((lg a : Int).fmod 255).toNat = lg a := by rw [Int.fmod_eq_emod_of_nonneg _ (by decide)]; omega
  rw [gx_at, e, e2]
theorem pstrip_head {a d : List Nat} (hd : d ≠ []) (h0 : a.getD 0 0 ≠ 0) (hs : Small a) : (pstrip a d).getD 0 0 = 0 := by
  obtain ⟨n, hn⟩ : ∃ n, d.length = n + 1 := ⟨d.length - 1, by have := List.length_pos_iff.mpr hd; omega⟩
  have e : (pstrip a d).getD 0 0 = a.getD 0 0 ^^^ gx ((lg (d.getD 0 0) : Int) + ((lg (a.getD 0 0) : Int) - (lg (d.getD 0 0) : Int))) := by
    rw [pstrip, hn, List.range_succ_eq_map, List.map_cons, List.cons_append]
    rfl
  rw [e]
  have : (lg (d.getD 0 0) : Int) + ((lg (a.getD 0 0) : Int) - (lg (d.getD 0 0) : Int)) = (lg (a.getD 0 0) : Nat) := by omega
  rw [this, gx_lg h0 (hs 0), Nat.xor_self]
theorem getD_map_range (f : Nat → Nat) (n i : Nat) (h : i < n) : ((List.range n).map f)[i]? = some (f i) := by
  rw [List.getElem?_map, List.getElem?_range h]; rfl
theorem least_nz : ∀ {ns : List Nat}, (∃ i, ns.getD i 0 ≠ 0) → (least ns).getD 0 0 ≠ 0
  | [], ⟨i, h⟩ => absurd (by cases i <;> rfl) h
  | [x], ⟨i, h⟩ => by
    cases i with
    | zero => exact h
    | succ i => exact absurd rfl h
  | x :: y :: r, ⟨i, h⟩ => by
    unfold least
    by_cases e : x = 0
    · rw [if_pos e]
      cases i with
      | zero => exact absurd e h
      | succ i => exact least_nz ⟨i, h⟩
    · rw [if_neg e]; exact e
theorem row_facts {ns : List Nat} {sh : Nat} (h1 : 1 ≤ ns.length) (h9 : ns.length ≤ 9) (hs : Small ns) (hnz : ∃ i, ns.getD i 0 ≠ 0) (hsh : sh < 9) :
    1 ≤ (least ns ++ List.replicate sh 0).length ∧ (least ns ++ List.replicate sh 0).length ≤ 20 ∧ Small (least ns ++ List.replicate sh 0) ∧ (least ns ++ List.replicate sh 0).getD 0 0 ≠ 0 := by
  have a := least_le ns
  have b := least_ne (l := ns) (List.ne_nil_of_length_pos h1)
  refine ⟨by rw [List.length_append]; omega, by rw [List.length_append, List.length_replicate]; omega, Small.of fun x hx => ?_, ?_⟩
  · rcases List.mem_append.mp hx with hx | hx
    · exact hs.mem x (least_mem hx)
    · rw [List.eq_of_mem_replicate hx]; decide
  · have := least_nz hnz
    rw [List.getD_eq_getElem?_getD, List.getElem?_append_left (by omega), ← List.getD_eq_getElem?_getD]
    exact this
end
section
open PySem PySem.W PySem.Calls PyProof.Rows
local macro_rules | `(tactic| k_inst) => `(tactic| exact instUp (by assumption) (Fr.keep (by k_asm)))
local macro_rules | `(tactic| walk_at "BJ.in") => `(tactic| (
  (case ho => k_is); (case hcd => k_is); (case hb => exact BindsTo.of_eq rfl); (case hloc => exact locs rfl); (case c1 => exact rfl); (case c2 => exact rfl); (case c3 => exact rfl); (case c4 => decide)))
section
variable {prog : Program} {w : World} {A : Around} {E : Value → Shared → Prop} {s : Shared} {h₀ : Heap} {L l sl : Addr} {m : Str → Option Value} {news : List (Addr × Obj)} {value slice : PySem.Expr} {its : Array Value} {zs : List Value} {vl vu : Value} {lo hi : Option Int} {Q : Value → Shared → Prop}
theorem subOps {o i : Value} {T id : String} {ops : List Value} (hT : s.TypeIs o T)
    (hl : typeLookup (.type T) "__getitem__" = pure (some (.builtin id))) (h : wpAny (model prog w) A (getItem o i) Q E s)
    (hs : subscripted slice false o i = operate ops (getItem o i)) :
    wpAny (model prog w) A (subscriptTail value slice o i) Q E s := by
  unfold subscriptTail
  refine wpAny_bind ?_
  rw [getitemInPython_of_ne hT.not_modules]
  refine wpAny_bind (wpAny_specialOf hT hl ?_)
  have fin : wpAny (model prog w) A (subscripted slice false o i) (fun r s₃ => wpAny (model prog w) A (letTemporaryGo value o r >>= fun _ => pure r) Q E s₃) E s := by
    rw [hs]
    exact wpAny_operating (wpAny_mono h (fun r s₃ h₃ => wpAny_bind (wpAny_letTemporaryGo (wpAny_pure h₃))) fun _ _ x => x)
  first
    | exact wpAny_pure (wpAny_bind fin)
    | exact wpAny_bind (wpAny_pure (wpAny_bind fin))
    | exact wpAny_bind fin
theorem sub_sliceK {K : Frag} {x C f : Addr} {ox : Obj} {od : Option Obj} {i : Value} {lower upper : Option Expr} {ps : Pos} (F : Fr h₀ L s.heap m) (X₀ : K.In h₀) (I : PySem.W.InstAt s.heap x ox C od) (hq : noSeq K C = true) (hs : findIn K (.ref C) "__getitem__" = some (some (.ref f))) (hf : fnIn K f = true) (hfn : isFn K (.ref f) = true)
    (h : wpAny (model prog w) A (call (.ref f) [.ref x, i]) Q E s) :
    wpAny (model prog w) A (subscriptTail value (.Slice lower upper none ps) (.ref x) i) Q E s := by
  have X := X₀.keeps F.keep
  unfold fnIn at hf
  split at hf
  · rename_i e
    unfold subscriptTail getitemInPython
    refine wpAny_bind (wpAny_bind (wpAny_bind (I.type.here ((looks_findIn X hs).here ?_))))
    dsimp only
    refine wpAny_bind (wpAny_load (X _ _ e) (wpAny_pure ?_))
    dsimp only
    show wpAny _ _ (operate [i, .ref x] (getItem (.ref x) i) >>= _) _ _ _
    refine wpAny_bind (wpAny_operating (getItem_K F X₀ I hq hs hfn (wpAny_mono h (fun v s' z => ?_) fun _ _ z => z)))
    exact wpAny_bind (wpAny_letTemporaryGo (wpAny_pure z))
  · cases hf
theorem sub_slice (F : Fr h₀ L s.heap m) (hl : s.heap.IsList l its) (hs : s.heap.IsSliceOf sl vl vu .none) (pl : IsPart vl lo) (pu : IsPart vu hi) (e : kms_pick its.toList lo hi = zs)
    (h : ∀ D h', Fr h₀ L h' m → s.heap.StaysIn h' → s.heap.get? D = none → h'.get? D = some (listOf zs.toArray 0) → Q (.ref D) { s with heap := h' })
    (hsub : subscripted slice false (.ref l) (.ref sl) = operate [.ref l, .ref sl] (getItem (.ref l) (.ref sl))) (hz : its.size ≤ sizeLine) :
    wpAny (model prog w) A (subscriptTail value slice (.ref l) (.ref sl)) Q E s := by
  refine subOps (Heap.IsList.typeIs hl) list_getitem_lookup
    (wpAny_getItem_list_slice hl hs pl pu .none (by simp) ?_ hz) hsub
  subst e
  rw [kms_pick_eq]
  refine h _ _ (F.push _) (fun b o e => Heap.get?_push_of_some _ e) ?_ (Heap.get?_push_size _ rfl)
  cases q : s.heap.get? s.heap.objs.size with
  | none => rfl
  | some o => exact absurd (Heap.lt_size q) (Nat.lt_irrefl _)
end
section
variable {w : World} {p : Program} {loose : List Str} {mean : ExcName → Option Value} {mg mb : Str → Option Value} {h₀ : Heap} {s : Shared} {dp un : Nat} {fr : Option (List Env)} {gd : Option (List Code)} {Q E : Value → Shared → Prop}
local macro_rules | `(tactic| walk_at "subscriptTail") => `(tactic| refine Stop.out ?_)
local macro_rules | `(tactic| walk_at "subscriptTail Attribute") => `(tactic| refine Stop.out ?_)
local macro_rules | `(tactic| walk_at "subscriptTail Attribute Name ref ref") => `(tactic| refine Stop.out ?_)
/-- a slice from the d-th place ahead of the end -/
theorem get_slice {x sl : Addr} {l : Addr} {vs : List Value} {d : Nat} {td : Tok} (G : Gr (hd.heap_39 w.params) p loose mean mg mb h₀) (k : h₀.StaysIn s.heap) (hroom : dp + 1 < recursionLimit)
    (P : PolyL s.heap x l vs) (hn : vs.length < 1000) (hd1 : 0 < d) (hd2 : d ≤ vs.length) (hs : s.heap.IsSliceOf sl (.int (-(d : Int)) td) .none .none)
    (h : ∀ h' tk' D, s.heap.StaysIn h' → s.heap.get? D = none → h'.get? D = some (listOf (vs.drop (vs.length - d)).toArray 0) → Q (.ref D) { s with heap := h', toks := tk' }) :
    wpAny (model Challenge.rw_bj0060_01.row.prog w) (aTop dp un fr gd) (call (.ref 51) [.ref x, .ref sl]) Q E s := by
  obtain ⟨dx, hsh, tk, n, c, e1, e2, e3⟩ := P
  have I : PySem.W.InstAt s.heap x (instObj 80 dx) 80 (some (dictOf [⟨hsh, .str "num" tk, .ref l⟩] n)) := ⟨e1, rfl, rfl, e2⟩
  have hl : s.heap.IsList l vs.toArray := ⟨_, e3, rfl, c, rfl⟩
  revert G
  k_fill
  intro G
  refine wpAny_call ?_
  refine' enter0 (binds := [(Str.ofString "self", .ref x), (Str.ofString "index", .ref sl)]) G k ?ho ?hcd ?hroom ?hb ?hloc ?body ?c1 ?c2 ?c3 ?c4
  walk_at "BJ.in"
  case hroom => show dp < _; omega
  case body =>
    rintro g L' h₁ rfl G' F N
    have X := G'.X
    have T := G'.T
    dsimp only
    k_steps
    refine Stop.mk ?_
    (with_reducible rename Fr _ _ _ _ => F1)
    refine' sub_slice (zs := vs.drop (vs.length - d)) ?q0 ?q1 ?q2 (IsPart.int (-(d : Int)) td) IsPart.none ?q6 ?_ ?q3 ?q5
    case q0 => exact F1
    case q1 => exact hl.at fun o e => F1.keep _ _ e
    case q2 => obtain ⟨o, a, b⟩ := hs; exact ⟨o, F1.keep _ _ a, b⟩
    case q3 => with_unfolding_all rfl
    case q5 => rw [List.size_toArray]; exact Nat.le_trans (Nat.le_of_lt hn) (by decide)
    case q6 =>
      unfold kms_pick kms_lo kms_hi
      dsimp only
      rw [if_pos (by omega)]
      have e1 : (-(-(d : Int))).toNat = d := by omega
      rw [e1]
      exact List.take_of_length_le (by rw [List.length_drop]; exact Nat.le_refl _)
    intro D h2 F2 k2 f2 hD
    dsimp only
    k_steps
    refine h _ _ D (fun b o e => k2 _ _ (F1.keep _ _ e)) ?_ hD
    cases e : s.heap.get? D with
    | none => rfl
    | some o => have := F1.keep _ _ e; rw [f2] at this; cases this
end
end
section
open PySem PySem.W PySem.Calls PyProof.Rows
local macro_rules | `(tactic| k_inst) => `(tactic| exact instUp (by assumption) (Fr.keep (by k_asm)))
local macro_rules | `(tactic| walk_at "BJ.eqN") => `(tactic| first | (with_reducible assumption) | (with_reducible rfl) | exact toN (by omega))
local macro_rules | `(tactic| walk_at "BJ.after") => `(tactic| (intro h9 tk9 t9 hk9; (with_reducible rename Fr _ _ _ _ => kF); (with_reducible rename News _ _ _ _ => kN); have kF9 := Fr.keeps kF hk9; have kN9 := News.keepsAll kN hk9; (try k_sweep); clear hk9; (try dsimp only)))
local macro_rules | `(tactic| walk_at "BJ.room") => `(tactic| (dsimp only [Around.deeper]; omega))
local macro_rules | `(tactic| walk_at "call ref") => `(tactic| (
  (with_reducible show wpAny _ _ (PySem.call (Value.ref 23) _ _) _ _ _);
  (refine' glog_specN ?G ?k ?hr ?a1 ?a2 ?a3 ?_; (case k => exact Fr.keep (by k_asm)); (case G => assumption); (case hr => walk_at "BJ.room"); (case a1 => walk_at "BJ.eqN"); (case a2 => first | assumption | omega); (case a3 => first | assumption | omega));
  walk_at "BJ.after"))
local macro_rules | `(tactic| walk_at "call ref") => `(tactic| (
  (with_reducible show wpAny _ _ (PySem.call (Value.ref 30) _ _) _ _ _);
  (refine' gexp_spec ?G ?k ?hr ?a1 ?a2 ?_; (case k => exact Fr.keep (by k_asm)); (case G => assumption); (case hr => walk_at "BJ.room"); (case a1 => omega); (case a2 => omega));
  walk_at "BJ.after"))
local macro_rules | `(tactic| walk_at "call ref") => `(tactic| (
  (with_reducible show wpAny _ _ (PySem.call (Value.ref 51) [Value.ref _, Value.int 0 _] _) _ _ _);
  (refine' get_spec (i := 0) ?G ?k ?hr (PolyAt.keeps (by assumption) (Fr.keep (by k_asm))) ?a1 ?a2 ?_; (case k => exact Fr.keep (by k_asm)); (case G => assumption); (case hr => walk_at "BJ.room"); (case a1 => omega); (case a2 => omega));
  walk_at "BJ.after"))
local macro_rules | `(tactic| walk_at "call builtin:len") => `(tactic| (
  (with_reducible show wpAny _ _ (PySem.call (Value.builtin "len") [Value.ref _]) _ _ _);
  (with_reducible rename Fr _ _ _ _ => kF0);
  (refine' poly_len ?G kF0 ?hr (PolyAt.keeps (by assumption) (Fr.keep kF0)) ?a1 ?_; (case G => assumption); (case hr => walk_at "BJ.room"); (case a1 => omega));
  walk_at "BJ.after"))
local macro_rules | `(tactic| walk_at "call builtin:len") => `(tactic| refine Stop.out ?_)
local macro_rules | `(tactic| walk_at "exec Assign cons ListComp") => `(tactic| refine Stop.out ?_)
local macro_rules | `(tactic| walk_at "BJ.in") => `(tactic| (
  (case ho => k_is); (case hcd => k_is); (case hb => exact BindsTo.of_eq rfl); (case c1 => exact rfl); (case c2 => exact rfl); (case c3 => exact rfl)))
local macro_rules | `(tactic| walk_at "BJ.len") => `(tactic| (
        refine Stop.mk ?_;
        (with_reducible rename Fr _ _ _ _ => kF0);
        (refine' poly_len ?G kF0 ?hr (PolyAt.keeps (by assumption) (Fr.keep kF0)) ?a1 ?_; (case G => assumption); (case hr => walk_at "BJ.room"); (case a1 => omega));
        walk_at "BJ.after"))
theorem fresh_push {h : Heap} {o : Obj} {D : Addr} (e : (h.push o).get? D = none) : h.get? D = none := by
  cases q : h.get? D with
  | none => rfl
  | some o' => rw [Heap.get?_push_of_some _ q] at e; cases e
theorem nums_at {vs : List Value} {ns : List Nat} {i : Nat} {v : Value} (h : Nums vs ns) (e : vs.toArray[i]? = some v) : i < ns.length ∧ ∃ t, v = .int (ns.getD i 0 : Nat) t := by
  have e : vs[i]? = some v := by simpa using e
  have hl : vs.length = ns.length := by have := h.length; rw [List.length_map] at this; exact this
  have hi : i < ns.length := by rw [← hl]; exact (List.getElem?_eq_some_iff.mp e).1
  obtain ⟨t, ht⟩ := h.get i ((ns.getD i 0 : Nat) : Int) (by rw [List.getElem?_map, List.getD_eq_getElem?_getD, List.getElem?_eq_getElem hi]; rfl)
  rw [e] at ht
  exact ⟨hi, t, Option.some.inj ht⟩
theorem nums_of : ∀ {n : Nat} {vs : List Value} {f : Nat → Nat}, vs.length = n → (∀ i, i < n → ∃ v, vs[i]? = some v ∧ ∃ t, v = Value.int (f i : Nat) t) → Nums vs ((List.range n).map f)
  | 0, [], _, _, _ => .nil
  | n + 1, v :: vs, f, hl, h => by
    obtain ⟨v', e, t, rfl⟩ := h 0 (Nat.succ_pos _)
    have e : v = .int (f 0 : Nat) t := by simpa using e
    subst e
    rw [List.range_succ_eq_map, List.map_cons, List.map_map]
    refine .cons _ _ ?_
    refine nums_of (f := f ∘ Nat.succ) (Nat.succ.inj hl) fun i hi => ?_
    obtain ⟨v', e, t, rfl⟩ := h (i + 1) (Nat.succ_lt_succ hi)
    exact ⟨_, by simpa using e, t, rfl⟩
local macro_rules | `(tactic| walk_at "subscriptTail Name Slice ref ref") => `(tactic| refine Stop.out ?_)
local macro_rules | `(tactic| walk_at "binaryOp Mod") => `(tactic| ((with_reducible show wpAny _ _ (binaryOp _ (Value.ref _) (Value.ref _)) _ _ _); refine Stop.out ?_))
local macro_rules | `(tactic| walk_at "call builtin:list.extend") => `(tactic| refine Stop.out ?_)
local macro_rules | `(tactic| walk_at "call ref") => `(tactic| ((with_reducible show wpAny _ _ (PySem.call (Value.ref 80) _ _) _ _ _); refine Stop.out ?_))
section
variable {w : World} {p : Program} {loose : List Str} {mean : ExcName → Option Value} {mg mb : Str → Option Value}
theorem mod_spec (d : List Nat) (hn₂ : 2 ≤ d.length) (hm₂ : d.length < 100) (hb₂ : Small d) (hz₂ : ∀ i, i < d.length → d.getD i 0 ≠ 0) : ∀ (f : Nat) {h₀ : Heap} {s : Shared} {dp un : Nat} {fr : Option (List Env)} {gd : Option (List Code)} {Q E : Value → Shared → Prop} {x y : Addr} {a : List Nat}
    (G : Gr (hd.heap_39 w.params) p loose mean mg mb h₀) (k : h₀.StaysIn s.heap) (hroom : dp + f + 4 < recursionLimit)
    (P₁ : PolyNew h₀ s.heap x a) (hn₁ : 1 ≤ a.length) (hm₁ : a.length < 100) (hb₁ : Small a) (hz₁ : 2 ≤ a.length → a.getD 0 0 ≠ 0) (hf : a.length ≤ f)
    (P₂ : PolyAt s.heap y d)
    (h : ∀ h' tk' z, s.heap.StaysIn h' → PolyNew h₀ h' z (pmod f a d) → Q (.ref z) { s with heap := h', toks := tk' }),
    wpAny (model Challenge.rw_bj0060_01.row.prog w) (aTop dp un fr gd) (call (.ref 77) [.ref x, .ref y]) Q E s := by
  intro f
  induction f with
  | zero => intros; omega
  | succ f ih =>
    intro h₀ s dp un fr gd Q E x y a G k hroom P₁ hn₁ hm₁ hb₁ hz₁ hf P₂ h
    obtain ⟨lx, vsx, Px, hvx⟩ := P₁.at
    have P₁a := P₁.at
    obtain ⟨ly, vsy, Py, hvy⟩ := id P₂
    obtain ⟨dx, hshx, tkx, nx, cx, ex1, ex2, ex3⟩ := id Px
    obtain ⟨dy, hshy, tky, ny, cy, ey1, ey2, ey3⟩ := id Py
    have Ix : PySem.W.InstAt s.heap x (instObj 80 dx) 80 (some (dictOf [⟨hshx, .str "num" tkx, .ref lx⟩] nx)) := ⟨ex1, rfl, rfl, ex2⟩
    have Iy : PySem.W.InstAt s.heap y (instObj 80 dy) 80 (some (dictOf [⟨hshy, .str "num" tky, .ref ly⟩] ny)) := ⟨ey1, rfl, rfl, ey2⟩
    revert G
    k_fill
    intro G
    refine wpAny_call ?_
    refine' enterC0 (binds := [(Str.ofString "self", .ref x), (Str.ofString "other", .ref y)]) G k ?ho ?hcd ?hroom ?hb ?hkd ?hnd ?body ?c1 ?c2 ?c3
    walk_at "BJ.in"
    case hroom => show dp < _; omega
    case hkd => exact rfl
    case hnd => decide +kernel
    case body =>
      rintro g L' h₁ tk₁ cells rfl G' F N Y
      have X := G'.X
      have T := G'.T
      have hY := CellsAre.one Y
      obtain ⟨oc, rfl, doc⟩ := hY
      clear Y
      by_cases hlt : a.length < d.length
      · dsimp only
        k_steps
        walk_at "BJ.len"
        k_steps
        walk_at "BJ.len"
        k_steps
        show Q (.ref x) _
        refine h _ _ x (Fr.keep (by assumption)) ?_
        rw [pmod, if_pos hlt]
        exact P₁.keeps (Fr.keep (by assumption))
      · have hx3 := hz₁ (by omega)
        have hx4 := hz₂ 0 (by omega)
        have hx5 := lg_lt _ (hb₁ 0)
        have hx6 := lg_lt _ (hb₂ 0)
        have hx7 := hb₁ 0
        have hx8 := hb₂ 0
        dsimp only
        k_steps
        walk_at "BJ.len"
        k_steps
        walk_at "BJ.len"
        k_steps
        refine Stop.mk ?_
        (with_reducible rename Fr _ _ _ _ => F1)
        (with_reducible rename News _ _ _ _ => N1)
        have hlx : vsx.length = a.length := by have := hvx.length; rw [List.length_map] at this; exact this
        have hly : vsy.length = d.length := by have := hvy.length; rw [List.length_map] at this; exact this
        refine' Assign_ListComp_Z (fun i v => ∃ t, v = Value.int ((a.getD i 0 ^^^ gx ((lg (d.getD i 0) : Int) + ((lg (a.getD 0 0) : Int) - (lg (d.getD 0 0) : Int))) : Nat) : Int) t) d.length vsx.toArray vsy.toArray lx ly ?F0 ?N0 Px.isList Py.isList ?b1 ?b2 ?b3 ?b4 ?b5 ?b6 ?b7 ?b8 ?b9 ?b10 ?b11 ?b12 ?b13 ?b14 ?b15 ?iter ?turn ?done
        case F0 => exact F1
        case N0 => exact N1
        case b1 => rfl
        case b2 => with_unfolding_all rfl
        case b3 => with_unfolding_all rfl
        case b4 => decide
        case b5 => rfl
        case b6 => decide
        case b7 => rfl
        case b8 => rfl
        case b9 => decide
        case b10 => rfl
        case b11 => rfl
        case b12 => intro _; rfl
        case b13 => rfl
        case b14 => rw [List.size_toArray, List.size_toArray, hlx, hly]; omega
        case b15 => exact Nat.le_trans (Nat.le_of_lt hm₂) (by decide)
        case iter =>
          dsimp only
          k_steps
          refine poly_zip G' F1 (by walk_at "BJ.room") (Px.keeps F1.keep) (Py.keeps F1.keep) ?_
          intro h2 tk2 z TI TO i1 i2 k2 fz D Z
          refine ⟨⟨_, _, rfl⟩, z, TI, TO, i1, i2, rfl, D, Z, F1.keeps k2, News.keepsAll N1 k2, fun b hb => ⟨?_, fun e => ?_, fun q hq => newsNe N1 (fz b hb) q hq⟩⟩
          · cases e : s.heap.get? b with
            | none => rfl
            | some o => have := F1.keep _ _ e; rw [show _ = none from fz b hb] at this; cases this
          · obtain ⟨oL, _, _, hL, _⟩ := F1.ns
            have := fz b hb
            rw [e] at this
            rw [show _ = none from this] at hL; cases hL
        case turn =>
          rintro z TI TO i1 i2 i v₁ v₂ C oC D oD oz oTI oTO o1 o2 m₂ h2 tk2 E' hi hv1 hv2 hC hm1 hm2 F2 N2
          obtain ⟨_, t1, rfl⟩ := nums_at hvx hv1
          obtain ⟨_, t2, rfl⟩ := nums_at hvy hv2
          have hy1 := hb₁ i
          have hy2 := hb₂ i
          have hy3 := hz₂ i hi
          have hy4 := lg_lt _ hy2
          clear F1 N1
          dsimp only
          k_steps
          rotate_left 2
          · assumption
          · assumption
          · rw [bxn]
        case done =>
          intro D h2 tk2 vs F2 N2 hD hlen hV
          clear F1 N1
          have hvs : Nums vs ((List.range d.length).map fun i => a.getD i 0 ^^^ gx ((lg (d.getD i 0) : Int) + ((lg (a.getD 0 0) : Int) - (lg (d.getD 0 0) : Int)))) := nums_of hlen hV
          have hpl : (pstrip a d).length = a.length := pstrip_len (by omega)
          have hD' := allNe_of hD
          simp only [AllNe, and_true] at hD'
          dsimp only
          k_steps
          · refine Stop.mk ?_
            (with_reducible rename Fr _ _ _ _ => F9)
            (with_reducible rename News _ _ _ _ => N9)
            have hdi : (a.length : Int) - (d.length : Int) = ((a.length - d.length : Nat) : Int) := by omega
            have k9 : s.heap.StaysIn h2 := F9.keep
            refine' sub_sliceK (f := 51) ?q1 X ?q0 ?q2 ?q3 ?q4 ?q5 ?_
            case q1 => exact F9.push _
            case q0 => exact instUp Ix (fun b o e => Heap.get?_push_of_some _ (k9 _ _ e))
            case q2 => k_is
            case q3 => k_is
            case q4 => k_is
            case q5 => k_is
            refine' get_slice (x := x) (l := lx) (vs := vsx) (d := a.length - d.length) G' ?r1 ?r2 ?r3 ?r4 ?r5 ?r6 ?r7 ?_
            case r1 => exact fun b o e => Heap.get?_push_of_some _ (k9 _ _ e)
            case r2 => walk_at "BJ.room"
            case r3 => exact Px.keeps (fun b o e => Heap.get?_push_of_some _ (k9 _ _ e))
            case r4 => omega
            case r5 => omega
            case r6 => omega
            case r7 => rw [← hdi]; exact Heap.IsSliceOf.new _ _ _ _
            dsimp only
            intro h3 tk3 D3 k3 f3 hD3
            have k3' : Heap.StaysIn h2 h3 := fun b o e => k3 _ _ (Heap.get?_push_of_some _ e)
            have F10 := Fr.keeps F9 k3'
            have f3' : Heap.get? h2 D3 = none := fresh_push f3
            have N10 := newsAdd F9 N9 k3' f3' hD3
            have hDD := newsNe N9 f3' _ (.head _)
            replace hDD : @Ne Nat D D3 := hDD
            clear F9 N9 k9
            k_steps
            refine Stop.mk ?_
            have hdl : (vsx.drop (vsx.length - (a.length - d.length))).length = a.length - d.length := by rw [List.length_drop]; omega
            have hdl2 : vsx.length - (a.length - d.length) = d.length := by omega
            refine' kl_extend (D := D) (its := vs.toArray) (n := vs.length) (its2 := (vsx.drop (vsx.length - (a.length - d.length))).toArray) (n2 := 0) (l := vs ++ vsx.drop (vsx.length - (a.length - d.length))) ?q1 ?q2 ?q3 ?q4 ?q5 ?q6 ?q7 ?q8 ?q9 ?_
            case q1 => exact F10
            case q2 => exact N10
            case q3 => exact .head _
            case q4 => rfl
            case q5 => show (vsx.drop _).length ≠ 0; omega
            case q6 => k_dflt k_upd
            case q7 =>
              rw [List.size_toArray, List.size_toArray, hlen, hdl]
              intro hbad
              have : Builtin.List.listTooLong (d.length + (a.length - d.length)) = true := (Bool.and_eq_true_iff.mp hbad).2
              unfold Builtin.List.listTooLong at this
              have h9 := of_decide_eq_true this
              exact absurd (Nat.le_trans (by omega : d.length + (a.length - d.length) ≤ 200) (by decide : 200 ≤ sizeLine)) (Nat.not_le.mpr h9)
            case q8 => show vs.length ≤ _; exact Nat.le_trans (by omega : vs.length ≤ 100) (by decide)
            case q9 => rw [List.size_toArray, List.size_toArray, hlen, hdl]; exact Nat.le_trans (by omega : _ ≤ 200) (by decide)
            intro h4 F11 N11
            dsimp only at N11 ⊢
            k_steps
            refine Stop.mk ?_
            have F12 := F11
            have N12 := N11
            clear F11 N11
            have hvs2 : Nums (vs ++ vsx.drop (vsx.length - (a.length - d.length))) (pstrip a d) := by
              show IntsAre _ _
              rw [pstrip, List.map_append, hdl2, List.map_drop]
              exact IntsAre.append hvs (hvx.drop _)
            refine' poly_new (sh := 0) (ns := pstrip a d) G' ?s1 ?s2 ?s3 ?s4 ?s5 ?s6 (by decide) ?_
            case s1 => exact Fr.keep F12
            case s2 => walk_at "BJ.room"
            case s3 => exact News.isList N12 (by k_mem)
            case s4 => exact hvs2
            case s5 => rw [hpl]; omega
            case s6 => rw [hpl]; omega
            intro h5 tk5 z k5 fz hz
            have F13 := Fr.keeps F12 k5
            have N13 := News.keepsAll N12 k5
            have k12 := F12.keep
            clear F12 N12
            dsimp only
            k_steps
            refine Stop.mk ?_
            rw [List.replicate_zero, List.append_nil] at hz
            have hz := PolyNew.down hz (fun b o e => k12 _ _ (k _ _ e))
            obtain ⟨lz, vsz, Pz, hvz⟩ := hz.at
            obtain ⟨dz, hshz, tkz, nz, cz, ez1, ez2, ez3⟩ := id Pz
            have Iz : PySem.W.InstAt h5 z (instObj 80 dz) 80 (some (dictOf [⟨hshz, .str "num" tkz, .ref lz⟩] nz)) := ⟨ez1, rfl, rfl, ez2⟩
            refine' binop_K (f := 77) ?u1 X ?u2 ?u3 ?u4 ?u5 ?u6 ?_
            case u1 => exact F13
            case u2 => exact Iz
            case u3 => k_dflt k_typeOf
            case u4 => k_is
            case u5 => k_is
            case u6 => k_is
            refine' ih G ?v1 ?v2 ?v3 ?v4 ?v5 ?v6 ?v7 ?v8 ?v9 ?_
            case v1 => exact fun b o e => F13.keep _ _ (k _ _ e)
            case v2 => walk_at "BJ.room"
            case v3 => exact hz
            case v4 => exact least_ne (List.ne_nil_of_length_pos (by omega))
            case v5 => have := least_le (pstrip a d); omega
            case v6 => exact least_small (pstrip_small hb₁)
            case v7 => exact fun q => least_head q
            case v8 => have := least_less (l := pstrip a d) (by omega) (pstrip_head (List.ne_nil_of_length_pos (by omega)) hx3 hb₁); omega
            case v9 => exact P₂.keeps F13.keep
            intro h6 tk6 zz k6 hzz
            show Q (.ref zz) _
            refine h _ _ zz (fun b o e => k6 _ _ (F13.keep _ _ e)) ?_
            rw [pmod, if_neg hlt]
            exact hzz
          · refine Stop.mk ?_
            (with_reducible rename Fr _ _ _ _ => F12)
            (with_reducible rename News _ _ _ _ => N12)
            have hdl2 : a.length = d.length := by omega
            have hvs2 : Nums vs (pstrip a d) := by
              show IntsAre _ _
              rw [pstrip, List.drop_eq_nil_of_le (by omega), List.append_nil]
              exact hvs
            refine' poly_new (sh := 0) (ns := pstrip a d) G' ?s1 ?s2 ?s3 ?s4 ?s5 ?s6 (by decide) ?_
            case s1 => exact Fr.keep F12
            case s2 => walk_at "BJ.room"
            case s3 => exact News.isList N12 (by k_mem)
            case s4 => exact hvs2
            case s5 => rw [hpl]; omega
            case s6 => rw [hpl]; omega
            intro h5 tk5 z k5 fz hz
            have F13 := Fr.keeps F12 k5
            have N13 := News.keepsAll N12 k5
            have k12 := F12.keep
            clear F12 N12
            dsimp only
            k_steps
            refine Stop.mk ?_
            rw [List.replicate_zero, List.append_nil] at hz
            have hz := PolyNew.down hz (fun b o e => k12 _ _ (k _ _ e))
            obtain ⟨lz, vsz, Pz, hvz⟩ := hz.at
            obtain ⟨dz, hshz, tkz, nz, cz, ez1, ez2, ez3⟩ := id Pz
            have Iz : PySem.W.InstAt h5 z (instObj 80 dz) 80 (some (dictOf [⟨hshz, .str "num" tkz, .ref lz⟩] nz)) := ⟨ez1, rfl, rfl, ez2⟩
            refine' binop_K (f := 77) ?u1 X ?u2 ?u3 ?u4 ?u5 ?u6 ?_
            case u1 => exact F13
            case u2 => exact Iz
            case u3 => k_dflt k_typeOf
            case u4 => k_is
            case u5 => k_is
            case u6 => k_is
            refine' ih G ?v1 ?v2 ?v3 ?v4 ?v5 ?v6 ?v7 ?v8 ?v9 ?_
            case v1 => exact fun b o e => F13.keep _ _ (k _ _ e)
            case v2 => walk_at "BJ.room"
            case v3 => exact hz
            case v4 => exact least_ne (List.ne_nil_of_length_pos (by omega))
            case v5 => have := least_le (pstrip a d); omega
            case v6 => exact least_small (pstrip_small hb₁)
            case v7 => exact fun q => least_head q
            case v8 => have := least_less (l := pstrip a d) (by omega) (pstrip_head (List.ne_nil_of_length_pos (by omega)) hx3 hb₁); omega
            case v9 => exact P₂.keeps F13.keep
            intro h6 tk6 zz k6 hzz
            show Q (.ref zz) _
            refine h _ _ zz (fun b o e => k6 _ _ (F13.keep _ _ e)) ?_
            rw [pmod, if_neg hlt]
            exact hzz
end
end
section
open PySem PySem.W PySem.Calls PyProof.Rows
section
variable {w : World} {p : Program} {loose : List Str} {mean : ExcName → Option Value} {mg mb : Str → Option Value} {g : Heap} {s : Shared} {dp un : Nat} {fr : Option (List Env)} {gd : Option (List Code)} {Q E : Value → Shared → Prop} {L : Addr} {m : Str → Option Value}
  {news : List (Addr × Obj)} {gg : Obj → List (Addr × Obj)}
theorem next_walk {st sc : Addr} {o : Obj} {many : Int} {tm : Tok} {nn : Nat} {vs : List Value} {ns : List Int}
    (G : Gr (hd.heap_39 w.params) p loose mean mg mb g) (F : Fr g L s.heap m) (N : News g L s.heap news) (U : UpdF st o news gg) (hO : StO sc ns.length o) (hsc : (sc, listOf vs.toArray nn) ∈ news) (hne : @Ne Nat st sc)
    (hi : IntsAre vs ns) (hl : ns.length < 1000) (hroom : dp + 1 < recursionLimit) (hm : 0 < many) (hm1 : many < 1000)
    (h : ∀ h' tk' t r o', 0 ≤ r → r < many → StO sc ns.length o' → Fr g L h' m → News g L h' (gg o') → Q (.int r t) { s with heap := h', toks := tk' }) :
    wpAny (model Challenge.rw_bj0060_01.row.prog w) (aTop dp un fr gd) (call (.ref 105) [.ref st, .int many tm]) Q E s := by
  obtain ⟨pre, post, rfl, hg, n1, n2⟩ := U.split
  have hst := N (st, o) (List.mem_append.mpr (.inr (.head _)))
  have hs := N _ hsc
  refine next_spec G F.keep hroom hst.1 hO hst.2.2 hs.1 hs.2.2 hne hi hl hm hm1 ?_
  intro h' tk' t r o' r0 r1 hO' e1 kk
  have hL : L ≠ st := fun q => hst.2.1 q.symm
  refine h h' tk' t r o' r0 r1 hO' ?_ ?_
  · refine ⟨F.ns.at' fun o e => kk _ _ hL e, fun b ob e => kk _ _ (fun q => ?_) (F.keep _ _ e), F.above⟩
    rw [q, hst.2.2] at e; cases e
  · rw [hg]
    intro q hq
    rcases List.mem_append.mp hq with hq | hq
    · have z := N q (List.mem_append_left _ hq)
      exact ⟨kk _ _ (n1 q hq) z.1, z.2⟩
    · rcases List.mem_cons.mp hq with rfl | hq
      · exact ⟨e1, hst.2⟩
      · have z := N q (List.mem_append_right _ (.tail _ hq))
        exact ⟨kk _ _ (n2 q hq) z.1, z.2⟩
section
variable {w : World} {p : Program} {loose : List Str} {mean : ExcName → Option Value} {mg mb : Str → Option Value} {g b : Heap} {s : Shared} {dp un : Nat} {fr : Option (List Env)} {gd : Option (List Code)} {Q E : Value → Shared → Prop} {L : Addr} {m : Str → Option Value}
  {news : List (Addr × Obj)}
abbrev pDict (hsh : Int) (tk : Tok) (l : Addr) (n : Nat) : Obj := dictOf [⟨hsh, .str "num" tk, .ref l⟩] n
theorem fr_ne {h : Heap} {x : Addr} (F : Fr g L h m) (e : h.get? x = none) : x ≠ L := fun q => by
  obtain ⟨oL, _, _, hL, _⟩ := F.ns
  rw [q] at e; rw [e] at hL; cases hL
theorem news_poly {h : Heap} {x : Addr} {ns : List Nat} (F : Fr g L b m) (N : News g L h news) (P : PolyNew b h x ns) :
    ∃ dx l vs hsh tk n c, News g L h ((x, instObj 80 dx) :: (dx, pDict hsh tk l n) :: (l, listOf (List.toArray vs) c) :: news) ∧ Nums vs ns ∧ b.get? x = none ∧ b.get? dx = none ∧ b.get? l = none := by
  obtain ⟨l, vs, dx, hsh, tk, n, c, a1, a2, a3, e1, e2, e3, hv⟩ := P
  refine ⟨dx, l, vs, hsh, tk, n, c, fun q hq => ?_, hv, a1, a2, a3⟩
  rcases List.mem_cons.mp hq with rfl | hq
  · exact ⟨e1, fr_ne F a1, none_down F.keep a1⟩
  rcases List.mem_cons.mp hq with rfl | hq
  · exact ⟨e2, fr_ne F a2, none_down F.keep a2⟩
  rcases List.mem_cons.mp hq with rfl | hq
  · exact ⟨e3, fr_ne F a3, none_down F.keep a3⟩
  exact N q hq
theorem off3 {h : Heap} {x dx l : Addr} (N : News g L h news) (a1 : h.get? x = none) (a2 : h.get? dx = none) (a3 : h.get? l = none) : LCg.Off3 x dx l news :=
  LCg.Off3.of fun p hp => ⟨newsNe N a1 p hp, newsNe N a2 p hp, newsNe N a3 p hp⟩
theorem off1 {h : Heap} {D : Addr} : ∀ {news : List (Addr × Obj)}, News g L h news → h.get? D = none → LCg.Off1 D news
  | [], _, _ => trivial
  | _ :: _, N, a1 => ⟨newsNe N a1 _ (.head _), off1 (fun q hq => N q (.tail _ hq)) a1⟩
theorem polyOf {h : Heap} {x dx l : Addr} {vs : List Value} {ns : List Nat} {hsh : Int} {tk : Tok} {n c : Nat} (N : News g L h news) (h1 : (x, instObj 80 dx) ∈ news) (h2 : (dx, pDict hsh tk l n) ∈ news) (h3 : (l, listOf (List.toArray vs) c) ∈ news) (hv : Nums vs ns) : PolyAt h x ns :=
  ⟨l, vs, ⟨dx, hsh, tk, n, c, (N _ h1).1, (N _ h2).1, (N _ h3).1⟩, hv⟩
theorem polyNewOf {h : Heap} {x dx l : Addr} {vs : List Value} {ns : List Nat} {hsh : Int} {tk : Tok} {n c : Nat} (N : News g L h news) (h1 : (x, instObj 80 dx) ∈ news) (h2 : (dx, pDict hsh tk l n) ∈ news) (h3 : (l, listOf (List.toArray vs) c) ∈ news) (hv : Nums vs ns) : PolyNew g h x ns :=
  ⟨l, vs, dx, hsh, tk, n, c, (N _ h1).2.2, (N _ h2).2.2, (N _ h3).2.2, (N _ h1).1, (N _ h2).1, (N _ h3).1, hv⟩
theorem poly_walk {l : Addr} {vs : List Value} {ns : List Nat} {sh c : Nat} {ts : Tok} (G : Gr (hd.heap_39 w.params) p loose mean mg mb g) (F : Fr g L s.heap m) (N : News g L s.heap news) (hroom : dp + 2 < recursionLimit)
    (hl : (l, listOf (List.toArray vs) c) ∈ news) (hv : Nums vs ns) (hn : ns.length < 1000) (hn1 : 1 ≤ ns.length) (hsh : sh < 1000)
    (h : ∀ h' tk' x dx l' vs' hsh tk n c', s.heap.StaysIn h' → Fr g L h' m → News g L h' ((x, instObj 80 dx) :: (dx, pDict hsh tk l' n) :: (l', listOf (List.toArray vs') c') :: news) → LCg.Off3 x dx l' news → PolyNew s.heap h' x (least ns ++ List.replicate sh 0) → Nums vs' (least ns ++ List.replicate sh 0) → Q (.ref x) { s with heap := h', toks := tk' }) :
    wpAny (model Challenge.rw_bj0060_01.row.prog w) (aTop dp un fr gd) (call (.ref 80) [.ref l, .int (sh : Int) ts]) Q E s := by
  refine poly_new G F.keep hroom ⟨_, (N _ hl).1, rfl, _, rfl⟩ hv hn hn1 hsh ?_
  intro h' tk' x k _ P
  obtain ⟨dx, l', vs', hsh, tk, n, c', N', hv', b1, b2, b3⟩ := news_poly F (News.keepsAll N k) P
  exact h h' tk' x dx l' vs' hsh tk n c' k (F.keeps k) N' (off3 N b1 b2 b3) P hv'
theorem product_walk {l₁ l₂ : Addr} {vs₁ vs₂ : List Value} {ns₁ ns₂ : List Nat} {c₁ c₂ : Nat} (G : Gr (hd.heap_39 w.params) p loose mean mg mb g) (F : Fr g L s.heap m) (N : News g L s.heap news) (hroom : dp + 2 < recursionLimit)
    (hl₁ : (l₁, listOf (List.toArray vs₁) c₁) ∈ news) (hv₁ : Nums vs₁ ns₁) (hn₁ : 1 ≤ ns₁.length) (hm₁ : ns₁.length < 1000) (hb₁ : Small ns₁) (hl₂ : (l₂, listOf (List.toArray vs₂) c₂) ∈ news) (hv₂ : Nums vs₂ ns₂) (hn₂ : 1 ≤ ns₂.length) (hm₂ : ns₂.length < 1000) (hb₂ : Small ns₂)
    (h : ∀ h' tk' D us c, s.heap.StaysIn h' → Fr g L h' m → News g L h' ((D, listOf (List.toArray us) c) :: news) → LCg.Off1 D news → Nums us (product ns₁ ns₂) → Q (.ref D) { s with heap := h', toks := tk' }) :
    wpAny (model Challenge.rw_bj0060_01.row.prog w) (aTop dp un fr gd) (call (.ref 126) [.ref l₁, .ref l₂]) Q E s := by
  refine product_spec G F.keep hroom ⟨_, (N _ hl₁).1, rfl, _, rfl⟩ hv₁ hn₁ hm₁ hb₁ ⟨_, (N _ hl₂).1, rfl, _, rfl⟩ hv₂ hn₂ hm₂ hb₂ ?_
  intro h' tk' D us c k f e hu
  exact h h' tk' D us c k (F.keeps k) (newsAdd F N k f e) (off1 N f) hu
theorem least_walk {l : Addr} {vs : List Value} {ns : List Nat} {c₁ : Nat} (G : Gr (hd.heap_39 w.params) p loose mean mg mb g) (F : Fr g L s.heap m) (N : News g L s.heap news) (hroom : dp + 1 < recursionLimit)
    (hl : (l, listOf (List.toArray vs) c₁) ∈ news) (hv : Nums vs ns) (hn : ns.length < 1000)
    (h : ∀ h' tk' D us c, s.heap.StaysIn h' → Fr g L h' m → News g L h' ((D, listOf (List.toArray us) c) :: news) → LCg.Off1 D news → Nums us (least ns) → Q (.ref D) { s with heap := h', toks := tk' }) :
    wpAny (model Challenge.rw_bj0060_01.row.prog w) (aTop dp un fr gd) (call (.ref 133) [.ref l]) Q E s := by
  refine least_spec G F.keep hroom ⟨_, (N _ hl).1, rfl, _, rfl⟩ hv hn ?_
  intro h' tk' D us c k f e hu
  exact h h' tk' D us c k (F.keeps k) (newsAdd F N k f e) (off1 N f) hu
theorem rest_walk {l₁ l₂ : Addr} {vs₁ vs₂ : List Value} {ns₁ ns₂ : List Nat} {c₁ c₂ : Nat} (G : Gr (hd.heap_39 w.params) p loose mean mg mb g) (F : Fr g L s.heap m) (N : News g L s.heap news) (hroom : dp + 2 < recursionLimit)
    (hl₁ : (l₁, listOf (List.toArray vs₁) c₁) ∈ news) (hv₁ : Nums vs₁ ns₁) (hm₁ : ns₁.length < 1000) (hb₁ : Small ns₁) (hl₂ : (l₂, listOf (List.toArray vs₂) c₂) ∈ news) (hv₂ : Nums vs₂ ns₂) (hn₂ : 1 ≤ ns₂.length) (hm₂ : ns₂.length < 1000) (hb₂ : Small ns₂)
    (h : ∀ h' tk' D us c, s.heap.StaysIn h' → Fr g L h' m → News g L h' ((D, listOf (List.toArray us) c) :: news) → LCg.Off1 D news → Nums us (rest ns₁ ns₂) → Q (.ref D) { s with heap := h', toks := tk' }) :
    wpAny (model Challenge.rw_bj0060_01.row.prog w) (aTop dp un fr gd) (call (.ref 140) [.ref l₁, .ref l₂]) Q E s := by
  refine rest_spec G F.keep hroom ⟨_, (N _ hl₁).1, rfl, _, rfl⟩ hv₁ hm₁ hb₁ ⟨_, (N _ hl₂).1, rfl, _, rfl⟩ hv₂ hn₂ hm₂ hb₂ ?_
  intro h' tk' D us c k f e hu
  exact h h' tk' D us c k (F.keeps k) (newsAdd F N k f e) (off1 N f) hu
theorem mul_walk {x y : Addr} {ns₁ ns₂ : List Nat} (G : Gr (hd.heap_39 w.params) p loose mean mg mb g) (F : Fr g L s.heap m) (N : News g L s.heap news) (hroom : dp + 4 < recursionLimit)
    (P₁ : PolyAt s.heap x ns₁) (hn₁ : 1 ≤ ns₁.length) (hm₁ : ns₁.length < 100) (hb₁ : Small ns₁) (hz₁ : ∀ i, i < ns₁.length → ns₁.getD i 0 ≠ 0)
    (P₂ : PolyAt s.heap y ns₂) (hn₂ : 1 ≤ ns₂.length) (hm₂ : ns₂.length < 100) (hb₂ : Small ns₂) (hz₂ : ∀ i, i < ns₂.length → ns₂.getD i 0 ≠ 0)
    (h : ∀ h' tk' x dx l' vs' hsh tk n c', s.heap.StaysIn h' → Fr g L h' m → News g L h' ((x, instObj 80 dx) :: (dx, pDict hsh tk l' n) :: (l', listOf (List.toArray vs') c') :: news) → LCg.Off3 x dx l' news → Nums vs' (pmul ns₁ ns₂) → Q (.ref x) { s with heap := h', toks := tk' }) :
    wpAny (model Challenge.rw_bj0060_01.row.prog w) (aTop dp un fr gd) (call (.ref 72) [.ref x, .ref y]) Q E s := by
  refine mul_spec G F.keep hroom P₁ hn₁ hm₁ hb₁ hz₁ P₂ hn₂ hm₂ hb₂ hz₂ ?_
  intro h' tk' x k P
  obtain ⟨dx, l', vs', hsh, tk, n, c', N', hv', b1, b2, b3⟩ := news_poly F (News.keepsAll N k) P
  exact h h' tk' x dx l' vs' hsh tk n c' k (F.keeps k) N' (off3 N b1 b2 b3) hv'
theorem mod_walk {x y : Addr} {a d : List Nat} {f : Nat} (hn₂ : 2 ≤ d.length) (hm₂ : d.length < 100) (hb₂ : Small d) (hz₂ : ∀ i, i < d.length → d.getD i 0 ≠ 0)
    (G : Gr (hd.heap_39 w.params) p loose mean mg mb g) (F : Fr g L s.heap m) (N : News g L s.heap news) {m' : Str → Option Value} (Fb : Fr g L b m') (kb : b.StaysIn s.heap) (hroom : dp + f + 4 < recursionLimit)
    (P₁ : PolyNew b s.heap x a) (hn₁ : 1 ≤ a.length) (hm₁ : a.length < 100) (hb₁ : Small a) (hz₁ : 2 ≤ a.length → a.getD 0 0 ≠ 0) (hf : a.length ≤ f)
    (P₂ : PolyAt s.heap y d)
    (h : ∀ h' tk' x dx l' vs' hsh tk n c', s.heap.StaysIn h' → Fr g L h' m → News g L h' ((x, instObj 80 dx) :: (dx, pDict hsh tk l' n) :: (l', listOf (List.toArray vs') c') :: news) → Nums vs' (pmod f a d) → Q (.ref x) { s with heap := h', toks := tk' }) :
    wpAny (model Challenge.rw_bj0060_01.row.prog w) (aTop dp un fr gd) (call (.ref 77) [.ref x, .ref y]) Q E s := by
  refine mod_spec d hn₂ hm₂ hb₂ hz₂ f (G.keeps Fb.keep) kb hroom P₁ hn₁ hm₁ hb₁ hz₁ hf P₂ ?_
  intro h' tk' x k P
  obtain ⟨dx, l', vs', hsh, tk, n, c', N', hv', _⟩ := news_poly Fb (News.keepsAll N k) P
  exact h h' tk' x dx l' vs' hsh tk n c' k (F.keeps k) N' hv'
end
open PyProof.Rows.LCg in
theorem CompEnd.mono {h₀ : Heap} {L : Addr} {m : Str → Option Value} {s₁ : Shared} {I : Addr} {oI : Obj} {C : Addr} {oC : Obj} {D : Addr} {oD : Obj} {S : List (Addr × Obj) → Prop} {r1 r2 : Value → List (Addr × Obj) → Prop} {y : Value} {s₂ : Shared}
    (x : CompEnd h₀ L m s₁ I oI C oC D oD S r1 y s₂) (k : ∀ news, r1 y news → r2 y news) : CompEnd h₀ L m s₁ I oI C oC D oD S r2 y s₂ := by
  obtain ⟨h', tk, news', a, b, c, d, e, f⟩ := x
  exact ⟨h', tk, news', a, b, c, d, e, k _ f⟩
open PyProof.Rows.LCg in
theorem compRest_inv {prog : Program} {w : World} {A : Around} {h₀ : Heap} {L : Addr} {m : Str → Option Value} {env : Env} {elt : Expr} {x : Str} {scope : Scope} {cl : List (Str × Addr)} {s : Shared} {S : List (Addr × Obj) → Prop} {P : Nat → Value → Prop}
    {Fin : List Value → List (Addr × Obj) → Prop} {n : Nat} (J : Nat → List Value → List (Addr × Obj) → Prop)
    (turn : ∀ i ys news v I oI C oC D m₂ h tk (E' : Value → Shared → Prop), i < n → J i ys news → P i v → NsObj oC m₂ → m₂ x = some v → Fr h₀ L h m → News h₀ L h ((I, oI) :: (C, oC) :: (D, lst ys) :: news) → Off3 I C D news → ((@Ne Nat I C) ∧ (@Ne Nat I D) ∧ (@Ne Nat C D)) →
      wpAny (model prog w) A (eval elt (compEnvC scope cl C env)) (CompEnd h₀ L m { s with heap := h, toks := tk } I oI C oC D (lst ys) S (fun y news' => J (i + 1) (ys ++ [y]) news')) E' { s with heap := h, toks := tk })
    (fin : ∀ ys news, J n ys news → Fin ys news) : ∀ (k i : Nat) (ys : List Value) (news : List (Addr × Obj)), i + k = n → J i ys news → CompRest prog w A h₀ L m env elt x scope cl s S P Fin k i ys news
  | 0, i, ys, news, e, hJ => by
    refine CompRest.zero (fin _ _ ?_)
    have : i = n := e
    exact this ▸ hJ
  | k + 1, i, ys, news, e, hJ => by
    refine CompRest.succ fun v I oI C oC D m₂ h tk E' a b c d f g j => ?_
    refine wpAny_mono (turn i ys news v I oI C oC D m₂ h tk E' (by omega) hJ a b c d f g j) (fun y s' z => ?_) fun _ _ z => z
    exact CompEnd.mono z fun news' hJ' => compRest_inv J turn fin k (i + 1) _ _ (by omega) hJ'
end
end
section
theorem gx_pow2 (n : Nat) : gx (n : Int) = pow2 n := by
  rw [gx_at, ← pow2_mod n]
  have e : ((n : Int).fmod 255).toNat = n % 255 := by rw [Int.fmod_eq_emod_of_nonneg _ (by decide)]; omega
  rw [e]
theorem gx_pow (e : Nat) : gx (e : Int) = powE e := by rw [gx_pow2, powE, pow2_mod]
theorem pow_lg {a : Nat} (h1 : a ≠ 0) (h2 : a < 256) : pow2 (lg a) = a := by rw [← gx_pow2, gx_lg h1 h2]
theorem gx_times {a b : Nat} (ha : a ≠ 0) (hb : b ≠ 0) (ha2 : a < 256) (hb2 : b < 256) : gx ((lg a : Nat) + (lg b : Nat) : Int) = times a b := by
  have : ((lg a : Nat) + (lg b : Nat) : Int) = ((lg a + lg b : Nat) : Int) := by omega
  rw [this, gx_pow2, ← times_pow2, pow_lg ha ha2, pow_lg hb hb2]
theorem gx_ne (n : Int) : gx n ≠ 0 := by
  rw [gx_at]; exact pow2_ne _
theorem lg_gx (e : Nat) : lg (gx e) = e % 255 := by
  obtain ⟨h1, h2⟩ := lg_at (gx_ne (e : Int)) (gx_lt _)
  refine pow2_inj h1 (Nat.mod_lt _ (by decide)) ?_
  rw [h2, gx_pow2, pow2_mod]
end
section
theorem rowAcc_congr {f g : Nat → Nat} (i : Nat) : ∀ n t, (∀ j, j < n → f j = g j) → rowAcc f i n t = rowAcc g i n t
  | 0, _, _ => rfl
  | n + 1, t, h => by
    rw [rowAcc, rowAcc, rowAcc_congr i n t (fun j hj => h j (by omega)), h n (by omega)]
theorem prodAcc_congr {F G : Nat → Nat → Nat} (m : Nat) : ∀ n t, (∀ i, i < n → ∀ j, j < m → F i j = G i j) → prodAcc F m n t = prodAcc G m n t
  | 0, _, _ => rfl
  | n + 1, t, h => by
    rw [prodAcc, prodAcc, prodAcc_congr m n t (fun i hi => h i (by omega)), rowAcc_congr n m _ (h n (by omega))]
theorem getD_set_ne {t : List Nat} {k i x : Nat} (h : k ≠ i) : (t.set k x).getD i 0 = t.getD i 0 := by
  rw [List.getD_eq_getElem?_getD, List.getElem?_set_ne h, ← List.getD_eq_getElem?_getD]
theorem getD_set_eq {t : List Nat} {k x : Nat} (h : k < t.length) : (t.set k x).getD k 0 = x := by
  rw [List.getD_eq_getElem?_getD, List.getElem?_set_self h]; rfl
theorem rowAcc_out {f : Nat → Nat} {i p : Nat} : ∀ n t, (p < i ∨ i + n ≤ p) → (rowAcc f i n t).getD p 0 = t.getD p 0
  | 0, _, _ => rfl
  | n + 1, t, h => by
    rw [rowAcc, getD_set_ne (by omega)]
    exact rowAcc_out n t (by omega)
theorem rowAcc_in {f : Nat → Nat} {i : Nat} : ∀ n t j, j < n → i + n ≤ t.length → (rowAcc f i n t).getD (i + j) 0 = t.getD (i + j) 0 ^^^ f j
  | 0, _, j, h, _ => absurd h (Nat.not_lt_zero j)
  | n + 1, t, j, h, hl => by
    rw [rowAcc]
    by_cases e : j = n
    · subst e
      rw [getD_set_eq (by rw [rowAcc_len]; omega), rowAcc_out _ _ (by omega)]
    · rw [getD_set_ne (by omega)]
      exact rowAcc_in n t j (by omega) (by omega)
theorem prodAcc_head {F : Nat → Nat → Nat} {m : Nat} (hm : 1 ≤ m) : ∀ n t, 1 ≤ n → m ≤ t.length → (prodAcc F m n t).getD 0 0 = t.getD 0 0 ^^^ F 0 0
  | 0, _, h, _ => absurd h (by decide)
  | 1, t, _, hl => by
    rw [prodAcc, prodAcc]
    exact rowAcc_in m t 0 (by omega) (by omega)
  | n + 2, t, _, hl => by
    rw [prodAcc, rowAcc_out _ _ (by omega)]
    exact prodAcc_head hm (n + 1) t (by omega) hl
theorem least_self : ∀ {ns : List Nat}, ns.getD 0 0 ≠ 0 → least ns = ns
  | [], _ => rfl
  | [_], _ => rfl
  | x :: y :: r, h => by
    have h : x ≠ 0 := h
    unfold least
    rw [if_neg h]
theorem times_ne {a b : Nat} (ha : a ≠ 0) (hb : b ≠ 0) (ha2 : a < 256) (hb2 : b < 256) : times a b ≠ 0 := by
  rw [← gx_times ha hb ha2 hb2]; exact gx_ne _
theorem pmul_product {a b : List Nat} (ha : ∀ i, i < a.length → a.getD i 0 ≠ 0) (hb : ∀ i, i < b.length → b.getD i 0 ≠ 0) (sa : Small a) (sb : Small b) (na : a ≠ []) (nb : b ≠ []) : pmul a b = product a b := by
  have la : 1 ≤ a.length := List.length_pos_iff.mpr na
  have lb : 1 ≤ b.length := List.length_pos_iff.mpr nb
  have e : pmulRaw a b = product a b := by
    unfold pmulRaw product
    exact prodAcc_congr _ _ _ fun i hi j hj => gx_times (ha i hi) (hb j hj) (sa i) (sb j)
  unfold pmul
  rw [e]
  refine least_self ?_
  unfold product
  rw [prodAcc_head lb _ _ la (by rw [List.length_replicate]; omega)]
  have z : (List.replicate (a.length + b.length - 1) 0).getD 0 0 = 0 := by
    cases a.length + b.length - 1 <;> rfl
  rw [z, Nat.zero_xor]
  exact times_ne (ha 0 la) (hb 0 lb) (sa 0) (sb 0)
/-- the divisor of branch 0 -/
def gen : Nat → List Nat
  | 0 => [1]
  | k + 1 => product (gen k) [1, powE k]
def genOk (l : List Nat) (k : Nat) : Bool := l.length == k + 1 && l.all fun x => decide (x < 256) && decide (x ≠ 0)
theorem gen_ok : ∀ k : Fin 7, genOk (gen k.val) k.val = true := by decide +kernel
theorem gen_facts (k : Nat) (h : k ≤ 6) : (gen k).length = k + 1 ∧ Small (gen k) ∧ ∀ i, i < (gen k).length → (gen k).getD i 0 ≠ 0 := by
  have g := gen_ok ⟨k, by omega⟩
  obtain ⟨g1, g2⟩ := Bool.and_eq_true_iff.mp g
  have g2 := List.all_eq_true.mp g2
  refine ⟨beq_iff_eq.mp g1, Small.of fun x hx => of_decide_eq_true (Bool.and_eq_true_iff.mp (g2 x hx)).1, fun i hi => ?_⟩
  rw [List.getD_eq_getElem?_getD, List.getElem?_eq_getElem hi]
  exact of_decide_eq_true (Bool.and_eq_true_iff.mp (g2 _ (List.getElem_mem hi))).2
theorem gen_mul (k : Nat) (h : k < 6) : pmul (gen k) [1, powE k] = gen (k + 1) := by
  obtain ⟨g1, g2, g3⟩ := gen_facts k (by omega)
  have hp : powE k ≠ 0 := by rw [← gx_pow]; exact gx_ne _
  refine pmul_product g3 (fun i hi => ?_) g2 (Small.of fun x hx => ?_) (List.ne_nil_of_length_pos (by omega)) (List.cons_ne_nil _ _)
  · match i, hi with
    | 0, _ => exact (by decide : (1 : Nat) ≠ 0)
    | 1, _ => exact hp
  · rcases List.mem_cons.mp hx with rfl | hx
    · decide
    · rw [List.mem_singleton.mp hx]; exact pow2_lt _
end
section
theorem sqI_pow (k : Nat) : ∀ n, sqI (pow2 k) n = (pow2 (k * 2 ^ n), pow2 (k * (2 ^ (n + 1) - 2)))
  | 0 => by
    show (pow2 k, 1) = (pow2 (k * 1), pow2 (k * 0))
    rw [Nat.mul_one, Nat.mul_zero]
    rfl
  | n + 1 => by
    rw [sqI, sqI_pow k n]
    dsimp only
    rw [times_pow2, times_pow2]
    have h : 1 ≤ 2 ^ n := Nat.one_le_two_pow
    have e1 : k * 2 ^ n + k * 2 ^ n = k * 2 ^ (n + 1) := by rw [← Nat.mul_add, Nat.pow_succ]; congr 1; omega
    have e2 : k * (2 ^ (n + 1) - 2) + k * 2 ^ (n + 1) = k * (2 ^ (n + 1 + 1) - 2) := by
      rw [← Nat.mul_add]; congr 1; rw [Nat.pow_succ 2 (n + 1), Nat.pow_succ 2 n]; omega
    rw [e1, e2]
theorem inv_pow {d : Nat} (h1 : d ≠ 0) (h2 : d < 256) : inv d = pow2 (255 - lg d) ∧ lg d < 255 := by
  obtain ⟨e1, e2⟩ := lg_at h1 h2
  refine ⟨?_, e1⟩
  have e : inv d = pow2 (lg d * 254) := by
    show (sqI d 7).2 = _
    have := congrArg Prod.snd (sqI_pow (lg d) 7)
    rw [e2] at this
    exact this
  rw [e, ← pow2_mod, ← pow2_mod (255 - lg d)]
  congr 1
  omega
theorem gx_up (n : Int) : gx (n + 255) = gx n := by
  unfold gx
  have : (n + 255).fmod 255 = n.fmod 255 := by
    rw [Int.fmod_eq_emod_of_nonneg _ (by decide), Int.fmod_eq_emod_of_nonneg _ (by decide)]; omega
  rw [this]
theorem share_eq {a d x : Nat} (ha : a ≠ 0) (hd : d ≠ 0) (hx : x ≠ 0) (ha2 : a < 256) (hd2 : d < 256) (hx2 : x < 256) :
    gx ((lg x : Int) + ((lg a : Int) - (lg d : Int))) = times (times a (inv d)) x := by
  obtain ⟨e1, e2⟩ := inv_pow hd hd2
  have q : times (times a (inv d)) x = pow2 (lg a + (255 - lg d) + lg x) := by
    rw [← times_pow2, ← times_pow2, ← e1, pow_lg ha ha2, pow_lg hx hx2]
  rw [q, ← gx_pow2, ← gx_up]
  congr 1
  omega
theorem rowAcc_cons (f : Nat → Nat) (i : Nat) (h : Nat) : ∀ n t, rowAcc f (i + 1) n (h :: t) = h :: rowAcc f i n t
  | 0, _ => rfl
  | n + 1, t => by
    rw [rowAcc, rowAcc, rowAcc_cons f i h n t]
    have e : i + 1 + n = (i + n) + 1 := by omega
    rw [e]
    rfl
theorem divAcc_cons (iv : Nat) (d : List Nat) : ∀ n r, r ≠ [] → divAcc iv d (n + 1) r = (divAcc iv d 1 r).headD 0 :: divAcc iv d n (divAcc iv d 1 r).tail
  | 0, r, hr => by
    have : divAcc iv d 1 r ≠ [] := List.ne_nil_of_length_pos (by rw [divAcc_len]; exact List.length_pos_iff.mpr hr)
    show divAcc iv d 1 r = _ :: (divAcc iv d 1 r).tail
    cases e : divAcc iv d 1 r with
    | nil => exact absurd e this
    | cons x t => rfl
  | n + 1, r, hr => by
    have ih := divAcc_cons iv d n r hr
    rw [divAcc, ih]
    rw [rowAcc_cons]
    rfl
theorem rowAcc_zero (i : Nat) : ∀ n t, rowAcc (fun _ => 0) i n t = t
  | 0, _ => rfl
  | n + 1, t => by
    rw [rowAcc, rowAcc_zero i n t, Nat.xor_zero]
    apply List.ext_getElem?
    intro j
    rw [List.getElem?_set]
    split
    · rename_i e
      subst e
      split
      · rename_i h
        rw [List.getD_eq_getElem?_getD, List.getElem?_eq_getElem h]; rfl
      · rename_i h
        exact (List.getElem?_eq_none (by omega)).symm
    · rfl
theorem times_zero_left (b : Nat) : times 0 b = 0 := by
  have key : ∀ f b, tms f 0 0 b = 0 := by
    intro f
    induction f with
    | zero => intro b; rfl
    | succ f ih =>
      intro b
      unfold tms
      split
      · rfl
      · have : (if b % 2 = 1 then 0 ^^^ 0 else 0) = 0 := by split <;> rfl
        rw [this]
        exact ih _
  exact key 8 b
theorem step_zero {iv : Nat} {d a : List Nat} (h : a.getD 0 0 = 0) : divAcc iv d 1 a = a := by
  show rowAcc (fun k => times (times (a.getD 0 0) iv) (d.getD k 0)) 0 d.length a = a
  rw [h]
  have : (fun k => times (times 0 iv) (d.getD k 0)) = fun _ => 0 := by
    funext k
    rw [times_zero_left, times_zero_left]
  rw [this, rowAcc_zero]
theorem ext_getD {x y : List Nat} (h : x.length = y.length) (k : ∀ i, i < x.length → x.getD i 0 = y.getD i 0) : x = y := by
  apply List.ext_getElem h
  intro i h1 h2
  have := k i h1
  rw [List.getD_eq_getElem?_getD, List.getD_eq_getElem?_getD, List.getElem?_eq_getElem h1, List.getElem?_eq_getElem h2] at this
  exact this
theorem step_strip {d a : List Nat} (hd : ∀ i, i < d.length → d.getD i 0 ≠ 0) (sd : Small d) (sa : Small a) (h0 : a.getD 0 0 ≠ 0) (hl : d.length ≤ a.length) (nd : 1 ≤ d.length) :
    divAcc (inv (d.getD 0 0)) d 1 a = pstrip a d := by
  show rowAcc (fun k => times (times (a.getD 0 0) (inv (d.getD 0 0))) (d.getD k 0)) 0 d.length a = pstrip a d
  refine ext_getD (by rw [rowAcc_len, pstrip_len hl]) fun i hi => ?_
  rw [rowAcc_len] at hi
  by_cases q : i < d.length
  · have e := rowAcc_in (f := fun k => times (times (a.getD 0 0) (inv (d.getD 0 0))) (d.getD k 0)) (i := 0) d.length a i q (by omega)
    rw [Nat.zero_add] at e
    rw [e]
    have e2 : (pstrip a d).getD i 0 = a.getD i 0 ^^^ gx ((lg (d.getD i 0) : Int) + ((lg (a.getD 0 0) : Int) - (lg (d.getD 0 0) : Int))) := by
      rw [pstrip, List.getD_eq_getElem?_getD, List.getElem?_append_left (by rw [List.length_map, List.length_range]; exact q), getD_map_range _ _ _ q]
      rfl
    rw [e2, share_eq h0 (hd 0 (by omega)) (hd i q) (sa 0) (sd 0) (sd i)]
  · rw [rowAcc_out _ _ (by omega)]
    have e2 : (pstrip a d).getD i 0 = a.getD i 0 := by
      rw [pstrip, List.getD_eq_getElem?_getD, List.getElem?_append_right (by rw [List.length_map, List.length_range]; omega), List.length_map, List.length_range, List.getElem?_drop, List.getD_eq_getElem?_getD]
      have : d.length + (i - d.length) = i := by omega
      rw [this]
    rw [e2]
theorem least_zero {t : List Nat} (h : t ≠ []) : least (0 :: t) = least t := by
  cases t with
  | nil => exact absurd rfl h
  | cons y r => unfold least; rw [if_pos rfl]; cases r <;> rfl
theorem cons_of_head {a : List Nat} {x : Nat} (hn : a ≠ []) (h : a.getD 0 0 = x) : a = x :: a.tail ∧ a.headD 0 = x := by
  cases a with
  | nil => exact absurd rfl hn
  | cons y r => have h : y = x := h; subst h; exact ⟨rfl, rfl⟩
theorem rest_gen {d : List Nat} (hd : ∀ i, i < d.length → d.getD i 0 ≠ 0) (sd : Small d) (nd : 2 ≤ d.length) : ∀ (k : Nat) (a : List Nat), a.length = k → a ≠ [] → Small a → ∀ f, (least a).length ≤ f →
    least (divAcc (inv (d.getD 0 0)) d (a.length + 1 - d.length) a) = pmod f (least a) d := by
  intro k
  induction k with
  | zero => intro a e hn; exact absurd (List.length_eq_zero_iff.mp e) hn
  | succ k ih =>
    intro a ea hn sa f hf
    have l1 := least_ne hn
    obtain ⟨f, rfl⟩ : ∃ f', f = f' + 1 := ⟨f - 1, by omega⟩
    by_cases q : a.length < d.length
    · have e0 : a.length + 1 - d.length = 0 := by omega
      have := least_le a
      rw [e0, divAcc, pmod, if_pos (by omega)]
    · obtain ⟨n, hN⟩ : ∃ n, a.length + 1 - d.length = n + 1 := ⟨a.length - d.length, by omega⟩
      rw [hN, divAcc_cons _ _ _ _ hn]
      by_cases z : a.getD 0 0 = 0
      · obtain ⟨c1, c2⟩ := cons_of_head hn z
        rw [step_zero z, c2]
        have ht : a.tail.length = k := by rw [List.length_tail, ea]; rfl
        have htn : a.tail ≠ [] := List.ne_nil_of_length_pos (by omega)
        have e1 : least a = least a.tail := by
          have : least (0 :: a.tail) = least a.tail := least_zero htn
          rw [← c1] at this; exact this
        have htd : divAcc (inv (d.getD 0 0)) d n a.tail ≠ [] := List.ne_nil_of_length_pos (by rw [divAcc_len]; omega)
        rw [least_zero htd, e1]
        have e2 : n = a.tail.length + 1 - d.length := by omega
        rw [e2]
        exact ih a.tail ht htn (Small.of fun x hx => sa.mem x (List.mem_of_mem_tail hx)) _ (by rw [← e1]; exact hf)
      · have e1 : least a = a := least_self z
        rw [e1] at hf ⊢
        rw [step_strip hd sd sa z (by omega) (by omega), pmod, if_neg q]
        have hp := pstrip_len (a := a) (d := d) (by omega)
        have hpn : pstrip a d ≠ [] := List.ne_nil_of_length_pos (by omega)
        obtain ⟨c1, c2⟩ := cons_of_head hpn (pstrip_head (List.ne_nil_of_length_pos (by omega)) z sa)
        have ht : (pstrip a d).tail.length = k := by rw [List.length_tail, hp, ea]; rfl
        have htn : (pstrip a d).tail ≠ [] := List.ne_nil_of_length_pos (by omega)
        have e2 : least (pstrip a d) = least (pstrip a d).tail := by
          have : least (0 :: (pstrip a d).tail) = least (pstrip a d).tail := least_zero htn
          rw [← c1] at this; exact this
        have htd : divAcc (inv (d.getD 0 0)) d n (pstrip a d).tail ≠ [] := List.ne_nil_of_length_pos (by rw [divAcc_len]; omega)
        rw [c2, least_zero htd, e2]
        have e3 : n = (pstrip a d).tail.length + 1 - d.length := by omega
        rw [e3]
        have := least_le (pstrip a d).tail
        exact ih _ ht htn (Small.of fun x hx => (pstrip_small sa).mem x (List.mem_of_mem_tail hx)) f (by omega)
theorem pmod_rest {d : List Nat} (hd : ∀ i, i < d.length → d.getD i 0 ≠ 0) (sd : Small d) (nd : 2 ≤ d.length) (f : Nat) {a : List Nat} (hf : a.length ≤ f) (h0 : 2 ≤ a.length → a.getD 0 0 ≠ 0) (h1 : 1 ≤ a.length) (sa : Small a) : pmod f a d = rest a d := by
  have e : least a = a := by
    by_cases q : 2 ≤ a.length
    · exact least_self (h0 q)
    · match a, q, h1 with
      | [x], _, _ => rfl
      | x :: y :: r, q, _ => exact absurd (by show 2 ≤ r.length + 1 + 1; omega) q
  have := rest_gen hd sd nd a.length a rfl (List.ne_nil_of_length_pos h1) sa f (by rw [e]; exact hf)
  rw [e] at this
  exact this.symm
end
section
theorem xor4 (a b c d : Nat) : (a ^^^ b) ^^^ (c ^^^ d) = (a ^^^ c) ^^^ (b ^^^ d) := by
  rw [Nat.xor_assoc, Nat.xor_assoc, ← Nat.xor_assoc b, ← Nat.xor_assoc c, Nat.xor_comm b c]
theorem tms_xor : ∀ f t1 t2 x y b, x < 256 → y < 256 → tms f (t1 ^^^ t2) (x ^^^ y) b = tms f t1 x b ^^^ tms f t2 y b
  | 0, _, _, _, _, _, _, _ => rfl
  | f + 1, t1, t2, x, y, b, hx, hy => by
    unfold tms
    split
    · rfl
    · rw [xt_xor hx hy, ← tms_xor f _ _ _ _ _ (xt_lt hx) (xt_lt hy)]
      split
      · rw [xor4]
      · rfl
theorem times_xor {x y : Nat} (b : Nat) (hx : x < 256) (hy : y < 256) : times (x ^^^ y) b = times x b ^^^ times y b := by
  have := tms_xor 8 0 0 x y b hx hy
  rwa [Nat.xor_self] at this
theorem times_swap {x : Nat} (hx : x < 256) (j k : Nat) : times (times x (pow2 j)) (pow2 k) = times (times x (pow2 k)) (pow2 j) := by
  by_cases h : x = 0
  · subst h
    rw [times_zero_left, times_zero_left, times_zero_left]
  · obtain ⟨i, _, rfl⟩ := pow2_sur h hx
    rw [times_pow2, times_pow2, times_pow2, times_pow2]
    congr 1
    omega
/-- a row's worth at root -/
def horner (root : Nat) (l : List Nat) : Nat := l.foldl (fun told e => times told root ^^^ e) 0
/-- a row, p ahead of it, times (x + c) -/
def mulP (c p : Nat) (l : List Nat) : List Nat := List.zipWith (fun x y => x ^^^ times y c) (l ++ [0]) (p :: l)
/-- the product of the first n factors x + 2 ^ k -/
def tabN : Nat → List Nat
  | 0 => [1]
  | n + 1 => mulP (pow2 n) 0 (tabN n)
theorem mulP_len (c p : Nat) (l : List Nat) : (mulP c p l).length = l.length + 1 := by
  rw [mulP, List.length_zipWith, List.length_append, List.length_cons]
  exact Nat.min_self _
theorem mulP_small {c : Nat} : ∀ {l : List Nat} {p : Nat}, p < 256 → (∀ x ∈ l, x < 256) → ∀ x ∈ mulP c p l, x < 256
  | [], p, hp, _, x, hx => by
    have e : x = 0 ^^^ times p c := List.mem_singleton.mp hx
    rw [e]
    exact xor_lt (n := 8) (by decide) (times_lt hp)
  | a :: l, p, hp, hl, x, hx => by
    rcases List.mem_cons.mp hx with rfl | hx
    · exact xor_lt (n := 8) (hl a (.head _)) (times_lt hp)
    · exact mulP_small (hl a (.head _)) (fun y hy => hl y (.tail _ hy)) x hx
theorem mulP_fold (j k : Nat) : ∀ (l : List Nat) (q p : Nat), q < 256 → p < 256 → (∀ x ∈ l, x < 256) →
    (mulP (pow2 k) p l).foldl (fun told e => times told (pow2 j) ^^^ e) ((times q (pow2 j) ^^^ p) ^^^ times q (pow2 k))
      = times (l.foldl (fun told e => times told (pow2 j) ^^^ e) (times q (pow2 j) ^^^ p)) (pow2 j) ^^^ times (l.foldl (fun told e => times told (pow2 j) ^^^ e) (times q (pow2 j) ^^^ p)) (pow2 k)
  | l, q, p, hq, hp, hl => by
    have hO : times q (pow2 j) ^^^ p < 256 := xor_lt (n := 8) (times_lt hq) hp
    have step : ∀ a, times ((times q (pow2 j) ^^^ p) ^^^ times q (pow2 k)) (pow2 j) ^^^ (a ^^^ times p (pow2 k)) = (times (times q (pow2 j) ^^^ p) (pow2 j) ^^^ a) ^^^ times (times q (pow2 j) ^^^ p) (pow2 k) := by
      intro a
      rw [times_xor _ hO (times_lt hq), times_xor (pow2 k) (times_lt hq) hp, times_swap hq k j]
      exact xor4 _ _ _ _
    match l, hl with
    | [], _ =>
      have := step 0
      rw [Nat.xor_zero] at this
      exact this
    | a :: l, hl =>
      show (mulP (pow2 k) a l).foldl _ (times ((times q (pow2 j) ^^^ p) ^^^ times q (pow2 k)) (pow2 j) ^^^ (a ^^^ times p (pow2 k))) = _
      rw [step a]
      exact mulP_fold j k l (times q (pow2 j) ^^^ p) a hO (hl a (.head _)) fun y hy => hl y (.tail _ hy)
theorem horner_mul (j k : Nat) {l : List Nat} (hl : ∀ x ∈ l, x < 256) : horner (pow2 j) (mulP (pow2 k) 0 l) = times (horner (pow2 j) l) (pow2 j) ^^^ times (horner (pow2 j) l) (pow2 k) := by
  have h := mulP_fold j k l 0 0 (by decide) (by decide) hl
  rw [times_zero_left, times_zero_left] at h
  exact h
theorem tabN_facts : ∀ n, (tabN n).length = n + 1 ∧ (tabN n).getD 0 0 = 1 ∧ ∀ x ∈ tabN n, x < 256
  | 0 => ⟨rfl, rfl, fun x hx => by rw [List.mem_singleton.mp hx]; decide⟩
  | n + 1 => by
    obtain ⟨h1, h2, h3⟩ := tabN_facts n
    refine ⟨by rw [tabN, mulP_len, h1], ?_, mulP_small (by decide) h3⟩
    rw [tabN]
    match e : tabN n, h1 with
    | x :: l, _ =>
      rw [e] at h2
      have h2 : x = 1 := h2
      show x ^^^ times 0 (pow2 n) = 1
      rw [times_zero_left, Nat.xor_zero, h2]
theorem tabN_zero (j : Nat) : ∀ n, j < n → horner (pow2 j) (tabN n) = 0
  | 0, h => absurd h (Nat.not_lt_zero j)
  | n + 1, h => by
    rw [tabN, horner_mul j n (tabN_facts n).2.2]
    by_cases e : j = n
    · rw [e, Nat.xor_self]
    · rw [tabN_zero j n (by omega), times_zero_left, times_zero_left]
      rfl
end
section
open PySem PySem.W PySem.Calls PyProof.Rows
/-- the words of the tables, and where each stands -/
def lutKeys : List Nat := [7, 10, 13, 15, 16, 17, 18, 20, 22, 24, 26, 28, 30]
def lutToks : List Nat := [789, 798, 810, 825, 842, 860, 879, 899, 921, 945, 971, 999, 1029]
def lutEs : List DictEntry := (List.zip lutKeys (List.zip lutToks [86, 87, 88, 89, 90, 91, 92, 93, 94, 95, 96, 97, 98])).map fun q => ⟨(q.1 : Int), .int (q.1 : Int) q.2.1, .ref q.2.2⟩
def lutKv : List (Int × Value) := (List.zip lutKeys [86, 87, 88, 89, 90, 91, 92, 93, 94, 95, 96, 97, 98]).map fun q => ((q.1 : Int), .ref q.2)
theorem lut_at (P : Params) : List.lookup 85 (hd.heap_39 P) = some ⟨.type "dict", none, .dict lutEs.toArray 13, #[]⟩ := by rfl
theorem lutPairs {prog : Program} {w : World} : Pairs (intKind prog w) lutEs lutKv := by
  repeat' first
    | exact Pairs.nil
    | refine Pairs.cons rfl rfl ?_
theorem lutAt {prog : Program} {w : World} {P : Params} {h : Heap} (X : (hd.heap_39 P).In h) : h.DictAt (intKind prog w) 85 lutKv 13 := by
  refine ⟨_, lutEs.toArray, X _ _ (lut_at P), ⟨rfl, rfl, rfl⟩, rfl, ?_, lutPairs, by decide⟩
  intro e he
  have he : e ∈ lutEs := by simpa using he
  obtain ⟨q, hq, rfl⟩ := List.mem_map.mp he
  have hq1 := (List.of_mem_zip hq).1
  refine ⟨(q.1 : Int), by simp [intKind, Value.isInt], ?_⟩
  have key : ∀ n ∈ lutKeys, ((n : Nat) : Int) = hashInt (n : Int) := by decide
  exact key _ hq1
theorem perm_sorted : ∀ {a b : List Int}, a.Perm b → a.Pairwise (· ≤ ·) → b.Pairwise (· ≤ ·) → a = b
  | [], b, p, _, _ => (List.Perm.nil_eq p)
  | x :: a, [], p, _, _ => absurd p.length_eq (by simp)
  | x :: a, y :: b, p, s1, s2 => by
    have h1 := List.pairwise_cons.mp s1
    have h2 := List.pairwise_cons.mp s2
    have e : x = y := by
      have m1 : x ∈ y :: b := p.mem_iff.mp (.head _)
      have m2 : y ∈ x :: a := p.mem_iff.mpr (.head _)
      rcases List.mem_cons.mp m1 with e | m1
      · exact e
      · rcases List.mem_cons.mp m2 with e | m2
        · exact e.symm
        · have := h1.1 _ m2
          have := h2.1 _ m1
          omega
    subst e
    rw [perm_sorted (List.Perm.cons_inv p) h1.2 h2.2]
theorem sorted_walk {prog : Program} {w : World} {A : Around} {P : Params} {E : Value → Shared → Prop} {s : Shared} {g : Heap} {L : Addr} {m : Str → Option Value} {news : List (Addr × Obj)} {Q : Value → Shared → Prop} (X : (hd.heap_39 P).In g) (hh : A.handled = none) (F : Fr g L s.heap m) (N : News g L s.heap news)
    (h : ∀ D h' tk' us c, Fr g L h' m → News g L h' ((D, listOf (List.toArray us) c) :: news) → (∀ q ∈ news, q.1 < D) → Nums us lutKeys → Q (.ref D) { s with heap := h', toks := tk' }) :
    wpAny (model prog w) A (call (.builtin "sorted") [.ref 85]) Q E s := by
  refine kdu_sorted (kdl_dict (knd := intKind prog w) (kvs := lutKv) (ep := 13) (by decide)) hh F N (lutAt (X.keeps F.keep)) (kdl_size (by decide)) fun D h' tk vs F' N' l1 hl hv => ?_
  have hl : vs.length = 13 := hl
  have hi : IntsAre vs (lutKeys.map fun n => ((n : Nat) : Int)) := by
    have : lutKeys = (List.range 13).map fun i => lutKeys.getD i 0 := by decide
    rw [this]
    refine nums_of hl fun i hiI => ?_
    have hlt : i < vs.length := by omega
    obtain ⟨k, x, e1, e2⟩ := hv i vs[i] (List.getElem?_eq_getElem hlt)
    obtain ⟨t, e3⟩ := Value.isInt_shape e2
    refine ⟨vs[i], List.getElem?_eq_getElem hlt, t, ?_⟩
    have key : ∀ i : Fin 13, lutKv[i.val]?.map (·.1) = some ((lutKeys.getD i.val 0 : Nat) : Int) := by decide
    have := key ⟨i, hiI⟩
    rw [show lutKv[(⟨i, hiI⟩ : Fin 13).val]? = some (k, x) from e1] at this
    have : k = ((lutKeys.getD i 0 : Nat) : Int) := Option.some.inj this
    rw [e3, this]
  refine ksk_lsort (news' := fun o => (D, o) :: news) F' N' (fun o => Upd.head (fun p hp => Nat.ne_of_lt (l1 p hp))) rfl hi (by decide) ?_
  intro vs' ns' c h2 F2 N2 hI _ hp hs _
  have e : ns' = lutKeys.map fun n => ((n : Nat) : Int) := perm_sorted hp hs (by decide)
  subst e
  exact h _ _ _ _ _ F2 N2 l1 hI
theorem lut_val : ∀ i : Nat, i < 13 → valueAt lutKv ((lutKeys.getD i 0 : Nat) : Int) = some (.ref (86 + i))
  | 0, _ => rfl
  | 1, _ => rfl
  | 2, _ => rfl
  | 3, _ => rfl
  | 4, _ => rfl
  | 5, _ => rfl
  | 6, _ => rfl
  | 7, _ => rfl
  | 8, _ => rfl
  | 9, _ => rfl
  | 10, _ => rfl
  | 11, _ => rfl
  | 12, _ => rfl
  | n + 13, h => absurd h (by omega)
theorem lut_len {prog : Program} {w : World} {A : Around} {P : Params} {E : Value → Shared → Prop} {s : Shared} {g : Heap} {L : Addr} {m : Str → Option Value} {Q : Value → Shared → Prop} (X : (hd.heap_39 P).In g) (F : Fr g L s.heap m)
    (h : Q (.int 13 (s.toks + 1)) { s with toks := s.toks + 1 + 1 }) : wpAny (model prog w) A (call (.builtin "len") [.ref 85]) Q E s :=
  call_len_dict (knd := intKind prog w) (kvs := lutKv) (by decide) (lutAt (X.keeps F.keep)).dictOf (by decide) h
theorem lut_item {prog : Program} {w : World} {A : Around} {P : Params} {E : Value → Shared → Prop} {s : Shared} {g : Heap} {L : Addr} {m : Str → Option Value} {Q : Value → Shared → Prop} {value slice : PySem.Expr} {i : Nat} {x : Int} {t : Tok} (X : (hd.heap_39 P).In g) (F : Fr g L s.heap m)
    (hi : i < 13) (hx : x = ((lutKeys.getD i 0 : Nat) : Int)) (h : Q (.ref (86 + i)) { s with toks := s.toks + 1 })
    (hs : subscripted slice false (.ref 85) (.int x t) = operate [.ref 85, .int x t] (getItem (.ref 85) (.int x t))) :
    wpAny (model prog w) A (subscriptTail value slice (.ref 85) (.int x t)) Q E s := by
  subst hx
  have hd : s.heap.DictOf (intKind prog w) 85 lutKv := (lutAt (X.keeps F.keep)).dictOf
  refine tail_any hd.typeIs slot_dict_getitem.lookup (wpAny_getItem_of (k := ((lutKeys.getD i 0 : Nat) : Int)) (by simp [intKind, Value.isInt]) hd.mapOf (lut_val i hi) h) hs
def tab (i : Nat) : List Nat := tabN (lutKeys.getD i 0)
def tabTok : Nat → Nat
  | 0 => 790
  | 1 => 799
  | 2 => 811
  | 3 => 826
  | 4 => 843
  | 5 => 861
  | 6 => 880
  | 7 => 900
  | 8 => 922
  | 9 => 946
  | 10 => 972
  | 11 => 1000
  | 12 => 1030
  | _ => 0
theorem tab_at (P : Params) : ∀ i : Nat, i < 13 → List.lookup (86 + i) (hd.heap_39 P) = some ⟨.type "list", none, .seq (mkV (tabTok i) (tab i)).toArray 0, #[]⟩
  | 0, _ => by kernel_rfl
  | 1, _ => by kernel_rfl
  | 2, _ => by kernel_rfl
  | 3, _ => by kernel_rfl
  | 4, _ => by kernel_rfl
  | 5, _ => by kernel_rfl
  | 6, _ => by kernel_rfl
  | 7, _ => by kernel_rfl
  | 8, _ => by kernel_rfl
  | 9, _ => by kernel_rfl
  | 10, _ => by kernel_rfl
  | 11, _ => by kernel_rfl
  | 12, _ => by kernel_rfl
  | n + 13, h => absurd h (by omega)
theorem tab_list {P : Params} {g : Heap} (X : (hd.heap_39 P).In g) {i : Nat} (hi : i < 13) : g.IsList (86 + i) (mkV (tabTok i) (tab i)).toArray := lstK X (tab_at P i hi)
end
section
open PySem PySem.W PySem.Calls PyProof.Rows
theorem item_walk {prog : Program} {w : World} {A : Around} {E : Value → Shared → Prop} {s : Shared} {g : Heap} {L : Addr} {news : List (Addr × Obj)} {Q : Value → Shared → Prop} {value slice : PySem.Expr} {D : Addr} {us : List Value} {c : Nat} {ns : List Nat} {r : Int} {u : Tok}
    (N : News g L s.heap news) (hm : (D, listOf (List.toArray us) c) ∈ news) (hv : Nums us ns) (h0 : 0 ≤ r) (h1 : r < (ns.length : Int)) (hn : ns.length < 1000)
    (h : ∀ (i : Nat) t, i < ns.length → Q (.int ((ns.getD i 0 : Nat) : Int) t) s)
    (hs : subscripted slice false (.ref D) (.int r u) = operate [.ref D, .int r u] (getItem (.ref D) (.int r u))) :
    wpAny (model prog w) A (subscriptTail value slice (.ref D) (.int r u)) Q E s := by
  have hl : s.heap.IsList D (List.toArray us) := News.isList N hm
  have hi : r.toNat < ns.length := by omega
  obtain ⟨t, ht⟩ := hv.get r.toNat ((ns.getD r.toNat 0 : Nat) : Int) (by rw [List.getElem?_map, List.getD_eq_getElem?_getD, List.getElem?_eq_getElem hi]; rfl)
  exact tail_any hl.typeIs slot_list_getitem.lookup (wpAny_getItem_list hl h0 (by omega) (by simpa using ht) (h _ t hi)) hs
theorem key_facts (i : Nat) (h : i < 13) : 7 ≤ lutKeys.getD i 0 ∧ lutKeys.getD i 0 ≤ 30 := by
  have key : ∀ i : Fin 13, 7 ≤ lutKeys.getD i.val 0 ∧ lutKeys.getD i.val 0 ≤ 30 := by decide
  exact key ⟨i, h⟩
theorem tab_facts (i : Nat) (h : i < 13) : (tab i).length = lutKeys.getD i 0 + 1 ∧ (tab i).getD 0 0 = 1 ∧ Small (tab i) ∧ ∀ j, j < lutKeys.getD i 0 → horner (powE j) (tab i) = 0 := by
  obtain ⟨h1, h2, h3⟩ := tabN_facts (lutKeys.getD i 0)
  have k := key_facts i h
  refine ⟨h1, h2, Small.of h3, fun j hj => ?_⟩
  rw [powE, Nat.mod_eq_of_lt (by omega)]
  exact tabN_zero j _ hj
theorem horner_add (root : Nat) (l : List Nat) (x : Nat) : horner root (l ++ [x]) = times (horner root l) root ^^^ x := by
  unfold horner
  rw [List.foldl_append]
  rfl
theorem horner_lt (root : Nat) : ∀ (l : List Nat) (c : Nat), c < 256 → (∀ x ∈ l, x < 256) → l.foldl (fun told e => times told root ^^^ e) c < 256
  | [], _, h, _ => h
  | x :: l, c, h, hl => by
    rw [List.foldl_cons]
    exact horner_lt root l _ (xor_lt (n := 8) (times_lt h) (hl x (.head _))) fun y hy => hl y (.tail _ hy)
theorem horner_step {root : Nat} {l : List Nat} {j : Nat} (h : j < l.length) : horner root (l.take (j + 1)) = times (horner root (l.take j)) root ^^^ l.getD j 0 := by
  rw [List.take_succ_eq_append_getElem h, horner_add, List.getD_eq_getElem?_getD, List.getElem?_eq_getElem h]
  rfl
theorem horner_take_lt {root : Nat} {l : List Nat} (h : Small l) (j : Nat) : horner root (l.take j) < 256 :=
  horner_lt root _ 0 (by decide) fun x hx => h.mem x (List.mem_of_mem_take hx)
theorem mkV_len : ∀ (ns : List Nat) (t : Nat), (mkV t ns).length = ns.length
  | [], _ => rfl
  | _ :: r, t => by rw [mkV, List.length_cons, List.length_cons, mkV_len r]
theorem tab_len {prog : Program} {w : World} {A : Around} {P : Params} {E : Value → Shared → Prop} {s : Shared} {g : Heap} {L : Addr} {m : Str → Option Value} {Q : Value → Shared → Prop} {i : Nat} (X : (hd.heap_39 P).In g) (F : Fr g L s.heap m) (hi : i < 13)
    (h : ∀ t tk, Q (.int ((lutKeys.getD i 0 : Nat) + 1 : Int) t) { s with toks := tk }) : wpAny (model prog w) A (call (.builtin "len") [.ref (86 + i)]) Q E s := by
  have hl : s.heap.IsList (86 + i) (mkV (tabTok i) (tab i)).toArray := (tab_list X hi).at fun o e => F.keep _ o e
  have e : (mkV (tabTok i) (tab i)).toArray.size = lutKeys.getD i 0 + 1 := by rw [List.size_toArray, mkV_len, (tab_facts i hi).1]
  have kf := key_facts i hi
  refine call_len_list hl (by rw [e]; omega) ?_
  rw [e]
  exact h _ _
theorem tab_item0 {prog : Program} {w : World} {A : Around} {P : Params} {E : Value → Shared → Prop} {s : Shared} {g : Heap} {L : Addr} {m : Str → Option Value} {Q : Value → Shared → Prop} {value slice : PySem.Expr} {i : Nat} {u : Tok} (X : (hd.heap_39 P).In g) (F : Fr g L s.heap m) (hi : i < 13)
    (h : ∀ t, Q (.int 1 t) s)
    (hs : subscripted slice false (.ref (86 + i)) (.int 0 u) = operate [.ref (86 + i), .int 0 u] (getItem (.ref (86 + i)) (.int 0 u))) : wpAny (model prog w) A (subscriptTail value slice (.ref (86 + i)) (.int 0 u)) Q E s := by
  have hl : s.heap.IsList (86 + i) (mkV (tabTok i) (tab i)).toArray := (tab_list X hi).at fun o e => F.keep _ o e
  have kf := tab_facts i hi
  have hp : 0 < (tab i).length := by omega
  obtain ⟨t, ht⟩ := (mkV_ints (tab i) (tabTok i)).get 0 1 (by rw [List.getElem?_map, List.getElem?_eq_getElem hp]; have := kf.2.1; rw [List.getD_eq_getElem?_getD, List.getElem?_eq_getElem hp] at this; exact congrArg some (congrArg _ this))
  exact tail_any hl.typeIs slot_list_getitem.lookup (wpAny_getItem_list hl (by omega) (by omega) (by simpa using ht) (h t)) hs
theorem map_at {ns : List Nat} {j : Nat} {a : Int} (h : (ns.map fun n => ((n : Nat) : Int))[j]? = some a) : j < ns.length ∧ a = ((ns.getD j 0 : Nat) : Int) := by
  have hj : j < ns.length := by
    have := (List.getElem?_eq_some_iff.mp h).1
    rwa [List.length_map] at this
  rw [List.getElem?_map, List.getElem?_eq_getElem hj] at h
  refine ⟨hj, ?_⟩
  rw [List.getD_eq_getElem?_getD, List.getElem?_eq_getElem hj]
  exact (Option.some.inj h).symm
theorem root_fact {g h : Heap} {L : Addr} {m : Str → Option Value} {i wd : Nat} {r z : Int} {t1 t2 : Tok}
    (F : Fr g L h (fun y => if y = Str.ofString "told" then some (.int z t1) else if y = Str.ofString "root" then some (.int ((powE r.toNat : Nat) : Int) t2) else m y)) (hi : i < 13) (hw : lutKeys.getD i 0 = wd) (h0 : 0 ≤ r) (h1 : r < (wd : Int)) :
    ∃ root : Nat, root < 256 ∧ horner root (tab i) = 0 ∧ Fr g L h (fun y => if y = Str.ofString "told" then some (.int z t1) else if y = Str.ofString "root" then some (.int ((root : Nat) : Int) t2) else m y) :=
  ⟨powE r.toNat, pow2_lt _, (tab_facts i hi).2.2.2 _ (by omega), F⟩
end
section
open PySem PySem.W PySem.Calls PyProof.Rows
local macro_rules | `(tactic| k_inst) => `(tactic| exact instUp (by assumption) (Fr.keep (by k_asm)))
local macro_rules | `(tactic| walk_at "BJ.eqN") => `(tactic| first | (with_reducible assumption) | (with_reducible rfl) | exact toN (by omega))
local macro_rules | `(tactic| walk_at "BJ.after") => `(tactic| (intro h9 tk9 t9 hk9; (with_reducible rename Fr _ _ _ _ => kF); (with_reducible rename News _ _ _ _ => kN); have kF9 := Fr.keeps kF hk9; have kN9 := News.keepsAll kN hk9; (try k_sweep); clear hk9; (try dsimp only)))
local macro_rules | `(tactic| walk_at "BJ.room") => `(tactic| first | (dsimp only [Around.deeper]; omega) | decide)
local macro_rules | `(tactic| walk_at "subscriptTail Name Slice ref ref") => `(tactic| (k_here; (with_reducible show wpAny _ _ (subscriptTail _ (PySem.Expr.Slice _ _ none _) (Value.ref _) (Value.ref _)) _ _ _); k_dflt (refine' kms_slice_lit ?F ?N ?l ?p ?q rfl ?_ ?s ?t ?z; (case F => k_asm); (case N => k_asm); (case l => kmk_list); (case p => kmk_part); (case q => kmk_part); (case s => with_unfolding_all rfl); (case t => kmk_pure); (case z => first | assumption | kmk_size)); intro D' h' F' N' l1; (try k_lt l1); (try k_sweep)))
local macro_rules | `(tactic| walk_at "call ref") => `(tactic| refine Stop.out ?_)
local macro_rules | `(tactic| walk_at "call ref") => `(tactic| (
  (with_reducible show wpAny _ _ (PySem.call (Value.ref 105) _ _) _ _ _);
  k_dflt (refine' next_walk ?jG ?jF ?jN ?jU ?jO ?jsc ?jne ?ji ?jl ?jhr ?ja1 ?ja2 ?_; (case jG => assumption); (case jF => k_asm); (case jN => k_asm); (case jU => k_dflt k_updF); (case jO => assumption); (case jsc => k_dflt k_mem); (case jne => k_ne); (case ji => assumption); (case jl => assumption); (case jhr => walk_at "BJ.room"); (case ja1 => omega); (case ja2 => omega));
  intro h9 tk9 t9 r9 o9 q9 p9 O9 kF9 kN9; (try k_sweep); (try dsimp only)))
local macro_rules | `(tactic| walk_at "call ref") => `(tactic| (
  (with_reducible show wpAny _ _ (PySem.call (Value.ref 23) _ _) _ _ _);
  k_dflt (refine' glog_specN ?jG ?jk ?jhr ?ja1 ?ja2 ?ja3 ?_; (case jk => exact Fr.keep (by k_asm)); (case jG => assumption); (case jhr => walk_at "BJ.room"); (case ja1 => walk_at "BJ.eqN"); (case ja2 => first | assumption | omega); (case ja3 => first | assumption | omega));
  k_dflt walk_at "BJ.after"))
local macro_rules | `(tactic| walk_at "call ref") => `(tactic| (
  (with_reducible show wpAny _ _ (PySem.call (Value.ref 30) _ _) _ _ _);
  k_dflt (refine' gexp_spec ?jG ?jk ?jhr ?ja1 ?ja2 ?_; (case jk => exact Fr.keep (by k_asm)); (case jG => assumption); (case jhr => walk_at "BJ.room"); (case ja1 => omega); (case ja2 => omega));
  k_dflt walk_at "BJ.after"))
local macro_rules | `(tactic| walk_at "call ref") => `(tactic| (
  (with_reducible show wpAny _ _ (PySem.call (Value.ref 112) _ _) _ _ _);
  k_dflt (refine' times_specN ?jG ?jk ?jhr ?ja1 ?ja2 ?ja3 ?ja4 ?_; (case jk => exact Fr.keep (by k_asm)); (case jG => assumption); (case jhr => walk_at "BJ.room"); (case ja1 => walk_at "BJ.eqN"); (case ja2 => walk_at "BJ.eqN"); (case ja3 => first | assumption | omega); (case ja4 => first | assumption | omega));
  k_dflt walk_at "BJ.after"))
local macro_rules | `(tactic| walk_at "call ref") => `(tactic| (
  (with_reducible show wpAny _ _ (PySem.call (Value.ref 119) _ _) _ _ _);
  k_dflt (refine' power_specN ?jG ?jk ?jhr ?ja1 ?ja2 ?_; (case jk => exact Fr.keep (by k_asm)); (case jG => assumption); (case jhr => walk_at "BJ.room"); (case ja1 => walk_at "BJ.eqN"); (case ja2 => first | assumption | omega));
  k_dflt walk_at "BJ.after"))
local macro_rules | `(tactic| walk_at "exec If") => `(tactic| refine Stop.out ?_)
local macro_rules | `(tactic| walk_at "exec Assign cons ListComp") => `(tactic| refine Stop.out ?_)
local macro_rules | `(tactic| walk_at "pyIter ref") => `(tactic| refine Stop.out ?_)
local macro_rules | `(tactic| walk_at "call builtin:len") => `(tactic| (
  (with_reducible show wpAny _ _ (PySem.call (Value.builtin "len") [Value.ref 85]) _ _ _);
  k_dflt (refine' lut_len (Gr.X (by assumption)) ?jF ?_; (case jF => k_asm)); (try dsimp only)))
local macro_rules | `(tactic| walk_at "exec Assign cons IfExp") => `(tactic| refine Stop.out ?_)
local macro_rules | `(tactic| walk_at "CompSrc") => `(tactic| refine Stop.out ?_)
local macro_rules | `(tactic| walk_at "subscriptTail") => `(tactic| ((with_reducible show wpAny _ _ (subscriptTail _ _ (Value.ref _) (Value.int _ _)) _ _ _); refine Stop.out ?_))
local macro_rules | `(tactic| walk_at "call builtin:len") => `(tactic| ((with_reducible show wpAny _ _ (PySem.call (Value.builtin "len") [Value.ref (86 + _)]) _ _ _); refine Stop.out ?_))
local macro_rules | `(tactic| walk_at "exec For") => `(tactic| ((with_reducible show wpAny _ _ (exec (Stmt.For (Expr.Name _ _) (Expr.Subscript _ _ _) _ [] _) _) _ _ _); (with_reducible rename Fr _ _ _ _ => lF); k_dflt (refine' For_invVF lF ?qf1 ?qf2 ?_; (case qf1 => exact rfl); (case qf2 => exact rfl))))
theorem pick50 {vs : List Value} {ns : List Int} (h : IntsAre vs ns) (hl : ns.length < 64) : ∃ ks, IntsAre (kms_pick vs none (some 50)) ks ∧ ks.length < 1000 := by
  refine ⟨_, (h.drop _).take _, ?_⟩
  rw [List.length_take, List.length_drop]
  omega
theorem st_of {g h : Heap} {L st sc : Addr} {a b : Tok} {rest : List (Addr × Obj)} (_N : News g L h ((st, listOf #[.ref sc, .int 0 a, .int 17 b] 0) :: rest)) (k : Nat) : StO sc k (listOf #[.ref sc, .int 0 a, .int 17 b] 0) :=
  ⟨0, 17, _, _, _, rfl, by decide, by omega, by decide, by decide⟩
theorem facts3 {g h : Heap} {L : Addr} {m : Str → Option Value} {r1 r2 r3 : Int} {t1 t2 t3 : Tok} (_F : Fr g L h (fun y => if y = Str.ofString "one" then some (.int (1 + r1) t1) else if y = Str.ofString "other" then some (.int (1 + r2) t2) else if y = Str.ofString "exponent" then some (.int r3 t3) else m y))
    (h1 : 0 ≤ r1) (h2 : r1 < 255) (h3 : 0 ≤ r2) (h4 : r2 < 255) (h5 : 0 ≤ r3) (h6 : r3 < 700) :
    ∃ a b e : Nat, 1 + r1 = (a : Int) ∧ 1 + r2 = (b : Int) ∧ r3 = (e : Int) ∧ a ≠ 0 ∧ a < 256 ∧ b ≠ 0 ∧ b < 256 ∧ e < 700 ∧ lg a < 256 ∧ lg b < 256 ∧ ((gx ((lg a : Nat) + (lg b : Nat) : Int) : Nat) : Int) = (times a b : Nat) ∧ ((gx (e : Int) : Nat) : Int) = (powE e : Nat) ∧
      gx (e : Int) ≠ 0 ∧ gx (e : Int) < 256 ∧ ((lg (gx (e : Int)) : Nat) : Int) = (e : Int).fmod 255 := by
  obtain ⟨a, ha⟩ := Int.eq_ofNat_of_zero_le (a := 1 + r1) (by omega)
  obtain ⟨b, hb⟩ := Int.eq_ofNat_of_zero_le (a := 1 + r2) (by omega)
  obtain ⟨e, rfl⟩ := Int.eq_ofNat_of_zero_le h5
  have a0 : a ≠ 0 := by omega
  have b0 : b ≠ 0 := by omega
  have a1 : a < 256 := by omega
  have b1 : b < 256 := by omega
  refine ⟨a, b, e, ha, hb, rfl, a0, a1, b0, b1, by omega, lg_lt _ a1, lg_lt _ b1, congrArg _ (gx_times a0 b0 a1 b1), congrArg _ (gx_pow e), gx_ne _, gx_lt _, ?_⟩
  rw [lg_gx, Int.fmod_eq_emod_of_nonneg _ (by decide)]
  rfl
theorem news_sub {g h : Heap} {L : Addr} {all l : List (Addr × Obj)} (N : News g L h all) (sub : ∀ p ∈ l, p ∈ all) : News g L h l := fun p hp => N p (sub p hp)
theorem rangeN {h : Heap} {r : Addr} {x : Int} {t u v : Tok} (_R : IsRange h r 0 (1 + x) 1 t u v) (h0 : 0 ≤ x) (h1 : x < 9) : ∃ n : Nat, 1 + x = (n : Int) ∧ 1 ≤ n ∧ n ≤ 9 :=
  ⟨(1 + x).toNat, by omega, by omega, by omega⟩
def Row (i : Nat) (ys : List Value) : Prop := ∃ ns : List Nat, Nums ys ns ∧ ns.length = i ∧ Small ns
theorem Row.nil : Row 0 [] := ⟨[], .nil, rfl, fun _ => (by decide : (0 : Nat) < 256)⟩
theorem Row.add {i : Nat} {ys : List Value} {x : Int} {t : Tok} (h : Row i ys) (h0 : 0 ≤ x) (h1 : x < 256) : Row (i + 1) (ys ++ [.int x t]) := by
  obtain ⟨ns, a, b, c⟩ := h
  obtain ⟨n, rfl⟩ := Int.eq_ofNat_of_zero_le h0
  refine ⟨ns ++ [n], ?_, by rw [List.length_append, b]; rfl, Small.of fun y hy => ?_⟩
  · show IntsAre _ _
    rw [List.map_append]
    exact IntsAre.append a (.cons _ _ .nil)
  · rcases List.mem_append.mp hy with hy | hy
    · exact c.mem y hy
    · rw [List.mem_singleton.mp hy]; omega
theorem rowPos {ns : List Nat} {M : Int} (h : M ∈ List.map (fun n => ((n : Nat) : Int)) ns) (h0 : 0 < M) : ∃ i, ns.getD i 0 ≠ 0 := by
  obtain ⟨n, hn, rfl⟩ := List.mem_map.mp h
  obtain ⟨i, hi, rfl⟩ := List.getElem_of_mem hn
  refine ⟨i, ?_⟩
  rw [List.getD_eq_getElem?_getD, List.getElem?_eq_getElem hi]
  show ns[i] ≠ 0
  omega
/-- behind the row: it stands at D -/
def Mid1 (s1 : Shared) (st sc : Addr) (oc : Obj) (us : List Value) (ks : List Int) (a b : Nat) (s' : Shared) : Prop :=
  ∃ (h : Heap) (tk : Nat) (o : Obj) (D : Addr) (vs : List Value) (ns : List Nat) (c : Nat) (m' : Str → Option Value) (t1 t2 : Tok), s' = { s1 with heap := h, toks := tk } ∧
    Fr s1.heap s1.heap.objs.size h (fun y => if y = Str.ofString "one" then some (.int (a : Int) t1) else if y = Str.ofString "other" then some (.int (b : Int) t2) else if y = Str.ofString "row" then some (.ref D) else m' y) ∧
    News s1.heap s1.heap.objs.size h [(D, listOf (List.toArray vs) c), (st, o), (sc, listOf (List.toArray us) 0), (s1.heap.objs.size + 1, oc)] ∧ (@Ne Nat D st ∧ @Ne Nat D sc ∧ @Ne Nat D (s1.heap.objs.size + 1)) ∧
    StO sc ks.length o ∧ Nums vs ns ∧ 1 ≤ ns.length ∧ ns.length ≤ 9 ∧ Small ns ∧ ∃ i, ns.getD i 0 ≠ 0
theorem facts2 {g h : Heap} {L : Addr} {m : Str → Option Value} {r1 r2 : Int} {t1 t2 : Tok} (_F : Fr g L h (fun y => if y = Str.ofString "shift" then some (.int r1 t1) else if y = Str.ofString "many" then some (.int (1 + r2) t2) else m y))
    (h1 : 0 ≤ r1) (h2 : r1 < 9) (h3 : 0 ≤ r2) (h4 : r2 < 6) : ∃ sh k : Nat, r1 = (sh : Int) ∧ 1 + r2 = (k : Int) ∧ sh < 9 ∧ 1 ≤ k ∧ k ≤ 6 :=
  ⟨r1.toNat, (1 + r2).toNat, by omega, by omega, by omega, by omega, by omega⟩
/-- behind the divisor and the polynomial -/
def Mid2 (s1 : Shared) (st sc : Addr) (oc : Obj) (us : List Value) (ks : List Int) (D : Addr) (vs : List Value) (c sh : Nat) (s' : Shared) : Prop :=
  ∃ (h : Heap) (tk : Nat) (o : Obj) (dD : Addr) (dvs : List Value) (dc : Nat) (x dx l : Addr) (pvs : List Value) (hsh : Int) (tkx : Tok) (nx cx : Nat) (dns : List Nat) (m' : Str → Option Value) (t : Tok), s' = { s1 with heap := h, toks := tk } ∧
    Fr s1.heap s1.heap.objs.size h (fun y => if y = Str.ofString "shift" then some (.int (sh : Int) t) else if y = Str.ofString "row" then some (.ref D) else if y = Str.ofString "divisor" then some (.ref dD) else if y = Str.ofString "poly" then some (.ref x) else m' y) ∧
    News s1.heap s1.heap.objs.size h [(x, instObj 80 dx), (dx, pDict hsh tkx l nx), (l, listOf (List.toArray pvs) cx), (dD, listOf (List.toArray dvs) dc), (D, listOf (List.toArray vs) c), (st, o), (sc, listOf (List.toArray us) 0), (s1.heap.objs.size + 1, oc)] ∧
    StO sc ks.length o ∧ Nums dvs dns ∧ Nums pvs dns ∧ 2 ≤ dns.length ∧ dns.length ≤ 7 ∧ Small dns ∧ (∀ i, i < dns.length → dns.getD i 0 ≠ 0)
/-- ahead of the i-th turn of branch 0 -/
def PJ (s1 : Shared) (st sc : Addr) (oc : Obj) (us : List Value) (ks : List Int) (D : Addr) (vs : List Value) (c sh : Nat) (i : Nat) (m₁ : Str → Option Value) (news₁ : List (Addr × Obj)) : Prop :=
  ∃ (o : Obj) (dD : Addr) (dvs : List Value) (dc : Nat) (x dx l : Addr) (pvs : List Value) (hsh : Int) (tkx : Tok) (nx cx : Nat),
    news₁ = [(x, instObj 80 dx), (dx, pDict hsh tkx l nx), (l, listOf (List.toArray pvs) cx), (dD, listOf (List.toArray dvs) dc), (D, listOf (List.toArray vs) c), (st, o), (sc, listOf (List.toArray us) 0), (s1.heap.objs.size + 1, oc)] ∧
    StO sc ks.length o ∧ Nums dvs (gen i) ∧ Nums pvs (gen i) ∧ m₁ (Str.ofString "divisor") = some (.ref dD) ∧ m₁ (Str.ofString "poly") = some (.ref x) ∧ m₁ (Str.ofString "row") = some (.ref D) ∧ ∃ t : Tok, m₁ (Str.ofString "shift") = some (.int (sh : Int) t)
theorem len2 (x y : Nat) : 1 ≤ [x, y].length ∧ [x, y].length < 1000 ∧ [x, y].length < 100 := ⟨by show 1 ≤ 2; decide, by show 2 < 1000; decide, by show 2 < 100; decide⟩
theorem pair_nz {x y : Nat} (h1 : x ≠ 0) (h2 : y ≠ 0) : (∀ i, i < [x, y].length → [x, y].getD i 0 ≠ 0) ∧ True := by
  refine ⟨fun i hi => ?_, trivial⟩
  match i, hi with
  | 0, _ => exact h1
  | 1, _ => exact h2
theorem pair_small {x y : Nat} (h1 : x < 256) (h2 : y < 256) : Small [x, y] := Small.of fun z hz => by
  rcases List.mem_cons.mp hz with rfl | hz
  · exact h1
  · rw [List.mem_singleton.mp hz]; exact h2
theorem cmpBackRef {Q : Value → Shared → Prop} {x : Addr} {s : Shared} (h : Q (.ref x) s) : PySem.W.CmpBack Q (.ref x) s := h
theorem off1_mem {D : Addr} : ∀ {l : List (Addr × Obj)}, LCg.Off1 D l → ∀ p ∈ l, p.1 ≠ D
  | [], _, _, h => nomatch h
  | _ :: _, x, p, h => by
    rcases List.mem_cons.mp h with rfl | h
    · exact x.1
    · exact off1_mem x.2 p h
def RowNZ (i : Nat) (ys : List Value) : Prop := ∃ ns : List Nat, Nums ys ns ∧ ns.length = i ∧ Small ns ∧ ∀ j, j < ns.length → ns.getD j 0 ≠ 0
theorem RowNZ.nil : RowNZ 0 [] := ⟨[], .nil, rfl, fun _ => (by decide : (0 : Nat) < 256), fun j hj => absurd hj (Nat.not_lt_zero j)⟩
theorem RowNZ.add {i : Nat} {ys : List Value} {x : Int} {t : Tok} (h : RowNZ i ys) (h0 : 1 ≤ x) (h1 : x < 256) : RowNZ (i + 1) (ys ++ [.int x t]) := by
  obtain ⟨ns, a, b, c, d⟩ := h
  obtain ⟨n, rfl⟩ := Int.eq_ofNat_of_zero_le (a := x) (by omega)
  refine ⟨ns ++ [n], ?_, by rw [List.length_append, b]; rfl, Small.of fun y hy => ?_, fun j hj => ?_⟩
  · show IntsAre _ _
    rw [List.map_append]
    exact IntsAre.append a (.cons _ _ .nil)
  · rcases List.mem_append.mp hy with hy | hy
    · exact c.mem y hy
    · rw [List.mem_singleton.mp hy]; omega
  · rw [List.getD_eq_getElem?_getD]
    by_cases q : j < ns.length
    · rw [List.getElem?_append_left q, ← List.getD_eq_getElem?_getD]; exact d j q
    · have : j = ns.length := by rw [List.length_append] at hj; have : j < ns.length + 1 := hj; omega
      rw [this, List.getElem?_append_right (Nat.le_refl _), Nat.sub_self]
      show n ≠ 0
      omega
theorem least_id : ∀ {ns : List Nat}, ns.getD 0 0 ≠ 0 → least ns = ns
  | [], _ => rfl
  | [_], _ => rfl
  | x :: y :: r, h => by
    have h : x ≠ 0 := h
    unfold least
    rw [if_neg h]
theorem wpAny_stage {M : Model} {A : Around} {t : Sem Flow} {Q : Flow → Shared → Prop} {E : Value → Shared → Prop} {s : Shared} (Mid : Shared → Prop) (first : wpAny M A t (fun f s' => f = Flow.next ∧ Mid s') E s) (rest : ∀ s', Mid s' → Q .next s') : wpAny M A t Q E s :=
  wpAny_mono first (by rintro _ _ ⟨rfl, m⟩; exact rest _ m) (fun _ _ e => e)
theorem T1 : PySem.Challenge.rw_bj0060_01.Holds := by
  refine hd ?_
  w_strict (
    k_go0
    all_goals try k_fold
    k_steps
    refine Stop.mk ?_
    rename_i sc _ lt1 st _ lt2 _ oc F0 N0 dc
    (rename Shared => s1)
    (with_reducible rename Frag.In _ _ => KX9); (with_reducible rename Top _ _ _ _ _ _ => T9); (with_reducible rename IntsAre _ _ => hI9)
    have GG := Gr.mk KX9 T9
    obtain ⟨ks, hks, hkl⟩ := pick50 hI9 (by omega)
    (generalize kms_pick _ none (some 50) = us at N0 hks)
    have hO9 := st_of N0 ks.length
    k_steps
    (with_reducible rename Fr _ _ _ _ => F1)
    obtain ⟨a, b, e, ha, hb, he, a0, a1, b0, b1, e1, la, lb, f1, f2, g0, g1, f3⟩ := facts3 F1 (by assumption) (by assumption) (by assumption) (by assumption) (by assumption) (by assumption)
    rw [ha, hb, he] at F1
    refine wpAny_If ?_
    k_steps
    refine Stop.mk ?_
    (with_reducible rename Fr _ _ _ _ => F2)
    (with_reducible rename News _ _ _ _ => N2)
    have N3 := news_sub (l := [(st, _), (sc, listOf us.toArray 0), (_, oc)]) N2 (by lcg_sub)
    clear N2
    refine' LCg.Assign_ListComp_U (hs := ?hs) (F₀ := ?F0) ?b1 ?b2 ?b3 ?b4 ?b5 ?b6 ?b7 ?b8 ?b9 ?_
    case F0 => exact F2
    case hs => intro _; rfl
    case b1 => rfl
    case b2 => with_unfolding_all rfl
    case b3 => with_unfolding_all rfl
    case b4 => decide
    case b5 => rfl
    case b6 => decide
    case b7 => rfl
    case b8 => rfl
    case b9 => rfl
    k_steps
    refine Stop.mk ?_
    (with_reducible rename Fr _ _ _ _ => F4)
    (with_reducible rename News _ _ _ _ => N4)
    (with_reducible rename IsRange _ _ _ _ _ _ _ _ => rg4)
    obtain ⟨n, hn, n1, n9⟩ := rangeN rg4 (by assumption) (by assumption)
    rw [hn] at rg4
    have N5 := news_sub (l := [(st, _), (sc, listOf us.toArray 0), (_, oc)]) N4 (by lcg_sub)
    clear N4
    refine' LCg.CompSrc.range (n := n) ?c1 ?c2 ?c3 ?c4 ?c5 ?c6 ?c7 ?_
    case c1 => rfl
    case c2 => exact F4
    case c3 => exact N5
    case c4 => exact rg4
    case c5 => exact small_one (by omega) (by omega) (by omega) (by omega)
    case c6 => rw [rangeSize_one]; split <;> omega
    case c7 => exact Nat.le_trans n9 (by decide)
    intro g5
    refine' compRest_inv (n := n) (fun i ys news => ∃ o', news = [(st, o'), (sc, listOf us.toArray 0), (s1.heap.objs.size + 1, oc)] ∧ StO sc ks.length o' ∧ Row i ys) ?turn ?fin n 0 [] _ ?e0 ?J0
    case e0 => omega
    case J0 => exact ⟨_, rfl, by assumption, Row.nil⟩
    case turn =>
      rintro i ys news v I oI C oC D m₂ h2 tk2 E' hi ⟨o', rfl, hO', hrow⟩ ⟨t, rfl⟩ hC hx F5 N6 off ne
      clear F4 N5
      simp only [LCg.Off3, and_true] at off
      dsimp only
      k_steps
      · assumption
      · refine Row.add hrow ?_ ?_ <;> split <;> omega
    case fin =>
      rintro ys news ⟨o', rfl, hO', ns, hns, hlen, hsm⟩
      unfold LCg.FinA
      intro D h3 tk3 F6 N6 off
      clear F4 N5
      simp only [LCg.Off1, and_true] at off
      dsimp only
      k_steps
      refine Stop.mk ?_
      refine wpAny_stage (Mid1 s1 st sc oc us ks a b) ?first ?rest
      case first =>
        refine wpAny_Assign_Name ?_
        k_steps
        · trivial
        · (with_reducible rename Fr _ _ _ _ => F7)
          (with_reducible rename News _ _ _ _ => N7)
          (rename _ ∈ List.map _ ns => hM)
          exact ⟨_, _, o', D, ys, ns, _, _, _, _, rfl, frA (a := "one") (frA (a := "other") (frA (a := "row") F7 rfl) rfl) rfl, N7, ⟨Ne.symm off.1, Ne.symm off.2.1, Ne.symm off.2.2⟩, hO', hns, by omega, by omega, hsm, rowPos hM (by assumption)⟩
        · (with_reducible rename Fr _ _ _ _ => F7)
          (with_reducible rename News _ _ _ _ => N7)
          have hpk := pick_from hns 1
          refine' kmk_add_ints F7 N7 (News.isList N7 (.tail _ (.head _))) (News.isList N7 (.head _)) hpk (.cons (a : Int) _ .nil) ?_ ?z1
          case z1 =>
            rw [List.length_drop, List.length_map, sizeLine_eq, hlen]
            show n - 1 + 1 ≤ _
            omega
          intro D8 us8 h8 F8 N8 l8 hus8
          k_lt l8
          clear F7 N7
          k_steps
          · trivial
          · (with_reducible rename Fr _ _ _ _ => F7)
            (with_reducible rename News _ _ _ _ => N7)
            refine ⟨_, _, o', D8, us8, ns.drop 1 ++ [a], _, _, _, _, rfl, frA (a := "one") (frA (a := "other") (frA (a := "row") F7 rfl) rfl) rfl, news_sub N7 (by lcg_sub), ⟨Ne.symm (Nat.ne_of_lt (by omega)), Ne.symm (Nat.ne_of_lt (by omega)), Ne.symm (Nat.ne_of_lt (by omega))⟩, hO', ?_, ?_, ?_, ?_, ?_⟩
            · refine intsCast hus8 ?_
              rw [List.map_append, List.map_drop]
              rfl
            · rw [List.length_append, List.length_drop, hlen]
              show 1 ≤ n - 1 + 1
              omega
            · rw [List.length_append, List.length_drop, hlen]
              show n - 1 + 1 ≤ 9
              omega
            · refine Small.of fun y hy => ?_
              rcases List.mem_append.mp hy with hy | hy
              · exact hsm.mem y (List.mem_of_mem_drop hy)
              · rw [List.mem_singleton.mp hy]; exact a1
            · refine ⟨(ns.drop 1).length, ?_⟩
              rw [List.getD_eq_getElem?_getD, List.getElem?_append_right (Nat.le_refl _), Nat.sub_self]
              exact a0
      case rest =>
        rintro s' ⟨h, tk, o, D, vs, ns, c, m', t1, t2, rfl, F1', N1', ⟨ne1, ne2, ne3⟩, hO1, hvs, hn1', hn9', hsm, hnz⟩
        dsimp only
        k_steps
        refine Stop.mk ?_
        (with_reducible rename Fr _ _ _ _ => F3)
        (with_reducible rename News _ _ _ _ => N3)
        obtain ⟨sh, k, hsh, hk, sh9, k1, k6⟩ := facts2 F3 (by assumption) (by assumption) (by assumption) (by assumption)
        rw [hsh, hk] at F3
        replace F3 := frA (a := "shift") (frA (a := "many") (frA (a := "row") F3 rfl) rfl) rfl
        refine wpAny_stage (Mid2 s1 st sc oc us ks D vs c sh) ?first2 ?rest2
        case first2 =>
          refine wpAny_If ?_
          k_steps
          · refine Stop.mk ?_
            rename_i dD _ lt5 dP _ F4 N4 lt6
            refine poly_walk (sh := 0) (ns := [1]) GG F4 N4 (by walk_at "BJ.room") (.head _) (.cons 1 _ .nil) (by decide) (by decide) (by decide) ?_
            intro h5 tk5 x0 dx0 l0 vs0 hs0 tkx0 nx0 cx0 k5 F5 N5 off5 _ hv0
            (dsimp only)
            clear F4 N4 off5
            k_steps
            refine Stop.mk ?_
            (with_reducible rename Fr _ _ _ _ => F6)
            (with_reducible rename News _ _ _ _ => N6)
            (with_reducible rename IsRange _ _ _ _ _ _ _ _ => rg6)
            have N7 := news_sub (l := [(x0, instObj 80 dx0), (dx0, pDict hs0 tkx0 l0 nx0), (l0, listOf (List.toArray vs0) cx0), (dD, listOf (List.toArray [.int 1 _]) 0), (D, listOf (List.toArray vs) c), (st, _), (sc, listOf (List.toArray us) 0), (s1.heap.objs.size + 1, oc)]) N6 (by lcg_sub)
            clear N6
            refine' loop_range (n := k) (fun m₀ i m₁ news₁ => PJ s1 st sc oc us ks D vs c sh i m₁ news₁) rfl rg6 ?lb1 ?lb2 ?lb3 F6 N7 ?lJ ?lturn ?ldone
            case lb1 => omega
            case lb2 => omega
            case lb3 => omega
            case lJ => exact ⟨_, dD, _, _, x0, dx0, l0, vs0, hs0, tkx0, nx0, cx0, rfl, by assumption, .cons 1 _ .nil, hv0, rfl, rfl, rfl, _, rfl⟩
            case lturn =>
              rintro i t I oI m₁ news₁ h7 tk7 hi ⟨o7, dD, dvs, dc, x, dx, l, pvs, hsx, tkx, nx, cx, rfl, hO7, hd7, hp7, e1, e2, e3, t7, e4⟩ hlt hne F7 N8
              clear F6 N7
              replace F7 := frB (a := "divisor") (frB (a := "poly") (frB (a := "row") (frB (a := "shift") F7 e4) e3) e2) e1
              obtain ⟨gl, gs, gz⟩ := gen_facts i (by omega)
              dsimp only
              k_steps
              refine Stop.mk ?_
              rename_i lq _ F8 N9 lt7
              refine product_walk (ns₁ := gen i) (ns₂ := [1, powE i]) GG F8 N9 (by walk_at "BJ.room") (by k_mem) hd7 (by omega) (by omega) gs (.head _) (.cons 1 _ (.cons _ _ .nil)) (len2 _ _).1 (len2 _ _).2.1 (Small.of fun y hy => ?_) ?_
              · rcases List.mem_cons.mp hy with rfl | hy
                · decide
                · rw [List.mem_singleton.mp hy]; exact pow2_lt _
              intro h8 tk8 D8 us8 c8 k8 F9 N10 off8 hu8
              (dsimp only)
              have hI8 := (off1_mem off8 (I, oI) (by k_mem))
              replace hI8 : @Ne Nat I D8 := hI8
              clear F8 N9 off8
              k_steps
              refine Stop.mk ?_
              rename_i lr _ F10 N11 lt8
              refine poly_walk (sh := 0) (ns := [1, powE i]) GG F10 N11 (by walk_at "BJ.room") (.head _) (by rw [← gx_pow]; exact .cons 1 _ (.cons _ _ .nil)) (len2 _ _).2.1 (len2 _ _).1 (by decide) ?_
              intro h11 tk11 x1 dx1 l1 vs1 hs1 tkx1 nx1 cx1 k11 F12 N12 off12 _ hv12
              replace hv12 : Nums vs1 [1, powE i] := hv12
              (dsimp only)
              clear F10 N11 off12
              k_steps
              refine Stop.mk ?_
              obtain ⟨z1, z2⟩ := pair_nz (x := 1) (y := powE i) (by decide) (by rw [← gx_pow]; exact gx_ne _)
              refine mul_walk (ns₁ := gen i) (ns₂ := [1, powE i]) GG F12 N12 (by walk_at "BJ.room") (polyOf (dx := dx) (l := l) N12 (by k_mem) (by k_mem) (by k_mem) hp7) (by omega) (by omega) gs gz (polyOf (dx := dx1) (l := l1) N12 (by k_mem) (by k_mem) (by k_mem) hv12) (len2 _ _).1 (len2 _ _).2.2 (pair_small (by decide) (pow2_lt _)) z1 ?_
              intro h13 tk13 x2 dx2 l2 vs2 hs2 tkx2 nx2 cx2 k13 F14 N14 off14 hv14
              refine cmpBackRef ?_
              (dsimp only)
              rw [gen_mul i (by omega)] at hv14
              have hI14 := (LCg.Off3.mem off14 (I, oI) (by k_mem))
              clear F12 N12 off14
              k_steps
              (with_reducible rename Fr _ _ _ _ => F15)
              (with_reducible rename News _ _ _ _ => N15)
              have N16 := news_sub (l := [(I, oI), (x2, instObj 80 dx2), (dx2, pDict hs2 tkx2 l2 nx2), (l2, listOf (List.toArray vs2) cx2), (D8, listOf (List.toArray us8) c8), (D, listOf (List.toArray vs) c), (st, o7), (sc, listOf (List.toArray us) 0), (s1.heap.objs.size + 1, oc)]) N15 (by lcg_sub)
              refine TEnd.next F15 N16 ?_ ⟨_, D8, us8, c8, x2, dx2, l2, vs2, hs2, tkx2, nx2, cx2, rfl, hO7, hu8, hv14, rfl, rfl, rfl, _, rfl⟩
              refine List.forall_mem_cons.mpr ⟨Ne.symm hI14.1, List.forall_mem_cons.mpr ⟨Ne.symm hI14.2.1, List.forall_mem_cons.mpr ⟨Ne.symm hI14.2.2, List.forall_mem_cons.mpr ⟨Ne.symm hI8, ?_⟩⟩⟩⟩
              exact fun q hq => hne q (.tail _ (.tail _ (.tail _ (.tail _ hq))))
            case ldone =>
              rintro h7 tk7 m₁ news₁ ⟨o7, dD, dvs, dc, x, dx, l, pvs, hsx, tkx, nx, cx, rfl, hO7, hd7, hp7, e1, e2, e3, t7, e4⟩ F7 N8
              clear F6 N7
              obtain ⟨gl, gs, gz⟩ := gen_facts k k6
              dsimp only
              k_steps
              · have F15 := F7
                have N15 := N8
                exact ⟨_, _, o7, dD, dvs, dc, x, dx, l, pvs, hsx, tkx, nx, cx, gen k, _, _, rfl, frA (a := "shift") (frA (a := "row") (frA (a := "divisor") (frA (a := "poly") F15 e2) e1) e3) e4, N15, hO7, hd7, hp7, by omega, by omega, gs, gz⟩
          · refine Stop.mk ?_
            (with_reducible rename Fr _ _ _ _ => F4)
            (with_reducible rename News _ _ _ _ => N4)
            have N5 := news_sub (l := [(D, listOf (List.toArray vs) c), (st, _), (sc, listOf (List.toArray us) 0), (s1.heap.objs.size + 1, oc)]) N4 (by lcg_sub)
            clear N4
            refine' LCg.Assign_ListComp_U (hs := ?dhs) (F₀ := ?dF0) ?d1 ?d2 ?d3 ?d4 ?d5 ?d6 ?d7 ?d8 ?d9 ?_
            case dF0 => exact F4
            case dhs => intro _; rfl
            case d1 => rfl
            case d2 => with_unfolding_all rfl
            case d3 => with_unfolding_all rfl
            case d4 => decide
            case d5 => rfl
            case d6 => decide
            case d7 => rfl
            case d8 => rfl
            case d9 => rfl
            k_steps
            refine Stop.mk ?_
            (with_reducible rename Fr _ _ _ _ => F5)
            (with_reducible rename News _ _ _ _ => N6)
            (with_reducible rename IsRange _ _ _ _ _ _ _ _ => rg5)
            have N7 := news_sub (l := [(D, listOf (List.toArray vs) c), (st, _), (sc, listOf (List.toArray us) 0), (s1.heap.objs.size + 1, oc)]) N6 (by lcg_sub)
            clear N6
            refine' LCg.CompSrc.range (n := k + 1) ?g1 ?g2 ?g3 ?g4 ?g5 ?g6 ?g7 ?_
            case g1 => rfl
            case g2 => exact F5
            case g3 => exact N7
            case g4 => exact rg5
            case g5 => exact small_one (by omega) (by omega) (by omega) (by omega)
            case g6 => rw [rangeSize_one]; split <;> omega
            case g7 => exact Nat.le_trans (by omega : k + 1 ≤ 9) (by decide)
            intro g5
            refine' compRest_inv (n := k + 1) (fun i ys news => ∃ o', news = [(D, listOf (List.toArray vs) c), (st, o'), (sc, listOf (List.toArray us) 0), (s1.heap.objs.size + 1, oc)] ∧ StO sc ks.length o' ∧ RowNZ i ys) ?bturn ?bfin (k + 1) 0 [] _ ?be0 ?bJ0
            case be0 => omega
            case bJ0 => exact ⟨_, rfl, by assumption, RowNZ.nil⟩
            case bturn =>
              rintro i ys news v I oI C oC D2 m₂ h2 tk2 E' hi ⟨o', rfl, hO', hrow⟩ ⟨t, rfl⟩ hC hx F6 N8 off ne
              clear F5 N7
              simp only [LCg.Off3, and_true] at off
              dsimp only
              k_steps
              · assumption
              · exact RowNZ.add hrow (by omega) (by omega)
            case bfin =>
              rintro ys news ⟨o', rfl, hO', dns, hdns, hdlen, hdsm, hdnz⟩
              unfold LCg.FinA
              intro D2 h3 tk3 F6 N8 off
              clear F5 N7 off
              dsimp only
              k_steps
              refine Stop.mk ?_
              have hd0 := hdnz 0 (by omega)
              refine poly_walk (sh := 0) (ns := dns) GG F6 N8 (by walk_at "BJ.room") (.head _) hdns (by omega) (by omega) (by decide) ?_
              intro h5 tk5 x0 dx0 l0 vs0 hs0 tkx0 nx0 cx0 k5 F9 N9 off9 _ hv0
              (dsimp only)
              rw [List.replicate_zero, List.append_nil, least_id hd0] at hv0
              clear F6 N8 off9
              k_steps
              refine Stop.mk ?_
              refine wpAny_If ?_
              k_steps
              refine Stop.mk ?_
              (with_reducible rename Fr _ _ _ _ => F10)
              (with_reducible rename News _ _ _ _ => N10)
              refine poly_walk (sh := 0) (ns := [a, b]) GG F10 N10 (by walk_at "BJ.room") (.head _) (.cons _ _ (.cons _ _ .nil)) (len2 _ _).2.1 (len2 _ _).1 (by decide) ?_
              intro h11 tk11 x1 dx1 l1 vs1 hs1 tkx1 nx1 cx1 k11 F12 N12 off12 _ hv12
              (dsimp only)
              rw [List.replicate_zero, List.append_nil, least_id (ns := [a, b]) a0] at hv12
              clear F10 N10 off12
              k_steps
              refine Stop.mk ?_
              obtain ⟨z1, z2⟩ := pair_nz a0 b0
              refine mul_walk (ns₁ := dns) (ns₂ := [a, b]) GG F12 N12 (by walk_at "BJ.room") (polyOf (dx := dx0) (l := l0) N12 (by k_mem) (by k_mem) (by k_mem) hv0) (by omega) (by omega) hdsm hdnz (polyOf (dx := dx1) (l := l1) N12 (by k_mem) (by k_mem) (by k_mem) hv12) (len2 _ _).1 (len2 _ _).2.2 (pair_small a1 b1) z1 ?_
              intro h13 tk13 x2 dx2 l2 vs2 hs2 tkx2 nx2 cx2 k13 F14 N14 off14 hv14
              refine cmpBackRef ?_
              (dsimp only)
              rw [pmul_product hdnz z1 hdsm (pair_small a1 b1) (List.ne_nil_of_length_pos (by omega)) (List.cons_ne_nil _ _)] at hv14
              clear F12 N12 off14
              k_steps
              refine Stop.mk ?_
              (with_reducible rename Fr _ _ _ _ => F15)
              (with_reducible rename News _ _ _ _ => N15)
              refine product_walk (l₁ := D2) (vs₁ := ys) (ns₁ := dns) (ns₂ := [a, b]) GG F15 N15 (by walk_at "BJ.room") (by k_mem) hdns (by omega) (by omega) hdsm (by k_mem) (.cons _ _ (.cons _ _ .nil)) (len2 _ _).1 (len2 _ _).2.1 (pair_small a1 b1) ?_
              intro h16 tk16 D8 us8 c8 k16 F16 N16 off16 hu8
              (dsimp only)
              clear F15 N15 off16
              k_steps
              exact ⟨_, _, o', D2, ys, _, x0, dx0, l0, vs0, hs0, tkx0, nx0, cx0, dns, _, _, rfl, frA (a := "shift") (frA (a := "row") (frA (a := "divisor") (frA (a := "poly") F16 rfl) rfl) rfl) rfl, news_sub N16 (by lcg_sub), hO', hdns, hv0, by omega, by omega, hdsm, hdnz⟩
        case rest2 =>
          rintro s' ⟨hA, tkA, oA, dD, dvs, dc, x, dx, l, pvs, hsx, tkx, nx, cx, dns, mA, tA, rfl, FA, NA, hOA, hdv, hpv, hd2, hd7, hdsm, hdnz⟩
          clear F3
          dsimp only
          k_steps
          refine Stop.mk ?_
          refine wpAny_If ?_
          k_steps
          refine Stop.mk ?_
          (with_reducible rename Fr _ _ _ _ => FB)
          (with_reducible rename News _ _ _ _ => NB)
          refine poly_walk (sh := sh) (ns := ns) GG FB NB (by walk_at "BJ.room") (l := D) (by k_mem) hvs (by omega) (by omega) (by omega) ?_
          intro h5 tk5 x0 dx0 l0 vs0 hs0 tkx0 nx0 cx0 k5 F9 N9 off9 hnew hv0
          (dsimp only)
          clear NB off9
          k_steps
          refine Stop.mk ?_
          obtain ⟨ra1, ra2, ra3, ra4⟩ := row_facts hn1' hn9' hsm hnz sh9
          refine mod_walk (f := 20) (d := dns) (a := least ns ++ List.replicate sh 0) (by omega) (by omega) hdsm hdnz GG F9 N9 FB k5 (by walk_at "BJ.room") hnew ra1 (by omega) ra3 (fun _ => ra4) ra2 (polyOf (dx := dx) (l := l) N9 (by k_mem) (by k_mem) (by k_mem) hpv) ?_
          intro h13 tk13 x2 dx2 l2 vs2 hs2 tkx2 nx2 cx2 k13 F14 N14 hv14
          refine cmpBackRef ?_
          (dsimp only)
          rw [pmod_rest hdnz hdsm hd2 20 ra2 (fun _ => ra4) ra1 ra3] at hv14
          clear F9 N9 FB hnew
          k_steps
          refine Stop.mk ?_
          (with_reducible rename Fr _ _ _ _ => F15)
          (with_reducible rename News _ _ _ _ => N15)
          refine least_walk (l := D) (ns := ns) GG F15 N15 (by walk_at "BJ.room") (by k_mem) hvs (by omega) ?_
          intro h16 tk16 D8 us8 c8 k16 F16 N16 off16 hu8
          (dsimp only)
          clear F15 N15 off16
          k_steps
          refine Stop.mk ?_
          (with_reducible rename Fr _ _ _ _ => F17)
          (with_reducible rename News _ _ _ _ => N17)
          (rename IntsAre _ (_ ++ List.flatten _) => hI8)
          rw [flat0, Int.toNat_natCast, ← List.map_append] at hI8
          refine rest_walk (l₂ := dD) (ns₁ := least ns ++ List.replicate sh 0) (ns₂ := dns) GG F17 N17 (by walk_at "BJ.room") (.head _) hI8 (by omega) ra3 (by k_mem) hdv (by omega) (by omega) hdsm ?_
          intro h18 tk18 D9 us9 c9 k18 F18 N18 off18 hu9
          (dsimp only)
          clear F17 N17 off18
          k_steps
          have N19 := news_sub (l := [(st, _), (sc, listOf (List.toArray us) 0), (s1.heap.objs.size + 1, oc)]) N18 (by lcg_sub)
          clear N18
          refine sorted_walk GG.X rfl F18 N19 ?_
          intro D10 h20 tk20 us10 c10 F20 N20 lt20 hu10
          (dsimp only)
          k_lt lt20
          clear N19
          k_steps
          refine Stop.mk ?_
          (with_reducible rename Fr _ _ _ _ => F21)
          (with_reducible rename News _ _ _ _ => N21)
          refine item_walk (ns := lutKeys) N21 (.head _) hu10 (by assumption) (by have e13 : ((lutKeys.length : Nat) : Int) = 13 := rfl; omega) (by decide) ?_ (by with_unfolding_all rfl)
          intro i t22 hi13
          have hi : i < 13 := hi13
          have kf := key_facts i hi
          generalize hw : lutKeys.getD i 0 = wd at kf ⊢
          obtain ⟨kf1, kf2⟩ := kf
          (try dsimp only)
          k_steps
          refine Stop.mk ?_
          (with_reducible rename Fr _ _ _ _ => F22)
          refine lut_item GG.X F22 hi (congrArg _ hw.symm) ?_ (by with_unfolding_all rfl)
          (try dsimp only)
          k_steps
          refine Stop.mk ?_
          (with_reducible rename Fr _ _ _ _ => F23)
          (with_reducible rename News _ _ _ _ => N23)
          obtain ⟨root, rt1, rt2, F24⟩ := root_fact F23 hi hw (by assumption) (by assumption)
          replace F24 := frA (a := "words") F24 rfl
          have N24 := news_sub (l := []) N23 (by intro _ hq; cases hq)
          clear F23 N23
          obtain ⟨tf1, tf2, tf3, _⟩ := tab_facts i hi
          refine' loop_list (fun m₀ j m₁ news₁ => news₁ = [] ∧ ∃ t1 t2 t3 : Tok, m₁ (Str.ofString "told") = some (.int ((horner root ((tab i).take j) : Nat) : Int) t1) ∧ m₁ (Str.ofString "root") = some (.int (root : Int) t2) ∧ m₁ (Str.ofString "words") = some (.int (wd : Int) t3)) rfl (tab_list GG.X hi) (mkV_ints _ _) ?lF ?lN ?lJ ?lturn ?ldone
          case lF => exact F24
          case lN => exact N24
          case lJ => exact ⟨rfl, _, _, _, rfl, rfl, rfl⟩
          case lturn =>
            rintro j el t I oI m₁ news₁ h2 tk2 ha ⟨rfl, t1, t2, t3, e1, e2, e3⟩ hlt hne F25 N25
            clear F24 N24
            obtain ⟨hj, rfl⟩ := map_at ha
            replace F25 := frB (a := "words") (frB (a := "root") (frB (a := "told") F25 e1) e2) e3
            have hc := horner_take_lt (root := root) tf3 j
            have hb := bxn (times (horner root ((tab i).take j)) root) ((tab i).getD j 0)
            rw [← horner_step hj] at hb
            dsimp only
            k_steps
            (with_reducible rename Fr _ _ _ _ => F26)
            (with_reducible rename News _ _ _ _ => N26)
            refine TEnd.next F26 N26 ?_ ⟨rfl, _, _, _, valEq hb, rfl, rfl⟩
            intro _ hq
            cases hq
          case ldone =>
            rintro h2 tk2 m₁ news₁ ⟨rfl, t1, t2, t3, e1, e2, e3⟩ F25 N25
            clear F24 N24
            rw [List.length_map, List.take_length, rt2] at e1
            replace F25 := frA (a := "words") (frA (a := "told") F25 e1) e3
            dsimp only
            k_steps
            refine Stop.mk ?_
            (with_reducible rename Fr _ _ _ _ => F26)
            refine lut_item GG.X F26 hi (congrArg _ hw.symm) ?_ (by with_unfolding_all rfl)
            (try dsimp only)
            k_steps
            refine Stop.mk ?_
            (with_reducible rename Fr _ _ _ _ => F27)
            refine tab_len GG.X F27 hi ?_
            intro t28 tk28
            rw [hw]
            (try dsimp only)
            k_steps
            refine Stop.mk ?_
            (with_reducible rename Fr _ _ _ _ => F28)
            refine lut_item GG.X F28 hi (congrArg _ hw.symm) ?_ (by with_unfolding_all rfl)
            (try dsimp only)
            k_steps
            refine Stop.mk ?_
            (with_reducible rename Fr _ _ _ _ => F29)
            refine tab_item0 GG.X F29 hi ?_ (by with_unfolding_all rfl)
            intro t29
            (try dsimp only)
            k_steps)
end
end BJ
theorem PySem.Challenge.cw_bj0060_01_holds : PySem.Challenge.rw_bj0060_01.Holds := by
  exact BJ.T1
