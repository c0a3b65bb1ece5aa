import PyProof.Rows.All
import Wide.All
import OpenK.AllK
import Wide.FinOn
import PySem.Challenge.RW_xc0003_01
open PySem PySem.W PyProof.Rows
set_option Elab.async false
namespace Mine


/-- the letters of a number, as ints, the highest first -/
def apI (n : Nat) : List Int := if n = 0 then [] else apI (n / 16) ++ [((65 + n % 16 : Nat) : Int)]
decreasing_by omega

theorem apI_zero : apI 0 = [] := by rw [apI]; simp
theorem apI_pos {n : Nat} (h : n ≠ 0) : apI n = apI (n / 16) ++ [((65 + n % 16 : Nat) : Int)] := by
  rw [apI]; simp [h]

theorem apI_letter : ∀ (n : Nat) (k : Int), k ∈ apI n → 65 ≤ k ∧ k ≤ 80 := by
  intro n
  induction n using Nat.strongRecOn with
  | _ n ih =>
    intro k hk
    by_cases h : n = 0
    · subst h; rw [apI_zero] at hk; exact absurd hk List.not_mem_nil
    · rw [apI_pos h] at hk
      rcases List.mem_append.mp hk with hk | hk
      · exact ih _ (by omega) k hk
      · rw [List.mem_singleton.mp hk]; omega

/-- the letters read again -/
def valOf (l : List Int) : Int := l.foldl (fun v o => 16 * v + o - 65) 0
theorem valOf_nil : valOf [] = 0 := rfl
theorem valOf_snoc (l : List Int) (k : Int) : valOf (l ++ [k]) = 16 * valOf l + k - 65 := by
  simp [valOf]

theorem valOf_apI : ∀ n : Nat, valOf (apI n) = (n : Int) := by
  intro n
  induction n using Nat.strongRecOn with
  | _ n ih =>
    by_cases h : n = 0
    · subst h; rw [apI_zero]; rfl
    · rw [apI_pos h, valOf_snoc, ih _ (by omega)]; omega

theorem apI_length : ∀ (k n : Nat), n < 16 ^ k → (apI n).length ≤ k := by
  intro k
  induction k with
  | zero => intro n h; have : n = 0 := by simpa using h
            subst this; rw [apI_zero]; simp
  | succ k ih =>
    intro n h
    by_cases h0 : n = 0
    · subst h0; rw [apI_zero]; simp
    · rw [apI_pos h0, List.length_append, List.length_singleton]
      have := ih (n / 16) (by rw [Nat.pow_succ] at h; omega)
      omega

theorem apI_head : ∀ n : Nat, n ≠ 0 → ∃ k r, apI n = k :: r ∧ 66 ≤ k := by
  intro n
  induction n using Nat.strongRecOn with
  | _ n ih =>
    intro h
    rw [apI_pos h]
    by_cases h1 : n / 16 = 0
    · rw [h1, apI_zero]
      exact ⟨_, [], rfl, by omega⟩
    · obtain ⟨k, r, e, hk⟩ := ih _ (by omega) h1
      rw [e]
      exact ⟨k, _, rfl, hk⟩

theorem apI_succ {m r : Nat} (h : m ≠ 0) (hr : r < 16) : apI (16 * m + r) = apI m ++ [((65 + r : Nat) : Int)] := by
  rw [apI_pos (n := 16 * m + r) (by omega)]
  have e1 : (16 * m + r) / 16 = m := by omega
  have e2 : (16 * m + r) % 16 = r := by omega
  rw [e1, e2]

theorem bInts_inj {a b : Array UInt8} (h : KBw.bInts a = KBw.bInts b) : a = b := by
  have h2 : a.toList = b.toList := by
    refine List.map_inj_right (f := fun c : UInt8 => (c.toNat : Int)) ?_ |>.mp h
    intro x y e
    exact UInt8.toNat_inj.mp (Int.ofNat.inj e)
  exact Array.toList_inj.mp h2

def apTail (n0 num : Int) : List Int := (apI n0.toNat).drop (apI num.toNat).length
theorem ints2 {h₀ h : Heap} {L l : Addr} {own : List (Addr × Obj)} {n : Nat} {a b : Int} {t u : Tok} (_ : News h₀ L h ((l, W.listOf #[Value.int a t, Value.int b u] n) :: own)) : IntsAre [Value.int a t, Value.int b u] [a, b] := .cons _ _ (.cons _ _ .nil)

/-- one path for both signs -/
theorem sign_join {M : Model} {A : Around} {E Q : _} {T : Sem Value} {s : Shared} (h1 : wpAny M A T (fun v s' => ∃ (k : Int) (t : Tok) (tk : Nat), (k = 1 ∨ k = 0 - 1) ∧ v = Value.int k t ∧ s' = { s with toks := tk }) E s)
    (h2 : ∀ (k : Int) (t : Tok) (tk : Nat), (k = 1 ∨ k = 0 - 1) → Q (Value.int k t) { s with toks := tk }) : wpAny M A T Q E s :=
  wpAny_mono h1 (fun v s' ⟨k, t, tk, hk, e1, e2⟩ => by subst e1 e2; exact h2 k t tk hk) fun _ _ e => e

section
variable {x y : Addr × Obj} {a b : List (Addr × Obj)}
theorem sub0 : ∀ p ∈ a, p ∈ y :: a := fun _ h => List.mem_cons_of_mem _ h
theorem sub1 : ∀ p ∈ x :: a, p ∈ y :: x :: (a ++ b) := fun _ h => List.mem_cons_of_mem _ (List.mem_append_left b h)
theorem sub2 : ∀ p ∈ x :: a, p ∈ x :: (a ++ b) := fun _ h => List.mem_append_left b h
theorem sub3 : ∀ p ∈ b, p ∈ y :: x :: (a ++ b) := fun _ h => List.mem_cons_of_mem _ (List.mem_cons_of_mem _ (List.mem_append_right a h))
theorem sub4 : ∀ p ∈ b, p ∈ x :: (a ++ b) := fun _ h => List.mem_cons_of_mem _ (List.mem_append_right a h)
end

theorem st0 {n0 : Int} (h : 0 ≤ n0) (h2 : n0 < 1461501637330902918203684832716283019655932542976) : 0 ≤ n0 ∧ n0 ≤ n0 ∧ n0 < 1461501637330902918203684832716283019655932542976 ∧ KBw.bInts #[] = apTail n0 n0 ∧ (apTail n0 n0).length ≤ 40 ∧ apI n0.toNat = apI n0.toNat ++ apTail n0 n0 := by
  have e : apTail n0 n0 = [] := by simp [apTail]
  refine ⟨h, Int.le_refl _, h2, ?_, ?_, ?_⟩
  · rw [e]; rfl
  · rw [e]; simp
  · rw [e]; simp

theorem st0b {k c : Int} (D : -45671926166590716193865151022383844364247891968 < k ∧ k < 45671926166590716193865151022383844364247891968) :
    let n0 := (if 16 * (if k < 0 then -k else k) + c.fmod 16 < 0 then -(16 * (if k < 0 then -k else k) + c.fmod 16) else 16 * (if k < 0 then -k else k) + c.fmod 16)
    0 ≤ n0 ∧ n0 ≤ n0 ∧ n0 < 1461501637330902918203684832716283019655932542976 ∧ KBw.bInts #[] = apTail n0 n0 ∧ (apTail n0 n0).length ≤ 40 ∧ apI n0.toNat = apI n0.toNat ++ apTail n0 n0 := by
  have h1 : 0 ≤ c.fmod 16 := Int.fmod_nonneg_of_pos _ (by decide)
  have h2 : c.fmod 16 < 16 := Int.fmod_lt_of_pos _ (by decide)
  generalize c.fmod 16 = r at h1 h2
  exact st0 (by omega) (by omega)

theorem fdm {n : Int} (_ : 0 ≤ n) : n.fdiv 16 = ((n.toNat / 16 : Nat) : Int) ∧ n.fmod 16 = ((n.toNat % 16 : Nat) : Int) := by
  have h1 := Int.fdiv_eq_ediv_of_nonneg n (b := 16) (by decide)
  have h2 := Int.fmod_eq_emod_of_nonneg n (b := 16) (by decide)
  rw [h1, h2]; omega

theorem tail_step {n0 num : Int} (h0 : 0 ≤ num) (hn : num ≠ 0) (ha : apI n0.toNat = apI num.toNat ++ apTail n0 num) :
    apI n0.toNat = apI (num.fdiv 16).toNat ++ apTail n0 (num.fdiv 16) ∧ apTail n0 (num.fdiv 16) = (65 + num.fmod 16) :: apTail n0 num := by
  obtain ⟨e1, e2⟩ := fdm h0
  have e3 : (num.fdiv 16).toNat = num.toNat / 16 := by rw [e1]; omega
  have e4 := apI_pos (n := num.toNat) (by omega)
  have e5 : apI n0.toNat = apI (num.toNat / 16) ++ ((65 + num.fmod 16) :: apTail n0 num) := by
    conv => lhs; rw [ha, e4]
    rw [List.append_assoc, e2]
    simp
  have e6 : apTail n0 (num.fdiv 16) = (65 + num.fmod 16) :: apTail n0 num := by
    show (apI n0.toNat).drop (apI (num.fdiv 16).toNat).length = _
    rw [e3, e5, List.drop_left]
  rw [e3, e6]
  exact ⟨e5, rfl⟩

theorem st1 {n0 num : Int} {new : Array UInt8} (h0 : 0 ≤ num) (hn : num ≠ 0) (h1 : num ≤ n0) (h2 : n0 < 1461501637330902918203684832716283019655932542976)
    (ha : apI n0.toNat = apI num.toNat ++ apTail n0 num) (hb : KBw.bInts new = [65 + num.fmod 16] ++ apTail n0 num) :
    0 ≤ num.fdiv 16 ∧ num.fdiv 16 ≤ n0 ∧ n0 < 1461501637330902918203684832716283019655932542976 ∧ KBw.bInts new = apTail n0 (num.fdiv 16) ∧ (apTail n0 (num.fdiv 16)).length ≤ 40 ∧ apI n0.toNat = apI (num.fdiv 16).toNat ++ apTail n0 (num.fdiv 16) := by
  obtain ⟨e1, e2⟩ := fdm h0
  obtain ⟨e3, e4⟩ := tail_step h0 hn ha
  refine ⟨by omega, by omega, h2, by rw [hb, e4]; rfl, ?_, e3⟩
  have h3 := apI_length 40 n0.toNat (by omega)
  have h4 := congrArg List.length e3
  rw [List.length_append] at h4
  omega

theorem cut16 {r : Int} (h0 : 0 ≤ r) (h1 : r < 16) : List.take (clipAt ([65, 66, 67, 68, 69, 70, 71, 72, 73, 74, 75, 76, 77, 78, 79, 80] : List Int).length (r + 1) - clipAt ([65, 66, 67, 68, 69, 70, 71, 72, 73, 74, 75, 76, 77, 78, 79, 80] : List Int).length r)
    (List.drop (clipAt ([65, 66, 67, 68, 69, 70, 71, 72, 73, 74, 75, 76, 77, 78, 79, 80] : List Int).length r) [65, 66, 67, 68, 69, 70, 71, 72, 73, 74, 75, 76, 77, 78, 79, 80]) = [65 + r] := by
  have h : r = 0 ∨ r = 1 ∨ r = 2 ∨ r = 3 ∨ r = 4 ∨ r = 5 ∨ r = 6 ∨ r = 7 ∨ r = 8 ∨ r = 9 ∨ r = 10 ∨ r = 11 ∨ r = 12 ∨ r = 13 ∨ r = 14 ∨ r = 15 := by omega
  rcases h with rfl | rfl | rfl | rfl | rfl | rfl | rfl | rfl | rfl | rfl | rfl | rfl | rfl | rfl | rfl | rfl <;> decide +kernel

theorem st2 {n0 num : Int} {new : Array UInt8} (h0 : 0 ≤ num) (hn : num ≠ 0) (h1 : num ≤ n0) (h2 : n0 < 1461501637330902918203684832716283019655932542976)
    (ha : apI n0.toNat = apI num.toNat ++ apTail n0 num) (hb : KBw.bInts new = List.take (clipAt ([65, 66, 67, 68, 69, 70, 71, 72, 73, 74, 75, 76, 77, 78, 79, 80] : List Int).length (num.fmod 16 + 1) - clipAt ([65, 66, 67, 68, 69, 70, 71, 72, 73, 74, 75, 76, 77, 78, 79, 80] : List Int).length (num.fmod 16))
    (List.drop (clipAt ([65, 66, 67, 68, 69, 70, 71, 72, 73, 74, 75, 76, 77, 78, 79, 80] : List Int).length (num.fmod 16)) [65, 66, 67, 68, 69, 70, 71, 72, 73, 74, 75, 76, 77, 78, 79, 80]) ++ apTail n0 num) :
    0 ≤ num.fdiv 16 ∧ num.fdiv 16 ≤ n0 ∧ n0 < 1461501637330902918203684832716283019655932542976 ∧ KBw.bInts new = apTail n0 (num.fdiv 16) ∧ (apTail n0 (num.fdiv 16)).length ≤ 40 ∧ apI n0.toNat = apI (num.fdiv 16).toNat ++ apTail n0 (num.fdiv 16) := by
  rw [cut16 (Int.fmod_nonneg_of_pos _ (by decide)) (Int.fmod_lt_of_pos _ (by decide))] at hb
  exact st1 h0 hn h1 h2 ha hb

theorem falls {num : Int} (h0 : 0 ≤ num) (hn : num ≠ 0) : (num.fdiv 16).toNat < num.toNat := by
  obtain ⟨e1, _⟩ := fdm h0
  omega

theorem told {n0 num : Int} {val : Array UInt8} (hb : KBw.bInts val = apTail n0 num) (ha : apI n0.toNat = apI num.toNat ++ apTail n0 num) (hz : num = 0) : KBw.bInts val = apI n0.toNat := by
  subst hz
  rw [hb, ha, show Int.toNat 0 = 0 from rfl, apI_zero, List.nil_append]

theorem told_len {n0 num : Int} (h0 : 0 ≤ num) (h1 : num ≤ n0) (h2 : n0 < 1461501637330902918203684832716283019655932542976) : (apI n0.toNat).length ≤ 40 :=
  apI_length 40 n0.toNat (by omega)

theorem v9 {a b : Int} (h : a = b) : (a != b) = false := by subst h; simp

theorem toList_ints {a b : Array UInt8} (h : a.toList = b.toList) : KBw.bInts a = KBw.bInts b := by
  unfold KBw.bInts; rw [h]

theorem t9 {told : Array UInt8} {m : Nat} (K : KBw.bInts told = apI m) : ((KBy.picked told none (some 1)).toList == (#[65] : Array UInt8).toList) = false := by
  rw [beq_eq_false_iff_ne]
  intro h
  have h2 := toList_ints h
  rw [KBc.ints_picked K] at h2
  have h3 : KBw.bInts (#[65] : Array UInt8) = [65] := rfl
  rw [h3] at h2
  simp only [Option.elim, List.drop_zero, Nat.sub_zero] at h2
  by_cases hm : m = 0
  · subst hm
    rw [apI_zero] at h2
    simp at h2
  · obtain ⟨k, r, e, hk⟩ := apI_head m hm
    rw [e] at h2
    have h4 : k = 65 := by
      have := List.mem_of_mem_take (a := k) (l := k :: r) (i := clipAt (k :: r).length 1)
      cases hc : clipAt (k :: r).length 1 with
      | zero => rw [hc] at h2; simp at h2
      | succ c => rw [hc, List.take_succ_cons] at h2; exact (List.cons.inj h2).1
    omega

theorem u9 {told : Array UInt8} {k : Int} (K : KBw.bInts told = apI (if k < 0 then -k else k).toNat) : ((told.toList == (#[] : Array UInt8).toList) != (k == 0)) = false := by
  by_cases hk : k = 0
  · subst hk
    have h1 : KBw.bInts told = KBw.bInts #[] := by rw [K]; exact apI_zero
    have h2 := bInts_inj h1
    subst h2
    rfl
  · have h1 : (k == 0) = false := by simpa using hk
    have h2 : (told.toList == (#[] : Array UInt8).toList) = false := by
      rw [beq_eq_false_iff_ne]
      intro h
      have h3 := toList_ints h
      rw [K] at h3
      obtain ⟨x, r, e, _⟩ := apI_head (if k < 0 then -k else k).toNat (by split <;> omega)
      rw [e] at h3
      exact absurd h3 (by simp [KBw.bInts])
    rw [h1, h2]; rfl

/-- the number sixteen times as great has one letter more -/
theorem last {a bc : Array UInt8} {n1 n2 num2 more : Int} (Q : KBw.bInts a = apTail n2 num2) (R : apI n2.toNat = apI num2.toNat ++ apTail n2 num2) (z : num2 = 0)
    (K : KBw.bInts bc = apI n1.toNat ++ [65 + more]) (e : n2 = 16 * n1 + more) (h1 : 0 < n1) (m0 : 0 ≤ more) (m1 : more < 16) : (a.toList != bc.toList) = false := by
  have h2 := told Q R z
  have h3 : n2.toNat = 16 * n1.toNat + more.toNat := by omega
  rw [h3, apI_succ (by omega) (by omega)] at h2
  have h4 : ((65 + more.toNat : Nat) : Int) = 65 + more := by omega
  rw [h4, ← K] at h2
  rw [bInts_inj h2]
  simp

theorem in_more (c : Int) : KBa.In [65 + c.fmod 16] := by
  intro n hn
  rw [List.mem_singleton.mp hn]
  have h1 : 0 ≤ c.fmod 16 := Int.fmod_nonneg_of_pos _ (by decide)
  have h2 : c.fmod 16 < 16 := Int.fmod_lt_of_pos _ (by decide)
  omega

theorem e9 (k c : Int) : (if 16 * (if k < 0 then -k else k) + c.fmod 16 < 0 then -(16 * (if k < 0 then -k else k) + c.fmod 16) else 16 * (if k < 0 then -k else k) + c.fmod 16) = 16 * (if k < 0 then -k else k) + c.fmod 16 := by
  have h1 : 0 ≤ c.fmod 16 := Int.fmod_nonneg_of_pos _ (by decide)
  generalize c.fmod 16 = r at h1
  omega

theorem abs_pos {k : Int} (h : k ≠ 0) : 0 < if k < 0 then -k else k := by omega

theorem letter {m : Nat} {pre post : List Int} {n : Int} (h : apI m = pre ++ n :: post) : 65 ≤ n ∧ n ≤ 80 :=
  apI_letter m n (by rw [h]; simp)


theorem abs_nonneg (k : Int) : 0 ≤ if k < 0 then -k else k := by split <;> omega

theorem p40 : (10 : Int) ^ Int.toNat 40 = 10000000000000000000000000000000000000000 := by decide +kernel

theorem one_pos (c : Int) : 0 ≤ (if c < 0 then -c else c).fmod (10 ^ Int.toNat 40) ∧ (if c < 0 then -c else c).fmod (10 ^ Int.toNat 40) < 10000000000000000000000000000000000000000 := by
  rw [p40]
  exact ⟨Int.fmod_nonneg_of_pos _ (by decide), Int.fmod_lt_of_pos _ (by decide)⟩

/-- what the outer loop keeps -/
theorem cell_st {c w s : Int} {pre : List Int} {n : Int} (hs : s = 1 ∨ s = 0 - 1) (h1 : -((pre.length : Int) * 10000000000000000000000000000000000000000) ≤ w) (h2 : w ≤ (pre.length : Int) * 10000000000000000000000000000000000000000) :
    -(((pre ++ [n]).length : Int) * 10000000000000000000000000000000000000000) ≤ w + (if c < 0 then -c else c).fmod (10 ^ Int.toNat 40) * s ∧ w + (if c < 0 then -c else c).fmod (10 ^ Int.toNat 40) * s ≤ ((pre ++ [n]).length : Int) * 10000000000000000000000000000000000000000 := by
  obtain ⟨h3, h4⟩ := one_pos c
  generalize (if c < 0 then -c else c).fmod (10 ^ Int.toNat 40) = x at h3 h4 ⊢
  rw [List.length_append, List.length_singleton]
  rcases hs with rfl | rfl <;> omega

/-- the two numbers' bound -/
theorem two_bnd {c w s : Int} {p : Nat} (hs : s = 1 ∨ s = 0 - 1) (hp : p ≤ 1048576) (h1 : -((p : Int) * 10000000000000000000000000000000000000000) ≤ w) (h2 : w ≤ (p : Int) * 10000000000000000000000000000000000000000) :
    ∀ k ∈ [(if c < 0 then -c else c).fmod (10 ^ Int.toNat 40) * s, w + (if c < 0 then -c else c).fmod (10 ^ Int.toNat 40) * s], -45671926166590716193865151022383844364247891968 < k ∧ k < 45671926166590716193865151022383844364247891968 := by
  obtain ⟨h3, h4⟩ := one_pos c
  generalize (if c < 0 then -c else c).fmod (10 ^ Int.toNat 40) = x at h3 h4 ⊢
  intro k hk
  simp only [List.mem_cons, List.not_mem_nil, or_false] at hk
  rcases hs with rfl | rfl <;> rcases hk with rfl | rfl <;> omega

end Mine
-- the sign as one letter, 1 or 0 - 1: one path in the place of two
local macro_rules | `(tactic| walk_at "eval IfExp") => `(tactic| (k_here; (refine Mine.sign_join ?j1 ?j2); (case j1 => (k_steps; all_goals first | exact ⟨1, _, _, .inl rfl, rfl, rfl⟩ | exact ⟨0 - 1, _, _, .inr rfl, rfl, rfl⟩)); (intro sgn t tk hsgn)))
-- the ends of the turns, the ledgers by a lemma of my own (the library's own line closes them too, in minutes)
local macro_rules | `(tactic| walk_at "InvEndN") => `(tactic| (k_dflt (
  (try dsimp only)
  (with_reducible show InvEndN _ _ (KstS (σ := Unit) _ _ _ _ _ _ _ _) _ _ _ _)
  (rename News _ _ _ _ => nE'); (try simp only [List.push_toArray] at nE')
  (refine kst_end () (by assumption) nE' (by first | (with_reducible exact Mine.sub1) | (with_reducible exact Mine.sub2) | kst_in) (by first | (with_reducible exact Mine.sub3) | (with_reducible exact Mine.sub4) | (intro p hp; kst_mem)) (by rfl) True.intro (List.forall_mem_nil _) (by kst_same) (by ksr_p)))))
local macro_rules | `(tactic| walk_at "InvEndN") => `(tactic| (k_dflt (
  (try dsimp only)
  (with_reducible show InvEndN _ _ (KstS (σ := Int × Tok) _ _ _ _ _ _ _ _) _ _ _ _)
  (rename News _ _ _ _ => nE'); (try simp only [List.push_toArray] at nE')
  (refine kst_end (_, _) (by assumption) nE' (by first | (with_reducible exact Mine.sub2) | kst_in | kst_inAny) (by first | (with_reducible exact Mine.sub4) | (intro p hp; kst_mem) | kst_anyIn) (by rfl) (by kst_facts) (by kst_all) (by kst_same) (by kst_p)))))
local macro_rules | `(tactic| walk_at "KswEnd") => `(tactic| (k_dflt (
  (try dsimp only)
  (rename News _ _ _ _ => nE'); (try simp only [List.push_toArray] at nE')
  (refine ksw_end (_, _, _, _) (by assumption) nE' (by first | (with_reducible exact Mine.sub0) | kst_in) (by kst_facts) (by kst_all) (by ksw_same) (by kst_p) (by ksw_less)))))
set_option maxRecDepth 100000 in
set_option maxHeartbeats 8000000 in
theorem PySem.Challenge.cw_xc0003_01_holds : PySem.Challenge.rw_xc0003_01.Holds := by
  k_with "pyIter ref" => k_of "cell" => k_state (fun pre whole => -((pre.length : Int) * 10000000000000000000000000000000000000000) ≤ whole ∧ whole ≤ (pre.length : Int) * 10000000000000000000000000000000000000000) "whole"
  k_with "pyIter ref" => k_of "one" => (
    (rename News _ _ _ _ => N9)
    have I9 := Mine.ints2 N9
    (with_reducible rename (_ : Int) = 1 ∨ _ = 0 - 1 => hsgn)
    have B9 := Mine.two_bnd (c := kN) (p := kPre.length) hsgn (by omega) (by assumption) (by assumption)
    k_search (fun _ => True)
    all_goals (try have D9 := B9 _ kMem))
  k_with "exec While Name cons nil" => (
    have A9 : KBw.bInts #[65, 66, 67, 68, 69, 70, 71, 72, 73, 74, 75, 76, 77, 78, 79, 80] = [65, 66, 67, 68, 69, 70, 71, 72, 73, 74, 75, 76, 77, 78, 79, 80] := rfl
    k_while_given ["num!"] (fun n0 script num val => 0 ≤ num ∧ num ≤ n0 ∧ n0 < 1461501637330902918203684832716283019655932542976 ∧ KBw.bInts val = Mine.apTail n0 num ∧ (Mine.apTail n0 num).length ≤ 40 ∧ Mine.apI n0.toNat = Mine.apI num.toNat ++ Mine.apTail n0 num) (fun n0 script num val => num.toNat) "num" "val")
  k_with "pyIter bytes" => (
    (with_reducible rename Mine.apI _ = Mine.apI _ ++ Mine.apTail _ _ => R9)
    (with_reducible rename KBw.bInts _ = Mine.apTail _ _ => Q9)
    have K9 := Mine.told Q9 R9 (by assumption)
    have M9 := Mine.told_len (n0 := if kN < 0 then -kN else kN) (num := 0) (by omega) (Mine.abs_nonneg _) (by assumption)
    k_state (fun pre v => v = Mine.valOf pre) "value"
    all_goals (try have L9 := Mine.letter kEq)
    all_goals (try (
      rw [Mine.valOf_apI, Int.toNat_of_nonneg (Mine.abs_nonneg _)] at kInv
      have V9 := Mine.v9 kInv
      have T9 := Mine.t9 K9
      have U9 := Mine.u9 K9)))
  k_with "state" => first
    | exact Mine.cell_st (by assumption) (by assumption) (by assumption)
    | exact Mine.st0b (by assumption)
    | exact Mine.st0 (by omega) (by omega)
    | exact Mine.st2 (by assumption) (by assumption) (by assumption) (by assumption) (by assumption) (by assumption)
    | exact Mine.valOf_nil.symm
    | (rw [Mine.valOf_snoc]; omega)
  k_with "measure" => exact Mine.falls (by assumption) (by assumption)
  k_with "call type:bytes" => (
    k_here
    (with_reducible show wpAny _ _ (call (Value.type "bytes") [Value.ref _]) _ _ _)
    k_dflt (refine' KBa.make_K ?kbaF ?kbaN ?kbah ?kbal ?kbai ?kbar ?kban ?_; (case kbaF => k_asm); (case kbaN => k_asm); (case kbah => rfl); (case kbal => kba_isList); (case kbai => kba_listInts); (case kbar => exact Mine.in_more _); (case kban => kba_size))
    intro _ _ _ F' N' kbaIn)
  k_with "ite" => (refine ite_isFalse (Mine.last (by assumption) (by assumption) (by assumption) (by assumption) (Mine.e9 _ _) (Mine.abs_pos (by assumption)) (Int.fmod_nonneg_of_pos _ (by decide)) (Int.fmod_lt_of_pos _ (by decide))) ?_)
  open_k
