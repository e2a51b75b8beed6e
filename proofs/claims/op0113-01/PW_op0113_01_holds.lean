import PyProof.Rows.All
import Wide.All
import OpenK.AllK
import Wide.FinOn
import PyProof.FactsAll.list_2
import PyProof.ExcAttrAll.IndexError
import Lean
import PySem.Challenge.RW_op0113_01
set_option Elab.async false

section
open PySem PySem.W PyProof.Rows
namespace Mine
set_option maxRecDepth 100000
set_option maxHeartbeats 8000000
open_top hd for PySem.Challenge.rw_op0113_01
end Mine
end

section
namespace Mine
/-- Python's < of two lists of ints -/
def ltL : List Int → List Int → Bool
  | [], [] => false
  | [], _ :: _ => true
  | _ :: _, [] => false
  | x :: xs, y :: ys => if x = y then ltL xs ys else decide (x < y)

/-- _siftdown's loop, startpos 0 -/
def sdLoop (new : List Int) : Nat → List (List Int) → Nat → List (List Int)
  | 0, h, pos => h.set pos new
  | f + 1, h, pos =>
    if 0 < pos then
      let pp := (pos - 1) / 2
      let par := h.getD pp []
      if ltL new par then sdLoop new f (h.set pos par) pp else h.set pos new
    else h.set pos new
def siftdownP (h : List (List Int)) (pos : Nat) : List (List Int) := sdLoop (h.getD pos []) pos h pos

def suLoop (new : List Int) : Nat → List (List Int) → Nat → List (List Int)
  | 0, h, pos => siftdownP (h.set pos new) pos
  | f + 1, h, pos =>
    let c := 2 * pos + 1
    if c < h.length then
      let r := c + 1
      let c' := if r < h.length ∧ ltL (h.getD c []) (h.getD r []) = false then r else c
      suLoop new f (h.set pos (h.getD c' [])) c'
    else siftdownP (h.set pos new) pos
def siftupP (h : List (List Int)) : List (List Int) := suLoop (h.getD 0 []) h.length h 0
def pushP (h : List (List Int)) (x : List Int) : List (List Int) := siftdownP (h ++ [x]) h.length
/-- what is popped, what is left -/
def popP (h : List (List Int)) : List Int × List (List Int) :=
  let last := h.getLastD []
  let h' := h.dropLast
  match h' with
  | [] => (last, [])
  | x :: r => (x, siftupP (last :: r))
def pushAll (ts : List (List Int)) : List (List Int) := ts.foldl pushP []
def popAll : Nat → List (List Int) → List (List Int)
  | 0, _ => []
  | n + 1, h => let p := popP h; p.1 :: popAll n p.2

def sld : Nat → List Int → List Int → List Int × List Int
  | 0, xs, ys => (xs, ys)
  | _ + 1, [], ys => ([], ys)
  | _ + 1, xs, [] => (xs, [])
  | f + 1, x :: xs, y :: ys =>
    if x < y then let p := sld f xs (y :: ys); (x :: p.1, p.2)
    else if y < x then let p := sld f (x :: xs) ys; (p.1, y :: p.2)
    else sld f xs ys
def onesP (t : List Int) : List Int := ((List.range (t.length - 1)).filter fun j => t.getD j 0 == 1).map Int.ofNat

def rowP (n a b : Nat) : List Int := (List.range n).map fun k => if (a + k * b) % n + b ≥ n then 1 else 0
def restsP (n a b : Nat) : List Int := (List.range (n + 1)).map fun k => (((a + k * b) % n : Nat) : Int)
def turnP (row : List Int) (k : Nat) : List Int := row.drop k ++ row.take k ++ [(k : Int)]
set_option maxRecDepth 100000
end Mine
end

section
namespace Mine
/-- k digits of x to the base 2^n, the lowest first -/
def digs (n : Nat) : Nat → Nat → List Nat
  | _, 0 => []
  | x, k + 1 => (x % 2 ^ n) :: digs n (x / 2 ^ n) k
theorem digs_length (n : Nat) : ∀ (k x : Nat), (digs n x k).length = k
  | 0, _ => rfl
  | k + 1, x => by rw [digs, List.length_cons, digs_length n k]
theorem digs_add (n : Nat) : ∀ (k1 k2 x : Nat), digs n x (k1 + k2) = digs n (x % 2 ^ (k1 * n)) k1 ++ digs n (x / 2 ^ (k1 * n)) k2
  | 0, k2, x => by simp [digs]
  | k1 + 1, k2, x => by
    have e : k1 + 1 + k2 = (k1 + k2) + 1 := by omega
    rw [e, digs, digs_add n k1 k2, digs, List.cons_append]
    have p : 2 ^ ((k1 + 1) * n) = 2 ^ n * 2 ^ (k1 * n) := by rw [← Nat.pow_add]; congr 1; rw [Nat.succ_mul]; omega
    rw [p, Nat.mod_mul_right_mod, Nat.mod_mul_right_div_self, Nat.div_div_eq_div_mul]
theorem digs_one (n x : Nat) (h : x < 2 ^ n) : digs n x 1 = [x] := by
  rw [digs, digs, Nat.mod_eq_of_lt h]
theorem digs_lt (n : Nat) : ∀ (k x : Nat), ∀ d ∈ digs n x k, d < 2 ^ n
  | 0, _, _, h => nomatch h
  | k + 1, x, d, h => by
    rw [digs] at h
    rcases List.mem_cons.mp h with rfl | h
    · exact Nat.mod_lt _ (Nat.two_pow_pos n)
    · exact digs_lt n k _ d h
/-- the number of digits to the base 2^n, the lowest first -/
def valD (n : Nat) : List Nat → Nat
  | [] => 0
  | d :: r => d + 2 ^ n * valD n r
theorem valD_digs (n : Nat) : ∀ (k x : Nat), x < 2 ^ (k * n) → valD n (digs n x k) = x
  | 0, x, h => by have : x = 0 := by simpa using h
                  subst this; rfl
  | k + 1, x, h => by
    rw [digs, valD, valD_digs n k]
    · exact Nat.mod_add_div x (2 ^ n)
    · apply Nat.div_lt_of_lt_mul
      rw [← Nat.pow_add]
      have : n + k * n = (k + 1) * n := by rw [Nat.succ_mul]; omega
      rw [this]; exact h
theorem valD_append (n : Nat) : ∀ (a b : List Nat), valD n (a ++ b) = valD n a + 2 ^ (a.length * n) * valD n b
  | [], b => by simp [valD]
  | x :: r, b => by
    rw [List.cons_append, valD, valD, valD_append n r b, List.length_cons]
    have p : 2 ^ ((r.length + 1) * n) = 2 ^ n * 2 ^ (r.length * n) := by rw [← Nat.pow_add]; congr 1; rw [Nat.succ_mul]; omega
    rw [p, Nat.mul_add, Nat.mul_assoc]; omega
end Mine
namespace Mine
theorem put_two (ds A B : List Int) (lo mid hi : Nat) (h1 : lo ≤ mid) (h2 : mid ≤ hi) (h3 : hi ≤ ds.length) (hA : A.length = mid - lo) :
    (ds.take lo ++ A ++ ds.drop mid).take mid ++ B ++ (ds.take lo ++ A ++ ds.drop mid).drop hi = ds.take lo ++ (A ++ B) ++ ds.drop hi := by
  have e : (ds.take lo ++ A).length = mid := by simp [hA]; omega
  have t : (ds.take lo ++ A ++ ds.drop mid).take mid = ds.take lo ++ A := by
    rw [List.take_append_of_le_length (by omega), List.take_of_length_le (by omega)]
  have d : (ds.take lo ++ A ++ ds.drop mid).drop hi = ds.drop hi := by
    rw [List.drop_append, e, List.drop_of_length_le (by omega), List.nil_append, List.drop_drop]
    congr 1; omega
  rw [t, d]; simp
end Mine
namespace Mine
theorem valD_lt (n : Nat) : ∀ (ds : List Nat), (∀ d ∈ ds, d < 2 ^ n) → valD n ds < 2 ^ (ds.length * n)
  | [], _ => by simp [valD]
  | d :: r, h => by
    have h1 := valD_lt n r fun x hx => h x (.tail _ hx)
    have h2 := h d (.head _)
    rw [valD, List.length_cons]
    have p : 2 ^ ((r.length + 1) * n) = 2 ^ n * 2 ^ (r.length * n) := by rw [← Nat.pow_add]; congr 1; rw [Nat.succ_mul]; omega
    rw [p]
    have h3 : 2 ^ n * (valD n r + 1) ≤ 2 ^ n * 2 ^ (r.length * n) := Nat.mul_le_mul_left _ h1
    rw [Nat.mul_add, Nat.mul_one] at h3
    omega
def slice (ds : List Nat) (lo hi : Nat) : List Nat := (ds.drop lo).take (hi - lo)
theorem slice_length (ds : List Nat) (lo hi : Nat) (h : hi ≤ ds.length) : (slice ds lo hi).length = hi - lo := by
  simp [slice]; omega
theorem slice_split (ds : List Nat) (lo mid hi : Nat) (h1 : lo ≤ mid) (h2 : mid ≤ hi) : slice ds lo hi = slice ds lo mid ++ slice ds mid hi := by
  unfold slice
  have e : hi - lo = (mid - lo) + (hi - mid) := by omega
  rw [e, List.take_add, List.drop_drop]
  congr 3; omega
theorem slice_mem (ds : List Nat) (lo hi : Nat) : ∀ d ∈ slice ds lo hi, d ∈ ds := fun d h => List.mem_of_mem_drop (List.mem_of_mem_take h)
theorem slice_one (ds : List Nat) (lo : Nat) (h : lo < ds.length) : slice ds lo (lo + 1) = [ds[lo]] := by
  unfold slice
  rw [Nat.add_sub_cancel_left, List.drop_eq_getElem_cons h]
  rfl
theorem slice_all (ds : List Nat) : slice ds 0 ds.length = ds := by simp [slice]
theorem valD_one (n d : Nat) : valD n [d] = d := by simp [valD]
end Mine
end

section
namespace Mine
def divLoop (n b : Nat) : List Nat → Nat → List Nat × Nat
  | [], r => ([], r)
  | d :: ds, r => (((r * 2 ^ n + d) / b) :: (divLoop n b ds ((r * 2 ^ n + d) % b)).1, (divLoop n b ds ((r * 2 ^ n + d) % b)).2)
def valM (n : Nat) (l : List Nat) (r : Nat) : Nat := l.foldl (fun a d => a * 2 ^ n + d) r
theorem divLoop_val (n b : Nat) : ∀ (ds : List Nat) (q0 r : Nat), valM n (divLoop n b ds r).1 q0 * b + (divLoop n b ds r).2 = valM n ds (q0 * b + r)
  | [], q0, r => rfl
  | d :: ds, q0, r => by
    show valM n (divLoop n b ds ((r * 2 ^ n + d) % b)).1 (q0 * 2 ^ n + (r * 2 ^ n + d) / b) * b + (divLoop n b ds ((r * 2 ^ n + d) % b)).2 = valM n ds ((q0 * b + r) * 2 ^ n + d)
    rw [divLoop_val n b ds]
    congr 1
    have h := Nat.div_add_mod (r * 2 ^ n + d) b
    rw [Nat.mul_comm] at h
    rw [Nat.add_mul, Nat.add_mul, Nat.mul_right_comm]
    omega
theorem divLoop_lt (n b : Nat) (hb : 0 < b) : ∀ (ds : List Nat) (r : Nat), r < b → (divLoop n b ds r).2 < b
  | [], r, h => h
  | d :: ds, r, _ => divLoop_lt n b hb ds _ (Nat.mod_lt _ hb)
theorem divLoop_digit (n b : Nat) (hb : 0 < b) : ∀ (ds : List Nat) (r : Nat), r < b → (∀ d ∈ ds, d < 2 ^ n) → ∀ q ∈ (divLoop n b ds r).1, q < 2 ^ n
  | [], _, _, _, _, h => nomatch h
  | d :: ds, r, hr, hd, q, h => by
    rcases List.mem_cons.mp h with rfl | h
    · apply Nat.div_lt_of_lt_mul
      have h1 := hd d (.head _)
      have h2 : (r + 1) * 2 ^ n ≤ b * 2 ^ n := Nat.mul_le_mul_right _ hr
      rw [Nat.add_mul, Nat.one_mul] at h2
      omega
    · exact divLoop_digit n b hb ds _ (Nat.mod_lt _ hb) (fun x hx => hd x (.tail _ hx)) q h
theorem divLoop_length (n b : Nat) : ∀ (ds : List Nat) (r : Nat), (divLoop n b ds r).1.length = ds.length
  | [], _ => rfl
  | _ :: ds, _ => congrArg (· + 1) (divLoop_length n b ds _)
theorem valM_valD (n : Nat) : ∀ (l : List Nat) (r : Nat), valM n l r = r * 2 ^ (l.length * n) + valD n l.reverse
  | [], r => by simp [valM, valD]
  | d :: t, r => by
    show valM n t (r * 2 ^ n + d) = _
    rw [valM_valD n t, List.reverse_cons, valD_append, List.length_reverse, List.length_cons]
    have p : 2 ^ ((t.length + 1) * n) = 2 ^ n * 2 ^ (t.length * n) := by rw [← Nat.pow_add]; congr 1; rw [Nat.succ_mul]; omega
    rw [p, Nat.add_mul, Nat.mul_assoc]
    simp only [valD, Nat.mul_zero, Nat.add_zero]
    rw [Nat.mul_comm d]
    omega
/-- long division to the base 2^n -/
theorem divLoop_all (n b a k : Nat) (hb : 0 < b) (ha : a < 2 ^ (k * n)) :
    valD n (divLoop n b (digs n a k).reverse 0).1.reverse = a / b ∧ (divLoop n b (digs n a k).reverse 0).2 = a % b := by
  have h1 := divLoop_val n b (digs n a k).reverse 0 0
  have h2 := divLoop_lt n b hb (digs n a k).reverse 0 hb
  rw [valM_valD, valM_valD, List.reverse_reverse, valD_digs n k a ha] at h1
  simp only [Nat.zero_mul, Nat.zero_add] at h1
  generalize valD n (divLoop n b (digs n a k).reverse 0).1.reverse = q at *
  generalize (divLoop n b (digs n a k).reverse 0).2 = r at *
  subst h1
  constructor
  · rw [Nat.mul_comm, Nat.mul_add_div hb, Nat.div_eq_of_lt h2, Nat.add_zero]
  · rw [Nat.mul_comm, Nat.mul_add_mod, Nat.mod_eq_of_lt h2]
end Mine
end

section
open PySem PySem.W PyProof.Rows
set_option maxRecDepth 100000
set_option maxHeartbeats 8000000
namespace Mine
/-- a call's contract: from the ledger news the call of f on args ends, gives r and leaves the ledger news', as post says -/
def Spec (f : Addr) (args : List Value) (dpth : Nat) (news : List (Addr × Obj)) (post : Value → List (Addr × Obj) → Prop) : Prop :=
  ∀ (prog : Program) (w : World) (p : Program) (loose : List Str) (mean : ExcName → Option Value) (mg mb : Str → Option Value) (dp un : Nat) (gd : Option (List Code)) (cn : Str) (cs : Scope) (a : Addr) (ccd : Value) (cl : List (Str × Addr)) (outer : List Env) (A₀ : Around) (base h₀ : Heap) (L : Addr) (m : Str → Option Value) (s : Shared)
    (Q E : Value → Shared → Prop),
    Below A₀ base outer h₀ → Fr h₀ L s.heap m → (hd.heap_39 w.params).In h₀ → News h₀ L s.heap news → Top p loose mean mg mb h₀ → CodeHd h₀ 48 44 → CodeHd h₀ 41 37 → cs.kind = .function → dp + dpth < 600 → un + 8 * dpth < 2000 →
    (∀ r news' h' tk', Fr h₀ L h' m → News h₀ L h' news' → post r news' → Q r { s with heap := h', toks := tk' }) →
    wpAny (model prog w) (ktrTop dp un gd cn cs L a ccd cl outer) (call (.ref f) args) Q E s

/-- the ledger bears at v a list of the ints xs -/
def IntL (news : List (Addr × Obj)) (v : Value) (xs : List Int) : Prop := ∃ a ws n, v = .ref a ∧ (a, listOf ws.toArray n) ∈ news ∧ IntsAre ws xs
/-- the values vs are lists of ints xss -/
inductive Heaped (news : List (Addr × Obj)) : List Value → List (List Int) → Prop where
  | nil : Heaped news [] []
  | cons {v xs vs xss} : IntL news v xs → Heaped news vs xss → Heaped news (v :: vs) (xs :: xss)
theorem Heaped.length {news vs xss} (h : Heaped news vs xss) : vs.length = xss.length := by
  induction h with
  | nil => rfl
  | cons _ _ ih => simp [ih]
theorem Heaped.get {news vs xss} (h : Heaped news vs xss) : ∀ {j : Nat}, j < xss.length → ∃ v, vs[j]? = some v ∧ IntL news v (xss.getD j []) := by
  induction h with
  | nil => intro j hj; exact absurd hj (Nat.not_lt_zero _)
  | cons h0 _ ih =>
    intro j hj
    cases j with
    | zero => exact ⟨_, rfl, h0⟩
    | succ j => exact ih (Nat.lt_of_succ_lt_succ hj)
theorem Heaped.set {news vs xss v xs} (h : Heaped news vs xss) (hv : IntL news v xs) : ∀ (j : Nat), Heaped news (vs.set j v) (xss.set j xs) := by
  induction h with
  | nil => intro j; exact .nil
  | cons h0 h1 ih =>
    intro j
    cases j with
    | zero => exact .cons hv h1
    | succ j => exact .cons h0 (ih j)
theorem Heaped.append {news vs xss v xs} (h : Heaped news vs xss) (hv : IntL news v xs) : Heaped news (vs ++ [v]) (xss ++ [xs]) := by
  induction h with
  | nil => exact .cons hv .nil
  | cons h0 _ ih => exact .cons h0 ih
end Mine
end

section
open PySem PySem.W PyProof.Rows
set_option maxRecDepth 100000
set_option maxHeartbeats 8000000
namespace Mine
open PySem.AutoSeq1 (wpAny_loadPart')
open PySem.MeetsSeq
theorem ltL_drop_cons (xs ys : List Int) (i : Nat) (h1 : i < xs.length) (h2 : i < ys.length) : ltL (xs.drop i) (ys.drop i) = if xs[i] = ys[i] then ltL (xs.drop (i + 1)) (ys.drop (i + 1)) else decide (xs[i] < ys[i]) := by
  rw [List.drop_eq_getElem_cons h1, List.drop_eq_getElem_cons h2, ltL]
theorem ltL_drop_end (xs ys : List Int) (i : Nat) (h : i ≥ xs.length ∨ i ≥ ys.length) (hx : i ≤ xs.length) (hy : i ≤ ys.length) : ltL (xs.drop i) (ys.drop i) = decide (xs.length < ys.length) := by
  rcases h with h | h
  · have e : xs.drop i = [] := List.drop_eq_nil_iff.mpr h
    rw [e]
    cases hq : ys.drop i with
    | nil => have := List.drop_eq_nil_iff.mp hq; simp [ltL]; omega
    | cons y r =>
      have : ¬ ys.length ≤ i := fun q => by rw [List.drop_eq_nil_iff.mpr q] at hq; cases hq
      simp [ltL]; omega
  · have e : ys.drop i = [] := List.drop_eq_nil_iff.mpr h
    rw [e]
    cases hq : xs.drop i with
    | nil => have := List.drop_eq_nil_iff.mp hq; simp [ltL]; omega
    | cons y r =>
      have : ¬ xs.length ≤ i := fun q => by rw [List.drop_eq_nil_iff.mpr q] at hq; cases hq
      simp [ltL]; omega
theorem lt_loop (l b : Addr) (vs us : List Value) (xs ys : List Int) (n n2 : Nat) (hv : IntsAre vs xs) (hu : IntsAre us ys) (k : Nat) :
    ∀ i : Nat, xs.length - i = k → i ≤ xs.length → i ≤ ys.length → Meets (Builtin.«list.__eq__.loop» ⟨[.ref l, .ref b, rawInt i, rawInt 0], []⟩)
      (fun _ R s => s.heap.get? l = some (listOf vs.toArray n) ∧ s.heap.get? b = some (listOf us.toArray n2) ∧
        R (.ok (.ret (.bool (ltL (xs.drop i) (ys.drop i))))) s) := by
  have hlv := hv.length
  have hlu := hu.length
  induction k with
  | zero =>
    intro i hk hi1 hi2 prog w A R s h
    obtain ⟨hp, g, d, tk, os⟩ := s; obtain ⟨hl, hb, h⟩ := h
    wp_walk using wpAny_loadPart' hl, wpAny_loadPart' hb
    have hi1 : vs.toArray[((i : Nat) : Int).toNat]? = none := by simp; omega
    rw [ltL_drop_end _ _ _ (.inl (by omega)) (by omega) (by omega)] at h
    rw [hi1]
    wp_walk using wpAny_loadPart' hl, wpAny_loadPart' hb
    show R (.ok (.ret (.bool (decide (vs.toArray.size < us.toArray.size))))) _
    simpa [hlv, hlu] using h
  | succ k ih =>
    intro i hk hi1 hi2 prog w A R s h
    obtain ⟨hp, g, d, tk, os⟩ := s; obtain ⟨hl, hb, h⟩ := h
    wp_walk using wpAny_loadPart' hl, wpAny_loadPart' hb
    have hlt : i < xs.length := by omega
    by_cases hlt2 : i < ys.length
    · obtain ⟨t1, e1⟩ := hv.get i xs[i] (by simp [hlt])
      obtain ⟨t2, e2⟩ := hu.get i ys[i] (by simp [hlt2])
      have hi1 : vs.toArray[((i : Nat) : Int).toNat]? = some (.int xs[i] t1) := by simpa using e1
      have hi2 : us.toArray[((i : Nat) : Int).toNat]? = some (.int ys[i] t2) := by simpa using e2
      have hc : ((i : Int) + 1) = ((i + 1 : Nat) : Int) := by push_cast; rfl
      rw [ltL_drop_cons _ _ _ hlt hlt2] at h
      rw [hi1, hi2]
      refine wpAny_bind (wpAny_eqBool_int ?_)
      cases hb' : xs[i] == ys[i] with
      | true =>
        rw [if_pos (by simpa using hb')] at h
        wp_walk
        rw [hc]
        exact ⟨plainId_quiet MeetsSeq3.plain_eq_loop _, codeAny_builtin MeetsSeq3.entry_eq_loop (by
          rw [Around.under_plainId MeetsSeq3.plain_eq_loop _]
          exact ih (i + 1) (by omega) (by omega) (by omega) prog w A R _ ⟨hl, hb, h⟩)⟩
      | false =>
        rw [if_neg (by simpa using hb')] at h
        wp_walk using wpAny_loadPart' hl, wpAny_loadPart' hb
        rw [hi1, hi2]
        refine wpAny_bind (show wpAny _ _ (compareOp .Lt _ _) _ _ _ from lt_int ?_)
        exact wpAny_pure h
    · have hi2 : us.toArray[((i : Nat) : Int).toNat]? = none := by simp; omega
      rw [ltL_drop_end _ _ _ (.inr (by omega)) (by omega) (by omega)] at h
      rw [hi2]
      have hi1 : ∃ v, vs.toArray[((i : Nat) : Int).toNat]? = some v := by
        obtain ⟨t1, e1⟩ := hv.get i xs[i] (by simp [hlt])
        exact ⟨_, by simpa using e1⟩
      obtain ⟨v, hi1⟩ := hi1
      rw [hi1]
      wp_walk using wpAny_loadPart' hl, wpAny_loadPart' hb
      show R (.ok (.ret (.bool (decide (vs.toArray.size < us.toArray.size))))) _
      simpa [hlv, hlu] using h

theorem list_lt (l b : Addr) (vs us : List Value) (xs ys : List Int) (n n2 : Nat) (hv : IntsAre vs xs) (hu : IntsAre us ys) :
    Meets (Builtin.«list.__lt__» ⟨[.ref l, .ref b], []⟩)
      (fun _ R s => s.heap.get? l = some (listOf vs.toArray n) ∧ s.heap.get? b = some (listOf us.toArray n2) ∧ R (.ok (.ret (.bool (ltL xs ys)))) s) := by
  intro prog w A R s h
  obtain ⟨hp, g, d, tk, os⟩ := s; obtain ⟨hl, hb, h⟩ := h
  have f3 := AutoSeq1.sub_list_list
  wp_walk using wpAny_loadPart' hl, wpAny_loadPart' hb
  exact ⟨plainId_quiet MeetsSeq3.plain_eq_loop _, codeAny_builtin MeetsSeq3.entry_eq_loop (by
    rw [Around.under_plainId MeetsSeq3.plain_eq_loop _]
    exact lt_loop l b vs us xs ys n n2 hv hu _ 0 rfl (Nat.zero_le _) (Nat.zero_le _) prog w A R _ ⟨hl, hb, h⟩)⟩
section
variable {prog : Program} {w : World} {A : Around} {E : Value → Shared → Prop} {s : Shared} {h₀ : Heap} {L : Addr} {m : Str → Option Value} {news : List (Addr × Obj)}
/-- Python's < upon two lists of ints of the ledger -/
theorem lt_ints {a b : Value} {xs ys : List Int} {Q : Value → Shared → Prop} (N : News h₀ L s.heap news) (ha : IntL news a xs) (hb : IntL news b ys) (hu : A.units < cLine)
    (h : Q (.bool (ltL xs ys)) s) : wpAny (model prog w) A (compareOp .Lt a b) Q E s := by
  obtain ⟨x, vs, n, rfl, hm, hi⟩ := ha
  obtain ⟨y, us, k, rfl, hm', hi'⟩ := hb
  have e1 := (N _ hm).1
  have e2 := (N _ hm').1
  have i1 : s.heap.IsList x vs.toArray := ⟨_, e1, rfl, _, rfl⟩
  have i2 : s.heap.IsList y us.toArray := ⟨_, e2, rfl, _, rfl⟩
  show wpAny _ _ (richCompare .Lt _ _) _ _ _
  exact richCompare_meets_room i1.typeIs i2.typeIs PySem.F.slot_list_lt PySem.F.entry_list_lt (PySem.F.args_list_lt_2 _ _) (list_lt x y vs us xs ys n k hi hi') ⟨e1, e2, by simp, h⟩ hu
/-- an item of a list of the ledger -/
theorem item_led {l : Addr} {vs : List Value} {n : Nat} {k : Int} {u : Tok} {v : Value} {value slice : PySem.Expr} {Q : Value → Shared → Prop} (N : News h₀ L s.heap news) (hm : (l, listOf vs.toArray n) ∈ news)
    (h0 : 0 ≤ k) (hhi : k < 2 ^ 63) (hx : vs[k.toNat]? = some v) (h : Q v s)
    (hs : subscripted slice false (.ref l) (.int k u) = operate [.ref l, .int k u] (getItem (.ref l) (.int k u)) := by with_unfolding_all rfl) :
    wpAny (model prog w) A (subscriptTail value slice (.ref l) (.int k u)) Q E s :=
  have hl : s.heap.IsList l vs.toArray := ⟨_, (N _ hm).1, rfl, _, rfl⟩
  tail_any hl.typeIs slot_list_getitem.lookup (wpAny_getItem_list hl h0 hhi (by simpa using hx) h) hs
/-- a store into a list of the ledger -/
theorem set_led {D : Addr} {vs : List Value} {n : Nat} {k : Int} {t : Tok} {v : Value} {news' : List (Addr × Obj)} {Q : Unit → Shared → Prop} (F : Fr h₀ L s.heap m) (N : News h₀ L s.heap news)
    (U : Upd D (listOf vs.toArray n) (listOf (vs.set k.toNat v).toArray n) news news') (h0 : 0 ≤ k) (h1 : k < vs.length) (hfit : k < 2 ^ 63)
    (h : ∀ h', Fr h₀ L h' m → News h₀ L h' news' → Q () { s with heap := h' }) :
    wpAny (model prog w) A (setItem (.ref D) (.int k t) v) Q E s := by
  obtain ⟨pre, post, rfl, rfl, a, b⟩ := U.split
  have z := N (D, listOf vs.toArray n) (List.mem_append.mpr (.inr (.head _)))
  refine ki_setAt z.1 h0 hfit (by simpa using h1) (h _ (F.change (Heap.SameBut.update ..) z.2.1 z.2.2) (ki_turn _ N a b ?_ ?_))
  · show vs.toArray.setIfInBounds k.toNat v = (vs.set k.toNat v).toArray
    apply Array.toList_inj.mp
    simp
  · simp
end
end Mine
end

section
open PySem PySem.W PyProof.Rows
set_option maxRecDepth 100000
set_option maxHeartbeats 8000000
namespace Mine
def Stop (P : Prop) : Prop := P
theorem stop {P : Prop} (h : Stop P) : P := h
theorem fillK : PySem.Challenge.rw_op0113_01 = PySem.Challenge.rw_op0113_01 ∧ Mine.hd.heap_39 = Mine.hd.heap_39 := by
  k_fill
  w_top off
  exact ⟨rfl, rfl⟩
local macro_rules | `(tactic| walk_at $k:str) => if ["exec While Compare cons nil", "exec While Constant cons nil", "subscriptTail Name Name ref int", "setItem ref int"].contains k.getString then `(tactic| (k_here; refine stop ?_)) else Lean.Macro.throwUnsupported
local macro_rules | `(tactic| walk_at $k:str) => if ["WhlRest", "WhlIf"].contains k.getString then `(tactic| (refine stop ?_)) else Lean.Macro.throwUnsupported
local macro_rules | `(tactic| walk_at "eval Name") => `(tactic| (k_here; k_dflt (refine' ld ?k1 ?k2 ?_; (case k1 => k_asm); (case k2 => assumption); k_whole)))
theorem IntL.mono {news news' v xs} (h : IntL news v xs) (hs : ∀ p ∈ news, p ∈ news') : IntL news' v xs := let ⟨a, ws, n, e, hm, hi⟩ := h; ⟨a, ws, n, e, hs _ hm, hi⟩
theorem siftdown_spec {hp : Addr} {vs : List Value} {xss : List (List Int)} {n pos : Nat} {t0 tp : Tok} {RR rest : List (Addr × Obj)} (hSub : ∀ p ∈ RR, p ∈ rest) (hne : ∀ p ∈ rest, p.1 ≠ hp) (H : Heaped RR vs xss) (hpos : pos < xss.length) (hlen : xss.length ≤ 100) :
    Spec 84 [.ref hp, .int 0 t0, .int (pos : Int) tp] 2 ((hp, listOf vs.toArray n) :: rest) (fun r news' => r = .none ∧ ∃ vs', news' = (hp, listOf vs'.toArray n) :: rest ∧ Heaped RR vs' (siftdownP xss pos)) := by
  unfold Spec
  intro prog w p loose mean mg mb dp un gd cn cs a ccd cl outer A₀ base h₀ L m s Q E B F X N T C1 C2 hk hd hu hret
  refine wpAny_call ?_
  k_dflt ktr_enter
  rename_i g L1 h1 FG F1 N1 B1 X1 T1
  k_steps
  obtain ⟨nv, hnv, hN⟩ := H.get hpos
  unfold Stop; refine item_led N1 (.head _) (by omega) (by omega) (by simpa using hnv) ?_
  k_steps
  rename_i h2 F2 N2
  unfold Stop
  k_fold
  refine whl_start 0 ?_
  unfold siftdownP at hret
  generalize hnew : xss.getD pos [] = new at hN hret
  obtain ⟨f, hf⟩ : ∃ f, f = pos := ⟨_, rfl⟩
  obtain ⟨R, hR⟩ : ∃ R, sdLoop new f xss pos = R := ⟨_, rfl⟩
  rw [show sdLoop new pos xss pos = R by rw [← hR, hf]] at hret
  have hfp : pos ≤ f := by omega
  clear hf hnv hnew N F
  obtain ⟨m2, hm2, F3⟩ : ∃ m', m' = _ ∧ Fr g L1 h2 m' := ⟨_, rfl, F2⟩
  replace F2 := F3; clear F3
  have e1 : m2 (Str.ofString "pos") = some (.int pos tp) := by rw [hm2]; rfl
  have e2 : m2 (Str.ofString "heap") = some (.ref hp) := by rw [hm2]; rfl
  have e3 : m2 (Str.ofString "startpos") = some (.int 0 t0) := by rw [hm2]; rfl
  have e4 : m2 (Str.ofString "newitem") = some nv := by rw [hm2]; rfl
  clear hm2
  generalize tk + 1 = tk2
  have tail : ∀ h2 tk2 m2 tp (pos : Nat) vs xss, Fr g L1 h2 m2 → News g L1 h2 ((hp, listOf vs.toArray n) :: rest) → m2 (Str.ofString "pos") = some (.int pos tp) → m2 (Str.ofString "heap") = some (.ref hp) → m2 (Str.ofString "newitem") = some nv →
      Heaped RR vs xss → pos < xss.length → xss.length ≤ 100 → xss.set pos new = R → qk .next { heap := h2, gens := s.gens, drawn := s.drawn, toks := tk2, os := s.os } := by
    intro h2 tk2 m2 tp pos vs xss F2 N2 e1 e2 e4 H hpos hlen hR
    have hl := H.length
    k_steps
    unfold Stop; refine set_led F2 N2 (.head hne) (by omega) (by omega) (by omega) ?_
    intro h3 F3 N3
    k_steps
    rename Fr h₀ L h3 m => F4
    rename News h₀ L h3 _ => N4
    exact hret _ _ _ _ F4 N4 ⟨rfl, _, rfl, hR ▸ H.set hN pos⟩
  clear_value qk
  have hroom : ((ktrTop dp un gd cn cs L a ccd cl outer).deeper
      (envOf (Str.ofString "_siftdown") { kind := ScopeKind.function, names := [], isGenerator := false, isCoroutine := false } L1 84 (Value.ref 83))).units < cLine := by
    show un + _ < _
    have := cLine_is
    omega
  induction f generalizing h2 tk2 m2 vs xss pos tp with
  | zero =>
    have h0 : ¬ 0 < pos := by omega
    refine whl_turn (k := 0) (by passes_own) ?_
    k_steps
    unfold Stop
    refine WhlIf.no (by simpa using h0) ?_
    refine wpAny_execs_nil (tail _ _ _ _ pos _ _ F2 N2 e1 e2 e4 H hpos hlen ?_)
    rw [← hR, sdLoop]
  | succ f ih =>
    refine whl_turn (k := 0) (by passes_own) ?_
    k_steps
    unfold Stop
    by_cases h0 : 0 < pos
    · refine WhlIf.yes (by simpa using h0) ?_
      k_steps
      have epp : (((pos : Int) - 1).fdiv (2 ^ (1 : Int).toNat)) = (((pos - 1) / 2 : Nat) : Int) := by
        rw [Int.fdiv_eq_ediv_of_nonneg _ (by decide)]
        show ((pos : Int) - 1) / 2 = _
        omega
      obtain ⟨pv, hpv, hP⟩ := H.get (j := (pos - 1) / 2) (by omega)
      rename Fr _ _ _ _ => F3
      rename News _ _ _ _ => N3
      unfold Stop; refine item_led N3 (.head _) (by rw [epp]; omega) (by rw [epp]; omega) (by rw [epp]; exact hpv) ?_
      k_steps
      rename Fr _ _ _ _ => F5
      rename News _ _ _ _ => N5
      refine lt_ints N5 (hN.mono fun _ h => .tail _ (hSub _ h)) (hP.mono fun _ h => .tail _ (hSub _ h)) hroom ?_
      have hR2 := hR
      rw [sdLoop, if_pos h0] at hR2
      dsimp only at hR2
      have hl := H.length
      cases hlt : ltL new (xss.getD ((pos - 1) / 2) []) with
      | true =>
        rw [if_pos hlt] at hR2
        k_steps
        unfold Stop; refine set_led F5 N5 (.head hne) (by omega) (by omega) (by omega) ?_
        intro h6 F6 N6
        k_steps
        rename Fr _ _ _ _ => F7
        rename News _ _ _ _ => N7
        unfold Stop
        rw [epp] at F7
        exact ih (pos := (pos - 1) / 2) (H.set hP pos) (by rw [List.length_set]; omega) (by rw [List.length_set]; omega) _ N7 hR2 (by omega) _ F7 rfl e2 e3 e4 _
      | false =>
        rw [if_neg (by rw [hlt]; decide)] at hR2
        k_steps
        exact tail _ _ _ _ pos _ _ F5 N5 e1 e2 e4 H hpos hlen hR2
    · refine WhlIf.no (by simpa using h0) ?_
      refine wpAny_execs_nil (tail _ _ _ _ pos _ _ F2 N2 e1 e2 e4 H hpos hlen ?_)
      rw [← hR, sdLoop, if_neg h0]
end Mine
end

section
open PySem PySem.W PyProof.Rows
set_option maxRecDepth 100000
set_option maxHeartbeats 8000000
namespace Mine
/-- room for a call, one activation deeper -/
theorem room {x a k b n : Nat} (h : x + a < n) (hk : Nat.ble (k + b) a = true) : x + k + b < n := Nat.lt_of_le_of_lt (by rw [Nat.add_assoc]; exact Nat.add_le_add_left (Nat.le_of_ble_eq_true hk) x) h
theorem Spec.use {f : Addr} {args : List Value} {d : Nat} {news : List (Addr × Obj)} {post : Value → List (Addr × Obj) → Prop} (S : Spec f args d news post)
    {prog : Program} {w : World} {p : Program} {loose : List Str} {mean : ExcName → Option Value} {mg mb : Str → Option Value} {dp un : Nat} {gd : Option (List Code)} {cn : Str} {cs : Scope} {a : Addr} {ccd : Value} {cl : List (Str × Addr)} {outer : List Env} {A₀ : Around} {base h₀ : Heap} {L : Addr} {m : Str → Option Value} {s : Shared}
    {Q E : Value → Shared → Prop}
    (B : Below A₀ base outer h₀) (F : Fr h₀ L s.heap m) (X : (hd.heap_39 w.params).In h₀) (N : News h₀ L s.heap news) (T : Top p loose mean mg mb h₀) (C1 : CodeHd h₀ 48 44) (C2 : CodeHd h₀ 41 37) (hk : cs.kind = .function) (hd : dp + d < 600) (hu : un + 8 * d < 2000)
    (ret : ∀ r news' h' tk', Fr h₀ L h' m → News h₀ L h' news' → post r news' → Q r { s with heap := h', toks := tk' }) :
    wpAny (model prog w) (ktrTop dp un gd cn cs L a ccd cl outer) (call (.ref f) args) Q E s :=
  S prog w p loose mean mg mb dp un gd cn cs a ccd cl outer A₀ base h₀ L m s Q E B F X N T C1 C2 hk hd hu ret
theorem len_led {prog : Program} {w : World} {A : Around} {E : Value → Shared → Prop} {s : Shared} {h₀ : Heap} {L l : Addr} {vs : List Value} {n : Nat} {news : List (Addr × Obj)} {Q : Value → Shared → Prop} (N : News h₀ L s.heap news) (hm : (l, listOf vs.toArray n) ∈ news) (hfit : vs.length < 2 ^ 63)
    (h : ∀ t tk, Q (.int vs.length t) { s with toks := tk }) : wpAny (model prog w) A (call (.builtin "len") [.ref l]) Q E s :=
  have hl : s.heap.IsList l vs.toArray := ⟨_, (N _ hm).1, rfl, _, rfl⟩
  len_list hl (by simpa using (by omega : (vs.length : Int) < 2 ^ 63)) (by simpa using h _ _)
local macro_rules | `(tactic| walk_at "call ref") => `(tactic| (k_here; refine stop ?_))
local macro_rules | `(tactic| k_all) => `(tactic| assumption)
local macro_rules | `(tactic| walk_at "call builtin:len") => `(tactic| (k_here; (with_reducible show wpAny _ _ (call (Value.builtin _) [Value.ref _]) _ _ _); k_dflt (refine' len_led ?k1 ?k2 ?k3 ?_; (case k1 => k_asm); (case k2 => k_mem); (case k3 => (try simp only [List.length_append, List.length_set, List.length_cons, List.length_nil]); omega); k_whole); intro _ _))
theorem heappush_spec {hp : Addr} {it : Value} {x : List Int} {vs : List Value} {xss : List (List Int)} {n : Nat} {RR rest : List (Addr × Obj)} (hSub : ∀ p ∈ RR, p ∈ rest) (hne : ∀ p ∈ rest, p.1 ≠ hp) (H : Heaped RR vs xss) (hx : IntL RR it x) (hlen : xss.length < 100) :
    Spec 70 [.ref hp, it] 3 ((hp, listOf vs.toArray n) :: rest) (fun r news' => r = .none ∧ ∃ vs' n', news' = (hp, listOf vs'.toArray n') :: rest ∧ Heaped RR vs' (pushP xss x)) := by
  unfold Spec
  intro prog w p loose mean mg mb dp un gd cn cs a ccd cl outer A₀ base h₀ L m s Q E B F X N T C1 C2 hk hd hu hret
  refine wpAny_call ?_
  k_dflt ktr_enter
  rename_i g L1 h1 FG F1 N1 B1 X1 T1
  have hl := H.length
  k_steps
  unfold Stop
  rename Fr _ _ _ _ => F2
  rename News _ _ _ _ => N2
  have e : (((vs ++ [it]).length : Int) - 1) = ((xss.length : Nat) : Int) := by simp; omega
  rw [e]
  refine Spec.use (siftdown_spec hSub hne (H.append hx) (by simp) (by simp; omega)) B1 F2 X1 N2 T1 (C1.keeps FG.keep) (C2.keeps FG.keep) rfl (room hd rfl) (room hu rfl) ?_
  rintro r news' h' tk' F3 N3 ⟨rfl, vs', rfl, H'⟩
  k_steps
  rename Fr h₀ L _ m => F4
  rename News h₀ L _ _ => N4
  exact hret _ _ _ _ F4 N4 ⟨rfl, _, _, rfl, H'⟩
end Mine
end

section
open PySem PySem.W PyProof.Rows
set_option maxRecDepth 100000
set_option maxHeartbeats 8000000
namespace Mine
local macro_rules | `(tactic| walk_at "call ref") => `(tactic| (k_here; refine stop ?_))
local macro_rules | `(tactic| k_all) => `(tactic| assumption)
local macro_rules | `(tactic| walk_at "call builtin:len") => `(tactic| (k_here; (with_reducible show wpAny _ _ (call (Value.builtin _) [Value.ref _]) _ _ _); k_dflt (refine' len_led ?k1 ?k2 ?k3 ?_; (case k1 => k_asm); (case k2 => k_mem); (case k3 => (try simp only [List.length_append, List.length_set, List.length_cons, List.length_nil]); omega); k_whole); intro _ _))
local macro_rules | `(tactic| walk_at $k:str) => if ["exec While Compare cons nil", "exec While Constant cons nil", "subscriptTail Name Name ref int", "setItem ref int"].contains k.getString then `(tactic| (k_here; refine stop ?_)) else Lean.Macro.throwUnsupported
local macro_rules | `(tactic| walk_at $k:str) => if ["WhlRest", "WhlIf"].contains k.getString then `(tactic| (refine stop ?_)) else Lean.Macro.throwUnsupported
local macro_rules | `(tactic| walk_at "eval Name") => `(tactic| (k_here; k_dflt (refine' ld ?k1 ?k2 ?_; (case k1 => k_asm); (case k2 => assumption); k_whole)))
theorem siftup_spec {hp : Addr} {vs : List Value} {xss : List (List Int)} {n : Nat} {t0 : Tok} {RR rest : List (Addr × Obj)} (hSub : ∀ p ∈ RR, p ∈ rest) (hne : ∀ p ∈ rest, p.1 ≠ hp) (H : Heaped RR vs xss) (hpos : 0 < xss.length) (hlen : xss.length ≤ 100) :
    Spec 91 [.ref hp, .int 0 t0] 4 ((hp, listOf vs.toArray n) :: rest) (fun r news' => r = .none ∧ ∃ vs', news' = (hp, listOf vs'.toArray n) :: rest ∧ Heaped RR vs' (siftupP xss)) := by
  unfold Spec
  intro prog w p loose mean mg mb dp un gd cn cs a ccd cl outer A₀ base h₀ L m s Q E B F X N T C1 C2 hk hd hu hret
  refine wpAny_call ?_
  k_dflt ktr_enter
  rename_i g L1 h1 FG F1 N1 B1 X1 T1
  have hl := H.length
  k_steps
  rename Fr _ _ _ _ => F2
  rename News _ _ _ _ => N2
  obtain ⟨nv, hnv, hN⟩ := H.get hpos
  unfold Stop; refine item_led N2 (.head _) (by decide) (by decide) hnv ?_
  k_steps
  rename_i h2 F2 N2
  unfold Stop
  k_fold
  refine whl_start 0 ?_
  unfold siftupP at hret
  generalize hnew : xss.getD 0 [] = new at hN hret
  obtain ⟨f, hf⟩ : ∃ f, f = xss.length := ⟨_, rfl⟩
  obtain ⟨pos, hp0⟩ : ∃ pos : Nat, pos = 0 := ⟨_, rfl⟩
  obtain ⟨R, hR⟩ : ∃ R, suLoop new f xss pos = R := ⟨_, rfl⟩
  rw [show suLoop new xss.length xss 0 = R by rw [← hR, hf, hp0]] at hret
  have hfp : xss.length ≤ pos + f := by omega
  have hpos' : pos < xss.length := by omega
  obtain ⟨m2, hm2, F3⟩ : ∃ m', m' = _ ∧ Fr g L1 h2 m' := ⟨_, rfl, F2⟩
  replace F2 := F3; clear F3
  obtain ⟨tp, e1⟩ : ∃ t, m2 (Str.ofString "pos") = some (.int pos t) := by rw [hm2, hp0]; exact ⟨_, rfl⟩
  obtain ⟨tc, e2⟩ : ∃ t, m2 (Str.ofString "childpos") = some (.int ((2 * pos + 1 : Nat) : Int) t) := by rw [hm2, hp0]; exact ⟨_, rfl⟩
  obtain ⟨te, e3⟩ : ∃ t, m2 (Str.ofString "endpos") = some (.int (xss.length : Int) t) := by rw [hm2, ← hl]; exact ⟨_, rfl⟩
  have e4 : m2 (Str.ofString "newitem") = some nv := by rw [hm2]; rfl
  have e5 : m2 (Str.ofString "heap") = some (.ref hp) := by rw [hm2]; rfl
  have e6 : m2 (Str.ofString "startpos") = some (.int 0 t0) := by rw [hm2]; rfl
  generalize tk + 1 + 1 + 1 = tk2
  obtain ⟨len, hlenE⟩ : ∃ len, xss.length = len := ⟨_, rfl⟩
  rw [hlenE] at e3 hlen
  clear hf hnv hnew hm2 hp0 hpos N F hl
  have tail : ∀ h2 tk2 m2 tp (pos : Nat) vs xss, Fr g L1 h2 m2 → News g L1 h2 ((hp, listOf vs.toArray n) :: rest) → m2 (Str.ofString "pos") = some (.int pos tp) → m2 (Str.ofString "heap") = some (.ref hp) → m2 (Str.ofString "newitem") = some nv → m2 (Str.ofString "startpos") = some (.int 0 t0) →
      Heaped RR vs xss → pos < xss.length → xss.length ≤ 100 → siftdownP (xss.set pos new) pos = R → qk .next { heap := h2, gens := s.gens, drawn := s.drawn, toks := tk2, os := s.os } := by
    intro h2 tk2 m2 tp pos vs xss F2 N2 e1 e2 e4 e6 H hpos hlen hR
    have hl := H.length
    k_steps
    unfold Stop; refine set_led F2 N2 (.head hne) (by omega) (by omega) (by omega) ?_
    intro h3 F3 N3
    k_steps
    unfold Stop
    refine Spec.use (siftdown_spec hSub hne (H.set hN pos) (by simpa using hpos) (by simpa using hlen)) B1 F3 X1 N3 T1 (C1.keeps FG.keep) (C2.keeps FG.keep) rfl (room hd rfl) (room hu rfl) ?_
    rintro r news' h' tk' F4 N4 ⟨rfl, vs', rfl, H'⟩
    k_steps
    rename Fr h₀ L _ m => F5
    rename News h₀ L _ _ => N5
    exact hret _ _ _ _ F5 N5 ⟨rfl, _, rfl, hR ▸ H'⟩
  clear_value qk
  have hroom : ((ktrTop dp un gd cn cs L a ccd cl outer).deeper
      (envOf (Str.ofString "_siftup") { kind := ScopeKind.function, names := [], isGenerator := false, isCoroutine := false } L1 91 (Value.ref 90))).units < cLine := by
    show un + _ < _
    have := cLine_is
    omega
  induction f generalizing h2 tk2 m2 vs xss pos tp tc te with
  | zero => omega
  | succ f ih =>
    have hl := H.length
    refine whl_turn (k := 0) (by passes_own) ?_
    k_steps
    unfold Stop
    rw [suLoop] at hR
    dsimp only at hR
    by_cases h0 : 2 * pos + 1 < xss.length
    · refine WhlIf.yes (by simpa [← hlenE] using (by omega : (2 * (pos : Int) + 1) < xss.length)) ?_
      rw [if_pos h0] at hR
      by_cases hr : 2 * pos + 1 + 1 < xss.length
      · obtain ⟨lv, hlv, hL⟩ := H.get (j := 2 * pos + 1) (by omega)
        obtain ⟨rv, hrv, hRt⟩ := H.get (j := 2 * pos + 1 + 1) (by omega)
        k_steps
        rename Fr _ _ _ _ => F3
        rename News _ _ _ _ => N3
        unfold Stop; refine item_led N3 (.head _) (by omega) (by omega) hlv ?_
        k_steps
        unfold Stop; refine item_led N3 (.head _) (by omega) (by omega) hrv ?_
        k_steps
        refine lt_ints N3 (hL.mono fun _ h => .tail _ (hSub _ h)) (hRt.mono fun _ h => .tail _ (hSub _ h)) hroom ?_
        cases hlt : ltL (xss.getD (2 * pos + 1) []) (xss.getD (2 * pos + 1 + 1) []) with
        | true =>
          rw [if_neg (fun q => by rw [hlt] at q; exact Bool.noConfusion q.2)] at hR
          obtain ⟨cv, hcv, hC⟩ := H.get (j := 2 * pos + 1) (by omega)
          k_steps
          rename Fr _ _ _ _ => F5
          rename News _ _ _ _ => N5
          unfold Stop; refine item_led N5 (.head _) (by omega) (by omega) hcv ?_
          k_steps
          unfold Stop; refine set_led F5 N5 (.head hne) (by omega) (by omega) (by omega) ?_
          intro h6 F6 N6
          k_steps
          rename Fr _ _ _ _ => F7
          rename News _ _ _ _ => N7
          unfold Stop
          exact ih (pos := 2 * pos + 1) (H.set hC pos) _ N7 hR (by rw [List.length_set]; omega) (by rw [List.length_set]; omega) _ F7 _ rfl _ rfl _ e4 e5 e6 _ e3 (by rw [List.length_set]; omega)
        | false =>
          rw [if_pos ⟨hr, hlt⟩] at hR
          obtain ⟨cv, hcv, hC⟩ := H.get (j := 2 * pos + 1 + 1) (by omega)
          k_steps
          rename Fr _ _ _ _ => F5
          rename News _ _ _ _ => N5
          unfold Stop; refine item_led N5 (.head _) (by omega) (by omega) hcv ?_
          k_steps
          unfold Stop; refine set_led F5 N5 (.head hne) (by omega) (by omega) (by omega) ?_
          intro h6 F6 N6
          k_steps
          rename Fr _ _ _ _ => F7
          rename News _ _ _ _ => N7
          unfold Stop
          exact ih (pos := 2 * pos + 1 + 1) (H.set hC pos) _ N7 hR (by rw [List.length_set]; omega) (by rw [List.length_set]; omega) _ F7 _ rfl _ rfl _ e4 e5 e6 _ e3 (by rw [List.length_set]; omega)
      · rw [if_neg (fun q => hr q.1)] at hR
        obtain ⟨cv, hcv, hC⟩ := H.get (j := 2 * pos + 1) (by omega)
        k_steps
        rename Fr _ _ _ _ => F5
        rename News _ _ _ _ => N5
        unfold Stop; refine item_led N5 (.head _) (by omega) (by omega) hcv ?_
        k_steps
        unfold Stop; refine set_led F5 N5 (.head hne) (by omega) (by omega) (by omega) ?_
        intro h6 F6 N6
        k_steps
        rename Fr _ _ _ _ => F7
        rename News _ _ _ _ => N7
        unfold Stop
        exact ih (pos := 2 * pos + 1) (H.set hC pos) _ N7 hR (by rw [List.length_set]; omega) (by rw [List.length_set]; omega) _ F7 _ rfl _ rfl _ e4 e5 e6 _ e3 (by rw [List.length_set]; omega)
    · refine WhlIf.no (by simpa [← hlenE] using (by omega : (xss.length : Int) ≤ (2 * (pos : Int) + 1))) ?_
      refine wpAny_execs_nil (tail _ _ _ _ pos _ _ F2 N2 e1 e5 e4 e6 H hpos' (by omega) ?_)
      rw [← hR, if_neg h0]
end Mine
end

section
open PySem PySem.W PyProof.Rows
set_option maxRecDepth 100000
set_option maxHeartbeats 8000000
namespace Mine
theorem Heaped.snoc {news vs xss} (h : Heaped news vs xss) : 0 < xss.length → ∃ vs₀ y, vs = vs₀ ++ [y] ∧ Heaped news vs₀ xss.dropLast ∧ IntL news y (xss.getLastD []) := by
  induction h with
  | nil => intro h; exact absurd h (Nat.lt_irrefl 0)
  | cons h0 h1 ih =>
    intro _
    cases h1 with
    | nil => exact ⟨[], _, rfl, .nil, h0⟩
    | cons h2 h3 =>
      obtain ⟨vs₀, y, e, a, b⟩ := ih (Nat.succ_pos _)
      exact ⟨_ :: vs₀, y, by rw [e]; rfl, .cons h0 a, b⟩
theorem Heaped.nil_iff {news vs xss} (h : Heaped news vs xss) : vs = [] → xss = [] := by
  cases h with
  | nil => intro _; rfl
  | cons _ _ => intro h; cases h
local macro_rules | `(tactic| walk_at "call ref") => `(tactic| (k_here; refine stop ?_))
local macro_rules | `(tactic| k_all) => `(tactic| assumption)
local macro_rules | `(tactic| walk_at $k:str) => if ["subscriptTail Name Constant ref int", "setItem ref int", "call builtin:list.pop", "truthy ref"].contains k.getString then `(tactic| (k_here; refine stop ?_)) else Lean.Macro.throwUnsupported
theorem heappop_spec {hp : Addr} {vs : List Value} {xss : List (List Int)} {n : Nat} {RR rest : List (Addr × Obj)} (hSub : ∀ p ∈ RR, p ∈ rest) (hne : ∀ p ∈ rest, p.1 ≠ hp) (H : Heaped RR vs xss) (hpos : 0 < xss.length) (hlen : xss.length ≤ 100) :
    Spec 77 [.ref hp] 5 ((hp, listOf vs.toArray n) :: rest) (fun r news' => IntL RR r (popP xss).1 ∧ ∃ vs' n', news' = (hp, listOf vs'.toArray n') :: rest ∧ Heaped RR vs' (popP xss).2) := by
  unfold Spec
  intro prog w p loose mean mg mb dp un gd cn cs a ccd cl outer A₀ base h₀ L m s Q E B F X N T C1 C2 hk hd hu hret
  refine wpAny_call ?_
  k_dflt ktr_enter
  rename_i g L1 h1 FG F1 N1 B1 X1 T1
  have hl := H.length
  obtain ⟨vs₀, y, rfl, H0, hy⟩ := H.snoc hpos
  have hl0 := H0.length
  simp only [List.length_append, List.length_cons, List.length_nil] at hl
  k_steps
  unfold Stop
  refine kl_pop F1 N1 (p := vs₀) (y := y) (by simpa using kpa_last y vs₀) (.head hne) (by rw [sizeLine_eq]; simp; omega) ?_
  intro h2 F2 N2
  k_steps
  unfold Stop
  rename Fr _ _ _ _ => F3
  rename News _ _ _ _ => N3
  have i3 : (Heap.IsList _ hp vs₀.toArray) := ⟨_, (N3 _ (.head _)).1, rfl, _, rfl⟩
  refine wpAny_truthy_list i3 (by simp; omega) ?_
  have hl1 : xss.dropLast.length < 100 := by rw [List.length_dropLast]; omega
  generalize hdl : xss.dropLast = xd at H0 hl0 hl1
  replace hdl := hdl.symm
  cases H0 with
  | nil =>
    have hpop : popP xss = (xss.getLastD [], []) := by unfold popP; simp only [← hdl]
    rw [hpop] at hret
    rw [if_neg (by simp)]
    dsimp only
    k_steps
    rename Fr h₀ L _ m => F4
    rename News h₀ L _ _ => N4
    exact hret _ _ _ _ F4 N4 ⟨hy, _, _, rfl, .nil⟩
  | cons hx0 Hr =>
    rename_i v0 x0 vr xr
    have hpop : popP xss = (x0, siftupP (xss.getLastD [] :: xr)) := by unfold popP; simp only [← hdl]
    rw [hpop] at hret
    rw [if_pos (by simp)]
    dsimp only
    k_steps
    unfold Stop
    refine item_led N3 (.head _) (by decide) (by decide) rfl ?_
    k_steps
    unfold Stop
    rename Fr _ _ _ _ => F4
    rename News _ _ _ _ => N4
    refine set_led F4 N4 (.head hne) (by decide) (by simp) (by decide) ?_
    intro h5 F5 N5
    k_steps
    unfold Stop
    refine Spec.use (siftup_spec (n := n + 1) hSub hne (.cons hy Hr) (Nat.succ_pos _) (by simp at hl1 ⊢; omega)) B1 F5 X1 N5 T1 (C1.keeps FG.keep) (C2.keeps FG.keep) rfl (room hd rfl) (room hu rfl) ?_
    rintro r news' h' tk' F6 N6 ⟨rfl, vs', rfl, H'⟩
    k_steps
    rename Fr h₀ L _ m => F7
    rename News h₀ L _ _ => N7
    exact hret _ _ _ _ F7 N7 ⟨hx0, _, _, rfl, H'⟩
end Mine
end

section
open PySem PySem.W PyProof.Rows
set_option maxRecDepth 100000
set_option maxHeartbeats 8000000
namespace Mine
abbrev tupOf (vs : List Value) (n : Nat) : Obj := { cls := .type "tuple", data := .seq vs.toArray n }
theorem intBits_le {a k : Nat} (h : a < 2 ^ k) : Builtin.Int.intBits (a : Int) ≤ k := by
  unfold Builtin.Int.intBits
  split
  · omega
  · rename_i hq
    have h0 : a ≠ 0 := by intro e; subst e; simp at hq
    show (a : Int).natAbs.log2 + 1 ≤ k
    rw [Int.natAbs_natCast]
    have := (Nat.log2_lt h0).mpr h
    omega
theorem lt_two_pow_intBits (a : Nat) : a < 2 ^ Builtin.Int.intBits (a : Int) := by
  unfold Builtin.Int.intBits
  split
  · rename_i h; have : a = 0 := by simpa using h
    subst this; decide
  · rename_i hq
    have h0 : a ≠ 0 := by intro e; subst e; simp at hq
    show a < 2 ^ ((a : Int).natAbs.log2 + 1)
    rw [Int.natAbs_natCast]
    exact (Nat.log2_lt h0).mp (Nat.lt_succ_self _)
theorem intBits_pos {a : Nat} (h : 0 < a) : 0 < Builtin.Int.intBits (a : Int) := by
  unfold Builtin.Int.intBits
  split
  · rename_i hq; have : a = 0 := by simpa using hq
    omega
  · omega
theorem xor_low (x s : Nat) : Builtin.bitXor (x : Int) (((x / 2 ^ s * 2 ^ s : Nat)) : Int) = ((x % 2 ^ s : Nat) : Int) := by
  have hy : x / 2 ^ s * 2 ^ s = (x >>> s) <<< s := by rw [Nat.shiftLeft_eq, Nat.shiftRight_eq_div_pow]
  have h1 : x ||| (x / 2 ^ s * 2 ^ s) = x := by
    rw [hy]; apply Nat.eq_of_testBit_eq; intro i
    simp only [Nat.testBit_or, Nat.testBit_shiftLeft, Nat.testBit_shiftRight]
    by_cases h : s ≤ i
    · simp [h, Nat.add_sub_cancel' h]
    · simp [h]
  have h2 : x &&& (x / 2 ^ s * 2 ^ s) = x / 2 ^ s * 2 ^ s := by
    rw [hy]; apply Nat.eq_of_testBit_eq; intro i
    simp only [Nat.testBit_and, Nat.testBit_shiftLeft, Nat.testBit_shiftRight]
    by_cases h : s ≤ i
    · simp [h, Nat.add_sub_cancel' h]
    · simp [h]
  generalize hz : x / 2 ^ s * 2 ^ s = z at *
  have e1 : Builtin.bitAnd (x : Int) (z : Int) = (z : Int) := by
    unfold Builtin.bitAnd
    rw [decide_eq_true (Int.natCast_nonneg x), decide_eq_true (Int.natCast_nonneg z)]
    show (((x : Int).toNat &&& (z : Int).toNat : Nat) : Int) = _
    rw [Int.toNat_natCast, Int.toNat_natCast, h2]
  have e2 : Builtin.bitOr (x : Int) (z : Int) = (x : Int) := by
    unfold Builtin.bitOr Builtin.bitAnd
    have n1 : ¬ (0 : Int) ≤ Builtin.bitNot (x : Int) := by unfold Builtin.bitNot; omega
    have n2 : ¬ (0 : Int) ≤ Builtin.bitNot (z : Int) := by unfold Builtin.bitNot; omega
    rw [decide_eq_false n1, decide_eq_false n2]
    have b : ∀ y : Int, Builtin.bitNot (Builtin.bitNot y) = y := fun y => by unfold Builtin.bitNot; omega
    show Builtin.bitNot (Builtin.bitNot (((Builtin.bitNot (Builtin.bitNot (x : Int))).toNat ||| (Builtin.bitNot (Builtin.bitNot (z : Int))).toNat : Nat) : Int)) = _
    rw [b, b, b, Int.toNat_natCast, Int.toNat_natCast, h1]
  unfold Builtin.bitXor
  rw [e1, e2]
  have := Nat.div_add_mod x (2 ^ s)
  rw [Nat.mul_comm, hz] at this
  omega
section
variable {prog : Program} {w : World} {A : Around} {E : Value → Shared → Prop} {s : Shared} {a b : Int} {t u : Tok} {Q : Value → Shared → Prop}
theorem rshift_nat {x k : Nat} (ha : a = x) (hb : b = k) (h : Q (.int ((x / 2 ^ k : Nat) : Int) s.toks) { s with toks := s.toks + 1 }) : wpAny (model prog w) A (binaryOp .RShift (.int a t) (.int b u)) Q E s := by
  subst ha hb
  refine rshift_int (by omega) ?_
  rw [Int.toNat_natCast, show ((2 : Int) ^ k) = ((2 ^ k : Nat) : Int) by rw [Int.natCast_pow]; rfl, Int.fdiv_eq_ediv_of_nonneg _ (Int.natCast_nonneg _)]
  exact h
theorem lshift_nat {x k : Nat} (ha : a = x) (hb : b = k) (hx : x < 2 ^ 60) (hk : k < 1000) (h : Q (.int ((x * 2 ^ k : Nat) : Int) s.toks) { s with toks := s.toks + 1 }) : wpAny (model prog w) A (binaryOp .LShift (.int a t) (.int b u)) Q E s := by
  subst ha hb
  refine lshift_int_small (by omega) (by omega) (by rw [Int.natAbs_natCast]; omega) ?_
  rw [Int.toNat_natCast, show ((2 : Int) ^ k) = ((2 ^ k : Nat) : Int) by rw [Int.natCast_pow]; rfl, ← Int.natCast_mul]
  exact h
theorem lshift_big {x k B : Nat} (ha : a = x) (hb : b = k) (hx : x < 2 ^ B) (hB : B < 2 ^ 20) (hk : k < 1000) (h : Q (.int ((x * 2 ^ k : Nat) : Int) s.toks) { s with toks := s.toks + 1 }) : wpAny (model prog w) A (binaryOp .LShift (.int a t) (.int b u)) Q E s := by
  subst ha hb
  have := intBits_le hx
  refine lshift_int (by omega) (by omega) ?_
  rw [Int.toNat_natCast, show ((2 : Int) ^ k) = ((2 ^ k : Nat) : Int) by rw [Int.natCast_pow]; rfl, ← Int.natCast_mul]
  exact h
theorem mul_nat {x k : Nat} (ha : a = x) (hb : b = k) (hx : x < 2 ^ 60) (hk : k < 2 ^ 60) (h : Q (.int ((x * k : Nat) : Int) s.toks) { s with toks := s.toks + 1 }) : wpAny (model prog w) A (binaryOp .Mult (.int a t) (.int b u)) Q E s := by
  subst ha hb
  refine mul_int ?_ ?_
  · rw [← Int.natCast_mul]; exact h
  · exact IntMulOk.of_left (Nat.le_trans (intBits_le hx) (by omega))
end
theorem div2n1n_spec {a b n : Nat} {ta tb tn : Tok} {rest : List (Addr × Obj)} (ha : a < 2 ^ 30) (hb : 0 < b) (hb2 : b < 2 ^ 30) (hn : n < 100) :
    Spec 28 [.int a ta, .int b tb, .int n tn] 2 rest (fun r news' => ∃ t tq tr k, r = .ref t ∧ news' = (t, tupOf [.int ((a / b : Nat) : Int) tq, .int ((a % b : Nat) : Int) tr] k) :: rest ∧ ∀ p ∈ rest, p.1 < t) := by
  unfold Spec
  intro prog w p loose mean mg mb dp un gd cn cs ad ccd cl outer A₀ base h₀ L m s Q E B F X N T C1 C2 hk hd hu hret
  refine wpAny_call ?_
  k_dflt ktr_enter
  rename_i g L1 h1 FG F1 N1 B1 X1 T1
  have hlt : ∀ p ∈ rest, p.1 < h1.objs.size := fun p hp => Heap.lt_size (N1 p hp).1
  have hbits : ((Builtin.Int.intBits (a : Int) : Nat) : Int) - (n : Int) ≤ 4000 := by
    have := intBits_le ha
    omega
  k_steps
  rename Fr h₀ L _ m => F4
  rename News h₀ L _ _ => N4
  have e1 : (a : Int).fdiv (b : Int) = ((a / b : Nat) : Int) := by rw [Int.fdiv_eq_ediv_of_nonneg _ (by omega)]; rfl
  have e2 : (a : Int).fmod (b : Int) = ((a % b : Nat) : Int) := by rw [Int.fmod_eq_emod_of_nonneg _ (by omega)]; rfl
  rw [e1, e2] at N4
  exact hret _ _ _ _ F4 N4 ⟨_, _, _, _, rfl, rfl, hlt⟩
end Mine
end

section
open PySem PySem.W PyProof.Rows
set_option maxRecDepth 100000
set_option maxHeartbeats 1000000
namespace Mine
local macro_rules | `(tactic| omega) => `(tactic| first | lia | omega +splitNatSub)
local macro_rules | `(tactic| walk_at "in of") => `(tactic| (with_reducible first | assumption | exact List.mem_cons_self | (refine List.mem_cons_of_mem _ ?_; walk_at "in of") | exact List.mem_append_left _ (by assumption) | exact List.mem_append_right _ (by assumption) | (refine List.mem_append_left _ ?_; walk_at "in of") | (refine List.mem_append_right _ ?_; walk_at "in of")))
local macro_rules | `(tactic| walk_at "sub of") => `(tactic| (with_reducible first | exact List.forall_mem_nil _ | (refine List.forall_mem_cons.mpr ⟨?_, ?_⟩; walk_at "in of"; walk_at "sub of") | (refine List.forall_mem_append.mpr ⟨?_, ?_⟩; walk_at "sub of"; walk_at "sub of") | (intro q9 h9; walk_at "in of")))
/-- a table of nested code objects: empty, or it holds the one -/
def Tab (qual : Str) (line col : Int) (led : List (Addr × Obj)) (ps : Array Value) : Prop :=
  ps = #[] ∨ ∃ c oc vs t, ps = #[rawInt line, rawInt col, .ref c] ∧ (c, oc) ∈ led ∧ oc.data = .fields vs ∧ vs[1]? = some (.str qual t)
theorem Tab.mono {qual line col led led' ps} (h : Tab qual line col led ps) (hs : ∀ p ∈ led, p ∈ led') : Tab qual line col led' ps := by
  rcases h with h | ⟨c, oc, vs, t, e, hm, r⟩
  · exact .inl h
  · exact .inr ⟨c, oc, vs, t, e, hs _ hm, r⟩
theorem roomD {x k n : Nat} (h : x + (k + 1 + 2) < n) : x + 1 + (k + 2) < n := by omega
theorem roomU {x k n : Nat} (h : x + 8 * (k + 1 + 2) < n) : x + 3 + 8 * (k + 2) < n := by omega
theorem midA {lo hi mid : Nat} (h1 : lo < mid) (h2 : mid < hi) : mid - lo + (hi - mid) = hi - lo := by omega
theorem midB {lo hi mid k : Nat} (h : hi - lo ≤ k + 1) (h1 : lo < mid) (h2 : mid < hi) : hi - mid ≤ k := by omega
theorem midC {lo hi mid k : Nat} (h : hi - lo ≤ k + 1) (h1 : lo < mid) (h2 : mid < hi) : mid - lo ≤ k := by omega
theorem News.sub {h₀ h : Heap} {L : Addr} {l l' : List (Addr × Obj)} (N : News h₀ L h l) (hs : ∀ q ∈ l', q ∈ l) : News h₀ L h l' := fun q hq => N q (hs q hq)
theorem News.rot3 {h₀ h : Heap} {L : Addr} {a b d c1 c2 c3 : Addr × Obj} {own rest : List (Addr × Obj)} (N : News h₀ L h (a :: b :: (own ++ d :: c1 :: c2 :: c3 :: rest))) : News h₀ L h (c1 :: d :: a :: c2 :: c3 :: b :: (own ++ rest)) := News.sub N (by walk_at "sub of")
theorem rest_low {rest : List (Addr × Obj)} {L : Addr} (h : ∀ p ∈ rest, p.1 < L) : ∀ p ∈ rest, p.1 < L := h
theorem foldl_rep (v : Value) : ∀ (k : Nat) (a : Array Value), List.foldl (fun x1 x2 => x1 ++ x2) a (List.replicate k #[v]) = a ++ (List.replicate k v).toArray
  | 0, a => by simp
  | k + 1, a => by
    rw [List.replicate_succ, List.foldl_cons, foldl_rep v k, List.replicate_succ]
    apply Array.toList_inj.mp
    simp
section
variable {prog : Program} {w : World} {M : Model} {A : Around} {E : Value → Shared → Prop} {s : Shared} {h₀ : Heap} {L a c P : Addr} {m mg mb : Str → Option Value} {news led : List (Addr × Obj)}
/-- [v] * k -/
theorem rep_led {l : Addr} {v : Value} {n k : Nat} {x : Int} {u : Tok} {Q : Value → Shared → Prop} (F : Fr h₀ L s.heap m) (N : News h₀ L s.heap news) (hm : (l, listOf [v].toArray n) ∈ news) (hx : x = (k : Int)) (hk : k < 2 ^ 20)
    (h : ∀ D h', Fr h₀ L h' m → News h₀ L h' ((D, listOf (List.replicate k v).toArray 0) :: news) → (∀ p ∈ news, p.1 < D) → Q (.ref D) { s with heap := h' }) :
    wpAny (model prog w) A (binaryOp .Mult (.ref l) (.int x u)) Q E s := by
  subst hx
  refine mul_list F N (N _ hm).1 (by omega) (by omega) (by simp; omega) fun h' F' N' => h _ h' F' ?_ fun p hp => Heap.lt_size (N p hp).1
  have e : List.foldl (fun x1 x2 => x1 ++ x2) #[] (List.replicate (if ([v].toArray).isEmpty = true then 0 else (k : Int).toNat) [v].toArray) = (List.replicate k v).toArray := by
    show List.foldl (fun x1 x2 => x1 ++ x2) #[] (List.replicate ((k : Int).toNat) #[v]) = _
    rw [Int.toNat_natCast, foldl_rep]
    simp
  rw [e] at N'
  exact N'
variable {cn : Str} {cs : Scope} {ccd : Value} {cl : List (Str × Addr)} {p : Program} {loose : List Str} {mean : ExcName → Option Value} {name qual : Str} {params : Arguments} {body : List Stmt} {scope : Scope} {ps : Array Value} {pos : Pos} {firstLine : Nat} {clos : List (Str × Addr)}
/-- a nested def, its code object new or met before -/
theorem nest_any {line col : Int} {Q : Value → Shared → Prop} (F : Fr h₀ L s.heap m) (N : News h₀ L s.heap ((P, tabObj ps) :: led)) (T : Top p loose mean mg mb h₀) (C : CodeHd h₀ c P) (hcd : ccd = .ref c) (hne : ∀ q ∈ led, q.1 ≠ P)
    (ht : Tab qual line col led ps) (hl : (pos.line : Int) = line) (hc : (pos.col : Int) = col) (hcl : closureFor scope (envX cn cs L a ccd cl) = pure clos)
    (h : ∀ f c' ctv doc h' tk own ps', Fr h₀ L h' m →
      News h₀ L h' ((f, fnMade name qual params body scope clos doc ((mg "__name__").getD .none) c' ctv) :: (P, tabObj ps') :: (own ++ led)) →
      (∃ oc vs t, (c', oc) ∈ own ++ led ∧ oc.data = .fields vs ∧ vs[1]? = some (.str qual t)) → Tab qual line col (own ++ led) ps' →
      (∀ q ∈ (P, tabObj ps') :: led, q.1 < f ∧ ∀ r ∈ own, q.1 < r.1) → (∀ r ∈ own, r.1 < f) → Q (.ref f) { s with heap := h', toks := tk }) :
    wpAny M A (makeFunction name qual params (.stmts body) scope (envX cn cs L a ccd cl) [] [] [] pos firstLine) Q E s := by
  rcases ht with rfl | ⟨c', oc, vs, t, rfl, hm, hd, hv⟩
  · refine nest_K F N T C hcd (.head hne) trivial rfl hcl ?_
    intro f c' oc vs t ctv doc h' tk F' N' hd hv l1 l2
    have e : (#[] : Array Value) ++ #[rawInt pos.line, rawInt pos.col, .ref c'] = #[rawInt line, rawInt col, .ref c'] := by rw [← hl, ← hc]; rfl
    rw [e] at N'
    refine h f c' ctv doc h' tk [(c', oc)] _ F' (fun q hq => N' q ?_) ⟨oc, vs, t, .head _, hd, hv⟩ (.inr ⟨c', oc, vs, t, rfl, .head _, hd, hv⟩) (fun q hq => ?_) (fun r hr => ?_)
    · rcases List.mem_cons.mp hq with rfl | hq
      · exact .head _
      · rcases List.mem_cons.mp hq with rfl | hq
        · exact .tail _ (.tail _ (.head _))
        · rcases List.mem_cons.mp hq with rfl | hq
          · exact .tail _ (.head _)
          · exact .tail _ (.tail _ (.tail _ hq))
    · have hq' : q.1 < c' := by
        rcases List.mem_cons.mp hq with rfl | hq
        · exact l1 (P, tabObj #[]) (.head _)
        · exact l1 q (.tail _ hq)
      exact ⟨Nat.lt_trans hq' l2, fun r hr => by rw [List.mem_singleton.mp hr]; exact hq'⟩
    · rw [List.mem_singleton.mp hr]; exact l2
  · refine nestHit_K (c' := c') F N T C hcd (.head _) ?_ ?_ hcl ?_
    · exact trivial
    · subst hl hc
      simp [codeAmong, rawInt]
    · intro f ctv doc h' tk F' N' l1
      refine h f c' ctv doc h' tk [] _ F' N' ⟨oc, vs, t, hm, hd, hv⟩ (.inr ⟨c', oc, vs, t, rfl, hm, hd, hv⟩) (fun q hq => ⟨?_, fun r hr => nomatch hr⟩) (fun r hr => nomatch hr)
      exact l1 q hq
end
local macro_rules | `(tactic| walk_at $k:str) => if ["call ref", "exec FunctionDef", "binaryOp RShift int int", "binaryOp LShift int int", "binaryOp Mult int int", "setItem ref int", "binaryOp Mult ref int"].contains k.getString then `(tactic| (k_here; refine stop ?_)) else Lean.Macro.throwUnsupported
local macro_rules | `(tactic| walk_at "ite") => `(tactic| first | (refine PySem.W.ite_pos (by simp only [decide_eq_true_eq, beq_iff_eq, bne_iff_ne, ne_eq]; omega) ?_) | (refine PySem.W.ite_neg (by simp only [decide_eq_true_eq, beq_iff_eq, bne_iff_ne, ne_eq]; omega) ?_))
local macro_rules | `(tactic| walk_at "call builtin:len") => `(tactic| (k_here; (with_reducible show wpAny _ _ (call (Value.builtin _) [Value.ref _]) _ _ _); k_dflt (refine' len_led ?k1 ?k2 ?k3 ?_; (case k1 => k_asm); (case k2 => k_mem); (case k3 => (try simp only [List.length_append, List.length_set, List.length_cons, List.length_nil, List.length_replicate]); omega); k_whole); intro _ _))
local macro_rules | `(tactic| k_all) => `(tactic| (intro p9 hp9; refine neN ?_; (have h9 := ltN (rest_low (by assumption) p9 hp9)); omega))
abbrev q2d : Str := Str.ofString "_int2digits" ++ Str.ofString ".<locals>." ++ Str.ofString "inner"
theorem ints_rep (t : Tok) : ∀ k : Nat, IntsAre (List.replicate k (Value.int 0 t)) (List.replicate k 0)
  | 0 => .nil
  | k + 1 => .cons _ _ (ints_rep t k)
abbrev ndOf (a n : Nat) : Nat := (Builtin.Int.intBits (a : Int) + n - 1) / n
theorem ndOf_zero {n : Nat} (h : 0 < n) : ndOf 0 n = 0 := by
  show (0 + n - 1) / n = 0
  exact Nat.div_eq_of_lt (by omega)
theorem lt_ndOf {a n : Nat} (h : 0 < n) : a < 2 ^ (ndOf a n * n) := by
  refine Nat.lt_of_lt_of_le (lt_two_pow_intBits a) (Nat.pow_le_pow_right (by decide) ?_)
  unfold ndOf
  generalize Builtin.Int.intBits (a : Int) = b
  have h1 := Nat.div_add_mod (b + n - 1) n
  have h2 := Nat.mod_lt (b + n - 1) h
  rw [Nat.mul_comm] at h1
  omega
theorem int2digits_spec {a n : Nat} {ta tn : Tok} {ps : Array Value} {rest : List (Addr × Obj)} (ha : a < 2 ^ 20) (hn0 : 0 < n) (hn : n < 20)
    (hne : ∀ p ∈ rest, p.1 ≠ 37) (ht : Tab q2d 65 4 rest ps) :
    Spec 42 [.int a ta, .int n tn] 45 ((37, tabObj ps) :: rest) (fun r news' => ∃ D ws nn own ps', r = .ref D ∧ news' = (D, listOf ws.toArray nn) :: (37, tabObj ps') :: (own ++ rest) ∧
      IntsAre ws ((digs n a (ndOf a n)).map Int.ofNat) ∧ Tab q2d 65 4 (own ++ rest) ps' ∧ (∀ r ∈ own, 37 < r.1 ∧ r.1 ≠ D ∧ ∀ q ∈ rest, q.1 < r.1) ∧ 37 < D ∧ ∀ q ∈ rest, q.1 < D) := by
  unfold Spec
  intro prog w p loose mean mg mb dp un gd cn cs ad ccd cl outer A₀ base h₀ L m s Q E B F X N T C1 C2 hk hd hu hret
  refine wpAny_call ?_
  k_dflt (refine' code_defC ?k1 ?k2 ?k3 ?k4 ?k5 ?kA ?kF ?kK ?k6 ?k7 ?k8 ?k9 ?kB ?kD ?_ ?c2 ?c3 ?c4; (case kA => exact rfl); (case kF => exact rfl); (case kK => assumption); (case k1 => k_asm); (case k2 => k_asm); (case k3 => k_asm); (case k4 => k_asm); (case k5 => k_asm); (case k6 => k_is); (case k7 => k_is); (case k8 => ktr_room); (case k9 => exact BindsTo.of_eq rfl); (case kB => exact rfl); (case kD => decide +kernel); (case c2 => exact rfl); (case c3 => exact rfl); (case c4 => exact rfl); k_whole)
  intro g L1 h1 tk1 cells FG F1 N1 Y1 B1 X1 T1 l1
  dsimp only
  k_fold
  obtain ⟨o1, o2, o3, hE, d1, d2, d3⟩ := CellsAre.three Y1
  subst hE
  clear Y1
  simp only [List.cons_append, List.nil_append] at N1
  have l37 := ltN (l1 (37, tabObj ps) (.head _))
  dsimp only at l37
  have lrest : ∀ p ∈ rest, p.1 < L1 := fun p hp => l1 p (.tail _ hp)
  k_steps
  unfold Stop
  rename Fr _ _ _ _ => F2
  rename News _ _ _ _ => N2
  have hb1 := intBits_le ha
  obtain ⟨nd, hnd⟩ : ∃ nd, nd = (Builtin.Int.intBits (a : Int) + n - 1) / n := ⟨_, rfl⟩
  have hndB : nd < 2 ^ 20 := by
    rw [hnd]
    exact Nat.lt_of_le_of_lt (Nat.div_le_self _ _) (by omega)
  refine rep_led (k := nd) F2 N2 (.head _) ?_ hndB ?_
  · rw [hnd, Int.fdiv_eq_ediv_of_nonneg _ (by omega), Int.natCast_ediv]
    congr 1
    omega
  intro D h3 F3 N3 lD
  k_lt lD
  k_steps
  unfold Stop
  rename Fr _ _ _ _ => F4
  rename News _ _ _ _ => N4
  rename_i h4 oA dA
  have dn : o3.data = .cell (some (.int n tn)) := d3
  have di : o1.data = .cell none := d1
  clear d1 d2 d3 o2
  refine nestDef_K rfl rfl rfl ?_
  refine nest_any (qual := q2d) (line := 65) (col := 4) F4 (News.sub N4 (l' := (37, tabObj ps) :: (D, listOf (List.replicate nd (Value.int 0 tk1)).toArray 0) :: (L1 + 1 + 1 + 1, o1) :: (L1 + 1 + 1, oA) :: (L1 + 1, o3) :: rest) ?_) T1 (C2.keeps FG.keep) rfl ?_ (ht.mono ?_) rfl rfl rfl ?_
  · walk_at "sub of"
  · intro q hq
    simp only [List.mem_cons] at hq
    rcases hq with rfl | rfl | rfl | rfl | hq
    · exact neN (by dsimp only; omega)
    · exact neN (by dsimp only; omega)
    · exact neN (by dsimp only; omega)
    · exact neN (by dsimp only; omega)
    · exact hne q hq
  · intro q hq
    simp only [List.mem_cons, hq, or_true]
  intro f c' ctv doc h5 tk5 own ps' F5 N5 hcode hT' hlo hown
  dsimp only
  obtain ⟨oc, vsc, tcd, hcm, hcd1, hcd2⟩ := hcode
  have N6 := News.rot3 N5
  obtain ⟨R, hR⟩ : ∃ R, R = (37, tabObj ps') :: (own ++ rest) := ⟨_, rfl⟩
  rw [← hR] at N6
  have hf1 := ltN (hlo (D, listOf (List.replicate nd (Value.int 0 tk1)).toArray 0) (.tail _ (.head _))).1
  have hcR : (c', oc) ∈ R := by
    rw [hR]
    simp only [List.mem_append, List.mem_cons] at hcm ⊢
    rcases hcm with h | h | h | h | h | h
    · simp only [h, true_or, or_true]
    · exfalso; cases h; cases hcd1
    · exfalso; cases h; rw [di] at hcd1; cases hcd1
    · exfalso; cases h; rw [dA] at hcd1; cases hcd1
    · exfalso; cases h; rw [dn] at hcd1; cases hcd1
    · simp only [h, or_true]
  have lR : ∀ p ∈ R, p.1 < f ∧ p.1 ≠ D ∧ p.1 ≠ L1 + 1 + 1 + 1 := by
    intro p hp
    rw [hR] at hp
    rcases List.mem_cons.mp hp with rfl | hp
    · exact ⟨(hlo _ (.head _)).1, neN (by dsimp only; omega), neN (by dsimp only; omega)⟩
    · rcases List.mem_append.mp hp with hp | hp
      · have q1 := ltN ((hlo (D, listOf (List.replicate nd (Value.int 0 tk1)).toArray 0) (.tail _ (.head _))).2 p hp)
        have q2 := ltN ((hlo (L1 + 1 + 1 + 1, o1) (.tail _ (.tail _ (.head _)))).2 p hp)
        exact ⟨hown p hp, neN (by omega), neN (by omega)⟩
      · have q1 := ltN (lrest p hp)
        exact ⟨ltN (by omega), neN (by omega), neN (by omega)⟩
  refine storeX_C F5 N6 (c := L1 + 1 + 1 + 1) (o := o1) rfl (.head ?_) di ?_
  · intro q hq
    simp only [List.mem_cons] at hq
    rcases hq with rfl | rfl | rfl | rfl | hq
    · exact neN (by dsimp only; omega)
    · exact neN (by dsimp only; omega)
    · exact neN (by dsimp only; omega)
    · exact neN (by dsimp only; omega)
    · exact (lR q hq).2.2
  intro h6 o1' F6 N7 d1'
  try dsimp only at N7
  obtain ⟨fo, hfo, N8⟩ : ∃ fo, fo = _ ∧ News g L1 h6 ((L1 + 1 + 1 + 1, o1') :: (D, listOf (List.replicate nd (Value.int 0 tk1)).toArray 0) :: (f, fo) :: (L1 + 1 + 1, oA) :: (L1 + 1, o3) :: R) := ⟨_, rfl, N7⟩
  obtain ⟨led, hled⟩ : ∃ led, led = (L1 + 1 + 1 + 1, o1') :: (f, fo) :: (L1 + 1 + 1, oA) :: (L1 + 1, o3) :: R := ⟨_, rfl⟩
  have innerC : ∀ (k x lo hi : Nat) (tx tl th : Tok) (ws : List Value) (ds : List Int) (nn : Nat), hi - lo ≤ k → lo < hi → hi ≤ ds.length → ds.length ≤ 40 → x < 2 ^ ((hi - lo) * n) → x < 2 ^ 20 → IntsAre ws ds →
      Spec f [.int x tx, .int lo tl, .int hi th] (k + 2) ((D, listOf ws.toArray nn) :: led) (fun r news' => r = .none ∧ ∃ ws', news' = (D, listOf ws'.toArray nn) :: led ∧ IntsAre ws' (ds.take lo ++ (digs n x (hi - lo)).map Int.ofNat ++ ds.drop hi)) := by
    subst hfo
    have hledD : ∀ p ∈ led, p.1 ≠ D := by
      intro q hq
      rw [hled] at hq
      simp only [List.mem_cons] at hq
      rcases hq with rfl | rfl | rfl | rfl | hq
      · exact neN (by dsimp only; omega)
      · exact neN (by dsimp only at hf1 ⊢; omega)
      · exact neN (by dsimp only; omega)
      · exact neN (by dsimp only; omega)
      · exact (lR q hq).2.1
    try clear hret
    try clear N8
    try clear N7
    try clear N6
    try clear N5
    try clear N4
    try clear N3
    try clear N2
    try clear N1
    try clear N
    try clear F6
    try clear F5
    try clear F4
    try clear F3
    try clear F2
    try clear F1
    try clear FG
    try clear F
    try clear B1
    try clear X1
    try clear T1
    try clear B
    try clear X
    try clear T
    intro k
    induction k with
    | zero => intro x lo hi tx tl th ws ds nn h1 h2; omega
    | succ k ih =>
      intro x lo hi tx tl th ws ds nn hk hlh hhi hds hx hx2 hI
      unfold Spec
      intro prog w p loose mean mg' mb dp un gd cn cs ad ccd cl outer A₀ base h₀ L m s Q E B F X N T C1 C2 hk hd hu hret
      refine wpAny_call ?_
      k_dflt (refine' code_nest ?k1 ?k2 ?k3 ?k4 ?k5 ?kA ?kF ?kK ?k6 ?k7 ?k8 ?k9 ?kB ?_ ?c2 ?c3 ?c4 ?c5; (case kA => exact rfl); (case kF => exact rfl); (case kK => assumption); (case k1 => k_asm); (case k2 => k_asm); (case k3 => k_asm); (case k4 => k_asm); (case k5 => k_asm); (case k6 => rw [hled]; exact .tail _ (.tail _ (.head _))); (case k7 => exact codeRec_news N (by rw [hled]; exact .tail _ (.tail _ (.tail _ (.tail _ (.tail _ hcR))))) hcd1 hcd2); (case k8 => ktr_room); (case k9 => exact BindsTo.of_eq rfl); (case c5 => decide); (case kB => exact locs rfl); (case c2 => exact rfl); (case c3 => exact rfl); (case c4 => exact rfl); k_whole)
      intro g1 L2 h1 FG F1 N1 B1 X1 T1
      dsimp only
      k_fold
      rw [hled] at N1
      have hl := hI.length
      have hpow : (0 : Nat) < 2 ^ n := Nat.two_pow_pos n
      by_cases hone : lo + 1 = hi
      · have hone' : (lo : Int) + 1 = (hi : Int) := by omega
        k_steps
        unfold Stop
        refine set_led F1 N1 (.head (hled ▸ hledD)) (by omega) (by omega) (by omega) ?_
        intro h3 F3 N3
        k_steps
        rename Fr h₀ L _ m => F4
        rename News h₀ L _ _ => N4
        rw [← hled] at N4
        refine hret _ _ _ _ F4 N4 ⟨rfl, _, rfl, ?_⟩
        have e1 : hi - lo = 1 := by omega
        rw [e1, digs_one n x (by rw [e1, Nat.one_mul] at hx; exact hx)]
        have e2 := ints_set (x := (x : Int)) (u := tx) hI lo
        have e3 : ds.set lo (x : Int) = ds.take lo ++ List.map Int.ofNat [x] ++ ds.drop hi := by
          rw [List.set_eq_take_append_cons_drop, if_pos (by omega), ← hone]
          simp
        rw [← e3]
        exact e2
      · have hone' : (lo : Int) + 1 ≠ (hi : Int) := by omega
        obtain ⟨mid, hmid⟩ : ∃ mid, mid = (lo + hi) / 2 := ⟨_, rfl⟩
        have hm1 : lo < mid := by omega
        have hm2 : mid < hi := by omega
        obtain ⟨sh, hsh⟩ : ∃ sh, sh = (mid - lo) * n := ⟨_, rfl⟩
        have hshB : sh < 1000 := by
          have : sh ≤ 40 * 19 := by rw [hsh]; exact Nat.mul_le_mul (by omega) (by omega)
          omega
        have hup : x / 2 ^ sh < 2 ^ ((hi - mid) * n) := by
          apply Nat.div_lt_of_lt_mul
          rw [← Nat.pow_add, hsh, ← Nat.add_mul]
          have : mid - lo + (hi - mid) = hi - lo := midA hm1 hm2
          rw [this]; exact hx
        have hxu : x / 2 ^ sh < 2 ^ 20 := Nat.lt_of_le_of_lt (Nat.div_le_self _ _) hx2
        have hxl : x % 2 ^ sh < 2 ^ 20 := Nat.lt_of_le_of_lt (Nat.mod_le _ _) hx2
        k_steps
        unfold Stop
        refine rshift_nat (x := lo + hi) (k := 1) (by omega) rfl ?_
        rw [show (lo + hi) / 2 ^ 1 = mid from hmid.symm]
        k_steps
        unfold Stop
        refine mul_nat (x := mid - lo) (k := n) (by omega) rfl (by omega) (by omega) ?_
        rw [← hsh]
        k_steps
        unfold Stop
        refine rshift_nat (x := x) (k := sh) rfl rfl ?_
        k_steps
        unfold Stop
        refine lshift_nat (x := x / 2 ^ sh) (k := sh) rfl rfl (by omega) hshB ?_
        k_steps
        unfold Stop
        rename Fr _ _ _ _ => F3
        rename News _ _ _ _ => N3
        rw [xor_low]
        rw [← hled] at N3
        refine Spec.use (ih (x % 2 ^ sh) lo mid _ _ _ ws ds nn (midC (by assumption) hm1 hm2) hm1 (by omega) hds (by rw [← hsh]; exact Nat.mod_lt _ (Nat.two_pow_pos _)) hxl hI) B1 F3 X1 N3 T1 (C1.keeps FG.keep) (C2.keeps FG.keep) rfl (by first | exact roomD hd | (dsimp only [ktrTop]; omega)) (by first | exact roomU hu | (dsimp only [ktrTop]; omega)) ?_
        rintro r news' h4 tk4 F4 N4 ⟨rfl, ws', rfl, hI'⟩
        rw [hled] at N4
        k_steps
        unfold Stop
        rw [← hled] at N4
        have hlen : (List.take lo ds ++ List.map Int.ofNat (digs n (x % 2 ^ sh) (mid - lo)) ++ List.drop mid ds).length = ds.length := by
          simp only [List.length_append, List.length_take, List.length_map, digs_length, List.length_drop]; omega
        refine Spec.use (ih (x / 2 ^ sh) mid hi _ _ _ ws' _ nn (midB (by assumption) hm1 hm2) hm2 (by omega) (by omega) hup hxu hI') B1 F4 X1 N4 T1 (C1.keeps FG.keep) (C2.keeps FG.keep) rfl (by first | exact roomD hd | (dsimp only [ktrTop]; omega)) (by first | exact roomU hu | (dsimp only [ktrTop]; omega)) ?_
        rintro r news' h5 tk5 F5 N5 ⟨rfl, ws2, rfl, hI2⟩
        rw [put_two _ _ _ _ _ _ (by omega) (by omega) hhi (by rw [List.length_map, digs_length]), ← List.map_append, hsh, ← digs_add, show mid - lo + (hi - mid) = hi - lo from midA hm1 hm2] at hI2
        k_steps
        rename Fr h₀ L _ m => F6
        rename News h₀ L _ _ => N6
        exact hret _ _ _ _ F6 N6 ⟨rfl, _, rfl, hI2⟩
  have hcT : Tab q2d 65 4 (own ++ rest) ps' := by
    rcases hT' with h | ⟨c, oc, vs, t, e, hm, hd1, hd2⟩
    · exact .inl h
    · refine .inr ⟨c, oc, vs, t, e, ?_, hd1, hd2⟩
      simp only [List.mem_append, List.mem_cons] at hm ⊢
      rcases hm with h | h | h | h | h | h
      · exact .inl h
      · exfalso; cases h; cases hd1
      · exfalso; cases h; rw [di] at hd1; cases hd1
      · exfalso; cases h; rw [dA] at hd1; cases hd1
      · exfalso; cases h; rw [dn] at hd1; cases hd1
      · exact .inr h
  have ltD : 37 < D ∧ ∀ q ∈ rest, q.1 < D := ⟨ltN (by omega), fun q hq => ltN (by have := ltN (lrest q hq); omega)⟩
  have hown2 : ∀ r ∈ own, 37 < r.1 ∧ r.1 ≠ D ∧ ∀ q ∈ rest, q.1 < r.1 := fun r hr =>
    ⟨(hlo (37, tabObj ps') (.head _)).2 r hr, fun e => absurd ((hlo (D, listOf (List.replicate nd (Value.int 0 tk1)).toArray 0) (.tail _ (.head _))).2 r hr) (by rw [e]; exact Nat.lt_irrefl _),
      fun q hq => (hlo q (.tail _ (.tail _ (.tail _ (.tail _ (.tail _ hq)))))).2 r hr⟩
  have hsub : ∀ d, ∀ q ∈ (D, d) :: (37, tabObj ps') :: (own ++ rest), q ∈ (D, d) :: led := by
    intro d q hq
    rw [hled, hR]
    rcases List.mem_cons.mp hq with h | h
    · rw [h]; exact .head _
    · exact .tail _ (.tail _ (.tail _ (.tail _ (.tail _ h))))
  have hI0 := ints_rep tk1 nd
  clear N5 N6 N7 F5 hcm
  rcases Nat.eq_zero_or_pos a with h0 | h0
  · have h0' : (a : Int) = 0 := by omega
    k_steps
    rename Fr h₀ L _ m => F9
    rename News h₀ L _ _ => N9
    refine hret _ _ _ _ F9 (News.sub N9 (l' := (D, listOf (List.replicate nd (Value.int 0 tk1)).toArray 0) :: (37, tabObj ps') :: (own ++ rest)) ?_) ⟨D, _, _, own, ps', rfl, rfl, ?_, hcT, hown2, ltD.1, ltD.2⟩
    · intro q hq
      rw [hR]
      rcases List.mem_cons.mp hq with h | h
      · rw [h]; exact .tail _ (.head _)
      · exact .tail _ (.tail _ (.tail _ (.tail _ (.tail _ h))))
    · have e : nd = 0 := by rw [hnd, h0]; exact ndOf_zero hn0
      rw [h0, ndOf_zero hn0, e]
      exact .nil
  · have h0' : (a : Int) ≠ 0 := by omega
    subst hfo
    k_steps
    unfold Stop
    have N9 : News g L1 h6 ((D, listOf (List.replicate nd (Value.int 0 tk1)).toArray 0) :: led) := News.sub N8 (by rw [hled]; walk_at "sub of")
    have hndL : nd ≤ 40 := by
      rw [hnd]
      refine Nat.le_trans (Nat.div_le_self _ _) (by omega)
    have hnpos : 0 < nd := by
      rw [hnd]
      have := intBits_pos h0
      exact Nat.div_pos (by omega) hn0
    rw [List.length_replicate]
    refine Spec.use (innerC nd a 0 nd _ _ _ _ _ 0 (by omega) hnpos (by simp) (by simpa using hndL) (by rw [Nat.sub_zero, hnd]; exact lt_ndOf hn0) ha hI0) B1 F6 X1 N9 T1 (C1.keeps FG.keep) (C2.keeps FG.keep) rfl (by dsimp only [ktrTop]; omega) (by dsimp only [ktrTop]; omega) ?_
    rintro r news' h7 tk7 F7 N10 ⟨rfl, ws', rfl, hI'⟩
    rw [hled] at N10
    clear N8 N9
    k_steps
    rename Fr h₀ L _ m => F11
    rename News h₀ L _ _ => N11
    rw [← hled] at N11
    refine hret _ _ _ _ F11 (News.sub N11 (hsub _)) ⟨D, _, _, own, ps', rfl, rfl, ?_, hcT, hown2, ltD.1, ltD.2⟩
    rw [show ndOf a n = nd from hnd.symm]
    simpa using hI'
end Mine
end

section
open PySem PySem.W PyProof.Rows
set_option maxRecDepth 100000
set_option maxHeartbeats 1000000
namespace Mine
local macro_rules | `(tactic| walk_at "no key") => `(tactic| skip)
local macro_rules | `(tactic| omega) => `(tactic| first | lia | omega +splitNatSub)
local macro_rules | `(tactic| walk_at "in of") => `(tactic| (with_reducible first | assumption | exact List.mem_cons_self | (refine List.mem_cons_of_mem _ ?_; walk_at "in of") | exact List.mem_append_left _ (by assumption) | exact List.mem_append_right _ (by assumption) | (refine List.mem_append_left _ ?_; walk_at "in of") | (refine List.mem_append_right _ ?_; walk_at "in of")))
local macro_rules | `(tactic| walk_at "sub of") => `(tactic| (with_reducible first | exact List.forall_mem_nil _ | (refine List.forall_mem_cons.mpr ⟨?_, ?_⟩; walk_at "in of"; walk_at "sub of") | (refine List.forall_mem_append.mpr ⟨?_, ?_⟩; walk_at "sub of"; walk_at "sub of") | (intro q9 h9; walk_at "in of")))
local macro_rules | `(tactic| walk_at $k:str) => if ["call ref", "exec FunctionDef", "binaryOp RShift int int", "binaryOp LShift int int", "binaryOp Mult int int", "subscriptTail Name Name ref int", "truthy ref"].contains k.getString then `(tactic| (k_here; refine stop ?_)) else Lean.Macro.throwUnsupported
local macro_rules | `(tactic| walk_at "ite") => `(tactic| first | (refine PySem.W.ite_pos (by simp only [decide_eq_true_eq, beq_iff_eq, bne_iff_ne, ne_eq]; omega) ?_) | (refine PySem.W.ite_neg (by simp only [decide_eq_true_eq, beq_iff_eq, bne_iff_ne, ne_eq]; omega) ?_))
local macro_rules | `(tactic| walk_at "call builtin:len") => `(tactic| (k_here; (with_reducible show wpAny _ _ (call (Value.builtin _) [Value.ref _]) _ _ _); k_dflt (refine' len_led ?k1 ?k2 ?k3 ?_; (case k1 => k_asm); (case k2 => first | assumption | k_mem); (case k3 => (try simp only [List.length_append, List.length_set, List.length_cons, List.length_nil, List.length_replicate]); omega); k_whole); intro _ _))
local macro_rules | `(tactic| k_all) => `(tactic| (intro p9 hp9; refine neN ?_; (have h9 := ltN (rest_low (by assumption) p9 hp9)); omega))
theorem News.rot2 {h₀ h : Heap} {L : Addr} {a b c1 c2 c3 : Addr × Obj} {own rest : List (Addr × Obj)} (N : News h₀ L h (a :: b :: (own ++ c1 :: c2 :: c3 :: rest))) : News h₀ L h (c1 :: a :: c2 :: c3 :: b :: (own ++ rest)) := News.sub N (by walk_at "sub of")
abbrev q2i : Str := Str.ofString "_digits2int" ++ Str.ofString ".<locals>." ++ Str.ofString "inner"
theorem digits2int_spec {D : Addr} {ws : List Value} {nn n : Nat} {ds : List Nat} {tn : Tok} {ps : Array Value} {rest : List (Addr × Obj)} (hn0 : 0 < n) (hn : n < 20) (hD : (D, listOf ws.toArray nn) ∈ rest) (hI : IntsAre ws (ds.map Int.ofNat)) (hds : ds.length ≤ 40) (hdd : ∀ d ∈ ds, d < 2 ^ n)
    (hne : ∀ p ∈ rest, p.1 ≠ 44) (ht : Tab q2i 80 4 rest ps) :
    Spec 49 [.ref D, .int n tn] 45 ((44, tabObj ps) :: rest) (fun r news' => ∃ t own ps', r = .int ((valD n ds : Nat) : Int) t ∧ news' = (44, tabObj ps') :: (own ++ rest) ∧
      Tab q2i 80 4 (own ++ rest) ps' ∧ (∀ r ∈ own, 44 < r.1 ∧ ∀ q ∈ rest, q.1 < r.1)) := by
  unfold Spec
  intro prog w p loose mean mg mb dp un gd cn cs ad ccd cl outer A₀ base h₀ L m s Q E B F X N T C1 C2 hk hd hu hret
  refine wpAny_call ?_
  k_dflt (refine' code_defC ?k1 ?k2 ?k3 ?k4 ?k5 ?kA ?kF ?kK ?k6 ?k7 ?k8 ?k9 ?kB ?kD ?_ ?c2 ?c3 ?c4; (case kA => exact rfl); (case kF => exact rfl); (case kK => assumption); (case k1 => k_asm); (case k2 => k_asm); (case k3 => k_asm); (case k4 => k_asm); (case k5 => k_asm); (case k6 => k_is); (case k7 => k_is); (case k8 => ktr_room); (case k9 => exact BindsTo.of_eq rfl); (case kB => exact rfl); (case kD => decide +kernel); (case c2 => exact rfl); (case c3 => exact rfl); (case c4 => exact rfl); k_whole)
  intro g L1 h1 tk1 cells FG F1 N1 Y1 B1 X1 T1 l1
  dsimp only
  k_fold
  obtain ⟨o1, o2, o3, hE, d1, d2, d3⟩ := CellsAre.three Y1
  subst hE
  clear Y1
  simp only [List.cons_append, List.nil_append] at N1
  have l44 := ltN (l1 (44, tabObj ps) (.head _))
  dsimp only at l44
  have lrest : ∀ p ∈ rest, p.1 < L1 := fun p hp => l1 p (.tail _ hp)
  k_steps
  unfold Stop
  rename Fr _ _ _ _ => F4
  rename News _ _ _ _ => N4
  have dd : o3.data = .cell (some (.ref D)) := d3
  have dn : o2.data = .cell (some (.int n tn)) := d2
  have di : o1.data = .cell none := d1
  clear d1 d2 d3
  refine nestDef_K rfl rfl rfl ?_
  refine nest_any (qual := q2i) (line := 80) (col := 4) F4 (News.sub N4 (l' := (44, tabObj ps) :: (L1 + 1 + 1 + 1, o1) :: (L1 + 1 + 1, o2) :: (L1 + 1, o3) :: rest) ?_) T1 (C1.keeps FG.keep) rfl ?_ (ht.mono ?_) rfl rfl rfl ?_
  · walk_at "sub of"
  · intro q hq
    simp only [List.mem_cons] at hq
    rcases hq with rfl | rfl | rfl | hq
    · exact neN (by dsimp only; omega)
    · exact neN (by dsimp only; omega)
    · exact neN (by dsimp only; omega)
    · exact hne q hq
  · intro q hq
    simp only [List.mem_cons, hq, or_true]
  intro f c' ctv doc h5 tk5 own ps' F5 N5 hcode hT' hlo hown
  dsimp only
  obtain ⟨oc, vsc, tcd, hcm, hcd1, hcd2⟩ := hcode
  obtain ⟨R, hR⟩ : ∃ R, R = (44, tabObj ps') :: (own ++ rest) := ⟨_, rfl⟩
  have N6 := News.rot2 N5
  rw [← hR] at N6
  have hf1 := ltN (hlo (L1 + 1 + 1 + 1, o1) (.tail _ (.head _))).1
  dsimp only at hf1
  have hcR : (c', oc) ∈ R := by
    rw [hR]
    simp only [List.mem_append, List.mem_cons] at hcm ⊢
    rcases hcm with h | h | h | h | h
    · simp only [h, true_or, or_true]
    · exfalso; cases h; rw [di] at hcd1; cases hcd1
    · exfalso; cases h; rw [dn] at hcd1; cases hcd1
    · exfalso; cases h; rw [dd] at hcd1; cases hcd1
    · simp only [h, or_true]
  have hcT : Tab q2i 80 4 (own ++ rest) ps' := by
    rcases hT' with h | ⟨c, oc, vs, t, e, hm, hd1, hd2⟩
    · exact .inl h
    · refine .inr ⟨c, oc, vs, t, e, ?_, hd1, hd2⟩
      simp only [List.mem_append, List.mem_cons] at hm ⊢
      rcases hm with h | h | h | h | h
      · exact .inl h
      · exfalso; cases h; rw [di] at hd1; cases hd1
      · exfalso; cases h; rw [dn] at hd1; cases hd1
      · exfalso; cases h; rw [dd] at hd1; cases hd1
      · exact .inr h
  have hDR : (D, listOf ws.toArray nn) ∈ R := by
    rw [hR]; exact .tail _ (List.mem_append_right _ hD)
  have hown2 : ∀ r ∈ own, 44 < r.1 ∧ ∀ q ∈ rest, q.1 < r.1 := fun r hr =>
    ⟨(hlo (44, tabObj ps') (.head _)).2 r hr, fun q hq => (hlo q (.tail _ (.tail _ (.tail _ (.tail _ hq))))).2 r hr⟩
  have lR : ∀ p ∈ R, p.1 ≠ L1 + 1 + 1 + 1 := by
    intro p hp
    rw [hR] at hp
    rcases List.mem_cons.mp hp with rfl | hp
    · exact neN (by dsimp only; omega)
    · rcases List.mem_append.mp hp with hp | hp
      · have q2 := ltN ((hlo (L1 + 1 + 1 + 1, o1) (.tail _ (.head _))).2 p hp)
        exact neN (by dsimp only at q2; omega)
      · have q1 := ltN (lrest p hp)
        exact neN (by omega)
  refine storeX_C F5 N6 (c := L1 + 1 + 1 + 1) (o := o1) rfl (.head ?_) di ?_
  · intro q hq
    simp only [List.mem_cons] at hq
    rcases hq with rfl | rfl | rfl | hq
    · exact neN (by dsimp only; omega)
    · exact neN (by dsimp only; omega)
    · exact neN (by dsimp only; omega)
    · exact lR q hq
  intro h6 o1' F6 N7 d1'
  try dsimp only at N7
  obtain ⟨fo, hfo, N8⟩ : ∃ fo, fo = _ ∧ News g L1 h6 ((L1 + 1 + 1 + 1, o1') :: (f, fo) :: (L1 + 1 + 1, o2) :: (L1 + 1, o3) :: R) := ⟨_, rfl, N7⟩
  obtain ⟨led, hled⟩ : ∃ led, led = (L1 + 1 + 1 + 1, o1') :: (f, fo) :: (L1 + 1 + 1, o2) :: (L1 + 1, o3) :: R := ⟨_, rfl⟩
  have hlI := hI.length
  rw [List.length_map] at hlI
  have innerC : ∀ (k lo hi : Nat) (tl th : Tok), hi - lo ≤ k → lo < hi → hi ≤ ds.length →
      Spec f [.int lo tl, .int hi th] (k + 2) led (fun r news' => (∃ t, r = .int ((valD n (slice ds lo hi) : Nat) : Int) t) ∧ news' = led) := by
    subst hfo
    try clear hret
    try clear N8
    try clear N7
    try clear N6
    try clear N5
    try clear N4
    try clear N3
    try clear N2
    try clear N1
    try clear N
    try clear F6
    try clear F5
    try clear F4
    try clear F3
    try clear F2
    try clear F1
    try clear FG
    try clear F
    try clear B1
    try clear X1
    try clear T1
    try clear B
    try clear X
    try clear T
    intro k
    induction k with
    | zero => intro lo hi tl th h1 h2; omega
    | succ k ih =>
      intro lo hi tl th hk hlh hhi
      unfold Spec
      intro prog w p loose mean mg' mb dp un gd cn cs ad ccd cl outer A₀ base h₀ L m s Q E B F X N T C1 C2 hk hd hu hret
      refine wpAny_call ?_
      k_dflt (refine' code_nest ?k1 ?k2 ?k3 ?k4 ?k5 ?kA ?kF ?kK ?k6 ?k7 ?k8 ?k9 ?kB ?_ ?c2 ?c3 ?c4 ?c5; (case kA => exact rfl); (case kF => exact rfl); (case kK => assumption); (case k1 => k_asm); (case k2 => k_asm); (case k3 => k_asm); (case k4 => k_asm); (case k5 => k_asm); (case k6 => rw [hled]; exact .tail _ (.head _)); (case k7 => exact codeRec_news N (by rw [hled]; exact .tail _ (.tail _ (.tail _ (.tail _ hcR)))) hcd1 hcd2); (case k8 => ktr_room); (case k9 => exact BindsTo.of_eq rfl); (case c5 => decide); (case kB => exact locs rfl); (case c2 => exact rfl); (case c3 => exact rfl); (case c4 => exact rfl); k_whole)
      intro g1 L2 h1 FG F1 N1 B1 X1 T1
      dsimp only
      k_fold
      rw [hled] at N1
      by_cases hone : lo + 1 = hi
      · have hone' : (lo : Int) + 1 = (hi : Int) := by omega
        k_steps
        unfold Stop
        obtain ⟨t1, e1⟩ := hI.get lo (ds[lo] : Int) (by simp [show lo < ds.length by omega])
        refine item_led N1 (.tail _ (.tail _ (.tail _ (.tail _ hDR)))) (by omega) (by omega) e1 ?_
        k_steps
        rename Fr h₀ L _ m => F4
        rename News h₀ L _ _ => N4
        rw [← hled] at N4
        refine hret _ _ _ _ F4 N4 ⟨⟨t1, ?_⟩, rfl⟩
        have hs := slice_one ds lo (by omega)
        rw [hone] at hs
        rw [hs, valD_one]
      · have hone' : (lo : Int) + 1 ≠ (hi : Int) := by omega
        obtain ⟨mid, hmid⟩ : ∃ mid, mid = (lo + hi) / 2 := ⟨_, rfl⟩
        have hm1 : lo < mid := by omega
        have hm2 : mid < hi := by omega
        obtain ⟨sh, hsh⟩ : ∃ sh, sh = (mid - lo) * n := ⟨_, rfl⟩
        have hshB : sh < 1000 := by
          have : sh ≤ 40 * 19 := by rw [hsh]; exact Nat.mul_le_mul (by omega) (by omega)
          omega
        have hv2 := valD_lt n (slice ds mid hi) (fun d h => hdd d (slice_mem ds mid hi d h))
        rw [slice_length ds mid hi hhi] at hv2
        have hvB : (hi - mid) * n < 2 ^ 20 := by
          have : (hi - mid) * n ≤ 40 * 19 := Nat.mul_le_mul (by omega) (by omega)
          omega
        k_steps
        unfold Stop
        refine rshift_nat (x := lo + hi) (k := 1) (by omega) rfl ?_
        rw [show (lo + hi) / 2 ^ 1 = mid from hmid.symm]
        k_steps
        unfold Stop
        refine mul_nat (x := mid - lo) (k := n) (by omega) rfl (by omega) (by omega) ?_
        rw [← hsh]
        k_steps
        unfold Stop
        rename Fr _ _ _ _ => F3
        rename News _ _ _ _ => N3
        rw [← hled] at N3
        refine Spec.use (ih mid hi _ _ (midB (by assumption) hm1 hm2) hm2 (by omega)) B1 F3 X1 N3 T1 (C1.keeps FG.keep) (C2.keeps FG.keep) rfl (by first | exact roomD hd | (dsimp only [ktrTop]; omega)) (by first | exact roomU hu | (dsimp only [ktrTop]; omega)) ?_
        rintro r news' h4 tk4 F4 N4 ⟨⟨t4, rfl⟩, rfl⟩
        rw [hled] at N4
        k_steps
        unfold Stop
        refine lshift_big (x := valD n (slice ds mid hi)) (k := sh) rfl rfl hv2 hvB hshB ?_
        k_steps
        unfold Stop
        rw [← hled] at N4
        refine Spec.use (ih lo mid _ _ (midC (by assumption) hm1 hm2) hm1 (by omega)) B1 F4 X1 N4 T1 (C1.keeps FG.keep) (C2.keeps FG.keep) rfl (by first | exact roomD hd | (dsimp only [ktrTop]; omega)) (by first | exact roomU hu | (dsimp only [ktrTop]; omega)) ?_
        rintro r news' h5 tk5 F5 N5 ⟨⟨t5, rfl⟩, rfl⟩
        k_steps
        rename Fr h₀ L _ m => F6
        rename News h₀ L _ _ => N6
        have eV : (((valD n (slice ds mid hi) * 2 ^ sh : Nat)) : Int) + ((valD n (slice ds lo mid) : Nat) : Int) = ((valD n (slice ds lo hi) : Nat) : Int) := by
          rw [slice_split ds lo mid hi (by omega) (by omega), valD_append, slice_length ds lo mid (by omega), ← hsh, ← Int.natCast_add, Nat.add_comm, Nat.mul_comm]
        exact hret _ _ _ _ F6 N6 ⟨⟨_, by rw [eV]⟩, rfl⟩
  have hsub : ∀ q ∈ (44, tabObj ps') :: (own ++ rest), q ∈ led := by
    intro q hq
    rw [hled, hR]
    exact .tail _ (.tail _ (.tail _ (.tail _ hq)))
  clear N5 N6 N7 F5 hcm
  subst hfo
  k_steps
  unfold Stop
  have i3 : (Heap.IsList _ D ws.toArray) := ⟨_, (N8 _ (.tail _ (.tail _ (.tail _ (.tail _ hDR))))).1, rfl, _, rfl⟩
  refine wpAny_truthy_list i3 (by simp; omega) ?_
  cases hws : ws with
  | nil =>
    have hd0 : ds = [] := List.length_eq_zero_iff.mp (by rw [← hlI, hws]; rfl)
    rw [if_neg (by simp)]
    dsimp only
    k_steps
    rename Fr h₀ L _ m => F9
    rename News h₀ L _ _ => N9
    rw [← hled] at N9
    exact hret _ _ _ _ F9 (News.sub N9 hsub) ⟨_, own, ps', by rw [hd0]; rfl, rfl, hcT, hown2⟩
  | cons v0 vr =>
    have hdp : 0 < ds.length := by rw [← hlI, hws]; exact Nat.succ_pos _
    rw [if_pos (by simp)]
    dsimp only
    rw [hws] at hDR
    rw [hws] at hlI
    k_steps
    unfold Stop
    rw [List.length_map]
    rw [← hled] at N8
    refine Spec.use (innerC ds.length 0 ds.length _ _ (by omega) hdp (Nat.le_refl _)) B1 F6 X1 N8 T1 (C1.keeps FG.keep) (C2.keeps FG.keep) rfl (by dsimp only [ktrTop]; omega) (by dsimp only [ktrTop]; omega) ?_
    rintro r news' h7 tk7 F7 N10 ⟨⟨t, rfl⟩, rfl⟩
    k_steps
    rename Fr h₀ L _ m => F11
    rename News h₀ L _ _ => N11
    exact hret _ _ _ _ F11 (News.sub N11 hsub) ⟨_, own, ps', by rw [slice_all], rfl, hcT, hown2⟩
end Mine
end

section
open PySem PySem.W PyProof.Rows
set_option maxRecDepth 100000
set_option maxHeartbeats 1000000
namespace Mine
local macro_rules | `(tactic| walk_at "in of") => `(tactic| (with_reducible first | assumption | exact List.mem_cons_self | (refine List.mem_cons_of_mem _ ?_; walk_at "in of") | exact List.mem_append_left _ (by assumption) | exact List.mem_append_right _ (by assumption) | (refine List.mem_append_left _ ?_; walk_at "in of") | (refine List.mem_append_right _ ?_; walk_at "in of")))
local macro_rules | `(tactic| walk_at "sub of") => `(tactic| (with_reducible first | exact List.forall_mem_nil _ | (refine List.forall_mem_cons.mpr ⟨?_, ?_⟩; walk_at "in of"; walk_at "sub of") | (refine List.forall_mem_append.mpr ⟨?_, ?_⟩; walk_at "sub of"; walk_at "sub of") | (intro q9 h9; walk_at "in of")))
local macro_rules | `(tactic| walk_at $k:str) => if ["call ref", "call type:reversed", "call builtin:list.append", "call builtin:list.reverse", "binaryOp LShift int int", "exec For Name Call cons nil"].contains k.getString then `(tactic| (k_here; refine stop ?_)) else Lean.Macro.throwUnsupported
local macro_rules | `(tactic| walk_at $k:str) => if ["pyIter ref", "RevRest", "UnrEnd"].contains k.getString then `(tactic| (refine stop ?_)) else Lean.Macro.throwUnsupported
local macro_rules | `(tactic| walk_at "eval Name") => `(tactic| (k_here; k_dflt (refine' ld ?k1 ?k2 ?_; (case k1 => k_asm); (case k2 => assumption); k_whole)))
theorem Tab.notStr {qual line col led ps} (h : Tab qual line col led ps) (q' : Str) (t : Tok) : ps[1]? ≠ some (.str q' t) := by
  rcases h with rfl | ⟨c, _, _, _, rfl, _⟩
  · simp
  · simp [rawInt]
theorem Tab.drop {qual line col q2 l2 c2 led2 led led' ps' ps} {P : Addr} (h : Tab qual line col led ps') (h2 : Tab q2 l2 c2 led2 ps) (hs : ∀ p ∈ led, p ∈ led' ∨ p = (P, tabObj ps) ∨ (∃ ws n, p.2 = listOf ws n)) : Tab qual line col led' ps' := by
  rcases h with h | ⟨c, oc, vs, t, e, hm, hd1, hd2⟩
  · exact .inl h
  · refine .inr ⟨c, oc, vs, t, e, ?_, hd1, hd2⟩
    rcases hs _ hm with h | h | ⟨ws, n, h⟩
    · exact h
    · exfalso
      cases h
      cases hd1
      exact h2.notStr _ _ hd2
    · exfalso
      simp only at h
      subst h
      cases hd1
theorem offI_of {I : Addr} {it : Obj} : ∀ {l : List (Addr × Obj)}, (∀ p ∈ l, p.1 ≠ I) → OffI I it l
  | [], _ => trivial
  | _ :: _, h => ⟨.inl (h _ (.head _)), offI_of fun p hp => h p (.tail _ hp)⟩
theorem divmod_pos_spec {a b : Nat} {ta tb : Tok} {ps1 ps2 : Array Value} {rest : List (Addr × Obj)} (ha : a < 2 ^ 20) (hb0 : 0 < b) (hb : b < 2 ^ 10)
    (hne1 : ∀ p ∈ rest, p.1 ≠ 44) (hne2 : ∀ p ∈ rest, p.1 ≠ 37) (ht1 : Tab q2i 80 4 rest ps1) (ht2 : Tab q2d 65 4 rest ps2) :
    Spec 56 [.int a ta, .int b tb] 50 ((44, tabObj ps1) :: (37, tabObj ps2) :: rest) (fun r news' => ∃ t tq tr k own ps1' ps2', r = .ref t ∧ news' = (44, tabObj ps1') :: (37, tabObj ps2') :: (own ++ rest) ∧
      (t, tupOf [.int ((a / b : Nat) : Int) tq, .int ((a % b : Nat) : Int) tr] k) ∈ own ∧ Tab q2i 80 4 (own ++ rest) ps1' ∧ Tab q2d 65 4 (own ++ rest) ps2' ∧ (∀ r ∈ own, 44 < r.1 ∧ 37 < r.1 ∧ ∀ q ∈ rest, q.1 < r.1)) := by
  unfold Spec
  intro prog w p loose mean mg mb dp un gd cn cs ad ccd cl outer A₀ base h₀ L m s Q E B F X N T C1 C2 hk hd hu hret
  refine wpAny_call ?_
  k_dflt ktr_enter
  rename_i g L1 h1 FG F1 N1 B1 X1 T1
  obtain ⟨n, hnd⟩ : ∃ n, n = Builtin.Int.intBits (b : Int) := ⟨_, rfl⟩
  have hn0 : 0 < n := by rw [hnd]; exact intBits_pos hb0
  have hn1 : n ≤ 10 := by rw [hnd]; exact intBits_le hb
  k_steps
  unfold Stop
  rename Fr _ _ _ _ => F2
  rename News _ _ _ _ => N2
  rw [← hnd]
  rw [← hnd] at F2
  refine Spec.use (int2digits_spec (n := n) (rest := (44, tabObj ps1) :: rest) ha hn0 (by omega) ?_ (ht2.mono fun p hp => .tail _ hp)) B1 F2 X1 (News.sub N2 ?_) T1 (C1.keeps FG.keep) (C2.keeps FG.keep) rfl (room hd rfl) (room hu rfl) ?_
  · intro q hq
    rcases List.mem_cons.mp hq with rfl | hq
    · exact neN (by dsimp only; decide)
    · exact hne2 q hq
  · walk_at "sub of"
  rintro r news' h3 tk3 F3 N3 ⟨D, ws, nn, own, ps2', rfl, rfl, hI, hT2, hown, hD37, hDlt⟩
  generalize hdsE : digs n a (ndOf a n) = ds at hI
  have hdl : ds.length = ndOf a n := by rw [← hdsE, digs_length]
  have hdd : ∀ d ∈ ds, d < 2 ^ n := by rw [← hdsE]; exact digs_lt n _ a
  have hndB : ds.length ≤ 40 := by
    rw [hdl]
    have := intBits_le ha
    exact Nat.le_trans (Nat.div_le_self _ _) (by omega)
  have hwl := hI.length
  rw [List.length_map] at hwl
  obtain ⟨R, hR⟩ : ∃ R, R = (D, listOf ws.toArray nn) :: (37, tabObj ps2') :: (own ++ (44, tabObj ps1) :: rest) := ⟨_, rfl⟩
  rw [← hR] at N3
  k_steps
  unfold Stop
  rename Fr _ _ _ _ => F4
  rename News _ _ _ _ => N4
  rename_i Dq h4 lDq tk4
  k_fold
  have hDR : (D, listOf ws.toArray nn) ∈ R := by rw [hR]; exact .head _
  have hlist : (Heap.IsList _ D ws.toArray) := ⟨_, (N4 _ (.tail _ hDR)).1, rfl, _, rfl⟩
  refine For_invVF F4 rfl rfl ?_
  k_steps
  unfold Stop
  refine krv_reversed F4 N4 hlist ?_
  intro I h5 F5 N5 lI
  k_steps
  unfold Stop
  refine iter_revUnr (lo := listOf ws.toArray nn) rfl F5 N5 (offI_of fun p hp => Nat.ne_of_lt (lI p hp)) (.tail _ hDR) rfl rfl ?_
  obtain ⟨m2, hm2, F6⟩ : ∃ m', m' = _ ∧ Fr g L1 h5 m' := ⟨_, rfl, F5⟩
  rw [← hm2]
  obtain ⟨tn, e1⟩ : ∃ t, m2 (Str.ofString "n") = some (.int (n : Int) t) := by rw [hm2]; exact ⟨_, rfl⟩
  have e2 : m2 (Str.ofString "b") = some (.int (b : Int) tb) := by rw [hm2]; rfl
  obtain ⟨r, hr0⟩ : ∃ r : Nat, r = 0 := ⟨_, rfl⟩
  obtain ⟨tr, e3⟩ : ∃ t, m2 (Str.ofString "r") = some (.int (r : Int) t) := by rw [hm2, hr0]; exact ⟨_, rfl⟩
  have e4 : m2 (Str.ofString "q_digits") = some (.ref Dq) := by rw [hm2]; rfl
  obtain ⟨rem, hrem⟩ : ∃ rem, rem = ds.reverse := ⟨_, rfl⟩
  have hIr : IntsAre ws.reverse (rem.map Int.ofNat) := by rw [hrem, List.map_reverse]; exact PyProof.Rows.IntsAre.reverse hI
  have hrd : ∀ d ∈ rem, d < 2 ^ n := by rw [hrem]; intro d hd; exact hdd d (List.mem_reverse.mp hd)
  obtain ⟨QS, hQS⟩ : ∃ QS, QS = (divLoop n b ds.reverse 0).1 := ⟨_, rfl⟩
  obtain ⟨RR, hRR⟩ : ∃ RR, RR = (divLoop n b ds.reverse 0).2 := ⟨_, rfl⟩
  obtain ⟨qs, hqs⟩ : ∃ qs : List Nat, qs = [] := ⟨_, rfl⟩
  obtain ⟨wq, hwq⟩ : ∃ wq : List Value, wq = [] := ⟨_, rfl⟩
  obtain ⟨nq, hnq⟩ : ∃ nq : Nat, nq = 0 := ⟨_, rfl⟩
  have hIq : IntsAre wq (qs.map Int.ofNat) := by rw [hwq, hqs]; exact .nil
  have hv1 : qs ++ (divLoop n b rem r).1 = QS := by rw [hqs, hrem, hr0, hQS]; rfl
  have hv2 : (divLoop n b rem r).2 = RR := by rw [hrem, hr0, hRR]
  have hrb : r < b := by omega
  have hql : qs.length + rem.length ≤ 40 := by rw [hqs, hrem, List.length_reverse]; simpa using hndB
  have hQd : ∀ d ∈ QS, d < 2 ^ n := by
    rw [hQS]
    refine divLoop_digit n b hb0 _ 0 hb0 fun d hd => hdd d (List.mem_reverse.mp hd)
  have hQl : QS.length ≤ 40 := by rw [hQS, divLoop_length, List.length_reverse]; exact hndB
  obtain ⟨hfin1, hfin2⟩ := divLoop_all n b a (ndOf a n) hb0 (lt_ndOf hn0)
  rw [hdsE] at hfin1 hfin2
  rw [← hQS] at hfin1
  rw [← hRR] at hfin2
  have hRI : ∀ p ∈ R, p.1 ≠ I := fun p hp => Nat.ne_of_lt (lI p (.tail _ hp))
  have hRq : ∀ p ∈ R, p.1 ≠ Dq := fun p hp => Nat.ne_of_lt (lDq p hp)
  have hqI : Dq ≠ I := Nat.ne_of_lt (lI _ (.head _))
  rw [show ([] : List Value).toArray = wq.toArray by rw [hwq]]
  rw [show listOf wq.toArray 0 = listOf wq.toArray nq by rw [hnq]]
  generalize hvr : ws.reverse = vr at hIr
  have tail : ∀ h tk m2 wq nq tr, Fr g L1 h m2 → News g L1 h ((Dq, listOf wq.toArray nq) :: R) → IntsAre wq (QS.map Int.ofNat) → m2 (Str.ofString "n") = some (.int (n : Int) tn) → m2 (Str.ofString "r") = some (.int (RR : Int) tr) → m2 (Str.ofString "q_digits") = some (.ref Dq) →
      qk .next { heap := h, gens := s.gens, drawn := s.drawn, toks := tk, os := s.os } := by
    intro h tk m2 wq nq tr F7 N7 hIq e1 e3 e4
    have hwl2 := hIq.length
    rw [List.length_map] at hwl2
    k_steps
    unfold Stop
    refine kl_reverse F7 N7 (l := wq.reverse) (by simp) (.head hRq) (by rw [sizeLine_eq]; simp; omega) ?_
    intro h8 F8 N8
    k_steps
    unfold Stop
    rw [hR] at N8
    refine Spec.use (digits2int_spec (D := Dq) (ds := QS.reverse) (rest := (Dq, listOf wq.reverse.toArray nq) :: (D, listOf ws.toArray nn) :: (37, tabObj ps2') :: (own ++ rest)) hn0 (by omega) (.head _) (by rw [List.map_reverse]; exact PyProof.Rows.IntsAre.reverse hIq) (by rw [List.length_reverse]; exact hQl)
      (fun d hd => hQd d (List.mem_reverse.mp hd)) ?_ (ht1.mono fun p hp => .tail _ (.tail _ (.tail _ (List.mem_append_right _ hp))))) B1 F8 X1 (News.sub N8 ?_) T1 (C1.keeps FG.keep) (C2.keeps FG.keep) rfl (room hd rfl) (room hu rfl) ?_
    · intro q hq
      simp only [List.mem_cons, List.mem_append] at hq
      rcases hq with rfl | rfl | rfl | hq | hq
      · exact Ne.symm (hRq (44, tabObj ps1) (by rw [hR]; exact .tail _ (.tail _ (List.mem_append_right _ (.head _)))))
      · exact Nat.ne_of_gt (hDlt (44, tabObj ps1) (.head _))
      · exact neN (by dsimp only; decide)
      · exact Nat.ne_of_gt ((hown q hq).2.2 (44, tabObj ps1) (.head _))
      · exact hne1 q hq
    · walk_at "sub of"
    rintro v news' h9 tk9 F9 N9 ⟨tv, own2, ps1', rfl, rfl, hT1, hown2⟩
    rw [hfin1] 
    rw [hfin2] at e3
    k_steps
    rename Fr h₀ L _ m => F10
    rename News h₀ L _ _ => N10
    rename_i tt h11 F11 N11 ltt T11 K11
    have ltt2 := ktn_ltOf ltt.2
    refine hret _ _ _ _ F10 (News.sub N10 (l' := (44, tabObj ps1') :: (37, tabObj ps2') :: (((tt, tupOf [.int ((a / b : Nat) : Int) tv, .int ((a % b : Nat) : Int) tr] 0) :: (own2 ++ own)) ++ rest)) ?_) ⟨tt, tv, tr, 0, (tt, tupOf [.int ((a / b : Nat) : Int) tv, .int ((a % b : Nat) : Int) tr] 0) :: (own2 ++ own), ps1', ps2', rfl, rfl, .head _, ?_, ?_, ?_⟩
    · walk_at "sub of"
    · refine hT1.drop hT2 (P := 37) fun p hp => ?_
      simp only [List.mem_cons, List.mem_append] at hp ⊢
      rcases hp with h | h | h | h | h | h
      · simp only [h, true_or, or_true]
      · exact .inr (.inr ⟨_, _, by rw [h]⟩)
      · exact .inr (.inr ⟨_, _, by rw [h]⟩)
      · exact .inr (.inl h)
      · simp only [h, true_or, or_true]
      · simp only [h, true_or, or_true]
    · refine hT2.drop ht1 (P := 44) fun p hp => ?_
      simp only [List.mem_cons, List.mem_append] at hp ⊢
      rcases hp with h | h | h
      · simp only [h, true_or, or_true]
      · exact .inr (.inl h)
      · simp only [h, true_or, or_true]
    · intro r hr
      rcases List.mem_cons.mp hr with rfl | hr
      · exact ⟨ltt.1, ltt2 (37, tabObj ps2') (List.mem_append_right _ (.tail _ (.tail _ (.head _)))), fun q hq => ltt2 q (List.mem_append_right _ (.tail _ (.tail _ (.tail _ (List.mem_append_right _ hq)))))⟩
      · rcases List.mem_append.mp hr with hr | hr
        · exact ⟨(hown2 r hr).1, (hown2 r hr).2 (37, tabObj ps2') (.tail _ (.tail _ (.head _))), fun q hq => (hown2 r hr).2 q (.tail _ (.tail _ (.tail _ (List.mem_append_right _ hq))))⟩
        · exact ⟨(hown r hr).2.2 (44, tabObj ps1) (.head _), (hown r hr).1, fun q hq => (hown r hr).2.2 q (.tail _ hq)⟩
  clear_value qk
  clear N5 F5 N4 F4 hlist hm2 F6 hr0 hqs hwq hnq hrem hvr
  induction rem generalizing vr r qs wq nq m2 tr with
  | nil =>
    cases hIr
    intro h6 tk6 F6 N6
    rw [show (divLoop n b [] r).1 = [] from rfl, List.append_nil] at hv1
    rw [show (divLoop n b [] r).2 = r from rfl] at hv2
    exact tail _ _ _ _ _ tr F6 N6 (hv1 ▸ hIq) e1 (hv2 ▸ e3) e4
  | cons d rem ih =>
    cases hIr with
    | cons dk td hIr =>
    intro it h6 tk6 hit F6 N6
    replace F6 : Fr g L1 h6 _ := F6
    replace N6 : News g L1 h6 _ := N6
    have hd2 : d < 2 ^ n := hrd d (.head _)
    have hp1 : (2 : Nat) ^ n ≤ 2 ^ 10 := Nat.pow_le_pow_right (by decide) hn1
    have hp2 : r * 2 ^ n ≤ 2 ^ 10 * 2 ^ 10 := Nat.mul_le_mul (by omega) hp1
    k_steps
    unfold Stop
    refine lshift_nat (x := r) (k := n) rfl rfl (by omega) (by omega) ?_
    k_steps
    unfold Stop
    rw [show (((r * 2 ^ n : Nat) : Int) + Int.ofNat d) = ((r * 2 ^ n + d : Nat) : Int) from rfl]
    refine Spec.use (div2n1n_spec (a := r * 2 ^ n + d) (b := b) (n := n) (by omega) hb0 (by omega) (by omega)) B1 F6 X1 N6 T1 (C1.keeps FG.keep) (C2.keeps FG.keep) rfl (room hd rfl) (room hu rfl) ?_
    rintro v news' h7 tk7 F7 N7 ⟨t, tq, tr', kk, rfl, rfl, hlt⟩
    k_steps
    unfold Stop
    rename Fr _ _ _ _ => F8
    rename News _ _ _ _ => N8
    have hti : t ≠ Dq := fun e => absurd (hlt (Dq, listOf wq.toArray nq) (.tail _ (.head _))) (by rw [e]; exact Nat.lt_irrefl _)
    refine append_K F8 N8 (.tail hti (.tail (Ne.symm hqI) (.head hRq))) ?_ (by rw [sizeLine_eq, List.size_toArray, hIq.length, List.length_map]; omega)
    intro h9 F9 N9
    rw [List.push_toArray] at N9
    k_steps
    unfold Stop
    refine UnrEnd.intro F9 N9 ((Dq, listOf (wq ++ [Value.int (((r * 2 ^ n + d) / b : Nat) : Int) tq]).toArray (nq + 1)) :: R) (fun p hp => .tail _ hp) ?_ ⟨.tail _ hDR, ?_⟩
    · intro p hp
      rcases List.mem_cons.mp hp with rfl | hp
      · exact hqI
      · exact hRI p hp
    exact ih _ (by exact e1) (by exact e2) ((r * 2 ^ n + d) % b) tr' (by exact rfl) (by exact e4) (fun x hx => hrd x (.tail _ hx)) (qs ++ [(r * 2 ^ n + d) / b]) (wq ++ [Value.int (((r * 2 ^ n + d) / b : Nat) : Int) tq]) (nq + 1)
      (by rw [List.map_append]; exact IntsAre.append hIq (.cons _ _ .nil)) (by rw [← hv1, List.append_assoc]; rfl) hv2 (Nat.mod_lt _ hb0) (by rw [List.length_append]; simp only [List.length_cons, List.length_nil] at hql ⊢; omega) _ hIr
end Mine
end

section
open PySem PySem.W PyProof.Rows
set_option maxRecDepth 100000
set_option maxHeartbeats 1000000
namespace Mine
local macro_rules | `(tactic| walk_at "in of") => `(tactic| (with_reducible first | assumption | exact List.mem_cons_self | (refine List.mem_cons_of_mem _ ?_; walk_at "in of") | exact List.mem_append_left _ (by assumption) | exact List.mem_append_right _ (by assumption) | (refine List.mem_append_left _ ?_; walk_at "in of") | (refine List.mem_append_right _ ?_; walk_at "in of")))
local macro_rules | `(tactic| walk_at "sub of") => `(tactic| (with_reducible first | exact List.forall_mem_nil _ | (refine List.forall_mem_cons.mpr ⟨?_, ?_⟩; walk_at "in of"; walk_at "sub of") | (refine List.forall_mem_append.mpr ⟨?_, ?_⟩; walk_at "sub of"; walk_at "sub of") | (intro q9 h9; walk_at "in of")))
local macro_rules | `(tactic| walk_at "call ref") => `(tactic| (k_here; refine stop ?_))
local macro_rules | `(tactic| walk_at "ite") => `(tactic| first | (refine PySem.W.ite_pos (by simp only [decide_eq_true_eq, beq_iff_eq, bne_iff_ne, ne_eq]; omega) ?_) | (refine PySem.W.ite_neg (by simp only [decide_eq_true_eq, beq_iff_eq, bne_iff_ne, ne_eq]; omega) ?_))
/-- what int_divmod leaves: a new tuple of q and r -/
def DivPost (q r : Int) (rest : List (Addr × Obj)) (v : Value) (news' : List (Addr × Obj)) : Prop :=
  ∃ t tq tr k own ps1' ps2', v = .ref t ∧ news' = (44, tabObj ps1') :: (37, tabObj ps2') :: (own ++ rest) ∧
      (t, tupOf [.int q tq, .int r tr] k) ∈ own ∧ Tab q2i 80 4 (own ++ rest) ps1' ∧ Tab q2d 65 4 (own ++ rest) ps2' ∧ (∀ r ∈ own, 44 < r.1 ∧ 37 < r.1 ∧ ∀ q ∈ rest, q.1 < r.1)
theorem divmod_pp {a b : Nat} {ta tb : Tok} {ps1 ps2 : Array Value} {rest : List (Addr × Obj)} (ha : a < 2 ^ 20) (hb0 : 0 < b) (hb : b < 2 ^ 10)
    (hne1 : ∀ p ∈ rest, p.1 ≠ 44) (hne2 : ∀ p ∈ rest, p.1 ≠ 37) (ht1 : Tab q2i 80 4 rest ps1) (ht2 : Tab q2d 65 4 rest ps2) :
    Spec 63 [.int a ta, .int b tb] 60 ((44, tabObj ps1) :: (37, tabObj ps2) :: rest) (DivPost ((a / b : Nat) : Int) ((a % b : Nat) : Int) rest) := by
  unfold Spec
  intro prog w p loose mean mg mb dp un gd cn cs ad ccd cl outer A₀ base h₀ L m s Q E B F X N T C1 C2 hk hd hu hret
  refine wpAny_call ?_
  k_dflt ktr_enter
  rename_i g L1 h1 FG F1 N1 B1 X1 T1
  k_steps
  unfold Stop
  refine Spec.use (divmod_pos_spec ha hb0 hb hne1 hne2 ht1 ht2) B1 F1 X1 N1 T1 (C1.keeps FG.keep) (C2.keeps FG.keep) rfl (room hd rfl) (room hu rfl) ?_
  rintro v news' h3 tk3 F3 N3 ⟨t, tq, tr, k, own, ps1', ps2', rfl, rfl, hm, hT1, hT2, hown⟩
  k_steps
  rename Fr h₀ L _ m => F4
  rename News h₀ L _ _ => N4
  exact hret _ _ _ _ F4 N4 ⟨t, tq, tr, k, own, ps1', ps2', rfl, rfl, hm, hT1, hT2, hown⟩
theorem divmod_np {a : Int} {b : Nat} {ta tb : Tok} {ps1 ps2 : Array Value} {rest : List (Addr × Obj)} (ha0 : a < 0) (ha : -a < 2 ^ 20) (hb0 : 0 < b) (hb : b < 2 ^ 10)
    (hne1 : ∀ p ∈ rest, p.1 ≠ 44) (hne2 : ∀ p ∈ rest, p.1 ≠ 37) (ht1 : Tab q2i 80 4 rest ps1) (ht2 : Tab q2d 65 4 rest ps2) :
    Spec 63 [.int a ta, .int b tb] 61 ((44, tabObj ps1) :: (37, tabObj ps2) :: rest) (DivPost (a.fdiv b) (a.fmod b) rest) := by
  unfold Spec
  intro prog w p loose mean mg mb dp un gd cn cs ad ccd cl outer A₀ base h₀ L m s Q E B F X N T C1 C2 hk hd hu hret
  refine wpAny_call ?_
  k_dflt ktr_enter
  rename_i g L1 h1 FG F1 N1 B1 X1 T1
  k_steps
  unfold Stop
  obtain ⟨a', ha'⟩ : ∃ a' : Nat, Builtin.bitNot a = (a' : Int) := ⟨(-a - 1).toNat, by unfold Builtin.bitNot; omega⟩
  have hae : a = -((a' : Int) + 1) := by unfold Builtin.bitNot at ha'; omega
  have hq : Builtin.bitNot ((a' / b : Nat) : Int) = a.fdiv b ∧ (b : Int) + Builtin.bitNot ((a' % b : Nat) : Int) = a.fmod b := by
    rw [Int.fdiv_eq_ediv_of_nonneg _ (by omega), Int.fmod_eq_emod_of_nonneg _ (by omega)]
    have h1 := Nat.div_add_mod a' b
    have h2 := Nat.mod_lt a' hb0
    have h := (Int.ediv_emod_unique (a := a) (b := (b : Int)) (q := Builtin.bitNot ((a' / b : Nat) : Int)) (r := (b : Int) + Builtin.bitNot ((a' % b : Nat) : Int)) (by omega)).mpr
    have h3 : ((b * (a' / b) + a' % b : Nat) : Int) = (a' : Int) := by rw [h1]
    rw [Int.natCast_add, Int.natCast_mul] at h3
    have := h ⟨by unfold Builtin.bitNot; rw [Int.mul_sub, Int.mul_neg, Int.mul_one, hae]; omega, by unfold Builtin.bitNot; omega, by unfold Builtin.bitNot; omega⟩
    exact ⟨this.1.symm, this.2.symm⟩
  rw [ha']
  refine Spec.use (divmod_pp (a := a') (b := b) (by omega) hb0 hb hne1 hne2 ht1 ht2) B1 F1 X1 N1 T1 (C1.keeps FG.keep) (C2.keeps FG.keep) rfl (room hd rfl) (room hu rfl) ?_
  rintro v news' h3 tk3 F3 N3 ⟨t, tq, tr, k, own, ps1', ps2', rfl, rfl, hm, hT1, hT2, hown⟩
  replace N3 : News g L1 h3 ((t, tupOf [.int ((a' / b : Nat) : Int) tq, .int ((a' % b : Nat) : Int) tr] k) :: (44, tabObj ps1') :: (37, tabObj ps2') :: (own ++ rest)) := News.sub N3 fun p hp => by
    rcases List.mem_cons.mp hp with h | h
    · rw [h]; exact .tail _ (.tail _ (List.mem_append_left _ hm))
    · exact h
  k_steps
  rename Fr h₀ L _ m => F5
  rename News h₀ L _ _ => N5
  rename_i tt h11 F11 N11 ltt T11 K11
  have ltt2 := ktn_ltOf ltt.2.2.2
  rw [hq.1, hq.2] at N5
  exact hret _ _ _ _ F5 (News.sub N5 (l' := (44, tabObj ps1') :: (37, tabObj ps2') :: (((tt, tupOf [.int (a.fdiv b) tk, .int (a.fmod b) (tk + 1 + 1)] 0) :: own) ++ rest)) (by walk_at "sub of"))
    ⟨tt, tk, (tk + 1 + 1), 0, (tt, tupOf [.int (a.fdiv b) tk, .int (a.fmod b) (tk + 1 + 1)] 0) :: own, ps1', ps2', rfl, rfl, .head _, hT1.mono fun p hp => .tail _ hp, hT2.mono fun p hp => .tail _ hp, by
      intro r hr
      rcases List.mem_cons.mp hr with rfl | hr
      · exact ⟨ltt.2.1, ltt.2.2.1, fun q hq => ltt2 q (List.mem_append_right _ hq)⟩
      · exact hown r hr⟩
theorem Spec.deep {f : Addr} {args : List Value} {d d' : Nat} {news : List (Addr × Obj)} {post : Value → List (Addr × Obj) → Prop} (S : Spec f args d news post) (h : d ≤ d') : Spec f args d' news post := by
  unfold Spec at *
  intro prog w p loose mean mg mb dp un gd cn cs ad ccd cl outer A₀ base h₀ L m s Q E B F X N T C1 C2 hk hd hu hret
  exact S prog w p loose mean mg mb dp un gd cn cs ad ccd cl outer A₀ base h₀ L m s Q E B F X N T C1 C2 hk (by omega) (by omega) hret
theorem divmod_ap {a : Int} {b : Nat} {ta tb : Tok} {ps1 ps2 : Array Value} {rest : List (Addr × Obj)} (ha1 : -a < 2 ^ 20) (ha2 : a < 2 ^ 20) (hb0 : 0 < b) (hb : b < 2 ^ 10)
    (hne1 : ∀ p ∈ rest, p.1 ≠ 44) (hne2 : ∀ p ∈ rest, p.1 ≠ 37) (ht1 : Tab q2i 80 4 rest ps1) (ht2 : Tab q2d 65 4 rest ps2) :
    Spec 63 [.int a ta, .int b tb] 61 ((44, tabObj ps1) :: (37, tabObj ps2) :: rest) (DivPost (a.fdiv b) (a.fmod b) rest) := by
  by_cases h : a < 0
  · exact divmod_np h ha1 hb0 hb hne1 hne2 ht1 ht2
  · obtain ⟨a', rfl⟩ : ∃ a' : Nat, a = (a' : Int) := ⟨a.toNat, by omega⟩
    have e1 : (a' : Int).fdiv (b : Int) = ((a' / b : Nat) : Int) := by rw [Int.fdiv_eq_ediv_of_nonneg _ (by omega)]; rfl
    have e2 : (a' : Int).fmod (b : Int) = ((a' % b : Nat) : Int) := by rw [Int.fmod_eq_emod_of_nonneg _ (by omega)]; rfl
    rw [e1, e2]
    exact Spec.deep (divmod_pp (by omega) hb0 hb hne1 hne2 ht1 ht2) (by omega)
theorem divmod_spec {a b : Int} {ta tb : Tok} {ps1 ps2 : Array Value} {rest : List (Addr × Obj)} (ha1 : -(2 ^ 20) < a) (ha2 : a < 2 ^ 20) (hb0 : b ≠ 0) (hb1 : -(2 ^ 10) < b) (hb2 : b < 2 ^ 10)
    (hne1 : ∀ p ∈ rest, p.1 ≠ 44) (hne2 : ∀ p ∈ rest, p.1 ≠ 37) (ht1 : Tab q2i 80 4 rest ps1) (ht2 : Tab q2d 65 4 rest ps2) :
    Spec 63 [.int a ta, .int b tb] 62 ((44, tabObj ps1) :: (37, tabObj ps2) :: rest) (DivPost (a.fdiv b) (a.fmod b) rest) := by
  by_cases h : 0 < b
  · obtain ⟨b', rfl⟩ : ∃ b' : Nat, b = (b' : Int) := ⟨b.toNat, by omega⟩
    exact Spec.deep (divmod_ap (by omega) ha2 (by omega) (by omega) hne1 hne2 ht1 ht2) (by omega)
  have hneg : b < 0 := by omega
  unfold Spec
  intro prog w p loose mean mg mb dp un gd cn cs ad ccd cl outer A₀ base h₀ L m s Q E B F X N T C1 C2 hk hd hu hret
  refine wpAny_call ?_
  k_dflt ktr_enter
  rename_i g L1 h1 FG F1 N1 B1 X1 T1
  obtain ⟨b', hb'⟩ : ∃ b' : Nat, -b = (b' : Int) := ⟨(-b).toNat, by omega⟩
  have hq : (-a).fdiv (b' : Int) = a.fdiv b ∧ -((-a).fmod (b' : Int)) = a.fmod b := by
    rw [← hb']
    exact ⟨Int.neg_fdiv_neg .., by rw [Int.neg_fmod_neg, Int.neg_neg]⟩
  k_steps
  unfold Stop
  rw [hb']
  refine Spec.use (divmod_ap (a := -a) (b := b') (by omega) (by omega) (by omega) (by omega) hne1 hne2 ht1 ht2) B1 F1 X1 N1 T1 (C1.keeps FG.keep) (C2.keeps FG.keep) rfl (room hd rfl) (room hu rfl) ?_
  rintro v news' h3 tk3 F3 N3 ⟨t, tq, tr, k, own, ps1', ps2', rfl, rfl, hm, hT1, hT2, hown⟩
  replace N3 : News g L1 h3 ((t, tupOf [.int ((-a).fdiv b') tq, .int ((-a).fmod b') tr] k) :: (44, tabObj ps1') :: (37, tabObj ps2') :: (own ++ rest)) := News.sub N3 fun p hp => by
    rcases List.mem_cons.mp hp with h | h
    · rw [h]; exact .tail _ (.tail _ (List.mem_append_left _ hm))
    · exact h
  k_steps
  rename Fr h₀ L _ m => F5
  rename News h₀ L _ _ => N5
  rename_i tt h11 F11 N11 ltt T11 K11
  have ltt2 := ktn_ltOf ltt.2.2.2
  rw [hq.2, hq.1] at N5
  exact hret _ _ _ _ F5 (News.sub N5 (l' := (44, tabObj ps1') :: (37, tabObj ps2') :: (((tt, tupOf [.int (a.fdiv b) tq, .int (a.fmod b) tk] 0) :: own) ++ rest)) (by walk_at "sub of"))
    ⟨tt, tq, tk, 0, (tt, tupOf [.int (a.fdiv b) tq, .int (a.fmod b) tk] 0) :: own, ps1', ps2', rfl, rfl, .head _, hT1.mono fun p hp => .tail _ hp, hT2.mono fun p hp => .tail _ hp, by
      intro r hr
      rcases List.mem_cons.mp hr with rfl | hr
      · exact ⟨ltt.2.1, ltt.2.2.1, fun q hq => ltt2 q (List.mem_append_right _ hq)⟩
      · exact hown r hr⟩
end Mine
end

section
open PySem PySem.W PyProof.Rows
set_option maxRecDepth 100000
set_option maxHeartbeats 1000000
namespace Mine
theorem entry_unchain : entryFor table "proto.unchain" = some Builtin.«proto.unchain» := entryFor_of_fast (by kernel_rfl)
section
variable {prog : Program} {w : World} {A : Around} {E : Value → Shared → Prop} {s : Shared}
/-- an IndexError is made and raised, while nothing or one exception without a context is handled -/
theorem raise_ix {α : Type} {msg : String} {Q : α → Shared → Prop} (hh : A.handled = none ∨ ∃ e1 o1 vs1, A.handled = some (.ref e1) ∧ s.heap.get? e1 = some o1 ∧ o1.data = .fields vs1 ∧ vs1[2]? = some .none)
    (h : ∀ h' tk e ob t, (∀ b o, s.heap.get? b = some o → h'.get? b = some o) → s.heap.get? e = none → h'.get? e = some ob → ob.cls = .type "IndexError" →
      ob.data = .fields #[t, .none, A.handled.getD .none, .none, .bool false, .none] → E (.ref e) { s with heap := h', toks := tk }) :
    wpAny (model prog w) A (raiseErrorWords "IndexError" msg : Sem α) Q E s := by
  have hp := plainExc_IndexError
  unfold raiseErrorWords
  refine wpAny_bind (wpAny_mkText (wpAny_bind ?_))
  unfold newExc newTuple
  refine wpAny_bind (wpAny_newObj_type ?_)
  refine wpAny_bind (m := firstArgMember _ _) (wpAny_of_eq (a := Value.none) (by simp only [firstArgMember, hp.first]; rfl) ?_)
  rw [hp.own]
  refine wpAny_newObj_type ?_
  unfold raiseNew
  refine wpAny_bind (wpAny_handled ?_)
  rcases hh with hh | ⟨e1, o1, vs1, hh, he1, hd1, h21⟩
  · rw [hh]
    first
      | refine wpAny_throw ?_
      | refine wpAny_bind (wpAny_pure (wpAny_throw ?_))
    exact h _ _ _ _ (.ref s.heap.objs.size) (fun b o hb => Heap.get?_push_of_some _ (Heap.get?_push_of_some _ hb)) (Heap.get?_none_of_le (by simp)) (Heap.get?_push_size _ rfl) rfl (by rw [hh]; simp)
  · rw [hh]
    have hlt := Heap.lt_size he1
    dsimp only
    rw [if_pos (bne_iff_ne.mpr fun q => by
      injection q with q
      have hsz : (s.heap.push { cls := Value.type "tuple", data := Data.seq [Value.str (Str.ofString msg) s.toks].toArray }).objs.size = s.heap.objs.size + 1 := Heap.size_push ..
      have q' : e1 = s.heap.objs.size + 1 := q.trans hsz
      rw [q'] at hlt
      exact absurd (ltN hlt) (by omega))]
    have he1' := Heap.get?_push_of_some (h := s.heap.push { cls := Value.type "tuple", data := Data.seq [Value.str (Str.ofString msg) s.toks].toArray }) { cls := Value.type "IndexError", data := Data.fields (#[Value.ref s.heap.objs.size, .none, .none, .none, .bool false, Value.none] ++ #[]) } (Heap.get?_push_of_some { cls := Value.type "tuple", data := Data.seq [Value.str (Str.ofString msg) s.toks].toArray } he1)
    refine wpAny_bind (wpAny_holding (wpAny_runValue (codeAny_builtin entry_unchain ?_)))
    unfold Builtin.«proto.unchain»
    dsimp only
    refine wpAny_bind (wpAny_field he1' hd1 h21 ?_)
    rw [if_pos (by rfl)]
    refine wpAny_pure ?_
    dsimp only
    have he2 := Heap.get?_push_size (s.heap.push { cls := Value.type "tuple", data := Data.seq [Value.str (Str.ofString msg) s.toks].toArray }) (o := { cls := Value.type "IndexError", data := Data.fields (#[Value.ref s.heap.objs.size, .none, .none, .none, .bool false, Value.none] ++ #[]) }) rfl
    refine wpAny_bind (show wpAny _ _ (setField (.ref _) 2 _) _ _ _ from wpAny_setField he2 rfl (by simp) (wpAny_throw ?_))
    have hsz : (s.heap.push { cls := Value.type "tuple", data := Data.seq [Value.str (Str.ofString msg) s.toks].toArray }).objs.size = s.heap.objs.size + 1 := Heap.size_push ..
    refine h _ _ _ _ (.ref s.heap.objs.size) (fun b o hb => ?_) (Heap.get?_none_of_le (by rw [hsz]; omega)) (Heap.get?_update_self _ he2 (Obj.isFreed_of_fields (Obj.data_mapFields rfl _))) rfl ?_
    · rw [Heap.get?_update_other _ _ ?_]
      · exact Heap.get?_push_of_some _ (Heap.get?_push_of_some _ hb)
      · rw [hsz]
        have := ltN (Heap.lt_size hb)
        exact neN (by omega)
    · rw [hh, Obj.data_mapFields rfl]
      simp
theorem getItem_out {l : Addr} {items : Array Value} {k : Int} {t : Tok} {Q : Value → Shared → Prop} (hh : A.handled = none ∨ ∃ e1 o1 vs1, A.handled = some (.ref e1) ∧ s.heap.get? e1 = some o1 ∧ o1.data = .fields vs1 ∧ vs1[2]? = some .none) (hl : s.heap.IsList l items)
    (hout : (items.size : Int) ≤ k) (hhi : k < 2 ^ 63)
    (h : ∀ h' tk e ob t, (∀ b o, s.heap.get? b = some o → h'.get? b = some o) → s.heap.get? e = none → h'.get? e = some ob → ob.cls = .type "IndexError" →
      ob.data = .fields #[t, .none, A.handled.getD .none, .none, .bool false, .none] → E (.ref e) { s with heap := h', toks := tk }) :
    wpAny (model prog w) A (getItem (.ref l) (.int k t)) Q E s := by
  obtain ⟨o, ho, hc, ne, hd⟩ := id hl
  have hfit := fitsIndex_both (k := k) (by omega) hhi
  clear hhi
  unfold getItem
  try with_reducible refine wpAny_holding ?_
  first | refine wpAny_bind (wpAny_pure ?_) | skip
  refine wpAny_bind (wpAny_sequenceKey hl.typeIs (by decide) ?_)
  refine wpAny_bind (wpAny_callSpecial?_slot (name := Str.ofString "__getitem__") hl.typeIs slot_list_getitem
    (wpAny_call_entry slot_list_getitem hl.typeIs entry_list_getitem ?_ (args_list_getitem _ _)))
  show wpAny _ _ (Builtin.List.listSubscript? (.int k t) >>= _) _ _ s
  refine wpAny_bind (wpAny_listSubscript_int hfit ?_)
  cases k with
  | ofNat j =>
    have hx : items[j]? = none := Array.getElem?_eq_none (by have : (items.size : Int) ≤ (j : Int) := hout; omega)
    show wpAny _ _ ((seqItemAt l j >>= fun r => pure (r.map (j, ·))) >>= _) _ _ s
    refine wpAny_bind (wpAny_bind (wpAny_seqItemAt ho hd (wpAny_pure ?_)))
    rw [hx]
    exact wpAny_bind (wpAny_rule (wpAny_bind (raise_ix (A := A.in1) hh h)))
  | negSucc j => exact absurd hout (by have := Int.negSucc_lt_zero j; omega)
end
end Mine
end

section
open PySem PySem.W PyProof.Rows
set_option maxRecDepth 100000
set_option maxHeartbeats 1000000
namespace Mine
/-- an IndexError's record: its arguments, traceback, context -/
def ExcD (ob : Obj) (t tb ctx : Value) : Prop := ob.cls = .type "IndexError" ∧ ob.data = .fields #[t, tb, ctx, .none, .bool false, .none]
/-- a traceback's record, the flight told -/
def TbD (ob : Obj) (fl : Value) : Prop := ∃ ts, ob.data = .fields ts ∧ 3 < ts.size ∧ ts[3]? = some fl
section
variable {prog : Program} {w : World} {A : Around} {E : Value → Shared → Prop} {s : Shared} {hb : Heap} {L a e : Addr} {m : Str → Option Value} {name : Str} {scope : Scope} {cd : Value} {l : List Env} {frs led : List (Addr × Obj)} {ob : Obj} {t ctx : Value}
theorem note_first {Q : Unit → Shared → Prop} (hfr : A.frames = some (envOf name scope L a cd :: l)) (Fs : TI.Frs l frs) (F : Fr hb L s.heap m) (N : News hb L s.heap (((e, ob) :: led) ++ frs)) (hap : ∀ p ∈ (e, ob) :: led, p.1 ∉ frs.map (·.1)) (hne : ∀ p ∈ led, p.1 ≠ e)
    (hx : ExcD ob t .none ctx)
    (k : ∀ h' T oT ob' frs', TI.SameUp frs frs' → TI.Frs l frs' → Fr hb L h' m → News hb L h' (((T, oT) :: (e, ob') :: led) ++ frs') → ExcD ob' t (.ref T) ctx → TbD oT (rawInt L) → (∀ p ∈ ((e, ob) :: led) ++ frs, p.1 < T) → Q () { s with heap := h' })
    (hk : scope.kind = .function := by rfl) :
    wpAny (model prog w) A (noteFrame (.ref e) (envOf name scope L a cd)) Q E s := by
  have he := (N (e, ob) (.head _)).1
  have hap' : ∀ p ∈ (e, ob) :: led, p.1 ∉ L :: frs.map (·.1) := fun p hp hm => by
    rcases List.mem_cons.mp hm with q | hm
    · exact (N p (List.mem_append_left _ hp)).2.1 q
    · exact hap p hp hm
  obtain ⟨hff, hNs, frs₁, SU, ht⟩ := TI.frames_at (name := name) (a := a) (cd := cd) (h' := s.heap) (base := TI.gone s.heap (L :: frs.map (·.1))) hk Fs F N TI.tail_sub (fun b o hb' => ⟨o.slots, hb'⟩) fun b hm => TI.gone_none hm
  unfold noteFrame
  simp only [show (envOf name scope L a cd).frame = some L from rfl]
  refine wpAny_bind (wpAny_field he hx.2 (x := .none) rfl ?_)
  rw [if_neg (by decide)]
  refine wpAny_bind (wpAny_frameOf_fun hfr hff rfl fun h₁ hs₁ => ?_)
  refine wpAny_bind (wpAny_entryPlaceOf fun pl hpl => ?_)
  unfold EntryCells.newEntry newFields
  refine wpAny_bind (wpAny_newObj_type ?_ (hpl.sizeOk5 _ _ _ _ _))
  rw [TI.frames_are Fs] at hs₁
  have heF := hap' (e, ob) (.head _)
  have he₁ : h₁.get? e = some ob := (hs₁.2.1 e heF).trans he
  have he₂ := Heap.get?_push_of_some (h := h₁) { cls := .type "traceback", dict := none, data := .fields ([Value.none, .ref L, .none, rawInt L, .none] ++ (if pl.isEmpty then List.replicate 6 Value.none else pl)).toArray } he₁
  refine wpAny_setField he₂ hx.2 (by simp) ?_
  have hTe : h₁.objs.size ≠ e := Nat.ne_of_gt (Heap.lt_size he₁)
  have keep : ∀ b o, b ≠ e → h₁.get? b = some o →
      ((h₁.push { cls := .type "traceback", dict := none, data := .fields ([Value.none, .ref L, .none, rawInt L, .none] ++ (if pl.isEmpty then List.replicate 6 Value.none else pl)).toArray }).update e (Obj.mapFields (·.setIfInBounds 1 (Value.ref h₁.objs.size)))).get? b = some o :=
    fun b o hbe hb => by
      rw [Heap.get?_update_other _ _ (Ne.symm hbe)]
      exact Heap.get?_push_of_some _ hb
  have keepO : ∀ b o, b ∉ L :: frs.map (·.1) → b ≠ e → s.heap.get? b = some o → _ := fun b o hbf hbe hb' => keep b o hbe ((hs₁.2.1 b hbf).trans hb')
  have hTlt : ∀ p ∈ ((e, ob) :: led) ++ frs, p.1 < h₁.objs.size := fun p hp => by
    have := Heap.lt_size (N p hp).1
    exact Nat.lt_of_lt_of_le this (Nat.le_of_eq hs₁.1.symm)
  have up : ∀ b o, b ≠ e → s.heap.get? b = some o → ∃ sl, _ := fun b o hbe hb' => let ⟨sl, hsl⟩ := hs₁.2.2 b o hb'; ⟨sl, keep b _ hbe hsl⟩
  have hfe : ∀ p ∈ frs, p.1 ≠ e := fun p hp q => heF (List.mem_cons_of_mem _ (List.mem_map.mpr ⟨p, hp, q⟩))
  obtain ⟨frs₂, SU₂, ht₂⟩ := TI.sameUp_of (h' := (h₁.push { cls := .type "traceback", dict := none, data := .fields ([Value.none, .ref L, .none, rawInt L, .none] ++ (if pl.isEmpty then List.replicate 6 Value.none else pl)).toArray }).update e (Obj.mapFields (·.setIfInBounds 1 (Value.ref h₁.objs.size)))) fun p hp => up p.1 p.2 (hfe p hp) (N p (List.mem_append_right _ hp)).1
  have heL := (N (e, ob) (.head _)).2.1
  have heb := (N (e, ob) (.head _)).2.2
  have hdE : ob.cls = .type "IndexError" ∧ ob.data = .fields #[t, .none, ctx, .none, .bool false, .none] := hx
  have hLlt : L < h₁.objs.size := Nat.lt_of_lt_of_le F.ns.lt (Nat.le_of_eq hs₁.1.symm)
  refine k _ h₁.objs.size { cls := .type "traceback", dict := none, data := .fields ([Value.none, .ref L, .none, rawInt L, .none] ++ (if pl.isEmpty then List.replicate 6 Value.none else pl)).toArray } (ob.mapFields (·.setIfInBounds 1 (Value.ref h₁.objs.size))) frs₂ SU₂ (Fs.up SU₂) ⟨?_, ?_, F.above⟩ ?_ ⟨?_, ?_⟩ ⟨_, rfl, ?_, ?_⟩ hTlt
  · obtain ⟨oL, es, ep, hL, hLd, hLk, hLf⟩ := F.ns
    obtain ⟨sl, hsl⟩ := up L oL (fun q => heL q.symm) hL
    exact ⟨_, es, ep, hsl, hLd, hLk, hLf⟩
  · intro b o hbo
    exact keepO b o (TI.base_apart F N TI.tail_sub hbo) (fun q => by rw [q] at hbo; rw [hbo] at heb; cases heb) (F.keep b o hbo)
  · intro p hp
    rcases List.mem_append.mp hp with hp | hp
    · rcases List.mem_cons.mp hp with rfl | hp
      · refine ⟨?_, Nat.ne_of_gt hLlt, Heap.get?_none_of_le (Nat.le_trans F.above (Nat.le_of_lt hLlt))⟩
        show (Heap.update _ e _).get? h₁.objs.size = _
        rw [Heap.get?_update_other _ _ (Ne.symm hTe)]
        exact Heap.get?_push_size _ rfl
      · rcases List.mem_cons.mp hp with rfl | hp
        · exact ⟨Heap.get?_update_self _ he₂ (Obj.isFreed_of_fields (Obj.data_mapFields hdE.2 _)), heL, heb⟩
        · have z := N p (List.mem_append_left _ (.tail _ hp))
          exact ⟨keepO p.1 p.2 (hap' p (.tail _ hp)) (hne p hp) z.1, z.2⟩
    · obtain ⟨x, hx', q⟩ := SU₂.fwd p hp
      have z := N x (List.mem_append_right _ hx')
      exact ⟨ht₂ p hp, by rw [q]; exact z.2.1, by rw [q]; exact z.2.2⟩
  · exact (Obj.cls_mapFields ..).trans hdE.1
  · rw [Obj.data_mapFields hdE.2]
    simp
  · simp
  · simp
theorem note_again {Q : Unit → Shared → Prop} {oT : Obj} {T : Addr} (N : News hb L s.heap led) (he : (e, ob) ∈ led) (hT : (T, oT) ∈ led) (hx : ExcD ob t (.ref T) ctx) (ht : TbD oT (rawInt L)) (h : Q () s) :
    wpAny (model prog w) A (noteFrame (.ref e) (envOf name scope L a cd)) Q E s := by
  obtain ⟨ts, hd, hsz, h3⟩ := ht
  unfold noteFrame
  simp only [show (envOf name scope L a cd).frame = some L from rfl]
  refine wpAny_bind (wpAny_field (N _ he).1 hx.2 (x := .ref T) rfl ?_)
  rw [if_pos (by rfl)]
  refine wpAny_bind (wpAny_field (N _ hT).1 hd h3 ?_)
  rw [if_pos (by simp)]
  exact wpAny_pure h
theorem set_flight {Q : Unit → Shared → Prop} {oT : Obj} {T : Addr} {fl : Value} (fr : Option Addr) (F : Fr hb L s.heap m) (N : News hb L s.heap ((T, oT) :: led)) (he : (e, ob) ∈ led) (hne : ∀ p ∈ led, p.1 ≠ T) (hx : ExcD ob t (.ref T) ctx) (ht : TbD oT fl)
    (k : ∀ h' oT', Fr hb L h' m → News hb L h' ((T, oT') :: led) → TbD oT' (fr.elim .none fun f => rawInt f) → Q () { s with heap := h' }) :
    wpAny (model prog w) A (setFlight (.ref e) fr) Q E s := by
  obtain ⟨ts, hd, hsz, h3⟩ := ht
  have hT := N (T, oT) (.head _)
  unfold setFlight
  refine wpAny_bind (wpAny_field (N _ (.tail _ he)).1 hx.2 (x := .ref T) rfl ?_)
  rw [if_pos (by rfl)]
  refine wpAny_setField hT.1 hd hsz ?_
  refine k _ (oT.mapFields (·.setIfInBounds 3 (fr.elim .none fun f => rawInt f))) (F.change (Heap.SameBut.update ..) hT.2.1 hT.2.2) (fun p hp => ?_) ⟨_, Obj.data_mapFields hd _, by simpa using hsz, by simp [hsz]⟩
  rcases List.mem_cons.mp hp with rfl | hp
  · exact ⟨Heap.get?_update_self _ hT.1 (Obj.isFreed_of_fields (Obj.data_mapFields hd _)), hT.2⟩
  · have z := N p (.tail _ hp)
    refine ⟨?_, z.2⟩
    show (Heap.update _ T _).get? p.1 = _
    rw [Heap.get?_update_other _ _ (Ne.symm (hne p hp))]
    exact z.1
theorem pass_on {α : Type} {what : String} {Q : α → Shared → Prop} {oT : Obj} {T : Addr} {fl : Value} (F : Fr hb L s.heap m) (N : News hb L s.heap ((T, oT) :: led)) (he : (e, ob) ∈ led) (hne : ∀ p ∈ led, p.1 ≠ T) (hx : ExcD ob t (.ref T) ctx) (ht : TbD oT fl)
    (k : ∀ h' oT', Fr hb L h' m → News hb L h' ((T, oT') :: led) → TbD oT' (rawInt L) → E (.ref e) { s with heap := h' }) :
    wpAny (model prog w) A (PySem.passOn what (.ref e) (envOf name scope L a cd) : Sem α) Q E s := by
  unfold PySem.passOn
  refine wpAny_bind (wpAny_field (N _ (.tail _ he)).1 hx.2 (x := .ref T) rfl ?_)
  rw [if_neg (by simp)]
  refine wpAny_bind (set_flight (some L) F N he hne hx ht fun h' oT' F' N' ht' => ?_)
  exact wpAny_throw (k h' oT' F' N' ht')
theorem handle_ix {K : Frag} {p : Program} {loose : List Str} {mean : ExcName → Option Value} {mg mb : Str → Option Value} {np pos : Pos} {b₀ : Stmt} {suite : List Stmt} {rest : List ExceptHandler} {Q : Flow → Shared → Prop} {oT : Obj} {T : Addr} {fl : Value}
    (F : Fr hb L s.heap m) (X : K.In hb) (TT : Top p loose mean mg mb hb) (hns : nsIn K mainGlobals (Str.ofString "IndexError") = some none) (N : News hb L s.heap ((T, oT) :: led)) (he : (e, ob) ∈ led) (hne : ∀ p ∈ led, p.1 ≠ T) (hx : ExcD ob t (.ref T) ctx) (ht : TbD oT fl)
    (k : ∀ h' oT', Fr hb L h' m → News hb L h' ((T, oT') :: led) → TbD oT' .none →
      wpAny (model prog w) (A.mark (some (.ref e))) (execs (b₀ :: suite) (envOf name scope L a cd)) Q (notedBy (model prog w) (A.mark (some (.ref e))) (envOf name scope L a cd) (cameBackBy (model prog w) A (envOf name scope L a cd) E)) { s with heap := h' })
    (hk : scope.kind = .function) (hxk : (envOf name scope L a cd).kindOf (Str.ofString "IndexError") = some .globalImplicit) :
    wpAny (model prog w) A (handleBy (.ref e) (envOf name scope L a cd) (.ExceptHandler (some (.Name (Str.ofString "IndexError") np)) none (b₀ :: suite) pos :: rest)) Q E s := by
  refine wpAny_handleBy_builtin (X := "IndexError") (T := "IndexError") (b := true) PySem.F.isExc_IndexError PySem.F.notTuple_IndexError PySem.F.self_IndexError ?_
  refine nameX_B (cl := []) F X (topRead_of TT) hns PyProof.Rows.Boot.«IndexError» (by decide) ⟨rfl, ⟨ob, (N _ (.tail _ he)).1, hx.1⟩, ?_⟩ hk hxk
  rw [if_pos rfl]
  exact set_flight none F N he hne hx ht fun h' oT' F' N' ht' => k h' oT' F' N' ht'
end
/-- a def entered so that the caller's frame lies in the ledger -/
theorem code_defF {prog : Program} {w : World} {A : Around} {s : Shared} {h₀ : Heap} {L : Addr} {m : Str → Option Value} {env : Env} {news : List (Addr × Obj)} {K : Frag} {p : Program} {loose : List Str} {mean : ExcName → Option Value} {mg mb : Str → Option Value}
    {R : Result → Shared → Prop} {name qual : Str} {params : Arguments} {body : List Stmt} {scope : Scope} {dV kV doc pm cdv ct oc : Value} {an od : Option Addr} {osl : Array (Option Value)} {f : Addr} {args : Args} {binds : List (Str × Value)}
    (F : Fr h₀ L s.heap m) (X₀ : K.In h₀) (N : News h₀ L s.heap news) (T : Top p loose mean mg mb h₀) (hf : env.frame = some L) (hck : env.scope.kind = .function)
    (ho : K.lookup f = some ⟨oc, od, .func (fnOf name qual params body scope dV kV doc pm an cdv ct), osl⟩) (hcd : codeIn K cdv qual = true) (hroom : A.depth < recursionLimit)
    (hbind : BindsTo s (fnOf name qual params body scope dV kV doc pm an cdv ct) args binds) (hloc : ∀ y ∈ binds, scope.names.lookup y.1 = some .local)
    (h : ∀ oL L' h₁, TI.Caller h₀ L m oL → TI.Frs [env] [(L, oL)] → Fr h₀ L' h₁ (fun y => binds.reverse.lookup y) → News h₀ L' h₁ (news ++ [(L, oL)]) → L < L' → (∀ p ∈ news, p.1 < L') →
      wpAny (model prog w) (A.deeper (envOf qual scope L' f cdv)) (execs body (envOf qual scope L' f cdv))
        (fun fl s' => R (.ok (.ret (match fl with | .ret v => v | _ => .none))) s')
        (fun e s' => wpAny (model prog w) (A.deeper (envOf qual scope L' f cdv)) (leaving (envOf qual scope L' f cdv) e) (fun _ s'' => R (.error e) s'') (fun e' s'' => R (.error e') s'') s')
        { s with heap := h₁, toks := s.toks + binds.length })
    (hco : scope.isCoroutine = false := by rfl) (hgen : scope.isGenerator = false := by rfl) (hk : scope.kind = .function := by rfl)
    (hcell : ∀ x ∈ scope.names, x.2 ≠ .cell := by decide) : codeAny (model prog w) A (.call (.ref f) args) R s := by
  have X := X₀.keeps F.keep
  obtain ⟨oL, es, ep, hL, hLd, hLk, hLf⟩ := F.ns
  have hLt := Heap.lt_size hL
  have hkind : env.scope.kind ≠ .module := by rw [hck]; decide
  refine codeAny_call_def (fd := fnOf name qual params body scope dV kV doc pm an cdv ct) (body := body) (binds := binds) hroom (X _ _ ho) rfl (T.nolimit.keeps F.keep) (codeRec_of X hcd) rfl hbind hcell hloc (fun h₁ hns hk₁ => ?_) hco hgen hk
  refine h oL s.heap.objs.size h₁ ⟨fun h' sl e => ⟨_, es, ep, e, hLd, hLk, hLf⟩, ⟨es, ep, hLd⟩, F.above⟩ ⟨hkind, hf, ⟨es, ep, hLd⟩, trivial⟩
    ⟨hns, fun b o e => hk₁ b o (F.keep b o e), Nat.le_trans F.above (Nat.le_of_lt hLt)⟩ (fun p hp => ?_) hLt fun p hp => Heap.lt_size (N p hp).1
  rcases List.mem_append.mp hp with hp | hp
  · obtain ⟨h1, h2, h3⟩ := N p hp
    exact ⟨hk₁ _ _ h1, Nat.ne_of_lt (Heap.lt_size h1), h3⟩
  · rw [List.mem_singleton.mp hp]
    exact ⟨hk₁ _ _ hL, Nat.ne_of_lt hLt, Heap.get?_none_of_le F.above⟩
theorem leave_F {h₀ h' : Heap} {L L' : Addr} {m m' : Str → Option Value} {oL : Obj} {new : List (Addr × Obj)} {sl : Array (Option Value)} (C : TI.Caller h₀ L m oL) (F' : Fr h₀ L' h' m') (N' : News h₀ L' h' (new ++ [(L, { oL with slots := sl })])) (hne : ∀ p ∈ new, p.1 ≠ L) :
    Fr h₀ L h' m ∧ News h₀ L h' new := by
  have hL := (N' _ (List.mem_append_right _ List.mem_cons_self)).1
  refine ⟨⟨C.ns _ sl hL, F'.keep, C.above⟩, fun p hp => ?_⟩
  obtain ⟨x1, _, x3⟩ := N' p (List.mem_append_left _ hp)
  exact ⟨x1, hne p hp, x3⟩
end Mine
end

section
open PySem PySem.W PyProof.Rows
set_option maxRecDepth 100000
set_option maxHeartbeats 1000000
namespace Mine
section
variable {prog : Program} {w : World} {A : Around} {E : Value → Shared → Prop} {s : Shared} {hb : Heap} {L a e : Addr} {m : Str → Option Value} {name : Str} {scope : Scope} {cd : Value} {l : List Env} {frs led : List (Addr × Obj)} {ob : Obj} {t ctx : Value} {env : Env}
/-- one turn of a while that may raise -/
theorem whl_turnE {test : PySem.Expr} {body orelse : List Stmt} {Q : Flow → Shared → Prop} {k : Nat}
    (h : wpAny (model prog w) A (isTrue test env (eval test env)) (fun b s₂ => WhlIf b (wpAny (model prog w) A (execs body env) (WhlPost prog w A E env test body orelse Q k) (notedBy (model prog w) A env (cameBackBy (model prog w) A env E)) s₂)
      (wpAny (model prog w) A (execs orelse env) Q (notedBy (model prog w) A env (cameBackBy (model prog w) A env E)) s₂)) (notedBy (model prog w) A env (cameBackBy (model prog w) A env E)) s) :
    WhlRest prog w A E env test body orelse Q (k + 1) s := by
  refine codeAny_of_tree ?_
  show wpAny _ A ((whileTurn test body orelse env).onRaise (fun x => do noteFrame x env; theTreesLotGoes x)) _ _ s
  refine wpAny_noted ?_
  simp only [whileTurn]
  refine wpAny_bind (wpAny_mono h (fun b s₂ h₂ => ?_) fun _ _ x => x)
  cases b with
  | false =>
    unfold WhlIf at h₂
    rw [if_neg Bool.false_ne_true] at h₂
    simp only [Bool.false_eq_true, if_false]
    exact wpAny_bind (wpAny_mono h₂ (fun f s₃ h₄ => wpAny_pure h₄) fun _ _ x => x)
  | true =>
    unfold WhlIf at h₂
    rw [if_pos rfl] at h₂
    simp only [if_true]
    refine wpAny_bind (wpAny_mono h₂ (fun f s₃ h₄ => ?_) fun _ _ x => x)
    cases f with
    | next => exact wpAny_pure ⟨rfl, h₄⟩
    | cont => exact wpAny_pure ⟨rfl, h₄⟩
    | brk => exact wpAny_pure h₄
    | ret v => exact wpAny_pure h₄
/-- a read past a list's end -/
theorem item_out {lst : Addr} {vs : List Value} {n : Nat} {k : Int} {u : Tok} {value slice : PySem.Expr} {news : List (Addr × Obj)} {Q : Value → Shared → Prop} (F : Fr hb L s.heap m) (N : News hb L s.heap news) (hm : (lst, listOf vs.toArray n) ∈ news)
    (hh : A.handled = none ∨ ∃ e1 o1 t tb, A.handled = some (.ref e1) ∧ (e1, o1) ∈ news ∧ ExcD o1 t tb .none)
    (hout : (vs.length : Int) ≤ k) (hhi : k < 2 ^ 63)
    (h : ∀ h' tk e ob t, Fr hb L h' m → News hb L h' ((e, ob) :: news) → (∀ p ∈ news, p.1 ≠ e) → ExcD ob t .none (A.handled.getD .none) → E (.ref e) { s with heap := h', toks := tk })
    (hs : subscripted slice false (.ref lst) (.int k u) = operate [.ref lst, .int k u] (getItem (.ref lst) (.int k u)) := by with_unfolding_all rfl) :
    wpAny (model prog w) A (subscriptTail value slice (.ref lst) (.int k u)) Q E s := by
  have hl : s.heap.IsList lst vs.toArray := ⟨_, (N _ hm).1, rfl, _, rfl⟩
  refine tail_any hl.typeIs slot_list_getitem.lookup (getItem_out ?_ hl (by simpa using hout) hhi fun h' tk e ob t hk hn he hc hd => ?_) hs
  · rcases hh with hh | ⟨e1, o1, t, tb, h1, h2, h3⟩
    · exact .inl hh
    · exact .inr ⟨e1, o1, _, h1, (N _ h2).1, h3.2, rfl⟩
  · have hne : ∀ b o, s.heap.get? b = some o → b ≠ e := fun b o hb q => by rw [q, hn] at hb; cases hb
    obtain ⟨oL, es, ep, hL, hr⟩ := id F.ns
    refine h h' tk e ob t (F.keeps hk) (fun p hp => ?_) (fun p hp => hne _ _ (N p hp).1) ⟨hc, hd⟩
    rcases List.mem_cons.mp hp with rfl | hp
    · refine ⟨he, (hne _ _ hL).symm, ?_⟩
      cases hq : hb.get? e with
      | none => rfl
      | some o => exact absurd rfl (hne _ _ (F.keep _ _ hq))
    · obtain ⟨z1, z2⟩ := N p hp
      exact ⟨hk _ _ z1, z2⟩
/-- a new exception is noted; the frame below it lies in the ledger -/
theorem note_one {Q : Unit → Shared → Prop} {L0 : Addr} {oL : Obj} {sl : Array (Option Value)} {en : Env} (hfr : A.frames = some [envOf name scope L a cd, en]) (Fs : TI.Frs [en] [(L0, oL)]) (F : Fr hb L s.heap m) (N : News hb L s.heap (((e, ob) :: led) ++ [(L0, { oL with slots := sl })])) (hap : ∀ p ∈ (e, ob) :: led, p.1 ≠ L0) (hne : ∀ p ∈ led, p.1 ≠ e)
    (hx : ExcD ob t .none ctx)
    (k : ∀ h' T oT ob' sl', Fr hb L h' m → News hb L h' (((T, oT) :: (e, ob') :: led) ++ [(L0, { oL with slots := sl' })]) → ExcD ob' t (.ref T) ctx → TbD oT (rawInt L) → (∀ p ∈ ((e, ob') :: led), p.1 < T) → L0 < T → Q () { s with heap := h' })
    (hk : scope.kind = .function := by rfl) :
    wpAny (model prog w) A (noteFrame (.ref e) (envOf name scope L a cd)) Q E s := by
  have Fs' : TI.Frs [en] [(L0, { oL with slots := sl })] := ⟨Fs.1, Fs.2.1, Fs.2.2.1, trivial⟩
  refine note_first hfr Fs' F N (fun p hp => by simpa using hap p hp) hne hx (fun h' T oT ob' frs' SU Fs2 F' N' hx' ht hlt => ?_) hk
  obtain ⟨sl', rfl⟩ : ∃ sl', frs' = [(L0, { oL with slots := sl' })] := by
    cases frs' with
    | nil => exact False.elim SU
    | cons q qs =>
      cases qs with
      | nil =>
        obtain ⟨h1, ⟨sl2, h2⟩, _⟩ := SU
        exact ⟨sl2, by rw [show q = (q.1, q.2) from rfl]; rw [show q.1 = L0 from h1, show q.2 = { oL with slots := sl2 } from h2]⟩
      | cons _ _ => exact False.elim SU.2.2
  refine k h' T oT ob' sl' F' N' hx' ht (fun p hp => ?_) (hlt (L0, { oL with slots := sl }) (List.mem_append_right _ (.head _)))
  rcases List.mem_cons.mp hp with rfl | hp
  · exact hlt (e, ob) (.head _)
  · exact hlt p (.tail _ (List.mem_append_left _ hp))
/-- an exception comes back to its own frame -/
theorem came_back {oT : Obj} {T : Addr} {fl : Value} (F : Fr hb L s.heap m) (N : News hb L s.heap ((T, oT) :: led)) (he : (e, ob) ∈ led) (hne : ∀ p ∈ led, p.1 ≠ T) (hx : ExcD ob t (.ref T) ctx) (ht : TbD oT fl)
    (k : ∀ h' oT', Fr hb L h' m → News hb L h' ((T, oT') :: led) → TbD oT' (rawInt L) → E (.ref e) { s with heap := h' }) :
    cameBackBy (model prog w) A (envOf name scope L a cd) E (.ref e) s := by
  unfold cameBackBy
  refine wpAny_bind (wpAny_field (N _ (.tail _ he)).1 hx.2 (x := .ref T) rfl ?_)
  rw [if_neg (by simp)]
  exact set_flight (some L) F N he hne hx ht fun h' oT' F' N' ht' => k h' oT' F' N' ht'
/-- an exception on its way through a frame: new, or noted there -/
def Flying (hb : Heap) (L L0 : Addr) (oL : Obj) (led : List (Addr × Obj)) (ctx : Value) (e : Addr) (h : Heap) : Prop :=
  (∃ ob t sl, News hb L h (((e, ob) :: led) ++ [(L0, { oL with slots := sl })]) ∧ (∀ p ∈ (e, ob) :: led, p.1 ≠ L0) ∧ (∀ p ∈ led, p.1 ≠ e) ∧ ExcD ob t .none ctx) ∨
  ∃ T oT ob t sl, News hb L h ((T, oT) :: (((e, ob) :: led) ++ [(L0, { oL with slots := sl })])) ∧ (∀ p ∈ (T, oT) :: (e, ob) :: led, p.1 ≠ L0) ∧ (∀ p ∈ led, p.1 ≠ e) ∧ (∀ p ∈ ((e, ob) :: led) ++ [(L0, { oL with slots := sl })], p.1 ≠ T) ∧ ExcD ob t (.ref T) ctx ∧ TbD oT (rawInt L)
theorem Flying.sub {hb h : Heap} {L L0 e : Addr} {oL : Obj} {led led' : List (Addr × Obj)} {ctx : Value} (H : Flying hb L L0 oL led ctx e h) (hs : ∀ p ∈ led', p ∈ led) : Flying hb L L0 oL led' ctx e h := by
  rcases H with ⟨ob, t, sl, N, h1, h2, h3⟩ | ⟨T, oT, ob, t, sl, N, h1, h2, h4, h3, h5⟩
  · refine .inl ⟨ob, t, sl, News.sub N fun q hq => ?_, fun p hp => h1 p ?_, fun p hp => h2 p (hs p hp), h3⟩
    · rcases List.mem_append.mp hq with hq | hq
      · rcases List.mem_cons.mp hq with hq | hq
        · exact List.mem_append_left _ (List.mem_cons.mpr (.inl hq))
        · exact List.mem_append_left _ (.tail _ (hs q hq))
      · exact List.mem_append_right _ hq
    · rcases List.mem_cons.mp hp with hp | hp
      · exact List.mem_cons.mpr (.inl hp)
      · exact .tail _ (hs p hp)
  · have hsub : ∀ q ∈ ((e, ob) :: led') ++ [(L0, { oL with slots := sl })], q ∈ ((e, ob) :: led) ++ [(L0, { oL with slots := sl })] := fun q hq => by
      rcases List.mem_append.mp hq with hq | hq
      · rcases List.mem_cons.mp hq with hq | hq
        · exact List.mem_append_left _ (List.mem_cons.mpr (.inl hq))
        · exact List.mem_append_left _ (.tail _ (hs q hq))
      · exact List.mem_append_right _ hq
    refine .inr ⟨T, oT, ob, t, sl, News.sub N fun q hq => ?_, fun p hp => h1 p ?_, fun p hp => h2 p (hs p hp), fun p hp => h4 p (hsub p hp), h3, h5⟩
    · rcases List.mem_cons.mp hq with hq | hq
      · exact List.mem_cons.mpr (.inl hq)
      · exact .tail _ (hsub q hq)
    · rcases List.mem_cons.mp hp with hp | hp
      · exact List.mem_cons.mpr (.inl hp)
      · rcases List.mem_cons.mp hp with hp | hp
        · exact .tail _ (List.mem_cons.mpr (.inl hp))
        · exact .tail _ (.tail _ (hs p hp))
/-- an exception is noted at the frame, be it new or not -/
theorem note_fly {Q : Unit → Shared → Prop} {L0 : Addr} {oL : Obj} {en : Env} (hfr : A.frames = some [envOf name scope L a cd, en]) (Fs : TI.Frs [en] [(L0, oL)]) (F : Fr hb L s.heap m) (H : Flying hb L L0 oL led ctx e s.heap)
    (k : ∀ h' T oT ob t sl, Fr hb L h' m → News hb L h' ((T, oT) :: (((e, ob) :: led) ++ [(L0, { oL with slots := sl })])) → (∀ p ∈ (T, oT) :: (e, ob) :: led, p.1 ≠ L0) → (∀ p ∈ led, p.1 ≠ e) → (∀ p ∈ ((e, ob) :: led) ++ [(L0, { oL with slots := sl })], p.1 ≠ T) → ExcD ob t (.ref T) ctx → TbD oT (rawInt L) → Q () { s with heap := h' })
    (hk : scope.kind = .function := by rfl) :
    wpAny (model prog w) A (noteFrame (.ref e) (envOf name scope L a cd)) Q E s := by
  rcases H with ⟨ob, t, sl, N, h1, h2, h3⟩ | ⟨T, oT, ob, t, sl, N, h1, h2, h4, h3, h5⟩
  · refine note_one hfr Fs F N h1 h2 h3 (fun h' T oT ob' sl' F' N' hx ht hlt hL0 => ?_) hk
    refine k h' T oT ob' t sl' F' N' (fun p hp => ?_) h2 (fun p hp => ?_) hx ht
    · rcases List.mem_cons.mp hp with rfl | hp
      · exact Nat.ne_of_gt hL0
      · rcases List.mem_cons.mp hp with rfl | hp
        · exact h1 (e, ob) (.head _)
        · exact h1 p (.tail _ hp)
    · rcases List.mem_append.mp hp with hp | hp
      · exact Nat.ne_of_lt (hlt p hp)
      · rw [List.mem_singleton.mp hp]
        exact Nat.ne_of_lt hL0
  · exact note_again N (.tail _ (.head _)) (.head _) h3 h5 (k s.heap T oT ob t sl F N h1 h2 h4 h3 h5)
/-- an exception passes an own activation of its frame -/
theorem own_fly {L0 : Addr} {oL : Obj} {en : Env} {A' : Around} (hfr : A.frames = some [envOf name scope L a cd, en]) (Fs : TI.Frs [en] [(L0, oL)]) (F : Fr hb L s.heap m) (H : Flying hb L L0 oL led ctx e s.heap)
    (k : ∀ h', Fr hb L h' m → Flying hb L L0 oL led ctx e h' → E (.ref e) { s with heap := h' }) (hk : scope.kind = .function := by rfl) :
    notedBy (model prog w) A (envOf name scope L a cd) (cameBackBy (model prog w) A' (envOf name scope L a cd) E) (.ref e) s := by
  unfold notedBy
  refine note_fly hfr Fs F H (fun h' T oT ob t sl F' N' h1 h2 h3 hx ht => ?_) hk
  exact came_back (s := { s with heap := h' }) F' N' (.head _) h3 hx ht fun h2' oT' F2 N2 ht2 => k h2' F2 (.inr ⟨T, oT', ob, t, sl, N2, fun p hp => by
    rcases List.mem_cons.mp hp with rfl | hp
    · exact h1 (T, oT) (.head _)
    · exact h1 p (.tail _ hp), h2, h3, hx, ht2⟩)
theorem item_fly {lst L0 : Addr} {oL : Obj} {sl : Array (Option Value)} {vs : List Value} {n : Nat} {k : Int} {u : Tok} {value slice : PySem.Expr} {Q : Value → Shared → Prop} (F : Fr hb L s.heap m) (N : News hb L s.heap (led ++ [(L0, { oL with slots := sl })])) (hap : ∀ p ∈ led, p.1 ≠ L0) (hm : (lst, listOf vs.toArray n) ∈ led)
    (hh : A.handled = none ∨ ∃ e1 o1 t tb, A.handled = some (.ref e1) ∧ (e1, o1) ∈ led ∧ ExcD o1 t tb .none)
    (hout : (vs.length : Int) ≤ k) (hhi : k < 2 ^ 63)
    (h : ∀ h' tk e, Fr hb L h' m → Flying hb L L0 oL led (A.handled.getD .none) e h' → E (.ref e) { s with heap := h', toks := tk })
    (hs : subscripted slice false (.ref lst) (.int k u) = operate [.ref lst, .int k u] (getItem (.ref lst) (.int k u)) := by with_unfolding_all rfl) :
    wpAny (model prog w) A (subscriptTail value slice (.ref lst) (.int k u)) Q E s := by
  refine item_out F N (List.mem_append_left _ hm) ?_ hout hhi (fun h' tk e ob t F' N' hne hx => h h' tk e F' (.inl ⟨ob, t, sl, N', fun p hp => ?_, fun p hp => hne p (List.mem_append_left _ hp), hx⟩)) hs
  · rcases hh with hh | ⟨e1, o1, t, tb, h1, h2, h3⟩
    · exact .inl hh
    · exact .inr ⟨e1, o1, t, tb, h1, List.mem_append_left _ h2, h3⟩
  · rcases List.mem_cons.mp hp with rfl | hp
    · exact (hne (L0, { oL with slots := sl }) (List.mem_append_right _ (.head _))).symm
    · exact hap p hp
/-- a list made longer by another list's items -/
theorem extend_led {D b : Addr} {vs vs2 : List Value} {n n2 : Nat} {news : List (Addr × Obj)} {news' : Nat → List (Addr × Obj)} {Q : Value → Shared → Prop} (F : Fr hb L s.heap m) (N : News hb L s.heap news) (hb2 : (b, listOf vs2.toArray n2) ∈ news)
    (U : ∀ k, Upd D (listOf vs.toArray n) (listOf (vs ++ vs2).toArray k) news (news' k)) (hz : vs.length + vs2.length ≤ 300)
    (h : ∀ h' k, Fr hb L h' m → News hb L h' (news' k) → Q .none { s with heap := h' }) : wpAny (model prog w) A (call (.builtin "list.extend") [.ref D, .ref b]) Q E s := by
  have hne : ¬ (!vs.toArray.isEmpty && Builtin.List.listTooLong (vs.toArray.size + vs2.toArray.size)) = true := by
    have : Builtin.List.listTooLong (vs.toArray.size + vs2.toArray.size) = false := by
      simp only [Builtin.List.listTooLong, List.size_toArray, sizeLine_eq, decide_eq_false_iff_not]
      omega
    rw [this, Bool.and_false]
    exact Bool.false_ne_true
  have h1 : vs.toArray.toList.length ≤ sizeLine := by rw [sizeLine_eq]; show vs.length ≤ _; omega
  have h2 : vs.toArray.size + vs2.toArray.size ≤ sizeLine + 1 := by rw [sizeLine_eq, List.size_toArray, List.size_toArray]; omega
  cases vs2 with
  | nil => exact kxn_extend F N hb2 rfl (by have := U n; rw [List.append_nil] at this; exact this) hne h1 h2 fun h' F' N' => h h' n F' N'
  | cons v vs2 => exact kl_extend F N hb2 rfl (by simp) (U (n + 1)) hne h1 h2 fun h' F' N' => h h' (n + 1) F' N'
theorem slice_led {lst : Addr} {vs : List Value} {n k : Nat} {tk : Tok} {ns : List Int} {news : List (Addr × Obj)} {value slice : PySem.Expr} {Q : Value → Shared → Prop} (F : Fr hb L s.heap m) (N : News hb L s.heap news) (hm : (lst, listOf vs.toArray n) ∈ news) (hI : IntsAre vs ns) (hz : ns.length ≤ 300)
    (h : ∀ D ws h', Fr hb L h' m → News hb L h' ((D, listOf (List.toArray ws) 0) :: news) → (∀ p ∈ news, p.1 < D) → IntsAre ws (ns.drop k) → Q (.ref D) { s with heap := h' })
    (hs : subscripted slice false (.ref lst) (.ref s.heap.objs.size) = operate [.ref s.heap.objs.size, .ref lst] (getItem (.ref lst) (.ref s.heap.objs.size)) := by with_unfolding_all rfl)
    (ht : ∀ r, letTemporaryGo value (.ref lst) r = pure () := by intro _; with_unfolding_all rfl) :
    wpAny (model prog w) A (subscriptTail value slice (.ref lst) (.ref s.heap.objs.size)) Q E { s with heap := s.heap.push { cls := .type "slice", data := .fields #[.int (k : Int) tk, .none, .none] } } := by
  have hl : s.heap.IsList lst vs.toArray := ⟨_, (N _ hm).1, rfl, _, rfl⟩
  refine kmk_slice_ints F N hl (IsPart.int _ _) IsPart.none hI (kmk_from hI (Int.natCast_nonneg k)) rfl (fun D ws h' F' N' l1 hI' _ _ => h D ws h' F' N' l1 hI') hs ht ?_
  rw [List.size_toArray, hI.length, sizeLine_eq]
  omega
end
end Mine
end

section
open PySem PySem.W PyProof.Rows
set_option maxRecDepth 100000
set_option maxHeartbeats 1000000
namespace Mine
local macro_rules | `(tactic| omega) => `(tactic| first | lia | omega +splitNatSub)
/-- a contract of a def that the law itself calls -/
def SpecT (f : Addr) (args : List Value) (dpth : Nat) (news : List (Addr × Obj)) (post : Value → List (Addr × Obj) → Prop) : Prop :=
  ∀ (prog : Program) (w : World) (p : Program) (loose : List Str) (mean : ExcName → Option Value) (mg mb : Str → Option Value) (dp un : Nat) (gd : Option (List Code)) (cn : Str) (cs : Scope) (a : Addr) (ccd : Value) (cl : List (Str × Addr)) (h₀ : Heap) (L : Addr) (m : Str → Option Value) (s : Shared)
    (Q E : Value → Shared → Prop),
    Fr h₀ L s.heap m → (hd.heap_39 w.params).In h₀ → News h₀ L s.heap news → Top p loose mean mg mb h₀ → cs.kind = .function → dp + dpth < 600 → un + 8 * dpth < 2000 →
    (∀ r news' h' tk', Fr h₀ L h' m → News h₀ L h' news' → post r news' → Q r { s with heap := h', toks := tk' }) →
    wpAny (model prog w) (ktrTop dp un gd cn cs L a ccd cl []) (call (.ref f) args) Q E s
local macro_rules | `(tactic| walk_at $k:str) => if ["call ref", "exec While Compare cons nil", "exec While Constant cons nil", "subscriptTail Name Name ref int", "subscriptTail Name Slice ref ref", "call builtin:list.append", "call builtin:list.extend"].contains k.getString then `(tactic| (k_here; refine stop ?_)) else Lean.Macro.throwUnsupported
local macro_rules | `(tactic| walk_at $k:str) => if ["exec Try", "WhlRest", "WhlIf"].contains k.getString then `(tactic| (refine stop ?_)) else Lean.Macro.throwUnsupported
local macro_rules | `(tactic| walk_at "ite") => `(tactic| first | (refine PySem.W.ite_pos (by simp only [decide_eq_true_eq, beq_iff_eq, bne_iff_ne, ne_eq]; omega) ?_) | (refine PySem.W.ite_neg (by simp only [decide_eq_true_eq, beq_iff_eq, bne_iff_ne, ne_eq]; omega) ?_))
local macro_rules | `(tactic| walk_at "eval Name") => `(tactic| (k_here; k_dflt (refine' ld ?k1 ?k2 ?_; (case k1 => k_asm); (case k2 => assumption); k_whole)))
local macro_rules | `(tactic| walk_at "loadName") => `(tactic| (k_here; k_dflt (refine' ldn ?k1 ?k2 ?_; (case k1 => k_asm); (case k2 => assumption); k_whole)))
theorem subS {n i : Nat} (h : i < n) : n - (i + 1) + 1 = n - i := Nat.succ_pred_eq_of_pos (Nat.sub_pos_of_lt h)
theorem stepL {n i r : Nat} (h : i < n) : n - (i + 1) + r + 1 = n - i + r := by rw [Nat.add_right_comm, subS h]
theorem stepR {m j l : Nat} (h : j < m) : l + (m - (j + 1)) + 1 = l + (m - j) := by rw [Nat.add_assoc, subS h]
theorem subL {n i r g : Nat} (h1 : i < n) (h : n - i + r ≤ g + 1) : n - (i + 1) + r ≤ g := Nat.le_of_succ_le_succ (Nat.le_trans (Nat.le_of_eq (stepL h1)) h)
theorem subR {m j l g : Nat} (h1 : j < m) (h : l + (m - j) ≤ g + 1) : l + (m - (j + 1)) ≤ g := Nat.le_of_succ_le_succ (Nat.le_trans (Nat.le_of_eq (stepR h1)) h)
theorem subB {n i m j g : Nat} (h1 : i < n) (h : n - i + (m - j) ≤ g + 1) : n - (i + 1) + (m - (j + 1)) ≤ g := Nat.le_trans (Nat.add_le_add_left (Nat.sub_le_sub_left (Nat.le_succ j) m) _) (subL h1 h)
theorem ltL' {n i r g : Nat} (h1 : i < n) (h : n - i + r < g + 1) : n - (i + 1) + r < g := Nat.lt_of_succ_lt_succ (Nat.lt_of_le_of_lt (Nat.le_of_eq (stepL h1)) h)
theorem ltR' {m j l g : Nat} (h1 : j < m) (h : l + (m - j) < g + 1) : l + (m - (j + 1)) < g := Nat.lt_of_succ_lt_succ (Nat.lt_of_le_of_lt (Nat.le_of_eq (stepR h1)) h)
theorem ltB' {n i m j g : Nat} (h1 : i < n) (h : n - i + (m - j) < g + 1) : n - (i + 1) + (m - (j + 1)) < g := Nat.lt_of_le_of_lt (Nat.add_le_add_left (Nat.sub_le_sub_left (Nat.le_succ j) m) _) (ltL' h1 h)
theorem sldL (g : Nat) (ys : List Int) : sld g [] ys = ([], ys) := by cases g <;> rfl
theorem sldR (g : Nat) (xs : List Int) : sld g xs [] = (xs, []) := by
  cases g with
  | zero => rfl
  | succ g => cases xs <;> rfl
theorem sld_spec {ex ac : Addr} {we wa : List Value} {n1 n2 : Nat} {xs ys : List Int} {rest : List (Addr × Obj)} (hE : (ex, listOf we.toArray n1) ∈ rest) (hA : (ac, listOf wa.toArray n2) ∈ rest) (hIe : IntsAre we xs) (hIa : IntsAre wa ys)
    (hsx : xs.Pairwise (· < ·)) (hsy : ys.Pairwise (· < ·)) (hlx : xs.length ≤ 100) (hly : ys.length ≤ 100) :
    SpecT 21 [.ref ex, .ref ac] 5 rest (fun r news' => ∃ t mi un wm wu k1 k2, r = .ref t ∧ news' = (t, tupOf [.ref mi, .ref un] 0) :: (mi, listOf wm k1) :: (un, listOf wu k2) :: rest ∧
      IntsAre wm.toList (sld (xs.length + ys.length) xs ys).1 ∧ IntsAre wu.toList (sld (xs.length + ys.length) xs ys).2 ∧ (∀ p ∈ rest, p.1 < t ∧ p.1 < mi ∧ p.1 < un) ∧ mi < t ∧ un < t ∧ mi ≠ un) := by
  unfold SpecT
  intro prog w p loose mean mg mb dp un gd cn cs a ccd cl h₀ L m s Q E F X N T hk hd hu hret
  refine wpAny_call ?_
  k_dflt (refine' code_defF (env := envX cn cs L a ccd cl) F X N T rfl hk ?k6 ?k7 ?k8 ?k9 ?kB ?_ ?c2 ?c3 ?c4 ?c5; (case k6 => k_is); (case k7 => k_is); (case k8 => ktr_room); (case k9 => exact BindsTo.of_eq rfl); (case c5 => decide); (case kB => exact locs rfl); (case c2 => exact rfl); (case c3 => exact rfl); (case c4 => exact rfl); k_whole)
  intro oL L1 h1 C Fs F1 N1 hLL lrest
  dsimp only
  k_fold
  have hneL : ∀ p ∈ rest, p.1 ≠ L := fun p hp => (N p hp).2.1
  have fin : ∀ h tk m2 D mi uq wm wu k1 k2 sl, Fr h₀ L1 h m2 → News h₀ L1 h ((D, tupOf [.ref mi, .ref uq] 0) :: (uq, listOf wu k2) :: (mi, listOf wm k1) :: (rest ++ [(L, { oL with slots := sl })])) → mi ≠ uq → L < mi → L < uq → mi < D → uq < D → (∀ p ∈ rest, p.1 < mi) → (∀ p ∈ rest, p.1 < uq) →
      IntsAre wm.toList (sld (xs.length + ys.length) xs ys).1 → IntsAre wu.toList (sld (xs.length + ys.length) xs ys).2 → qk (.ret (.ref D)) { heap := h, gens := s.gens, drawn := s.drawn, toks := tk, os := s.os } := by
    intro h tk m2 D mi uq wm wu k1 k2 sl F5 N5 hmu hLm hLu hmD huD hrm hru hIm hIu
    obtain ⟨F6, N6⟩ := leave_F (new := (D, tupOf [.ref mi, .ref uq] 0) :: (mi, listOf wm k1) :: (uq, listOf wu k2) :: rest) C F5 (News.sub N5 (by
      intro x hx
      simp only [List.cons_append, List.mem_cons] at hx ⊢
      rcases hx with h | h | h | h
      · exact .inl h
      · exact .inr (.inr (.inl h))
      · exact .inr (.inl h)
      · exact .inr (.inr (.inr h)))) (by
      intro x hx
      simp only [List.mem_cons] at hx
      rcases hx with rfl | rfl | rfl | hx
      · exact Nat.ne_of_gt (Nat.lt_trans hLm hmD)
      · exact Nat.ne_of_gt hLm
      · exact Nat.ne_of_gt hLu
      · exact hneL x hx)
    exact hret _ _ _ _ F6 N6 ⟨D, mi, uq, wm, wu, k1, k2, rfl, rfl, hIm, hIu, fun p hp => ⟨Nat.lt_trans (hrm p hp) hmD, hrm p hp, hru p hp⟩, hmD, huD, hmu⟩
  clear hret
  k_steps
  unfold Stop
  rename Fr _ _ _ _ => F2
  rename News _ _ _ _ => N2
  rename_i mi hh3 lmi hh2 tkx uq hh1 luq h2
  k_fold
  refine whl_start 0 ?_
  have luq1 := luq.1
  have luq2 := ktn_ltOf luq.2
  clear luq
  obtain ⟨M, hM⟩ : ∃ M, (sld (xs.length + ys.length) xs ys).1 = M := ⟨_, rfl⟩
  obtain ⟨U, hU⟩ : ∃ U, (sld (xs.length + ys.length) xs ys).2 = U := ⟨_, rfl⟩
  rw [hM, hU] at fin
  obtain ⟨f, hf⟩ : ∃ f, f = xs.length + ys.length + 1 := ⟨_, rfl⟩
  obtain ⟨i, hi⟩ : ∃ i : Nat, i = 0 := ⟨_, rfl⟩
  obtain ⟨j, hj⟩ : ∃ j : Nat, j = 0 := ⟨_, rfl⟩
  obtain ⟨m2, hm2, F3⟩ : ∃ m', m' = _ ∧ Fr h₀ L1 h2 m' := ⟨_, rfl, F2⟩
  replace F2 := F3; clear F3
  obtain ⟨ti, e1⟩ : ∃ t, m2 (Str.ofString "i") = some (.int (i : Int) t) := by rw [hm2, hi]; exact ⟨_, rfl⟩
  obtain ⟨tj, e2⟩ : ∃ t, m2 (Str.ofString "j") = some (.int (j : Int) t) := by rw [hm2, hj]; exact ⟨_, rfl⟩
  have e3 : m2 (Str.ofString "expected") = some (.ref ex) := by rw [hm2]; rfl
  have e4 : m2 (Str.ofString "actual") = some (.ref ac) := by rw [hm2]; rfl
  have e5 : m2 (Str.ofString "missing") = some (.ref mi) := by rw [hm2]; rfl
  have e6 : m2 (Str.ofString "unexpected") = some (.ref uq) := by rw [hm2]; rfl
  obtain ⟨wm, hwm⟩ : ∃ wm : List Value, wm = [] := ⟨_, rfl⟩
  obtain ⟨wu, hwu⟩ : ∃ wu : List Value, wu = [] := ⟨_, rfl⟩
  obtain ⟨k1, hk1⟩ : ∃ k1 : Nat, k1 = 0 := ⟨_, rfl⟩
  obtain ⟨k2, hk2⟩ : ∃ k2 : Nat, k2 = 0 := ⟨_, rfl⟩
  obtain ⟨ms, hms⟩ : ∃ ms : List Int, ms = [] := ⟨_, rfl⟩
  obtain ⟨us, hus⟩ : ∃ us : List Int, us = [] := ⟨_, rfl⟩
  have hIm : IntsAre wm ms := by rw [hwm, hms]; exact .nil
  have hIu : IntsAre wu us := by rw [hwu, hus]; exact .nil
  obtain ⟨sl, hsl⟩ : ∃ sl, oL = { oL with slots := sl } := ⟨oL.slots, rfl⟩
  have N3 : News h₀ L1 h2 ((uq, listOf wu.toArray k2) :: (mi, listOf wm.toArray k1) :: (rest ++ [(L, { oL with slots := sl })])) := by rw [hwm, hwu, hk1, hk2, ← hsl]; exact N2
  obtain ⟨g, hg⟩ : ∃ g, g = xs.length + ys.length := ⟨_, rfl⟩
  have hM1 : ms ++ (sld g (xs.drop i) (ys.drop j)).1 = M := by rw [hms, hi, hj, hg]; exact hM
  have hU1 : us ++ (sld g (xs.drop i) (ys.drop j)).2 = U := by rw [hus, hi, hj, hg]; exact hU
  have hix : i ≤ xs.length := by omega
  have hjy : j ≤ ys.length := by omega
  have hlm : ms.length ≤ i := by rw [hms]; exact Nat.zero_le _
  have hlu : us.length ≤ j := by rw [hus]; exact Nat.zero_le _
  have hgu : (xs.length - i) + (ys.length - j) ≤ g := by omega
  have hfu : (xs.length - i) + (ys.length - j) < f := by omega
  have hle := hIe.length
  have hla := hIa.length
  have hmu : mi ≠ uq := Nat.ne_of_lt luq1
  have hmr : ∀ p ∈ rest ++ [(L, oL)], p.1 ≠ mi := fun p hp => Nat.ne_of_lt (lmi p hp)
  have hur : ∀ p ∈ rest ++ [(L, oL)], p.1 ≠ uq := fun p hp => Nat.ne_of_lt (luq2 p hp)
  have hLm : L < mi := lmi (L, oL) (List.mem_append_right _ (.head _))
  have hLu : L < uq := luq2 (L, oL) (List.mem_append_right _ (.head _))
  have hrm : ∀ p ∈ rest, p.1 < mi := fun p hp => lmi p (List.mem_append_left _ hp)
  have hru : ∀ p ∈ rest, p.1 < uq := fun p hp => luq2 p (List.mem_append_left _ hp)
  have hmr' : ∀ sl, ∀ p ∈ rest ++ [(L, { oL with slots := sl })], p.1 ≠ mi := fun sl p hp => by
    rcases List.mem_append.mp hp with hp | hp
    · exact hmr p (List.mem_append_left _ hp)
    · rw [List.mem_singleton.mp hp]; exact Nat.ne_of_lt hLm
  have hur' : ∀ sl, ∀ p ∈ rest ++ [(L, { oL with slots := sl })], p.1 ≠ uq := fun sl p hp => by
    rcases List.mem_append.mp hp with hp | hp
    · exact hur p (List.mem_append_left _ hp)
    · rw [List.mem_singleton.mp hp]; exact Nat.ne_of_lt hLu
  have hLL1 : L1 ≠ L := Nat.ne_of_gt hLL
  clear N2 hm2 hi hj hf hM hU hwm hwu hk1 hk2 hms hus N F hg hsl hmr hur
  have tail : ∀ h tk m2 wm wu k1 k2 sl, Fr h₀ L1 h m2 → News h₀ L1 h ((uq, listOf wu k2) :: (mi, listOf wm k1) :: (rest ++ [(L, { oL with slots := sl })])) → m2 (Str.ofString "missing") = some (.ref mi) → m2 (Str.ofString "unexpected") = some (.ref uq) →
      IntsAre wm.toList M → IntsAre wu.toList U → qk .next { heap := h, gens := s.gens, drawn := s.drawn, toks := tk, os := s.os } := by
    intro h tk m2 wm wu k1 k2 sl F4 N4 e5 e6 hIm hIu
    k_steps
    rename Fr _ _ _ _ => F5
    rename News _ _ _ _ => N5
    rename_i D h5 l5
    exact fin h5 tk m2 D mi uq wm wu k1 k2 sl F5 N5 hmu hLm hLu l5.2.1 l5.1 hrm hru hIm hIu
  clear fin
  clear_value qk ek
  induction f generalizing h2 tk m2 wm wu k1 k2 ms us i j ti tj sl g with
  | zero => omega
  | succ f ih =>
    refine whl_turnE (k := 0) ?_
    k_steps
    refine WhlIf.yes rfl ?_
    k_steps
    unfold Stop
    refine wpAny_Try_except ?_
    k_fold
    have hns : nsIn (Mine.hd.heap_39 w.params) mainGlobals (Str.ofString "IndexError") = some none := by k_is
    have caught : ∀ h tk m' (i' j' : Nat) ti tj wm wu k1 k2 ms' us' e ctx, Fr h₀ L1 h m' → Flying h₀ L1 L oL ((uq, listOf (List.toArray wu) k2) :: (mi, listOf (List.toArray wm) k1) :: rest) ctx e h →
        m' (Str.ofString "i") = some (.int (i' : Int) ti) → m' (Str.ofString "j") = some (.int (j' : Int) tj) → m' (Str.ofString "expected") = some (.ref ex) → m' (Str.ofString "actual") = some (.ref ac) → m' (Str.ofString "missing") = some (.ref mi) → m' (Str.ofString "unexpected") = some (.ref uq) →
        IntsAre wm ms' → IntsAre wu us' → ms'.length ≤ i' → us'.length ≤ j' → i' ≤ xs.length → j' ≤ ys.length → ms' ++ xs.drop i' = M → us' ++ ys.drop j' = U → ek (.ref e) { heap := h, gens := s.gens, drawn := s.drawn, toks := tk, os := s.os } := by
      clear N3 F2 e1 e2 e3 e4 e5 e6 hIm hIu hM1 hU1
      intro h tk m' i' j' ti tj wm wu k1 k2 ms' us' e ctx F4 H e1 e2 e3 e4 e5 e6 hIm hIu hlm hlu hi' hj' hM1 hU1
      dsimp only [ek]
      refine note_fly rfl Fs F4 H fun h5 TT oT ob t sl F5 N5 d1 d2 d3 hx ht => ?_
      refine set_flight none F5 N5 (.head _) d3 hx ht fun h6 oT6 F6 N6 ht6 => ?_
      refine handle_ix F6 X T hns N6 (.head _) d3 hx ht6 (fun h7 oT7 F7 N7 ht7 => ?_) rfl rfl
      have N8 : News h₀ L1 h7 ((uq, listOf (List.toArray wu) k2) :: (mi, listOf (List.toArray wm) k1) :: (rest ++ [(L, { oL with slots := sl })])) := News.sub N7 fun q hq => .tail _ (.tail _ hq)
      clear N7 N6 N5 F4 F5 F6
      dsimp only
      k_steps
      unfold Stop
      refine slice_led (s := { heap := h7, gens := s.gens, drawn := s.drawn, toks := tk, os := s.os }) F7 N8 (.tail _ (.tail _ (List.mem_append_left _ hE))) hIe (by omega) fun D1 ws1 h8 F8 N9 l8 hI1 => ?_
      dsimp only
      k_steps
      unfold Stop
      have hl1 := hIm.length
      have hl2 := hIu.length
      have hl3 := hI1.length
      rw [List.length_drop] at hl3
      refine extend_led (vs := wm) (vs2 := ws1) F8 N9 (.head _) (fun k => .tail (Nat.ne_of_gt (l8 (mi, listOf (List.toArray wm) k1) (.tail _ (.head _)))) (.tail (Ne.symm hmu) (.head (hmr' sl)))) (by omega) fun h9 kk1 F9 N10 => ?_
      have N11 := News.sub N10 fun q hq => List.Mem.tail _ hq
      clear N10 N9 N8 F7 F8
      dsimp only
      k_steps
      unfold Stop
      refine slice_led (s := { heap := h9, gens := s.gens, drawn := s.drawn, toks := tk, os := s.os }) F9 N11 (.tail _ (.tail _ (List.mem_append_left _ hA))) hIa (by omega) fun D2 ws2 h10 F10 N12 l10 hI2 => ?_
      dsimp only
      k_steps
      unfold Stop
      have hl4 := hI2.length
      rw [List.length_drop] at hl4
      refine extend_led (vs := wu) (vs2 := ws2) F10 N12 (.head _) (fun k => .tail (Nat.ne_of_gt (l10 (uq, listOf (List.toArray wu) k2) (.head _))) (.head fun q hq => ?_)) (by omega) fun h11 kk2 F11 N13 => ?_
      · rcases List.mem_cons.mp hq with rfl | hq
        · exact hmu
        · exact hur' sl q hq
      have N14 := News.sub N13 fun q hq => List.Mem.tail _ hq
      clear N13 N12 N11 F9 F10
      dsimp only
      k_steps
      exact tail h11 tk m' (wm ++ ws1).toArray (wu ++ ws2).toArray kk1 kk2 sl F11 N14 e5 e6 (hM1 ▸ hIm.append hI1) (hU1 ▸ hIu.append hI2)
    have again : ∀ h tk m' (i' j' : Nat) ti tj wm wu k1 k2 ms' us' g' sl, Fr h₀ L1 h m' → News h₀ L1 h ((uq, listOf (List.toArray wu) k2) :: (mi, listOf (List.toArray wm) k1) :: (rest ++ [(L, { oL with slots := sl })])) →
        m' (Str.ofString "i") = some (.int (i' : Int) ti) → m' (Str.ofString "j") = some (.int (j' : Int) tj) → m' (Str.ofString "expected") = some (.ref ex) → m' (Str.ofString "actual") = some (.ref ac) → m' (Str.ofString "missing") = some (.ref mi) → m' (Str.ofString "unexpected") = some (.ref uq) →
        IntsAre wm ms' → IntsAre wu us' → ms'.length ≤ i' → us'.length ≤ j' → i' ≤ xs.length → j' ≤ ys.length → ms' ++ (sld g' (xs.drop i') (ys.drop j')).1 = M → us' ++ (sld g' (xs.drop i') (ys.drop j')).2 = U → xs.length - i' + (ys.length - j') ≤ g' → xs.length - i' + (ys.length - j') < f →
        qk .next { heap := h, gens := s.gens, drawn := s.drawn, toks := tk, os := s.os } := by
      intro h tk m' i' j' ti tj wm wu k1 k2 ms' us' g' sl F4 N4 e1 e2 e3 e4 e5 e6 hIm hIu hlm hlu hi' hj' hM1 hU1 hgu hfu
      dsimp only [qk]
      k_steps
      unfold Stop
      apply ih (m2 := m') (i := i') (j := j') (wm := wm) (wu := wu) (ms := ms') (us := us') (g := g') (sl := sl)
      all_goals assumption
    have hap : ∀ o1 o2, ∀ p ∈ (uq, o1) :: (mi, o2) :: rest, p.1 ≠ L := fun o1 o2 p hp => by
      rcases List.mem_cons.mp hp with rfl | hp
      · exact Nat.ne_of_gt hLu
      · rcases List.mem_cons.mp hp with rfl | hp
        · exact Nat.ne_of_gt hLm
        · exact hneL p hp
    clear_value qk ek
    k_steps
    unfold Stop
    by_cases hi0 : i = xs.length
    · refine item_fly F2 N3 (hap _ _) (.tail _ (.tail _ hE)) (.inl rfl) (by omega) (by omega) fun h' tk' e F' H => ?_
      have hd : xs.drop i = [] := by rw [hi0]; exact List.drop_length
      rw [hd, sldL] at hM1 hU1
      exact caught h' tk' m2 i j ti tj wm wu k1 k2 ms us e _ F' H e1 e2 e3 e4 e5 e6 hIm hIu hlm hlu hix hjy (by rw [hd]; exact hM1) hU1
    have hi1 : i < xs.length := by omega
    obtain ⟨tx, hwx⟩ := hIe.get i xs[i] (List.getElem?_eq_getElem hi1)
    have hdx : xs.drop i = xs[i] :: xs.drop (i + 1) := List.drop_eq_getElem_cons hi1
    obtain ⟨x, hx⟩ : ∃ x, xs[i] = x := ⟨_, rfl⟩
    rw [hx] at hwx hdx
    refine item_led N3 (.tail _ (.tail _ (List.mem_append_left _ hE))) (Int.natCast_nonneg i) (by omega) (by rw [Int.toNat_natCast]; exact hwx) ?_
    dsimp only
    k_steps
    unfold Stop
    rename Fr _ _ _ _ => F3
    rename News _ _ _ _ => N4
    rename_i h3
    by_cases hj0 : j = ys.length
    · refine item_fly F3 N4 (hap _ _) (.tail _ (.tail _ hA)) (.inl rfl) (by omega) (by omega) fun h' tk' e F' H => ?_
      have hd : ys.drop j = [] := by rw [hj0]; exact List.drop_length
      rw [hd, sldR] at hM1 hU1
      exact caught h' tk' _ i j ti tj wm wu k1 k2 ms us e _ F' H e1 e2 e3 e4 e5 e6 hIm hIu hlm hlu hix hjy hM1 (by rw [hd]; exact hU1)
    have hj1 : j < ys.length := by omega
    obtain ⟨ty, hwy⟩ := hIa.get j ys[j] (List.getElem?_eq_getElem hj1)
    have hdy : ys.drop j = ys[j] :: ys.drop (j + 1) := List.drop_eq_getElem_cons hj1
    obtain ⟨y, hy⟩ : ∃ y, ys[j] = y := ⟨_, rfl⟩
    rw [hy] at hwy hdy
    refine item_led N4 (.tail _ (.tail _ (List.mem_append_left _ hA))) (Int.natCast_nonneg j) (by omega) (by rw [Int.toNat_natCast]; exact hwy) ?_
    obtain ⟨g1, rfl⟩ : ∃ g1, g = g1 + 1 := ⟨g - 1, by omega⟩
    rw [hdx, hdy] at hM1 hU1
    have hnx : ∀ h : i + 1 < xs.length, x < xs[i + 1] := fun h => hx ▸ List.pairwise_iff_getElem.mp hsx i (i + 1) hi1 h (by omega)
    have hny : ∀ h : j + 1 < ys.length, y < ys[j + 1] := fun h => hy ▸ List.pairwise_iff_getElem.mp hsy j (j + 1) hj1 h (by omega)
    dsimp only
    skip
    rcases Int.lt_trichotomy x y with hxy | hxy | hxy
    · have hs : sld (g1 + 1) (x :: xs.drop (i + 1)) (y :: ys.drop (j + 1)) = (x :: (sld g1 (xs.drop (i + 1)) (y :: ys.drop (j + 1))).1, (sld g1 (xs.drop (i + 1)) (y :: ys.drop (j + 1))).2) := by
        rw [sld, if_pos hxy]
      rw [hs, ← hdy] at hM1 hU1
      k_steps
      unfold Stop
      rename Fr _ _ _ _ => F5
      rename News _ _ _ _ => N5
      have hl1 := hIm.length
      refine append_K F5 N5 (.tail (Ne.symm hmu) (.head (hmr' sl))) ?_ (by rw [sizeLine_eq, List.size_toArray]; omega)
      intro h6 F6 N6
      rw [List.push_toArray] at N6
      have hIm' : IntsAre (wm ++ [.int x tx]) (ms ++ [x]) := hIm.append (.cons _ _ .nil)
      clear N5 F5
      dsimp only
      k_steps
      unfold Stop
      refine whl_start 1 ?_
      refine whl_turnE (k := 0) ?_
      k_steps
      unfold Stop
      rename Fr _ _ _ _ => F7
      rename News _ _ _ _ => N7
      rename_i h7
      by_cases hi2 : i + 1 = xs.length
      · refine item_fly F7 N7 (hap _ _) (.tail _ (.tail _ hE)) (.inl rfl) (by omega) (by omega) fun h' tk' e F' H => ?_
        have hd : xs.drop (i + 1) = [] := by rw [hi2]; exact List.drop_length
        rw [hd, sldL] at hM1 hU1
        refine own_fly rfl Fs F' H fun h8 F8 H8 => ?_
        exact caught h8 tk' _ (i + 1) j _ tj (wm ++ [.int x tx]) wu (k1 + 1) k2 (ms ++ [x]) us e _ F8 H8 rfl e2 e3 e4 e5 e6 hIm' hIu (by rw [List.length_append]; exact Nat.succ_le_succ hlm) hlu (by omega) hjy (by rw [hd, List.append_nil]; exact hM1) hU1
      have hi3 : i + 1 < xs.length := by omega
      obtain ⟨tx', hwx'⟩ := hIe.get (i + 1) xs[i + 1] (List.getElem?_eq_getElem hi3)
      have hnx' := hnx hi3
      refine item_led N7 (.tail _ (.tail _ (List.mem_append_left _ hE))) (by omega) (by omega) (by exact hwx') ?_
      k_steps
      unfold Stop
      refine WhlIf.no (by simp only [beq_eq_false_iff_ne, ne_eq]; omega) ?_
      k_steps
      exact again h7 _ _ (i + 1) j _ tj (wm ++ [.int x tx]) wu (k1 + 1) k2 (ms ++ [x]) us g1 sl F7 N7 rfl e2 e3 e4 e5 e6 hIm' hIu (by rw [List.length_append]; exact Nat.succ_le_succ hlm) hlu (by omega) hjy (by rw [List.append_assoc]; exact hM1) hU1 (subL (by assumption) (by assumption)) (ltL' (by assumption) (by assumption))
    · skip
      have hs : sld (g1 + 1) (x :: xs.drop (i + 1)) (y :: ys.drop (j + 1)) = sld g1 (xs.drop (i + 1)) (ys.drop (j + 1)) := by
        rw [sld, if_neg (by omega), if_neg (by omega)]
      rw [hs] at hM1 hU1
      k_steps
      unfold Stop
      rename Fr _ _ _ _ => F5
      rename News _ _ _ _ => N5
      refine whl_start 1 ?_
      refine whl_turnE (k := 0) ?_
      k_steps
      unfold Stop
      by_cases hi2 : i + 1 = xs.length
      · refine item_fly F5 N5 (hap _ _) (.tail _ (.tail _ hE)) (.inl rfl) (by omega) (by omega) fun h' tk' e F' H => ?_
        have hd : xs.drop (i + 1) = [] := by rw [hi2]; exact List.drop_length
        rw [hd, sldL] at hM1 hU1
        refine own_fly rfl Fs F' H fun h8 F8 H8 => ?_
        refine note_fly rfl Fs F8 H8 fun h9 TT oT ob t sl9 F9 N9 d1 d2 d3 hx' ht => ?_
        refine ⟨ref_ne_byPass _, ?_⟩
        refine note_again N9 (.tail _ (.head _)) (.head _) hx' ht ?_
        refine set_flight none F9 N9 (.head _) d3 hx' ht fun h10 oT10 F10 N10 ht10 => ?_
        have N11 : News h₀ L1 h10 ((TT, oT10) :: (e, ob) :: (uq, listOf (List.toArray wu) k2) :: (mi, listOf (List.toArray wm) k1) :: (rest ++ [(L, { oL with slots := sl9 })])) := N10
        clear N10 N9 N5 F5 F' F8 F9 H H8
        dsimp only
        k_steps
        unfold Stop
        refine whl_start 1 ?_
        refine whl_turnE (k := 0) ?_
        k_steps
        unfold Stop
        rename Fr _ _ _ _ => F12
        rename News _ _ _ _ => N12
        have hap2 : ∀ p ∈ (TT, oT10) :: (e, ob) :: (uq, listOf (List.toArray wu) k2) :: (mi, listOf (List.toArray wm) k1) :: rest, p.1 ≠ L := fun p hp => by
          rcases List.mem_cons.mp hp with rfl | hp
          · exact d1 (TT, oT) (.head _)
          · exact d1 p (.tail _ hp)
        by_cases hj2 : j + 1 = ys.length
        · refine item_fly (led := (TT, oT10) :: (e, ob) :: (uq, listOf (List.toArray wu) k2) :: (mi, listOf (List.toArray wm) k1) :: rest) F12 N12 hap2 (.tail _ (.tail _ (.tail _ (.tail _ hA)))) (.inr ⟨e, ob, t, .ref TT, rfl, .tail _ (.head _), hx'⟩) (by omega) (by omega) fun h' tk' e2' F' H => ?_
          refine own_fly rfl Fs F' H fun h13 F13 H13 => ?_
          refine own_fly rfl Fs F13 H13 fun h14 F14 H14 => ?_
          exact caught h14 tk' _ (i + 1) (j + 1) _ _ wm wu k1 k2 ms us e2' _ F14 (H14.sub fun p hp => .tail _ (.tail _ hp)) rfl rfl e3 e4 e5 e6 hIm hIu (by omega) (by omega) (by omega) (by omega) (by rw [hd]; exact hM1) hU1
        have hj3 : j + 1 < ys.length := by omega
        obtain ⟨ty', hwy'⟩ := hIa.get (j + 1) ys[j + 1] (List.getElem?_eq_getElem hj3)
        have hny' := hny hj3
        refine item_led N12 (.tail _ (.tail _ (.tail _ (.tail _ (List.mem_append_left _ hA))))) (by omega) (by omega) (by exact hwy') ?_
        k_steps
        unfold Stop
        refine WhlIf.no (by simp only [beq_eq_false_iff_ne, ne_eq]; omega) ?_
        k_steps
        refine pass_on F12 N12 (.head _) d3 hx' ht10 fun h13 oT13 F13 N13 ht13 => ?_
        exact caught h13 _ _ (i + 1) (j + 1) _ _ wm wu k1 k2 ms us e _ F13 (.inr ⟨TT, oT13, ob, t, sl9, N13, fun p hp => by
          rcases List.mem_cons.mp hp with rfl | hp
          · exact d1 (TT, oT) (.head _)
          · exact d1 p (.tail _ hp), d2, d3, hx', ht13⟩) rfl rfl e3 e4 e5 e6 hIm hIu (by omega) (by omega) (by omega) (by omega) (by rw [hd]; exact hM1) hU1
      have hi3 : i + 1 < xs.length := by omega
      obtain ⟨tx', hwx'⟩ := hIe.get (i + 1) xs[i + 1] (List.getElem?_eq_getElem hi3)
      have hnx' := hnx hi3
      refine item_led N5 (.tail _ (.tail _ (List.mem_append_left _ hE))) (by omega) (by omega) (by exact hwx') ?_
      k_steps
      unfold Stop
      refine WhlIf.no (by simp only [beq_eq_false_iff_ne, ne_eq]; omega) ?_
      k_steps
      unfold Stop
      refine whl_start 1 ?_
      refine whl_turnE (k := 0) ?_
      k_steps
      unfold Stop
      rename Fr _ _ _ _ => F7
      rename News _ _ _ _ => N7
      rename_i h7
      by_cases hj2 : j + 1 = ys.length
      · refine item_fly F7 N7 (hap _ _) (.tail _ (.tail _ hA)) (.inl rfl) (by omega) (by omega) fun h' tk' e F' H => ?_
        have hd : ys.drop (j + 1) = [] := by rw [hj2]; exact List.drop_length
        rw [hd, sldR] at hM1 hU1
        refine own_fly rfl Fs F' H fun h8 F8 H8 => ?_
        refine own_fly rfl Fs F8 H8 fun h9 F9 H9 => ?_
        exact caught h9 tk' _ (i + 1) (j + 1) _ _ wm wu k1 k2 ms us e _ F9 H9 rfl rfl e3 e4 e5 e6 hIm hIu (by omega) (by omega) (by omega) (by omega) hM1 (by rw [hd]; exact hU1)
      have hj3 : j + 1 < ys.length := by omega
      obtain ⟨ty', hwy'⟩ := hIa.get (j + 1) ys[j + 1] (List.getElem?_eq_getElem hj3)
      have hny' := hny hj3
      refine item_led N7 (.tail _ (.tail _ (List.mem_append_left _ hA))) (by omega) (by omega) (by exact hwy') ?_
      k_steps
      unfold Stop
      refine WhlIf.no (by simp only [beq_eq_false_iff_ne, ne_eq]; omega) ?_
      k_steps
      exact again _ _ _ (i + 1) (j + 1) _ _ wm wu k1 k2 ms us g1 sl F7 N7 rfl rfl e3 e4 e5 e6 hIm hIu (by omega) (by omega) (by omega) (by omega) hM1 hU1 (subB (by assumption) (by assumption)) (ltB' (by assumption) (by assumption))
    · have hs : sld (g1 + 1) (x :: xs.drop (i + 1)) (y :: ys.drop (j + 1)) = ((sld g1 (x :: xs.drop (i + 1)) (ys.drop (j + 1))).1, y :: (sld g1 (x :: xs.drop (i + 1)) (ys.drop (j + 1))).2) := by
        rw [sld, if_neg (by omega), if_pos hxy]
      rw [hs, ← hdx] at hM1 hU1
      k_steps
      unfold Stop
      rename Fr _ _ _ _ => F5
      rename News _ _ _ _ => N5
      have hl1 := hIu.length
      refine append_K F5 N5 (.head fun q hq => ?_) ?_ (by rw [sizeLine_eq, List.size_toArray]; omega)
      · rcases List.mem_cons.mp hq with rfl | hq
        · exact hmu
        · exact hur' sl q hq
      intro h6 F6 N6
      rw [List.push_toArray] at N6
      have hIu' : IntsAre (wu ++ [.int y ty]) (us ++ [y]) := hIu.append (.cons _ _ .nil)
      clear N5 F5
      dsimp only
      k_steps
      unfold Stop
      refine whl_start 1 ?_
      refine whl_turnE (k := 0) ?_
      k_steps
      unfold Stop
      rename Fr _ _ _ _ => F7
      rename News _ _ _ _ => N7
      rename_i h7
      by_cases hj2 : j + 1 = ys.length
      · refine item_fly F7 N7 (hap _ _) (.tail _ (.tail _ hA)) (.inl rfl) (by omega) (by omega) fun h' tk' e F' H => ?_
        have hd : ys.drop (j + 1) = [] := by rw [hj2]; exact List.drop_length
        rw [hd, sldR] at hM1 hU1
        refine own_fly rfl Fs F' H fun h8 F8 H8 => ?_
        exact caught h8 tk' _ i (j + 1) ti _ wm (wu ++ [.int y ty]) k1 (k2 + 1) ms (us ++ [y]) e _ F8 H8 e1 rfl e3 e4 e5 e6 hIm hIu' hlm (by rw [List.length_append]; exact Nat.succ_le_succ hlu) hix (by omega) hM1 (by rw [hd, List.append_nil]; exact hU1)
      have hj3 : j + 1 < ys.length := by omega
      obtain ⟨ty', hwy'⟩ := hIa.get (j + 1) ys[j + 1] (List.getElem?_eq_getElem hj3)
      have hny' := hny hj3
      refine item_led N7 (.tail _ (.tail _ (List.mem_append_left _ hA))) (by omega) (by omega) (by exact hwy') ?_
      k_steps
      unfold Stop
      refine WhlIf.no (by simp only [beq_eq_false_iff_ne, ne_eq]; omega) ?_
      k_steps
      exact again h7 _ _ i (j + 1) ti _ wm (wu ++ [.int y ty]) k1 (k2 + 1) ms (us ++ [y]) g1 sl F7 N7 e1 rfl e3 e4 e5 e6 hIm hIu' hlm (by rw [List.length_append]; exact Nat.succ_le_succ hlu) hix (by omega) hM1 (by rw [List.append_assoc]; exact hU1) (subR (by assumption) (by assumption)) (ltR' (by assumption) (by assumption))
end Mine
end

section
open PySem PySem.W PyProof.Rows PyProof.Rows.LCg
set_option maxRecDepth 100000
set_option maxHeartbeats 1000000
namespace Mine
section
variable {prog : Program} {w : World} {A : Around} {h₀ : Heap} {L : Addr} {m : Str → Option Value} {env : Env} {ct elt : PySem.Expr} {x : Str} {scope : Scope} {cl : List (Str × Addr)} {s : Shared} {S : List (Addr × Obj) → Prop} {P : Nat → Value → Prop} {Fin : List Value → List (Addr × Obj) → Prop} {n : Nat} {news : List (Addr × Obj)}
/-- a comprehension with one test, by an invariant -/
theorem compT_ind (J : Nat → List Value → List (Addr × Obj) → Prop) (j0 : J 0 [] news) (hfin : ∀ ys news', J n ys news' → Fin ys news')
    (step : ∀ i ys nw, i < n → J i ys nw → ∀ v I oI C oC D m₂ h tk (E' : Value → Shared → Prop), P i v → NsObj oC m₂ → m₂ x = some v → Fr h₀ L h m → News h₀ L h ((I, oI) :: (C, oC) :: (D, lst ys) :: nw) → Off3 I C D nw → ((@Ne Nat I C) ∧ (@Ne Nat I D) ∧ (@Ne Nat C D)) →
      wpAny (model prog w) A (isTrue ct (compEnvC scope cl C env) (eval ct (compEnvC scope cl C env))) (fun ok s' => if ok = true then
        wpAny (model prog w) A (eval elt (compEnvC scope cl C env)) (CompEnd h₀ L m { s with heap := h, toks := tk } I oI C oC D (lst ys) S (fun y news' => J (i + 1) (ys ++ [y]) news')) E' s'
        else CompEnd h₀ L m { s with heap := h, toks := tk } I oI C oC D (lst ys) S (fun _ news' => J (i + 1) ys news') Value.none s') E' { s with heap := h, toks := tk }) :
    LCt.CompRestT prog w A h₀ L m env ct elt x scope cl s S P Fin n 0 [] news := by
  have gen : ∀ k i ys nw, i + k = n → J i ys nw → LCt.CompRestT prog w A h₀ L m env ct elt x scope cl s S P Fin k i ys nw := by
    intro k
    induction k with
    | zero => intro i ys nw hi hj; exact hfin ys nw (by rw [← hi]; exact hj)
    | succ k ih =>
      intro i ys nw hi hj
      refine LCt.CompRestT.succ fun v I oI C oC D m₂ h tk E' hP hoC hx F N off hne => ?_
      refine wpAny_mono (step i ys nw (by omega) hj v I oI C oC D m₂ h tk E' hP hoC hx F N off hne) (fun ok s' hok => ?_) fun _ _ e => e
      cases ok with
      | true =>
        simp only [if_true] at hok ⊢
        refine wpAny_mono hok (fun y s'' hy => ?_) fun _ _ e => e
        obtain ⟨h', tk', nw', e, F', N', off', hS', hJ⟩ := hy
        exact ⟨h', tk', nw', e, F', N', off', hS', ih (i + 1) _ nw' (by omega) hJ⟩
      | false =>
        simp only [Bool.false_eq_true, if_false] at hok ⊢
        obtain ⟨h', tk', nw', e, F', N', off', hS', hJ⟩ := hok
        exact ⟨h', tk', nw', e, F', N', off', hS', ih (i + 1) _ nw' (by omega) hJ⟩
  exact gen n 0 [] news (by omega) j0
/-- a comprehension, by an invariant -/
theorem comp_ind (J : Nat → List Value → List (Addr × Obj) → Prop) (j0 : J 0 [] news) (hfin : ∀ ys news', J n ys news' → Fin ys news')
    (step : ∀ i ys nw, i < n → J i ys nw → ∀ v I oI C oC D m₂ h tk (E' : Value → Shared → Prop), P i v → NsObj oC m₂ → m₂ x = some v → Fr h₀ L h m → News h₀ L h ((I, oI) :: (C, oC) :: (D, lst ys) :: nw) → Off3 I C D nw → ((@Ne Nat I C) ∧ (@Ne Nat I D) ∧ (@Ne Nat C D)) →
      wpAny (model prog w) A (eval elt (compEnvC scope cl C env)) (CompEnd h₀ L m { s with heap := h, toks := tk } I oI C oC D (lst ys) S (fun y news' => J (i + 1) (ys ++ [y]) news')) E' { s with heap := h, toks := tk }) :
    CompRest prog w A h₀ L m env elt x scope cl s S P Fin n 0 [] news := by
  have gen : ∀ k i ys nw, i + k = n → J i ys nw → CompRest prog w A h₀ L m env elt x scope cl s S P Fin k i ys nw := by
    intro k
    induction k with
    | zero => intro i ys nw hi hj; exact hfin ys nw (by rw [← hi]; exact hj)
    | succ k ih =>
      intro i ys nw hi hj
      refine CompRest.succ fun v I oI C oC D m₂ h tk E' hP hoC hx F N off hne => ?_
      refine wpAny_mono (step i ys nw (by omega) hj v I oI C oC D m₂ h tk E' hP hoC hx F N off hne) (fun y s'' hy => ?_) fun _ _ e => e
      obtain ⟨h', tk', nw', e, F', N', off', hS', hJ⟩ := hy
      exact ⟨h', tk', nw', e, F', N', off', hS', ih (i + 1) _ nw' (by omega) hJ⟩
  exact gen n 0 [] news (by omega) j0
end
theorem off1_mem {D : Addr} {l : List (Addr × Obj)} (x : Off1 D l) : ∀ p ∈ l, p.1 ≠ D := by
  induction l with
  | nil => intro p h; cases h
  | cons q r ih =>
    intro p h
    rcases List.mem_cons.mp h with rfl | h
    · exact x.1
    · exact ih x.2 p h
theorem range_n {b : Int} {n : Nat} (h : b = (n : Int)) : Builtin.Range.rangeSize 0 b 1 = (n : Int) := by
  subst h
  unfold Builtin.Range.rangeSize
  rw [if_pos (by decide)]
  split
  · rw [Int.ediv_one]; omega
  · omega
end Mine
end

section
open PySem PySem.W PyProof.Rows
set_option maxRecDepth 100000
set_option maxHeartbeats 2000000
namespace Mine
local macro_rules | `(tactic| walk_at $k:str) => if ["ite", "subscriptTail Name Constant ref int", "call builtin:len", "subscriptTail Name Slice ref ref"].contains k.getString then `(tactic| (refine stop ?_)) else Lean.Macro.throwUnsupported
theorem told4 {ns : List Int} : ∃ a b c d, ns.take 4 ++ [5, 0, 1, 0].drop (ns.take 4).length = [a, b, c, d] := by
  match ns with
  | [] => exact ⟨_, _, _, _, rfl⟩
  | [_] => exact ⟨_, _, _, _, rfl⟩
  | [_, _] => exact ⟨_, _, _, _, rfl⟩
  | [_, _, _] => exact ⟨_, _, _, _, rfl⟩
  | _ :: _ :: _ :: _ :: _ => exact ⟨_, _, _, _, rfl⟩
theorem ints4 {ws : List Value} {a b c d : Int} (h : IntsAre ws [a, b, c, d]) : ∃ ta tb tc td, ws = [.int a ta, .int b tb, .int c tc, .int d td] := by
  cases h with
  | cons _ _ h => cases h with
    | cons _ _ h => cases h with
      | cons _ _ h => cases h with
        | cons _ _ h => cases h with
          | nil => exact ⟨_, _, _, _, rfl⟩
theorem line_spec {sc : Addr} {ws : List Value} {ns : List Int} {rest : List (Addr × Obj)} (hI : IntsAre ws ns) (hlen : ns.length ≤ 63)
    (prog : Program) (w : World) (p : Program) (loose : List Str) (mean : ExcName → Option Value) (mg mb : Str → Option Value) (dp un : Nat) (gd : Option (List Code)) (cn : Str) (cs : Scope) (a : Addr) (ccd : Value) (cl : List (Str × Addr)) (outer : List Env) (A₀ : Around) (base h₀ : Heap) (L : Addr) (m : Str → Option Value) (s : Shared)
    (Q E : Value → Shared → Prop) (hsc : h₀.IsList sc ws.toArray)
    (B : Below A₀ base outer h₀) (F : Fr h₀ L s.heap m) (X : (hd.heap_39 w.params).In h₀) (N : News h₀ L s.heap rest) (T : Top p loose mean mg mb h₀) (C1 : CodeHd h₀ 48 44) (C2 : CodeHd h₀ 41 37) (hk : cs.kind = .function) (hd : dp + 5 < 600) (hu : un + 40 < 2000)
    (hret : ∀ t (n d st a0 ap : Int) tn td ts ta tp h' tk', Fr h₀ L h' m → News h₀ L h' ((t, tupOf [.int n tn, .int d td, .int st ts, .int a0 ta, .int ap tp] 0) :: rest) → (∀ p ∈ rest, p.1 < t) →
      2 ≤ n → n ≤ 9 → (d = n ∨ d = -n) → -100 ≤ st → st ≤ 100 → -500 ≤ a0 → a0 ≤ 500 → 1 ≤ ap → ap ≤ 3 → Q (.ref t) { s with heap := h', toks := tk' }) :
    wpAny (model prog w) (ktrTop dp un gd cn cs L a ccd cl outer) (call (.ref 98) [.ref sc]) Q E s := by
  refine wpAny_call ?_
  k_dflt ktr_enter
  rename_i g L1 h1 FG F1 N1 B1 X1 T1
  have hsc1 : g.IsList sc ws.toArray := Fr.lst FG hsc
  k_steps
  unfold Stop
  refine kmk_slice_ints F1 N1 (Fr.lst F1 hsc1) IsPart.none (IsPart.int _ _) hI (kmk_upto hI (by decide)) rfl ?_ (by with_unfolding_all rfl) (by intro _; with_unfolding_all rfl) (by rw [List.size_toArray, hI.length, sizeLine_eq]; omega)
  intro D1 ws1 h2 F2 N2 l1 hI3 hC3 hL3
  k_steps
  unfold Stop
  rename News _ _ _ _ => N2
  rename IntsAre _ (List.take 4 ns) => hI3
  rename_i l3
  have hl3 := hI3.length
  have hl4 : (ns.take 4).length ≤ 4 := by rw [List.length_take]; omega
  refine len_led N2 (.tail _ (.head _)) (by omega) ?_
  intro _ _
  k_steps
  unfold Stop
  rename Fr _ _ _ _ => F3
  rename_i D2 c2 hA1 lD2 hA2 l6 h3 t4 tk4
  refine slice_led (s := { heap := h3, gens := s.gens, drawn := s.drawn, toks := tk4, os := s.os }) F3 N2 (.head _) (ns := [5, 0, 1, 0]) (.cons _ _ (.cons _ _ (.cons _ _ (.cons _ _ .nil)))) (by decide) ?_
  intro D5 ws5 h5 F5 N5 l5 hI5
  k_lt l5
  k_steps
  unfold Stop
  rename Fr _ _ _ _ => F7
  rename News _ _ _ _ => N7
  rename_i D8 ws8 hA8 hI8 lD8 h8
  obtain ⟨a1, b1, c1, d1, h4⟩ := told4 (ns := ns)
  rw [hl3] at hI8
  rw [show List.take (Int.toNat 4) ns ++ List.drop (List.take (Int.toNat 4) ns).length [5, 0, 1, 0] = [a1, b1, c1, d1] from h4] at hI8
  obtain ⟨ta, tb, tc, td, rfl⟩ := ints4 hI8
  have N8 : News g L1 h8 ((D8, listOf (List.toArray [.int a1 ta, .int b1 tb, .int c1 tc, .int d1 td]) 0) :: rest) := News.sub N7 fun q hq => by
    rcases List.mem_cons.mp hq with hq | hq
    · exact hq ▸ .head _
    · exact .tail _ (.tail _ (.tail _ (.tail _ (.tail _ hq))))
  clear N7 hI8 hI5 l5 l3 lD2 hI3 hC3 hL3 hl3
  have lD9 : ∀ p ∈ rest, p.1 < D8 := ktn_ltOf lD8.2.2.2.2
  refine item_led N8 (.head _) (by decide) (by decide) rfl ?_
  k_steps
  unfold Stop
  rename Fr _ _ _ _ => F9
  rename News _ _ _ _ => N9
  refine item_led N9 (.head _) (by decide) (by decide) rfl ?_
  k_steps
  unfold Stop
  have q1 := Int.fmod_nonneg_of_pos a1 (show (0 : Int) < 8 by decide)
  have q2 := Int.fmod_lt_of_pos a1 (show (0 : Int) < 8 by decide)
  have q3 := Int.fmod_nonneg_of_pos b1 (show (0 : Int) < 201 by decide)
  have q4 := Int.fmod_lt_of_pos b1 (show (0 : Int) < 201 by decide)
  have q5 := Int.fmod_nonneg_of_pos c1 (show (0 : Int) < 1001 by decide)
  have q6 := Int.fmod_lt_of_pos c1 (show (0 : Int) < 1001 by decide)
  have q7 := Int.fmod_nonneg_of_pos d1 (show (0 : Int) < 3 by decide)
  have q8 := Int.fmod_lt_of_pos d1 (show (0 : Int) < 3 by decide)
  by_cases hodd : ((a1.fdiv 8).fmod 2 == 1) = true
  · rw [if_pos hodd]
    k_steps
    unfold Stop
    rename Fr _ _ _ _ => F10
    rename News _ _ _ _ => N10
    refine item_led N10 (.head _) (by decide) (by decide) rfl ?_
    k_steps
    unfold Stop
    refine item_led N10 (.head _) (by decide) (by decide) rfl ?_
    k_steps
    unfold Stop
    refine item_led N10 (.head _) (by decide) (by decide) rfl ?_
    k_steps
    rename Fr h₀ L _ _ => F11
    rename News h₀ L _ _ => N11
    rename _ < _ ∧ AllLt _ rest => l11
    exact hret _ _ _ _ _ _ _ _ _ _ _ _ _ F11 (News.sub N11 fun q hq => by
      rcases List.mem_cons.mp hq with hq | hq
      · exact hq ▸ .head _
      · exact .tail _ (.tail _ hq)) (ktn_ltOf l11.2) (by omega) (by omega) (.inr rfl) (by omega) (by omega) (by omega) (by omega) (by omega) (by omega)
  · rw [if_neg hodd]
    k_steps
    unfold Stop
    rename Fr _ _ _ _ => F10
    rename News _ _ _ _ => N10
    refine item_led N10 (.head _) (by decide) (by decide) rfl ?_
    k_steps
    unfold Stop
    refine item_led N10 (.head _) (by decide) (by decide) rfl ?_
    k_steps
    unfold Stop
    refine item_led N10 (.head _) (by decide) (by decide) rfl ?_
    k_steps
    rename Fr h₀ L _ _ => F11
    rename News h₀ L _ _ => N11
    rename _ < _ ∧ AllLt _ rest => l11
    exact hret _ _ _ _ _ _ _ _ _ _ _ _ _ F11 (News.sub N11 fun q hq => by
      rcases List.mem_cons.mp hq with hq | hq
      · exact hq ▸ .head _
      · exact .tail _ (.tail _ hq)) (ktn_ltOf l11.2) (by omega) (by omega) (.inl rfl) (by omega) (by omega) (by omega) (by omega) (by omega) (by omega)
end Mine
end

section
open PySem PySem.W PyProof.Rows
set_option maxRecDepth 100000
set_option maxHeartbeats 1000000
namespace Mine
local macro_rules | `(tactic| walk_at $k:str) => if ["call builtin:len", "CompSrcT", "eval ListComp", "ite", "CompEnd"].contains k.getString then `(tactic| (refine stop ?_)) else Lean.Macro.throwUnsupported
local macro_rules | `(tactic| walk_at "subscriptTail Name Name ref int") => `(tactic| (k_here; refine stop ?_))
theorem ones_spec {sc : Addr} {ws : List Value} {n : Nat} {ns : List Int} {rest : List (Addr × Obj)} (hm : (sc, listOf ws.toArray n) ∈ rest) (hI : IntsAre ws ns) (hpos : 0 < ns.length) (hlen : ns.length ≤ 100) :
    Spec 103 [.ref sc] 4 rest (fun r news' => ∃ D vs, r = .ref D ∧ news' = (D, LCg.lst vs) :: rest ∧ IntsAre vs (onesP ns) ∧ ∀ p ∈ rest, p.1 ≠ D) := by
  unfold Spec
  intro prog w p loose mean mg mb dp un gd cn cs a ccd cl outer A₀ base h₀ L m s Q E B F X N T C1 C2 hk hd hu hret
  refine wpAny_call ?_
  k_dflt (refine' code_defC ?k1 ?k2 ?k3 ?k4 ?k5 ?kA ?kF ?kK ?k6 ?k7 ?k8 ?k9 ?kB ?kD ?_ ?c2 ?c3 ?c4; (case kA => exact rfl); (case kF => exact rfl); (case kK => assumption); (case k1 => k_asm); (case k2 => k_asm); (case k3 => k_asm); (case k4 => k_asm); (case k5 => k_asm); (case k6 => k_is); (case k7 => k_is); (case k8 => ktr_room); (case k9 => exact BindsTo.of_eq rfl); (case kB => exact rfl); (case kD => decide +kernel); (case c2 => exact rfl); (case c3 => exact rfl); (case c4 => exact rfl); k_whole; intro g' L' h' tk' cells' FG' F' N' Y' B' X' T' l1; k_cells Y'; (try simp only [List.cons_append, List.nil_append] at N'); (try dsimp only); (try k_fold))
  k_steps
  unfold Stop
  k_dflt (refine LCt.ListComp_T (F₀ := by k_asm) (by with_unfolding_all rfl) (by decide) (by rfl) (by decide) (by rfl) ?_)
  k_steps
  unfold Stop
  rename News _ _ _ _ => N2
  have hl := hI.length
  refine len_led N2 (.tail _ hm) (by omega) ?_
  intro t2 tk2
  k_steps
  unfold Stop
  rename IsRange _ _ _ _ _ _ _ _ => hr
  rename Fr g' _ _ _ => F3
  rename News g' _ _ _ => N3
  refine LCt.CompSrcT.range (n := ns.length - 1) rfl F3 N3 hr ?sm ?sz ?le fun gg => ?_
  case sm => exact small_one (by decide) (by decide) (by omega) (by omega)
  case sz => exact range_n (by omega)
  case le => rw [sizeLine_eq]; omega
  refine compT_ind (fun i ys nw => nw = (L' + 1, _) :: rest ∧ IntsAre ys (((List.range i).filter fun j => ns.getD j 0 == 1).map Int.ofNat)) ⟨rfl, .nil⟩ ?_ ?_
  · rintro ys nw ⟨rfl, hJ⟩ D h tk F4 N4 off
    dsimp only
    k_steps
    rename Fr h₀ L _ _ => F5
    rename News h₀ L _ _ => N5
    exact hret _ _ _ _ F5 (News.sub N5 fun q hq => by
      rcases List.mem_cons.mp hq with hq | hq
      · exact hq ▸ .head _
      · exact .tail _ (.tail _ hq)) ⟨D, ys, rfl, rfl, hJ, fun p hp => off1_mem off p (.tail _ hp)⟩
  · rintro i ys nw hi ⟨rfl, hJ⟩ v I oI C oC D m₂ h tk E' ⟨t, rfl⟩ hoC hx F4 N4 off hne
    k_steps
    unfold Stop
    rename IntsAre ws ns => hI
    have hi1 : i < ns.length := by omega
    obtain ⟨tx, hwx⟩ := hI.get i ns[i] (List.getElem?_eq_getElem hi1)
    refine item_led N4 (.tail _ (.tail _ (.tail _ (.tail _ hm)))) (by omega) (by omega) (by rw [Int.zero_add, Int.toNat_natCast]; exact hwx) ?_
    have hd : ns.getD i 0 = ns[i] := by rw [List.getD_eq_getElem?_getD, List.getElem?_eq_getElem hi1]; rfl
    k_steps
    unfold Stop
    by_cases h1 : (ns[i] == 1) = true
    · rw [if_pos h1]
      k_steps
      unfold Stop
      refine LCg.CompEnd.intro F4 N4 _ (fun p hp => hp) off trivial ⟨rfl, ?_⟩
      rw [List.range_succ, List.filter_append, List.map_append, show List.filter (fun j => ns.getD j 0 == 1) [i] = [i] by rw [List.filter_cons_of_pos (by rw [hd]; exact h1)]; rfl]
      exact hJ.append (by rw [Int.zero_add]; exact .cons _ _ .nil)
    · rw [if_neg h1]
      refine LCg.CompEnd.intro F4 N4 _ (fun p hp => hp) off trivial ⟨rfl, ?_⟩
      rw [List.range_succ, List.filter_append, List.map_append, show List.filter (fun j => ns.getD j 0 == 1) [i] = [] by rw [List.filter_cons_of_neg (by rw [hd]; exact h1)]; rfl]
      exact (List.append_nil _).symm ▸ hJ
end Mine
end

section
open PySem PySem.W PyProof.Rows
set_option maxRecDepth 100000
set_option maxHeartbeats 1000000
namespace Mine
/-- the law's def -/
def lawParts : List Stmt × Scope := match PySem.Challenge.pw_op0113_01.main.body.getLast? with
  | some (.FunctionDef _ _ body _ _ _ scope _ _ _) => (body, scope)
  | _ => ([], { kind := .function, names := [], isGenerator := false, isCoroutine := false })
def lawSt (n : Nat) : Stmt := lawParts.1.getD n (.Pass default)
def lawScope : Scope := lawParts.2
/-- where the law runs -/
abbrev lawA (sc : Scope) (L fa : Addr) (cd : Value) : Around := callerA.deeper (envOfC (Str.ofString "law") sc L fa cd)
/-- the law's cells -/
abbrev cellsL (L : Addr) (o1 o2 o3 o4 o5 o6 o7 : Obj) (T : List (Addr × Obj)) : List (Addr × Obj) :=
  (L + 1, o1) :: (L + 1 + 1, o2) :: (L + 1 + 1 + 1, o3) :: (L + 1 + 1 + 1 + 1, o4) :: (L + 1 + 1 + 1 + 1 + 1, o5) :: (L + 1 + 1 + 1 + 1 + 1 + 1, o6) :: (L + 1 + 1 + 1 + 1 + 1 + 1 + 1, o7) :: T
theorem mem_cells {L : Addr} {o1 o2 o3 o4 o5 o6 o7 : Obj} {T : List (Addr × Obj)} {p : Addr × Obj} (h : p ∈ cellsL L o1 o2 o3 o4 o5 o6 o7 T) : (L < p.1 ∧ p.1 ≤ L + 7 ∧ (p.2 = o1 ∨ p.2 = o2 ∨ p.2 = o3 ∨ p.2 = o4 ∨ p.2 = o5 ∨ p.2 = o6 ∨ p.2 = o7)) ∨ p ∈ T := by
  simp only [cellsL, List.mem_cons] at h
  have hs : ∀ k : Nat, L < L + (k + 1) := fun k => Nat.lt_add_of_pos_right (Nat.succ_pos k)
  rcases h with rfl | rfl | rfl | rfl | rfl | rfl | rfl | h
  · exact .inl ⟨hs 0, Nat.add_le_add_left (by decide) L, by simp⟩
  · exact .inl ⟨hs 1, Nat.add_le_add_left (by decide : 2 ≤ 7) L, by simp⟩
  · exact .inl ⟨hs 2, Nat.add_le_add_left (by decide : 3 ≤ 7) L, by simp⟩
  · exact .inl ⟨hs 3, Nat.add_le_add_left (by decide : 4 ≤ 7) L, by simp⟩
  · exact .inl ⟨hs 4, Nat.add_le_add_left (by decide : 5 ≤ 7) L, by simp⟩
  · exact .inl ⟨hs 5, Nat.add_le_add_left (by decide : 6 ≤ 7) L, by simp⟩
  · exact .inl ⟨hs 6, Nat.add_le_add_left (by decide : 7 ≤ 7) L, by simp⟩
  · exact .inr h
theorem mem_tail7 {L : Addr} {o1 o2 o3 o4 o5 o6 o7 : Obj} {T : List (Addr × Obj)} {p : Addr × Obj} (h : p ∈ T) : p ∈ cellsL L o1 o2 o3 o4 o5 o6 o7 T := by
  simp only [cellsL, List.mem_cons, h, or_true]
/-- a quotient, a rest, where the divisor's size is n -/
theorem div_facts (x d : Int) (n : Nat) (hn : 0 < n) (hd : d = n ∨ d = -n) : x.fdiv d * d + x.fmod d = x ∧ (x.fmod d).natAbs < n ∧ 0 ≤ x.fmod d * d := by
  have h1 : x.fdiv d * d + x.fmod d = x := by rw [Int.mul_comm]; exact Int.mul_fdiv_add_fmod x d
  refine ⟨h1, ?_⟩
  rcases hd with rfl | rfl
  · have a := Int.fmod_nonneg_of_pos x (show (0 : Int) < n by omega)
    have b := Int.fmod_lt_of_pos x (show (0 : Int) < n by omega)
    exact ⟨by omega, Int.mul_nonneg a (by omega)⟩
  · have e : x.fmod (-(n : Int)) = -((-x).fmod n) := by rw [← Int.neg_fmod_neg, Int.neg_neg]
    have a := Int.fmod_nonneg_of_pos (-x) (show (0 : Int) < n by omega)
    have b := Int.fmod_lt_of_pos (-x) (show (0 : Int) < n by omega)
    rw [e]
    refine ⟨by omega, ?_⟩
    rw [Int.neg_mul_neg]
    exact Int.mul_nonneg a (by omega)
theorem mul9 {i : Nat} {st : Int} (hi : i ≤ 9) (h1 : -100 ≤ st) (h2 : st ≤ 100) : -900 ≤ (i : Int) * st ∧ (i : Int) * st ≤ 900 := by
  have hi0 : (0 : Int) ≤ i := Int.natCast_nonneg i
  have hi9 : (i : Int) ≤ 9 := Int.ofNat_le.mpr hi
  have a1 := Int.mul_le_mul_of_nonneg_left h1 hi0
  have a2 := Int.mul_le_mul_of_nonneg_left h2 hi0
  generalize (i : Int) * st = x at *
  omega
section
variable {prog : Program} {w : World} {A : Around} {E : Value → Shared → Prop} {s : Shared} {env : Env} {h₀ : Heap} {x : Str} {body : List Stmt} {Q : Flow → Shared → Prop} {I : Addr} {a : Int} {n : Nat} {m : Str → Option Value} {news : List (Addr × Obj)}
theorem unr_mono {L : Addr} {s₁ : Shared} {it : Obj} {R R' : (Str → Option Value) → List (Addr × Obj) → Prop} (h : ∀ m' n', R m' n' → R' m' n') {f : Flow} {s₂ : Shared} (u : UnrPost h₀ L s₁ I it R Q f s₂) : UnrPost h₀ L s₁ I it R' Q f s₂ := by
  cases f with
  | ret v => exact u
  | brk => exact u
  | next => obtain ⟨h', tk, m', news', e, F, N, off, r⟩ := u; exact ⟨h', tk, m', news', e, F, N, off, h _ _ r⟩
  | cont => obtain ⟨h', tk, m', news', e, F, N, off, r⟩ := u; exact ⟨h', tk, m', news', e, F, N, off, h _ _ r⟩
/-- a loop over range(n), by an invariant -/
theorem range_ind (J : Nat → (Str → Option Value) → List (Addr × Obj) → Prop) (j0 : J 0 m news) (fin : ∀ m' news' h tk, J n m' news' → Fr h₀ env.locals h m' → News h₀ env.locals h news' → Q .next { s with heap := h, toks := tk })
    (step : ∀ i m' news', i < n → J i m' news' → ∀ t h tk, Fr h₀ env.locals h (fun y => if y = x then some (.int (a + (i : Int)) t) else m' y) → News h₀ env.locals h ((I, itR (a + ((i + 1 : Nat) : Int)) ((n : Int) - ((i + 1 : Nat) : Int))) :: news') →
      wpAny (model prog w) A (execs body env) (UnrPost h₀ env.locals { s with heap := h, toks := tk } I (itR (a + ((i + 1 : Nat) : Int)) ((n : Int) - ((i + 1 : Nat) : Int))) (J (i + 1)) Q) E { s with heap := h, toks := tk }) :
    RangeRest prog w A E h₀ env x body Q s I a n n 0 m news := by
  have gen : ∀ k i m' news', i + k = n → J i m' news' → RangeRest prog w A E h₀ env x body Q s I a n k i m' news' := by
    intro k
    induction k with
    | zero => intro i m' news' hi hj; exact RangeRest.zero fun h tk F N => fin m' news' h tk (by rw [← hi]; exact hj) F N
    | succ k ih =>
      intro i m' news' hi hj
      refine RangeRest.succ fun t h tk F N => ?_
      exact wpAny_mono (step i m' news' (by omega) hj t h tk F N) (fun f s' hf => unr_mono (fun m'' n'' hj => ih (i + 1) m'' n'' (by omega) hj) hf) fun _ _ e => e
  exact gen n 0 m news (by omega) j0
end
end Mine
end

section
open PySem PySem.W PyProof.Rows
set_option maxRecDepth 100000
set_option maxHeartbeats 2000000
namespace Mine
local macro_rules | `(tactic| walk_at "in of") => `(tactic| (with_reducible first | assumption | exact List.mem_cons_self | (refine List.mem_cons_of_mem _ ?_; walk_at "in of") | exact List.mem_append_left _ (by assumption) | exact List.mem_append_right _ (by assumption) | (refine List.mem_append_left _ ?_; walk_at "in of") | (refine List.mem_append_right _ ?_; walk_at "in of")))
local macro_rules | `(tactic| walk_at "sub of") => `(tactic| (with_reducible first | exact List.forall_mem_nil _ | (refine List.forall_mem_cons.mpr ⟨?_, ?_⟩; walk_at "in of"; walk_at "sub of") | (refine List.forall_mem_append.mpr ⟨?_, ?_⟩; walk_at "sub of"; walk_at "sub of") | (intro q9 h9; walk_at "in of")))
local macro_rules | `(tactic| walk_at $k:str) => if ["call ref", "exec For Name Call cons nil", "call builtin:list.append"].contains k.getString then `(tactic| (k_here; refine stop ?_)) else Lean.Macro.throwUnsupported
local macro_rules | `(tactic| walk_at $k:str) => if ["pyIter ref", "RangeRest", "UnrPost", "UnrEnd"].contains k.getString then `(tactic| (refine stop ?_)) else Lean.Macro.throwUnsupported
local macro_rules | `(tactic| walk_at "ite") => `(tactic| first | (refine PySem.W.ite_neg Bool.false_ne_true ?_) | (refine PySem.W.ite_pos (by simp only [decide_eq_true_eq, beq_iff_eq, bne_iff_ne, ne_eq]; omega) ?_) | (refine PySem.W.ite_neg (by simp only [decide_eq_true_eq, beq_iff_eq, bne_iff_ne, ne_eq]; omega) ?_))
local macro_rules | `(tactic| walk_at "eval Name") => `(tactic| (k_here; k_dflt (refine' nameX_L ?k1 ?k2 ?_; (case k1 => k_asm); (case k2 => assumption); k_whole)))
theorem Tab.only {qual line col led led' ps} (h : Tab qual line col led ps) (hs : ∀ p ∈ led, p ∈ led' ∨ ∀ vs t, p.2.data = .fields vs → vs[1]? ≠ some (.str qual t)) : Tab qual line col led' ps := by
  rcases h with h | ⟨c, oc, vs, t, e, hm, hd, hv⟩
  · exact .inl h
  · rcases hs _ hm with h | h
    · exact .inr ⟨c, oc, vs, t, e, h, hd, hv⟩
    · exact absurd hv (h vs t hd)
theorem seg4 {st4 : Stmt} {sc : Scope} (hst : lawSt 4 = st4) (hscp : lawScope = sc) {prog : Program} {w : World} {p : Program} {loose : List Str} {mean : ExcName → Option Value} {mg mb : Str → Option Value} {fa : Addr} {cd : Value} {h₀ : Heap} {L : Addr} {m : Str → Option Value} {s : Shared}
    {Q : Flow → Shared → Prop} {ps1 ps2 : Array Value} {Dq Dr : Addr} {o1 o2 o3 o4 o5 o6 o7 : Obj} {T : List (Addr × Obj)} {n : Nat} {d st a0 : Int} {tn td ts ta : Tok}
    (B : Below callerA h₀ [] h₀) (F : Fr h₀ L s.heap m) (X : (hd.heap_39 w.params).In h₀) (TT : Top p loose mean mg mb h₀) (C1 : CodeHd h₀ 48 44) (C2 : CodeHd h₀ 41 37)
    (N : News h₀ L s.heap ((44, tabObj ps1) :: (37, tabObj ps2) :: (Dq, listOf (List.toArray []) 0) :: (Dr, listOf (List.toArray []) 0) :: cellsL L o1 o2 o3 o4 o5 o6 o7 T))
    (ht1 : Tab q2i 80 4 T ps1) (ht2 : Tab q2d 65 4 T ps2) (hL : 44 < L) (hDq : L + 7 < Dq) (hDr : L + 7 < Dr) (hqr : Dq ≠ Dr) (hT : ∀ p ∈ T, L < p.1 ∧ p.1 ≠ Dq ∧ p.1 ≠ Dr)
    (hcs : ∀ o, o = o1 ∨ o = o2 ∨ o = o3 ∨ o = o4 ∨ o = o5 ∨ o = o6 ∨ o = o7 → ∃ v, o.data = .cell v)
    (c1 : o1.data = .cell (some (.int n tn))) (c3 : o3.data = .cell (some (.ref Dq))) (c4 : o4.data = .cell (some (.ref Dr)))
    (e1 : m (Str.ofString "divisor") = some (.int d td)) (e2 : m (Str.ofString "step") = some (.int st ts)) (e3 : m (Str.ofString "start") = some (.int a0 ta))
    (hn1 : 2 ≤ n) (hn2 : n ≤ 9) (hd : d = n ∨ d = -n) (hs1 : -100 ≤ st) (hs2 : st ≤ 100) (ha1 : -500 ≤ a0) (ha2 : a0 ≤ 500)
    (hret : ∀ h' tk' m' wq wr k1 k2 ps1 ps2, Fr h₀ L h' m' → News h₀ L h' ((44, tabObj ps1) :: (37, tabObj ps2) :: (Dq, listOf wq k1) :: (Dr, listOf wr k2) :: cellsL L o1 o2 o3 o4 o5 o6 o7 []) →
      IntsAre wq.toList ((List.range (n + 1)).map fun i : Nat => (a0 + (i : Int) * st).fdiv d) → IntsAre wr.toList ((List.range (n + 1)).map fun i : Nat => (((a0 + (i : Int) * st).fmod d).natAbs : Int)) →
      (∀ y, y ≠ Str.ofString "k" → y ≠ Str.ofString "quotient" → y ≠ Str.ofString "rest" → m' y = m y) → Q .next { s with heap := h', toks := tk' }) :
    wpAny (model prog w) (lawA sc L fa cd) (exec st4 (envOfC (Str.ofString "law") sc L fa cd)) Q (fun _ _ => False) s := by
  have hDq' := hDq
  have hDr' := hDr
  replace hDq : L < Dq := Nat.lt_of_le_of_lt (Nat.le_add_right L 7) hDq
  replace hDr : L < Dr := Nat.lt_of_le_of_lt (Nat.le_add_right L 7) hDr
  conv at hst => lhs; whnf
  conv at hscp => lhs; whnf
  subst hst hscp
  k_steps
  unfold Stop
  refine For_invVF F rfl rfl ?_
  k_steps
  unfold Stop
  rename IsRange _ _ _ _ _ _ _ _ => hr
  rename Fr h₀ L _ _ => F2
  rename News h₀ L _ _ => N2
  refine iter_rangeUnr (n := n + 1) rfl hr (small_one (by decide) (by decide) (by omega) (by omega)) (range_n (by omega)) F2 N2 ?_
  intro I lI
  have hI : L < I := Nat.lt_trans hDq (lI _ (.tail _ (.tail _ (.head _))))
  have hIq : Dq ≠ I := Nat.ne_of_lt (lI _ (.tail _ (.tail _ (.head _))))
  have hDqI : Dq < I := lI _ (.tail _ (.tail _ (.head _)))
  have hIr : Dr ≠ I := Nat.ne_of_lt (lI _ (.tail _ (.tail _ (.tail _ (.head _)))))
  have hIc : ∀ p ∈ cellsL L o1 o2 o3 o4 o5 o6 o7 T, p.1 ≠ I := fun p hp => Nat.ne_of_lt (lI p (.tail _ (.tail _ (.tail _ (.tail _ hp)))))
  refine range_ind (fun i m' news' => ∃ wq wr k1 k2 T ps1 ps2, news' = (44, tabObj ps1) :: (37, tabObj ps2) :: (Dq, listOf (List.toArray wq) k1) :: (Dr, listOf (List.toArray wr) k2) :: cellsL L o1 o2 o3 o4 o5 o6 o7 T ∧
    Tab q2i 80 4 T ps1 ∧ Tab q2d 65 4 T ps2 ∧ (∀ p ∈ T, L < p.1 ∧ p.1 ≠ Dq ∧ p.1 ≠ Dr) ∧ (∀ p ∈ cellsL L o1 o2 o3 o4 o5 o6 o7 T, p.1 ≠ I) ∧
    IntsAre wq ((List.range i).map fun i : Nat => (a0 + (i : Int) * st).fdiv d) ∧ IntsAre wr ((List.range i).map fun i : Nat => (((a0 + (i : Int) * st).fmod d).natAbs : Int)) ∧
    (∀ y, y ≠ Str.ofString "k" → y ≠ Str.ofString "quotient" → y ≠ Str.ofString "rest" → m' y = m y)) ?_ ?_ ?_
  · exact ⟨[], [], 0, 0, T, ps1, ps2, rfl, ht1, ht2, hT, hIc, .nil, .nil, fun _ _ _ _ => rfl⟩
  · rintro m' news' h tk ⟨wq, wr, k1, k2, T, ps1, ps2, rfl, -, -, -, -, hIq, hIr, hm⟩ F3 N3
    exact hret _ _ m' wq.toArray wr.toArray k1 k2 ps1 ps2 F3 (News.sub N3 (by walk_at "sub of")) hIq hIr hm
  · rename Fr h₀ L s.heap m => F0
    rename News h₀ L s.heap _ => N0
    clear N2 F2 ht1 ht2 hT N0 F0 lI hIc hr
    rintro i m' news' hi ⟨wq, wr, k1, k2, T, ps1, ps2, rfl, ht1, ht2, hT, hIc, hIq, hIr, hm⟩ t h3 tk3 F3 N3
    have e1 : m' (Str.ofString "divisor") = some (.int d td) := (hm _ (by decide) (by decide) (by decide)).trans e1
    have e2 : m' (Str.ofString "step") = some (.int st ts) := (hm _ (by decide) (by decide) (by decide)).trans e2
    have e3 : m' (Str.ofString "start") = some (.int a0 ta) := (hm _ (by decide) (by decide) (by decide)).trans e3
    obtain ⟨m3, hm3, F4⟩ : ∃ m3, m3 = _ ∧ Fr h₀ L h3 m3 := ⟨_, rfl, F3⟩
    clear F3
    rw [Int.zero_add] at hm3
    have e4 : m3 (Str.ofString "k") = some (.int (i : Int) t) := by rw [hm3]; rfl
    replace e1 : m3 (Str.ofString "divisor") = some (.int d td) := by rw [hm3]; exact e1
    replace e2 : m3 (Str.ofString "step") = some (.int st ts) := by rw [hm3]; exact e2
    replace e3 : m3 (Str.ofString "start") = some (.int a0 ta) := by rw [hm3]; exact e3
    have hm' : ∀ y, y ≠ Str.ofString "k" → y ≠ Str.ofString "quotient" → y ≠ Str.ofString "rest" → m3 y = m y := fun y h1 h2 h3 => by rw [hm3]; show (if _ then _ else _) = _; rw [if_neg h1]; exact hm y h1 h2 h3
    clear hm3 hm
    have h9 := mul9 (i := i) (by omega) hs1 hs2
    k_steps
    unfold Stop
    have hne : ∀ p ∈ (I, itR (0 + ((i + 1 : Nat) : Int)) (((n + 1 : Nat) : Int) - ((i + 1 : Nat) : Int))) :: (Dq, listOf (List.toArray wq) k1) :: (Dr, listOf (List.toArray wr) k2) :: cellsL L o1 o2 o3 o4 o5 o6 o7 T, 44 < p.1 := fun p hp => by
      rcases List.mem_cons.mp hp with rfl | hp
      · exact Nat.lt_trans hL hI
      rcases List.mem_cons.mp hp with rfl | hp
      · exact Nat.lt_trans hL hDq
      rcases List.mem_cons.mp hp with rfl | hp
      · exact Nat.lt_trans hL hDr
      rcases mem_cells hp with hp | hp
      · exact Nat.lt_trans hL hp.1
      · exact Nat.lt_trans hL (hT p hp).1
    refine Spec.use (divmod_spec (a := a0 + (i : Int) * st) (b := d) (rest := (I, itR (0 + ((i + 1 : Nat) : Int)) (((n + 1 : Nat) : Int) - ((i + 1 : Nat) : Int))) :: (Dq, listOf (List.toArray wq) k1) :: (Dr, listOf (List.toArray wr) k2) :: cellsL L o1 o2 o3 o4 o5 o6 o7 T)
      (by omega) (by omega) (by omega) (by omega) (by omega) (fun p hp => Nat.ne_of_gt (hne p hp)) (fun p hp => Nat.ne_of_gt (Nat.lt_trans (by decide) (hne p hp)))
      (ht1.mono fun p hp => .tail _ (.tail _ (.tail _ (mem_tail7 hp)))) (ht2.mono fun p hp => .tail _ (.tail _ (.tail _ (mem_tail7 hp))))) B F4 X (News.sub N3 ?_) TT C1 C2 rfl (by decide) (by decide) ?_
    · walk_at "sub of"
    rintro v news' h5 tk5 F5 N5 ⟨tt, tq, tr, kk, own, ps1', ps2', rfl, rfl, hm, hT1, hT2, hown⟩
    have N6 : News h₀ L h5 ((Dq, listOf (List.toArray wq) k1) :: (Dr, listOf (List.toArray wr) k2) :: (tt, tupOf [.int ((a0 + (i : Int) * st).fdiv d) tq, .int ((a0 + (i : Int) * st).fmod d) tr] kk) :: (I, itR (0 + ((i + 1 : Nat) : Int)) (((n + 1 : Nat) : Int) - ((i + 1 : Nat) : Int))) :: (44, tabObj ps1') :: (37, tabObj ps2') :: cellsL L o1 o2 o3 o4 o5 o6 o7 (own ++ T)) := News.sub N5 (by walk_at "sub of")
    have hap : ∀ D, D = Dq ∨ D = Dr → ∀ p ∈ (tt, tupOf [.int ((a0 + (i : Int) * st).fdiv d) tq, .int ((a0 + (i : Int) * st).fmod d) tr] kk) :: (I, itR (0 + ((i + 1 : Nat) : Int)) (((n + 1 : Nat) : Int) - ((i + 1 : Nat) : Int))) :: (44, tabObj ps1') :: (37, tabObj ps2') :: cellsL L o1 o2 o3 o4 o5 o6 o7 (own ++ T), p.1 ≠ D := by
      intro D hD p hp
      have hDL : L < D := by rcases hD with rfl | rfl <;> assumption
      rcases List.mem_cons.mp hp with rfl | hp
      · rcases hD with rfl | rfl
        · exact Nat.ne_of_gt ((hown _ hm).2.2 _ (.tail _ (.head _)))
        · exact Nat.ne_of_gt ((hown _ hm).2.2 _ (.tail _ (.tail _ (.head _))))
      rcases List.mem_cons.mp hp with rfl | hp
      · rcases hD with rfl | rfl <;> exact Ne.symm (by assumption)
      rcases List.mem_cons.mp hp with rfl | hp
      · exact Nat.ne_of_lt (Nat.lt_trans hL hDL)
      rcases List.mem_cons.mp hp with rfl | hp
      · exact Nat.ne_of_lt (Nat.lt_trans (Nat.lt_trans (by decide : 37 < 44) hL) hDL)
      rcases mem_cells hp with h | h
      · exact Nat.ne_of_lt (Nat.lt_of_le_of_lt h.2.1 (by rcases hD with rfl | rfl <;> assumption))
      rcases List.mem_append.mp h with h | h
      · rcases hD with rfl | rfl
        · exact Nat.ne_of_gt ((hown _ h).2.2 _ (.tail _ (.head _)))
        · exact Nat.ne_of_gt ((hown _ h).2.2 _ (.tail _ (.tail _ (.head _))))
      · rcases hD with rfl | rfl
        · exact (hT p h).2.1
        · exact (hT p h).2.2
    have hoI : ∀ r ∈ own, L < r.1 ∧ r.1 ≠ Dq ∧ r.1 ≠ Dr ∧ r.1 ≠ I := fun r hr => ⟨Nat.lt_trans hI ((hown r hr).2.2 _ (.head _)), Nat.ne_of_gt ((hown r hr).2.2 _ (.tail _ (.head _))), Nat.ne_of_gt ((hown r hr).2.2 _ (.tail _ (.tail _ (.head _)))), Nat.ne_of_gt ((hown r hr).2.2 _ (.head _))⟩
    clear N5 N3
    obtain ⟨hf1, hf2, hf3⟩ := div_facts (a0 + (i : Int) * st) d n (by omega) hd
    generalize hqv : (a0 + (i : Int) * st).fdiv d = qv at *
    generalize hrv : (a0 + (i : Int) * st).fmod d = rv at *
    have hoC : ∀ q ∈ cellsL L o1 o2 o3 o4 o5 o6 o7 (own ++ T), q.1 ≠ I := fun q hq => by
      rcases mem_cells hq with h | h
      · exact Nat.ne_of_lt (Nat.lt_of_le_of_lt h.2.1 (Nat.lt_trans hDq' hDqI))
      rcases List.mem_append.mp h with h | h
      · exact (hoI q h).2.2.2
      · exact hIc q (mem_tail7 h)
    have honly : ∀ q ∈ own ++ ((I, itR (0 + ((i + 1 : Nat) : Int)) (((n + 1 : Nat) : Int) - ((i + 1 : Nat) : Int))) :: (Dq, listOf (List.toArray wq) k1) :: (Dr, listOf (List.toArray wr) k2) :: cellsL L o1 o2 o3 o4 o5 o6 o7 T), ∀ x : Int, ∀ {qual : Str}, q ∈ own ++ T ∨ ∀ vs t, q.2.data = .fields vs → vs[1]? ≠ some (.str qual t) := fun q hq x qual => by
      rcases List.mem_append.mp hq with hq | hq
      · exact .inl (List.mem_append_left _ hq)
      rcases List.mem_cons.mp hq with rfl | hq
      · refine .inr fun vs t h1 h2 => ?_
        cases h1
        cases h2
      rcases List.mem_cons.mp hq with rfl | hq
      · exact .inr fun vs t h1 h2 => nomatch h1
      rcases List.mem_cons.mp hq with rfl | hq
      · exact .inr fun vs t h1 h2 => nomatch h1
      rcases mem_cells hq with h | h
      · obtain ⟨v, hv⟩ := hcs _ h.2.2
        exact .inr fun vs t h1 h2 => by rw [hv] at h1; cases h1
      · exact .inl (List.mem_append_right _ h)
    k_steps
    unfold Stop
    rename Fr h₀ L _ _ => F7
    rename News h₀ L _ _ => N7
    have hwq := hIq.length
    have hwr := hIr.length
    rw [List.length_map, List.length_range] at hwq hwr
    refine append_K F7 N7 (.head fun p hp => ?_) ?_ (by rw [sizeLine_eq, List.size_toArray]; omega)
    · rcases List.mem_cons.mp hp with rfl | hp
      · exact Ne.symm hqr
      · exact hap Dq (.inl rfl) p hp
    intro h8 F8 N8
    rw [List.push_toArray] at N8
    k_steps
    unfold Stop
    rename Fr h₀ L _ _ => F9
    rename News h₀ L _ _ => N9
    rename_i u9 tk9
    rw [show (if rv < 0 then -rv else rv) = ((rv.natAbs : Nat) : Int) by split <;> omega]
    refine append_K F9 N9 (.tail hqr (.head (hap Dr (.inr rfl)))) ?_ (by rw [sizeLine_eq, List.size_toArray]; omega)
    intro h10 F10 N10
    rw [List.push_toArray] at N10
    k_steps
    unfold Stop
    refine UnrEnd.intro F10 N10 ((44, tabObj ps1') :: (37, tabObj ps2') :: (Dq, listOf (List.toArray (wq ++ [.int qv tq])) (k1 + 1)) :: (Dr, listOf (List.toArray (wr ++ [.int rv.natAbs u9])) (k2 + 1)) :: cellsL L o1 o2 o3 o4 o5 o6 o7 (own ++ T)) ?_ ?_
      ⟨wq ++ [.int qv tq], wr ++ [.int rv.natAbs u9], k1 + 1, k2 + 1, own ++ T, ps1', ps2', rfl, ?_, ?_, ?_, ?_, ?_, ?_, ?_⟩
    · walk_at "sub of"
    · intro q hq
      rcases List.mem_cons.mp hq with rfl | hq
      · exact Nat.ne_of_lt (Nat.lt_trans hL hI)
      rcases List.mem_cons.mp hq with rfl | hq
      · exact Nat.ne_of_lt (Nat.lt_trans (Nat.lt_trans (by decide : 37 < 44) hL) hI)
      rcases List.mem_cons.mp hq with rfl | hq
      · assumption
      rcases List.mem_cons.mp hq with rfl | hq
      · assumption
      exact hoC q hq
    · exact hT1.only fun q hq => honly q hq 80
    · exact hT2.only fun q hq => honly q hq 65
    · intro q hq
      rcases List.mem_append.mp hq with hq | hq
      · exact ⟨(hoI q hq).1, (hoI q hq).2.1, (hoI q hq).2.2.1⟩
      · exact hT q hq
    · exact hoC
    · rw [List.range_succ, List.map_append]
      refine hIq.append ?_
      rw [List.map_singleton, hqv]
      exact .cons _ _ .nil
    · rw [List.range_succ, List.map_append]
      refine hIr.append ?_
      rw [List.map_singleton, hrv]
      exact .cons _ _ .nil
    · intro y h1 h2 h3
      show (if _ then _ else if _ then _ else _) = _
      rw [if_neg h3, if_neg h2]
      exact hm' y h1 h2 h3
end Mine
end

section
open PySem PySem.W PyProof.Rows PyProof.Rows.LCg
set_option maxRecDepth 100000
set_option maxHeartbeats 2000000
namespace Mine
local macro_rules | `(tactic| walk_at $k:str) => if ["exec Assign cons ListComp", "subscriptTail Name BinOp ref int", "subscriptTail Name Name ref int"].contains k.getString then `(tactic| (k_here; refine stop ?_)) else Lean.Macro.throwUnsupported
local macro_rules | `(tactic| walk_at $k:str) => if ["CompSrc", "CompEnd"].contains k.getString then `(tactic| (refine stop ?_)) else Lean.Macro.throwUnsupported
theorem seg5 {st5 : Stmt} {sc : Scope} (hst : lawSt 5 = st5) (hscp : lawScope = sc) {prog : Program} {w : World} {p : Program} {loose : List Str} {mean : ExcName → Option Value} {mg mb : Str → Option Value} {fa : Addr} {cd : Value} {h₀ : Heap} {L : Addr} {m : Str → Option Value} {s : Shared}
    {Q : Flow → Shared → Prop} {Dq Dr : Addr} {wq wr : Array Value} {k1 k2 : Nat} {Qs : List Int} {o1 o2 o3 o4 o5 o6 o7 : Obj} {Z : List (Addr × Obj)} {n : Nat} {sl : Int} {tn tsl : Tok}
    (B : Below callerA h₀ [] h₀) (F : Fr h₀ L s.heap m) (X : (hd.heap_39 w.params).In h₀) (TT : Top p loose mean mg mb h₀)
    (N : News h₀ L s.heap ((Dq, listOf wq k1) :: (Dr, listOf wr k2) :: cellsL L o1 o2 o3 o4 o5 o6 o7 Z))
    (c1 : o1.data = .cell (some (.int n tn))) (c2 : o2.data = .cell (some (.int sl tsl))) (c3 : o3.data = .cell (some (.ref Dq)))
    (hn1 : 2 ≤ n) (hn2 : n ≤ 9) (hq : IntsAre wq.toList Qs) (hql : Qs.length = n + 1)
    (hret : ∀ h' tk' D vs, Fr h₀ L h' (fun z => if z = Str.ofString "row" then some (.ref D) else m z) → News h₀ L h' ((D, lst vs) :: (Dq, listOf wq k1) :: (Dr, listOf wr k2) :: cellsL L o1 o2 o3 o4 o5 o6 o7 Z) →
      IntsAre vs ((List.range n).map fun i : Nat => Qs.getD (i + 1) 0 - Qs.getD i 0 - sl) → (∀ q ∈ (Dq, listOf wq k1) :: (Dr, listOf wr k2) :: cellsL L o1 o2 o3 o4 o5 o6 o7 Z, q.1 ≠ D) → Q .next { s with heap := h', toks := tk' }) :
    wpAny (model prog w) (lawA sc L fa cd) (exec st5 (envOfC (Str.ofString "law") sc L fa cd)) Q (fun _ _ => False) s := by
  conv at hst => lhs; whnf
  conv at hscp => lhs; whnf
  subst hst hscp
  refine LCg.Assign_ListComp_U F (by rfl) (by with_unfolding_all rfl) (by with_unfolding_all rfl) (by decide) (by rfl) (by decide) (by rfl) (by rfl) (by rfl) ?_
  k_steps
  unfold Stop
  rename IsRange _ _ _ _ _ _ _ _ => hr
  rename Fr h₀ L _ _ => F2
  rename News h₀ L _ _ => N2
  refine LCg.CompSrc.range (n := n) rfl F2 N2 hr (small_one (by decide) (by decide) (by omega) (by omega)) (range_n (by omega)) (by rw [sizeLine_eq]; omega) fun gg => ?_
  refine comp_ind (fun i ys nw => nw = (Dq, listOf wq k1) :: (Dr, listOf wr k2) :: cellsL L o1 o2 o3 o4 o5 o6 o7 Z ∧ IntsAre ys ((List.range i).map fun i : Nat => Qs.getD (i + 1) 0 - Qs.getD i 0 - sl)) ⟨rfl, .nil⟩ ?_ ?_
  · rintro ys nw ⟨rfl, hJ⟩ D h tk F4 N4 off
    exact hret _ _ _ _ F4 N4 hJ (off1_mem off)
  · rintro i ys nw hi ⟨rfl, hJ⟩ v I oI C oC D m₂ h tk E' ⟨t, rfl⟩ hoC hx F4 N4 off hne
    obtain ⟨t1, hw1⟩ := hq.get (i + 1) Qs[i + 1] (List.getElem?_eq_getElem (by omega))
    obtain ⟨t0, hw0⟩ := hq.get i Qs[i] (List.getElem?_eq_getElem (by omega))
    have hN : (Dq, listOf (List.toArray wq.toList) k1) ∈ (I, oI) :: (C, oC) :: (D, lst ys) :: (Dq, listOf wq k1) :: (Dr, listOf wr k2) :: cellsL L o1 o2 o3 o4 o5 o6 o7 Z := by rw [Array.toArray_toList]; exact .tail _ (.tail _ (.tail _ (.head _)))
    k_steps
    unfold Stop
    refine item_led N4 hN (by omega) (by omega) (by rw [show (0 + (i : Int) + 1).toNat = i + 1 by omega]; exact hw1) ?_
    k_steps
    unfold Stop
    refine item_led N4 hN (by omega) (by omega) (by rw [show (0 + (i : Int)).toNat = i by omega]; exact hw0) ?_
    k_steps
    unfold Stop
    refine LCg.CompEnd.intro F4 N4 _ (fun p hp => hp) off trivial ⟨rfl, ?_⟩
    rw [List.range_succ, List.map_append, List.map_singleton]
    refine hJ.append ?_
    rw [List.getD_eq_getElem?_getD, List.getD_eq_getElem?_getD, List.getElem?_eq_getElem (show i + 1 < Qs.length by omega), List.getElem?_eq_getElem (show i < Qs.length by omega)]
    exact .cons _ _ .nil
end Mine
end

section
open PySem PySem.W PyProof.Rows
set_option maxRecDepth 100000
set_option maxHeartbeats 2000000
namespace Mine
theorem siftdownP_length (h : List (List Int)) (p : Nat) : (siftdownP h p).length = h.length := by
  have sd : ∀ new f (h : List (List Int)) pos, (sdLoop new f h pos).length = h.length := by
    intro new f
    induction f with
    | zero => intro h pos; rw [sdLoop, List.length_set]
    | succ f ih =>
      intro h pos
      rw [sdLoop]
      split
      · dsimp only
        split
        · rw [ih, List.length_set]
        · rw [List.length_set]
      · rw [List.length_set]
  exact sd _ _ _ _
theorem pushP_length (h : List (List Int)) (x : List Int) : (pushP h x).length = h.length + 1 := by
  unfold pushP
  rw [siftdownP_length, List.length_append, List.length_singleton]
theorem pushAll_snoc (ts : List (List Int)) (x : List Int) : pushAll (ts ++ [x]) = pushP (pushAll ts) x := by
  unfold pushAll; rw [List.foldl_append]; rfl
theorem pushAll_length (ts : List (List Int)) : (pushAll ts).length = ts.length := by
  have gen : ∀ (ts h : List (List Int)), (ts.foldl pushP h).length = h.length + ts.length := by
    intro ts
    induction ts with
    | nil => intro h; rfl
    | cons x r ih => intro h; rw [List.foldl_cons, ih, pushP_length, List.length_cons]; omega
  have := gen ts []
  unfold pushAll
  simpa using this
theorem Heaped.mono {news news' vs xss} (h : Heaped news vs xss) (hs : ∀ p ∈ news, p ∈ news') : Heaped news' vs xss := by
  induction h with
  | nil => exact .nil
  | cons h0 _ ih => exact .cons (h0.mono hs) ih
theorem IntL.only {news news' v xs} (h : IntL news v xs) (hs : ∀ p ∈ news, p ∈ news' ∨ ∀ ws n, p.2 ≠ listOf ws n) : IntL news' v xs := by
  obtain ⟨a, ws, n, e, hm, hi⟩ := h
  rcases hs _ hm with q | q
  · exact ⟨a, ws, n, e, q, hi⟩
  · exact absurd rfl (q _ _)
theorem Heaped.only {news news' vs xss} (h : Heaped news vs xss) (hs : ∀ p ∈ news, p ∈ news' ∨ ∀ ws n, p.2 ≠ listOf ws n) : Heaped news' vs xss := by
  induction h with
  | nil => exact .nil
  | cons h0 _ ih => exact .cons (h0.only hs) ih
theorem itR_list (x y : Int) (ws : Array Value) (n : Nat) : itR x y ≠ listOf ws n := fun h => nomatch congrArg Obj.data h
theorem slice_to {prog : Program} {w : World} {A : Around} {E : Value → Shared → Prop} {s : Shared} {hb : Heap} {L : Addr} {m : Str → Option Value} {lst : Addr} {vs : List Value} {n k : Nat} {tk : Tok} {ns : List Int} {news : List (Addr × Obj)} {value slice : PySem.Expr} {Q : Value → Shared → Prop} (F : Fr hb L s.heap m) (N : News hb L s.heap news) (hm : (lst, listOf vs.toArray n) ∈ news) (hI : IntsAre vs ns) (hz : ns.length ≤ 300)
    (h : ∀ D ws h', Fr hb L h' m → News hb L h' ((D, listOf (List.toArray ws) 0) :: news) → (∀ p ∈ news, p.1 < D) → IntsAre ws (ns.take k) → Q (.ref D) { s with heap := h' })
    (hs : subscripted slice false (.ref lst) (.ref s.heap.objs.size) = operate [.ref s.heap.objs.size, .ref lst] (getItem (.ref lst) (.ref s.heap.objs.size)) := by with_unfolding_all rfl)
    (ht : ∀ r, letTemporaryGo value (.ref lst) r = pure () := by intro _; with_unfolding_all rfl) :
    wpAny (model prog w) A (subscriptTail value slice (.ref lst) (.ref s.heap.objs.size)) Q E { s with heap := s.heap.push { cls := .type "slice", data := .fields #[.none, .int (k : Int) tk, .none] } } := by
  have hl : s.heap.IsList lst vs.toArray := ⟨_, (N _ hm).1, rfl, _, rfl⟩
  refine kmk_slice_ints F N hl IsPart.none (IsPart.int _ _) hI (kmk_upto hI (Int.natCast_nonneg k)) rfl (fun D ws h' F' N' l1 hI' _ _ => h D ws h' F' N' l1 hI') hs ht ?_
  rw [List.size_toArray, hI.length, sizeLine_eq]
  omega
local macro_rules | `(tactic| walk_at $k:str) => if ["call ref", "exec For Name Call cons nil", "subscriptTail Name Slice ref ref"].contains k.getString then `(tactic| (k_here; refine stop ?_)) else Lean.Macro.throwUnsupported
local macro_rules | `(tactic| walk_at $k:str) => if ["pyIter ref", "UnrPost", "UnrEnd"].contains k.getString then `(tactic| (refine stop ?_)) else Lean.Macro.throwUnsupported
local macro_rules | `(tactic| walk_at "eval Name") => `(tactic| (k_here; k_dflt (refine' nameX_L ?k1 ?k2 ?_; (case k1 => k_asm); (case k2 => assumption); k_whole)))
theorem seg7 {st7 : Stmt} {sc : Scope} (hst : lawSt 7 = st7) (hscp : lawScope = sc) {prog : Program} {w : World} {p : Program} {loose : List Str} {mean : ExcName → Option Value} {mg mb : Str → Option Value} {fa : Addr} {cd : Value} {h₀ : Heap} {L : Addr} {m : Str → Option Value} {s : Shared}
    {Q : Flow → Shared → Prop} {H Dw : Addr} {vs : List Value} {kw : Nat} {row : List Int} {o1 : Obj} {R : List (Addr × Obj)} {n : Nat} {tn : Tok}
    (B : Below callerA h₀ [] h₀) (F : Fr h₀ L s.heap m) (X : (hd.heap_39 w.params).In h₀) (TT : Top p loose mean mg mb h₀) (C1 : CodeHd h₀ 48 44) (C2 : CodeHd h₀ 41 37)
    (N : News h₀ L s.heap ((H, listOf (List.toArray []) 0) :: (Dw, listOf (List.toArray vs) kw) :: (L + 1, o1) :: R))
    (c1 : o1.data = .cell (some (.int n tn)))
    (e1 : m (Str.ofString "row") = some (.ref Dw)) (e2 : m (Str.ofString "heap") = some (.ref H))
    (hn1 : 2 ≤ n) (hn2 : n ≤ 9) (hq : IntsAre vs row) (hql : row.length = n) (hoff : ∀ q ∈ (Dw, listOf (List.toArray vs) kw) :: (L + 1, o1) :: R, q.1 ≠ H)
    (hret : ∀ h' tk' m' G wh kh, Fr h₀ L h' m' → News h₀ L h' ((H, listOf wh kh) :: (G ++ (Dw, listOf (List.toArray vs) kw) :: (L + 1, o1) :: R)) →
      Heaped G wh.toList (pushAll ((List.range n).map (turnP row))) → (∀ q ∈ G, q.1 ≠ H ∧ ∀ r ∈ (Dw, listOf (List.toArray vs) kw) :: (L + 1, o1) :: R, r.1 < q.1) →
      (∀ y, y ≠ Str.ofString "k" → m' y = m y) → Q .next { s with heap := h', toks := tk' }) :
    wpAny (model prog w) (lawA sc L fa cd) (exec st7 (envOfC (Str.ofString "law") sc L fa cd)) Q (fun _ _ => False) s := by
  conv at hst => lhs; whnf
  conv at hscp => lhs; whnf
  subst hst hscp
  k_steps
  unfold Stop
  refine For_invVF F rfl rfl ?_
  k_steps
  unfold Stop
  rename IsRange _ _ _ _ _ _ _ _ => hr
  rename Fr h₀ L _ _ => F2
  rename News h₀ L _ _ => N2
  refine iter_rangeUnr (n := n) rfl hr (small_one (by decide) (by decide) (by omega) (by omega)) (range_n (by omega)) F2 N2 ?_
  intro I lI
  refine range_ind (fun i m' news' => ∃ G wh kh, news' = (H, listOf (List.toArray wh) kh) :: (G ++ (Dw, listOf (List.toArray vs) kw) :: (L + 1, o1) :: R) ∧
    Heaped G wh (pushAll ((List.range i).map (turnP row))) ∧ (∀ q ∈ news', q.1 ≠ I) ∧ (∀ q ∈ G, q.1 ≠ H ∧ ∀ r ∈ (Dw, listOf (List.toArray vs) kw) :: (L + 1, o1) :: R, r.1 < q.1) ∧
    (∀ y, y ≠ Str.ofString "k" → m' y = m y)) ?_ ?_ ?_
  · refine ⟨[], [], 0, rfl, .nil, ?_, ?_, fun _ _ => rfl⟩
    · intro q hq
      exact Nat.ne_of_lt (lI q hq)
    · intro q hq
      cases hq
  · rintro m' news' h tk ⟨G, wh, kh, rfl, hH, -, hG, hm⟩ F3 N3
    exact hret _ _ m' G wh.toArray kh F3 N3 hH hG hm
  · rename Fr h₀ L s.heap m => F0
    rename News h₀ L s.heap _ => N0
    clear N2 F2 N0 F0 lI hr
    rintro i m' news' hi ⟨G, wh, kh, rfl, hH, hI, hG, hm⟩ t h3 tk3 F3 N3
    have e1 : m' (Str.ofString "row") = some (.ref Dw) := (hm _ (by decide)).trans e1
    have e2 : m' (Str.ofString "heap") = some (.ref H) := (hm _ (by decide)).trans e2
    obtain ⟨m3, hm3, F4⟩ : ∃ m3, m3 = _ ∧ Fr h₀ L h3 m3 := ⟨_, rfl, F3⟩
    clear F3
    rw [Int.zero_add] at hm3
    have e4 : m3 (Str.ofString "k") = some (.int (i : Int) t) := by rw [hm3]; rfl
    replace e1 : m3 (Str.ofString "row") = some (.ref Dw) := by rw [hm3]; exact e1
    replace e2 : m3 (Str.ofString "heap") = some (.ref H) := by rw [hm3]; exact e2
    have hm' : ∀ y, y ≠ Str.ofString "k" → m3 y = m y := fun y h1 => by rw [hm3]; show (if _ then _ else _) = _; rw [if_neg h1]; exact hm y h1
    clear hm3 hm
    k_steps
    unfold Stop
    refine slice_led (s := { heap := h3, gens := s.gens, drawn := s.drawn, toks := _, os := s.os }) F4 N3 (.tail _ (.tail _ (List.mem_append_right _ (.head _)))) hq (by omega) fun D1 w1 h5 F5 N5 l5 hI1 => ?_
    dsimp only
    k_steps
    unfold Stop
    refine slice_to (s := { heap := h5, gens := s.gens, drawn := s.drawn, toks := _, os := s.os }) F5 N5 (.tail _ (.tail _ (.tail _ (List.mem_append_right _ (.head _))))) hq (by omega) fun D2 w2 h6 F6 N6 l6 hI2 => ?_
    dsimp only
    have hl1 := hI1.length
    have hl2 := hI2.length
    rw [List.length_drop] at hl1
    rw [List.length_take] at hl2
    k_steps
    unfold Stop
    rename_i Da wa ha hIa lA Db hb lB Dc wc hc Fc Nc hIc lC
    have hcG : ∀ q ∈ G ++ (Dw, listOf (List.toArray vs) kw) :: (L + 1, o1) :: R, q.1 < Dc := ktn_ltOf lC.2.2.2.2.2.2
    have hIH : H ≠ I := hI _ (.head _)
    refine Spec.use (heappush_spec (n := kh) (x := turnP row i) (rest := (Dc, listOf (List.toArray wc) 0) :: (I, itR (0 + ((i + 1 : Nat) : Int)) ((n : Int) - ((i + 1 : Nat) : Int))) :: (G ++ (Dw, listOf (List.toArray vs) kw) :: (L + 1, o1) :: R)) (RR := (Dc, listOf (List.toArray wc) 0) :: G) ?_ ?_ (hH.mono fun p hp => .tail _ hp) ⟨Dc, wc, 0, rfl, .head _, hIc⟩ (by rw [pushAll_length, List.length_map, List.length_range]; omega)) B Fc X (News.sub Nc ?_) TT C1 C2 rfl (by decide) (by decide) ?_
    · intro q hq
      rcases List.mem_cons.mp hq with rfl | hq
      · exact .head _
      · exact .tail _ (.tail _ (List.mem_append_left _ hq))
    · intro q hq
      rcases List.mem_cons.mp hq with rfl | hq
      · exact Nat.ne_of_gt lC.2.2.2.2.2.1
      rcases List.mem_cons.mp hq with rfl | hq
      · exact Ne.symm hIH
      rcases List.mem_append.mp hq with hq | hq
      · exact (hG q hq).1
      · exact hoff q hq
    · intro q hq
      rcases List.mem_cons.mp hq with rfl | hq
      · exact .tail _ (.tail _ (.tail _ (.tail _ (.tail _ (.tail _ (.head _))))))
      rcases List.mem_cons.mp hq with rfl | hq
      · exact .head _
      rcases List.mem_cons.mp hq with rfl | hq
      · exact .tail _ (.tail _ (.tail _ (.tail _ (.tail _ (.head _)))))
      · exact .tail _ (.tail _ (.tail _ (.tail _ (.tail _ (.tail _ (.tail _ hq))))))
    rintro v news' h9 tk9 F9 N9 ⟨rfl, wh', kh', rfl, hH'⟩
    k_steps
    unfold Stop
    refine UnrEnd.intro F9 N9 ((H, listOf (List.toArray wh') kh') :: (((Dc, listOf (List.toArray wc) 0) :: G) ++ (Dw, listOf (List.toArray vs) kw) :: (L + 1, o1) :: R)) ?_ ?_ ⟨(Dc, listOf (List.toArray wc) 0) :: G, wh', kh', rfl, ?_, ?_, ?_, hm'⟩
    · intro q hq
      rcases List.mem_cons.mp hq with rfl | hq
      · exact .tail _ (.tail _ (.head _))
      rcases List.mem_cons.mp hq with rfl | hq
      · exact .head _
      rcases List.mem_cons.mp hq with rfl | hq
      · exact .tail _ (.head _)
      · exact .tail _ (.tail _ (.tail _ hq))
    · intro q hq
      rcases List.mem_cons.mp hq with rfl | hq
      · exact hIH
      rcases List.mem_cons.mp hq with rfl | hq
      · exact Nat.ne_of_gt lC.2.2.2.2.1
      · exact hI q (.tail _ hq)
    · rw [List.range_succ, List.map_append, List.map_singleton, pushAll_snoc]
      exact hH'
    · intro q hq
      rcases List.mem_cons.mp hq with rfl | hq
      · exact hIH
      rcases List.mem_cons.mp hq with rfl | hq
      · exact Nat.ne_of_gt lC.2.2.2.2.1
      · exact hI q (.tail _ hq)
    · intro q hq
      rcases List.mem_cons.mp hq with rfl | hq
      · exact ⟨Nat.ne_of_gt lC.2.2.2.2.2.1, fun r hr => hcG r (List.mem_append_right _ hr)⟩
      · exact hG q hq
end Mine
end

section
open PySem PySem.W PyProof.Rows
set_option maxRecDepth 100000
set_option maxHeartbeats 2000000
namespace Mine
local macro_rules | `(tactic| walk_at "in of") => `(tactic| (with_reducible first | assumption | exact List.mem_cons_self | (refine List.mem_cons_of_mem _ ?_; walk_at "in of") | exact List.mem_append_left _ (by assumption) | exact List.mem_append_right _ (by assumption) | (refine List.mem_append_left _ ?_; walk_at "in of") | (refine List.mem_append_right _ ?_; walk_at "in of")))
local macro_rules | `(tactic| walk_at "sub of") => `(tactic| (with_reducible first | exact List.forall_mem_nil _ | (refine List.forall_mem_cons.mpr ⟨?_, ?_⟩; walk_at "in of"; walk_at "sub of") | (refine List.forall_mem_append.mpr ⟨?_, ?_⟩; walk_at "sub of"; walk_at "sub of") | (intro q9 h9; walk_at "in of")))

/-- what is left behind k pops -/
def popRest : Nat → List (List Int) → List (List Int)
  | 0, h => h
  | n + 1, h => popRest n (popP h).2
theorem popAll_snoc : ∀ (i : Nat) (h : List (List Int)), popAll (i + 1) h = popAll i h ++ [(popP (popRest i h)).1]
  | 0, h => rfl
  | i + 1, h => by rw [popAll, popAll_snoc i]; rfl
theorem popRest_snoc : ∀ (i : Nat) (h : List (List Int)), popRest (i + 1) h = (popP (popRest i h)).2
  | 0, h => rfl
  | i + 1, h => by rw [popRest, popRest_snoc i]; rfl
theorem siftupP_length (h : List (List Int)) : (siftupP h).length = h.length := by
  have su : ∀ new f (h : List (List Int)) pos, (suLoop new f h pos).length = h.length := by
    intro new f
    induction f with
    | zero => intro h pos; rw [suLoop, siftdownP_length, List.length_set]
    | succ f ih =>
      intro h pos
      rw [suLoop]
      dsimp only
      split
      · rw [ih, List.length_set]
      · rw [siftdownP_length, List.length_set]
  exact su _ _ _ _
theorem popP_length (h : List (List Int)) : (popP h).2.length = h.length - 1 := by
  unfold popP
  dsimp only
  have hl : h.dropLast.length = h.length - 1 := List.length_dropLast
  split
  · next e => rw [e] at hl; exact hl
  · next x r e => rw [e] at hl; rw [siftupP_length]; exact hl
theorem popRest_length : ∀ (i : Nat) (h : List (List Int)), (popRest i h).length = h.length - i
  | 0, h => rfl
  | i + 1, h => by rw [popRest, popRest_length i, popP_length]; omega
theorem popAll_length : ∀ (i : Nat) (h : List (List Int)), (popAll i h).length = i
  | 0, h => rfl
  | i + 1, h => by rw [popAll, List.length_cons, popAll_length i]
local macro_rules | `(tactic| walk_at $k:str) => if ["call ref", "exec For Name Call cons nil", "call builtin:list.append"].contains k.getString then `(tactic| (k_here; refine stop ?_)) else Lean.Macro.throwUnsupported
local macro_rules | `(tactic| walk_at $k:str) => if ["pyIter ref", "UnrPost", "UnrEnd"].contains k.getString then `(tactic| (refine stop ?_)) else Lean.Macro.throwUnsupported
local macro_rules | `(tactic| walk_at "eval Name") => `(tactic| (k_here; k_dflt (refine' nameX_L ?k1 ?k2 ?_; (case k1 => k_asm); (case k2 => assumption); k_whole)))
theorem seg9 {st9 : Stmt} {sc : Scope} (hst : lawSt 9 = st9) (hscp : lawScope = sc) {prog : Program} {w : World} {p : Program} {loose : List Str} {mean : ExcName → Option Value} {mg mb : Str → Option Value} {fa : Addr} {cd : Value} {h₀ : Heap} {L : Addr} {m : Str → Option Value} {s : Shared}
    {Q : Flow → Shared → Prop} {H Dt : Addr} {wh : List Value} {kh : Nat} {xss : List (List Int)} {o1 : Obj} {RR R : List (Addr × Obj)} {n : Nat} {tn : Tok}
    (B : Below callerA h₀ [] h₀) (F : Fr h₀ L s.heap m) (X : (hd.heap_39 w.params).In h₀) (TT : Top p loose mean mg mb h₀) (C1 : CodeHd h₀ 48 44) (C2 : CodeHd h₀ 41 37)
    (N : News h₀ L s.heap ((H, listOf (List.toArray wh) kh) :: (Dt, listOf (List.toArray []) 0) :: (L + 1, o1) :: R))
    (c1 : o1.data = .cell (some (.int n tn)))
    (e1 : m (Str.ofString "turns") = some (.ref Dt)) (e2 : m (Str.ofString "heap") = some (.ref H))
    (hn1 : 2 ≤ n) (hn2 : n ≤ 9) (hH : Heaped RR wh xss) (hql : xss.length = n) (hSub : ∀ q ∈ RR, q ∈ R) (hTH : Dt ≠ H) (hoff : ∀ q ∈ (L + 1, o1) :: R, q.1 ≠ H ∧ q.1 ≠ Dt)
    (hret : ∀ h' tk' m' wh kh wt kt, Fr h₀ L h' m' → News h₀ L h' ((H, listOf (List.toArray wh) kh) :: (Dt, listOf (List.toArray wt) kt) :: (L + 1, o1) :: R) →
      Heaped RR wh (popRest n xss) → Heaped RR wt (popAll n xss) →
      (∀ y, y ≠ Str.ofString "k" → m' y = m y) → Q .next { s with heap := h', toks := tk' }) :
    wpAny (model prog w) (lawA sc L fa cd) (exec st9 (envOfC (Str.ofString "law") sc L fa cd)) Q (fun _ _ => False) s := by
  conv at hst => lhs; whnf
  conv at hscp => lhs; whnf
  subst hst hscp
  k_steps
  unfold Stop
  refine For_invVF F rfl rfl ?_
  k_steps
  unfold Stop
  rename IsRange _ _ _ _ _ _ _ _ => hr
  rename Fr h₀ L _ _ => F2
  rename News h₀ L _ _ => N2
  refine iter_rangeUnr (n := n) rfl hr (small_one (by decide) (by decide) (by omega) (by omega)) (range_n (by omega)) F2 N2 ?_
  intro I lI
  have hIo : ∀ q ∈ (L + 1, o1) :: R, q.1 ≠ I := fun q hq => Nat.ne_of_lt (lI q (.tail _ (.tail _ hq)))
  have hIH : H ≠ I := Nat.ne_of_lt (lI _ (.head _))
  have hIT : Dt ≠ I := Nat.ne_of_lt (lI _ (.tail _ (.head _)))
  refine range_ind (fun i m' news' => ∃ wh kh wt kt, news' = (H, listOf (List.toArray wh) kh) :: (Dt, listOf (List.toArray wt) kt) :: (L + 1, o1) :: R ∧
    Heaped RR wh (popRest i xss) ∧ Heaped RR wt (popAll i xss) ∧ (∀ y, y ≠ Str.ofString "k" → m' y = m y)) ?_ ?_ ?_
  · exact ⟨wh, kh, [], 0, rfl, hH, .nil, fun _ _ => rfl⟩
  · rintro m' news' h tk ⟨wh, kh, wt, kt, rfl, hH, hT, hm⟩ F3 N3
    exact hret _ _ m' wh kh wt kt F3 N3 hH hT hm
  · rename Fr h₀ L s.heap m => F0
    rename News h₀ L s.heap _ => N0
    clear N2 F2 N0 F0 lI hr
    rintro i m' news' hi ⟨wh, kh, wt, kt, rfl, hH, hT, hm⟩ t h3 tk3 F3 N3
    have e1 : m' (Str.ofString "turns") = some (.ref Dt) := (hm _ (by decide)).trans e1
    have e2 : m' (Str.ofString "heap") = some (.ref H) := (hm _ (by decide)).trans e2
    obtain ⟨m3, hm3, F4⟩ : ∃ m3, m3 = _ ∧ Fr h₀ L h3 m3 := ⟨_, rfl, F3⟩
    clear F3
    replace e1 : m3 (Str.ofString "turns") = some (.ref Dt) := by rw [hm3]; exact e1
    replace e2 : m3 (Str.ofString "heap") = some (.ref H) := by rw [hm3]; exact e2
    have hm' : ∀ y, y ≠ Str.ofString "k" → m3 y = m y := fun y h1 => by rw [hm3]; show (if _ then _ else _) = _; rw [if_neg h1]; exact hm y h1
    clear hm3 hm
    have hrl := popRest_length i xss
    k_steps
    unfold Stop
    refine Spec.use (heappop_spec (n := kh) (RR := RR) (rest := (I, itR (0 + ((i + 1 : Nat) : Int)) ((n : Int) - ((i + 1 : Nat) : Int))) :: (Dt, listOf (List.toArray wt) kt) :: (L + 1, o1) :: R) (fun q hq => .tail _ (.tail _ (.tail _ (hSub q hq)))) ?_ hH (by omega) (by omega)) B F4 X (News.sub N3 ?_) TT C1 C2 rfl (by decide) (by decide) ?_
    · intro q hq
      rcases List.mem_cons.mp hq with rfl | hq
      · exact Ne.symm hIH
      rcases List.mem_cons.mp hq with rfl | hq
      · exact hTH
      · exact (hoff q hq).1
    · walk_at "sub of"
    rintro v news' h5 tk5 F5 N5 ⟨hv, wh', kh', rfl, hH'⟩
    k_steps
    unfold Stop
    rename_i tk9
    have hlT := hT.length
    rw [popAll_length] at hlT
    refine append_K F5 N5 (.tail (Ne.symm hTH) (.tail (Ne.symm hIT) (.head fun q hq => (hoff q hq).2))) ?_ (by rw [sizeLine_eq, List.size_toArray]; omega)
    intro h10 F10 N10
    rw [List.push_toArray] at N10
    k_steps
    unfold Stop
    refine UnrEnd.intro F10 N10 ((H, listOf (List.toArray wh') kh') :: (Dt, listOf (List.toArray (wt ++ [v])) (kt + 1)) :: (L + 1, o1) :: R) ?_ ?_ ⟨wh', kh', wt ++ [v], kt + 1, rfl, ?_, ?_, hm'⟩
    · walk_at "sub of"
    · intro q hq
      rcases List.mem_cons.mp hq with rfl | hq
      · exact hIH
      rcases List.mem_cons.mp hq with rfl | hq
      · exact hIT
      · exact hIo q hq
    · rw [popRest_snoc]; exact hH'
    · rw [popAll_snoc]; exact hT.append hv
end Mine
end

section
open PySem PySem.W PyProof.Rows
set_option maxRecDepth 100000
set_option maxHeartbeats 2000000
namespace Mine
/-- the ledger bears at the values vs tuples of two ints -/
inductive Pairs (news : List (Addr × Obj)) : List Value → List (Int × Int) → Prop where
  | nil : Pairs news [] []
  | cons {t : Addr} {a b : Int} {u v : Tok} {k : Nat} {vs ps} : (t, tupOf [.int a u, .int b v] k) ∈ news → Pairs news vs ps → Pairs news (.ref t :: vs) ((a, b) :: ps)
theorem Pairs.length {news vs ps} (h : Pairs news vs ps) : vs.length = ps.length := by
  induction h with
  | nil => rfl
  | cons _ _ ih => simp [ih]
theorem Pairs.mono {news news' vs ps} (h : Pairs news vs ps) (hs : ∀ p ∈ news, p ∈ news') : Pairs news' vs ps := by
  induction h with
  | nil => exact .nil
  | cons h0 _ ih => exact .cons (hs _ h0) ih
theorem Pairs.append {news vs ps ws qs} (h : Pairs news vs ps) (h' : Pairs news ws qs) : Pairs news (vs ++ ws) (ps ++ qs) := by
  induction h with
  | nil => exact h'
  | cons h0 _ ih => exact .cons h0 ih
theorem Pairs.get {news vs ps} (h : Pairs news vs ps) : ∀ {j : Nat}, j < ps.length → ∃ t u v k, vs[j]? = some (.ref t) ∧ (t, tupOf [.int (ps.getD j (0, 0)).1 u, .int (ps.getD j (0, 0)).2 v] k) ∈ news := by
  induction h with
  | nil => intro j hj; exact absurd hj (Nat.not_lt_zero _)
  | cons h0 _ ih =>
    intro j hj
    cases j with
    | zero => exact ⟨_, _, _, _, rfl, h0⟩
    | succ j => exact ih (Nat.lt_of_succ_lt_succ hj)
theorem Pairs.pick {news vs ps} (h : Pairs news vs ps) : ∀ (l : List Nat), (∀ i ∈ l, i < ps.length) → Pairs news (l.map fun i => vs.getD i .none) (l.map fun i => ps.getD i (0, 0))
  | [], _ => .nil
  | i :: l, hl => by
    obtain ⟨t, u, v, k, e, hm⟩ := h.get (hl i (.head _))
    have e' : vs.getD i .none = .ref t := by rw [List.getD_eq_getElem?_getD, e]; rfl
    show Pairs news (vs.getD i .none :: _) (ps.getD i (0, 0) :: _)
    rw [e']
    exact .cons hm (h.pick l fun j hj => hl j (.tail _ hj))
/-- a sort's questions answered by lt; none where a question is out of range -/
def kasRun {α : Type} (n : Nat) (lt : Nat → Nat → Bool) : KasT α → Option α
  | .ret a => some a
  | .ask i j k => if i < n ∧ j < n then kasRun n lt (k (lt i j)) else none
theorem kasRun_wp {α : Type} {n : Nat} {lt : Nat → Nat → Bool} {cmp : Nat → Nat → (Bool → Shared → Prop) → Shared → Prop} {G : α → Shared → Prop} {s : Shared} {a : α} (hask : ∀ i j C, i < n → j < n → C (lt i j) s → cmp i j C s) (hG : G a s) :
    ∀ t : KasT α, kasRun n lt t = some a → t.kasWp cmp G s
  | .ret b, h => by
    rw [kasRun] at h
    cases h
    exact hG
  | .ask i j k, h => by
    rw [kasRun] at h
    by_cases hij : i < n ∧ j < n
    · rw [if_pos hij] at h
      exact hask i j _ hij.1 hij.2 (kasRun_wp hask hG (k (lt i j)) h)
    · rw [if_neg hij] at h
      cases h
/-- Python's < of tuples of two ints, by their places -/
def ltP (ps : List (Int × Int)) (i j : Nat) : Bool :=
  let a := ps.getD i (0, 0)
  let b := ps.getD j (0, 0)
  if a.1 == b.1 then (if a.2 == b.2 then false else decide (a.2 < b.2)) else decide (a.1 < b.1)
theorem Pairs.tups {news vs ps} {h : Heap} (P : Pairs news vs ps) (hn : ∀ p ∈ news, h.get? p.1 = some p.2) : ∃ fs, KatTups h vs fs ∧ fs.length = vs.length ∧ ∀ v ∈ fs, ∃ a u, v = Value.int a u := by
  induction P with
  | nil => exact ⟨[], .nil, rfl, fun v hv => nomatch hv⟩
  | cons h0 _ ih =>
    obtain ⟨fs, a, b, c⟩ := ih
    refine ⟨_ :: fs, .cons (hn _ h0) rfl rfl rfl a, by simp [b], ?_⟩
    intro v hv
    rcases List.mem_cons.mp hv with rfl | hv
    · exact ⟨_, _, rfl⟩
    · exact c v hv
section
variable {prog : Program} {w : World} {A : Around} {E : Value → Shared → Prop} {s : Shared} {h₀ : Heap} {L : Addr} {m : Str → Option Value} {news : List (Addr × Obj)}
theorem sort_led {l : Addr} {vs : List Value} {k : Nat} {ps : List (Int × Int)} {p : Array Nat} {Q : Value → Shared → Prop} (F : Fr h₀ L s.heap m) (N : News h₀ L s.heap news) (hm : (l, listOf vs.toArray k) ∈ news) (P : Pairs news vs ps) (h2 : 2 ≤ ps.length) (h64 : ps.length < 64)
    (hrun : kasRun ps.length (ltP ps) (kas_sort ps.length) = some p)
    (h : ∀ D h' c, Fr h₀ L h' m → News h₀ L h' ((D, listOf (List.toArray (p.toList.map fun i => vs.getD i Value.none)) c) :: news) → (∀ q ∈ news, q.1 < D) → Q (.ref D) { s with heap := h' }) :
    wpAny (model prog w) A (call (.builtin "sorted") [.ref l]) Q E s := by
  have hl := P.length
  refine kat_sorted F N ⟨_, (N _ hm).1, rfl, _, rfl⟩ (by omega) (by omega) fun D e1 h' F' N' lD => ?_
  obtain ⟨fs, tt, hfl, hfi⟩ := P.tups (h := h') fun q hq => (N' q (.tail _ hq)).1
  refine kat_kind (fs := fs) (T := .type "int") tt (by omega) (fun v hv => ?_) (by decide) ?_
  · obtain ⟨a, u, rfl⟩ := hfi v hv
    exact Looks.of_pure rfl
  rw [hl]
  refine kasRun_wp (lt := ltP ps) (fun i j C hi hj hC => ?_) ?_ _ hrun
  · obtain ⟨t1, u1, v1, k1, x1, m1⟩ := P.get hi
    obtain ⟨t2, u2, v2, k2, x2, m2⟩ := P.get hj
    unfold kas_ask
    rw [List.getD_eq_getElem?_getD, x1, List.getD_eq_getElem?_getD, x2]
    refine kat_lt (N' _ (.tail _ m1)).1 rfl (N' _ (.tail _ m2)).1 rfl ?_
    unfold ltP at hC
    dsimp only at hC
    show KatLex _ _ _ _ _ _ [(Value.int _ _, Value.int _ _), (Value.int _ _, Value.int _ _)] 0 _
    refine kat_cons (wpAny_eqBool_int ?_)
    cases e1 : (ps.getD i (0, 0)).1 == (ps.getD j (0, 0)).1 with
    | true =>
      rw [e1, if_pos rfl] at hC
      refine kat_yes (kat_cons (wpAny_eqBool_int ?_))
      cases e2 : (ps.getD i (0, 0)).2 == (ps.getD j (0, 0)).2 with
      | true =>
        rw [e2, if_pos rfl] at hC
        exact kat_yes (kat_nil hC)
      | false =>
        rw [e2, if_neg (by simp)] at hC
        refine kat_no ?_
        exact kat_one _ _ (lt_int hC)
    | false =>
      rw [e1, if_neg (by simp)] at hC
      refine kat_no ?_
      exact oneLt_int hC
  · refine KasFin.intro F' N' (.head ?_) fun h'' c F'' N'' => h D h'' c F'' N'' lD
    exact fun q hq => Nat.ne_of_lt (lD q hq)
end
end Mine
end

section
open PySem PySem.W PyProof.Rows PyProof.Rows.LCg
set_option maxRecDepth 100000
set_option maxHeartbeats 2000000
namespace Mine
local macro_rules | `(tactic| walk_at "in of") => `(tactic| (with_reducible first | assumption | exact List.mem_cons_self | (refine List.mem_cons_of_mem _ ?_; walk_at "in of") | exact List.mem_append_left _ (by assumption) | exact List.mem_append_right _ (by assumption) | (refine List.mem_append_left _ ?_; walk_at "in of") | (refine List.mem_append_right _ ?_; walk_at "in of")))
local macro_rules | `(tactic| walk_at "sub of") => `(tactic| (with_reducible first | exact List.forall_mem_nil _ | (refine List.forall_mem_cons.mpr ⟨?_, ?_⟩; walk_at "in of"; walk_at "sub of") | (refine List.forall_mem_append.mpr ⟨?_, ?_⟩; walk_at "sub of"; walk_at "sub of") | (intro q9 h9; walk_at "in of")))
local macro_rules | `(tactic| walk_at $k:str) => if ["eval ListComp", "subscriptTail Name Name ref int", "call builtin:sorted"].contains k.getString then `(tactic| (k_here; refine stop ?_)) else Lean.Macro.throwUnsupported
local macro_rules | `(tactic| walk_at $k:str) => if ["CompSrc", "CompEnd"].contains k.getString then `(tactic| (refine stop ?_)) else Lean.Macro.throwUnsupported
abbrev psR (Rs : List Int) (n : Nat) : List (Int × Int) := (List.range n).map fun k : Nat => (Rs.getD k 0, (k : Int))
theorem seg10 {st10 : Stmt} {sc : Scope} (hst : lawSt 10 = st10) (hscp : lawScope = sc) {prog : Program} {w : World} {p : Program} {loose : List Str} {mean : ExcName → Option Value} {mg mb : Str → Option Value} {fa : Addr} {cd : Value} {h₀ : Heap} {L : Addr} {m : Str → Option Value} {s : Shared}
    {Q : Flow → Shared → Prop} {Dr : Addr} {wr : Array Value} {k2 : Nat} {Rs : List Int} {o1 o4 : Obj} {R : List (Addr × Obj)} {n : Nat} {tn : Tok} {pp : Array Nat}
    (B : Below callerA h₀ [] h₀) (F : Fr h₀ L s.heap m) (X : (hd.heap_39 w.params).In h₀) (TT : Top p loose mean mg mb h₀)
    (N : News h₀ L s.heap ((Dr, listOf wr k2) :: (L + 1, o1) :: (L + 1 + 1 + 1 + 1, o4) :: R))
    (c1 : o1.data = .cell (some (.int n tn))) (c4 : o4.data = .cell (some (.ref Dr)))
    (hn1 : 2 ≤ n) (hn2 : n ≤ 9) (hq : IntsAre wr.toList Rs) (hql : Rs.length = n + 1)
    (hrun : kasRun n (ltP (psR Rs n)) (kas_sort n) = some pp) (hpp : ∀ i ∈ pp.toList, i < n)
    (hret : ∀ h' tk' D out c G, Fr h₀ L h' (fun z => if z = Str.ofString "due" then some (.ref D) else m z) → News h₀ L h' ((D, listOf (List.toArray out) c) :: ((Dr, listOf wr k2) :: (L + 1, o1) :: (L + 1 + 1 + 1 + 1, o4) :: (G ++ R))) →
      Pairs G out (pp.toList.map fun i => (psR Rs n).getD i (0, 0)) →
      (∀ q ∈ (Dr, listOf wr k2) :: (L + 1, o1) :: (L + 1 + 1 + 1 + 1, o4) :: (G ++ R), q.1 < D) → (∀ q ∈ G, ∀ r ∈ (Dr, listOf wr k2) :: (L + 1, o1) :: (L + 1 + 1 + 1 + 1, o4) :: R, r.1 < q.1) → Q .next { s with heap := h', toks := tk' }) :
    wpAny (model prog w) (lawA sc L fa cd) (exec st10 (envOfC (Str.ofString "law") sc L fa cd)) Q (fun _ _ => False) s := by
  conv at hst => lhs; whnf
  conv at hscp => lhs; whnf
  subst hst hscp
  k_steps
  unfold Stop
  refine LCg.ListComp_U F (by with_unfolding_all rfl) (by decide) (by rfl) (by decide) (by rfl) ?_
  k_steps
  unfold Stop
  rename IsRange _ _ _ _ _ _ _ _ => hr
  rename Fr h₀ L _ _ => F2
  rename News h₀ L _ _ => N2
  refine LCg.CompSrc.range (n := n) rfl F2 N2 hr (small_one (by decide) (by decide) (by omega) (by omega)) (range_n (by omega)) (by rw [sizeLine_eq]; omega) fun gg => ?_
  refine comp_ind (fun i ys nw => ∃ G, nw = (Dr, listOf wr k2) :: (L + 1, o1) :: (L + 1 + 1 + 1 + 1, o4) :: (G ++ R) ∧ Pairs G ys (psR Rs i) ∧ ∀ q ∈ G, ∀ r ∈ (Dr, listOf wr k2) :: (L + 1, o1) :: (L + 1 + 1 + 1 + 1, o4) :: R, r.1 < q.1) ⟨[], rfl, .nil, fun q hq => nomatch hq⟩ ?_ ?_
  · rintro ys nw ⟨G, rfl, hJ, hG⟩ D h tk F4 N4 off
    k_steps
    unfold Stop
    have hlp : (psR Rs n).length = n := by rw [List.length_map, List.length_range]
    refine sort_led F4 N4 (.head _) (hJ.mono fun q hq => .tail _ (.tail _ (.tail _ (.tail _ (List.mem_append_left _ hq))))) (by omega) (by omega) (by rw [hlp]; exact hrun) fun D2 h5 c5 F5 N5 l5 => ?_
    k_steps
    rename Fr h₀ L _ _ => F6
    rename News h₀ L _ _ => N6
    refine hret _ _ D2 _ c5 G F6 (News.sub N6 fun q hq => ?_) (hJ.pick pp.toList (by rw [hlp]; exact hpp)) (fun q hq => l5 q (.tail _ hq)) hG
    rcases List.mem_cons.mp hq with rfl | hq
    · exact .head _
    · exact .tail _ (.tail _ hq)
  · rintro i ys nw hi ⟨G, rfl, hJ, hG⟩ v I oI C oC D m₂ h tk E' ⟨t, rfl⟩ hoC hx F4 N4 off hne
    obtain ⟨t1, hw1⟩ := hq.get i Rs[i] (List.getElem?_eq_getElem (by omega))
    have hN : (Dr, listOf (List.toArray wr.toList) k2) ∈ (I, oI) :: (C, oC) :: (D, lst ys) :: ((Dr, listOf wr k2) :: (L + 1, o1) :: (L + 1 + 1 + 1 + 1, o4) :: (G ++ R)) := by rw [Array.toArray_toList]; exact .tail _ (.tail _ (.tail _ (.head _)))
    k_steps
    unfold Stop
    refine item_led N4 hN (by omega) (by omega) (by rw [show (0 + (i : Int)).toNat = i by omega]; exact hw1) ?_
    k_steps
    unfold Stop
    rename_i D5 h5 F5 N5 l5
    have hl5 : ∀ q ∈ (Dr, listOf wr k2) :: (L + 1, o1) :: (L + 1 + 1 + 1 + 1, o4) :: (G ++ R), q.1 < D5 := ktn_ltOf l5.2.2.2
    refine LCg.CompEnd.intro F5 N5 ((Dr, listOf wr k2) :: (L + 1, o1) :: (L + 1 + 1 + 1 + 1, o4) :: (((D5, tupOf [.int Rs[i] t1, .int (0 + (i : Int)) t] 0) :: G) ++ R)) ?_ (Off3.of ?_) trivial ⟨(D5, tupOf [.int Rs[i] t1, .int (0 + (i : Int)) t] 0) :: G, rfl, ?_, ?_⟩
    · walk_at "sub of"
    · intro q hq
      simp only [List.mem_cons, List.mem_append] at hq
      rcases hq with h | h | h | (h | h) | h
      · exact off.mem q (by simp only [h, List.mem_cons, true_or, or_true])
      · exact off.mem q (by simp only [h, List.mem_cons, true_or, or_true])
      · exact off.mem q (by simp only [h, List.mem_cons, true_or, or_true])
      · rw [h]; exact ⟨Nat.ne_of_gt l5.1, Nat.ne_of_gt l5.2.1, Nat.ne_of_gt l5.2.2.1⟩
      · exact off.mem q (by simp only [h, List.mem_cons, List.mem_append, true_or, or_true])
      · exact off.mem q (by simp only [h, List.mem_cons, List.mem_append, true_or, or_true])
    · rw [psR, List.range_succ, List.map_append, List.map_singleton]
      refine (hJ.mono fun q hq => .tail _ hq).append ?_
      · rw [List.getD_eq_getElem?_getD, List.getElem?_eq_getElem (show i < Rs.length by omega)]
        refine .cons (u := t1) (v := t) (k := 0) ?_ .nil
        rw [Int.zero_add]
        exact .head _
    · intro q hq
      rcases List.mem_cons.mp hq with rfl | hq
      · intro r hr
        refine hl5 r ?_
        simp only [List.mem_cons, List.mem_append] at hr ⊢
        rcases hr with h | h | h | h <;> simp only [h, true_or, or_true]
      · exact hG q hq
end Mine
end

section
open PySem PySem.W PyProof.Rows PyProof.Rows.LCg
set_option maxRecDepth 100000
set_option maxHeartbeats 2000000
namespace Mine
local macro_rules | `(tactic| walk_at "no key") => `(tactic| skip)
section
variable {prog : Program} {w : World} {A : Around} {h₀ : Heap} {L : Addr} {m : Str → Option Value} {env : Env} {elt : PySem.Expr} {x x₂ : Str} {scope : Scope} {cl : List (Str × Addr)} {s : Shared} {S : List (Addr × Obj) → Prop} {P : Nat → Value → Prop} {Fin : List Value → List (Addr × Obj) → Prop} {n : Nat} {news : List (Addr × Obj)}
/-- a comprehension over pairs, by an invariant -/
theorem compP_ind (J : Nat → List Value → List (Addr × Obj) → Prop) (j0 : J 0 [] news) (hfin : ∀ ys news', J n ys news' → Fin ys news')
    (step : ∀ i ys nw, i < n → J i ys nw → ∀ v, P i v → ∃ (t : Addr) (ot : Obj) (v₁ v₂ : Value) (nt : Nat), v = .ref t ∧ (t, ot) ∈ nw ∧ ot.cls = .type "tuple" ∧ ot.data = .seq #[v₁, v₂] nt ∧
      ∀ I oI C oC D m₂ h tk (E' : Value → Shared → Prop), NsObj oC m₂ → m₂ x = some v₁ → m₂ x₂ = some v₂ → Fr h₀ L h m → News h₀ L h ((I, oI) :: (C, oC) :: (D, lst ys) :: nw) → Off3 I C D nw → ((@Ne Nat I C) ∧ (@Ne Nat I D) ∧ (@Ne Nat C D)) →
      wpAny (model prog w) A (eval elt (compEnvC scope cl C env)) (CompEnd h₀ L m { s with heap := h, toks := tk } I oI C oC D (lst ys) S (fun y news' => J (i + 1) (ys ++ [y]) news')) E' { s with heap := h, toks := tk }) :
    LCp.CompRestP prog w A h₀ L m env elt x x₂ scope cl s S P Fin n 0 [] news := by
  have gen : ∀ k i ys nw, i + k = n → J i ys nw → LCp.CompRestP prog w A h₀ L m env elt x x₂ scope cl s S P Fin k i ys nw := by
    intro k
    induction k with
    | zero => intro i ys nw hi hj; exact hfin ys nw (by rw [← hi]; exact hj)
    | succ k ih =>
      intro i ys nw hi hj
      refine LCp.CompRestP.succ fun v hv => ?_
      obtain ⟨t, ot, v₁, v₂, nt, e1, e2, e3, e4, st⟩ := step i ys nw (by omega) hj v hv
      refine ⟨t, ot, v₁, v₂, nt, e1, e2, e3, e4, fun I oI C oC D m₂ h tk E' hoC hx hx2 F N off hne => ?_⟩
      refine wpAny_mono (st I oI C oC D m₂ h tk E' hoC hx hx2 F N off hne) (fun y s'' hy => ?_) fun _ _ e => e
      obtain ⟨h', tk', nw', e, F', N', off', hS', hJ⟩ := hy
      exact ⟨h', tk', nw', e, F', N', off', hS', ih (i + 1) _ nw' (by omega) hJ⟩
  exact gen n 0 [] news (by omega) j0
end
local macro_rules | `(tactic| walk_at $k:str) => if ["eval ListComp", "compareOp NotEq ref ref", "subscriptTail Name UnaryOp ref int"].contains k.getString then `(tactic| (k_here; refine stop ?_)) else Lean.Macro.throwUnsupported
local macro_rules | `(tactic| walk_at $k:str) => if ["CompSrc", "SrcLP", "CompEnd"].contains k.getString then `(tactic| (refine stop ?_)) else Lean.Macro.throwUnsupported
local macro_rules | `(tactic| walk_at "ite") => `(tactic| first | (refine PySem.W.ite_neg Bool.false_ne_true ?_) | (refine stop ?_))
local macro_rules | `(tactic| walk_at "eval Name") => `(tactic| (k_here; k_dflt (refine' nameX_L ?k1 ?k2 ?_; (case k1 => k_asm); (case k2 => assumption); k_whole)))
theorem seg11 {st11 : Stmt} {sc : Scope} (hst : lawSt 11 = st11) (hscp : lawScope = sc) {prog : Program} {w : World} {p : Program} {loose : List Str} {mean : ExcName → Option Value} {mg mb : Str → Option Value} {fa : Addr} {cd : Value} {h₀ : Heap} {L : Addr} {m : Str → Option Value} {s : Shared}
    {Q : Flow → Shared → Prop} {H Dt Dd : Addr} {wt wd : List Value} {kh kt kd : Nat} {tss : List (List Int)} {ps : List (Int × Int)} {RR R : List (Addr × Obj)}
    (B : Below callerA h₀ [] h₀) (F : Fr h₀ L s.heap m) (X : (hd.heap_39 w.params).In h₀) (TT : Top p loose mean mg mb h₀)
    (N : News h₀ L s.heap ((H, listOf (List.toArray []) kh) :: (Dt, listOf (List.toArray wt) kt) :: (Dd, listOf (List.toArray wd) kd) :: R))
    (e1 : m (Str.ofString "turns") = some (.ref Dt)) (e2 : m (Str.ofString "heap") = some (.ref H)) (e3 : m (Str.ofString "due") = some (.ref Dd))
    (hT : Heaped RR wt tss) (hD : Pairs RR wd ps) (hSub : ∀ q ∈ RR, q ∈ R) (hne : ∀ t ∈ tss, 0 < t.length ∧ t.length ≤ 100) (hlt : tss.length ≤ 100) (hlp : ps.length ≤ 100) (heq : tss.map (fun t => t.getLastD 0) = ps.map (·.2))
    (hret : ∀ h' tk', Fr h₀ L h' m → News h₀ L h' ((H, listOf (List.toArray []) kh) :: (Dt, listOf (List.toArray wt) kt) :: (Dd, listOf (List.toArray wd) kd) :: R) → Q .next { s with heap := h', toks := tk' }) :
    wpAny (model prog w) (lawA sc L fa cd) (exec st11 (envOfC (Str.ofString "law") sc L fa cd)) Q (fun _ _ => False) s := by
  conv at hst => lhs; whnf
  conv at hscp => lhs; whnf
  subst hst hscp
  k_steps
  unfold Stop
  rename_i l2 h2 F2 N2 lt2
  refine ke_ne_ints (xs := []) (ys := []) (ns := []) (ms := []) ⟨_, (N2 _ (.tail _ (.head _))).1, rfl, _, rfl⟩ ⟨_, (N2 _ (.head _)).1, rfl, _, rfl⟩ .nil .nil (by ke_room) ?_
  rw [show (!decide (([] : List Int) = [])) = false by simp]
  k_steps
  unfold Stop
  refine LCg.ListComp_U F2 (by with_unfolding_all rfl) (by decide) (by rfl) (by decide) (by rfl) ?_
  k_steps
  unfold Stop
  have hlw := hT.length
  have hld := hD.length
  refine LCg.CompSrc.ledger rfl F2 N2 (.tail _ (.tail _ (.head _))) (by rw [sizeLine_eq, List.size_toArray]; omega) fun g => ?_
  refine comp_ind (fun i ys nw => nw = (l2, listOf #[] 0) :: (H, listOf (List.toArray []) kh) :: (Dt, listOf (List.toArray wt) kt) :: (Dd, listOf (List.toArray wd) kd) :: R ∧ IntsAre ys ((tss.take i).map fun t => t.getLastD 0)) ⟨rfl, .nil⟩ ?_ ?_
  · rintro ys nw ⟨rfl, hJ⟩ D3 h3 tk3 F3 N3 off3
    rw [List.size_toArray, hlw, List.take_of_length_le (Nat.le_refl _)] at hJ
    have hof3 := off1_mem off3
    k_steps
    unfold Stop
    refine LCp.ListComp_P F3 (by with_unfolding_all rfl) (by decide) (by rfl) (by decide) (by rfl) (by rfl) (by decide) ?_
    k_steps
    unfold Stop
    refine LCp.SrcLP.ledger rfl F3 N3 (.tail _ (.tail _ (.tail _ (.tail _ (.head _))))) (by rw [sizeLine_eq, List.size_toArray]; omega) fun g2 => ?_
    refine compP_ind (fun i ys' nw => nw = (D3, lst ys) :: (l2, listOf #[] 0) :: (H, listOf (List.toArray []) kh) :: (Dt, listOf (List.toArray wt) kt) :: (Dd, listOf (List.toArray wd) kd) :: R ∧ IntsAre ys' ((ps.take i).map (·.2))) ⟨rfl, .nil⟩ ?_ ?_
    · rintro ys' nw ⟨rfl, hJ'⟩ D4 h4 tk4 F4 N4 off4
      rw [List.size_toArray, hld, List.take_of_length_le (Nat.le_refl _)] at hJ'
      k_steps
      unfold Stop
      refine ke_ne_ints ⟨_, (N4 _ (.tail _ (.head _))).1, rfl, _, rfl⟩ ⟨_, (N4 _ (.head _)).1, rfl, _, rfl⟩ hJ hJ' (by ke_room) ?_
      rw [show (!decide ((tss.map fun t => t.getLastD 0) = ps.map (·.2))) = false by rw [heq]; simp]
      k_steps
      refine hret _ _ F4 (News.sub N4 fun q hq => ?_)
      exact .tail _ (.tail _ (.tail _ hq))
    · rintro i ys' nw hi ⟨rfl, hJ'⟩ v hv
      rw [List.size_toArray, hld] at hi
      obtain ⟨t, u1, u2, k, hv', hm⟩ := hD.get hi
      have hvv : v = .ref t := by
        have : wd[i]? = some v := by simpa using hv
        rw [hv'] at this
        exact (Option.some.inj this).symm
      have hmm : (t, tupOf [.int (ps.getD i (0, 0)).1 u1, .int (ps.getD i (0, 0)).2 u2] k) ∈ (D3, lst ys) :: (l2, listOf #[] 0) :: (H, listOf (List.toArray []) kh) :: (Dt, listOf (List.toArray wt) kt) :: (Dd, listOf (List.toArray wd) kd) :: R := by
        have := hSub _ hm
        simp only [List.mem_cons, this, or_true]
      refine ⟨t, _, _, _, k, hvv, hmm, rfl, rfl, ?_⟩
      intro I oI C oC D m₂ h tk E' hoC hx hx2 F5 N5 off hne3
      k_steps
      unfold Stop
      refine LCg.CompEnd.intro F5 N5 _ (fun p hp => hp) off (.inr ⟨_, .tail _ (.tail _ (.tail _ (.tail _ (.head _)))), rfl, _, rfl⟩) ⟨rfl, ?_⟩
      rw [List.take_succ, List.map_append, List.getElem?_eq_getElem hi]
      refine hJ'.append ?_
      rw [List.getD_eq_getElem?_getD, List.getElem?_eq_getElem hi]
      exact .cons _ _ .nil
  · rintro i ys nw hi ⟨rfl, hJ⟩ v I oI C oC D m₂ h tk E' hv hoC hx F4 N4 off hne3
    rw [List.size_toArray, hlw] at hi
    obtain ⟨v', hv', a, ws, k, rfl, hm, hI⟩ := hT.get hi
    have hvv : v = .ref a := by
      have : wt[i]? = some v := by simpa using hv
      rw [hv'] at this
      exact (Option.some.inj this).symm
    subst hvv
    obtain ⟨hn0, hn1⟩ := hne _ (List.getElem_mem hi)
    have hg : tss.getD i [] = tss[i] := by rw [List.getD_eq_getElem?_getD, List.getElem?_eq_getElem hi]; rfl
    rw [hg] at hI
    k_steps
    unfold Stop
    have hmm : (a, listOf ws.toArray k) ∈ (I, oI) :: (C, oC) :: (D, lst ys) :: (l2, listOf #[] 0) :: (H, listOf (List.toArray []) kh) :: (Dt, listOf (List.toArray wt) kt) :: (Dd, listOf (List.toArray wd) kd) :: R := by
      have := hSub _ hm
      simp only [List.mem_cons, this, or_true]
    refine item_list_ints_neg (ns := tss[i]) ⟨_, (N4 _ hmm).1, rfl, _, rfl⟩ hI (by decide) (by omega) (by decide) ?_
    intro t5
    k_steps
    unfold Stop
    refine LCg.CompEnd.intro F4 N4 _ (fun p hp => hp) off (.inr ⟨_, .tail _ (.tail _ (.head _)), rfl, _, rfl⟩) ⟨rfl, ?_⟩
    rw [List.take_succ, List.map_append, List.getElem?_eq_getElem hi]
    refine hJ.append ?_
    have hlast : tss[i].getD (-1 + (tss[i].length : Int)).toNat 0 = tss[i].getLastD 0 := by
      rw [show (-1 + (tss[i].length : Int)).toNat = tss[i].length - 1 by omega, List.getD_eq_getElem?_getD, List.getLastD_eq_getLast?, List.getLast?_eq_getElem?]
    rw [hlast]
    exact .cons _ _ .nil
end Mine
end

section
open PySem PySem.W PyProof.Rows PyProof.Rows.LCg
set_option maxRecDepth 100000
set_option maxHeartbeats 2000000
namespace Mine
/-- the last loop's statements -/
def loopSt (n : Nat) : Stmt := match lawSt 12 with
  | .For _ _ body _ _ => body.getD n (.Pass default)
  | _ => .Pass default
def overP (n : Nat) (Rs : List Int) (pl more : Int) : List Int := ((List.range n).map Int.ofNat).filter fun j => decide (Rs.getD ((pl + j).fmod n).toNat 0 + more ≥ n)
def goneP (ov : List Int) : List Int := ov.filter fun j => !ov.contains (j + 1)
def comeP (ov : List Int) : List Int := (ov.filter fun j => !ov.contains (j - 1)).map (· - 1)
theorem neAdd (L i j : Nat) (h : i ≠ j) : L + i ≠ L + j := fun e => h (Nat.add_left_cancel e)
theorem farN {L a : Nat} (h : a < L ∨ L + 7 < a) : a ≠ L + 5 ∧ a ≠ L + 6 ∧ a ≠ L + 7 := by omega
theorem far {L a : Addr} (h : a < L ∨ L + 7 < a) : a ≠ L + 1 + 1 + 1 + 1 + 1 ∧ a ≠ L + 1 + 1 + 1 + 1 + 1 + 1 ∧ a ≠ L + 1 + 1 + 1 + 1 + 1 + 1 + 1 := farN h
theorem upd7 {L : Addr} {o1 o2 o3 o4 o5 o6 o7 : Obj} {R : List (Addr × Obj)} (hR : ∀ q ∈ R, q.1 ≠ L + 1 + 1 + 1 + 1 + 1 + 1 + 1) :
    UpdF (L + 1 + 1 + 1 + 1 + 1 + 1 + 1) o7 (cellsL L o1 o2 o3 o4 o5 o6 o7 R) (fun o => cellsL L o1 o2 o3 o4 o5 o6 o R) :=
  .tail (neAdd L 1 7 (by decide)) (.tail (neAdd L 2 7 (by decide)) (.tail (neAdd L 3 7 (by decide)) (.tail (neAdd L 4 7 (by decide)) (.tail (neAdd L 5 7 (by decide)) (.tail (neAdd L 6 7 (by decide)) (.head hR))))))
theorem upd6 {L : Addr} {o1 o2 o3 o4 o5 o6 o7 : Obj} {R : List (Addr × Obj)} (hR : ∀ q ∈ R, q.1 ≠ L + 1 + 1 + 1 + 1 + 1 + 1) :
    UpdF (L + 1 + 1 + 1 + 1 + 1 + 1) o6 (cellsL L o1 o2 o3 o4 o5 o6 o7 R) (fun o => cellsL L o1 o2 o3 o4 o5 o o7 R) :=
  .tail (neAdd L 1 6 (by decide)) (.tail (neAdd L 2 6 (by decide)) (.tail (neAdd L 3 6 (by decide)) (.tail (neAdd L 4 6 (by decide)) (.tail (neAdd L 5 6 (by decide)) (.head (by
    intro q hq
    rcases List.mem_cons.mp hq with rfl | hq
    · exact neAdd L 7 6 (by decide)
    · exact hR q hq))))))
theorem upd5 {L : Addr} {o1 o2 o3 o4 o5 o6 o7 : Obj} {R : List (Addr × Obj)} (hR : ∀ q ∈ R, q.1 ≠ L + 1 + 1 + 1 + 1 + 1) :
    UpdF (L + 1 + 1 + 1 + 1 + 1) o5 (cellsL L o1 o2 o3 o4 o5 o6 o7 R) (fun o => cellsL L o1 o2 o3 o4 o o6 o7 R) :=
  .tail (neAdd L 1 5 (by decide)) (.tail (neAdd L 2 5 (by decide)) (.tail (neAdd L 3 5 (by decide)) (.tail (neAdd L 4 5 (by decide)) (.head (by
    intro q hq
    rcases List.mem_cons.mp hq with rfl | hq
    · exact neAdd L 6 5 (by decide)
    rcases List.mem_cons.mp hq with rfl | hq
    · exact neAdd L 7 5 (by decide)
    · exact hR q hq)))))
end Mine
end

section
open PySem PySem.W PyProof.Rows PyProof.Rows.LCg
set_option maxRecDepth 100000
set_option maxHeartbeats 2000000
namespace Mine
local macro_rules | `(tactic| walk_at "in of") => `(tactic| (with_reducible first | assumption | exact List.mem_cons_self | (refine List.mem_cons_of_mem _ ?_; walk_at "in of") | exact List.mem_append_left _ (by assumption) | exact List.mem_append_right _ (by assumption) | (refine List.mem_append_left _ ?_; walk_at "in of") | (refine List.mem_append_right _ ?_; walk_at "in of")))
local macro_rules | `(tactic| walk_at "sub of") => `(tactic| (with_reducible first | exact List.forall_mem_nil _ | (refine List.forall_mem_cons.mpr ⟨?_, ?_⟩; walk_at "in of"; walk_at "sub of") | (refine List.forall_mem_append.mpr ⟨?_, ?_⟩; walk_at "sub of"; walk_at "sub of") | (intro q9 h9; walk_at "in of")))
local macro_rules | `(tactic| walk_at $k:str) => if ["eval ListComp", "subscriptTail Name BinOp ref int", "storeName"].contains k.getString then `(tactic| (k_here; refine stop ?_)) else Lean.Macro.throwUnsupported
local macro_rules | `(tactic| walk_at $k:str) => if ["CompSrcT", "CompEnd", "ite"].contains k.getString then `(tactic| (refine stop ?_)) else Lean.Macro.throwUnsupported
theorem over_st {st : Stmt} {sc : Scope} (hst : loopSt 2 = st) (hscp : lawScope = sc) {prog : Program} {w : World} {p : Program} {loose : List Str} {mean : ExcName → Option Value} {mg mb : Str → Option Value} {fa : Addr} {cd : Value} {h₀ : Heap} {L : Addr} {m : Str → Option Value} {s : Shared}
    {Q : Flow → Shared → Prop} {Dr : Addr} {wr : List Value} {k2 : Nat} {Rs : List Int} {o1 o2 o3 o4 o5 o6 o7 : Obj} {R : List (Addr × Obj)} {n : Nat} {pl mo : Int} {tn tp tm : Tok} {v7 : Option Value}
    (B : Below callerA h₀ [] h₀) (F : Fr h₀ L s.heap m) (X : (hd.heap_39 w.params).In h₀) (TT : Top p loose mean mg mb h₀)
    (N : News h₀ L s.heap (cellsL L o1 o2 o3 o4 o5 o6 o7 R)) (hR : ∀ q ∈ R, q.1 < L ∨ L + 7 < q.1)
    (c1 : o1.data = .cell (some (.int n tn))) (c4 : o4.data = .cell (some (.ref Dr))) (c5 : o5.data = .cell (some (.int pl tp))) (c6 : o6.data = .cell (some (.int mo tm))) (c7 : o7.data = .cell v7)
    (hDr : (Dr, listOf (List.toArray wr) k2) ∈ R) (hn1 : 2 ≤ n) (hn2 : n ≤ 9) (hq : IntsAre wr Rs) (hql : Rs.length = n + 1) (hp1 : 0 ≤ pl) (hp2 : pl < n)
    (hret : ∀ h' tk' o7' D vs, Fr h₀ L h' m → News h₀ L h' (cellsL L o1 o2 o3 o4 o5 o6 o7' ((D, lst vs) :: R)) → o7'.data = .cell (some (.ref D)) → IntsAre vs (overP n Rs pl mo) → (∀ q ∈ R, q.1 ≠ D) → Q .next { s with heap := h', toks := tk' }) :
    wpAny (model prog w) (lawA sc L fa cd) (exec st (envOfC (Str.ofString "law") sc L fa cd)) Q (fun _ _ => False) s := by
  conv at hst => lhs; whnf
  conv at hscp => lhs; whnf
  subst hst hscp
  k_steps
  unfold Stop
  refine LCt.ListComp_T F (by with_unfolding_all rfl) (by decide) (by rfl) (by decide) (by rfl) ?_
  k_steps
  unfold Stop
  rename IsRange _ _ _ _ _ _ _ _ => hr
  rename Fr h₀ L _ _ => F2
  rename News h₀ L _ _ => N2
  refine LCt.CompSrcT.range (n := n) rfl F2 N2 hr (small_one (by decide) (by decide) (by omega) (by omega)) (range_n (by omega)) (by rw [sizeLine_eq]; omega) fun gg => ?_
  refine compT_ind (fun i ys nw => nw = cellsL L o1 o2 o3 o4 o5 o6 o7 R ∧ IntsAre ys (((List.range i).map Int.ofNat).filter fun j => decide (Rs.getD ((pl + j).fmod n).toNat 0 + mo ≥ n))) ⟨rfl, .nil⟩ ?_ ?_
  · rintro ys nw ⟨rfl, hJ⟩ D h tk F4 N4 off
    have hof := off1_mem off
    k_steps
    unfold Stop
    refine storeX_C F4 N4 rfl (.tail (Ne.symm (hof (L + 1 + 1 + 1 + 1 + 1 + 1 + 1, o7) (.tail _ (.tail _ (.tail _ (.tail _ (.tail _ (.tail _ (.head _))))))))) (upd7 fun q hq => (far (hR q hq)).2.2)) c7 ?_
    intro h5 o7' F5 N5 c7'
    refine hret _ _ o7' D ys F5 (News.sub N5 fun q hq => ?_) c7' hJ fun q hq => hof q (mem_tail7 hq)
    revert q hq
    walk_at "sub of"
  · rintro i ys nw hi ⟨rfl, hJ⟩ v I oI C oC D m₂ h tk E' ⟨t, rfl⟩ hoC hx F4 N4 off hne
    have hf1 := Int.fmod_nonneg_of_pos (pl + (i : Int)) (show (0 : Int) < n by omega)
    have hf2 := Int.fmod_lt_of_pos (pl + (i : Int)) (show (0 : Int) < n by omega)
    have hx1 : ((pl + (i : Int)).fmod n).toNat < Rs.length := by omega
    obtain ⟨tx, hwx⟩ := hq.get _ Rs[((pl + (i : Int)).fmod n).toNat] (List.getElem?_eq_getElem hx1)
    have hmm : (Dr, listOf (List.toArray wr) k2) ∈ (I, oI) :: (C, oC) :: (D, lst ys) :: cellsL L o1 o2 o3 o4 o5 o6 o7 R := .tail _ (.tail _ (.tail _ (mem_tail7 hDr)))
    k_steps
    unfold Stop
    refine item_led N4 hmm (by rw [Int.zero_add]; exact hf1) (by rw [Int.zero_add]; omega) (by rw [Int.zero_add]; exact hwx) ?_
    have hd : Rs.getD ((pl + (i : Int)).fmod n).toNat 0 = Rs[((pl + (i : Int)).fmod n).toNat] := by rw [List.getD_eq_getElem?_getD, List.getElem?_eq_getElem hx1]; rfl
    k_steps
    unfold Stop
    simp only [Int.zero_add]
    have hfil : ((List.range (i + 1)).map Int.ofNat).filter (fun j => decide (Rs.getD ((pl + j).fmod n).toNat 0 + mo ≥ n)) = ((List.range i).map Int.ofNat).filter (fun j => decide (Rs.getD ((pl + j).fmod n).toNat 0 + mo ≥ n)) ++ (if (n : Int) ≤ Rs[((pl + (i : Int)).fmod n).toNat] + mo then [(i : Int)] else []) := by
      rw [List.range_succ, List.map_append, List.filter_append, List.map_singleton]
      congr 1
      show List.filter _ [(i : Int)] = _
      by_cases hge : (n : Int) ≤ Rs[((pl + (i : Int)).fmod n).toNat] + mo
      · rw [if_pos hge, List.filter_cons_of_pos (by rw [hd]; exact decide_eq_true hge)]; rfl
      · rw [if_neg hge, List.filter_cons_of_neg (by rw [hd]; simpa using hge)]; rfl
    by_cases hge : (n : Int) ≤ Rs[((pl + (i : Int)).fmod n).toNat] + mo
    · rw [if_pos hge] at hfil
      refine PySem.W.ite_pos (decide_eq_true hge) ?_
      k_steps
      unfold Stop
      refine LCg.CompEnd.intro F4 N4 _ (fun p hp => hp) off trivial ⟨rfl, ?_⟩
      rw [hfil]
      refine hJ.append ?_
      rw [Int.zero_add]
      exact .cons _ _ .nil
    · rw [if_neg hge, List.append_nil] at hfil
      refine PySem.W.ite_neg (by simpa using hge) ?_
      refine LCg.CompEnd.intro F4 N4 _ (fun p hp => hp) off trivial ⟨rfl, ?_⟩
      rw [hfil]
      exact hJ
end Mine
end

section
open PySem PySem.W PyProof.Rows PyProof.Rows.LCg
set_option maxRecDepth 100000
set_option maxHeartbeats 2000000
namespace Mine
local macro_rules | `(tactic| walk_at "no key") => `(tactic| skip)
local macro_rules | `(tactic| walk_at "in of") => `(tactic| (with_reducible first | assumption | exact List.mem_cons_self | (refine List.mem_cons_of_mem _ ?_; walk_at "in of") | exact List.mem_append_left _ (by assumption) | exact List.mem_append_right _ (by assumption) | (refine List.mem_append_left _ ?_; walk_at "in of") | (refine List.mem_append_right _ ?_; walk_at "in of")))
local macro_rules | `(tactic| walk_at "sub of") => `(tactic| (with_reducible first | exact List.forall_mem_nil _ | (refine List.forall_mem_cons.mpr ⟨?_, ?_⟩; walk_at "in of"; walk_at "sub of") | (refine List.forall_mem_append.mpr ⟨?_, ?_⟩; walk_at "sub of"; walk_at "sub of") | (intro q9 h9; walk_at "in of")))
local macro_rules | `(tactic| walk_at $k:str) => if ["CompSrcT", "CompEnd", "ite"].contains k.getString then `(tactic| (refine stop ?_)) else Lean.Macro.throwUnsupported
local macro_rules | `(tactic| walk_at "compareOp NotIn") => `(tactic| (k_here; refine stop ?_))
theorem filter_one {α : Type} (p : α → Bool) (a : α) : [a].filter p = if p a = true then [a] else [] := by cases h : p a <;> simp [h]
theorem ints_kf {vs : List Value} {ns : List Int} (h : IntsAre vs ns) : kf_ints vs = true := by
  induction h with
  | nil => rfl
  | cons a t _ ih => exact ih
theorem ints_any {vs : List Value} {ns : List Int} (h : IntsAre vs ns) (k : Int) : vs.any (isInt k) = ns.contains k := by
  induction h with
  | nil => rfl
  | cons a t _ ih =>
    rw [List.any_cons, ih, List.contains_cons]
    congr 1
    show (a == k) = (k == a)
    exact Bool.beq_comm
theorem gone_st {st : Stmt} {sc : Scope} (hst : loopSt 3 = st) (hscp : lawScope = sc) {prog : Program} {w : World} {p : Program} {loose : List Str} {mean : ExcName → Option Value} {mg mb : Str → Option Value} {fa : Addr} {cd : Value} {h₀ : Heap} {L : Addr} {m : Str → Option Value} {s : Shared}
    {Q : Flow → Shared → Prop} {Dv : Addr} {vs : List Value} {ov : List Int} {o1 o2 o3 o4 o5 o6 o7 : Obj} {R : List (Addr × Obj)}
    (B : Below callerA h₀ [] h₀) (F : Fr h₀ L s.heap m) (X : (hd.heap_39 w.params).In h₀) (TT : Top p loose mean mg mb h₀)
    (N : News h₀ L s.heap (cellsL L o1 o2 o3 o4 o5 o6 o7 ((Dv, lst vs) :: R)))
    (c7 : o7.data = .cell (some (.ref Dv))) (hq : IntsAre vs ov) (hql : ov.length ≤ 100)
    (hret : ∀ h' tk' D ys, Fr h₀ L h' (fun z => if z = Str.ofString "gone" then some (.ref D) else m z) → News h₀ L h' (cellsL L o1 o2 o3 o4 o5 o6 o7 ((D, lst ys) :: (Dv, lst vs) :: R)) → IntsAre ys (goneP ov) → Q .next { s with heap := h', toks := tk' }) :
    wpAny (model prog w) (lawA sc L fa cd) (exec st (envOfC (Str.ofString "law") sc L fa cd)) Q (fun _ _ => False) s := by
  conv at hst => lhs; whnf
  conv at hscp => lhs; whnf
  subst hst hscp
  have hlv := hq.length
  refine LCt.Assign_ListComp_T F (by rfl) (by with_unfolding_all rfl) (by with_unfolding_all rfl) (by decide) (by rfl) (by decide) (by rfl) (by rfl) (by rfl) ?_
  k_steps
  unfold Stop
  rename Fr h₀ L _ _ => F2
  rename News h₀ L _ _ => N2
  refine LCt.CompSrcT.ledger rfl F2 N2 (mem_tail7 (.head _)) (by rw [sizeLine_eq, List.size_toArray]; omega) fun gg => ?_
  refine compT_ind (fun i ys nw => nw = cellsL L o1 o2 o3 o4 o5 o6 o7 ((Dv, lst vs) :: R) ∧ IntsAre ys ((ov.take i).filter fun j => !ov.contains (j + 1))) ⟨rfl, .nil⟩ ?_ ?_
  · rintro ys nw ⟨rfl, hJ⟩ D h tk F4 N4 off
    rw [List.size_toArray, hlv, List.take_of_length_le (Nat.le_refl _)] at hJ
    refine hret _ _ D ys F4 (News.sub N4 fun q hq => ?_) hJ
    revert q hq
    walk_at "sub of"
  · rintro i ys nw hi ⟨rfl, hJ⟩ v I oI C oC D m₂ h tk E' hv hoC hx F4 N4 off hne
    rw [List.size_toArray, hlv] at hi
    obtain ⟨t, hwx⟩ := hq.get i ov[i] (List.getElem?_eq_getElem hi)
    have hvv : v = .int ov[i] t := by
      have : vs[i]? = some v := by simpa using hv
      rw [hwx] at this
      exact (Option.some.inj this).symm
    subst hvv
    k_steps
    unfold Stop
    refine kf_notin N4 (.tail _ (.tail _ (.tail _ (mem_tail7 (.head _))))) (ints_kf hq) (b := !ov.contains (ov[i] + 1)) (by rw [ints_any hq]) ?_
    k_steps
    unfold Stop
    have hfil : (ov.take (i + 1)).filter (fun j => !ov.contains (j + 1)) = (ov.take i).filter (fun j => !ov.contains (j + 1)) ++ (if (!ov.contains (ov[i] + 1)) = true then [ov[i]] else []) := by
      rw [List.take_succ, List.filter_append, List.getElem?_eq_getElem hi]
      congr 1
      exact filter_one _ _
    by_cases hge : (!ov.contains (ov[i] + 1)) = true
    · rw [if_pos hge] at hfil
      refine PySem.W.ite_pos hge ?_
      k_steps
      unfold Stop
      refine LCg.CompEnd.intro F4 N4 _ (fun p hp => hp) off (.inr ⟨_, mem_tail7 (.head _), rfl, _, rfl⟩) ⟨rfl, ?_⟩
      rw [hfil]
      refine hJ.append ?_
      exact .cons _ _ .nil
    · rw [if_neg hge, List.append_nil] at hfil
      refine PySem.W.ite_neg hge ?_
      refine LCg.CompEnd.intro F4 N4 _ (fun p hp => hp) off (.inr ⟨_, mem_tail7 (.head _), rfl, _, rfl⟩) ⟨rfl, ?_⟩
      rw [hfil]
      exact hJ
end Mine
end

section
open PySem PySem.W PyProof.Rows PyProof.Rows.LCg
set_option maxRecDepth 100000
set_option maxHeartbeats 2000000
namespace Mine
local macro_rules | `(tactic| walk_at "in of") => `(tactic| (with_reducible first | assumption | exact List.mem_cons_self | (refine List.mem_cons_of_mem _ ?_; walk_at "in of") | exact List.mem_append_left _ (by assumption) | exact List.mem_append_right _ (by assumption) | (refine List.mem_append_left _ ?_; walk_at "in of") | (refine List.mem_append_right _ ?_; walk_at "in of")))
local macro_rules | `(tactic| walk_at "sub of") => `(tactic| (with_reducible first | exact List.forall_mem_nil _ | (refine List.forall_mem_cons.mpr ⟨?_, ?_⟩; walk_at "in of"; walk_at "sub of") | (refine List.forall_mem_append.mpr ⟨?_, ?_⟩; walk_at "sub of"; walk_at "sub of") | (intro q9 h9; walk_at "in of")))
local macro_rules | `(tactic| walk_at $k:str) => if ["CompSrcT", "CompEnd", "ite"].contains k.getString then `(tactic| (refine stop ?_)) else Lean.Macro.throwUnsupported
local macro_rules | `(tactic| walk_at "compareOp NotIn") => `(tactic| (k_here; refine stop ?_))
theorem come_st {st : Stmt} {sc : Scope} (hst : loopSt 4 = st) (hscp : lawScope = sc) {prog : Program} {w : World} {p : Program} {loose : List Str} {mean : ExcName → Option Value} {mg mb : Str → Option Value} {fa : Addr} {cd : Value} {h₀ : Heap} {L : Addr} {m : Str → Option Value} {s : Shared}
    {Q : Flow → Shared → Prop} {Dv : Addr} {vs : List Value} {ov : List Int} {o1 o2 o3 o4 o5 o6 o7 : Obj} {R : List (Addr × Obj)}
    (B : Below callerA h₀ [] h₀) (F : Fr h₀ L s.heap m) (X : (hd.heap_39 w.params).In h₀) (TT : Top p loose mean mg mb h₀)
    (N : News h₀ L s.heap (cellsL L o1 o2 o3 o4 o5 o6 o7 R))
    (hDv : (Dv, lst vs) ∈ R) (c7 : o7.data = .cell (some (.ref Dv))) (hq : IntsAre vs ov) (hql : ov.length ≤ 100)
    (hret : ∀ h' tk' D ys, Fr h₀ L h' (fun z => if z = Str.ofString "come" then some (.ref D) else m z) → News h₀ L h' (cellsL L o1 o2 o3 o4 o5 o6 o7 ((D, lst ys) :: R)) → IntsAre ys (comeP ov) → Q .next { s with heap := h', toks := tk' }) :
    wpAny (model prog w) (lawA sc L fa cd) (exec st (envOfC (Str.ofString "law") sc L fa cd)) Q (fun _ _ => False) s := by
  conv at hst => lhs; whnf
  conv at hscp => lhs; whnf
  subst hst hscp
  have hlv := hq.length
  refine LCt.Assign_ListComp_T F (by rfl) (by with_unfolding_all rfl) (by with_unfolding_all rfl) (by decide) (by rfl) (by decide) (by rfl) (by rfl) (by rfl) ?_
  k_steps
  unfold Stop
  rename Fr h₀ L _ _ => F2
  rename News h₀ L _ _ => N2
  refine LCt.CompSrcT.ledger rfl F2 N2 (mem_tail7 hDv) (by rw [sizeLine_eq, List.size_toArray]; omega) fun gg => ?_
  refine compT_ind (fun i ys nw => nw = cellsL L o1 o2 o3 o4 o5 o6 o7 R ∧ IntsAre ys (((ov.take i).filter fun j => !ov.contains (j - 1)).map (· - 1))) ⟨rfl, .nil⟩ ?_ ?_
  · rintro ys nw ⟨rfl, hJ⟩ D h tk F4 N4 off
    rw [List.size_toArray, hlv, List.take_of_length_le (Nat.le_refl _)] at hJ
    refine hret _ _ D ys F4 (News.sub N4 fun q hq => ?_) hJ
    revert q hq
    walk_at "sub of"
  · rintro i ys nw hi ⟨rfl, hJ⟩ v I oI C oC D m₂ h tk E' hv hoC hx F4 N4 off hne
    rw [List.size_toArray, hlv] at hi
    obtain ⟨t, hwx⟩ := hq.get i ov[i] (List.getElem?_eq_getElem hi)
    have hvv : v = .int ov[i] t := by
      have : vs[i]? = some v := by simpa using hv
      rw [hwx] at this
      exact (Option.some.inj this).symm
    subst hvv
    k_steps
    unfold Stop
    refine kf_notin N4 (.tail _ (.tail _ (.tail _ (mem_tail7 hDv)))) (ints_kf hq) (b := !ov.contains (ov[i] - 1)) (by rw [ints_any hq]) ?_
    k_steps
    unfold Stop
    have hfil : (ov.take (i + 1)).filter (fun j => !ov.contains (j - 1)) = (ov.take i).filter (fun j => !ov.contains (j - 1)) ++ (if (!ov.contains (ov[i] - 1)) = true then [ov[i]] else []) := by
      rw [List.take_succ, List.filter_append, List.getElem?_eq_getElem hi]
      congr 1
      exact filter_one _ _
    by_cases hge : (!ov.contains (ov[i] - 1)) = true
    · rw [if_pos hge] at hfil
      refine PySem.W.ite_pos hge ?_
      k_steps
      unfold Stop
      refine LCg.CompEnd.intro F4 N4 _ (fun p hp => hp) off (.inr ⟨_, mem_tail7 hDv, rfl, _, rfl⟩) ⟨rfl, ?_⟩
      rw [hfil, List.map_append]
      refine hJ.append ?_
      exact .cons _ _ .nil
    · rw [if_neg hge, List.append_nil] at hfil
      refine PySem.W.ite_neg hge ?_
      refine LCg.CompEnd.intro F4 N4 _ (fun p hp => hp) off (.inr ⟨_, mem_tail7 hDv, rfl, _, rfl⟩) ⟨rfl, ?_⟩
      rw [hfil]
      exact hJ
end Mine
end

section
open PySem PySem.W PyProof.Rows PyProof.Rows.LCg
set_option maxRecDepth 100000
set_option maxHeartbeats 2000000
namespace Mine
local macro_rules | `(tactic| walk_at $k:str) => if ["subscriptTail Name Name ref int", "subscriptTail Name BinOp ref int"].contains k.getString then `(tactic| (k_here; refine stop ?_)) else Lean.Macro.throwUnsupported
local macro_rules | `(tactic| walk_at "storeName") => `(tactic| (k_here; (first | (with_reducible show wpAny _ _ (storeName _ (Str.ofString "place") _) _ _ _) | (with_reducible show wpAny _ _ (storeName _ (Str.ofString "more") _) _ _ _)); refine stop ?_))
local macro_rules | `(tactic| walk_at "eval Name") => `(tactic| (k_here; k_dflt (refine' nameX_L ?k1 ?k2 ?_; (case k1 => k_asm); (case k2 => assumption); k_whole)))
theorem pair_st {st : Stmt} {sc : Scope} (hst : loopSt 0 = st) (hscp : lawScope = sc) {prog : Program} {w : World} {p : Program} {loose : List Str} {mean : ExcName → Option Value} {mg mb : Str → Option Value} {fa : Addr} {cd : Value} {h₀ : Heap} {L : Addr} {m : Str → Option Value} {s : Shared}
    {Q : Flow → Shared → Prop} {Dd : Addr} {wd : List Value} {kd i : Nat} {ps : List (Int × Int)} {o1 o2 o3 o4 o5 o6 o7 : Obj} {RR R : List (Addr × Obj)} {tk : Tok} {v5 : Option Value}
    (B : Below callerA h₀ [] h₀) (F : Fr h₀ L s.heap m) (X : (hd.heap_39 w.params).In h₀) (TT : Top p loose mean mg mb h₀)
    (N : News h₀ L s.heap (cellsL L o1 o2 o3 o4 o5 o6 o7 R)) (hR : ∀ q ∈ R, q.1 < L ∨ L + 7 < q.1)
    (c5 : o5.data = .cell v5) (hDd : (Dd, listOf (List.toArray wd) kd) ∈ R) (hP : Pairs RR wd ps) (hSub : ∀ q ∈ RR, q ∈ R)
    (e1 : m (Str.ofString "due") = some (.ref Dd)) (e2 : m (Str.ofString "k") = some (.int (i : Int) tk)) (hi : i < ps.length) (hlp : ps.length ≤ 100)
    (hret : ∀ h' tk' o5' u v, Fr h₀ L h' (fun y => if y = Str.ofString "rest" then some (.int (ps.getD i (0, 0)).1 u) else m y) → News h₀ L h' (cellsL L o1 o2 o3 o4 o5' o6 o7 R) → o5'.data = .cell (some (.int (ps.getD i (0, 0)).2 v)) → Q .next { s with heap := h', toks := tk' }) :
    wpAny (model prog w) (lawA sc L fa cd) (exec st (envOfC (Str.ofString "law") sc L fa cd)) Q (fun _ _ => False) s := by
  conv at hst => lhs; whnf
  conv at hscp => lhs; whnf
  subst hst hscp
  obtain ⟨t1, u1, u2, kk, hx, hm⟩ := hP.get hi
  have N1 : News h₀ L s.heap ((t1, tupOf [.int (ps.getD i (0, 0)).1 u1, .int (ps.getD i (0, 0)).2 u2] kk) :: cellsL L o1 o2 o3 o4 o5 o6 o7 R) := News.sub N fun q hq => by
    rcases List.mem_cons.mp hq with rfl | hq
    · exact mem_tail7 (hSub _ hm)
    · exact hq
  clear N
  k_steps
  unfold Stop
  refine item_led N1 (.tail _ (mem_tail7 hDd)) (by omega) (by omega) (by rw [Int.toNat_natCast]; exact hx) ?_
  k_steps
  unfold Stop
  rename Fr h₀ L _ _ => F5
  rename News h₀ L _ _ => N5
  refine storeX_C F5 (News.sub N5 fun q hq => List.Mem.tail _ hq) rfl (upd5 fun q hq => (far (hR q hq)).1) c5 ?_
  intro h6 o' F6 N6 c'
  k_steps
  exact hret _ _ _ _ _ F6 N6 c'
theorem more_st {st : Stmt} {sc : Scope} (hst : loopSt 1 = st) (hscp : lawScope = sc) {prog : Program} {w : World} {p : Program} {loose : List Str} {mean : ExcName → Option Value} {mg mb : Str → Option Value} {fa : Addr} {cd : Value} {h₀ : Heap} {L : Addr} {m : Str → Option Value} {s : Shared}
    {Q : Flow → Shared → Prop} {Dd : Addr} {wd : List Value} {kd i ap : Nat} {ps : List (Int × Int)} {o1 o2 o3 o4 o5 o6 o7 : Obj} {RR R : List (Addr × Obj)} {r : Int} {tk ta tr : Tok} {v6 : Option Value}
    (B : Below callerA h₀ [] h₀) (F : Fr h₀ L s.heap m) (X : (hd.heap_39 w.params).In h₀) (TT : Top p loose mean mg mb h₀)
    (N : News h₀ L s.heap (cellsL L o1 o2 o3 o4 o5 o6 o7 R)) (hR : ∀ q ∈ R, q.1 < L ∨ L + 7 < q.1)
    (c6 : o6.data = .cell v6) (hDd : (Dd, listOf (List.toArray wd) kd) ∈ R) (hP : Pairs RR wd ps) (hSub : ∀ q ∈ RR, q ∈ R)
    (e1 : m (Str.ofString "due") = some (.ref Dd)) (e2 : m (Str.ofString "k") = some (.int (i : Int) tk)) (e3 : m (Str.ofString "apart") = some (.int (ap : Int) ta)) (e4 : m (Str.ofString "rest") = some (.int r tr)) (hi : i + ap < ps.length) (hlp : ps.length ≤ 100)
    (hret : ∀ h' tk' o6' v, Fr h₀ L h' m → News h₀ L h' (cellsL L o1 o2 o3 o4 o5 o6' o7 R) → o6'.data = .cell (some (.int ((ps.getD (i + ap) (0, 0)).1 - r) v)) → Q .next { s with heap := h', toks := tk' }) :
    wpAny (model prog w) (lawA sc L fa cd) (exec st (envOfC (Str.ofString "law") sc L fa cd)) Q (fun _ _ => False) s := by
  conv at hst => lhs; whnf
  conv at hscp => lhs; whnf
  subst hst hscp
  obtain ⟨t1, u1, u2, kk, hx, hm⟩ := hP.get hi
  have N1 : News h₀ L s.heap ((t1, tupOf [.int (ps.getD (i + ap) (0, 0)).1 u1, .int (ps.getD (i + ap) (0, 0)).2 u2] kk) :: cellsL L o1 o2 o3 o4 o5 o6 o7 R) := News.sub N fun q hq => by
    rcases List.mem_cons.mp hq with rfl | hq
    · exact mem_tail7 (hSub _ hm)
    · exact hq
  clear N
  k_steps
  unfold Stop
  refine item_led N1 (.tail _ (mem_tail7 hDd)) (by omega) (by omega) (by rw [show ((i : Int) + (ap : Int)).toNat = i + ap by omega]; exact hx) ?_
  k_steps
  unfold Stop
  rename Fr h₀ L _ _ => F5
  rename News h₀ L _ _ => N5
  refine storeX_C F5 (News.sub N5 fun q hq => List.Mem.tail _ hq) rfl (upd6 fun q hq => (far (hR q hq)).2.1) c6 ?_
  intro h6 o' F6 N6 c'
  k_steps
  exact hret _ _ _ _ F6 N6 c'
end Mine
end

section
open PySem PySem.W PyProof.Rows PyProof.Rows.LCg
set_option maxRecDepth 100000
set_option maxHeartbeats 2000000
namespace Mine
local macro_rules | `(tactic| walk_at "no key") => `(tactic| skip)
theorem onesP_sorted (t : List Int) : (onesP t).Pairwise (· < ·) := by
  unfold onesP
  refine List.Pairwise.map _ (fun a b (h : a < b) => ?_) (List.Pairwise.filter _ List.pairwise_lt_range)
  show Int.ofNat a < Int.ofNat b
  exact Int.ofNat_lt.mpr h
theorem onesP_length (t : List Int) : (onesP t).length ≤ t.length := by
  unfold onesP
  rw [List.length_map]
  exact Nat.le_trans (List.length_filter_le _ _) (by rw [List.length_range]; omega)
local macro_rules | `(tactic| walk_at $k:str) => if ["subscriptTail Name Name ref int", "subscriptTail Name BinOp ref int", "call ref", "compareOp NotEq ref ref"].contains k.getString then `(tactic| (k_here; refine stop ?_)) else Lean.Macro.throwUnsupported
local macro_rules | `(tactic| walk_at "ite") => `(tactic| first | (refine PySem.W.ite_neg Bool.false_ne_true ?_) | (refine stop ?_))
local macro_rules | `(tactic| walk_at "eval Name") => `(tactic| (k_here; k_dflt (refine' nameX_L ?k1 ?k2 ?_; (case k1 => k_asm); (case k2 => assumption); k_whole)))
theorem if_st {st : Stmt} {sc : Scope} (hst : loopSt 5 = st) (hscp : lawScope = sc) {prog : Program} {w : World} {p : Program} {loose : List Str} {mean : ExcName → Option Value} {mg mb : Str → Option Value} {fa : Addr} {cd : Value} {h₀ : Heap} {L : Addr} {m : Str → Option Value} {s : Shared}
    {Q : Flow → Shared → Prop} {Dt Dg Dc : Addr} {wt wg wc : List Value} {kt kg kc i ap : Nat} {tss : List (List Int)} {G C : List Int} {RR R : List (Addr × Obj)} {tk ta : Tok}
    (B : Below callerA h₀ [] h₀) (F : Fr h₀ L s.heap m) (X : (hd.heap_39 w.params).In h₀) (TT : Top p loose mean mg mb h₀) (C1 : CodeHd h₀ 48 44) (C2 : CodeHd h₀ 41 37)
    (N : News h₀ L s.heap R)
    (hDt : (Dt, listOf (List.toArray wt) kt) ∈ R) (hDg : (Dg, listOf (List.toArray wg) kg) ∈ R) (hDc : (Dc, listOf (List.toArray wc) kc) ∈ R) (hT : Heaped RR wt tss) (hSub : ∀ q ∈ RR, q ∈ R) (hG : IntsAre wg G) (hC : IntsAre wc C)
    (e1 : m (Str.ofString "turns") = some (.ref Dt)) (e2 : m (Str.ofString "k") = some (.int (i : Int) tk)) (e3 : m (Str.ofString "apart") = some (.int (ap : Int) ta)) (e4 : m (Str.ofString "gone") = some (.ref Dg)) (e5 : m (Str.ofString "come") = some (.ref Dc))
    (hi : i + ap < tss.length) (hlt : tss.length ≤ 100) (hne : ∀ t ∈ tss, 0 < t.length ∧ t.length ≤ 100)
    (hsld : sld ((onesP (tss.getD i [])).length + (onesP (tss.getD (i + ap) [])).length) (onesP (tss.getD i [])) (onesP (tss.getD (i + ap) [])) = (G, C))
    (hret : ∀ h' tk', Fr h₀ L h' m → News h₀ L h' R → Q .next { s with heap := h', toks := tk' }) :
    wpAny (model prog w) (lawA sc L fa cd) (exec st (envOfC (Str.ofString "law") sc L fa cd)) Q (fun _ _ => False) s := by
  conv at hst => lhs; whnf
  conv at hscp => lhs; whnf
  subst hst hscp
  have hgl : ∀ {j}, j < tss.length → 0 < (tss.getD j []).length ∧ (tss.getD j []).length ≤ 100 := fun {j} hj => by
    have := hne _ (List.getElem_mem hj)
    rw [List.getD_eq_getElem?_getD, List.getElem?_eq_getElem hj]
    exact this
  obtain ⟨v1, hx1, a1, w1, n1, rfl, hm1, hI1⟩ := hT.get (j := i) (by omega)
  obtain ⟨v2, hx2, a2, w2, n2, rfl, hm2, hI2⟩ := hT.get hi
  have hb1 := hgl (j := i) (by omega)
  have hb2 := hgl hi
  generalize hxs1 : tss.getD i [] = x1 at *
  generalize hxs2 : tss.getD (i + ap) [] = x2 at *
  have hs1 := onesP_sorted x1
  have hs2 := onesP_sorted x2
  have hq1 := onesP_length x1
  have hq2 := onesP_length x2
  k_steps
  unfold Stop
  rename Fr h₀ L _ _ => F2
  rename News h₀ L _ _ => N2
  refine item_led N2 hDt (by omega) (by omega) (by rw [Int.toNat_natCast]; exact hx1) ?_
  k_steps
  unfold Stop
  refine Spec.use (ones_spec (hSub _ hm1) hI1 hb1.1 hb1.2) B F2 X N2 TT C1 C2 rfl (by decide) (by decide) ?_
  rintro r1 news1 h3 tk3 F3 N3 ⟨D1, vs1, rfl, rfl, hO1, hoff1⟩
  k_steps
  unfold Stop
  refine item_led N3 (.tail _ hDt) (by omega) (by omega) (by rw [show ((i : Int) + (ap : Int)).toNat = i + ap by omega]; exact hx2) ?_
  k_steps
  unfold Stop
  refine Spec.use (ones_spec (.tail _ (hSub _ hm2)) hI2 hb2.1 hb2.2) B F3 X N3 TT C1 C2 rfl (by decide) (by decide) ?_
  rintro r2 news2 h4 tk4 F4 N4 ⟨D2, vs2, rfl, rfl, hO2, hoff2⟩
  k_steps
  unfold Stop
  refine sld_spec (.tail _ (.head _)) (.head _) hO1 hO2 hs1 hs2 (by omega) (by omega) prog w p loose mean mg mb _ _ _ _ _ _ _ _ h₀ L m _ _ _ F4 X N4 TT rfl (by decide) (by decide) ?_
  rintro r3 news3 h5 tk5 F5 N5 ⟨t3, mi, un, wm, wu, k1, k2, rfl, rfl, hm3, hu3, -⟩
  rw [hsld] at hm3 hu3
  k_steps
  unfold Stop
  rename_i t6 h6 F6 N6 l6
  have hN6 : ∀ q ∈ R, h6.get? q.1 = some q.2 := fun q hq => (N6 q (.tail _ (.tail _ (.tail _ (.tail _ (.tail _ (.tail _ hq))))))).1
  refine ne_dataH (da := .tuple [.list (G.map PyData.int), .list (C.map PyData.int)]) (db := .tuple [.list (G.map PyData.int), .list (C.map PyData.int)])
    (reads_tuple_at (N6 _ (.tail _ (.head _))).1 rfl rfl (ReadsAll.cons (reads_newData (ys := wm.toList) ⟨_, (N6 _ (.tail _ (.tail _ (.head _)))).1, rfl, _, rfl⟩ (ke_carried hm3)) (ReadsAll.cons (reads_newData (ys := wu.toList) ⟨_, (N6 _ (.tail _ (.tail _ (.tail _ (.head _))))).1, rfl, _, rfl⟩ (ke_carried hu3)) .nil)))
    (reads_tuple_at (N6 _ (.head _)).1 rfl rfl (ReadsAll.cons (reads_newData ⟨_, hN6 _ hDg, rfl, _, rfl⟩ (ke_carried hG)) (ReadsAll.cons (reads_newData ⟨_, hN6 _ hDc, rfl, _, rfl⟩ (ke_carried hC)) .nil)))
    (by ked_shaped) (by ked_shaped) (by ke_room) ?_
  rw [show (!PyData.eqv (.tuple [.list (G.map PyData.int), .list (C.map PyData.int)]) (.tuple [.list (G.map PyData.int), .list (C.map PyData.int)])) = false by simp only [PyData.eqv, PyData.eqvAll, ked_eqvAll, decide_true, Bool.and_true, Bool.not_true]]
  k_steps
  exact hret _ _ F6 (News.sub N6 fun q hq => .tail _ (.tail _ (.tail _ (.tail _ (.tail _ (.tail _ hq))))))
end Mine
end

section
open PySem PySem.W PyProof.Rows PyProof.Rows.LCg
set_option maxRecDepth 100000
set_option maxHeartbeats 2000000
namespace Mine
local macro_rules | `(tactic| walk_at "in of") => `(tactic| (with_reducible first | assumption | exact List.mem_cons_self | (refine List.mem_cons_of_mem _ ?_; walk_at "in of") | exact List.mem_append_left _ (by assumption) | exact List.mem_append_right _ (by assumption) | (refine List.mem_append_left _ ?_; walk_at "in of") | (refine List.mem_append_right _ ?_; walk_at "in of")))
local macro_rules | `(tactic| walk_at "sub of") => `(tactic| (with_reducible first | exact List.forall_mem_nil _ | (refine List.forall_mem_cons.mpr ⟨?_, ?_⟩; walk_at "in of"; walk_at "sub of") | (refine List.forall_mem_append.mpr ⟨?_, ?_⟩; walk_at "sub of"; walk_at "sub of") | (intro q9 h9; walk_at "in of")))
local macro_rules | `(tactic| walk_at $k:str) => if ["exec Assign", "exec Assign cons ListComp", "exec If", "pyIter ref", "UnrPost", "UnrEnd"].contains k.getString then `(tactic| (refine stop ?_)) else Lean.Macro.throwUnsupported
local macro_rules | `(tactic| walk_at "exec For Name Call cons nil") => `(tactic| (k_here; refine stop ?_))
local macro_rules | `(tactic| walk_at "eval Name") => `(tactic| (k_here; k_dflt (refine' nameX_L ?k1 ?k2 ?_; (case k1 => k_asm); (case k2 => assumption); k_whole)))
theorem range_sub {n ap : Nat} : Builtin.Range.rangeSize 0 ((n : Int) - (ap : Int)) 1 = ((n - ap : Nat) : Int) := by
  unfold Builtin.Range.rangeSize
  rw [if_pos (by decide)]
  split
  · rw [Int.ediv_one]; omega
  · omega
theorem overP_length (n : Nat) (Rs : List Int) (a b : Int) : (overP n Rs a b).length ≤ n := by
  unfold overP
  exact Nat.le_trans (List.length_filter_le _ _) (by rw [List.length_map, List.length_range]; exact Nat.le_refl _)
theorem seg12 {st : Stmt} {sc : Scope} (hst : lawSt 12 = st) (hscp : lawScope = sc) {prog : Program} {w : World} {p : Program} {loose : List Str} {mean : ExcName → Option Value} {mg mb : Str → Option Value} {fa : Addr} {cd : Value} {h₀ : Heap} {L : Addr} {m : Str → Option Value} {s : Shared}
    {Q : Flow → Shared → Prop} {Dr Dt Dd : Addr} {wr wt wd : List Value} {kr kt kd n ap : Nat} {Rs : List Int} {tss : List (List Int)} {ps : List (Int × Int)} {o1 o2 o3 o4 o5 o6 o7 : Obj} {RR R : List (Addr × Obj)} {tn ta : Tok} {v5 v6 v7 : Option Value}
    (B : Below callerA h₀ [] h₀) (F : Fr h₀ L s.heap m) (X : (hd.heap_39 w.params).In h₀) (TT : Top p loose mean mg mb h₀) (C1 : CodeHd h₀ 48 44) (C2 : CodeHd h₀ 41 37)
    (N : News h₀ L s.heap (cellsL L o1 o2 o3 o4 o5 o6 o7 R)) (hR : ∀ q ∈ R, q.1 < L ∨ L + 7 < q.1)
    (c1 : o1.data = .cell (some (.int n tn))) (c4 : o4.data = .cell (some (.ref Dr))) (c5 : o5.data = .cell v5) (c6 : o6.data = .cell v6) (c7 : o7.data = .cell v7)
    (hDr : (Dr, listOf (List.toArray wr) kr) ∈ R) (hDt : (Dt, listOf (List.toArray wt) kt) ∈ R) (hDd : (Dd, listOf (List.toArray wd) kd) ∈ R)
    (hT : Heaped RR wt tss) (hP : Pairs RR wd ps) (hSub : ∀ q ∈ RR, q ∈ R) (hq : IntsAre wr Rs) (hql : Rs.length = n + 1) (htl : tss.length = n) (hpl : ps.length = n)
    (hne : ∀ t ∈ tss, 0 < t.length ∧ t.length ≤ 100) (hn1 : 2 ≤ n) (hn2 : n ≤ 9) (hap1 : 1 ≤ ap) (hap2 : ap ≤ 3) (hpb : ∀ i, i < n → 0 ≤ (ps.getD i (0, 0)).2 ∧ (ps.getD i (0, 0)).2 < n)
    (e1 : m (Str.ofString "turns") = some (.ref Dt)) (e2 : m (Str.ofString "due") = some (.ref Dd)) (e3 : m (Str.ofString "apart") = some (.int (ap : Int) ta))
    (hchk : ∀ k, k + ap < n → sld ((onesP (tss.getD k [])).length + (onesP (tss.getD (k + ap) [])).length) (onesP (tss.getD k [])) (onesP (tss.getD (k + ap) [])) =
      (goneP (overP n Rs (ps.getD k (0, 0)).2 ((ps.getD (k + ap) (0, 0)).1 - (ps.getD k (0, 0)).1)), comeP (overP n Rs (ps.getD k (0, 0)).2 ((ps.getD (k + ap) (0, 0)).1 - (ps.getD k (0, 0)).1))))
    (hret : ∀ h' tk' m' o5 o6 o7, Fr h₀ L h' m' → News h₀ L h' (cellsL L o1 o2 o3 o4 o5 o6 o7 R) → Q .next { s with heap := h', toks := tk' }) :
    wpAny (model prog w) (lawA sc L fa cd) (exec st (envOfC (Str.ofString "law") sc L fa cd)) Q (fun _ _ => False) s := by
  conv at hst => lhs; whnf
  conv at hscp => lhs; whnf
  subst hst hscp
  k_steps
  unfold Stop
  refine For_invVF F rfl rfl ?_
  k_steps
  unfold Stop
  rename IsRange _ _ _ _ _ _ _ _ => hr
  rename Fr h₀ L _ _ => F2
  rename News h₀ L _ _ => N2
  refine iter_rangeUnr (n := n - ap) rfl hr (small_one (by decide) (by decide) (by omega) (by omega)) range_sub F2 N2 ?_
  intro I lI
  have hIR : ∀ q ∈ R, q.1 ≠ I := fun q hq => Nat.ne_of_lt (lI q (mem_tail7 hq))
  have hI7 : L + 7 < I := lI (L + 1 + 1 + 1 + 1 + 1 + 1 + 1, o7) (.tail _ (.tail _ (.tail _ (.tail _ (.tail _ (.tail _ (.head _)))))))
  refine range_ind (fun i m' news' => ∃ o5 o6 o7 v5 v6 v7, news' = cellsL L o1 o2 o3 o4 o5 o6 o7 R ∧ o5.data = .cell v5 ∧ o6.data = .cell v6 ∧ o7.data = .cell v7 ∧
    (∀ y, y ≠ Str.ofString "k" → y ≠ Str.ofString "rest" → y ≠ Str.ofString "gone" → y ≠ Str.ofString "come" → m' y = m y)) ?_ ?_ ?_
  · exact ⟨o5, o6, o7, v5, v6, v7, rfl, c5, c6, c7, fun _ _ _ _ _ => rfl⟩
  · rintro m' news' h tk ⟨o5, o6, o7, v5, v6, v7, rfl, -, -, -, -⟩ F3 N3
    exact hret _ _ m' _ _ _ F3 N3
  · rename Fr h₀ L s.heap m => F0
    rename News h₀ L s.heap _ => N0
    clear N2 F2 N0 F0 lI hr c5 c6 c7
    rintro i m' news' hi ⟨o5, o6, o7, v5, v6, v7, rfl, c5, c6, c7, hm⟩ t h3 tk3 F3 N3
    have e1 : m' (Str.ofString "turns") = some (.ref Dt) := (hm _ (by decide) (by decide) (by decide) (by decide)).trans e1
    have e2 : m' (Str.ofString "due") = some (.ref Dd) := (hm _ (by decide) (by decide) (by decide) (by decide)).trans e2
    have e3 : m' (Str.ofString "apart") = some (.int (ap : Int) ta) := (hm _ (by decide) (by decide) (by decide) (by decide)).trans e3
    obtain ⟨m3, hm3, F4⟩ : ∃ m3, m3 = _ ∧ Fr h₀ L h3 m3 := ⟨_, rfl, F3⟩
    clear F3
    rw [Int.zero_add] at hm3
    have e4 : m3 (Str.ofString "k") = some (.int (i : Int) t) := by rw [hm3]; rfl
    replace e1 : m3 (Str.ofString "turns") = some (.ref Dt) := by rw [hm3]; exact e1
    replace e2 : m3 (Str.ofString "due") = some (.ref Dd) := by rw [hm3]; exact e2
    replace e3 : m3 (Str.ofString "apart") = some (.int (ap : Int) ta) := by rw [hm3]; exact e3
    have hm' : ∀ y, y ≠ Str.ofString "k" → y ≠ Str.ofString "rest" → y ≠ Str.ofString "gone" → y ≠ Str.ofString "come" → m3 y = m y := fun y h1 h2 h3 h4 => by rw [hm3]; show (if _ then _ else _) = _; rw [if_neg h1]; exact hm y h1 h2 h3 h4
    clear hm3 hm
    obtain ⟨it, hit⟩ : ∃ it, it = itR (0 + ((i + 1 : Nat) : Int)) (((n - ap : Nat) : Int) - ((i + 1 : Nat) : Int)) := ⟨_, rfl⟩
    have N4 : News h₀ L h3 (cellsL L o1 o2 o3 o4 o5 o6 o7 ((I, it) :: R)) := News.sub N3 (by rw [hit]; walk_at "sub of")
    clear N3
    have hR1 : ∀ q ∈ (I, it) :: R, q.1 < L ∨ L + 7 < q.1 := fun q hq => by
      rcases List.mem_cons.mp hq with rfl | hq
      · exact .inr hI7
      · exact hR q hq
    have hkn : i + ap < n := by omega
    have hT1 : ∀ {q : Addr × Obj}, q ∈ R → q ∈ (I, it) :: R := fun h => .tail _ h
    have hlo := overP_length n Rs (ps.getD i (0, 0)).2 ((ps.getD (i + ap) (0, 0)).1 - (ps.getD i (0, 0)).1)
    have hch := hchk i hkn
    have hpi := hpb i (by omega)
    k_steps
    unfold Stop
    refine pair_st rfl rfl B F4 X TT N4 hR1 c5 (hT1 hDd) hP (fun q hq => hT1 (hSub q hq)) e2 e4 (by omega) (by omega) ?_
    intro h5 tk5 o5' u5 v5' F5' N5 c5'
    obtain ⟨m5, hm5, F5⟩ : ∃ m5, m5 = _ ∧ Fr h₀ L h5 m5 := ⟨_, rfl, F5'⟩
    clear F5' N4 F4
    have f1 : m5 (Str.ofString "turns") = some (.ref Dt) := by rw [hm5]; exact e1
    have f2 : m5 (Str.ofString "due") = some (.ref Dd) := by rw [hm5]; exact e2
    have f3 : m5 (Str.ofString "apart") = some (.int (ap : Int) ta) := by rw [hm5]; exact e3
    have f4 : m5 (Str.ofString "k") = some (.int (i : Int) t) := by rw [hm5]; exact e4
    have f5 : m5 (Str.ofString "rest") = some (.int (ps.getD i (0, 0)).1 u5) := by rw [hm5]; rfl
    have hm5' : ∀ y, y ≠ Str.ofString "k" → y ≠ Str.ofString "rest" → y ≠ Str.ofString "gone" → y ≠ Str.ofString "come" → m5 y = m y := fun y h1 h2 h3 h4 => by rw [hm5]; show (if _ then _ else _) = _; rw [if_neg h2]; exact hm' y h1 h2 h3 h4
    clear hm5 hm' e1 e2 e3 e4
    k_steps
    unfold Stop
    refine more_st rfl rfl B F5 X TT N5 hR1 c6 (hT1 hDd) hP (fun q hq => hT1 (hSub q hq)) f2 f4 f3 f5 (by omega) (by omega) ?_
    intro h6 tk6 o6' u6 F6 N6 c6'
    clear N5 F5
    k_steps
    unfold Stop
    refine over_st rfl rfl B F6 X TT N6 hR1 c1 c4 c5' c6' c7 (hT1 hDr) hn1 hn2 hq hql hpi.1 hpi.2 ?_
    intro h7 tk7 o7' Dv vv F7 N7 c7' hV hoffv
    clear N6 F6
    generalize hov : overP n Rs (ps.getD i (0, 0)).2 ((ps.getD (i + ap) (0, 0)).1 - (ps.getD i (0, 0)).1) = ov at *
    k_steps
    unfold Stop
    refine gone_st rfl rfl B F7 X TT N7 c7' hV (by omega) ?_
    intro h8 tk8 Dg yg F8' N8 hG
    obtain ⟨m8, hm8, F8⟩ : ∃ m8, m8 = _ ∧ Fr h₀ L h8 m8 := ⟨_, rfl, F8'⟩
    clear F8' N7 F7
    k_steps
    unfold Stop
    refine come_st rfl rfl B F8 X TT N8 (.tail _ (.head _)) c7' hV (by omega) ?_
    intro h9 tk9 Dc yc F9' N9 hC
    obtain ⟨m9, hm9, F9⟩ : ∃ m9, m9 = _ ∧ Fr h₀ L h9 m9 := ⟨_, rfl, F9'⟩
    clear F9' N8 F8
    have g1 : m9 (Str.ofString "turns") = some (.ref Dt) := by rw [hm9, hm8]; exact f1
    have g2 : m9 (Str.ofString "k") = some (.int (i : Int) t) := by rw [hm9, hm8]; exact f4
    have g3 : m9 (Str.ofString "apart") = some (.int (ap : Int) ta) := by rw [hm9, hm8]; exact f3
    have g4 : m9 (Str.ofString "gone") = some (.ref Dg) := by rw [hm9, hm8]; rfl
    have g5 : m9 (Str.ofString "come") = some (.ref Dc) := by rw [hm9]; rfl
    have hm9' : ∀ y, y ≠ Str.ofString "k" → y ≠ Str.ofString "rest" → y ≠ Str.ofString "gone" → y ≠ Str.ofString "come" → m9 y = m y := fun y h1 h2 h3 h4 => by
      rw [hm9]; show (if _ then _ else _) = _; rw [if_neg h4, hm8]; show (if _ then _ else _) = _; rw [if_neg h3]; exact hm5' y h1 h2 h3 h4
    clear hm9 hm8 hm5' f1 f2 f3 f4 f5
    have hT4 : ∀ {q : Addr × Obj}, q ∈ R → q ∈ cellsL L o1 o2 o3 o4 o5' o6' o7' ((Dc, lst yc) :: (Dg, lst yg) :: (Dv, lst vv) :: (I, it) :: R) := fun h => mem_tail7 (.tail _ (.tail _ (.tail _ (.tail _ h))))
    k_steps
    unfold Stop
    refine if_st rfl rfl B F9 X TT C1 C2 N9 (hT4 hDt) (mem_tail7 (.tail _ (.head _))) (mem_tail7 (.head _)) hT (fun q hq => hT4 (hSub q hq)) hG hC g1 g2 g3 g4 g5 (by omega) (by omega) hne hch ?_
    intro h10 tk10 F10 N10
    k_steps
    unfold Stop
    subst hit
    refine UnrEnd.intro F10 N10 (cellsL L o1 o2 o3 o4 o5' o6' o7' R) ?_ ?_ ⟨o5', o6', o7', _, _, _, rfl, c5', c6', c7', hm9'⟩
    · walk_at "sub of"
    · intro q hq
      rcases mem_cells hq with h | h
      · exact Nat.ne_of_lt (Nat.lt_of_le_of_lt h.2.1 hI7)
      · exact hIR q h
end Mine
end

section
open PySem PySem.W PyProof.Rows
set_option maxRecDepth 100000
namespace Mine
/-- what the law asks of the rests and the row -/
def LawPure (n : Nat) (Rs row : List Int) : Prop :=
  ∃ pp : Array Nat, kasRun n (ltP (psR Rs n)) (kas_sort n) = some pp ∧ (∀ i ∈ pp.toList, i < n) ∧ pp.toList.length = n ∧
    (∀ t ∈ popAll n (pushAll ((List.range n).map (turnP row))), 0 < t.length ∧ t.length ≤ 100) ∧
    (popAll n (pushAll ((List.range n).map (turnP row)))).map (fun t => t.getLastD 0) = (pp.toList.map fun i => (psR Rs n).getD i (0, 0)).map (·.2) ∧
    (∀ i, i < n → 0 ≤ ((pp.toList.map fun i => (psR Rs n).getD i (0, 0)).getD i (0, 0)).2 ∧ ((pp.toList.map fun i => (psR Rs n).getD i (0, 0)).getD i (0, 0)).2 < n) ∧
    ∀ ap, 1 ≤ ap → ap ≤ 3 → ∀ k, k + ap < n →
      sld ((onesP ((popAll n (pushAll ((List.range n).map (turnP row)))).getD k [])).length + (onesP ((popAll n (pushAll ((List.range n).map (turnP row)))).getD (k + ap) [])).length)
        (onesP ((popAll n (pushAll ((List.range n).map (turnP row)))).getD k [])) (onesP ((popAll n (pushAll ((List.range n).map (turnP row)))).getD (k + ap) [])) =
      (goneP (overP n Rs ((pp.toList.map fun i => (psR Rs n).getD i (0, 0)).getD k (0, 0)).2 (((pp.toList.map fun i => (psR Rs n).getD i (0, 0)).getD (k + ap) (0, 0)).1 - ((pp.toList.map fun i => (psR Rs n).getD i (0, 0)).getD k (0, 0)).1)),
       comeP (overP n Rs ((pp.toList.map fun i => (psR Rs n).getD i (0, 0)).getD k (0, 0)).2 (((pp.toList.map fun i => (psR Rs n).getD i (0, 0)).getD (k + ap) (0, 0)).1 - ((pp.toList.map fun i => (psR Rs n).getD i (0, 0)).getD k (0, 0)).1)))
end Mine
end

section
open PySem PySem.W PyProof.Rows
set_option maxRecDepth 100000
namespace Mine
def lawOk (n : Nat) (Rs row : List Int) : Bool :=
  match kasRun n (ltP (psR Rs n)) (kas_sort n) with
  | none => false
  | some pp =>
    let ps := pp.toList.map fun i => (psR Rs n).getD i (0, 0)
    let tss := popAll n (pushAll ((List.range n).map (turnP row)))
    pp.toList.all (fun i => decide (i < n)) && (pp.toList.length == n && (tss.all (fun t => decide (0 < t.length) && decide (t.length ≤ 100)) && (tss.map (fun t => t.getLastD 0) == ps.map (·.2) &&
      ((List.range n).all (fun i => decide (0 ≤ (ps.getD i (0, 0)).2) && decide ((ps.getD i (0, 0)).2 < n)) &&
    [1, 2, 3].all fun ap => (List.range (n - ap)).all fun k =>
      decide (sld ((onesP (tss.getD k [])).length + (onesP (tss.getD (k + ap) [])).length) (onesP (tss.getD k [])) (onesP (tss.getD (k + ap) [])) =
        (goneP (overP n Rs (ps.getD k (0, 0)).2 ((ps.getD (k + ap) (0, 0)).1 - (ps.getD k (0, 0)).1)), comeP (overP n Rs (ps.getD k (0, 0)).2 ((ps.getD (k + ap) (0, 0)).1 - (ps.getD k (0, 0)).1))))))))
theorem lawOk_spec {n : Nat} {Rs row : List Int} (h : lawOk n Rs row = true) : LawPure n Rs row := by
  unfold lawOk at h
  unfold LawPure
  cases hk : kasRun n (ltP (psR Rs n)) (kas_sort n) with
  | none => rw [hk] at h; cases h
  | some pp =>
    rw [hk] at h
    simp only [Bool.and_eq_true] at h
    obtain ⟨h1, h2, h3, h4, h5, h6⟩ := h
    refine ⟨pp, rfl, ?_, eq_of_beq h2, ?_, eq_of_beq h4, ?_, ?_⟩
    · intro i hi
      exact of_decide_eq_true (List.all_eq_true.mp h1 i hi)
    · intro t ht
      have := List.all_eq_true.mp h3 t ht
      rw [Bool.and_eq_true] at this
      exact ⟨of_decide_eq_true this.1, of_decide_eq_true this.2⟩
    · intro i hi
      have := List.all_eq_true.mp h5 i (List.mem_range.mpr hi)
      rw [Bool.and_eq_true] at this
      exact ⟨of_decide_eq_true this.1, of_decide_eq_true this.2⟩
    · intro ap h1 h3 k hk
      have hm : ap ∈ [1, 2, 3] := by
        have : ap = 1 ∨ ap = 2 ∨ ap = 3 := by omega
        rcases this with rfl | rfl | rfl <;> simp
      have := List.all_eq_true.mp h6 ap hm
      exact of_decide_eq_true (List.all_eq_true.mp this k (List.mem_range.mpr (by omega)))
def lawRow (n a : Nat) : Bool := (List.range n).all fun b => lawOk n (restsP n a b) (rowP n a b)
def lawAll (n : Nat) : Bool := (List.range n).all fun a => lawRow n a
end Mine
end

section
set_option maxRecDepth 100000
namespace Mine
theorem ok20 : lawRow 2 0 = true := by decide +kernel
theorem ok21 : lawRow 2 1 = true := by decide +kernel
theorem ok30 : lawRow 3 0 = true := by decide +kernel
theorem ok31 : lawRow 3 1 = true := by decide +kernel
theorem ok32 : lawRow 3 2 = true := by decide +kernel
theorem ok40 : lawRow 4 0 = true := by decide +kernel
theorem ok41 : lawRow 4 1 = true := by decide +kernel
theorem ok42 : lawRow 4 2 = true := by decide +kernel
theorem ok43 : lawRow 4 3 = true := by decide +kernel
theorem ok50 : lawRow 5 0 = true := by decide +kernel
theorem ok51 : lawRow 5 1 = true := by decide +kernel
theorem ok52 : lawRow 5 2 = true := by decide +kernel
theorem ok53 : lawRow 5 3 = true := by decide +kernel
theorem ok54 : lawRow 5 4 = true := by decide +kernel
theorem ok60 : lawRow 6 0 = true := by decide +kernel
theorem ok61 : lawRow 6 1 = true := by decide +kernel
theorem ok62 : lawRow 6 2 = true := by decide +kernel
theorem ok63 : lawRow 6 3 = true := by decide +kernel
theorem ok64 : lawRow 6 4 = true := by decide +kernel
theorem ok65 : lawRow 6 5 = true := by decide +kernel
theorem ok70 : lawRow 7 0 = true := by decide +kernel
theorem ok71 : lawRow 7 1 = true := by decide +kernel
theorem ok72 : lawRow 7 2 = true := by decide +kernel
theorem ok73 : lawRow 7 3 = true := by decide +kernel
theorem ok74 : lawRow 7 4 = true := by decide +kernel
theorem ok75 : lawRow 7 5 = true := by decide +kernel
theorem ok76 : lawRow 7 6 = true := by decide +kernel
theorem ok80 : lawRow 8 0 = true := by decide +kernel
theorem ok81 : lawRow 8 1 = true := by decide +kernel
theorem ok82 : lawRow 8 2 = true := by decide +kernel
theorem ok83 : lawRow 8 3 = true := by decide +kernel
theorem ok84 : lawRow 8 4 = true := by decide +kernel
theorem ok85 : lawRow 8 5 = true := by decide +kernel
theorem ok86 : lawRow 8 6 = true := by decide +kernel
theorem ok87 : lawRow 8 7 = true := by decide +kernel
theorem ok90 : lawRow 9 0 = true := by decide +kernel
theorem ok91 : lawRow 9 1 = true := by decide +kernel
theorem ok92 : lawRow 9 2 = true := by decide +kernel
theorem ok93 : lawRow 9 3 = true := by decide +kernel
theorem ok94 : lawRow 9 4 = true := by decide +kernel
theorem ok95 : lawRow 9 5 = true := by decide +kernel
theorem ok96 : lawRow 9 6 = true := by decide +kernel
theorem ok97 : lawRow 9 7 = true := by decide +kernel
theorem ok98 : lawRow 9 8 = true := by decide +kernel
theorem rows2 : ∀ a, a < 2 → lawRow 2 a = true
  | 0, _ => ok20
  | 1, _ => ok21
  | _ + 2, h => absurd h (Nat.not_lt.mpr (Nat.le_add_left _ _))
theorem rows3 : ∀ a, a < 3 → lawRow 3 a = true
  | 0, _ => ok30
  | 1, _ => ok31
  | 2, _ => ok32
  | _ + 3, h => absurd h (Nat.not_lt.mpr (Nat.le_add_left _ _))
theorem rows4 : ∀ a, a < 4 → lawRow 4 a = true
  | 0, _ => ok40
  | 1, _ => ok41
  | 2, _ => ok42
  | 3, _ => ok43
  | _ + 4, h => absurd h (Nat.not_lt.mpr (Nat.le_add_left _ _))
theorem rows5 : ∀ a, a < 5 → lawRow 5 a = true
  | 0, _ => ok50
  | 1, _ => ok51
  | 2, _ => ok52
  | 3, _ => ok53
  | 4, _ => ok54
  | _ + 5, h => absurd h (Nat.not_lt.mpr (Nat.le_add_left _ _))
theorem rows6 : ∀ a, a < 6 → lawRow 6 a = true
  | 0, _ => ok60
  | 1, _ => ok61
  | 2, _ => ok62
  | 3, _ => ok63
  | 4, _ => ok64
  | 5, _ => ok65
  | _ + 6, h => absurd h (Nat.not_lt.mpr (Nat.le_add_left _ _))
theorem rows7 : ∀ a, a < 7 → lawRow 7 a = true
  | 0, _ => ok70
  | 1, _ => ok71
  | 2, _ => ok72
  | 3, _ => ok73
  | 4, _ => ok74
  | 5, _ => ok75
  | 6, _ => ok76
  | _ + 7, h => absurd h (Nat.not_lt.mpr (Nat.le_add_left _ _))
theorem rows8 : ∀ a, a < 8 → lawRow 8 a = true
  | 0, _ => ok80
  | 1, _ => ok81
  | 2, _ => ok82
  | 3, _ => ok83
  | 4, _ => ok84
  | 5, _ => ok85
  | 6, _ => ok86
  | 7, _ => ok87
  | _ + 8, h => absurd h (Nat.not_lt.mpr (Nat.le_add_left _ _))
theorem rows9 : ∀ a, a < 9 → lawRow 9 a = true
  | 0, _ => ok90
  | 1, _ => ok91
  | 2, _ => ok92
  | 3, _ => ok93
  | 4, _ => ok94
  | 5, _ => ok95
  | 6, _ => ok96
  | 7, _ => ok97
  | 8, _ => ok98
  | _ + 9, h => absurd h (Nat.not_lt.mpr (Nat.le_add_left _ _))
theorem ok_row : ∀ {n a : Nat}, 2 ≤ n → n ≤ 9 → a < n → lawRow n a = true
  | 0, _, h, _, _ => absurd h (by decide)
  | 1, _, h, _, _ => absurd h (by decide)
  | 2, a, _, _, h => rows2 a h
  | 3, a, _, _, h => rows3 a h
  | 4, a, _, _, h => rows4 a h
  | 5, a, _, _, h => rows5 a h
  | 6, a, _, _, h => rows6 a h
  | 7, a, _, _, h => rows7 a h
  | 8, a, _, _, h => rows8 a h
  | 9, a, _, _, h => rows9 a h
  | _ + 10, _, _, h, _ => absurd h (Nat.not_le.mpr (Nat.lt_of_lt_of_le (by decide : 9 < 10) (Nat.le_add_left _ _)))
theorem ok_all {n a b : Nat} (h1 : 2 ≤ n) (h2 : n ≤ 9) (h3 : a < n) (h4 : b < n) : LawPure n (restsP n a b) (rowP n a b) :=
  lawOk_spec (List.all_eq_true.mp (ok_row h1 h2 h3) b (List.mem_range.mpr h4))
end Mine
end

section
set_option maxRecDepth 100000
namespace Mine
/-- the numbers of a line by their rests -/
theorem line_mod {n : Nat} (hn : 0 < n) (a0 st : Int) : ∃ a b : Nat, a < n ∧ b < n ∧ ∀ i : Nat, (a0 + (i : Int) * st).fmod n = (((a + i * b) % n : Nat) : Int) ∧ (a0 + (i : Int) * st).fdiv n = a0.fdiv n + (i : Int) * st.fdiv n + (((a + i * b) / n : Nat) : Int) := by
  have hn' : (0 : Int) < n := by omega
  have ea := Int.mul_fdiv_add_fmod a0 n
  have eb := Int.mul_fdiv_add_fmod st n
  have a1 := Int.fmod_nonneg_of_pos a0 hn'
  have a2 := Int.fmod_lt_of_pos a0 hn'
  have b1 := Int.fmod_nonneg_of_pos st hn'
  have b2 := Int.fmod_lt_of_pos st hn'
  obtain ⟨a, ha⟩ : ∃ a : Nat, a0.fmod n = (a : Int) := ⟨(a0.fmod n).toNat, by omega⟩
  obtain ⟨b, hb⟩ : ∃ b : Nat, st.fmod n = (b : Int) := ⟨(st.fmod n).toNat, by omega⟩
  rw [ha] at ea a2
  rw [hb] at eb b2
  refine ⟨a, b, by omega, by omega, fun i => ?_⟩
  have hx : a0 + (i : Int) * st = ((a + i * b : Nat) : Int) + n * (a0.fdiv n + (i : Int) * st.fdiv n) := by
    generalize a0.fdiv n = qa at *
    generalize st.fdiv n = qb at *
    rw [← ea, ← eb, Int.natCast_add, Int.natCast_mul, Int.mul_add, Int.mul_add, Int.mul_left_comm]
    omega
  rw [hx]
  constructor
  · rw [Int.fmod_eq_emod_of_nonneg _ (Int.le_of_lt hn'), Int.add_mul_emod_self_left]
    rfl
  · rw [Int.fdiv_eq_ediv_of_nonneg _ (Int.le_of_lt hn'), Int.add_mul_ediv_left _ _ (by omega)]
    rw [Int.natCast_ediv]
    omega
theorem div_step {n a b : Nat} (hb : b < n) : (((a + b) / n : Nat) : Int) - ((a / n : Nat) : Int) = if a % n + b ≥ n then 1 else 0 := by
  have h1 := Nat.div_add_mod a n
  have h2 := Nat.mod_lt a (show 0 < n by omega)
  split
  · rename_i h
    have : (a + b) / n = a / n + 1 := by
      rw [Nat.div_eq_iff (by omega)]
      generalize a / n = q at *
      generalize a % n = r at *
      have e : (q + 1) * n = n * q + n := by rw [Nat.add_mul, Nat.mul_comm]; omega
      omega
    omega
  · rename_i h
    have : (a + b) / n = a / n := by
      rw [Nat.div_eq_iff (by omega)]
      generalize a / n = q at *
      generalize a % n = r at *
      have e : q * n = n * q := Nat.mul_comm ..
      omega
    omega
end Mine
end

section
set_option maxRecDepth 100000
namespace Mine
theorem getD_range (f : Nat → Int) {n j : Nat} (h : j < n) : ((List.range n).map f).getD j 0 = f j := by
  rw [List.getD_eq_getElem?_getD, List.getElem?_map, List.getElem?_range h]
  rfl
theorem pure_pos {n : Nat} (a0 st : Int) (hn1 : 2 ≤ n) (hn2 : n ≤ 9) :
    LawPure n ((List.range (n + 1)).map fun i : Nat => (((a0 + (i : Int) * st).fmod n).natAbs : Int))
      ((List.range n).map fun i : Nat => ((List.range (n + 1)).map fun i : Nat => (a0 + (i : Int) * st).fdiv n).getD (i + 1) 0 - ((List.range (n + 1)).map fun i : Nat => (a0 + (i : Int) * st).fdiv n).getD i 0 - st.fdiv n) := by
  obtain ⟨a, b, ha, hb, hl⟩ := line_mod (n := n) (by omega) a0 st
  have e1 : ((List.range (n + 1)).map fun i : Nat => (((a0 + (i : Int) * st).fmod n).natAbs : Int)) = restsP n a b := by
    unfold restsP
    refine List.map_congr_left fun i _ => ?_
    rw [(hl i).1, Int.natAbs_natCast]
  have e2 : ((List.range n).map fun i : Nat => ((List.range (n + 1)).map fun i : Nat => (a0 + (i : Int) * st).fdiv n).getD (i + 1) 0 - ((List.range (n + 1)).map fun i : Nat => (a0 + (i : Int) * st).fdiv n).getD i 0 - st.fdiv n) = rowP n a b := by
    unfold rowP
    refine List.map_congr_left fun i hi => ?_
    have hi' := List.mem_range.mp hi
    rw [getD_range _ (show i + 1 < n + 1 by omega), getD_range _ (show i < n + 1 by omega), (hl (i + 1)).2, (hl i).2, ← div_step (a := a + i * b) hb]
    have : a + (i + 1) * b = a + i * b + b := by rw [Nat.add_mul, Nat.one_mul, Nat.add_assoc]
    rw [this, Int.natCast_add, Int.add_mul, Int.natCast_one, Int.one_mul]
    omega
  rw [e1, e2]
  exact ok_all hn1 hn2 ha hb
theorem law_pure {n : Nat} {d st a0 : Int} (hn1 : 2 ≤ n) (hn2 : n ≤ 9) (hd : d = n ∨ d = -n) :
    LawPure n ((List.range (n + 1)).map fun i : Nat => (((a0 + (i : Int) * st).fmod d).natAbs : Int))
      ((List.range n).map fun i : Nat => ((List.range (n + 1)).map fun i : Nat => (a0 + (i : Int) * st).fdiv d).getD (i + 1) 0 - ((List.range (n + 1)).map fun i : Nat => (a0 + (i : Int) * st).fdiv d).getD i 0 - st.fdiv d) := by
  rcases hd with rfl | rfl
  · exact pure_pos a0 st hn1 hn2
  · have hm : ∀ x : Int, (x.fmod (-(n : Int))).natAbs = ((-x).fmod n).natAbs := fun x => by
      have h : (- -x).fmod (-(n : Int)) = -((-x).fmod n) := Int.neg_fmod_neg ..
      rw [Int.neg_neg] at h
      rw [h, Int.natAbs_neg]
    have hq : ∀ x : Int, x.fdiv (-(n : Int)) = (-x).fdiv n := fun x => by
      have h : (- -x).fdiv (-(n : Int)) = (-x).fdiv n := Int.neg_fdiv_neg ..
      rw [Int.neg_neg] at h
      exact h
    have hx : ∀ i : Nat, -(a0 + (i : Int) * st) = -a0 + (i : Int) * -st := fun i => by rw [Int.neg_add, Int.mul_neg]
    simp only [hm, hq, hx]
    exact pure_pos (-a0) (-st) hn1 hn2
end Mine
end

section
open PySem PySem.W PyProof.Rows
set_option maxRecDepth 100000
set_option maxHeartbeats 4000000
namespace Mine
local macro_rules | `(tactic| walk_at "in of") => `(tactic| (with_reducible first | assumption | exact List.mem_cons_self | (refine List.mem_cons_of_mem _ ?_; walk_at "in of") | exact List.mem_append_left _ (by assumption) | exact List.mem_append_right _ (by assumption) | (refine List.mem_append_left _ ?_; walk_at "in of") | (refine List.mem_append_right _ ?_; walk_at "in of")))
local macro_rules | `(tactic| walk_at "sub of") => `(tactic| (with_reducible first | exact List.forall_mem_nil _ | (refine List.forall_mem_cons.mpr ⟨?_, ?_⟩; walk_at "in of"; walk_at "sub of") | (refine List.forall_mem_append.mpr ⟨?_, ?_⟩; walk_at "sub of"; walk_at "sub of") | (intro q9 h9; walk_at "in of")))
theorem seg_go {M : Model} {A : Around} {α : Type} {t : Sem α} {Q : α → Shared → Prop} {E : Value → Shared → Prop} {s : Shared} (h : wpAny M A t Q (fun _ _ => False) s) : wpAny M A t Q E s := wpAny_mono h (fun _ _ h => h) fun _ _ h => h.elim
theorem News.cells {h₀ h : Heap} {L : Addr} {x a b : Addr × Obj} {o1 o2 o3 o4 o5 o6 o7 : Obj} (N : News h₀ L h (x :: (L + 1 + 1 + 1 + 1 + 1 + 1 + 1, o7) :: (L + 1 + 1 + 1 + 1 + 1 + 1, o6) :: (L + 1 + 1 + 1 + 1 + 1, o5) :: (L + 1 + 1 + 1 + 1, o4) :: (L + 1 + 1 + 1, o3) :: (L + 1 + 1, o2) :: (L + 1, o1) :: a :: b :: [])) :
    News h₀ L h (cellsL L o1 o2 o3 o4 o5 o6 o7 [x, a, b]) := News.sub N (by walk_at "sub of")
theorem neAdd0 (L j : Nat) (h : 0 < j) : L ≠ L + j := fun e => by omega
theorem upd1 {L : Addr} {o1 o2 o3 o4 o5 o6 o7 : Obj} {R : List (Addr × Obj)} (hR : ∀ q ∈ R, q.1 ≠ L + 1) :
    UpdF (L + 1) o1 (cellsL L o1 o2 o3 o4 o5 o6 o7 R) (fun o => cellsL L o o2 o3 o4 o5 o6 o7 R) :=
  .head (by
    intro q hq
    rcases List.mem_cons.mp hq with rfl | hq
    · exact neAdd L 2 1 (by decide)
    rcases List.mem_cons.mp hq with rfl | hq
    · exact neAdd L 3 1 (by decide)
    rcases List.mem_cons.mp hq with rfl | hq
    · exact neAdd L 4 1 (by decide)
    rcases List.mem_cons.mp hq with rfl | hq
    · exact neAdd L 5 1 (by decide)
    rcases List.mem_cons.mp hq with rfl | hq
    · exact neAdd L 6 1 (by decide)
    rcases List.mem_cons.mp hq with rfl | hq
    · exact neAdd L 7 1 (by decide)
    · exact hR q hq)
theorem upd2 {L : Addr} {o1 o2 o3 o4 o5 o6 o7 : Obj} {R : List (Addr × Obj)} (hR : ∀ q ∈ R, q.1 ≠ L + 1 + 1) :
    UpdF (L + 1 + 1) o2 (cellsL L o1 o2 o3 o4 o5 o6 o7 R) (fun o => cellsL L o1 o o3 o4 o5 o6 o7 R) :=
  .tail (neAdd L 1 2 (by decide)) (.head (by
    intro q hq
    rcases List.mem_cons.mp hq with rfl | hq
    · exact neAdd L 3 2 (by decide)
    rcases List.mem_cons.mp hq with rfl | hq
    · exact neAdd L 4 2 (by decide)
    rcases List.mem_cons.mp hq with rfl | hq
    · exact neAdd L 5 2 (by decide)
    rcases List.mem_cons.mp hq with rfl | hq
    · exact neAdd L 6 2 (by decide)
    rcases List.mem_cons.mp hq with rfl | hq
    · exact neAdd L 7 2 (by decide)
    · exact hR q hq))
theorem upd3 {L : Addr} {o1 o2 o3 o4 o5 o6 o7 : Obj} {R : List (Addr × Obj)} (hR : ∀ q ∈ R, q.1 ≠ L + 1 + 1 + 1) :
    UpdF (L + 1 + 1 + 1) o3 (cellsL L o1 o2 o3 o4 o5 o6 o7 R) (fun o => cellsL L o1 o2 o o4 o5 o6 o7 R) :=
  .tail (neAdd L 1 3 (by decide)) (.tail (neAdd L 2 3 (by decide)) (.head (by
    intro q hq
    rcases List.mem_cons.mp hq with rfl | hq
    · exact neAdd L 4 3 (by decide)
    rcases List.mem_cons.mp hq with rfl | hq
    · exact neAdd L 5 3 (by decide)
    rcases List.mem_cons.mp hq with rfl | hq
    · exact neAdd L 6 3 (by decide)
    rcases List.mem_cons.mp hq with rfl | hq
    · exact neAdd L 7 3 (by decide)
    · exact hR q hq)))
theorem upd4 {L : Addr} {o1 o2 o3 o4 o5 o6 o7 : Obj} {R : List (Addr × Obj)} (hR : ∀ q ∈ R, q.1 ≠ L + 1 + 1 + 1 + 1) :
    UpdF (L + 1 + 1 + 1 + 1) o4 (cellsL L o1 o2 o3 o4 o5 o6 o7 R) (fun o => cellsL L o1 o2 o3 o o5 o6 o7 R) :=
  .tail (neAdd L 1 4 (by decide)) (.tail (neAdd L 2 4 (by decide)) (.tail (neAdd L 3 4 (by decide)) (.head (by
    intro q hq
    rcases List.mem_cons.mp hq with rfl | hq
    · exact neAdd L 5 4 (by decide)
    rcases List.mem_cons.mp hq with rfl | hq
    · exact neAdd L 6 4 (by decide)
    rcases List.mem_cons.mp hq with rfl | hq
    · exact neAdd L 7 4 (by decide)
    · exact hR q hq))))
theorem cell_far {L a : Nat} (h : a < L ∨ L + 7 < a) : a ≠ L + 1 ∧ a ≠ L + 2 ∧ a ≠ L + 3 ∧ a ≠ L + 4 ∧ a ≠ L + 5 ∧ a ≠ L + 6 ∧ a ≠ L + 7 := by omega
local macro_rules | `(tactic| walk_at "storeName") => `(tactic| (k_here; (first | (with_reducible show wpAny _ _ (storeName _ (Str.ofString "size") _) _ _ _) | (with_reducible show wpAny _ _ (storeName _ (Str.ofString "slope") _) _ _ _) | (with_reducible show wpAny _ _ (storeName _ (Str.ofString "quotients") _) _ _ _) | (with_reducible show wpAny _ _ (storeName _ (Str.ofString "rests") _) _ _ _)); refine stop ?_))
local macro_rules | `(tactic| walk_at "eval Name") => `(tactic| (k_here; k_dflt (refine' nameX_L ?k1 ?k2 ?_; (case k1 => k_asm); (case k2 => assumption); k_whole)))
local macro_rules | `(tactic| walk_at "call ref") => `(tactic| (k_here; refine stop ?_))
local macro_rules | `(tactic| walk_at $k:str) => if ["exec For Name Call cons nil", "exec Assign cons ListComp", "exec If"].contains k.getString then `(tactic| (refine stop ?_)) else Lean.Macro.throwUnsupported
local macro_rules | `(tactic| walk_at "exec Assign") => `(tactic| ((with_reducible show wpAny _ _ (exec (Stmt.Assign [Expr.Name (Str.ofString "due") _] _ _) _) _ _ _); refine stop ?_))
theorem law_spec {body : List Stmt} {sc : Scope} (hb : lawParts.1 = body) (hscp : lawScope = sc) {prog : Program} {w : World} {p : Program} {loose : List Str} {mean : ExcName → Option Value} {mg mb : Str → Option Value} {fa : Addr} {cd : Value} {h₀ : Heap} {L : Addr} {m : Str → Option Value} {s : Shared}
    {Q : Flow → Shared → Prop} {E : Value → Shared → Prop} {scr : Addr} {ws : List Value} {ns : List Int} {o1 o2 o3 o4 o5 o6 o7 : Obj} {v1 v2 v3 v4 v5 v6 v7 : Option Value}
    (hI : IntsAre ws ns) (hlen : ns.length ≤ 63) (hsc : h₀.IsList scr ws.toArray)
    (B : Below callerA h₀ [] h₀) (F : Fr h₀ L s.heap m) (X : (hd.heap_39 w.params).In h₀) (TT : Top p loose mean mg mb h₀) (C1 : CodeHd h₀ 48 44) (C2 : CodeHd h₀ 41 37)
    (N : News h₀ L s.heap ((L + 1 + 1 + 1 + 1 + 1 + 1 + 1, o7) :: (L + 1 + 1 + 1 + 1 + 1 + 1, o6) :: (L + 1 + 1 + 1 + 1 + 1, o5) :: (L + 1 + 1 + 1 + 1, o4) :: (L + 1 + 1 + 1, o3) :: (L + 1 + 1, o2) :: (L + 1, o1) :: (44, tabObj #[]) :: (37, tabObj #[]) :: []))
    (hL : 44 < L) (c1 : o1.data = .cell v1) (c2 : o2.data = .cell v2) (c3 : o3.data = .cell v3) (c4 : o4.data = .cell v4) (c5 : o5.data = .cell v5) (c6 : o6.data = .cell v6) (c7 : o7.data = .cell v7)
    (e1 : m (Str.ofString "script") = some (.ref scr))
    (hret : ∀ h' tk' m' news' p1 p2, Fr h₀ L h' m' → News h₀ L h' ((44, tabObj p1) :: (37, tabObj p2) :: news') → Q (.ret (.bool true)) { s with heap := h', toks := tk' }) :
    wpAny (model prog w) (lawA sc L fa cd) (execs body (envOfC (Str.ofString "law") sc L fa cd)) Q E s := by
  conv at hb => lhs; whnf
  conv at hscp => lhs; whnf
  subst hb hscp
  k_steps
  unfold Stop
  rename Fr h₀ L _ _ => F1
  rename News h₀ L _ _ => N1
  refine line_spec hI hlen _ _ _ _ _ _ _ _ _ _ _ _ _ _ _ [] callerA _ _ _ _ _ _ _ hsc B F1 X N1 TT C1 C2 (by exact rfl) (by decide) (by decide) ?_
  intro t n d st a0 ap tn td ts ta tp h2 tk2 F2 N2 lt2 hn1 hn2 hd hs1 hs2 ha1 ha2 hp1 hp2
  obtain ⟨n, rfl⟩ : ∃ k : Nat, n = (k : Int) := ⟨n.toNat, by omega⟩
  obtain ⟨ap, rfl⟩ : ∃ k : Nat, ap = (k : Int) := ⟨ap.toNat, by omega⟩
  have lt7 : L + 7 < t := lt2 _ (.head _)
  replace N2 := News.cells N2
  have hfar0 : ∀ q ∈ [(t, tupOf [.int n tn, .int d td, .int st ts, .int a0 ta, .int ap tp] 0), (44, tabObj #[]), (37, tabObj #[])], q.1 < L ∨ L + 7 < q.1 := by
    intro q hq
    simp only [List.mem_cons, List.not_mem_nil, or_false] at hq
    rcases hq with rfl | rfl | rfl
    · exact .inr lt7
    · exact .inl hL
    · exact .inl (Nat.lt_trans (by decide) hL)
  clear N1 F1
  k_steps
  unfold Stop
  rename Fr h₀ L _ _ => F3
  rename News h₀ L _ _ => N3
  refine storeX_C F3 N3 rfl (upd1 fun q hq => (cell_far (hfar0 q hq)).1) c1 ?_
  intro h4 o1' F4 N4 c1'
  clear F3 N3
  k_steps
  unfold Stop
  rename Fr h₀ L _ _ => F5
  rename News h₀ L _ _ => N5
  have hne : ∀ q ∈ cellsL L o1' o2 o3 o4 o5 o6 o7 [(t, tupOf [.int n tn, .int d td, .int st ts, .int a0 ta, .int ap tp] 0)], 44 < q.1 := fun q hq => by
    rcases mem_cells hq with hq | hq
    · exact Nat.lt_trans hL hq.1
    · rw [List.mem_singleton.mp hq]; exact Nat.lt_trans hL (Nat.lt_of_le_of_lt (Nat.le_add_right L 7) lt7)
  refine Spec.use (divmod_spec (a := st) (b := d) (ps1 := #[]) (ps2 := #[]) (rest := cellsL L o1' o2 o3 o4 o5 o6 o7 [(t, tupOf [.int n tn, .int d td, .int st ts, .int a0 ta, .int ap tp] 0)])
    (by omega) (by omega) (by omega) (by omega) (by omega) (fun q hq => Nat.ne_of_gt (hne q hq)) (fun q hq => Nat.ne_of_gt (Nat.lt_trans (by decide) (hne q hq))) (.inl rfl) (.inl rfl)) B F5 X (News.sub N5 ?_) TT C1 C2 rfl (by decide) (by decide) ?_
  · walk_at "sub of"
  rintro v news' h6 tk6 F6 N6 ⟨t2, tq, tr, kk, own, ps1, ps2, rfl, rfl, hm, hT1, hT2, hown⟩
  have hcs : ∀ o, o = o1' ∨ o = o2 ∨ o = o3 ∨ o = o4 ∨ o = o5 ∨ o = o6 ∨ o = o7 → ∃ v, o.data = .cell v := by
    intro o h
    rcases h with rfl | rfl | rfl | rfl | rfl | rfl | rfl
    · exact ⟨_, c1'⟩
    · exact ⟨_, c2⟩
    · exact ⟨_, c3⟩
    · exact ⟨_, c4⟩
    · exact ⟨_, c5⟩
    · exact ⟨_, c6⟩
    · exact ⟨_, c7⟩
  have honly : ∀ q ∈ own ++ cellsL L o1' o2 o3 o4 o5 o6 o7 [(t, tupOf [.int n tn, .int d td, .int st ts, .int a0 ta, .int ap tp] 0)], ∀ {qual : Str}, q ∈ own ∨ ∀ vs t, q.2.data = .fields vs → vs[1]? ≠ some (.str qual t) := fun q hq qual => by
    rcases List.mem_append.mp hq with hq | hq
    · exact .inl hq
    rcases mem_cells hq with h | h
    · obtain ⟨v, hv⟩ := hcs _ h.2.2
      exact .inr fun vs t h1 h2 => by rw [hv] at h1; cases h1
    · rw [List.mem_singleton.mp h]
      exact .inr fun vs t h1 h2 => nomatch h1
  replace hT1 : Tab q2i 80 4 own ps1 := hT1.only fun q hq => honly q hq
  replace hT2 : Tab q2d 65 4 own ps2 := hT2.only fun q hq => honly q hq
  have hoL : ∀ r ∈ own, L + 7 < r.1 := fun r hr => (hown r hr).2.2 (L + 1 + 1 + 1 + 1 + 1 + 1 + 1, o7) (.tail _ (.tail _ (.tail _ (.tail _ (.tail _ (.tail _ (.head _)))))))
  have N7 : News h₀ L h6 (cellsL L o1' o2 o3 o4 o5 o6 o7 ((t2, tupOf [.int (st.fdiv d) tq, .int (st.fmod d) tr] kk) :: (44, tabObj ps1) :: (37, tabObj ps2) :: own)) := News.sub N6 (by walk_at "sub of")
  have hl2 : L + 7 < t2 := hoL _ hm
  clear N6 N5 F5 honly hown hne
  k_steps
  unfold Stop
  rename Fr h₀ L _ _ => F8
  rename News h₀ L _ _ => N8
  have hfar1 : ∀ q ∈ (t2, tupOf [.int (st.fdiv d) tq, .int (st.fmod d) tr] kk) :: (44, tabObj ps1) :: (37, tabObj ps2) :: own, q.1 < L ∨ L + 7 < q.1 := by
    intro q hq
    rcases List.mem_cons.mp hq with rfl | hq
    · exact .inr hl2
    rcases List.mem_cons.mp hq with rfl | hq
    · exact .inl hL
    rcases List.mem_cons.mp hq with rfl | hq
    · exact .inl (Nat.lt_trans (by decide : 37 < 44) hL)
    · exact .inr (hoL q hq)
  refine storeX_C F8 N8 rfl (upd2 fun q hq => (cell_far (hfar1 q hq)).2.1) c2 ?_
  intro h9 o2' F9 N9 c2'
  clear F8 N8
  k_steps
  unfold Stop
  rename_i Dq h10 F10 N10 lDq
  have hq7 : L + 7 < Dq := lDq.2.2.2.2.2.2.1
  have lDo : ∀ q ∈ own, q.1 < Dq := ktn_ltOf lDq.2.2.2.2.2.2.2.2.2.2
  have N11 : News h₀ L h10 (cellsL L o1' o2' o3 o4 o5 o6 o7 ((Dq, listOf (List.toArray []) 0) :: (44, tabObj ps1) :: (37, tabObj ps2) :: own)) := News.sub N10 (by walk_at "sub of")
  have hfar2 : ∀ q ∈ (Dq, listOf (List.toArray []) 0) :: (44, tabObj ps1) :: (37, tabObj ps2) :: own, q.1 < L ∨ L + 7 < q.1 := by
    intro q hq
    rcases List.mem_cons.mp hq with rfl | hq
    · exact .inr hq7
    · exact hfar1 q (.tail _ hq)
  refine storeX_C F10 N11 rfl (upd3 fun q hq => (cell_far (hfar2 q hq)).2.2.1) c3 ?_
  intro h11 o3' F11 N12 c3'
  clear F10 N10 N11 lDq
  k_steps
  unfold Stop
  rename_i Dr h12 F12 N13 lDr
  have hr7 : L + 7 < Dr := lDr.2.2.2.2.2.2.1
  have hqr : Dq ≠ Dr := Nat.ne_of_lt lDr.2.2.2.2.2.2.2.1
  have lRo : ∀ q ∈ own, q.1 < Dr := ktn_ltOf lDr.2.2.2.2.2.2.2.2.2.2
  have N14 : News h₀ L h12 (cellsL L o1' o2' o3' o4 o5 o6 o7 ((Dr, listOf (List.toArray []) 0) :: (Dq, listOf (List.toArray []) 0) :: (44, tabObj ps1) :: (37, tabObj ps2) :: own)) := News.sub N13 (by walk_at "sub of")
  have hfar3 : ∀ q ∈ (Dr, listOf (List.toArray []) 0) :: (Dq, listOf (List.toArray []) 0) :: (44, tabObj ps1) :: (37, tabObj ps2) :: own, q.1 < L ∨ L + 7 < q.1 := by
    intro q hq
    rcases List.mem_cons.mp hq with rfl | hq
    · exact .inr hr7
    · exact hfar2 q hq
  refine storeX_C F12 N14 rfl (upd4 fun q hq => (cell_far (hfar3 q hq)).2.2.2.1) c4 ?_
  intro h13 o4' F13 N15 c4'
  clear F12 N13 N14 lDr
  k_steps
  unfold Stop
  rename Fr h₀ L _ _ => F14
  rename News h₀ L _ _ => N16
  refine seg_go (seg4 (o1 := o1') (o2 := o2') (o3 := o3') (o4 := o4') (o5 := o5) (o6 := o6) (o7 := o7) rfl rfl B F14 X TT C1 C2 (News.sub N16 ?_) hT1 hT2 hL hq7 hr7 hqr (fun q hq => ⟨Nat.lt_of_le_of_lt (Nat.le_add_right L 7) (hoL q hq), Nat.ne_of_lt (lDo q hq), Nat.ne_of_lt (lRo q hq)⟩) ?_ c1' c3' c4' rfl rfl rfl (by omega) (by omega) hd hs1 hs2 ha1 ha2 ?_)
  · walk_at "sub of"
  · intro o h
    rcases h with rfl | rfl | rfl | rfl | rfl | rfl | rfl
    · exact ⟨_, c1'⟩
    · exact ⟨_, c2'⟩
    · exact ⟨_, c3'⟩
    · exact ⟨_, c4'⟩
    · exact ⟨_, c5⟩
    · exact ⟨_, c6⟩
    · exact ⟨_, c7⟩
  intro h15 tk15 m15 wq wr k1 k2 ps3 ps4 F15 N17' hQ hRs hm15
  have N17 : News h₀ L h15 ((Dq, listOf wq k1) :: (Dr, listOf wr k2) :: cellsL L o1' o2' o3' o4' o5 o6 o7 [(44, tabObj ps3), (37, tabObj ps4)]) := News.sub N17' (by walk_at "sub of")
  clear N17'
  clear F14 N16 hT1 hT2 hcs
  have a15 : m15 (Str.ofString "apart") = some (.int (ap : Int) tp) := (hm15 _ (by decide) (by decide) (by decide)).trans rfl
  clear hm15
  obtain ⟨Qs, hQs⟩ : ∃ Qs, Qs = (List.range (n + 1)).map fun i : Nat => (a0 + (i : Int) * st).fdiv d := ⟨_, rfl⟩
  obtain ⟨Rs, hRs'⟩ : ∃ Rs, Rs = (List.range (n + 1)).map fun i : Nat => (((a0 + (i : Int) * st).fmod d).natAbs : Int) := ⟨_, rfl⟩
  rw [← hQs] at hQ
  rw [← hRs'] at hRs
  have hQl : Qs.length = n + 1 := by rw [hQs, List.length_map, List.length_range]
  have hRl : Rs.length = n + 1 := by rw [hRs', List.length_map, List.length_range]
  dsimp only
  k_steps
  unfold Stop
  refine seg_go (seg5 (n := n) (o1 := o1') (o2 := o2') (o3 := o3') (o4 := o4') (o5 := o5) (o6 := o6) (o7 := o7) rfl rfl B F15 X TT N17 c1' c2' c3' (by omega) (by omega) hQ hQl ?_)
  intro h16 tk16 Dw vrow F16' N18 hrow hoffw
  obtain ⟨m16, hm16, F16⟩ : ∃ m16, m16 = _ ∧ Fr h₀ L h16 m16 := ⟨_, rfl, F16'⟩
  clear F16' N17 F15
  have a16 : m16 (Str.ofString "apart") = some (.int (ap : Int) tp) := by rw [hm16]; exact a15
  have r16 : m16 (Str.ofString "row") = some (.ref Dw) := by rw [hm16]; rfl
  clear hm16 a15
  obtain ⟨row, hrow'⟩ : ∃ row, row = (List.range n).map fun i : Nat => Qs.getD (i + 1) 0 - Qs.getD i 0 - st.fdiv d := ⟨_, rfl⟩
  rw [← hrow'] at hrow
  have hrl : row.length = n := by rw [hrow', List.length_map, List.length_range]
  dsimp only
  k_steps
  unfold Stop
  rename_i H h17a lH h17 F17 N19
  have hHl : ∀ q ∈ (Dw, LCg.lst vrow) :: (Dq, listOf wq k1) :: (Dr, listOf wr k2) :: cellsL L o1' o2' o3' o4' o5 o6 o7 [(44, tabObj ps3), (37, tabObj ps4)], q.1 < H := by
    obtain ⟨a1, a2, a3, a4, a5, a6, a7, a8, a9, a10, a11, a12⟩ := lH
    intro q hq
    simp only [cellsL, List.mem_cons, List.not_mem_nil, or_false] at hq
    rcases hq with rfl | rfl | rfl | rfl | rfl | rfl | rfl | rfl | rfl | rfl | rfl | rfl <;> assumption
  obtain ⟨R7, hR7⟩ : ∃ R7, R7 = (L + 1 + 1, o2') :: (L + 1 + 1 + 1, o3') :: (L + 1 + 1 + 1 + 1, o4') :: (L + 1 + 1 + 1 + 1 + 1, o5) :: (L + 1 + 1 + 1 + 1 + 1 + 1, o6) :: (L + 1 + 1 + 1 + 1 + 1 + 1 + 1, o7) :: (Dq, listOf wq k1) :: (Dr, listOf wr k2) :: (44, tabObj ps3) :: (37, tabObj ps4) :: [] := ⟨_, rfl⟩
  have hB7 : ∀ q ∈ (Dw, LCg.lst vrow) :: (L + 1, o1') :: R7, q ∈ (Dw, LCg.lst vrow) :: (Dq, listOf wq k1) :: (Dr, listOf wr k2) :: cellsL L o1' o2' o3' o4' o5 o6 o7 [(44, tabObj ps3), (37, tabObj ps4)] := by
    rw [hR7]
    walk_at "sub of"
  have h7in : (L + 1 + 1 + 1 + 1 + 1 + 1 + 1, o7) ∈ (Dw, LCg.lst vrow) :: (L + 1, o1') :: R7 := by
    rw [hR7]
    walk_at "in of"
  have hH7 : L + 7 < H := hHl _ (hB7 _ h7in)
  refine seg_go (seg7 (n := n) (o1 := o1') (Dw := Dw) (vs := vrow) (kw := vrow.length) (R := R7) rfl rfl B F17 X TT C1 C2 (News.sub N19 ?_) c1' r16 rfl (by omega) (by omega) hrow hrl (fun q hq => Nat.ne_of_lt (hHl q (hB7 q hq))) ?_)
  · intro q hq
    rcases List.mem_cons.mp hq with rfl | hq
    · exact .head _
    · exact .tail _ (hB7 q hq)
  intro h20 tk20 m20 G wh kh F20 N20 hHe hG hm20
  have a20 : m20 (Str.ofString "apart") = some (.int (ap : Int) tp) := (hm20 _ (by decide)).trans a16
  have p20 : m20 (Str.ofString "heap") = some (.ref H) := (hm20 _ (by decide)).trans rfl
  clear hm20 F17 N19 lH
  have N21 : News h₀ L h20 (cellsL L o1' o2' o3' o4' o5 o6 o7 ((H, listOf wh kh) :: (Dr, listOf wr k2) :: (44, tabObj ps3) :: (37, tabObj ps4) :: G)) := News.sub N20 (by rw [hR7]; walk_at "sub of")
  have hG7 : ∀ q ∈ G, L + 7 < q.1 := fun q hq => (hG q hq).2 _ h7in
  have hGH : ∀ q ∈ G, q.1 ≠ H := fun q hq => (hG q hq).1
  clear N20 hG hB7 h7in
  dsimp only
  k_steps
  rename_i Dt h21a lDt h21 F21 N22
  unfold Stop
  have hTl : ∀ q ∈ cellsL L o1' o2' o3' o4' o5 o6 o7 ((H, listOf wh kh) :: (Dr, listOf wr k2) :: (44, tabObj ps3) :: (37, tabObj ps4) :: G), q.1 < Dt := ktn_ltOf lDt
  have hT7 : L + 7 < Dt := hTl (L + 1 + 1 + 1 + 1 + 1 + 1 + 1, o7) (.tail _ (.tail _ (.tail _ (.tail _ (.tail _ (.tail _ (.head _)))))))
  have hDrH : Dr < H := hHl _ (.tail _ (.tail _ (.head _)))
  obtain ⟨whl, rfl⟩ : ∃ l, wh = List.toArray l := ⟨wh.toList, Array.toArray_toList.symm⟩
  have hxl : (pushAll ((List.range n).map (turnP row))).length = n := by rw [pushAll_length, List.length_map, List.length_range]
  have hLP : LawPure n Rs row := by rw [hRs', hrow', hQs]; exact law_pure (by omega) (by omega) hd
  generalize hxss : pushAll ((List.range n).map (turnP row)) = xss at *
  refine seg_go (seg9 (n := n) (kh := kh) (o1 := o1') (RR := G) (R := cellsL L o1' o2' o3' o4' o5 o6 o7 ((Dr, listOf wr k2) :: (44, tabObj ps3) :: (37, tabObj ps4) :: G)) rfl rfl B F21 X TT C1 C2 (News.sub N22 ?_) c1' rfl p20 (by omega) (by omega) hHe hxl (fun q hq => mem_tail7 (.tail _ (.tail _ (.tail _ hq)))) (Nat.ne_of_gt (hTl _ (mem_tail7 (.head _)))) ?_ ?_)
  · walk_at "sub of"
  · have hcc : ∀ q ∈ cellsL L o1' o2' o3' o4' o5 o6 o7 ((Dr, listOf wr k2) :: (44, tabObj ps3) :: (37, tabObj ps4) :: G), q.1 ≠ H ∧ q.1 ≠ Dt := by
      intro q hq
      rcases mem_cells hq with h | h
      · exact ⟨Nat.ne_of_lt (Nat.lt_of_le_of_lt h.2.1 hH7), Nat.ne_of_lt (Nat.lt_of_le_of_lt h.2.1 hT7)⟩
      rcases List.mem_cons.mp h with rfl | h
      · exact ⟨Nat.ne_of_lt hDrH, Nat.ne_of_lt (hTl _ (mem_tail7 (.tail _ (.head _))))⟩
      rcases List.mem_cons.mp h with rfl | h
      · exact ⟨Nat.ne_of_lt (hHl _ (.tail _ (.tail _ (.tail _ (mem_tail7 (.head _)))))), Nat.ne_of_lt (hTl _ (mem_tail7 (.tail _ (.tail _ (.head _)))))⟩
      rcases List.mem_cons.mp h with rfl | h
      · exact ⟨Nat.ne_of_lt (hHl _ (.tail _ (.tail _ (.tail _ (mem_tail7 (.tail _ (.head _))))))), Nat.ne_of_lt (hTl _ (mem_tail7 (.tail _ (.tail _ (.tail _ (.head _))))))⟩
      · exact ⟨hGH q h, Nat.ne_of_lt (hTl q (mem_tail7 (.tail _ (.tail _ (.tail _ (.tail _ h))))))⟩
    intro q hq
    rcases List.mem_cons.mp hq with rfl | hq
    · exact hcc _ (.head _)
    · exact hcc q hq
  intro h22 tk22 m22 wh22 kh22 wt kt F22 N23 hHe22 hTs hm22
  have a22 : m22 (Str.ofString "apart") = some (.int (ap : Int) tp) := (hm22 _ (by decide)).trans a20
  have p22 : m22 (Str.ofString "heap") = some (.ref H) := (hm22 _ (by decide)).trans p20
  have t22 : m22 (Str.ofString "turns") = some (.ref Dt) := (hm22 _ (by decide)).trans rfl
  have hw0 : wh22 = [] := by
    have h1 := hHe22.length
    rw [popRest_length, hxl, Nat.sub_self] at h1
    exact List.eq_nil_of_length_eq_zero h1
  subst hw0
  clear hm22 F21 N22 lDt hHe22
  have N24 : News h₀ L h22 ((Dr, listOf wr k2) :: (L + 1, o1') :: (L + 1 + 1 + 1 + 1, o4') :: (H, listOf (List.toArray []) kh22) :: (Dt, listOf (List.toArray wt) kt) :: cellsL L o1' o2' o3' o4' o5 o6 o7 ((44, tabObj ps3) :: (37, tabObj ps4) :: G)) := News.sub N23 (by walk_at "sub of")
  clear N23
  dsimp only
  k_steps
  unfold Stop
  unfold LawPure at hLP
  rw [hxss] at hLP
  obtain ⟨pp, hrun, hpp, hppl, htne, hlast, hpb, hchk⟩ := hLP
  obtain ⟨wrl, rfl⟩ : ∃ l, wr = List.toArray l := ⟨wr.toList, Array.toArray_toList.symm⟩
  have htl : (popAll n xss).length = n := popAll_length n xss
  have hpl : (pp.toList.map fun i => (psR Rs n).getD i (0, 0)).length = n := by rw [List.length_map, hppl]
  generalize popAll n xss = tss at *
  refine seg_go (seg10 (n := n) (o1 := o1') (o4 := o4') (k2 := k2) rfl rfl B F22 X TT N24 c1' c4' (by omega) (by omega) hRs hRl hrun hpp ?_)
  intro h25 tk25 Dd out c25 G2 F25' N25 hP lDd hG2
  generalize (pp.toList.map fun i => (psR Rs n).getD i (0, 0)) = ps at *
  obtain ⟨m25, hm25, F25⟩ : ∃ m25, m25 = _ ∧ Fr h₀ L h25 m25 := ⟨_, rfl, F25'⟩
  clear F25'
  have a25 : m25 (Str.ofString "apart") = some (.int (ap : Int) tp) := by rw [hm25]; exact a22
  have p25 : m25 (Str.ofString "heap") = some (.ref H) := by rw [hm25]; exact p22
  have t25 : m25 (Str.ofString "turns") = some (.ref Dt) := by rw [hm25]; exact t22
  have d25 : m25 (Str.ofString "due") = some (.ref Dd) := by rw [hm25]; rfl
  clear hm25
  have h7b : (L + 1 + 1 + 1 + 1 + 1 + 1 + 1, o7) ∈ (Dr, listOf (List.toArray wrl) k2) :: (L + 1, o1') :: (L + 1 + 1 + 1 + 1, o4') :: (H, listOf (List.toArray []) kh22) :: (Dt, listOf (List.toArray wt) kt) :: cellsL L o1' o2' o3' o4' o5 o6 o7 ((44, tabObj ps3) :: (37, tabObj ps4) :: G) := by
    walk_at "in of"
  have hD7 : L + 7 < Dd := lDd (L + 1 + 1 + 1 + 1 + 1 + 1 + 1, o7) (by walk_at "in of")
  have hG27 : ∀ q ∈ G2, L + 7 < q.1 := fun q hq => hG2 q hq _ h7b
  have N26 : News h₀ L h25 ((H, listOf (List.toArray []) kh22) :: (Dt, listOf (List.toArray wt) kt) :: (Dd, listOf (List.toArray out) c25) :: cellsL L o1' o2' o3' o4' o5 o6 o7 ((Dr, listOf (List.toArray wrl) k2) :: (44, tabObj ps3) :: (37, tabObj ps4) :: (G ++ G2))) := News.sub N25 (by walk_at "sub of")
  clear N25 N24 lDd hG2 h7b
  have hT26 : Heaped (G ++ G2) wt tss := hTs.mono fun q hq => List.mem_append_left _ hq
  have hP26 : Pairs (G ++ G2) out ps := hP.mono fun q hq => List.mem_append_right _ hq
  dsimp only
  k_steps
  unfold Stop
  refine seg_go (seg11 rfl rfl B F25 X TT N26 t25 p25 d25 hT26 hP26 (fun q hq => mem_tail7 (.tail _ (.tail _ (.tail _ hq)))) htne (by omega) (by omega) hlast ?_)
  intro h27 tk27 F27 N27
  have N28 : News h₀ L h27 (cellsL L o1' o2' o3' o4' o5 o6 o7 ((Dr, listOf (List.toArray wrl) k2) :: (Dt, listOf (List.toArray wt) kt) :: (Dd, listOf (List.toArray out) c25) :: (44, tabObj ps3) :: (37, tabObj ps4) :: (G ++ G2))) := News.sub N27 (by walk_at "sub of")
  clear N27 N26 F25
  dsimp only
  k_steps
  unfold Stop
  refine seg_go (seg12 (n := n) (ap := ap) (o1 := o1') (o2 := o2') (o3 := o3') (o4 := o4') (o5 := o5) (o6 := o6) (o7 := o7) rfl rfl B F27 X TT C1 C2 N28 ?_ c1' c4' c5 c6 c7 (.head _) (.tail _ (.head _)) (.tail _ (.tail _ (.head _))) hT26 hP26 (fun q hq => .tail _ (.tail _ (.tail _ (.tail _ (.tail _ hq)))))
    hRs hRl htl hpl htne (by omega) (by omega) (by omega) (by omega) hpb t25 d25 a25 (hchk ap (by omega) (by omega)) ?_)
  · intro q hq
    rcases List.mem_cons.mp hq with rfl | hq
    · exact .inr hr7
    rcases List.mem_cons.mp hq with rfl | hq
    · exact .inr hT7
    rcases List.mem_cons.mp hq with rfl | hq
    · exact .inr hD7
    rcases List.mem_cons.mp hq with rfl | hq
    · exact .inl hL
    rcases List.mem_cons.mp hq with rfl | hq
    · exact .inl (Nat.lt_trans (by decide : 37 < 44) hL)
    rcases List.mem_append.mp hq with hq | hq
    · exact .inr (hG7 q hq)
    · exact .inr (hG27 q hq)
  intro h29 tk29 m29 o5' o6' o7' F29 N29
  dsimp only
  k_steps
  refine hret _ _ m29 [] ps3 ps4 F29 (News.sub N29 fun q hq => ?_)
  rcases List.mem_cons.mp hq with rfl | hq
  · exact mem_tail7 (.tail _ (.tail _ (.tail _ (.head _))))
  · rw [List.mem_singleton.mp hq]; exact mem_tail7 (.tail _ (.tail _ (.tail _ (.tail _ (.head _)))))
end Mine
end

section
open PySem PySem.W PyProof.Rows
set_option maxRecDepth 100000
set_option maxHeartbeats 4000000
namespace Mine
theorem law_walk : PySem.Challenge.rw_op0113_01.Holds := Mine.hd (by
  w_strict (
    k_go0
    (all_goals try k_fold)
    rename News _ _ _ _ => N1
    rename Fr _ _ _ _ => F1
    rename Below _ _ _ _ => B1
    rename Top topProg _ _ _ _ _ => T1
    rename (hd.heap_39 _).In (ghostOf _ _) => X1
    rename CodeHd _ _ (48, 44).snd => C1
    rename CodeHd _ _ (41, 37).snd => C2
    rename IntsAre _ _ => hI
    rename Heap.IsList (ghostOf _ _) _ _ => hsc
    rename ¬ _ < ((List.length _ : Nat) : Int) => hlen
    rename _ < _ ∧ _ < _ => l0
    refine law_spec rfl rfl hI (by omega) hsc B1 F1 X1 T1 C1 C2 N1 l0.1 (by assumption) (by assumption) (by assumption) (by assumption) (by assumption) (by assumption) (by assumption) rfl ?_
    intro h2 tk2 m2 nw2 p1 p2 F2 N2
    refine ⟨?_, ⟨p1, (N2 _ (.head _)).1⟩, ⟨p2, (N2 _ (.tail _ (.head _))).1⟩, trivial⟩
    k_steps))
end Mine
end

set_option maxRecDepth 100000 in
set_option maxHeartbeats 8000000 in
theorem PySem.Challenge.cw_op0113_01_holds : PySem.Challenge.rw_op0113_01.Holds := by
  exact Mine.law_walk
