import PyProof.Rows.All
import Wide.All
import OpenK.AllK
import Wide.FinOn
import PySem.Challenge.RW_nb0260_01
set_option Elab.async false
set_option compiler.extract_closed false
set_option pp.deepTerms false
set_option linter.unusedVariables false

section
open PySem PySem.W PyProof.Rows
namespace Mine
/-- the program's statements, by their place -/
def nth : List Stmt → Nat → Stmt
  | [], _ => .Pass ⟨0, 0, 0, 0⟩
  | s :: _, 0 => s
  | _ :: r, n + 1 => nth r n
def fnArgs : Stmt → Arguments
  | .FunctionDef _ a _ _ _ _ _ _ _ _ => a
  | _ => ⟨[], [], none, [], [], none, []⟩
def fnBody : Stmt → List Stmt
  | .FunctionDef _ _ b _ _ _ _ _ _ _ => b
  | .ClassDef _ _ _ b _ _ _ _ _ _ _ => b
  | _ => []
def fnScope : Stmt → Scope
  | .FunctionDef _ _ _ _ _ _ s _ _ _ => s
  | _ => { kind := .module, names := [], isGenerator := false, isCoroutine := false }
noncomputable def top (i : Nat) : Stmt := nth PySem.Challenge.pw_nb0260_01.main.body i
noncomputable def met (i k : Nat) : Stmt := nth (fnBody (top i)) k
end Mine
end

section
namespace Mine

/-- digits, the lowest first, put together -/
def d2 (n : Nat) : List Nat → Nat
  | [] => 0
  | x :: r => x + 2 ^ n * d2 n r

theorem d2_append (n : Nat) (a b : List Nat) : d2 n (a ++ b) = d2 n a + 2 ^ (n * a.length) * d2 n b := by
  induction a with
  | nil => simp [d2]
  | cons x r ih =>
    simp only [List.cons_append, d2, ih, List.length_cons]
    rw [Nat.mul_add, Nat.add_assoc, ← Nat.mul_assoc, ← Nat.pow_add, Nat.mul_add n, Nat.mul_one, Nat.add_comm n (n * r.length)]

theorem d2_lt {n : Nat} {l : List Nat} (h : ∀ x ∈ l, x < 2 ^ n) : d2 n l < 2 ^ (n * l.length) := by
  induction l with
  | nil => simp [d2]
  | cons x r ih =>
    have h1 := h x (.head _)
    have h2 := ih fun y hy => h y (.tail _ hy)
    simp only [d2, List.length_cons, Nat.mul_add, Nat.mul_one, Nat.pow_add]
    have h3 : 2 ^ n * (d2 n r + 1) ≤ 2 ^ n * 2 ^ (n * r.length) := Nat.mul_le_mul_left _ h2
    rw [Nat.mul_add, Nat.mul_one] at h3
    rw [Nat.mul_comm (2 ^ (n * r.length))]
    omega

/-- a piece of a list -/
def cut (l : List Nat) (i j : Nat) : List Nat := (l.drop i).take (j - i)
theorem cut_one {l : List Nat} {i : Nat} (h : i < l.length) : cut l i (i + 1) = [l.getD i 0] := by
  unfold cut
  rw [List.drop_eq_getElem_cons h, show i + 1 - i = 1 by omega, List.take_succ_cons, List.take_zero, List.getD_eq_getElem?_getD, List.getElem?_eq_getElem h]
  rfl
theorem cut_split {l : List Nat} {i m j : Nat} (h1 : i ≤ m) (h2 : m ≤ j) : cut l i j = cut l i m ++ cut l m j := by
  unfold cut
  have e : m = i + (m - i) := by omega
  have e2 : j - i = (m - i) + (j - m) := by omega
  rw [e2, List.take_add, List.drop_drop]
  congr 3
  omega
theorem cut_length {l : List Nat} {i j : Nat} (h : j ≤ l.length) : (cut l i j).length = j - i := by
  unfold cut
  rw [List.length_take, List.length_drop]
  omega
theorem cut_all (l : List Nat) : cut l 0 l.length = l := by simp [cut]
theorem cut_mem {l : List Nat} {i j x : Nat} (h : x ∈ cut l i j) : x ∈ l := List.mem_of_mem_drop (List.mem_of_mem_take h)

theorem d2_cut_split {n : Nat} {l : List Nat} {i m j : Nat} (h1 : i ≤ m) (h2 : m ≤ j) (h3 : j ≤ l.length) : d2 n (cut l i j) = d2 n (cut l m j) * 2 ^ ((m - i) * n) + d2 n (cut l i m) := by
  rw [cut_split h1 h2, d2_append, cut_length (by omega), Nat.mul_comm n, Nat.mul_comm (2 ^ _), Nat.add_comm]

/-- k digits of x, the lowest first -/
def pad (n : Nat) : Nat → Nat → List Nat
  | 0, _ => []
  | k + 1, x => x % 2 ^ n :: pad n k (x / 2 ^ n)
theorem pad_length (n k x : Nat) : (pad n k x).length = k := by
  induction k generalizing x with
  | zero => rfl
  | succ k ih => simp [pad, ih]
theorem pad_lt {n k x y : Nat} (h : y ∈ pad n k x) : y < 2 ^ n := by
  induction k generalizing x with
  | zero => cases h
  | succ k ih =>
    rcases List.mem_cons.mp h with rfl | h
    · exact Nat.mod_lt _ (Nat.two_pow_pos n)
    · exact ih h
theorem pad_split (n a b x : Nat) : pad n (a + b) x = pad n a (x % 2 ^ (n * a)) ++ pad n b (x / 2 ^ (n * a)) := by
  induction a generalizing x with
  | zero => simp [pad]
  | succ a ih =>
    have e : 2 ^ (n * (a + 1)) = 2 ^ n * 2 ^ (n * a) := by rw [Nat.mul_add, Nat.mul_one, Nat.pow_add, Nat.mul_comm]
    rw [show a + 1 + b = (a + b) + 1 by omega]
    simp only [pad, List.cons_append]
    rw [ih, e, Nat.mod_mul_right_mod, Nat.mod_mul_right_div_self, Nat.div_div_eq_div_mul]
theorem pad_one {n x : Nat} (h : x < 2 ^ n) : pad n 1 x = [x] := by simp [pad, Nat.mod_eq_of_lt h]
theorem d2_pad {n k x : Nat} (h : x < 2 ^ (n * k)) : d2 n (pad n k x) = x := by
  induction k generalizing x with
  | zero => simp [pad, d2] at *; omega
  | succ k ih =>
    simp only [pad, d2]
    rw [ih, Nat.mod_add_div]
    rw [Nat.div_lt_iff_lt_mul (Nat.two_pow_pos n), ← Nat.pow_add]
    rwa [Nat.mul_add, Nat.mul_one] at h

/-- ds laid over a list from place i on -/
def put (zs : List Int) (i : Nat) (ds : List Nat) : List Int := zs.take i ++ ds.map (fun x : Nat => (x : Int)) ++ zs.drop (i + ds.length)
theorem put_length {zs : List Int} {i : Nat} {ds : List Nat} (h : i + ds.length ≤ zs.length) : (put zs i ds).length = zs.length := by
  simp only [put, List.length_append, List.length_take, List.length_map, List.length_drop]; omega
theorem put_put {zs : List Int} {i j : Nat} {a b : List Nat} (hj : j = i + a.length) (h : j ≤ zs.length) : put (put zs i a) j b = put zs i (a ++ b) := by
  subst hj
  have h1 : (zs.take i ++ a.map (fun x : Nat => (x : Int))).length = i + a.length := by simp; omega
  unfold put
  rw [List.take_append_of_le_length (by omega), List.take_of_length_le (by omega), List.drop_append, h1, List.drop_eq_nil_of_le (by omega), List.nil_append, List.drop_drop,
    show i + a.length + (i + a.length + b.length - (i + a.length)) = i + (a ++ b).length by simp; omega, List.map_append]
  simp
theorem put_one {zs : List Int} {i x : Nat} (h : i < zs.length) : zs.set i (x : Int) = put zs i [x] := by
  unfold put
  rw [List.set_eq_take_append_cons_drop, if_pos h]
  simp
theorem put_all {zs : List Int} {ds : List Nat} (h : zs.length = ds.length) : put zs 0 ds = ds.map (fun x : Nat => (x : Int)) := by
  simp [put, ← h]

/-- the digits of a number, the lowest first; no digit for nought -/
def nbits (a : Nat) : Nat := if a = 0 then 0 else a.log2 + 1
theorem lt_nbits (a : Nat) : a < 2 ^ nbits a := by
  unfold nbits
  split
  · omega
  · exact Nat.lt_log2_self
theorem nbits_le {a k : Nat} (h : a < 2 ^ k) : nbits a ≤ k := by
  unfold nbits
  split
  · omega
  · rename_i h0; have := (Nat.log2_lt h0).mpr h; omega
def i2 (n a : Nat) : List Nat := pad n ((nbits a + n - 1) / n) a
theorem i2_fits {n a : Nat} (hn : 1 ≤ n) : a < 2 ^ (n * ((nbits a + n - 1) / n)) := by
  refine Nat.lt_of_lt_of_le (lt_nbits a) (Nat.pow_le_pow_right (by decide) ?_)
  have h1 := Nat.div_add_mod (nbits a + n - 1) n
  have h2 := Nat.mod_lt (nbits a + n - 1) (show n > 0 by omega)
  omega
theorem d2_i2 {n a : Nat} (hn : 1 ≤ n) : d2 n (i2 n a) = a := d2_pad (i2_fits hn)
theorem i2_length (n a : Nat) : (i2 n a).length = (nbits a + n - 1) / n := pad_length ..
theorem i2_zero (n : Nat) (hn : 1 ≤ n) : i2 n 0 = [] := by
  have : (nbits 0 + n - 1) / n = 0 := Nat.div_eq_of_lt (by simp [nbits]; omega)
  unfold i2; rw [this]; rfl
theorem i2_lt {n a y : Nat} (h : y ∈ i2 n a) : y < 2 ^ n := pad_lt h
theorem and_high (x s : Nat) : x &&& (x / 2 ^ s * 2 ^ s) = x / 2 ^ s * 2 ^ s := by
  refine Nat.eq_of_testBit_eq fun i => ?_
  rw [← Nat.shiftRight_eq_div_pow, ← Nat.shiftLeft_eq, Nat.testBit_and, Nat.testBit_shiftLeft, Nat.testBit_shiftRight]
  by_cases h : i ≥ s
  · rw [show s + (i - s) = i by omega]; simp [h]
  · simp [h]
end Mine
end

section
open PySem PyProof.Rows
set_option linter.unusedVariables false
namespace Mine
/-- a text by its letters -/
def S (l : List Nat) : Str := ⟨l.toArray⟩
theorem S_append (a b : List Nat) : S a ++ S b = S (a ++ b) := by
  show (⟨a.toArray ++ b.toArray⟩ : Str) = ⟨(a ++ b).toArray⟩
  rw [List.append_toArray]
theorem S_inj {a b : List Nat} (h : S a = S b) : a = b := by
  have : a.toArray = b.toArray := congrArg Str.cps h
  simpa using this
theorem S_len (a : List Nat) : (S a).length = a.length := by show a.toArray.size = _; simp
/-- texts glued -/
def gl (sep : List Nat) : List (List Nat) → List Nat
  | [] => []
  | [x] => x
  | x :: r => x ++ sep ++ gl sep r
theorem gl_cons (sep x y : List Nat) (r : List (List Nat)) : gl sep (x :: y :: r) = x ++ sep ++ gl sep (y :: r) := rfl
theorem join_S (sep : List Nat) (ls : List (List Nat)) : Txt.join (S sep) (ls.map S) = S (gl sep ls) := by
  unfold Txt.join
  rw [StrLaws.glued_eq_join]
  induction ls with
  | nil => rfl
  | cons x r ih =>
    cases r with
    | nil => rfl
    | cons y r =>
      rw [List.map_cons, List.map_cons]
      show S x ++ S sep ++ Str.join (S sep) (S y :: r.map S) = _
      rw [List.map_cons] at ih
      rw [ih, S_append, S_append, gl_cons]
theorem gl_nil (ls : List (List Nat)) : gl [] ls = ls.flatten := by
  induction ls with
  | nil => rfl
  | cons x r ih =>
    cases r with
    | nil => simp [gl]
    | cons y r => rw [gl_cons, ih]; simp
theorem S_nil : Str.ofString "" = S [] := by decide +kernel
/-- a letter of a word -/
def ltr (k : Nat) : Str := S [97 + k]
/-- the word of a digit -/
def wd (d : Nat) : List Nat := (i2 3 d).map (97 + ·)
theorem join_ltr (l : List Nat) : Txt.join (Str.ofString "") (l.map ltr) = S (l.map (97 + ·)) := by
  have e : l.map ltr = (l.map fun k => [97 + k]).map S := by rw [List.map_map]; rfl
  rw [S_nil, e, join_S, gl_nil]
  congr 1
  clear e
  induction l with
  | nil => rfl
  | cons x r ih => rw [List.map_cons, List.flatten_cons, ih]; rfl
theorem wd_len {d : Nat} (h : d < 2 ^ 8) : (wd d).length ≤ 3 := by
  have := nbits_le h
  rw [wd, List.length_map, i2_length]
  omega
theorem ltr_is {x : Nat} (h : x < 2 ^ 3) : Txt.item (Str.ofString "abcdefgh") (x : Int) = ltr x := by
  have h8 : x < 8 := h
  rcases x with _ | _ | _ | _ | _ | _ | _ | _ | x
  all_goals first | rfl | omega
theorem CarriedAll.snoc {vs : List Value} {ds : List PyData} {v : Value} {d : PyData} (h : CarriedAll vs ds) (k : Carried v d) : CarriedAll (vs ++ [v]) (ds ++ [d]) := by
  induction h with
  | nil => exact .cons k .nil
  | cons a h ih => exact .cons a ih
theorem take_snoc {α : Type} {l : List α} {i : Nat} {x : α} (h : l[i]? = some x) : l.take (i + 1) = l.take i ++ [x] := by
  rw [List.take_add_one, h]; rfl
end Mine
end

section
open PySem PyProof.Rows
set_option linter.unusedVariables false
namespace Mine
/-- a row's text, by its digits -/
def rowT (r : List Nat) : List Nat := (r.map fun d => 32 :: wd d).flatten
theorem rowT_nil : rowT [] = [] := rfl
theorem rowT_cons (d : Nat) (r : List Nat) : rowT (d :: r) = 32 :: (wd d ++ rowT r) := by simp [rowT]
theorem rowT_append (a b : List Nat) : rowT (a ++ b) = rowT a ++ rowT b := by simp [rowT]
theorem rowT_snoc (r : List Nat) (d : Nat) : rowT (r ++ [d]) = rowT r ++ (32 :: wd d) := by simp [rowT]
theorem rowT_flat (rs : List (List Nat)) : rowT rs.flatten = (rs.map rowT).flatten := by
  induction rs with
  | nil => rfl
  | cons r rs ih => rw [List.flatten_cons, rowT_append, ih]; rfl

/-- the rows are filled as told: f is what stands ahead of the first -/
def Full (wide : Nat) : Nat → List (List Nat) → Prop
  | _, [] => True
  | f, r :: rs => (¬ (r.length = 0 ∧ f = 0)) ∧ ¬ (wide < f + (rowT r).length ∧ (if 0 < f then 0 else 1) < r.length) ∧ (∀ r' rs', rs = r' :: rs' → ∃ d t, r' = d :: t ∧ wide < f + (rowT r).length + 1 + (wd d).length) ∧ Full wide 0 rs

/-- what the writer has laid: the rows done, the row at hand, what stands ahead of it -/
structure Laid (wide front : Nat) (ds : List Nat) (done : List (List Nat)) (cur : List Nat) (ini : Nat) : Prop where
  all : done.flatten ++ cur = ds
  ini : ini = if done = [] then front else 0
  none : cur = [] → done = []
  cnt : done.length ≤ ds.length
  full : cur ≠ [] → Full wide front (done ++ [cur])

theorem Full.grow {wide : Nat} {cur : List Nat} {d : Nat} (hc : cur ≠ []) : ∀ {done : List (List Nat)} {f : Nat}, Full wide f (done ++ [cur]) → (if done = [] then f else 0) + (rowT (cur ++ [d])).length ≤ wide → Full wide f (done ++ [cur ++ [d]])
  | [], f, h, hw => by
    obtain ⟨h1, h2, h3, h4⟩ := h
    rw [if_pos rfl] at hw
    exact ⟨fun e => by simp at e, fun e => by omega, (fun r' rs' e => by cases e), trivial⟩
  | r :: done, f, h, hw => by
    obtain ⟨h1, h2, h3, h4⟩ := h
    rw [if_neg (by simp)] at hw
    refine ⟨h1, h2, fun r' rs' e => ?_, Full.grow hc h4 (by split <;> exact hw)⟩
    cases done with
    | nil =>
      obtain ⟨d0, t, e1, e2⟩ := h3 cur [] rfl
      cases e
      exact ⟨d0, t ++ [d], by rw [e1]; rfl, e2⟩
    | cons r1 done =>
      injection e with e1 e2
      subst e1
      exact h3 r1 (done ++ [cur]) rfl
theorem Full.snoc {wide : Nat} {cur : List Nat} {d : Nat} : ∀ {done : List (List Nat)} {f : Nat}, Full wide f (done ++ [cur]) → wide < (if done = [] then f else 0) + (rowT (cur ++ [d])).length → Full wide f (done ++ [cur] ++ [[d]])
  | [], f, h, hw => by
    obtain ⟨h1, h2, h3, h4⟩ := h
    rw [if_pos rfl, rowT_snoc] at hw
    refine ⟨h1, h2, fun r' rs' e => ?_, fun e => by simp at e, fun e => by simp at e, (fun r' rs' e => by cases e), trivial⟩
    cases e
    exact ⟨d, [], rfl, by simp at hw; omega⟩
  | r :: done, f, h, hw => by
    obtain ⟨h1, h2, h3, h4⟩ := h
    rw [if_neg (by simp)] at hw
    refine ⟨h1, h2, fun r' rs' e => ?_, Full.snoc h4 (by split <;> exact hw)⟩
    cases done with
    | nil => cases e; exact h3 cur [] rfl
    | cons r1 done => injection e with e1 e2; subst e1; exact h3 r1 (done ++ [cur]) rfl

section
variable {wide front ini : Nat} {ds : List Nat} {done : List (List Nat)} {cur : List Nat} {d : Nat}
theorem Laid.start (wide front : Nat) : Laid wide front [] [] [] front := ⟨rfl, rfl, fun _ => rfl, Nat.le_refl _, fun h => absurd rfl h⟩
theorem Laid.fits (H : Laid wide front ds done cur ini) (h : ini + (rowT (cur ++ [d])).length ≤ wide) : Laid wide front (ds ++ [d]) done (cur ++ [d]) ini := by
  refine ⟨by rw [← H.all]; simp, H.ini, fun e => by simp at e, by have := H.cnt; simp; omega, fun _ => ?_⟩
  have h' := h
  rw [H.ini] at h'
  by_cases hc : cur = []
  · have hd := H.none hc
    subst hd hc
    rw [if_pos rfl] at h'
    exact ⟨fun e => by simp at e, fun e => by omega, (fun r' rs' e => by cases e), trivial⟩
  · exact (H.full hc).grow hc h'
theorem Laid.split (H : Laid wide front ds done cur ini) (h : wide < ini + (rowT (cur ++ [d])).length) (hc : cur ≠ []) : Laid wide front (ds ++ [d]) (done ++ [cur]) [d] 0 := by
  refine ⟨by rw [← H.all]; simp, by rw [if_neg (by simp)], fun e => by simp at e, by have := H.cnt; simp at this ⊢; try omega, fun _ => ?_⟩
  rw [H.ini] at h
  exact (H.full hc).snoc h
theorem Laid.alone (H : Laid wide front ds done cur ini) (hc : cur = []) (hi : ini = 0) : Laid wide front (ds ++ [d]) done [d] 0 := by
  have hd := H.none hc
  have hI := H.ini
  have hA := H.all
  subst hd hc
  rw [if_pos rfl] at hI
  refine ⟨by rw [← hA]; simp, by rw [if_pos rfl]; omega, fun e => by simp at e, by simp, fun _ => ⟨fun e => by simp at e, fun e => ?_, (fun r' rs' e => by cases e), trivial⟩⟩
  rw [if_neg (by omega)] at e
  simp at e
theorem Laid.head (H : Laid wide front ds done cur ini) (h : wide < ini + (rowT (cur ++ [d])).length) (hc : cur = []) (hi : 0 < ini) : Laid wide front (ds ++ [d]) (done ++ [[]]) [d] 0 := by
  have hd := H.none hc
  have hI := H.ini
  have hA := H.all
  subst hd hc
  rw [if_pos rfl] at hI
  refine ⟨by rw [← hA]; simp, by rw [if_neg (by simp)], fun e => by simp at e, by have := H.cnt; simp at this ⊢; try omega, fun _ => ⟨fun e => by omega, fun e => by simp at e, fun r' rs' e => ?_, fun e => by simp at e, fun e => by simp at e, (fun r' rs' e => by cases e), trivial⟩⟩
  cases e
  refine ⟨d, [], rfl, ?_⟩
  rw [rowT_snoc] at h
  simp [rowT] at h ⊢
  omega
end

/-- what a place of the rows says -/
theorem Full.at {wide : Nat} : ∀ {rs : List (List Nat)} {f i : Nat} {r : List Nat}, Full wide f rs → rs[i]? = some r → (¬ (r.length = 0 ∧ (if i = 0 then f else 0) = 0)) ∧ ¬ (wide < (if i = 0 then f else 0) + (rowT r).length ∧ (if 0 < (if i = 0 then f else 0) then 0 else 1) < r.length) ∧ (∀ r', rs[i + 1]? = some r' → ∃ d t, r' = d :: t ∧ wide < (if i = 0 then f else 0) + (rowT r).length + 1 + (wd d).length)
  | [], f, i, r, h, e => by simp at e
  | q :: rs, f, 0, r, h, e => by
    obtain ⟨h1, h2, h3, h4⟩ := h
    simp at e
    subst e
    refine ⟨h1, h2, fun r' e' => ?_⟩
    cases rs with
    | nil => simp at e'
    | cons r1 rs => simp at e'; subst e'; exact h3 r1 rs rfl
  | q :: rs, f, i + 1, r, h, e => by
    have := Full.at h.2.2.2 (i := i) (by simpa using e)
    simpa using this

/-- glueing undone -/
theorem gl_inj {c : Nat} : ∀ {a b : List (List Nat)}, a ≠ [] → b ≠ [] → (∀ x ∈ a, c ∉ x) → (∀ x ∈ b, c ∉ x) → gl [c] a = gl [c] b → a = b := by
  have key : ∀ (x y r s : List Nat), c ∉ x → c ∉ y → x ++ c :: r = y ++ c :: s → x = y ∧ r = s := by
    intro x
    induction x with
    | nil =>
      intro y r s _ hy e
      cases y with
      | nil => simpa using e
      | cons z y => simp at e; exact absurd (e.1 ▸ List.mem_cons_self) hy
    | cons z x ih =>
      intro y r s hx hy e
      cases y with
      | nil => simp at e; exact absurd (e.1 ▸ List.mem_cons_self) hx
      | cons z' y =>
        simp at e
        obtain ⟨h1, h2⟩ := ih y r s (fun h => hx (.tail _ h)) (fun h => hy (.tail _ h)) e.2
        exact ⟨by rw [e.1, h1], h2⟩
  intro a
  induction a with
  | nil => intro b h; exact absurd rfl h
  | cons x a ih =>
    intro b _ hb ha hb' e
    cases b with
    | nil => exact absurd rfl hb
    | cons y b =>
      cases a with
      | nil =>
        cases b with
        | nil => simpa [gl] using e
        | cons y' b =>
          exfalso
          rw [gl_cons] at e
          have hx := ha x (.head _)
          simp only [gl] at e
          rw [e] at hx
          simp at hx
      | cons x' a =>
        cases b with
        | nil =>
          exfalso
          rw [gl_cons] at e
          have hy := hb' y (.head _)
          simp only [gl] at e
          rw [← e] at hy
          simp at hy
        | cons y' b =>
          rw [gl_cons, gl_cons] at e
          simp only [List.append_assoc, List.singleton_append] at e
          obtain ⟨h1, h2⟩ := key x y _ _ (ha x (.head _)) (hb' y (.head _)) e
          rw [h1, ih (by simp) (by simp) (fun z hz => ha z (.tail _ hz)) (fun z hz => hb' z (.tail _ hz)) h2]
theorem S_ofP (x : Str) : S x.cps.toList = x := by cases x; simp [S]
theorem split_ne (x : Str) (c : Nat) : Txt.split x ⟨#[c]⟩ ≠ [] := fun e => by
  have := split_len x c
  rw [e] at this
  have h2 : (0 : Int) ≤ cnt c x.cps.toList := by
    rw [cnt, ← count_is]; exact Int.natCast_nonneg _
  simp at this
  omega
theorem split_gl {c : Nat} {ls : List (List Nat)} (h0 : ls ≠ []) (hf : ∀ x ∈ ls, c ∉ x) : Txt.split (S (gl [c] ls)) ⟨#[c]⟩ = ls.map S := by
  have h1 := StrLaws.join_split (S (gl [c] ls)) ⟨#[c]⟩
  have h2 := StrLaws.split_free (S (gl [c] ls)) c
  have h3 := split_ne (S (gl [c] ls)) c
  generalize Txt.split (S (gl [c] ls)) ⟨#[c]⟩ = P at h1 h2 h3
  have e : P = (P.map fun p => p.cps.toList).map S := by
    rw [List.map_map]
    conv => lhs; rw [← List.map_id P]
    exact List.map_congr_left fun p _ => (S_ofP p).symm
  rw [e] at h1
  have h4 := join_S [c] (P.map fun p => p.cps.toList)
  unfold Txt.join at h4
  rw [StrLaws.glued_eq_join] at h4
  have h5 := S_inj (h4.symm.trans h1)
  have h6 := gl_inj (by simpa using h3) h0 (fun x hx => by obtain ⟨p, hp, rfl⟩ := List.mem_map.mp hx; exact h2 p hp) hf h5
  rw [e, h6]
theorem wd_free {d c : Nat} (h : c < 97 ∨ 105 ≤ c) : c ∉ wd d := fun hm => by
  obtain ⟨k, hk, rfl⟩ := List.mem_map.mp hm
  have := i2_lt hk
  omega
theorem wd_range {d c : Nat} (h : c ∈ wd d) : 97 ≤ c ∧ c < 105 := by
  obtain ⟨k, hk, rfl⟩ := List.mem_map.mp h
  have := i2_lt hk
  omega
theorem rowT_free {r : List Nat} {c : Nat} (h : c < 97 ∨ 105 ≤ c) (h2 : c ≠ 32) : c ∉ rowT r := fun hm => by
  obtain ⟨l, hl, hc⟩ := List.mem_flatten.mp hm
  obtain ⟨d, _, rfl⟩ := List.mem_map.mp hl
  rcases List.mem_cons.mp hc with rfl | hc
  · exact h2 rfl
  · exact wd_free h hc
theorem gl_blank (r : List Nat) : gl [32] ([] :: r.map wd) = rowT r := by
  induction r with
  | nil => rfl
  | cons d r ih =>
    rw [List.map_cons, gl_cons, rowT_cons, ← ih]
    cases r with
    | nil => simp [gl]
    | cons d2 r => simp [gl_cons]
theorem row_split (r : List Nat) : Txt.split (S (rowT r)) ⟨#[32]⟩ = S [] :: r.map fun d => S (wd d) := by
  rw [← gl_blank, split_gl (by simp) (fun x hx => ?_)]
  · simp
  · rcases List.mem_cons.mp hx with rfl | hx
    · simp
    · obtain ⟨d, _, rfl⟩ := List.mem_map.mp hx
      exact wd_free (.inl (by decide))
theorem rows_split {rs : List (List Nat)} (h0 : rs ≠ []) : Txt.split (S (gl [124] (rs.map rowT))) ⟨#[124]⟩ = rs.map fun r => S (rowT r) := by
  rw [split_gl (by simpa using h0) (fun x hx => ?_), List.map_map]
  · rfl
  · obtain ⟨r, _, rfl⟩ := List.mem_map.mp hx
    exact rowT_free (.inr (by decide)) (by decide)
theorem row_count (r : List Nat) : Txt.count (S (rowT r)) ⟨#[32]⟩ = (r.length : Int) := by
  rw [count_is]
  show cnt 32 (rowT r).toArray.toList = _
  rw [List.toList_toArray]
  induction r with
  | nil => rfl
  | cons d r ih =>
    rw [rowT_cons, cnt_cons, cnt_append, ih, cnt_none 32 (wd d) (wd_free (.inl (by decide)))]
    simp
    omega
theorem rowT_len {r : List Nat} (h : ∀ d ∈ r, d < 2 ^ 8) : (rowT r).length ≤ 4 * r.length := by
  induction r with
  | nil => simp [rowT]
  | cons d r ih =>
    have h1 := wd_len (h d (.head _))
    have h2 := ih fun x hx => h x (.tail _ hx)
    rw [rowT_cons]
    simp
    omega

/-- the last digit of a number that isn't nought -/
theorem i2_last {n a : Nat} (hn : 1 ≤ n) (ha : 1 ≤ a) : ∃ l d, i2 n a = l ++ [d] ∧ 0 < d := by
  have hb : nbits a = a.log2 + 1 := by unfold nbits; rw [if_neg (by omega)]
  have h1 := Nat.div_add_mod (nbits a + n - 1) n
  have h2 := Nat.mod_lt (nbits a + n - 1) (show n > 0 by omega)
  obtain ⟨k, hk⟩ : ∃ k, (nbits a + n - 1) / n = k + 1 := by
    have : 1 ≤ (nbits a + n - 1) / n := (Nat.le_div_iff_mul_le (by omega)).mpr (by omega)
    exact ⟨_, (Nat.sub_add_cancel this).symm⟩
  have hf := i2_fits (n := n) (a := a) hn
  unfold i2
  rw [hk] at hf h1 ⊢
  rw [pad_split]
  have hlt : a / 2 ^ (n * k) < 2 ^ n := by
    rw [Nat.div_lt_iff_lt_mul (Nat.two_pow_pos _), ← Nat.pow_add, Nat.add_comm]
    rwa [Nat.mul_add, Nat.mul_one] at hf
  rw [pad_one hlt]
  refine ⟨_, _, rfl, Nat.div_pos ?_ (Nat.two_pow_pos _)⟩
  refine Nat.le_trans (Nat.pow_le_pow_right (by decide) ?_) (Nat.log2_self_le (n := a) (by omega))
  rw [Nat.mul_add] at h1
  omega
theorem wd_ne {d : Nat} (h : 0 < d) : wd d ≠ [] := fun e => by
  have h1 : (wd d).length = 0 := by rw [e]; rfl
  rw [wd, List.length_map, i2_length] at h1
  have hb : nbits d = d.log2 + 1 := by unfold nbits; rw [if_neg (by omega)]
  omega

/-- tearing off a row -/
theorem torn {n : Nat} {r rest : List Nat} (h : ∀ x ∈ r, x < 2 ^ n) : d2 n (r ++ rest) % 2 ^ (n * r.length) = d2 n r ∧ d2 n (r ++ rest) / 2 ^ (n * r.length) = d2 n rest := by
  have h1 := d2_lt h
  rw [d2_append]
  constructor
  · rw [Nat.add_mul_mod_self_left, Nat.mod_eq_of_lt h1]
  · rw [Nat.add_mul_div_left _ _ (Nat.two_pow_pos _), Nat.div_eq_of_lt h1, Nat.zero_add]
/-- dividing row by row -/
theorem divided {n dv q rest V k x : Nat} (hd : 0 < dv) (h : q = V / dv) (h2 : rest = V % dv) : q * 2 ^ k + (rest * 2 ^ k + x) / dv = (x + 2 ^ k * V) / dv ∧ (rest * 2 ^ k + x) % dv = (x + 2 ^ k * V) % dv := by
  have e := Nat.div_add_mod V dv
  rw [← h, ← h2] at e
  have e2 : x + 2 ^ k * V = (rest * 2 ^ k + x) + dv * (q * 2 ^ k) := by
    rw [← e, Nat.mul_add, Nat.mul_comm (2 ^ k) rest, ← Nat.mul_assoc, Nat.mul_comm (2 ^ k) dv, Nat.mul_assoc, Nat.mul_comm (2 ^ k) q]
    omega
  rw [e2, Nat.add_mul_div_left _ _ hd, Nat.add_mul_mod_self_left]
  exact ⟨Nat.add_comm _ _, rfl⟩
end Mine
end

section
open PySem PySem.W PyProof.Rows
namespace Mine
/-- what the top leaves: the defs, the classes and their tables (the texts by their place in the program) -/
noncomputable def Kf : Params → Frag := fun P =>
  (nat_lit 2, { cls := Value.none, data := Data.dict #[] }) ::
  (nat_lit 3, { cls := Value.type "dict", data := Data.dict #[{ hash := PyData.keyHash P (Str.ofString "__name__"), key := Value.str (Str.ofString "__name__") 165, val := Value.str (Str.ofString "law_nb0260_01") 486 }, { hash := PyData.keyHash P (Str.ofString "__doc__"), key := Value.str (Str.ofString "__doc__") 166, val := Value.none }, { hash := PyData.keyHash P (Str.ofString "__package__"), key := Value.str (Str.ofString "__package__") 167, val := Value.none }, { hash := PyData.keyHash P (Str.ofString "__loader__"), key := Value.str (Str.ofString "__loader__") 168, val := Value.builtin "__main__.__loader__#opaque" }, { hash := PyData.keyHash P (Str.ofString "__spec__"), key := Value.str (Str.ofString "__spec__") 169, val := Value.none }, { hash := PyData.keyHash P (Str.ofString "__annotations__"), key := Value.str (Str.ofString "__annotations__") 170, val := Value.ref 6 }, { hash := PyData.keyHash P (Str.ofString "__builtins__"), key := Value.str (Str.ofString "__builtins__") 171, val := Value.ref 4 }, { hash := PyData.keyHash P (Str.ofString "__file__"), key := Value.str (Str.ofString "__file__") 173, val := Value.str (Str.ofString "/claim/cut.py") 172 }, { hash := PyData.keyHash P (Str.ofString "__cached__"), key := Value.str (Str.ofString "__cached__") 174, val := Value.none }, { hash := PyData.keyHash P (Str.ofString "_wall"), key := Value.str (Str.ofString "_wall") 193, val := Value.ref 21 }, { hash := PyData.keyHash P (Str.ofString "NL"), key := Value.str (Str.ofString "NL") 197, val := Value.str (Str.ofString "\n") 196 }, { hash := PyData.keyHash P (Str.ofString "EMPTYSTRING"), key := Value.str (Str.ofString "EMPTYSTRING") 199, val := Value.str (Str.ofString "") 198 }, { hash := PyData.keyHash P (Str.ofString "_ValueFormatter"), key := Value.str (Str.ofString "_ValueFormatter") 307, val := Value.ref 94 }, { hash := PyData.keyHash P (Str.ofString "_Accumulator"), key := Value.str (Str.ofString "_Accumulator") 403, val := Value.ref 178 }, { hash := PyData.keyHash P (Str.ofString "_DIV_LIMIT"), key := Value.str (Str.ofString "_DIV_LIMIT") 407, val := Value.int 4000 406 }, { hash := PyData.keyHash P (Str.ofString "_div2n1n"), key := Value.str (Str.ofString "_div2n1n") 424, val := Value.ref 189 }, { hash := PyData.keyHash P (Str.ofString "_div3n2n"), key := Value.str (Str.ofString "_div3n2n") 438, val := Value.ref 196 }, { hash := PyData.keyHash P (Str.ofString "_int2digits"), key := Value.str (Str.ofString "_int2digits") 449, val := Value.ref 203 }, { hash := PyData.keyHash P (Str.ofString "_digits2int"), key := Value.str (Str.ofString "_digits2int") 460, val := Value.ref 210 }, { hash := PyData.keyHash P (Str.ofString "_divmod_pos"), key := Value.str (Str.ofString "_divmod_pos") 475, val := Value.ref 217 }, { hash := PyData.keyHash P (Str.ofString "int_divmod"), key := Value.str (Str.ofString "int_divmod") 485, val := Value.ref 224 }, { hash := PyData.keyHash P (Str.ofString "_law_number"), key := Value.str (Str.ofString "_law_number") 493, val := Value.ref 229 }, { hash := PyData.keyHash P (Str.ofString "_law_width"), key := Value.str (Str.ofString "_law_width") 500, val := Value.ref 236 }, { hash := PyData.keyHash P (Str.ofString "_law_wide"), key := Value.str (Str.ofString "_law_wide") 507, val := Value.ref 243 }, { hash := PyData.keyHash P (Str.ofString "_law_head"), key := Value.str (Str.ofString "_law_head") 514, val := Value.ref 250 }, { hash := PyData.keyHash P (Str.ofString "_law_divisor"), key := Value.str (Str.ofString "_law_divisor") 521, val := Value.ref 257 }, { hash := PyData.keyHash P (Str.ofString "_law_word"), key := Value.str (Str.ofString "_law_word") 527, val := Value.ref 262 }, { hash := PyData.keyHash P (Str.ofString "_law_digit"), key := Value.str (Str.ofString "_law_digit") 533, val := Value.ref 267 }, { hash := PyData.keyHash P (Str.ofString "_law_rows"), key := Value.str (Str.ofString "_law_rows") 544, val := Value.ref 274 }, { hash := PyData.keyHash P (Str.ofString "_law_full"), key := Value.str (Str.ofString "_law_full") 550, val := Value.ref 279 }, { hash := PyData.keyHash P (Str.ofString "_law_torn"), key := Value.str (Str.ofString "_law_torn") 562, val := Value.ref 286 }, { hash := PyData.keyHash P (Str.ofString "_law_divided"), key := Value.str (Str.ofString "_law_divided") 576, val := Value.ref 293 }, { hash := PyData.keyHash P (Str.ofString "_law_right"), key := Value.str (Str.ofString "_law_right") 582, val := Value.ref 298 }, { hash := PyData.keyHash P (Str.ofString "law"), key := Value.str (Str.ofString "law") 589, val := Value.ref 305 }] 34 }) ::
  (nat_lit 34, { cls := Value.type "code", data := Data.fields #[Value.str (Str.ofString "__init__") 212, Value.str (Str.ofString "_ValueFormatter.__init__") 213, Value.str (Str.ofString "/claim/cut.py") 214, Value.int 9 0, Value.int 5 0, Value.int 0 0, Value.int 0 0, Value.int 3 0, Value.ref 29, Value.bool true, Value.int 181 0, Value.ref 30, Value.none, Value.ref 31, Value.ref 32, Value.ref 33, Value.int 220 0, Value.int 9 0, Value.str (Str.ofString "/claim/cut.py") 221] }) ::
  (nat_lit 35, { cls := Value.type "function", data := Data.func { name := Str.ofString "__init__", qualname := Str.ofString "_ValueFormatter.__init__", params := fnArgs (met 4 0), body := FuncBody.stmts (fnBody (met 4 0)), scope := fnScope (met 4 0), globals := 3, closure := [], defaults := Value.none, kwdefaults := Value.none, pyModule := Value.str (Str.ofString "cpy313.email.header") 194, code := Value.ref 34 } }) ::
  (nat_lit 41, { cls := Value.type "code", data := Data.fields #[Value.str (Str.ofString "_str") 223, Value.str (Str.ofString "_ValueFormatter._str") 224, Value.str (Str.ofString "/claim/cut.py") 225, Value.int 17 0, Value.int 2 0, Value.int 0 0, Value.int 0 0, Value.int 3 0, Value.ref 36, Value.bool true, Value.int 181 0, Value.ref 37, Value.none, Value.ref 38, Value.ref 39, Value.ref 40, Value.int 228 0, Value.int 17 0, Value.str (Str.ofString "/claim/cut.py") 229] }) ::
  (nat_lit 42, { cls := Value.type "function", data := Data.func { name := Str.ofString "_str", qualname := Str.ofString "_ValueFormatter._str", params := fnArgs (met 4 1), body := FuncBody.stmts (fnBody (met 4 1)), scope := fnScope (met 4 1), globals := 3, closure := [], defaults := Value.none, kwdefaults := Value.none, pyModule := Value.str (Str.ofString "cpy313.email.header") 194, code := Value.ref 41 } }) ::
  (nat_lit 55, { cls := Value.type "code", data := Data.fields #[Value.str (Str.ofString "newline") 238, Value.str (Str.ofString "_ValueFormatter.newline") 239, Value.str (Str.ofString "/claim/cut.py") 240, Value.int 24 0, Value.int 1 0, Value.int 0 0, Value.int 0 0, Value.int 3 0, Value.ref 50, Value.bool true, Value.int 181 0, Value.ref 51, Value.none, Value.ref 52, Value.ref 53, Value.ref 54, Value.int 243 0, Value.int 24 0, Value.str (Str.ofString "/claim/cut.py") 244] }) ::
  (nat_lit 56, { cls := Value.type "function", data := Data.func { name := Str.ofString "newline", qualname := Str.ofString "_ValueFormatter.newline", params := fnArgs (met 4 3), body := FuncBody.stmts (fnBody (met 4 3)), scope := fnScope (met 4 3), globals := 3, closure := [], defaults := Value.none, kwdefaults := Value.none, pyModule := Value.str (Str.ofString "cpy313.email.header") 194, code := Value.ref 55 } }) ::
  (nat_lit 90, { cls := Value.type "code", data := Data.fields #[Value.str (Str.ofString "_append_chunk") 280, Value.str (Str.ofString "_ValueFormatter._append_chunk") 281, Value.str (Str.ofString "/claim/cut.py") 282, Value.int 47 0, Value.int 3 0, Value.int 0 0, Value.int 0 0, Value.int 3 0, Value.ref 85, Value.bool true, Value.int 181 0, Value.ref 86, Value.none, Value.ref 87, Value.ref 88, Value.ref 89, Value.int 291 0, Value.int 47 0, Value.str (Str.ofString "/claim/cut.py") 292] }) ::
  (nat_lit 91, { cls := Value.type "function", data := Data.func { name := Str.ofString "_append_chunk", qualname := Str.ofString "_ValueFormatter._append_chunk", params := fnArgs (met 4 8), body := FuncBody.stmts (fnBody (met 4 8)), scope := fnScope (met 4 8), globals := 3, closure := [], defaults := Value.none, kwdefaults := Value.none, pyModule := Value.str (Str.ofString "cpy313.email.header") 194, code := Value.ref 90 } }) ::
  (nat_lit 93, { cls := Value.type "dict", data := Data.dict #[{ hash := PyData.keyHash P (Str.ofString "__module__"), key := Value.str (Str.ofString "__module__") 207, val := Value.str (Str.ofString "cpy313.email.header") 194 }, { hash := PyData.keyHash P (Str.ofString "__firstlineno__"), key := Value.str (Str.ofString "__firstlineno__") 211, val := Value.int 7 210 }, { hash := PyData.keyHash P (Str.ofString "__init__"), key := Value.str (Str.ofString "__init__") 222, val := Value.ref 35 }, { hash := PyData.keyHash P (Str.ofString "_str"), key := Value.str (Str.ofString "_str") 230, val := Value.ref 42 }, { hash := PyData.keyHash P (Str.ofString "__str__"), key := Value.str (Str.ofString "__str__") 237, val := Value.ref 49 }, { hash := PyData.keyHash P (Str.ofString "newline"), key := Value.str (Str.ofString "newline") 245, val := Value.ref 56 }, { hash := PyData.keyHash P (Str.ofString "add_transition"), key := Value.str (Str.ofString "add_transition") 252, val := Value.ref 63 }, { hash := PyData.keyHash P (Str.ofString "feed"), key := Value.str (Str.ofString "feed") 262, val := Value.ref 70 }, { hash := PyData.keyHash P (Str.ofString "_maxlengths"), key := Value.str (Str.ofString "_maxlengths") 269, val := Value.ref 77 }, { hash := PyData.keyHash P (Str.ofString "_ascii_split"), key := Value.str (Str.ofString "_ascii_split") 279, val := Value.ref 84 }, { hash := PyData.keyHash P (Str.ofString "_append_chunk"), key := Value.str (Str.ofString "_append_chunk") 293, val := Value.ref 91 }, { hash := PyData.keyHash P (Str.ofString "__static_attributes__"), key := Value.str (Str.ofString "__static_attributes__") 300, val := Value.ref 92 }, { hash := PyData.keyHash P (Str.ofString "__dict__"), key := Value.str (Str.ofString "__dict__") 302, val := Value.ref 95 }, { hash := PyData.keyHash P (Str.ofString "__weakref__"), key := Value.str (Str.ofString "__weakref__") 304, val := Value.ref 96 }, { hash := PyData.keyHash P (Str.ofString "__doc__"), key := Value.str (Str.ofString "__doc__") 305, val := Value.none }] 4 }) ::
  (nat_lit 94, { cls := Value.type "type", data := Data.cls { name := Str.ofString "_ValueFormatter", bases := [Value.type "object"], mro := [Value.ref 94, Value.type "object"], ns := 93, qualname := Str.ofString "_ValueFormatter" }, slots := #[none, none, some (Value.str (Str.ofString "_ValueFormatter") 200), some (Value.str (Str.ofString "_ValueFormatter") 208), some (Value.builtin "object.__new__"), some (Value.bool true)] }) ::
  (nat_lit 95, { cls := Value.type "getset_descriptor", data := Data.fields #[Value.str (Str.ofString "__dict__") 301, Value.ref 94, Value.builtin "function.__dict__", Value.builtin "function.__dict__#set"] }) ::
  (nat_lit 96, { cls := Value.type "getset_descriptor", data := Data.fields #[Value.str (Str.ofString "__weakref__") 303, Value.ref 94, Value.builtin "ExceptionGroup.__weakref__", Value.none] }) ::
  (nat_lit 102, { cls := Value.type "cell", data := Data.cell (some (Value.ref 178)) }) ::
  (nat_lit 107, { cls := Value.type "tuple", data := Data.seq #[Value.int 0 320] }) ::
  (nat_lit 108, { cls := Value.type "tuple", data := Data.seq #[Value.ref 102] }) ::
  (nat_lit 114, { cls := Value.type "code", data := Data.fields #[Value.str (Str.ofString "__init__") 321, Value.str (Str.ofString "_Accumulator.__init__") 322, Value.str (Str.ofString "/claim/cut.py") 323, Value.int 75 0, Value.int 2 0, Value.int 0 0, Value.int 0 0, Value.int 3 0, Value.ref 109, Value.bool true, Value.int 181 0, Value.ref 110, Value.none, Value.ref 111, Value.ref 112, Value.ref 113, Value.int 327 0, Value.int 75 0, Value.str (Str.ofString "/claim/cut.py") 328] }) ::
  (nat_lit 115, { cls := Value.type "function", data := Data.func { name := Str.ofString "__init__", qualname := Str.ofString "_Accumulator.__init__", params := fnArgs (met 5 0), body := FuncBody.stmts (fnBody (met 5 0)), scope := fnScope (met 5 0), globals := 3, closure := [(Str.ofString "__class__", 102)], defaults := Value.ref 107, kwdefaults := Value.none, pyModule := Value.str (Str.ofString "cpy313.email.header") 194, code := Value.ref 114, closureTuple := Value.ref 108 } }) ::
  (nat_lit 121, { cls := Value.type "code", data := Data.fields #[Value.str (Str.ofString "push") 330, Value.str (Str.ofString "_Accumulator.push") 331, Value.str (Str.ofString "/claim/cut.py") 332, Value.int 79 0, Value.int 3 0, Value.int 0 0, Value.int 0 0, Value.int 3 0, Value.ref 116, Value.bool true, Value.int 181 0, Value.ref 117, Value.none, Value.ref 118, Value.ref 119, Value.ref 120, Value.int 336 0, Value.int 79 0, Value.str (Str.ofString "/claim/cut.py") 337] }) ::
  (nat_lit 122, { cls := Value.type "function", data := Data.func { name := Str.ofString "push", qualname := Str.ofString "_Accumulator.push", params := fnArgs (met 5 1), body := FuncBody.stmts (fnBody (met 5 1)), scope := fnScope (met 5 1), globals := 3, closure := [], defaults := Value.none, kwdefaults := Value.none, pyModule := Value.str (Str.ofString "cpy313.email.header") 194, code := Value.ref 121 } }) ::
  (nat_lit 123, { cls := Value.type "tuple", data := Data.seq #[Value.int 0 339] }) ::
  (nat_lit 129, { cls := Value.type "code", data := Data.fields #[Value.str (Str.ofString "pop_from") 340, Value.str (Str.ofString "_Accumulator.pop_from") 341, Value.str (Str.ofString "/claim/cut.py") 342, Value.int 82 0, Value.int 2 0, Value.int 0 0, Value.int 0 0, Value.int 3 0, Value.ref 124, Value.bool true, Value.int 181 0, Value.ref 125, Value.none, Value.ref 126, Value.ref 127, Value.ref 128, Value.int 346 0, Value.int 82 0, Value.str (Str.ofString "/claim/cut.py") 347] }) ::
  (nat_lit 130, { cls := Value.type "function", data := Data.func { name := Str.ofString "pop_from", qualname := Str.ofString "_Accumulator.pop_from", params := fnArgs (met 5 2), body := FuncBody.stmts (fnBody (met 5 2)), scope := fnScope (met 5 2), globals := 3, closure := [], defaults := Value.ref 123, kwdefaults := Value.none, pyModule := Value.str (Str.ofString "cpy313.email.header") 194, code := Value.ref 129 } }) ::
  (nat_lit 131, { cls := Value.type "tuple", data := Data.seq #[Value.ref 102] }) ::
  (nat_lit 137, { cls := Value.type "code", data := Data.fields #[Value.str (Str.ofString "pop") 349, Value.str (Str.ofString "_Accumulator.pop") 350, Value.str (Str.ofString "/claim/cut.py") 351, Value.int 87 0, Value.int 1 0, Value.int 0 0, Value.int 0 0, Value.int 3 0, Value.ref 132, Value.bool true, Value.int 181 0, Value.ref 133, Value.none, Value.ref 134, Value.ref 135, Value.ref 136, Value.int 354 0, Value.int 87 0, Value.str (Str.ofString "/claim/cut.py") 355] }) ::
  (nat_lit 138, { cls := Value.type "function", data := Data.func { name := Str.ofString "pop", qualname := Str.ofString "_Accumulator.pop", params := fnArgs (met 5 3), body := FuncBody.stmts (fnBody (met 5 3)), scope := fnScope (met 5 3), globals := 3, closure := [(Str.ofString "__class__", 102)], defaults := Value.none, kwdefaults := Value.none, pyModule := Value.str (Str.ofString "cpy313.email.header") 194, code := Value.ref 137, closureTuple := Value.ref 131 } }) ::
  (nat_lit 144, { cls := Value.type "code", data := Data.fields #[Value.str (Str.ofString "__len__") 357, Value.str (Str.ofString "_Accumulator.__len__") 358, Value.str (Str.ofString "/claim/cut.py") 359, Value.int 92 0, Value.int 1 0, Value.int 0 0, Value.int 0 0, Value.int 3 0, Value.ref 139, Value.bool true, Value.int 181 0, Value.ref 140, Value.none, Value.ref 141, Value.ref 142, Value.ref 143, Value.int 361 0, Value.int 92 0, Value.str (Str.ofString "/claim/cut.py") 362] }) ::
  (nat_lit 145, { cls := Value.type "function", data := Data.func { name := Str.ofString "__len__", qualname := Str.ofString "_Accumulator.__len__", params := fnArgs (met 5 4), body := FuncBody.stmts (fnBody (met 5 4)), scope := fnScope (met 5 4), globals := 3, closure := [], defaults := Value.none, kwdefaults := Value.none, pyModule := Value.str (Str.ofString "cpy313.email.header") 194, code := Value.ref 144 } }) ::
  (nat_lit 151, { cls := Value.type "code", data := Data.fields #[Value.str (Str.ofString "__str__") 364, Value.str (Str.ofString "_Accumulator.__str__") 365, Value.str (Str.ofString "/claim/cut.py") 366, Value.int 95 0, Value.int 1 0, Value.int 0 0, Value.int 0 0, Value.int 3 0, Value.ref 146, Value.bool true, Value.int 181 0, Value.ref 147, Value.none, Value.ref 148, Value.ref 149, Value.ref 150, Value.int 368 0, Value.int 95 0, Value.str (Str.ofString "/claim/cut.py") 369] }) ::
  (nat_lit 152, { cls := Value.type "function", data := Data.func { name := Str.ofString "__str__", qualname := Str.ofString "_Accumulator.__str__", params := fnArgs (met 5 5), body := FuncBody.stmts (fnBody (met 5 5)), scope := fnScope (met 5 5), globals := 3, closure := [], defaults := Value.none, kwdefaults := Value.none, pyModule := Value.str (Str.ofString "cpy313.email.header") 194, code := Value.ref 151 } }) ::
  (nat_lit 153, { cls := Value.type "tuple", data := Data.seq #[Value.none] }) ::
  (nat_lit 159, { cls := Value.type "code", data := Data.fields #[Value.str (Str.ofString "reset") 371, Value.str (Str.ofString "_Accumulator.reset") 372, Value.str (Str.ofString "/claim/cut.py") 373, Value.int 98 0, Value.int 2 0, Value.int 0 0, Value.int 0 0, Value.int 3 0, Value.ref 154, Value.bool true, Value.int 181 0, Value.ref 155, Value.none, Value.ref 156, Value.ref 157, Value.ref 158, Value.int 376 0, Value.int 98 0, Value.str (Str.ofString "/claim/cut.py") 377] }) ::
  (nat_lit 160, { cls := Value.type "function", data := Data.func { name := Str.ofString "reset", qualname := Str.ofString "_Accumulator.reset", params := fnArgs (met 5 6), body := FuncBody.stmts (fnBody (met 5 6)), scope := fnScope (met 5 6), globals := 3, closure := [], defaults := Value.ref 153, kwdefaults := Value.none, pyModule := Value.str (Str.ofString "cpy313.email.header") 194, code := Value.ref 159 } }) ::
  (nat_lit 166, { cls := Value.type "code", data := Data.fields #[Value.str (Str.ofString "is_onlyws") 379, Value.str (Str.ofString "_Accumulator.is_onlyws") 380, Value.str (Str.ofString "/claim/cut.py") 381, Value.int 104 0, Value.int 1 0, Value.int 0 0, Value.int 0 0, Value.int 3 0, Value.ref 161, Value.bool true, Value.int 181 0, Value.ref 162, Value.none, Value.ref 163, Value.ref 164, Value.ref 165, Value.int 383 0, Value.int 104 0, Value.str (Str.ofString "/claim/cut.py") 384] }) ::
  (nat_lit 167, { cls := Value.type "function", data := Data.func { name := Str.ofString "is_onlyws", qualname := Str.ofString "_Accumulator.is_onlyws", params := fnArgs (met 5 7), body := FuncBody.stmts (fnBody (met 5 7)), scope := fnScope (met 5 7), globals := 3, closure := [], defaults := Value.none, kwdefaults := Value.none, pyModule := Value.str (Str.ofString "cpy313.email.header") 194, code := Value.ref 166 } }) ::
  (nat_lit 174, { cls := Value.type "code", data := Data.fields #[Value.str (Str.ofString "part_count") 386, Value.str (Str.ofString "_Accumulator.part_count") 387, Value.str (Str.ofString "/claim/cut.py") 388, Value.int 107 0, Value.int 1 0, Value.int 0 0, Value.int 0 0, Value.int 3 0, Value.ref 169, Value.bool true, Value.int 181 0, Value.ref 170, Value.none, Value.ref 171, Value.ref 172, Value.ref 173, Value.int 391 0, Value.int 107 0, Value.str (Str.ofString "/claim/cut.py") 392] }) ::
  (nat_lit 175, { cls := Value.type "function", data := Data.func { name := Str.ofString "part_count", qualname := Str.ofString "_Accumulator.part_count", params := fnArgs (met 5 8), body := FuncBody.stmts (fnBody (met 5 8)), scope := fnScope (met 5 8), globals := 3, closure := [(Str.ofString "__class__", 102)], defaults := Value.none, kwdefaults := Value.none, pyModule := Value.str (Str.ofString "cpy313.email.header") 194, code := Value.ref 174, closureTuple := Value.ref 168 } }) ::
  (nat_lit 177, { cls := Value.type "dict", data := Data.dict #[{ hash := PyData.keyHash P (Str.ofString "__module__"), key := Value.str (Str.ofString "__module__") 315, val := Value.str (Str.ofString "cpy313.email.header") 194 }, { hash := PyData.keyHash P (Str.ofString "__firstlineno__"), key := Value.str (Str.ofString "__firstlineno__") 319, val := Value.int 73 318 }, { hash := PyData.keyHash P (Str.ofString "__init__"), key := Value.str (Str.ofString "__init__") 329, val := Value.ref 115 }, { hash := PyData.keyHash P (Str.ofString "push"), key := Value.str (Str.ofString "push") 338, val := Value.ref 122 }, { hash := PyData.keyHash P (Str.ofString "pop_from"), key := Value.str (Str.ofString "pop_from") 348, val := Value.ref 130 }, { hash := PyData.keyHash P (Str.ofString "pop"), key := Value.str (Str.ofString "pop") 356, val := Value.ref 138 }, { hash := PyData.keyHash P (Str.ofString "__len__"), key := Value.str (Str.ofString "__len__") 363, val := Value.ref 145 }, { hash := PyData.keyHash P (Str.ofString "__str__"), key := Value.str (Str.ofString "__str__") 370, val := Value.ref 152 }, { hash := PyData.keyHash P (Str.ofString "reset"), key := Value.str (Str.ofString "reset") 378, val := Value.ref 160 }, { hash := PyData.keyHash P (Str.ofString "is_onlyws"), key := Value.str (Str.ofString "is_onlyws") 385, val := Value.ref 167 }, { hash := PyData.keyHash P (Str.ofString "part_count"), key := Value.str (Str.ofString "part_count") 393, val := Value.ref 175 }, { hash := PyData.keyHash P (Str.ofString "__static_attributes__"), key := Value.str (Str.ofString "__static_attributes__") 395, val := Value.ref 176 }, { hash := PyData.keyHash P (Str.ofString "__dict__"), key := Value.str (Str.ofString "__dict__") 398, val := Value.ref 179 }, { hash := PyData.keyHash P (Str.ofString "__weakref__"), key := Value.str (Str.ofString "__weakref__") 400, val := Value.ref 180 }, { hash := PyData.keyHash P (Str.ofString "__doc__"), key := Value.str (Str.ofString "__doc__") 401, val := Value.none }] 5 }) ::
  (nat_lit 178, { cls := Value.type "type", data := Data.cls { name := Str.ofString "_Accumulator", bases := [Value.type "list"], mro := [Value.ref 178, Value.type "list", Value.type "object"], ns := 177, qualname := Str.ofString "_Accumulator" }, slots := #[some (Value.ref 99), none, some (Value.str (Str.ofString "_Accumulator") 308), some (Value.str (Str.ofString "_Accumulator") 316), some (Value.builtin "list.__new__"), some (Value.bool true)] }) ::
  (nat_lit 179, { cls := Value.type "getset_descriptor", data := Data.fields #[Value.str (Str.ofString "__dict__") 397, Value.ref 178, Value.builtin "function.__dict__", Value.builtin "function.__dict__#set"] }) ::
  (nat_lit 180, { cls := Value.type "getset_descriptor", data := Data.fields #[Value.str (Str.ofString "__weakref__") 399, Value.ref 178, Value.builtin "ExceptionGroup.__weakref__", Value.none] }) ::
  (nat_lit 188, { cls := Value.type "code", data := Data.fields #[Value.str (Str.ofString "_div2n1n") 408, Value.str (Str.ofString "_div2n1n") 409, Value.str (Str.ofString "/claim/cut.py") 410, Value.int 111 0, Value.int 3 0, Value.int 0 0, Value.int 0 0, Value.int 3 0, Value.ref 183, Value.bool true, Value.int 181 0, Value.ref 184, Value.none, Value.ref 185, Value.ref 186, Value.ref 187, Value.int 422 0, Value.int 111 0, Value.str (Str.ofString "/claim/cut.py") 423] }) ::
  (nat_lit 189, { cls := Value.type "function", data := Data.func { name := Str.ofString "_div2n1n", qualname := Str.ofString "_div2n1n", params := fnArgs (top 8), body := FuncBody.stmts (fnBody (top 8)), scope := fnScope (top 8), globals := 3, closure := [], defaults := Value.none, kwdefaults := Value.none, pyModule := Value.str (Str.ofString "cpy313._pylong") 404, code := Value.ref 188 } }) ::
  (nat_lit 202, { cls := Value.type "code", data := Data.fields #[Value.str (Str.ofString "_int2digits") 439, Value.str (Str.ofString "_int2digits") 440, Value.str (Str.ofString "/claim/cut.py") 441, Value.int 137 0, Value.int 2 0, Value.int 0 0, Value.int 0 0, Value.int 3 0, Value.ref 197, Value.bool true, Value.int 181 0, Value.ref 198, Value.none, Value.ref 199, Value.ref 200, Value.ref 201, Value.int 447 0, Value.int 137 0, Value.str (Str.ofString "/claim/cut.py") 448] }) ::
  (nat_lit 203, { cls := Value.type "function", data := Data.func { name := Str.ofString "_int2digits", qualname := Str.ofString "_int2digits", params := fnArgs (top 10), body := FuncBody.stmts (fnBody (top 10)), scope := fnScope (top 10), globals := 3, closure := [], defaults := Value.none, kwdefaults := Value.none, pyModule := Value.str (Str.ofString "cpy313._pylong") 404, code := Value.ref 202 } }) ::
  (nat_lit 209, { cls := Value.type "code", data := Data.fields #[Value.str (Str.ofString "_digits2int") 450, Value.str (Str.ofString "_digits2int") 451, Value.str (Str.ofString "/claim/cut.py") 452, Value.int 153 0, Value.int 2 0, Value.int 0 0, Value.int 0 0, Value.int 3 0, Value.ref 204, Value.bool true, Value.int 181 0, Value.ref 205, Value.none, Value.ref 206, Value.ref 207, Value.ref 208, Value.int 458 0, Value.int 153 0, Value.str (Str.ofString "/claim/cut.py") 459] }) ::
  (nat_lit 210, { cls := Value.type "function", data := Data.func { name := Str.ofString "_digits2int", qualname := Str.ofString "_digits2int", params := fnArgs (top 11), body := FuncBody.stmts (fnBody (top 11)), scope := fnScope (top 11), globals := 3, closure := [], defaults := Value.none, kwdefaults := Value.none, pyModule := Value.str (Str.ofString "cpy313._pylong") 404, code := Value.ref 209 } }) ::
  (nat_lit 216, { cls := Value.type "code", data := Data.fields #[Value.str (Str.ofString "_divmod_pos") 461, Value.str (Str.ofString "_divmod_pos") 462, Value.str (Str.ofString "/claim/cut.py") 463, Value.int 162 0, Value.int 2 0, Value.int 0 0, Value.int 0 0, Value.int 3 0, Value.ref 211, Value.bool true, Value.int 181 0, Value.ref 212, Value.none, Value.ref 213, Value.ref 214, Value.ref 215, Value.int 473 0, Value.int 162 0, Value.str (Str.ofString "/claim/cut.py") 474] }) ::
  (nat_lit 217, { cls := Value.type "function", data := Data.func { name := Str.ofString "_divmod_pos", qualname := Str.ofString "_divmod_pos", params := fnArgs (top 12), body := FuncBody.stmts (fnBody (top 12)), scope := fnScope (top 12), globals := 3, closure := [], defaults := Value.none, kwdefaults := Value.none, pyModule := Value.str (Str.ofString "cpy313._pylong") 404, code := Value.ref 216 } }) ::
  (nat_lit 223, { cls := Value.type "code", data := Data.fields #[Value.str (Str.ofString "int_divmod") 476, Value.str (Str.ofString "int_divmod") 477, Value.str (Str.ofString "/claim/cut.py") 478, Value.int 173 0, Value.int 2 0, Value.int 0 0, Value.int 0 0, Value.int 3 0, Value.ref 218, Value.bool true, Value.int 181 0, Value.ref 219, Value.none, Value.ref 220, Value.ref 221, Value.ref 222, Value.int 483 0, Value.int 173 0, Value.str (Str.ofString "/claim/cut.py") 484] }) ::
  (nat_lit 224, { cls := Value.type "function", data := Data.func { name := Str.ofString "int_divmod", qualname := Str.ofString "int_divmod", params := fnArgs (top 13), body := FuncBody.stmts (fnBody (top 13)), scope := fnScope (top 13), globals := 3, closure := [], defaults := Value.none, kwdefaults := Value.none, pyModule := Value.str (Str.ofString "cpy313._pylong") 404, code := Value.ref 223 } }) ::
  (nat_lit 228, { cls := Value.type "code", data := Data.fields #[Value.str (Str.ofString "_law_number") 488, Value.str (Str.ofString "_law_number") 489, Value.str (Str.ofString "/claim/cut.py") 490, Value.int 185 0, Value.int 1 0, Value.int 0 0, Value.int 0 0, Value.int 3 0, Value.ref 225, Value.bool true, Value.int 181 0, Value.ref 226, Value.none, Value.none, Value.none, Value.ref 227, Value.int 491 0, Value.int 185 0, Value.str (Str.ofString "/claim/cut.py") 492] }) ::
  (nat_lit 229, { cls := Value.type "function", data := Data.func { name := Str.ofString "_law_number", qualname := Str.ofString "_law_number", params := fnArgs (top 15), body := FuncBody.stmts (fnBody (top 15)), scope := fnScope (top 15), globals := 3, closure := [], defaults := Value.none, kwdefaults := Value.none, pyModule := Value.str (Str.ofString "law_nb0260_01") 486, code := Value.ref 228 } }) ::
  (nat_lit 235, { cls := Value.type "code", data := Data.fields #[Value.str (Str.ofString "_law_width") 494, Value.str (Str.ofString "_law_width") 495, Value.str (Str.ofString "/claim/cut.py") 496, Value.int 190 0, Value.int 1 0, Value.int 0 0, Value.int 0 0, Value.int 3 0, Value.ref 230, Value.bool true, Value.int 181 0, Value.ref 231, Value.none, Value.ref 232, Value.ref 233, Value.ref 234, Value.int 498 0, Value.int 190 0, Value.str (Str.ofString "/claim/cut.py") 499] }) ::
  (nat_lit 236, { cls := Value.type "function", data := Data.func { name := Str.ofString "_law_width", qualname := Str.ofString "_law_width", params := fnArgs (top 16), body := FuncBody.stmts (fnBody (top 16)), scope := fnScope (top 16), globals := 3, closure := [], defaults := Value.none, kwdefaults := Value.none, pyModule := Value.str (Str.ofString "law_nb0260_01") 486, code := Value.ref 235 } }) ::
  (nat_lit 242, { cls := Value.type "code", data := Data.fields #[Value.str (Str.ofString "_law_wide") 501, Value.str (Str.ofString "_law_wide") 502, Value.str (Str.ofString "/claim/cut.py") 503, Value.int 192 0, Value.int 1 0, Value.int 0 0, Value.int 0 0, Value.int 3 0, Value.ref 237, Value.bool true, Value.int 181 0, Value.ref 238, Value.none, Value.ref 239, Value.ref 240, Value.ref 241, Value.int 505 0, Value.int 192 0, Value.str (Str.ofString "/claim/cut.py") 506] }) ::
  (nat_lit 243, { cls := Value.type "function", data := Data.func { name := Str.ofString "_law_wide", qualname := Str.ofString "_law_wide", params := fnArgs (top 17), body := FuncBody.stmts (fnBody (top 17)), scope := fnScope (top 17), globals := 3, closure := [], defaults := Value.none, kwdefaults := Value.none, pyModule := Value.str (Str.ofString "law_nb0260_01") 486, code := Value.ref 242 } }) ::
  (nat_lit 249, { cls := Value.type "code", data := Data.fields #[Value.str (Str.ofString "_law_head") 508, Value.str (Str.ofString "_law_head") 509, Value.str (Str.ofString "/claim/cut.py") 510, Value.int 194 0, Value.int 1 0, Value.int 0 0, Value.int 0 0, Value.int 3 0, Value.ref 244, Value.bool true, Value.int 181 0, Value.ref 245, Value.none, Value.ref 246, Value.ref 247, Value.ref 248, Value.int 512 0, Value.int 194 0, Value.str (Str.ofString "/claim/cut.py") 513] }) ::
  (nat_lit 250, { cls := Value.type "function", data := Data.func { name := Str.ofString "_law_head", qualname := Str.ofString "_law_head", params := fnArgs (top 18), body := FuncBody.stmts (fnBody (top 18)), scope := fnScope (top 18), globals := 3, closure := [], defaults := Value.none, kwdefaults := Value.none, pyModule := Value.str (Str.ofString "law_nb0260_01") 486, code := Value.ref 249 } }) ::
  (nat_lit 256, { cls := Value.type "code", data := Data.fields #[Value.str (Str.ofString "_law_divisor") 515, Value.str (Str.ofString "_law_divisor") 516, Value.str (Str.ofString "/claim/cut.py") 517, Value.int 196 0, Value.int 1 0, Value.int 0 0, Value.int 0 0, Value.int 3 0, Value.ref 251, Value.bool true, Value.int 181 0, Value.ref 252, Value.none, Value.ref 253, Value.ref 254, Value.ref 255, Value.int 519 0, Value.int 196 0, Value.str (Str.ofString "/claim/cut.py") 520] }) ::
  (nat_lit 257, { cls := Value.type "function", data := Data.func { name := Str.ofString "_law_divisor", qualname := Str.ofString "_law_divisor", params := fnArgs (top 19), body := FuncBody.stmts (fnBody (top 19)), scope := fnScope (top 19), globals := 3, closure := [], defaults := Value.none, kwdefaults := Value.none, pyModule := Value.str (Str.ofString "law_nb0260_01") 486, code := Value.ref 256 } }) ::
  (nat_lit 261, { cls := Value.type "code", data := Data.fields #[Value.str (Str.ofString "_law_word") 522, Value.str (Str.ofString "_law_word") 523, Value.str (Str.ofString "/claim/cut.py") 524, Value.int 198 0, Value.int 1 0, Value.int 0 0, Value.int 0 0, Value.int 3 0, Value.ref 258, Value.bool true, Value.int 181 0, Value.ref 259, Value.none, Value.none, Value.none, Value.ref 260, Value.int 525 0, Value.int 198 0, Value.str (Str.ofString "/claim/cut.py") 526] }) ::
  (nat_lit 262, { cls := Value.type "function", data := Data.func { name := Str.ofString "_law_word", qualname := Str.ofString "_law_word", params := fnArgs (top 20), body := FuncBody.stmts (fnBody (top 20)), scope := fnScope (top 20), globals := 3, closure := [], defaults := Value.none, kwdefaults := Value.none, pyModule := Value.str (Str.ofString "law_nb0260_01") 486, code := Value.ref 261 } }) ::
  (nat_lit 266, { cls := Value.type "code", data := Data.fields #[Value.str (Str.ofString "_law_digit") 528, Value.str (Str.ofString "_law_digit") 529, Value.str (Str.ofString "/claim/cut.py") 530, Value.int 200 0, Value.int 1 0, Value.int 0 0, Value.int 0 0, Value.int 3 0, Value.ref 263, Value.bool true, Value.int 181 0, Value.ref 264, Value.none, Value.none, Value.none, Value.ref 265, Value.int 531 0, Value.int 200 0, Value.str (Str.ofString "/claim/cut.py") 532] }) ::
  (nat_lit 267, { cls := Value.type "function", data := Data.func { name := Str.ofString "_law_digit", qualname := Str.ofString "_law_digit", params := fnArgs (top 21), body := FuncBody.stmts (fnBody (top 21)), scope := fnScope (top 21), globals := 3, closure := [], defaults := Value.none, kwdefaults := Value.none, pyModule := Value.str (Str.ofString "law_nb0260_01") 486, code := Value.ref 266 } }) ::
  (nat_lit 273, { cls := Value.type "code", data := Data.fields #[Value.str (Str.ofString "_law_rows") 534, Value.str (Str.ofString "_law_rows") 535, Value.str (Str.ofString "/claim/cut.py") 536, Value.int 202 0, Value.int 3 0, Value.int 0 0, Value.int 0 0, Value.int 3 0, Value.ref 268, Value.bool true, Value.int 181 0, Value.ref 269, Value.none, Value.ref 270, Value.ref 271, Value.ref 272, Value.int 542 0, Value.int 202 0, Value.str (Str.ofString "/claim/cut.py") 543] }) ::
  (nat_lit 274, { cls := Value.type "function", data := Data.func { name := Str.ofString "_law_rows", qualname := Str.ofString "_law_rows", params := fnArgs (top 22), body := FuncBody.stmts (fnBody (top 22)), scope := fnScope (top 22), globals := 3, closure := [], defaults := Value.none, kwdefaults := Value.none, pyModule := Value.str (Str.ofString "law_nb0260_01") 486, code := Value.ref 273 } }) ::
  (nat_lit 278, { cls := Value.type "code", data := Data.fields #[Value.str (Str.ofString "_law_full") 545, Value.str (Str.ofString "_law_full") 546, Value.str (Str.ofString "/claim/cut.py") 547, Value.int 207 0, Value.int 3 0, Value.int 0 0, Value.int 0 0, Value.int 3 0, Value.ref 275, Value.bool true, Value.int 181 0, Value.ref 276, Value.none, Value.none, Value.none, Value.ref 277, Value.int 548 0, Value.int 207 0, Value.str (Str.ofString "/claim/cut.py") 549] }) ::
  (nat_lit 279, { cls := Value.type "function", data := Data.func { name := Str.ofString "_law_full", qualname := Str.ofString "_law_full", params := fnArgs (top 23), body := FuncBody.stmts (fnBody (top 23)), scope := fnScope (top 23), globals := 3, closure := [], defaults := Value.none, kwdefaults := Value.none, pyModule := Value.str (Str.ofString "law_nb0260_01") 486, code := Value.ref 278 } }) ::
  (nat_lit 285, { cls := Value.type "code", data := Data.fields #[Value.str (Str.ofString "_law_torn") 551, Value.str (Str.ofString "_law_torn") 552, Value.str (Str.ofString "/claim/cut.py") 553, Value.int 221 0, Value.int 3 0, Value.int 0 0, Value.int 0 0, Value.int 3 0, Value.ref 280, Value.bool true, Value.int 181 0, Value.ref 281, Value.none, Value.ref 282, Value.ref 283, Value.ref 284, Value.int 560 0, Value.int 221 0, Value.str (Str.ofString "/claim/cut.py") 561] }) ::
  (nat_lit 286, { cls := Value.type "function", data := Data.func { name := Str.ofString "_law_torn", qualname := Str.ofString "_law_torn", params := fnArgs (top 24), body := FuncBody.stmts (fnBody (top 24)), scope := fnScope (top 24), globals := 3, closure := [], defaults := Value.none, kwdefaults := Value.none, pyModule := Value.str (Str.ofString "law_nb0260_01") 486, code := Value.ref 285 } }) ::
  (nat_lit 292, { cls := Value.type "code", data := Data.fields #[Value.str (Str.ofString "_law_divided") 563, Value.str (Str.ofString "_law_divided") 564, Value.str (Str.ofString "/claim/cut.py") 565, Value.int 228 0, Value.int 3 0, Value.int 0 0, Value.int 0 0, Value.int 3 0, Value.ref 287, Value.bool true, Value.int 181 0, Value.ref 288, Value.none, Value.ref 289, Value.ref 290, Value.ref 291, Value.int 574 0, Value.int 228 0, Value.str (Str.ofString "/claim/cut.py") 575] }) ::
  (nat_lit 293, { cls := Value.type "function", data := Data.func { name := Str.ofString "_law_divided", qualname := Str.ofString "_law_divided", params := fnArgs (top 25), body := FuncBody.stmts (fnBody (top 25)), scope := fnScope (top 25), globals := 3, closure := [], defaults := Value.none, kwdefaults := Value.none, pyModule := Value.str (Str.ofString "law_nb0260_01") 486, code := Value.ref 292 } }) ::
  (nat_lit 297, { cls := Value.type "code", data := Data.fields #[Value.str (Str.ofString "_law_right") 577, Value.str (Str.ofString "_law_right") 578, Value.str (Str.ofString "/claim/cut.py") 579, Value.int 236 0, Value.int 5 0, Value.int 0 0, Value.int 0 0, Value.int 3 0, Value.ref 294, Value.bool true, Value.int 181 0, Value.ref 295, Value.none, Value.none, Value.none, Value.ref 296, Value.int 580 0, Value.int 236 0, Value.str (Str.ofString "/claim/cut.py") 581] }) ::
  (nat_lit 298, { cls := Value.type "function", data := Data.func { name := Str.ofString "_law_right", qualname := Str.ofString "_law_right", params := fnArgs (top 26), body := FuncBody.stmts (fnBody (top 26)), scope := fnScope (top 26), globals := 3, closure := [], defaults := Value.none, kwdefaults := Value.none, pyModule := Value.str (Str.ofString "law_nb0260_01") 486, code := Value.ref 297 } }) ::
  (nat_lit 304, { cls := Value.type "code", data := Data.fields #[Value.str (Str.ofString "law") 583, Value.str (Str.ofString "law") 584, Value.str (Str.ofString "/claim/cut.py") 585, Value.int 248 0, Value.int 1 0, Value.int 0 0, Value.int 0 0, Value.int 3 0, Value.ref 299, Value.bool true, Value.int 181 0, Value.ref 300, Value.none, Value.ref 301, Value.ref 302, Value.ref 303, Value.int 587 0, Value.int 248 0, Value.str (Str.ofString "/claim/cut.py") 588] }) ::
  (nat_lit 305, { cls := Value.type "function", data := Data.func { name := Str.ofString "law", qualname := Str.ofString "law", params := fnArgs (top 27), body := FuncBody.stmts (fnBody (top 27)), scope := fnScope (top 27), globals := 3, closure := [], defaults := Value.none, kwdefaults := Value.none, pyModule := Value.str (Str.ofString "law_nb0260_01") 486, code := Value.ref 304 } }) :: []

/-- the program cut to the law's own def; the other names are loose -/
noncomputable def qv : Program := { PySem.Challenge.pw_nb0260_01 with main := { PySem.Challenge.pw_nb0260_01.main with body := [top 27] } }
abbrev lz : List Str := [Str.ofString "_wall", Str.ofString "NL", Str.ofString "EMPTYSTRING", Str.ofString "_ValueFormatter", Str.ofString "_Accumulator", Str.ofString "_DIV_LIMIT", Str.ofString "_div2n1n", Str.ofString "_div3n2n", Str.ofString "_int2digits", Str.ofString "_digits2int", Str.ofString "_divmod_pos", Str.ofString "int_divmod", Str.ofString "_law_number", Str.ofString "_law_width", Str.ofString "_law_wide", Str.ofString "_law_head", Str.ofString "_law_divisor", Str.ofString "_law_word", Str.ofString "_law_digit", Str.ofString "_law_rows", Str.ofString "_law_full", Str.ofString "_law_torn", Str.ofString "_law_divided", Str.ofString "_law_right"]
noncomputable abbrev Hk : Hook := kmHook Kf [2, 3, 34, 35, 41, 42, 55, 56, 90, 91, 93, 94, 95, 96, 102, 107, 108, 114, 115, 121, 122, 123, 129, 130, 131, 137, 138, 144, 145, 151, 152, 153, 159, 160, 166, 167, 174, 175, 177, 178, 179, 180, 188, 189, 202, 203, 209, 210, 216, 217, 223, 224, 228, 229, 235, 236, 242, 243, 249, 250, 256, 257, 261, 262, 266, 267, 273, 274, 278, 279, 285, 286, 292, 293, 297, 298, 304, 305] (fun _ => by kernel_rfl) [140, 147, 198, 205]
end Mine
end

section
open PySem PySem.W PySem.Calls PyProof.Rows
set_option linter.unusedVariables false
namespace Mine
noncomputable def envE : Env := { scope := PySem.Challenge.pw_nb0260_01.main.scope, locals := mainNs, globals := mainNs, cells := [], code := .ref 13, frame := some 14 }
noncomputable abbrev bE : List Stmt := behindTheImports PySem.Challenge.pw_nb0260_01
noncomputable abbrev cE : Code := .body bE envE
def cutN : Nat → List Stmt → List Stmt
  | 0, _ => []
  | _ + 1, [] => []
  | n + 1, s :: r => s :: cutN n r
def skipN : Nat → List Stmt → List Stmt
  | 0, l => l
  | _ + 1, [] => []
  | n + 1, _ :: r => skipN n r
theorem cut_skip : ∀ (n : Nat) (l : List Stmt), l = cutN n l ++ skipN n l
  | 0, _ => rfl
  | _ + 1, [] => rfl
  | n + 1, s :: r => congrArg (s :: ·) (cut_skip n r)
set_option maxRecDepth 100000
noncomputable def x11 : Params → Obj := fun P => { cls := Value.type "tuple", data := Data.seq #[] }
noncomputable def x12 : Params → Obj := fun P => { cls := Value.none, data := Data.fields #[] }
noncomputable def x13 : Params → Obj := fun P => { cls := Value.type "code", data := Data.fields #[Value.str (Str.ofString "<module>") 182, Value.str (Str.ofString "<module>") 183, Value.str (Str.ofString "/claim/cut.py") 184, Value.int 1 0, Value.int 0 0, Value.int 0 0, Value.int 0 0, Value.int 0 0, Value.ref 11, Value.bool false, Value.int 181 0, Value.ref 12, Value.none, Value.none, Value.none, Value.none, Value.int 185 0, Value.int 1 0, Value.str (Str.ofString "/claim/cut.py") 186] }
noncomputable def x14 : Params → Obj := fun P => { cls := Value.type "frame", slots := #[some (Value.ref 13), some (Value.ref 3), some (Value.ref 3), none, some (Value.str (Str.ofString "__main__") 164), none, some (Value.ref 0)] }
noncomputable def x3 : Params → Obj := fun P => { cls := Value.type "dict", data := Data.dict #[{ hash := PyData.keyHash P (Str.ofString "__name__"), key := Value.str (Str.ofString "__name__") 165, val := Value.str (Str.ofString "cpy313.email.header") 194 }, { hash := PyData.keyHash P (Str.ofString "__doc__"), key := Value.str (Str.ofString "__doc__") 166, val := Value.none }, { hash := PyData.keyHash P (Str.ofString "__package__"), key := Value.str (Str.ofString "__package__") 167, val := Value.none }, { hash := PyData.keyHash P (Str.ofString "__loader__"), key := Value.str (Str.ofString "__loader__") 168, val := Value.builtin "__main__.__loader__#opaque" }, { hash := PyData.keyHash P (Str.ofString "__spec__"), key := Value.str (Str.ofString "__spec__") 169, val := Value.none }, { hash := PyData.keyHash P (Str.ofString "__annotations__"), key := Value.str (Str.ofString "__annotations__") 170, val := Value.ref 6 }, { hash := PyData.keyHash P (Str.ofString "__builtins__"), key := Value.str (Str.ofString "__builtins__") 171, val := Value.ref 4 }, { hash := PyData.keyHash P (Str.ofString "__file__"), key := Value.str (Str.ofString "__file__") 173, val := Value.str (Str.ofString "/claim/cut.py") 172 }, { hash := PyData.keyHash P (Str.ofString "__cached__"), key := Value.str (Str.ofString "__cached__") 174, val := Value.none }, { hash := PyData.keyHash P (Str.ofString "_wall"), key := Value.str (Str.ofString "_wall") 193, val := Value.ref 21 }, { hash := PyData.keyHash P (Str.ofString "NL"), key := Value.str (Str.ofString "NL") 197, val := Value.str (Str.ofString "\n") 196 }, { hash := PyData.keyHash P (Str.ofString "EMPTYSTRING"), key := Value.str (Str.ofString "EMPTYSTRING") 199, val := Value.str (Str.ofString "") 198 }, { hash := PyData.keyHash P (Str.ofString "_ValueFormatter"), key := Value.str (Str.ofString "_ValueFormatter") 307, val := Value.ref 94 }] 13 }
noncomputable def x12_1 : Params → Obj := fun P => { cls := Value.none, data := Data.fields #[Value.int 1 0, Value.int 0 0, Value.ref 20, Value.int 7 0, Value.int 0 0, Value.ref 27] }
noncomputable def x17 : Params → Obj := fun P => { cls := Value.type "tuple", data := Data.seq #[Value.str (Str.ofString "k") 190] }
noncomputable def x19 : Params → Obj := fun P => { cls := Value.none, data := Data.func { name := Str.ofString "_wall", qualname := Str.ofString "_wall", params := fnArgs (top 0), body := FuncBody.stmts (fnBody (top 0)), scope := fnScope (top 0), globals := 0, closure := [], defaults := Value.none, kwdefaults := Value.none } }
noncomputable def x20 : Params → Obj := fun P => { cls := Value.type "code", data := Data.fields #[Value.str (Str.ofString "_wall") 187, Value.str (Str.ofString "_wall") 188, Value.str (Str.ofString "/claim/cut.py") 189, Value.int 1 0, Value.int 1 0, Value.int 0 0, Value.int 0 0, Value.int 3 0, Value.ref 15, Value.bool true, Value.int 181 0, Value.ref 16, Value.none, Value.ref 17, Value.ref 18, Value.ref 19, Value.int 191 0, Value.int 1 0, Value.str (Str.ofString "/claim/cut.py") 192] }
noncomputable def x21 : Params → Obj := fun P => { cls := Value.type "function", data := Data.func { name := Str.ofString "_wall", qualname := Str.ofString "_wall", params := fnArgs (top 0), body := FuncBody.stmts (fnBody (top 0)), scope := fnScope (top 0), globals := 3, closure := [], defaults := Value.none, kwdefaults := Value.none, pyModule := Value.str (Str.ofString "__main__") 164, code := Value.ref 20 } }
noncomputable def x23 : Params → Obj := fun P => { cls := Value.type "builtin_function_or_method", data := Data.fields #[Value.builtin "type.__prepare__", Value.type "type"] }
noncomputable def x24 : Params → Obj := fun P => { cls := Value.type "dict", data := Data.dict #[{ hash := PyData.keyHash P (Str.ofString "__module__"), key := Value.str (Str.ofString "__module__") 207, val := Value.str (Str.ofString "cpy313.email.header") 194 }, { hash := PyData.keyHash P (Str.ofString "__qualname__"), key := Value.str (Str.ofString "__qualname__") 209, val := Value.str (Str.ofString "_ValueFormatter") 208 }, { hash := PyData.keyHash P (Str.ofString "__firstlineno__"), key := Value.str (Str.ofString "__firstlineno__") 211, val := Value.int 7 210 }, { hash := PyData.keyHash P (Str.ofString "__init__"), key := Value.str (Str.ofString "__init__") 222, val := Value.ref 35 }, { hash := PyData.keyHash P (Str.ofString "_str"), key := Value.str (Str.ofString "_str") 230, val := Value.ref 42 }, { hash := PyData.keyHash P (Str.ofString "__str__"), key := Value.str (Str.ofString "__str__") 237, val := Value.ref 49 }, { hash := PyData.keyHash P (Str.ofString "newline"), key := Value.str (Str.ofString "newline") 245, val := Value.ref 56 }, { hash := PyData.keyHash P (Str.ofString "add_transition"), key := Value.str (Str.ofString "add_transition") 252, val := Value.ref 63 }, { hash := PyData.keyHash P (Str.ofString "feed"), key := Value.str (Str.ofString "feed") 262, val := Value.ref 70 }, { hash := PyData.keyHash P (Str.ofString "_maxlengths"), key := Value.str (Str.ofString "_maxlengths") 269, val := Value.ref 77 }, { hash := PyData.keyHash P (Str.ofString "_ascii_split"), key := Value.str (Str.ofString "_ascii_split") 279, val := Value.ref 84 }, { hash := PyData.keyHash P (Str.ofString "_append_chunk"), key := Value.str (Str.ofString "_append_chunk") 293, val := Value.ref 91 }, { hash := PyData.keyHash P (Str.ofString "__static_attributes__"), key := Value.str (Str.ofString "__static_attributes__") 300, val := Value.ref 92 }] 13 }
noncomputable def x26 : Params → Obj := fun P => { cls := Value.none, data := Data.fields #[Value.int 9 0, Value.int 4 0, Value.ref 34, Value.int 17 0, Value.int 4 0, Value.ref 41, Value.int 21 0, Value.int 4 0, Value.ref 48, Value.int 24 0, Value.int 4 0, Value.ref 55, Value.int 35 0, Value.int 4 0, Value.ref 62, Value.int 38 0, Value.int 4 0, Value.ref 69, Value.int 41 0, Value.int 4 0, Value.ref 76, Value.int 44 0, Value.int 4 0, Value.ref 83, Value.int 47 0, Value.int 4 0, Value.ref 90] }
noncomputable def x27 : Params → Obj := fun P => { cls := Value.type "code", data := Data.fields #[Value.str (Str.ofString "_ValueFormatter") 202, Value.str (Str.ofString "_ValueFormatter") 203, Value.str (Str.ofString "/claim/cut.py") 204, Value.int 7 0, Value.int 0 0, Value.int 0 0, Value.int 0 0, Value.int 0 0, Value.ref 25, Value.bool false, Value.int 181 0, Value.ref 26, Value.none, Value.none, Value.none, Value.none, Value.int 205 0, Value.int 7 0, Value.str (Str.ofString "/claim/cut.py") 206] }
noncomputable def x28 : Params → Obj := fun P => { cls := Value.type "frame", slots := #[some (Value.ref 27), some (Value.ref 3), some (Value.ref 24), none, some (Value.str (Str.ofString "cpy313.email.header") 194), none, some (Value.ref 0)] }
noncomputable def x31 : Params → Obj := fun P => { cls := Value.type "tuple", data := Data.seq #[Value.str (Str.ofString "self") 215, Value.str (Str.ofString "headerlen") 216, Value.str (Str.ofString "maxlen") 217, Value.str (Str.ofString "continuation_ws") 218, Value.str (Str.ofString "splitchars") 219] }
noncomputable def x33 : Params → Obj := fun P => { cls := Value.none, data := Data.func { name := Str.ofString "__init__", qualname := Str.ofString "_ValueFormatter.__init__", params := fnArgs (met 4 0), body := FuncBody.stmts (fnBody (met 4 0)), scope := fnScope (met 4 0), globals := 0, closure := [], defaults := Value.none, kwdefaults := Value.none } }
noncomputable def x34 : Params → Obj := fun P => { cls := Value.type "code", data := Data.fields #[Value.str (Str.ofString "__init__") 212, Value.str (Str.ofString "_ValueFormatter.__init__") 213, Value.str (Str.ofString "/claim/cut.py") 214, Value.int 9 0, Value.int 5 0, Value.int 0 0, Value.int 0 0, Value.int 3 0, Value.ref 29, Value.bool true, Value.int 181 0, Value.ref 30, Value.none, Value.ref 31, Value.ref 32, Value.ref 33, Value.int 220 0, Value.int 9 0, Value.str (Str.ofString "/claim/cut.py") 221] }
noncomputable def x35 : Params → Obj := fun P => { cls := Value.type "function", data := Data.func { name := Str.ofString "__init__", qualname := Str.ofString "_ValueFormatter.__init__", params := fnArgs (met 4 0), body := FuncBody.stmts (fnBody (met 4 0)), scope := fnScope (met 4 0), globals := 3, closure := [], defaults := Value.none, kwdefaults := Value.none, pyModule := Value.str (Str.ofString "cpy313.email.header") 194, code := Value.ref 34 } }
noncomputable def x38 : Params → Obj := fun P => { cls := Value.type "tuple", data := Data.seq #[Value.str (Str.ofString "self") 226, Value.str (Str.ofString "linesep") 227] }
noncomputable def x40 : Params → Obj := fun P => { cls := Value.none, data := Data.func { name := Str.ofString "_str", qualname := Str.ofString "_ValueFormatter._str", params := fnArgs (met 4 1), body := FuncBody.stmts (fnBody (met 4 1)), scope := fnScope (met 4 1), globals := 0, closure := [], defaults := Value.none, kwdefaults := Value.none } }
noncomputable def x41 : Params → Obj := fun P => { cls := Value.type "code", data := Data.fields #[Value.str (Str.ofString "_str") 223, Value.str (Str.ofString "_ValueFormatter._str") 224, Value.str (Str.ofString "/claim/cut.py") 225, Value.int 17 0, Value.int 2 0, Value.int 0 0, Value.int 0 0, Value.int 3 0, Value.ref 36, Value.bool true, Value.int 181 0, Value.ref 37, Value.none, Value.ref 38, Value.ref 39, Value.ref 40, Value.int 228 0, Value.int 17 0, Value.str (Str.ofString "/claim/cut.py") 229] }
noncomputable def x42 : Params → Obj := fun P => { cls := Value.type "function", data := Data.func { name := Str.ofString "_str", qualname := Str.ofString "_ValueFormatter._str", params := fnArgs (met 4 1), body := FuncBody.stmts (fnBody (met 4 1)), scope := fnScope (met 4 1), globals := 3, closure := [], defaults := Value.none, kwdefaults := Value.none, pyModule := Value.str (Str.ofString "cpy313.email.header") 194, code := Value.ref 41 } }
noncomputable def x45 : Params → Obj := fun P => { cls := Value.type "tuple", data := Data.seq #[Value.str (Str.ofString "self") 234] }
noncomputable def x47 : Params → Obj := fun P => { cls := Value.none, data := Data.func { name := Str.ofString "__str__", qualname := Str.ofString "_ValueFormatter.__str__", params := fnArgs (met 4 2), body := FuncBody.stmts (fnBody (met 4 2)), scope := fnScope (met 4 2), globals := 0, closure := [], defaults := Value.none, kwdefaults := Value.none } }
noncomputable def x48 : Params → Obj := fun P => { cls := Value.type "code", data := Data.fields #[Value.str (Str.ofString "__str__") 231, Value.str (Str.ofString "_ValueFormatter.__str__") 232, Value.str (Str.ofString "/claim/cut.py") 233, Value.int 21 0, Value.int 1 0, Value.int 0 0, Value.int 0 0, Value.int 3 0, Value.ref 43, Value.bool true, Value.int 181 0, Value.ref 44, Value.none, Value.ref 45, Value.ref 46, Value.ref 47, Value.int 235 0, Value.int 21 0, Value.str (Str.ofString "/claim/cut.py") 236] }
noncomputable def x49 : Params → Obj := fun P => { cls := Value.type "function", data := Data.func { name := Str.ofString "__str__", qualname := Str.ofString "_ValueFormatter.__str__", params := fnArgs (met 4 2), body := FuncBody.stmts (fnBody (met 4 2)), scope := fnScope (met 4 2), globals := 3, closure := [], defaults := Value.none, kwdefaults := Value.none, pyModule := Value.str (Str.ofString "cpy313.email.header") 194, code := Value.ref 48 } }
noncomputable def x52 : Params → Obj := fun P => { cls := Value.type "tuple", data := Data.seq #[Value.str (Str.ofString "self") 241, Value.str (Str.ofString "end_of_line") 242] }
noncomputable def x54 : Params → Obj := fun P => { cls := Value.none, data := Data.func { name := Str.ofString "newline", qualname := Str.ofString "_ValueFormatter.newline", params := fnArgs (met 4 3), body := FuncBody.stmts (fnBody (met 4 3)), scope := fnScope (met 4 3), globals := 0, closure := [], defaults := Value.none, kwdefaults := Value.none } }
noncomputable def x55 : Params → Obj := fun P => { cls := Value.type "code", data := Data.fields #[Value.str (Str.ofString "newline") 238, Value.str (Str.ofString "_ValueFormatter.newline") 239, Value.str (Str.ofString "/claim/cut.py") 240, Value.int 24 0, Value.int 1 0, Value.int 0 0, Value.int 0 0, Value.int 3 0, Value.ref 50, Value.bool true, Value.int 181 0, Value.ref 51, Value.none, Value.ref 52, Value.ref 53, Value.ref 54, Value.int 243 0, Value.int 24 0, Value.str (Str.ofString "/claim/cut.py") 244] }
noncomputable def x56 : Params → Obj := fun P => { cls := Value.type "function", data := Data.func { name := Str.ofString "newline", qualname := Str.ofString "_ValueFormatter.newline", params := fnArgs (met 4 3), body := FuncBody.stmts (fnBody (met 4 3)), scope := fnScope (met 4 3), globals := 3, closure := [], defaults := Value.none, kwdefaults := Value.none, pyModule := Value.str (Str.ofString "cpy313.email.header") 194, code := Value.ref 55 } }
noncomputable def x59 : Params → Obj := fun P => { cls := Value.type "tuple", data := Data.seq #[Value.str (Str.ofString "self") 249] }
noncomputable def x61 : Params → Obj := fun P => { cls := Value.none, data := Data.func { name := Str.ofString "add_transition", qualname := Str.ofString "_ValueFormatter.add_transition", params := fnArgs (met 4 4), body := FuncBody.stmts (fnBody (met 4 4)), scope := fnScope (met 4 4), globals := 0, closure := [], defaults := Value.none, kwdefaults := Value.none } }
noncomputable def x62 : Params → Obj := fun P => { cls := Value.type "code", data := Data.fields #[Value.str (Str.ofString "add_transition") 246, Value.str (Str.ofString "_ValueFormatter.add_transition") 247, Value.str (Str.ofString "/claim/cut.py") 248, Value.int 35 0, Value.int 1 0, Value.int 0 0, Value.int 0 0, Value.int 3 0, Value.ref 57, Value.bool true, Value.int 181 0, Value.ref 58, Value.none, Value.ref 59, Value.ref 60, Value.ref 61, Value.int 250 0, Value.int 35 0, Value.str (Str.ofString "/claim/cut.py") 251] }
noncomputable def x63 : Params → Obj := fun P => { cls := Value.type "function", data := Data.func { name := Str.ofString "add_transition", qualname := Str.ofString "_ValueFormatter.add_transition", params := fnArgs (met 4 4), body := FuncBody.stmts (fnBody (met 4 4)), scope := fnScope (met 4 4), globals := 3, closure := [], defaults := Value.none, kwdefaults := Value.none, pyModule := Value.str (Str.ofString "cpy313.email.header") 194, code := Value.ref 62 } }
noncomputable def x66 : Params → Obj := fun P => { cls := Value.type "tuple", data := Data.seq #[Value.str (Str.ofString "self") 256, Value.str (Str.ofString "fws") 257, Value.str (Str.ofString "string") 258, Value.str (Str.ofString "charset") 259] }
noncomputable def x68 : Params → Obj := fun P => { cls := Value.none, data := Data.func { name := Str.ofString "feed", qualname := Str.ofString "_ValueFormatter.feed", params := fnArgs (met 4 5), body := FuncBody.stmts (fnBody (met 4 5)), scope := fnScope (met 4 5), globals := 0, closure := [], defaults := Value.none, kwdefaults := Value.none } }
noncomputable def x69 : Params → Obj := fun P => { cls := Value.type "code", data := Data.fields #[Value.str (Str.ofString "feed") 253, Value.str (Str.ofString "_ValueFormatter.feed") 254, Value.str (Str.ofString "/claim/cut.py") 255, Value.int 38 0, Value.int 4 0, Value.int 0 0, Value.int 0 0, Value.int 3 0, Value.ref 64, Value.bool true, Value.int 181 0, Value.ref 65, Value.none, Value.ref 66, Value.ref 67, Value.ref 68, Value.int 260 0, Value.int 38 0, Value.str (Str.ofString "/claim/cut.py") 261] }
noncomputable def x70 : Params → Obj := fun P => { cls := Value.type "function", data := Data.func { name := Str.ofString "feed", qualname := Str.ofString "_ValueFormatter.feed", params := fnArgs (met 4 5), body := FuncBody.stmts (fnBody (met 4 5)), scope := fnScope (met 4 5), globals := 3, closure := [], defaults := Value.none, kwdefaults := Value.none, pyModule := Value.str (Str.ofString "cpy313.email.header") 194, code := Value.ref 69 } }
noncomputable def x73 : Params → Obj := fun P => { cls := Value.type "tuple", data := Data.seq #[Value.str (Str.ofString "self") 266] }
noncomputable def x75 : Params → Obj := fun P => { cls := Value.none, data := Data.func { name := Str.ofString "_maxlengths", qualname := Str.ofString "_ValueFormatter._maxlengths", params := fnArgs (met 4 6), body := FuncBody.stmts (fnBody (met 4 6)), scope := fnScope (met 4 6), globals := 0, closure := [], defaults := Value.none, kwdefaults := Value.none } }
noncomputable def x76 : Params → Obj := fun P => { cls := Value.type "code", data := Data.fields #[Value.str (Str.ofString "_maxlengths") 263, Value.str (Str.ofString "_ValueFormatter._maxlengths") 264, Value.str (Str.ofString "/claim/cut.py") 265, Value.int 41 0, Value.int 1 0, Value.int 0 0, Value.int 0 0, Value.int 3 0, Value.ref 71, Value.bool true, Value.int 181 0, Value.ref 72, Value.none, Value.ref 73, Value.ref 74, Value.ref 75, Value.int 267 0, Value.int 41 0, Value.str (Str.ofString "/claim/cut.py") 268] }
noncomputable def x77 : Params → Obj := fun P => { cls := Value.type "function", data := Data.func { name := Str.ofString "_maxlengths", qualname := Str.ofString "_ValueFormatter._maxlengths", params := fnArgs (met 4 6), body := FuncBody.stmts (fnBody (met 4 6)), scope := fnScope (met 4 6), globals := 3, closure := [], defaults := Value.none, kwdefaults := Value.none, pyModule := Value.str (Str.ofString "cpy313.email.header") 194, code := Value.ref 76 } }
noncomputable def x80 : Params → Obj := fun P => { cls := Value.type "tuple", data := Data.seq #[Value.str (Str.ofString "self") 273, Value.str (Str.ofString "fws") 274, Value.str (Str.ofString "string") 275, Value.str (Str.ofString "splitchars") 276] }
noncomputable def x82 : Params → Obj := fun P => { cls := Value.none, data := Data.func { name := Str.ofString "_ascii_split", qualname := Str.ofString "_ValueFormatter._ascii_split", params := fnArgs (met 4 7), body := FuncBody.stmts (fnBody (met 4 7)), scope := fnScope (met 4 7), globals := 0, closure := [], defaults := Value.none, kwdefaults := Value.none } }
noncomputable def x83 : Params → Obj := fun P => { cls := Value.type "code", data := Data.fields #[Value.str (Str.ofString "_ascii_split") 270, Value.str (Str.ofString "_ValueFormatter._ascii_split") 271, Value.str (Str.ofString "/claim/cut.py") 272, Value.int 44 0, Value.int 4 0, Value.int 0 0, Value.int 0 0, Value.int 3 0, Value.ref 78, Value.bool true, Value.int 181 0, Value.ref 79, Value.none, Value.ref 80, Value.ref 81, Value.ref 82, Value.int 277 0, Value.int 44 0, Value.str (Str.ofString "/claim/cut.py") 278] }
noncomputable def x84 : Params → Obj := fun P => { cls := Value.type "function", data := Data.func { name := Str.ofString "_ascii_split", qualname := Str.ofString "_ValueFormatter._ascii_split", params := fnArgs (met 4 7), body := FuncBody.stmts (fnBody (met 4 7)), scope := fnScope (met 4 7), globals := 3, closure := [], defaults := Value.none, kwdefaults := Value.none, pyModule := Value.str (Str.ofString "cpy313.email.header") 194, code := Value.ref 83 } }
noncomputable def x87 : Params → Obj := fun P => { cls := Value.type "tuple", data := Data.seq #[Value.str (Str.ofString "self") 283, Value.str (Str.ofString "fws") 284, Value.str (Str.ofString "string") 285, Value.str (Str.ofString "ch") 286, Value.str (Str.ofString "i") 287, Value.str (Str.ofString "prevpart") 288, Value.str (Str.ofString "part") 289, Value.str (Str.ofString "remainder") 290] }
noncomputable def x89 : Params → Obj := fun P => { cls := Value.none, data := Data.func { name := Str.ofString "_append_chunk", qualname := Str.ofString "_ValueFormatter._append_chunk", params := fnArgs (met 4 8), body := FuncBody.stmts (fnBody (met 4 8)), scope := fnScope (met 4 8), globals := 0, closure := [], defaults := Value.none, kwdefaults := Value.none } }
noncomputable def x90 : Params → Obj := fun P => { cls := Value.type "code", data := Data.fields #[Value.str (Str.ofString "_append_chunk") 280, Value.str (Str.ofString "_ValueFormatter._append_chunk") 281, Value.str (Str.ofString "/claim/cut.py") 282, Value.int 47 0, Value.int 3 0, Value.int 0 0, Value.int 0 0, Value.int 3 0, Value.ref 85, Value.bool true, Value.int 181 0, Value.ref 86, Value.none, Value.ref 87, Value.ref 88, Value.ref 89, Value.int 291 0, Value.int 47 0, Value.str (Str.ofString "/claim/cut.py") 292] }
noncomputable def x91 : Params → Obj := fun P => { cls := Value.type "function", data := Data.func { name := Str.ofString "_append_chunk", qualname := Str.ofString "_ValueFormatter._append_chunk", params := fnArgs (met 4 8), body := FuncBody.stmts (fnBody (met 4 8)), scope := fnScope (met 4 8), globals := 3, closure := [], defaults := Value.none, kwdefaults := Value.none, pyModule := Value.str (Str.ofString "cpy313.email.header") 194, code := Value.ref 90 } }
noncomputable def x92 : Params → Obj := fun P => { cls := Value.type "tuple", data := Data.seq #[Value.str (Str.ofString "_continuation_ws") 294, Value.str (Str.ofString "_continuation_ws_len") 295, Value.str (Str.ofString "_current_line") 296, Value.str (Str.ofString "_lines") 297, Value.str (Str.ofString "_maxlen") 298, Value.str (Str.ofString "_splitchars") 299] }
noncomputable def x93 : Params → Obj := fun P => { cls := Value.type "dict", data := Data.dict #[{ hash := PyData.keyHash P (Str.ofString "__module__"), key := Value.str (Str.ofString "__module__") 207, val := Value.str (Str.ofString "cpy313.email.header") 194 }, { hash := PyData.keyHash P (Str.ofString "__firstlineno__"), key := Value.str (Str.ofString "__firstlineno__") 211, val := Value.int 7 210 }, { hash := PyData.keyHash P (Str.ofString "__init__"), key := Value.str (Str.ofString "__init__") 222, val := Value.ref 35 }, { hash := PyData.keyHash P (Str.ofString "_str"), key := Value.str (Str.ofString "_str") 230, val := Value.ref 42 }, { hash := PyData.keyHash P (Str.ofString "__str__"), key := Value.str (Str.ofString "__str__") 237, val := Value.ref 49 }, { hash := PyData.keyHash P (Str.ofString "newline"), key := Value.str (Str.ofString "newline") 245, val := Value.ref 56 }, { hash := PyData.keyHash P (Str.ofString "add_transition"), key := Value.str (Str.ofString "add_transition") 252, val := Value.ref 63 }, { hash := PyData.keyHash P (Str.ofString "feed"), key := Value.str (Str.ofString "feed") 262, val := Value.ref 70 }, { hash := PyData.keyHash P (Str.ofString "_maxlengths"), key := Value.str (Str.ofString "_maxlengths") 269, val := Value.ref 77 }, { hash := PyData.keyHash P (Str.ofString "_ascii_split"), key := Value.str (Str.ofString "_ascii_split") 279, val := Value.ref 84 }, { hash := PyData.keyHash P (Str.ofString "_append_chunk"), key := Value.str (Str.ofString "_append_chunk") 293, val := Value.ref 91 }, { hash := PyData.keyHash P (Str.ofString "__static_attributes__"), key := Value.str (Str.ofString "__static_attributes__") 300, val := Value.ref 92 }, { hash := PyData.keyHash P (Str.ofString "__dict__"), key := Value.str (Str.ofString "__dict__") 302, val := Value.ref 95 }, { hash := PyData.keyHash P (Str.ofString "__weakref__"), key := Value.str (Str.ofString "__weakref__") 304, val := Value.ref 96 }, { hash := PyData.keyHash P (Str.ofString "__doc__"), key := Value.str (Str.ofString "__doc__") 305, val := Value.none }] 4 }
noncomputable def x94 : Params → Obj := fun P => { cls := Value.type "type", data := Data.cls { name := Str.ofString "_ValueFormatter", bases := [Value.type "object"], mro := [Value.ref 94, Value.type "object"], ns := 93, qualname := Str.ofString "_ValueFormatter" }, slots := #[none, none, some (Value.str (Str.ofString "_ValueFormatter") 200), some (Value.str (Str.ofString "_ValueFormatter") 208), some (Value.builtin "object.__new__"), some (Value.bool true)] }
noncomputable def x95 : Params → Obj := fun P => { cls := Value.type "getset_descriptor", data := Data.fields #[Value.str (Str.ofString "__dict__") 301, Value.ref 94, Value.builtin "function.__dict__", Value.builtin "function.__dict__#set"] }
noncomputable def x96 : Params → Obj := fun P => { cls := Value.type "getset_descriptor", data := Data.fields #[Value.str (Str.ofString "__weakref__") 303, Value.ref 94, Value.builtin "ExceptionGroup.__weakref__", Value.none] }
noncomputable def x97 : Params → Obj := fun P => { cls := Value.type "super", data := Data.fields #[Value.ref 94, Value.ref 94, Value.ref 94] }
noncomputable def x98 : Params → Obj := fun P => { cls := Value.type "builtin_function_or_method", data := Data.fields #[Value.builtin "object.__init_subclass__", Value.ref 94] }
noncomputable def x3_1 : Params → Obj := fun P => { cls := Value.type "dict", data := Data.dict #[{ hash := PyData.keyHash P (Str.ofString "__name__"), key := Value.str (Str.ofString "__name__") 165, val := Value.str (Str.ofString "cpy313.email.header") 194 }, { hash := PyData.keyHash P (Str.ofString "__doc__"), key := Value.str (Str.ofString "__doc__") 166, val := Value.none }, { hash := PyData.keyHash P (Str.ofString "__package__"), key := Value.str (Str.ofString "__package__") 167, val := Value.none }, { hash := PyData.keyHash P (Str.ofString "__loader__"), key := Value.str (Str.ofString "__loader__") 168, val := Value.builtin "__main__.__loader__#opaque" }, { hash := PyData.keyHash P (Str.ofString "__spec__"), key := Value.str (Str.ofString "__spec__") 169, val := Value.none }, { hash := PyData.keyHash P (Str.ofString "__annotations__"), key := Value.str (Str.ofString "__annotations__") 170, val := Value.ref 6 }, { hash := PyData.keyHash P (Str.ofString "__builtins__"), key := Value.str (Str.ofString "__builtins__") 171, val := Value.ref 4 }, { hash := PyData.keyHash P (Str.ofString "__file__"), key := Value.str (Str.ofString "__file__") 173, val := Value.str (Str.ofString "/claim/cut.py") 172 }, { hash := PyData.keyHash P (Str.ofString "__cached__"), key := Value.str (Str.ofString "__cached__") 174, val := Value.none }, { hash := PyData.keyHash P (Str.ofString "_wall"), key := Value.str (Str.ofString "_wall") 193, val := Value.ref 21 }, { hash := PyData.keyHash P (Str.ofString "NL"), key := Value.str (Str.ofString "NL") 197, val := Value.str (Str.ofString "\n") 196 }, { hash := PyData.keyHash P (Str.ofString "EMPTYSTRING"), key := Value.str (Str.ofString "EMPTYSTRING") 199, val := Value.str (Str.ofString "") 198 }, { hash := PyData.keyHash P (Str.ofString "_ValueFormatter"), key := Value.str (Str.ofString "_ValueFormatter") 307, val := Value.ref 94 }, { hash := PyData.keyHash P (Str.ofString "_Accumulator"), key := Value.str (Str.ofString "_Accumulator") 403, val := Value.ref 178 }] 14 }
noncomputable def x12_2 : Params → Obj := fun P => { cls := Value.none, data := Data.fields #[Value.int 1 0, Value.int 0 0, Value.ref 20, Value.int 7 0, Value.int 0 0, Value.ref 27, Value.int 73 0, Value.int 0 0, Value.ref 105] }
noncomputable def x99 : Params → Obj := fun P => { cls := Value.type "tuple", data := Data.seq #[Value.type "list"] }
noncomputable def x101 : Params → Obj := fun P => { cls := Value.type "dict", data := Data.dict #[{ hash := PyData.keyHash P (Str.ofString "__module__"), key := Value.str (Str.ofString "__module__") 315, val := Value.str (Str.ofString "cpy313.email.header") 194 }, { hash := PyData.keyHash P (Str.ofString "__qualname__"), key := Value.str (Str.ofString "__qualname__") 317, val := Value.str (Str.ofString "_Accumulator") 316 }, { hash := PyData.keyHash P (Str.ofString "__firstlineno__"), key := Value.str (Str.ofString "__firstlineno__") 319, val := Value.int 73 318 }, { hash := PyData.keyHash P (Str.ofString "__init__"), key := Value.str (Str.ofString "__init__") 329, val := Value.ref 115 }, { hash := PyData.keyHash P (Str.ofString "push"), key := Value.str (Str.ofString "push") 338, val := Value.ref 122 }, { hash := PyData.keyHash P (Str.ofString "pop_from"), key := Value.str (Str.ofString "pop_from") 348, val := Value.ref 130 }, { hash := PyData.keyHash P (Str.ofString "pop"), key := Value.str (Str.ofString "pop") 356, val := Value.ref 138 }, { hash := PyData.keyHash P (Str.ofString "__len__"), key := Value.str (Str.ofString "__len__") 363, val := Value.ref 145 }, { hash := PyData.keyHash P (Str.ofString "__str__"), key := Value.str (Str.ofString "__str__") 370, val := Value.ref 152 }, { hash := PyData.keyHash P (Str.ofString "reset"), key := Value.str (Str.ofString "reset") 378, val := Value.ref 160 }, { hash := PyData.keyHash P (Str.ofString "is_onlyws"), key := Value.str (Str.ofString "is_onlyws") 385, val := Value.ref 167 }, { hash := PyData.keyHash P (Str.ofString "part_count"), key := Value.str (Str.ofString "part_count") 393, val := Value.ref 175 }, { hash := PyData.keyHash P (Str.ofString "__static_attributes__"), key := Value.str (Str.ofString "__static_attributes__") 395, val := Value.ref 176 }, { hash := PyData.keyHash P (Str.ofString "__classcell__"), key := Value.str (Str.ofString "__classcell__") 396, val := Value.ref 102 }] 14 }
noncomputable def x102 : Params → Obj := fun P => { cls := Value.type "cell", data := Data.cell (some (Value.ref 178)) }
noncomputable def x104 : Params → Obj := fun P => { cls := Value.none, data := Data.fields #[Value.int 75 0, Value.int 4 0, Value.ref 114, Value.int 79 0, Value.int 4 0, Value.ref 121, Value.int 82 0, Value.int 4 0, Value.ref 129, Value.int 87 0, Value.int 4 0, Value.ref 137, Value.int 92 0, Value.int 4 0, Value.ref 144, Value.int 95 0, Value.int 4 0, Value.ref 151, Value.int 98 0, Value.int 4 0, Value.ref 159, Value.int 104 0, Value.int 4 0, Value.ref 166, Value.int 107 0, Value.int 4 0, Value.ref 174] }
noncomputable def x105 : Params → Obj := fun P => { cls := Value.type "code", data := Data.fields #[Value.str (Str.ofString "_Accumulator") 310, Value.str (Str.ofString "_Accumulator") 311, Value.str (Str.ofString "/claim/cut.py") 312, Value.int 73 0, Value.int 0 0, Value.int 0 0, Value.int 0 0, Value.int 0 0, Value.ref 103, Value.bool false, Value.int 181 0, Value.ref 104, Value.none, Value.none, Value.none, Value.none, Value.int 313 0, Value.int 73 0, Value.str (Str.ofString "/claim/cut.py") 314] }
noncomputable def x106 : Params → Obj := fun P => { cls := Value.type "frame", slots := #[some (Value.ref 105), some (Value.ref 3), some (Value.ref 101), none, some (Value.str (Str.ofString "cpy313.email.header") 194), none, some (Value.ref 0)] }
noncomputable def x107 : Params → Obj := fun P => { cls := Value.type "tuple", data := Data.seq #[Value.int 0 320] }
noncomputable def x108 : Params → Obj := fun P => { cls := Value.type "tuple", data := Data.seq #[Value.ref 102] }
noncomputable def x109 : Params → Obj := fun P => { cls := Value.type "tuple", data := Data.seq #[Value.str (Str.ofString "__class__") 324] }
noncomputable def x111 : Params → Obj := fun P => { cls := Value.type "tuple", data := Data.seq #[Value.str (Str.ofString "self") 325, Value.str (Str.ofString "initial_size") 326] }
noncomputable def x113 : Params → Obj := fun P => { cls := Value.none, data := Data.func { name := Str.ofString "__init__", qualname := Str.ofString "_Accumulator.__init__", params := fnArgs (met 5 0), body := FuncBody.stmts (fnBody (met 5 0)), scope := fnScope (met 5 0), globals := 0, closure := [], defaults := Value.none, kwdefaults := Value.none } }
noncomputable def x114 : Params → Obj := fun P => { cls := Value.type "code", data := Data.fields #[Value.str (Str.ofString "__init__") 321, Value.str (Str.ofString "_Accumulator.__init__") 322, Value.str (Str.ofString "/claim/cut.py") 323, Value.int 75 0, Value.int 2 0, Value.int 0 0, Value.int 0 0, Value.int 3 0, Value.ref 109, Value.bool true, Value.int 181 0, Value.ref 110, Value.none, Value.ref 111, Value.ref 112, Value.ref 113, Value.int 327 0, Value.int 75 0, Value.str (Str.ofString "/claim/cut.py") 328] }
noncomputable def x115 : Params → Obj := fun P => { cls := Value.type "function", data := Data.func { name := Str.ofString "__init__", qualname := Str.ofString "_Accumulator.__init__", params := fnArgs (met 5 0), body := FuncBody.stmts (fnBody (met 5 0)), scope := fnScope (met 5 0), globals := 3, closure := [(Str.ofString "__class__", 102)], defaults := Value.ref 107, kwdefaults := Value.none, pyModule := Value.str (Str.ofString "cpy313.email.header") 194, code := Value.ref 114, closureTuple := Value.ref 108 } }
noncomputable def x118 : Params → Obj := fun P => { cls := Value.type "tuple", data := Data.seq #[Value.str (Str.ofString "self") 333, Value.str (Str.ofString "fws") 334, Value.str (Str.ofString "string") 335] }
noncomputable def x120 : Params → Obj := fun P => { cls := Value.none, data := Data.func { name := Str.ofString "push", qualname := Str.ofString "_Accumulator.push", params := fnArgs (met 5 1), body := FuncBody.stmts (fnBody (met 5 1)), scope := fnScope (met 5 1), globals := 0, closure := [], defaults := Value.none, kwdefaults := Value.none } }
noncomputable def x121 : Params → Obj := fun P => { cls := Value.type "code", data := Data.fields #[Value.str (Str.ofString "push") 330, Value.str (Str.ofString "_Accumulator.push") 331, Value.str (Str.ofString "/claim/cut.py") 332, Value.int 79 0, Value.int 3 0, Value.int 0 0, Value.int 0 0, Value.int 3 0, Value.ref 116, Value.bool true, Value.int 181 0, Value.ref 117, Value.none, Value.ref 118, Value.ref 119, Value.ref 120, Value.int 336 0, Value.int 79 0, Value.str (Str.ofString "/claim/cut.py") 337] }
noncomputable def x122 : Params → Obj := fun P => { cls := Value.type "function", data := Data.func { name := Str.ofString "push", qualname := Str.ofString "_Accumulator.push", params := fnArgs (met 5 1), body := FuncBody.stmts (fnBody (met 5 1)), scope := fnScope (met 5 1), globals := 3, closure := [], defaults := Value.none, kwdefaults := Value.none, pyModule := Value.str (Str.ofString "cpy313.email.header") 194, code := Value.ref 121 } }
noncomputable def x123 : Params → Obj := fun P => { cls := Value.type "tuple", data := Data.seq #[Value.int 0 339] }
noncomputable def x126 : Params → Obj := fun P => { cls := Value.type "tuple", data := Data.seq #[Value.str (Str.ofString "self") 343, Value.str (Str.ofString "i") 344, Value.str (Str.ofString "popped") 345] }
noncomputable def x128 : Params → Obj := fun P => { cls := Value.none, data := Data.func { name := Str.ofString "pop_from", qualname := Str.ofString "_Accumulator.pop_from", params := fnArgs (met 5 2), body := FuncBody.stmts (fnBody (met 5 2)), scope := fnScope (met 5 2), globals := 0, closure := [], defaults := Value.none, kwdefaults := Value.none } }
noncomputable def x129 : Params → Obj := fun P => { cls := Value.type "code", data := Data.fields #[Value.str (Str.ofString "pop_from") 340, Value.str (Str.ofString "_Accumulator.pop_from") 341, Value.str (Str.ofString "/claim/cut.py") 342, Value.int 82 0, Value.int 2 0, Value.int 0 0, Value.int 0 0, Value.int 3 0, Value.ref 124, Value.bool true, Value.int 181 0, Value.ref 125, Value.none, Value.ref 126, Value.ref 127, Value.ref 128, Value.int 346 0, Value.int 82 0, Value.str (Str.ofString "/claim/cut.py") 347] }
noncomputable def x130 : Params → Obj := fun P => { cls := Value.type "function", data := Data.func { name := Str.ofString "pop_from", qualname := Str.ofString "_Accumulator.pop_from", params := fnArgs (met 5 2), body := FuncBody.stmts (fnBody (met 5 2)), scope := fnScope (met 5 2), globals := 3, closure := [], defaults := Value.ref 123, kwdefaults := Value.none, pyModule := Value.str (Str.ofString "cpy313.email.header") 194, code := Value.ref 129 } }
noncomputable def x132 : Params → Obj := fun P => { cls := Value.type "tuple", data := Data.seq #[Value.str (Str.ofString "__class__") 352] }
noncomputable def x134 : Params → Obj := fun P => { cls := Value.type "tuple", data := Data.seq #[Value.str (Str.ofString "self") 353] }
noncomputable def x136 : Params → Obj := fun P => { cls := Value.none, data := Data.func { name := Str.ofString "pop", qualname := Str.ofString "_Accumulator.pop", params := fnArgs (met 5 3), body := FuncBody.stmts (fnBody (met 5 3)), scope := fnScope (met 5 3), globals := 0, closure := [], defaults := Value.none, kwdefaults := Value.none } }
noncomputable def x137 : Params → Obj := fun P => { cls := Value.type "code", data := Data.fields #[Value.str (Str.ofString "pop") 349, Value.str (Str.ofString "_Accumulator.pop") 350, Value.str (Str.ofString "/claim/cut.py") 351, Value.int 87 0, Value.int 1 0, Value.int 0 0, Value.int 0 0, Value.int 3 0, Value.ref 132, Value.bool true, Value.int 181 0, Value.ref 133, Value.none, Value.ref 134, Value.ref 135, Value.ref 136, Value.int 354 0, Value.int 87 0, Value.str (Str.ofString "/claim/cut.py") 355] }
noncomputable def x138 : Params → Obj := fun P => { cls := Value.type "function", data := Data.func { name := Str.ofString "pop", qualname := Str.ofString "_Accumulator.pop", params := fnArgs (met 5 3), body := FuncBody.stmts (fnBody (met 5 3)), scope := fnScope (met 5 3), globals := 3, closure := [(Str.ofString "__class__", 102)], defaults := Value.none, kwdefaults := Value.none, pyModule := Value.str (Str.ofString "cpy313.email.header") 194, code := Value.ref 137, closureTuple := Value.ref 131 } }
noncomputable def x141 : Params → Obj := fun P => { cls := Value.type "tuple", data := Data.seq #[Value.str (Str.ofString "self") 360] }
noncomputable def x143 : Params → Obj := fun P => { cls := Value.none, data := Data.func { name := Str.ofString "__len__", qualname := Str.ofString "_Accumulator.__len__", params := fnArgs (met 5 4), body := FuncBody.stmts (fnBody (met 5 4)), scope := fnScope (met 5 4), globals := 0, closure := [], defaults := Value.none, kwdefaults := Value.none } }
noncomputable def x144 : Params → Obj := fun P => { cls := Value.type "code", data := Data.fields #[Value.str (Str.ofString "__len__") 357, Value.str (Str.ofString "_Accumulator.__len__") 358, Value.str (Str.ofString "/claim/cut.py") 359, Value.int 92 0, Value.int 1 0, Value.int 0 0, Value.int 0 0, Value.int 3 0, Value.ref 139, Value.bool true, Value.int 181 0, Value.ref 140, Value.none, Value.ref 141, Value.ref 142, Value.ref 143, Value.int 361 0, Value.int 92 0, Value.str (Str.ofString "/claim/cut.py") 362] }
noncomputable def x145 : Params → Obj := fun P => { cls := Value.type "function", data := Data.func { name := Str.ofString "__len__", qualname := Str.ofString "_Accumulator.__len__", params := fnArgs (met 5 4), body := FuncBody.stmts (fnBody (met 5 4)), scope := fnScope (met 5 4), globals := 3, closure := [], defaults := Value.none, kwdefaults := Value.none, pyModule := Value.str (Str.ofString "cpy313.email.header") 194, code := Value.ref 144 } }
noncomputable def x148 : Params → Obj := fun P => { cls := Value.type "tuple", data := Data.seq #[Value.str (Str.ofString "self") 367] }
noncomputable def x150 : Params → Obj := fun P => { cls := Value.none, data := Data.func { name := Str.ofString "__str__", qualname := Str.ofString "_Accumulator.__str__", params := fnArgs (met 5 5), body := FuncBody.stmts (fnBody (met 5 5)), scope := fnScope (met 5 5), globals := 0, closure := [], defaults := Value.none, kwdefaults := Value.none } }
noncomputable def x151 : Params → Obj := fun P => { cls := Value.type "code", data := Data.fields #[Value.str (Str.ofString "__str__") 364, Value.str (Str.ofString "_Accumulator.__str__") 365, Value.str (Str.ofString "/claim/cut.py") 366, Value.int 95 0, Value.int 1 0, Value.int 0 0, Value.int 0 0, Value.int 3 0, Value.ref 146, Value.bool true, Value.int 181 0, Value.ref 147, Value.none, Value.ref 148, Value.ref 149, Value.ref 150, Value.int 368 0, Value.int 95 0, Value.str (Str.ofString "/claim/cut.py") 369] }
noncomputable def x152 : Params → Obj := fun P => { cls := Value.type "function", data := Data.func { name := Str.ofString "__str__", qualname := Str.ofString "_Accumulator.__str__", params := fnArgs (met 5 5), body := FuncBody.stmts (fnBody (met 5 5)), scope := fnScope (met 5 5), globals := 3, closure := [], defaults := Value.none, kwdefaults := Value.none, pyModule := Value.str (Str.ofString "cpy313.email.header") 194, code := Value.ref 151 } }
noncomputable def x153 : Params → Obj := fun P => { cls := Value.type "tuple", data := Data.seq #[Value.none] }
noncomputable def x156 : Params → Obj := fun P => { cls := Value.type "tuple", data := Data.seq #[Value.str (Str.ofString "self") 374, Value.str (Str.ofString "startval") 375] }
noncomputable def x158 : Params → Obj := fun P => { cls := Value.none, data := Data.func { name := Str.ofString "reset", qualname := Str.ofString "_Accumulator.reset", params := fnArgs (met 5 6), body := FuncBody.stmts (fnBody (met 5 6)), scope := fnScope (met 5 6), globals := 0, closure := [], defaults := Value.none, kwdefaults := Value.none } }
noncomputable def x159 : Params → Obj := fun P => { cls := Value.type "code", data := Data.fields #[Value.str (Str.ofString "reset") 371, Value.str (Str.ofString "_Accumulator.reset") 372, Value.str (Str.ofString "/claim/cut.py") 373, Value.int 98 0, Value.int 2 0, Value.int 0 0, Value.int 0 0, Value.int 3 0, Value.ref 154, Value.bool true, Value.int 181 0, Value.ref 155, Value.none, Value.ref 156, Value.ref 157, Value.ref 158, Value.int 376 0, Value.int 98 0, Value.str (Str.ofString "/claim/cut.py") 377] }
noncomputable def x160 : Params → Obj := fun P => { cls := Value.type "function", data := Data.func { name := Str.ofString "reset", qualname := Str.ofString "_Accumulator.reset", params := fnArgs (met 5 6), body := FuncBody.stmts (fnBody (met 5 6)), scope := fnScope (met 5 6), globals := 3, closure := [], defaults := Value.ref 153, kwdefaults := Value.none, pyModule := Value.str (Str.ofString "cpy313.email.header") 194, code := Value.ref 159 } }
noncomputable def x163 : Params → Obj := fun P => { cls := Value.type "tuple", data := Data.seq #[Value.str (Str.ofString "self") 382] }
noncomputable def x165 : Params → Obj := fun P => { cls := Value.none, data := Data.func { name := Str.ofString "is_onlyws", qualname := Str.ofString "_Accumulator.is_onlyws", params := fnArgs (met 5 7), body := FuncBody.stmts (fnBody (met 5 7)), scope := fnScope (met 5 7), globals := 0, closure := [], defaults := Value.none, kwdefaults := Value.none } }
noncomputable def x166 : Params → Obj := fun P => { cls := Value.type "code", data := Data.fields #[Value.str (Str.ofString "is_onlyws") 379, Value.str (Str.ofString "_Accumulator.is_onlyws") 380, Value.str (Str.ofString "/claim/cut.py") 381, Value.int 104 0, Value.int 1 0, Value.int 0 0, Value.int 0 0, Value.int 3 0, Value.ref 161, Value.bool true, Value.int 181 0, Value.ref 162, Value.none, Value.ref 163, Value.ref 164, Value.ref 165, Value.int 383 0, Value.int 104 0, Value.str (Str.ofString "/claim/cut.py") 384] }
noncomputable def x167 : Params → Obj := fun P => { cls := Value.type "function", data := Data.func { name := Str.ofString "is_onlyws", qualname := Str.ofString "_Accumulator.is_onlyws", params := fnArgs (met 5 7), body := FuncBody.stmts (fnBody (met 5 7)), scope := fnScope (met 5 7), globals := 3, closure := [], defaults := Value.none, kwdefaults := Value.none, pyModule := Value.str (Str.ofString "cpy313.email.header") 194, code := Value.ref 166 } }
noncomputable def x169 : Params → Obj := fun P => { cls := Value.type "tuple", data := Data.seq #[Value.str (Str.ofString "__class__") 389] }
noncomputable def x171 : Params → Obj := fun P => { cls := Value.type "tuple", data := Data.seq #[Value.str (Str.ofString "self") 390] }
noncomputable def x173 : Params → Obj := fun P => { cls := Value.none, data := Data.func { name := Str.ofString "part_count", qualname := Str.ofString "_Accumulator.part_count", params := fnArgs (met 5 8), body := FuncBody.stmts (fnBody (met 5 8)), scope := fnScope (met 5 8), globals := 0, closure := [], defaults := Value.none, kwdefaults := Value.none } }
noncomputable def x174 : Params → Obj := fun P => { cls := Value.type "code", data := Data.fields #[Value.str (Str.ofString "part_count") 386, Value.str (Str.ofString "_Accumulator.part_count") 387, Value.str (Str.ofString "/claim/cut.py") 388, Value.int 107 0, Value.int 1 0, Value.int 0 0, Value.int 0 0, Value.int 3 0, Value.ref 169, Value.bool true, Value.int 181 0, Value.ref 170, Value.none, Value.ref 171, Value.ref 172, Value.ref 173, Value.int 391 0, Value.int 107 0, Value.str (Str.ofString "/claim/cut.py") 392] }
noncomputable def x175 : Params → Obj := fun P => { cls := Value.type "function", data := Data.func { name := Str.ofString "part_count", qualname := Str.ofString "_Accumulator.part_count", params := fnArgs (met 5 8), body := FuncBody.stmts (fnBody (met 5 8)), scope := fnScope (met 5 8), globals := 3, closure := [(Str.ofString "__class__", 102)], defaults := Value.none, kwdefaults := Value.none, pyModule := Value.str (Str.ofString "cpy313.email.header") 194, code := Value.ref 174, closureTuple := Value.ref 168 } }
noncomputable def x176 : Params → Obj := fun P => { cls := Value.type "tuple", data := Data.seq #[Value.str (Str.ofString "_initial_size") 394] }
noncomputable def x177 : Params → Obj := fun P => { cls := Value.type "dict", data := Data.dict #[{ hash := PyData.keyHash P (Str.ofString "__module__"), key := Value.str (Str.ofString "__module__") 315, val := Value.str (Str.ofString "cpy313.email.header") 194 }, { hash := PyData.keyHash P (Str.ofString "__firstlineno__"), key := Value.str (Str.ofString "__firstlineno__") 319, val := Value.int 73 318 }, { hash := PyData.keyHash P (Str.ofString "__init__"), key := Value.str (Str.ofString "__init__") 329, val := Value.ref 115 }, { hash := PyData.keyHash P (Str.ofString "push"), key := Value.str (Str.ofString "push") 338, val := Value.ref 122 }, { hash := PyData.keyHash P (Str.ofString "pop_from"), key := Value.str (Str.ofString "pop_from") 348, val := Value.ref 130 }, { hash := PyData.keyHash P (Str.ofString "pop"), key := Value.str (Str.ofString "pop") 356, val := Value.ref 138 }, { hash := PyData.keyHash P (Str.ofString "__len__"), key := Value.str (Str.ofString "__len__") 363, val := Value.ref 145 }, { hash := PyData.keyHash P (Str.ofString "__str__"), key := Value.str (Str.ofString "__str__") 370, val := Value.ref 152 }, { hash := PyData.keyHash P (Str.ofString "reset"), key := Value.str (Str.ofString "reset") 378, val := Value.ref 160 }, { hash := PyData.keyHash P (Str.ofString "is_onlyws"), key := Value.str (Str.ofString "is_onlyws") 385, val := Value.ref 167 }, { hash := PyData.keyHash P (Str.ofString "part_count"), key := Value.str (Str.ofString "part_count") 393, val := Value.ref 175 }, { hash := PyData.keyHash P (Str.ofString "__static_attributes__"), key := Value.str (Str.ofString "__static_attributes__") 395, val := Value.ref 176 }, { hash := PyData.keyHash P (Str.ofString "__dict__"), key := Value.str (Str.ofString "__dict__") 398, val := Value.ref 179 }, { hash := PyData.keyHash P (Str.ofString "__weakref__"), key := Value.str (Str.ofString "__weakref__") 400, val := Value.ref 180 }, { hash := PyData.keyHash P (Str.ofString "__doc__"), key := Value.str (Str.ofString "__doc__") 401, val := Value.none }] 5 }
noncomputable def x178 : Params → Obj := fun P => { cls := Value.type "type", data := Data.cls { name := Str.ofString "_Accumulator", bases := [Value.type "list"], mro := [Value.ref 178, Value.type "list", Value.type "object"], ns := 177, qualname := Str.ofString "_Accumulator" }, slots := #[some (Value.ref 99), none, some (Value.str (Str.ofString "_Accumulator") 308), some (Value.str (Str.ofString "_Accumulator") 316), some (Value.builtin "list.__new__"), some (Value.bool true)] }
noncomputable def x179 : Params → Obj := fun P => { cls := Value.type "getset_descriptor", data := Data.fields #[Value.str (Str.ofString "__dict__") 397, Value.ref 178, Value.builtin "function.__dict__", Value.builtin "function.__dict__#set"] }
noncomputable def x180 : Params → Obj := fun P => { cls := Value.type "getset_descriptor", data := Data.fields #[Value.str (Str.ofString "__weakref__") 399, Value.ref 178, Value.builtin "ExceptionGroup.__weakref__", Value.none] }
noncomputable def x181 : Params → Obj := fun P => { cls := Value.type "super", data := Data.fields #[Value.ref 178, Value.ref 178, Value.ref 178] }
noncomputable def x182 : Params → Obj := fun P => { cls := Value.type "builtin_function_or_method", data := Data.fields #[Value.builtin "object.__init_subclass__", Value.ref 178] }
noncomputable def x3_2 : Params → Obj := fun P => { cls := Value.type "dict", data := Data.dict #[{ hash := PyData.keyHash P (Str.ofString "__name__"), key := Value.str (Str.ofString "__name__") 165, val := Value.str (Str.ofString "law_nb0260_01") 486 }, { hash := PyData.keyHash P (Str.ofString "__doc__"), key := Value.str (Str.ofString "__doc__") 166, val := Value.none }, { hash := PyData.keyHash P (Str.ofString "__package__"), key := Value.str (Str.ofString "__package__") 167, val := Value.none }, { hash := PyData.keyHash P (Str.ofString "__loader__"), key := Value.str (Str.ofString "__loader__") 168, val := Value.builtin "__main__.__loader__#opaque" }, { hash := PyData.keyHash P (Str.ofString "__spec__"), key := Value.str (Str.ofString "__spec__") 169, val := Value.none }, { hash := PyData.keyHash P (Str.ofString "__annotations__"), key := Value.str (Str.ofString "__annotations__") 170, val := Value.ref 6 }, { hash := PyData.keyHash P (Str.ofString "__builtins__"), key := Value.str (Str.ofString "__builtins__") 171, val := Value.ref 4 }, { hash := PyData.keyHash P (Str.ofString "__file__"), key := Value.str (Str.ofString "__file__") 173, val := Value.str (Str.ofString "/claim/cut.py") 172 }, { hash := PyData.keyHash P (Str.ofString "__cached__"), key := Value.str (Str.ofString "__cached__") 174, val := Value.none }, { hash := PyData.keyHash P (Str.ofString "_wall"), key := Value.str (Str.ofString "_wall") 193, val := Value.ref 21 }, { hash := PyData.keyHash P (Str.ofString "NL"), key := Value.str (Str.ofString "NL") 197, val := Value.str (Str.ofString "\n") 196 }, { hash := PyData.keyHash P (Str.ofString "EMPTYSTRING"), key := Value.str (Str.ofString "EMPTYSTRING") 199, val := Value.str (Str.ofString "") 198 }, { hash := PyData.keyHash P (Str.ofString "_ValueFormatter"), key := Value.str (Str.ofString "_ValueFormatter") 307, val := Value.ref 94 }, { hash := PyData.keyHash P (Str.ofString "_Accumulator"), key := Value.str (Str.ofString "_Accumulator") 403, val := Value.ref 178 }, { hash := PyData.keyHash P (Str.ofString "_DIV_LIMIT"), key := Value.str (Str.ofString "_DIV_LIMIT") 407, val := Value.int 4000 406 }, { hash := PyData.keyHash P (Str.ofString "_div2n1n"), key := Value.str (Str.ofString "_div2n1n") 424, val := Value.ref 189 }, { hash := PyData.keyHash P (Str.ofString "_div3n2n"), key := Value.str (Str.ofString "_div3n2n") 438, val := Value.ref 196 }, { hash := PyData.keyHash P (Str.ofString "_int2digits"), key := Value.str (Str.ofString "_int2digits") 449, val := Value.ref 203 }, { hash := PyData.keyHash P (Str.ofString "_digits2int"), key := Value.str (Str.ofString "_digits2int") 460, val := Value.ref 210 }, { hash := PyData.keyHash P (Str.ofString "_divmod_pos"), key := Value.str (Str.ofString "_divmod_pos") 475, val := Value.ref 217 }, { hash := PyData.keyHash P (Str.ofString "int_divmod"), key := Value.str (Str.ofString "int_divmod") 485, val := Value.ref 224 }, { hash := PyData.keyHash P (Str.ofString "_law_number"), key := Value.str (Str.ofString "_law_number") 493, val := Value.ref 229 }, { hash := PyData.keyHash P (Str.ofString "_law_width"), key := Value.str (Str.ofString "_law_width") 500, val := Value.ref 236 }, { hash := PyData.keyHash P (Str.ofString "_law_wide"), key := Value.str (Str.ofString "_law_wide") 507, val := Value.ref 243 }, { hash := PyData.keyHash P (Str.ofString "_law_head"), key := Value.str (Str.ofString "_law_head") 514, val := Value.ref 250 }, { hash := PyData.keyHash P (Str.ofString "_law_divisor"), key := Value.str (Str.ofString "_law_divisor") 521, val := Value.ref 257 }, { hash := PyData.keyHash P (Str.ofString "_law_word"), key := Value.str (Str.ofString "_law_word") 527, val := Value.ref 262 }, { hash := PyData.keyHash P (Str.ofString "_law_digit"), key := Value.str (Str.ofString "_law_digit") 533, val := Value.ref 267 }, { hash := PyData.keyHash P (Str.ofString "_law_rows"), key := Value.str (Str.ofString "_law_rows") 544, val := Value.ref 274 }, { hash := PyData.keyHash P (Str.ofString "_law_full"), key := Value.str (Str.ofString "_law_full") 550, val := Value.ref 279 }, { hash := PyData.keyHash P (Str.ofString "_law_torn"), key := Value.str (Str.ofString "_law_torn") 562, val := Value.ref 286 }, { hash := PyData.keyHash P (Str.ofString "_law_divided"), key := Value.str (Str.ofString "_law_divided") 576, val := Value.ref 293 }, { hash := PyData.keyHash P (Str.ofString "_law_right"), key := Value.str (Str.ofString "_law_right") 582, val := Value.ref 298 }, { hash := PyData.keyHash P (Str.ofString "law"), key := Value.str (Str.ofString "law") 589, val := Value.ref 305 }] 34 }
noncomputable def x12_3 : Params → Obj := fun P => { cls := Value.none, data := Data.fields #[Value.int 1 0, Value.int 0 0, Value.ref 20, Value.int 7 0, Value.int 0 0, Value.ref 27, Value.int 73 0, Value.int 0 0, Value.ref 105, Value.int 111 0, Value.int 0 0, Value.ref 188, Value.int 127 0, Value.int 0 0, Value.ref 195, Value.int 137 0, Value.int 0 0, Value.ref 202, Value.int 153 0, Value.int 0 0, Value.ref 209, Value.int 162 0, Value.int 0 0, Value.ref 216, Value.int 173 0, Value.int 0 0, Value.ref 223, Value.int 185 0, Value.int 0 0, Value.ref 228, Value.int 190 0, Value.int 0 0, Value.ref 235, Value.int 192 0, Value.int 0 0, Value.ref 242, Value.int 194 0, Value.int 0 0, Value.ref 249, Value.int 196 0, Value.int 0 0, Value.ref 256, Value.int 198 0, Value.int 0 0, Value.ref 261, Value.int 200 0, Value.int 0 0, Value.ref 266, Value.int 202 0, Value.int 0 0, Value.ref 273, Value.int 207 0, Value.int 0 0, Value.ref 278, Value.int 221 0, Value.int 0 0, Value.ref 285, Value.int 228 0, Value.int 0 0, Value.ref 292, Value.int 236 0, Value.int 0 0, Value.ref 297, Value.int 248 0, Value.int 0 0, Value.ref 304] }
noncomputable def x185 : Params → Obj := fun P => { cls := Value.type "tuple", data := Data.seq #[Value.str (Str.ofString "a") 411, Value.str (Str.ofString "b") 412, Value.str (Str.ofString "n") 413, Value.str (Str.ofString "pad") 414, Value.str (Str.ofString "half_n") 415, Value.str (Str.ofString "mask") 416, Value.str (Str.ofString "b1") 417, Value.str (Str.ofString "b2") 418, Value.str (Str.ofString "q1") 419, Value.str (Str.ofString "r") 420, Value.str (Str.ofString "q2") 421] }
noncomputable def x187 : Params → Obj := fun P => { cls := Value.none, data := Data.func { name := Str.ofString "_div2n1n", qualname := Str.ofString "_div2n1n", params := fnArgs (top 8), body := FuncBody.stmts (fnBody (top 8)), scope := fnScope (top 8), globals := 0, closure := [], defaults := Value.none, kwdefaults := Value.none } }
noncomputable def x188 : Params → Obj := fun P => { cls := Value.type "code", data := Data.fields #[Value.str (Str.ofString "_div2n1n") 408, Value.str (Str.ofString "_div2n1n") 409, Value.str (Str.ofString "/claim/cut.py") 410, Value.int 111 0, Value.int 3 0, Value.int 0 0, Value.int 0 0, Value.int 3 0, Value.ref 183, Value.bool true, Value.int 181 0, Value.ref 184, Value.none, Value.ref 185, Value.ref 186, Value.ref 187, Value.int 422 0, Value.int 111 0, Value.str (Str.ofString "/claim/cut.py") 423] }
noncomputable def x189 : Params → Obj := fun P => { cls := Value.type "function", data := Data.func { name := Str.ofString "_div2n1n", qualname := Str.ofString "_div2n1n", params := fnArgs (top 8), body := FuncBody.stmts (fnBody (top 8)), scope := fnScope (top 8), globals := 3, closure := [], defaults := Value.none, kwdefaults := Value.none, pyModule := Value.str (Str.ofString "cpy313._pylong") 404, code := Value.ref 188 } }
noncomputable def x192 : Params → Obj := fun P => { cls := Value.type "tuple", data := Data.seq #[Value.str (Str.ofString "a12") 428, Value.str (Str.ofString "a3") 429, Value.str (Str.ofString "b") 430, Value.str (Str.ofString "b1") 431, Value.str (Str.ofString "b2") 432, Value.str (Str.ofString "n") 433, Value.str (Str.ofString "q") 434, Value.str (Str.ofString "r") 435] }
noncomputable def x194 : Params → Obj := fun P => { cls := Value.none, data := Data.func { name := Str.ofString "_div3n2n", qualname := Str.ofString "_div3n2n", params := fnArgs (top 9), body := FuncBody.stmts (fnBody (top 9)), scope := fnScope (top 9), globals := 0, closure := [], defaults := Value.none, kwdefaults := Value.none } }
noncomputable def x195 : Params → Obj := fun P => { cls := Value.type "code", data := Data.fields #[Value.str (Str.ofString "_div3n2n") 425, Value.str (Str.ofString "_div3n2n") 426, Value.str (Str.ofString "/claim/cut.py") 427, Value.int 127 0, Value.int 6 0, Value.int 0 0, Value.int 0 0, Value.int 3 0, Value.ref 190, Value.bool true, Value.int 181 0, Value.ref 191, Value.none, Value.ref 192, Value.ref 193, Value.ref 194, Value.int 436 0, Value.int 127 0, Value.str (Str.ofString "/claim/cut.py") 437] }
noncomputable def x196 : Params → Obj := fun P => { cls := Value.type "function", data := Data.func { name := Str.ofString "_div3n2n", qualname := Str.ofString "_div3n2n", params := fnArgs (top 9), body := FuncBody.stmts (fnBody (top 9)), scope := fnScope (top 9), globals := 3, closure := [], defaults := Value.none, kwdefaults := Value.none, pyModule := Value.str (Str.ofString "cpy313._pylong") 404, code := Value.ref 195 } }
noncomputable def x199 : Params → Obj := fun P => { cls := Value.type "tuple", data := Data.seq #[Value.str (Str.ofString "a") 442, Value.str (Str.ofString "n") 443] }
noncomputable def x200 : Params → Obj := fun P => { cls := Value.type "tuple", data := Data.seq #[Value.str (Str.ofString "n") 444, Value.str (Str.ofString "a_digits") 445, Value.str (Str.ofString "inner") 446] }
noncomputable def x201 : Params → Obj := fun P => { cls := Value.none, data := Data.func { name := Str.ofString "_int2digits", qualname := Str.ofString "_int2digits", params := fnArgs (top 10), body := FuncBody.stmts (fnBody (top 10)), scope := fnScope (top 10), globals := 0, closure := [], defaults := Value.none, kwdefaults := Value.none } }
noncomputable def x202 : Params → Obj := fun P => { cls := Value.type "code", data := Data.fields #[Value.str (Str.ofString "_int2digits") 439, Value.str (Str.ofString "_int2digits") 440, Value.str (Str.ofString "/claim/cut.py") 441, Value.int 137 0, Value.int 2 0, Value.int 0 0, Value.int 0 0, Value.int 3 0, Value.ref 197, Value.bool true, Value.int 181 0, Value.ref 198, Value.none, Value.ref 199, Value.ref 200, Value.ref 201, Value.int 447 0, Value.int 137 0, Value.str (Str.ofString "/claim/cut.py") 448] }
noncomputable def x203 : Params → Obj := fun P => { cls := Value.type "function", data := Data.func { name := Str.ofString "_int2digits", qualname := Str.ofString "_int2digits", params := fnArgs (top 10), body := FuncBody.stmts (fnBody (top 10)), scope := fnScope (top 10), globals := 3, closure := [], defaults := Value.none, kwdefaults := Value.none, pyModule := Value.str (Str.ofString "cpy313._pylong") 404, code := Value.ref 202 } }
noncomputable def x206 : Params → Obj := fun P => { cls := Value.type "tuple", data := Data.seq #[Value.str (Str.ofString "digits") 453, Value.str (Str.ofString "n") 454] }
noncomputable def x207 : Params → Obj := fun P => { cls := Value.type "tuple", data := Data.seq #[Value.str (Str.ofString "digits") 455, Value.str (Str.ofString "n") 456, Value.str (Str.ofString "inner") 457] }
noncomputable def x208 : Params → Obj := fun P => { cls := Value.none, data := Data.func { name := Str.ofString "_digits2int", qualname := Str.ofString "_digits2int", params := fnArgs (top 11), body := FuncBody.stmts (fnBody (top 11)), scope := fnScope (top 11), globals := 0, closure := [], defaults := Value.none, kwdefaults := Value.none } }
noncomputable def x209 : Params → Obj := fun P => { cls := Value.type "code", data := Data.fields #[Value.str (Str.ofString "_digits2int") 450, Value.str (Str.ofString "_digits2int") 451, Value.str (Str.ofString "/claim/cut.py") 452, Value.int 153 0, Value.int 2 0, Value.int 0 0, Value.int 0 0, Value.int 3 0, Value.ref 204, Value.bool true, Value.int 181 0, Value.ref 205, Value.none, Value.ref 206, Value.ref 207, Value.ref 208, Value.int 458 0, Value.int 153 0, Value.str (Str.ofString "/claim/cut.py") 459] }
noncomputable def x210 : Params → Obj := fun P => { cls := Value.type "function", data := Data.func { name := Str.ofString "_digits2int", qualname := Str.ofString "_digits2int", params := fnArgs (top 11), body := FuncBody.stmts (fnBody (top 11)), scope := fnScope (top 11), globals := 3, closure := [], defaults := Value.none, kwdefaults := Value.none, pyModule := Value.str (Str.ofString "cpy313._pylong") 404, code := Value.ref 209 } }
noncomputable def x213 : Params → Obj := fun P => { cls := Value.type "tuple", data := Data.seq #[Value.str (Str.ofString "a") 464, Value.str (Str.ofString "b") 465, Value.str (Str.ofString "n") 466, Value.str (Str.ofString "a_digits") 467, Value.str (Str.ofString "r") 468, Value.str (Str.ofString "q_digits") 469, Value.str (Str.ofString "a_digit") 470, Value.str (Str.ofString "q_digit") 471, Value.str (Str.ofString "q") 472] }
noncomputable def x215 : Params → Obj := fun P => { cls := Value.none, data := Data.func { name := Str.ofString "_divmod_pos", qualname := Str.ofString "_divmod_pos", params := fnArgs (top 12), body := FuncBody.stmts (fnBody (top 12)), scope := fnScope (top 12), globals := 0, closure := [], defaults := Value.none, kwdefaults := Value.none } }
noncomputable def x216 : Params → Obj := fun P => { cls := Value.type "code", data := Data.fields #[Value.str (Str.ofString "_divmod_pos") 461, Value.str (Str.ofString "_divmod_pos") 462, Value.str (Str.ofString "/claim/cut.py") 463, Value.int 162 0, Value.int 2 0, Value.int 0 0, Value.int 0 0, Value.int 3 0, Value.ref 211, Value.bool true, Value.int 181 0, Value.ref 212, Value.none, Value.ref 213, Value.ref 214, Value.ref 215, Value.int 473 0, Value.int 162 0, Value.str (Str.ofString "/claim/cut.py") 474] }
noncomputable def x217 : Params → Obj := fun P => { cls := Value.type "function", data := Data.func { name := Str.ofString "_divmod_pos", qualname := Str.ofString "_divmod_pos", params := fnArgs (top 12), body := FuncBody.stmts (fnBody (top 12)), scope := fnScope (top 12), globals := 3, closure := [], defaults := Value.none, kwdefaults := Value.none, pyModule := Value.str (Str.ofString "cpy313._pylong") 404, code := Value.ref 216 } }
noncomputable def x220 : Params → Obj := fun P => { cls := Value.type "tuple", data := Data.seq #[Value.str (Str.ofString "a") 479, Value.str (Str.ofString "b") 480, Value.str (Str.ofString "q") 481, Value.str (Str.ofString "r") 482] }
noncomputable def x222 : Params → Obj := fun P => { cls := Value.none, data := Data.func { name := Str.ofString "int_divmod", qualname := Str.ofString "int_divmod", params := fnArgs (top 13), body := FuncBody.stmts (fnBody (top 13)), scope := fnScope (top 13), globals := 0, closure := [], defaults := Value.none, kwdefaults := Value.none } }
noncomputable def x223 : Params → Obj := fun P => { cls := Value.type "code", data := Data.fields #[Value.str (Str.ofString "int_divmod") 476, Value.str (Str.ofString "int_divmod") 477, Value.str (Str.ofString "/claim/cut.py") 478, Value.int 173 0, Value.int 2 0, Value.int 0 0, Value.int 0 0, Value.int 3 0, Value.ref 218, Value.bool true, Value.int 181 0, Value.ref 219, Value.none, Value.ref 220, Value.ref 221, Value.ref 222, Value.int 483 0, Value.int 173 0, Value.str (Str.ofString "/claim/cut.py") 484] }
noncomputable def x224 : Params → Obj := fun P => { cls := Value.type "function", data := Data.func { name := Str.ofString "int_divmod", qualname := Str.ofString "int_divmod", params := fnArgs (top 13), body := FuncBody.stmts (fnBody (top 13)), scope := fnScope (top 13), globals := 3, closure := [], defaults := Value.none, kwdefaults := Value.none, pyModule := Value.str (Str.ofString "cpy313._pylong") 404, code := Value.ref 223 } }
noncomputable def x227 : Params → Obj := fun P => { cls := Value.none, data := Data.func { name := Str.ofString "_law_number", qualname := Str.ofString "_law_number", params := fnArgs (top 15), body := FuncBody.stmts (fnBody (top 15)), scope := fnScope (top 15), globals := 0, closure := [], defaults := Value.none, kwdefaults := Value.none } }
noncomputable def x228 : Params → Obj := fun P => { cls := Value.type "code", data := Data.fields #[Value.str (Str.ofString "_law_number") 488, Value.str (Str.ofString "_law_number") 489, Value.str (Str.ofString "/claim/cut.py") 490, Value.int 185 0, Value.int 1 0, Value.int 0 0, Value.int 0 0, Value.int 3 0, Value.ref 225, Value.bool true, Value.int 181 0, Value.ref 226, Value.none, Value.none, Value.none, Value.ref 227, Value.int 491 0, Value.int 185 0, Value.str (Str.ofString "/claim/cut.py") 492] }
noncomputable def x229 : Params → Obj := fun P => { cls := Value.type "function", data := Data.func { name := Str.ofString "_law_number", qualname := Str.ofString "_law_number", params := fnArgs (top 15), body := FuncBody.stmts (fnBody (top 15)), scope := fnScope (top 15), globals := 3, closure := [], defaults := Value.none, kwdefaults := Value.none, pyModule := Value.str (Str.ofString "law_nb0260_01") 486, code := Value.ref 228 } }
noncomputable def x232 : Params → Obj := fun P => { cls := Value.type "tuple", data := Data.seq #[Value.str (Str.ofString "script") 497] }
noncomputable def x234 : Params → Obj := fun P => { cls := Value.none, data := Data.func { name := Str.ofString "_law_width", qualname := Str.ofString "_law_width", params := fnArgs (top 16), body := FuncBody.stmts (fnBody (top 16)), scope := fnScope (top 16), globals := 0, closure := [], defaults := Value.none, kwdefaults := Value.none } }
noncomputable def x235 : Params → Obj := fun P => { cls := Value.type "code", data := Data.fields #[Value.str (Str.ofString "_law_width") 494, Value.str (Str.ofString "_law_width") 495, Value.str (Str.ofString "/claim/cut.py") 496, Value.int 190 0, Value.int 1 0, Value.int 0 0, Value.int 0 0, Value.int 3 0, Value.ref 230, Value.bool true, Value.int 181 0, Value.ref 231, Value.none, Value.ref 232, Value.ref 233, Value.ref 234, Value.int 498 0, Value.int 190 0, Value.str (Str.ofString "/claim/cut.py") 499] }
noncomputable def x236 : Params → Obj := fun P => { cls := Value.type "function", data := Data.func { name := Str.ofString "_law_width", qualname := Str.ofString "_law_width", params := fnArgs (top 16), body := FuncBody.stmts (fnBody (top 16)), scope := fnScope (top 16), globals := 3, closure := [], defaults := Value.none, kwdefaults := Value.none, pyModule := Value.str (Str.ofString "law_nb0260_01") 486, code := Value.ref 235 } }
noncomputable def x239 : Params → Obj := fun P => { cls := Value.type "tuple", data := Data.seq #[Value.str (Str.ofString "script") 504] }
noncomputable def x241 : Params → Obj := fun P => { cls := Value.none, data := Data.func { name := Str.ofString "_law_wide", qualname := Str.ofString "_law_wide", params := fnArgs (top 17), body := FuncBody.stmts (fnBody (top 17)), scope := fnScope (top 17), globals := 0, closure := [], defaults := Value.none, kwdefaults := Value.none } }
noncomputable def x242 : Params → Obj := fun P => { cls := Value.type "code", data := Data.fields #[Value.str (Str.ofString "_law_wide") 501, Value.str (Str.ofString "_law_wide") 502, Value.str (Str.ofString "/claim/cut.py") 503, Value.int 192 0, Value.int 1 0, Value.int 0 0, Value.int 0 0, Value.int 3 0, Value.ref 237, Value.bool true, Value.int 181 0, Value.ref 238, Value.none, Value.ref 239, Value.ref 240, Value.ref 241, Value.int 505 0, Value.int 192 0, Value.str (Str.ofString "/claim/cut.py") 506] }
noncomputable def x243 : Params → Obj := fun P => { cls := Value.type "function", data := Data.func { name := Str.ofString "_law_wide", qualname := Str.ofString "_law_wide", params := fnArgs (top 17), body := FuncBody.stmts (fnBody (top 17)), scope := fnScope (top 17), globals := 3, closure := [], defaults := Value.none, kwdefaults := Value.none, pyModule := Value.str (Str.ofString "law_nb0260_01") 486, code := Value.ref 242 } }
noncomputable def x246 : Params → Obj := fun P => { cls := Value.type "tuple", data := Data.seq #[Value.str (Str.ofString "script") 511] }
noncomputable def x248 : Params → Obj := fun P => { cls := Value.none, data := Data.func { name := Str.ofString "_law_head", qualname := Str.ofString "_law_head", params := fnArgs (top 18), body := FuncBody.stmts (fnBody (top 18)), scope := fnScope (top 18), globals := 0, closure := [], defaults := Value.none, kwdefaults := Value.none } }
noncomputable def x249 : Params → Obj := fun P => { cls := Value.type "code", data := Data.fields #[Value.str (Str.ofString "_law_head") 508, Value.str (Str.ofString "_law_head") 509, Value.str (Str.ofString "/claim/cut.py") 510, Value.int 194 0, Value.int 1 0, Value.int 0 0, Value.int 0 0, Value.int 3 0, Value.ref 244, Value.bool true, Value.int 181 0, Value.ref 245, Value.none, Value.ref 246, Value.ref 247, Value.ref 248, Value.int 512 0, Value.int 194 0, Value.str (Str.ofString "/claim/cut.py") 513] }
noncomputable def x250 : Params → Obj := fun P => { cls := Value.type "function", data := Data.func { name := Str.ofString "_law_head", qualname := Str.ofString "_law_head", params := fnArgs (top 18), body := FuncBody.stmts (fnBody (top 18)), scope := fnScope (top 18), globals := 3, closure := [], defaults := Value.none, kwdefaults := Value.none, pyModule := Value.str (Str.ofString "law_nb0260_01") 486, code := Value.ref 249 } }
noncomputable def x253 : Params → Obj := fun P => { cls := Value.type "tuple", data := Data.seq #[Value.str (Str.ofString "script") 518] }
noncomputable def x255 : Params → Obj := fun P => { cls := Value.none, data := Data.func { name := Str.ofString "_law_divisor", qualname := Str.ofString "_law_divisor", params := fnArgs (top 19), body := FuncBody.stmts (fnBody (top 19)), scope := fnScope (top 19), globals := 0, closure := [], defaults := Value.none, kwdefaults := Value.none } }
noncomputable def x256 : Params → Obj := fun P => { cls := Value.type "code", data := Data.fields #[Value.str (Str.ofString "_law_divisor") 515, Value.str (Str.ofString "_law_divisor") 516, Value.str (Str.ofString "/claim/cut.py") 517, Value.int 196 0, Value.int 1 0, Value.int 0 0, Value.int 0 0, Value.int 3 0, Value.ref 251, Value.bool true, Value.int 181 0, Value.ref 252, Value.none, Value.ref 253, Value.ref 254, Value.ref 255, Value.int 519 0, Value.int 196 0, Value.str (Str.ofString "/claim/cut.py") 520] }
noncomputable def x257 : Params → Obj := fun P => { cls := Value.type "function", data := Data.func { name := Str.ofString "_law_divisor", qualname := Str.ofString "_law_divisor", params := fnArgs (top 19), body := FuncBody.stmts (fnBody (top 19)), scope := fnScope (top 19), globals := 3, closure := [], defaults := Value.none, kwdefaults := Value.none, pyModule := Value.str (Str.ofString "law_nb0260_01") 486, code := Value.ref 256 } }
noncomputable def x260 : Params → Obj := fun P => { cls := Value.none, data := Data.func { name := Str.ofString "_law_word", qualname := Str.ofString "_law_word", params := fnArgs (top 20), body := FuncBody.stmts (fnBody (top 20)), scope := fnScope (top 20), globals := 0, closure := [], defaults := Value.none, kwdefaults := Value.none } }
noncomputable def x261 : Params → Obj := fun P => { cls := Value.type "code", data := Data.fields #[Value.str (Str.ofString "_law_word") 522, Value.str (Str.ofString "_law_word") 523, Value.str (Str.ofString "/claim/cut.py") 524, Value.int 198 0, Value.int 1 0, Value.int 0 0, Value.int 0 0, Value.int 3 0, Value.ref 258, Value.bool true, Value.int 181 0, Value.ref 259, Value.none, Value.none, Value.none, Value.ref 260, Value.int 525 0, Value.int 198 0, Value.str (Str.ofString "/claim/cut.py") 526] }
noncomputable def x262 : Params → Obj := fun P => { cls := Value.type "function", data := Data.func { name := Str.ofString "_law_word", qualname := Str.ofString "_law_word", params := fnArgs (top 20), body := FuncBody.stmts (fnBody (top 20)), scope := fnScope (top 20), globals := 3, closure := [], defaults := Value.none, kwdefaults := Value.none, pyModule := Value.str (Str.ofString "law_nb0260_01") 486, code := Value.ref 261 } }
noncomputable def x265 : Params → Obj := fun P => { cls := Value.none, data := Data.func { name := Str.ofString "_law_digit", qualname := Str.ofString "_law_digit", params := fnArgs (top 21), body := FuncBody.stmts (fnBody (top 21)), scope := fnScope (top 21), globals := 0, closure := [], defaults := Value.none, kwdefaults := Value.none } }
noncomputable def x266 : Params → Obj := fun P => { cls := Value.type "code", data := Data.fields #[Value.str (Str.ofString "_law_digit") 528, Value.str (Str.ofString "_law_digit") 529, Value.str (Str.ofString "/claim/cut.py") 530, Value.int 200 0, Value.int 1 0, Value.int 0 0, Value.int 0 0, Value.int 3 0, Value.ref 263, Value.bool true, Value.int 181 0, Value.ref 264, Value.none, Value.none, Value.none, Value.ref 265, Value.int 531 0, Value.int 200 0, Value.str (Str.ofString "/claim/cut.py") 532] }
noncomputable def x267 : Params → Obj := fun P => { cls := Value.type "function", data := Data.func { name := Str.ofString "_law_digit", qualname := Str.ofString "_law_digit", params := fnArgs (top 21), body := FuncBody.stmts (fnBody (top 21)), scope := fnScope (top 21), globals := 3, closure := [], defaults := Value.none, kwdefaults := Value.none, pyModule := Value.str (Str.ofString "law_nb0260_01") 486, code := Value.ref 266 } }
noncomputable def x270 : Params → Obj := fun P => { cls := Value.type "tuple", data := Data.seq #[Value.str (Str.ofString "words") 537, Value.str (Str.ofString "wide") 538, Value.str (Str.ofString "head") 539, Value.str (Str.ofString "writer") 540, Value.str (Str.ofString "word") 541] }
noncomputable def x272 : Params → Obj := fun P => { cls := Value.none, data := Data.func { name := Str.ofString "_law_rows", qualname := Str.ofString "_law_rows", params := fnArgs (top 22), body := FuncBody.stmts (fnBody (top 22)), scope := fnScope (top 22), globals := 0, closure := [], defaults := Value.none, kwdefaults := Value.none } }
noncomputable def x273 : Params → Obj := fun P => { cls := Value.type "code", data := Data.fields #[Value.str (Str.ofString "_law_rows") 534, Value.str (Str.ofString "_law_rows") 535, Value.str (Str.ofString "/claim/cut.py") 536, Value.int 202 0, Value.int 3 0, Value.int 0 0, Value.int 0 0, Value.int 3 0, Value.ref 268, Value.bool true, Value.int 181 0, Value.ref 269, Value.none, Value.ref 270, Value.ref 271, Value.ref 272, Value.int 542 0, Value.int 202 0, Value.str (Str.ofString "/claim/cut.py") 543] }
noncomputable def x274 : Params → Obj := fun P => { cls := Value.type "function", data := Data.func { name := Str.ofString "_law_rows", qualname := Str.ofString "_law_rows", params := fnArgs (top 22), body := FuncBody.stmts (fnBody (top 22)), scope := fnScope (top 22), globals := 3, closure := [], defaults := Value.none, kwdefaults := Value.none, pyModule := Value.str (Str.ofString "law_nb0260_01") 486, code := Value.ref 273 } }
noncomputable def x277 : Params → Obj := fun P => { cls := Value.none, data := Data.func { name := Str.ofString "_law_full", qualname := Str.ofString "_law_full", params := fnArgs (top 23), body := FuncBody.stmts (fnBody (top 23)), scope := fnScope (top 23), globals := 0, closure := [], defaults := Value.none, kwdefaults := Value.none } }
noncomputable def x278 : Params → Obj := fun P => { cls := Value.type "code", data := Data.fields #[Value.str (Str.ofString "_law_full") 545, Value.str (Str.ofString "_law_full") 546, Value.str (Str.ofString "/claim/cut.py") 547, Value.int 207 0, Value.int 3 0, Value.int 0 0, Value.int 0 0, Value.int 3 0, Value.ref 275, Value.bool true, Value.int 181 0, Value.ref 276, Value.none, Value.none, Value.none, Value.ref 277, Value.int 548 0, Value.int 207 0, Value.str (Str.ofString "/claim/cut.py") 549] }
noncomputable def x279 : Params → Obj := fun P => { cls := Value.type "function", data := Data.func { name := Str.ofString "_law_full", qualname := Str.ofString "_law_full", params := fnArgs (top 23), body := FuncBody.stmts (fnBody (top 23)), scope := fnScope (top 23), globals := 3, closure := [], defaults := Value.none, kwdefaults := Value.none, pyModule := Value.str (Str.ofString "law_nb0260_01") 486, code := Value.ref 278 } }
noncomputable def x282 : Params → Obj := fun P => { cls := Value.type "tuple", data := Data.seq #[Value.str (Str.ofString "number") 554, Value.str (Str.ofString "read") 555, Value.str (Str.ofString "width") 556, Value.str (Str.ofString "left") 557, Value.str (Str.ofString "digits") 558, Value.str (Str.ofString "part") 559] }
noncomputable def x284 : Params → Obj := fun P => { cls := Value.none, data := Data.func { name := Str.ofString "_law_torn", qualname := Str.ofString "_law_torn", params := fnArgs (top 24), body := FuncBody.stmts (fnBody (top 24)), scope := fnScope (top 24), globals := 0, closure := [], defaults := Value.none, kwdefaults := Value.none } }
noncomputable def x285 : Params → Obj := fun P => { cls := Value.type "code", data := Data.fields #[Value.str (Str.ofString "_law_torn") 551, Value.str (Str.ofString "_law_torn") 552, Value.str (Str.ofString "/claim/cut.py") 553, Value.int 221 0, Value.int 3 0, Value.int 0 0, Value.int 0 0, Value.int 3 0, Value.ref 280, Value.bool true, Value.int 181 0, Value.ref 281, Value.none, Value.ref 282, Value.ref 283, Value.ref 284, Value.int 560 0, Value.int 221 0, Value.str (Str.ofString "/claim/cut.py") 561] }
noncomputable def x286 : Params → Obj := fun P => { cls := Value.type "function", data := Data.func { name := Str.ofString "_law_torn", qualname := Str.ofString "_law_torn", params := fnArgs (top 24), body := FuncBody.stmts (fnBody (top 24)), scope := fnScope (top 24), globals := 3, closure := [], defaults := Value.none, kwdefaults := Value.none, pyModule := Value.str (Str.ofString "law_nb0260_01") 486, code := Value.ref 285 } }
noncomputable def x289 : Params → Obj := fun P => { cls := Value.type "tuple", data := Data.seq #[Value.str (Str.ofString "read") 566, Value.str (Str.ofString "width") 567, Value.str (Str.ofString "divisor") 568, Value.str (Str.ofString "quotient") 569, Value.str (Str.ofString "rest") 570, Value.str (Str.ofString "digits") 571, Value.str (Str.ofString "bits") 572, Value.str (Str.ofString "part") 573] }
noncomputable def x291 : Params → Obj := fun P => { cls := Value.none, data := Data.func { name := Str.ofString "_law_divided", qualname := Str.ofString "_law_divided", params := fnArgs (top 25), body := FuncBody.stmts (fnBody (top 25)), scope := fnScope (top 25), globals := 0, closure := [], defaults := Value.none, kwdefaults := Value.none } }
noncomputable def x292 : Params → Obj := fun P => { cls := Value.type "code", data := Data.fields #[Value.str (Str.ofString "_law_divided") 563, Value.str (Str.ofString "_law_divided") 564, Value.str (Str.ofString "/claim/cut.py") 565, Value.int 228 0, Value.int 3 0, Value.int 0 0, Value.int 0 0, Value.int 3 0, Value.ref 287, Value.bool true, Value.int 181 0, Value.ref 288, Value.none, Value.ref 289, Value.ref 290, Value.ref 291, Value.int 574 0, Value.int 228 0, Value.str (Str.ofString "/claim/cut.py") 575] }
noncomputable def x293 : Params → Obj := fun P => { cls := Value.type "function", data := Data.func { name := Str.ofString "_law_divided", qualname := Str.ofString "_law_divided", params := fnArgs (top 25), body := FuncBody.stmts (fnBody (top 25)), scope := fnScope (top 25), globals := 3, closure := [], defaults := Value.none, kwdefaults := Value.none, pyModule := Value.str (Str.ofString "law_nb0260_01") 486, code := Value.ref 292 } }
noncomputable def x296 : Params → Obj := fun P => { cls := Value.none, data := Data.func { name := Str.ofString "_law_right", qualname := Str.ofString "_law_right", params := fnArgs (top 26), body := FuncBody.stmts (fnBody (top 26)), scope := fnScope (top 26), globals := 0, closure := [], defaults := Value.none, kwdefaults := Value.none } }
noncomputable def x297 : Params → Obj := fun P => { cls := Value.type "code", data := Data.fields #[Value.str (Str.ofString "_law_right") 577, Value.str (Str.ofString "_law_right") 578, Value.str (Str.ofString "/claim/cut.py") 579, Value.int 236 0, Value.int 5 0, Value.int 0 0, Value.int 0 0, Value.int 3 0, Value.ref 294, Value.bool true, Value.int 181 0, Value.ref 295, Value.none, Value.none, Value.none, Value.ref 296, Value.int 580 0, Value.int 236 0, Value.str (Str.ofString "/claim/cut.py") 581] }
noncomputable def x298 : Params → Obj := fun P => { cls := Value.type "function", data := Data.func { name := Str.ofString "_law_right", qualname := Str.ofString "_law_right", params := fnArgs (top 26), body := FuncBody.stmts (fnBody (top 26)), scope := fnScope (top 26), globals := 3, closure := [], defaults := Value.none, kwdefaults := Value.none, pyModule := Value.str (Str.ofString "law_nb0260_01") 486, code := Value.ref 297 } }
noncomputable def x301 : Params → Obj := fun P => { cls := Value.type "tuple", data := Data.seq #[Value.str (Str.ofString "script") 586] }
noncomputable def x303 : Params → Obj := fun P => { cls := Value.none, data := Data.func { name := Str.ofString "law", qualname := Str.ofString "law", params := fnArgs (top 27), body := FuncBody.stmts (fnBody (top 27)), scope := fnScope (top 27), globals := 0, closure := [], defaults := Value.none, kwdefaults := Value.none } }
noncomputable def x304 : Params → Obj := fun P => { cls := Value.type "code", data := Data.fields #[Value.str (Str.ofString "law") 583, Value.str (Str.ofString "law") 584, Value.str (Str.ofString "/claim/cut.py") 585, Value.int 248 0, Value.int 1 0, Value.int 0 0, Value.int 0 0, Value.int 3 0, Value.ref 299, Value.bool true, Value.int 181 0, Value.ref 300, Value.none, Value.ref 301, Value.ref 302, Value.ref 303, Value.int 587 0, Value.int 248 0, Value.str (Str.ofString "/claim/cut.py") 588] }
noncomputable def x305 : Params → Obj := fun P => { cls := Value.type "function", data := Data.func { name := Str.ofString "law", qualname := Str.ofString "law", params := fnArgs (top 27), body := FuncBody.stmts (fnBody (top 27)), scope := fnScope (top 27), globals := 3, closure := [], defaults := Value.none, kwdefaults := Value.none, pyModule := Value.str (Str.ofString "law_nb0260_01") 486, code := Value.ref 304 } }
noncomputable def tr_block : Params → BT := fun P => (.node (boot_o_0 P) (.node (boot_o_1 P) (.node (boot_o_3 P) (.node (boot_o_7 P) .nil .nil) (.node (x11 P) .nil .nil)) (.node (boot_o_5 P) (.node (boot_o_9 P) .nil .nil) (.node (x13 P) .nil .nil))) (.node (boot_o_2 P) (.node (boot_o_4 P) (.node (boot_o_8 P) .nil .nil) (.node (x12 P) .nil .nil)) (.node (boot_o_6 P) (.node (boot_o_10 P) .nil .nil) (.node (x14 P) .nil .nil))))
noncomputable def tr_5 : Params → BT := fun P => (.node (boot_o_0 P) (.node (boot_o_1 P) (.node (x3 P) (.node (boot_o_7 P) (.node (x11 P) (.node (x31 P) (.node (x63 P) .nil .nil) (.node (x95 P) .nil .nil)) (.node (x47 P) (.node (x12 P) .nil .nil) .nil)) (.node (x23 P) (.node (x11 P) (.node (x11 P) .nil .nil) .nil) (.node (x55 P) (.node (x87 P) .nil .nil) .nil))) (.node (x11 P) (.node (x19 P) (.node (x35 P) (.node (x11 P) .nil .nil) .nil) (.node (x12 P) (.node (x83 P) .nil .nil) .nil)) (.node (x27 P) (.node (x11 P) (.node (x75 P) .nil .nil) .nil) (.node (x59 P) (.node (x91 P) .nil .nil) .nil)))) (.node (boot_o_5 P) (.node (boot_o_9 P) (.node (x17 P) (.node (x33 P) (.node (x12 P) .nil .nil) (.node (x97 P) .nil .nil)) (.node (x49 P) (.node (x11 P) .nil .nil) .nil)) (.node (x11 P) (.node (x41 P) (.node (x73 P) .nil .nil) .nil) (.node (x11 P) (.node (x89 P) .nil .nil) .nil))) (.node (x13 P) (.node (x21 P) (.node (x12 P) (.node (x69 P) .nil .nil) .nil) (.node (x11 P) (.node (x11 P) .nil .nil) .nil)) (.node (x11 P) (.node (x45 P) (.node (x77 P) .nil .nil) .nil) (.node (x61 P) (.node (x93 P) .nil .nil) .nil))))) (.node (boot_o_2 P) (.node (boot_o_4 P) (.node (boot_o_8 P) (.node (x12 P) (.node (x11 P) (.node (x11 P) .nil .nil) (.node (x96 P) .nil .nil)) (.node (x48 P) (.node (x80 P) .nil .nil) .nil)) (.node (x24 P) (.node (x40 P) (.node (x12 P) .nil .nil) .nil) (.node (x56 P) (.node (x11 P) .nil .nil) .nil))) (.node (x12_1 P) (.node (x20 P) (.node (x11 P) (.node (x68 P) .nil .nil) .nil) (.node (x52 P) (.node (x84 P) .nil .nil) .nil)) (.node (x28 P) (.node (x12 P) (.node (x76 P) .nil .nil) .nil) (.node (x11 P) (.node (x92 P) .nil .nil) .nil)))) (.node (boot_o_6 P) (.node (boot_o_10 P) (.node (x11 P) (.node (x34 P) (.node (x66 P) .nil .nil) (.node (x98 P) .nil .nil)) (.node (x11 P) (.node (x82 P) .nil .nil) .nil)) (.node (x26 P) (.node (x42 P) (.node (x11 P) .nil .nil) .nil) (.node (x12 P) (.node (x90 P) .nil .nil) .nil))) (.node (x14 P) (.node (x11 P) (.node (x38 P) (.node (x70 P) .nil .nil) .nil) (.node (x54 P) (.node (x12 P) .nil .nil) .nil)) (.node (x12 P) (.node (x11 P) (.node (x11 P) .nil .nil) .nil) (.node (x62 P) (.node (x94 P) .nil .nil) .nil))))))
noncomputable def tr_6 : Params → BT := fun P => (.node (boot_o_0 P) (.node (boot_o_1 P) (.node (x3_1 P) (.node (boot_o_7 P) (.node (x11 P) (.node (x31 P) (.node (x63 P) (.node (x11 P) .nil .nil) .nil) (.node (x95 P) (.node (x159 P) .nil .nil) .nil)) (.node (x47 P) (.node (x12 P) (.node (x143 P) .nil .nil) .nil) (.node (x111 P) (.node (x175 P) .nil .nil) .nil))) (.node (x23 P) (.node (x11 P) (.node (x11 P) (.node (x11 P) .nil .nil) .nil) (.node (x11 P) (.node (x167 P) .nil .nil) .nil)) (.node (x55 P) (.node (x87 P) (.node (x151 P) .nil .nil) .nil) (.node (x11 P) .nil .nil)))) (.node (x11 P) (.node (x19 P) (.node (x35 P) (.node (x11 P) (.node (x108 P) .nil .nil) .nil) (.node (x99 P) (.node (x163 P) .nil .nil) .nil)) (.node (x12 P) (.node (x83 P) (.node (x12 P) .nil .nil) .nil) (.node (x115 P) (.node (x179 P) .nil .nil) .nil))) (.node (x27 P) (.node (x11 P) (.node (x75 P) (.node (x11 P) .nil .nil) .nil) (.node (x107 P) (.node (x171 P) .nil .nil) .nil)) (.node (x59 P) (.node (x91 P) (.node (x12 P) .nil .nil) .nil) (.node (x123 P) .nil .nil))))) (.node (boot_o_5 P) (.node (boot_o_9 P) (.node (x17 P) (.node (x33 P) (.node (x12 P) (.node (x129 P) .nil .nil) .nil) (.node (x97 P) (.node (x11 P) .nil .nil) .nil)) (.node (x49 P) (.node (x11 P) (.node (x145 P) .nil .nil) .nil) (.node (x113 P) (.node (x177 P) .nil .nil) .nil))) (.node (x11 P) (.node (x41 P) (.node (x73 P) (.node (x137 P) .nil .nil) .nil) (.node (x105 P) (.node (x169 P) .nil .nil) .nil)) (.node (x11 P) (.node (x89 P) (.node (x153 P) .nil .nil) .nil) (.node (x121 P) .nil .nil)))) (.node (x13 P) (.node (x21 P) (.node (x12 P) (.node (x69 P) (.node (x12 P) .nil .nil) .nil) (.node (x101 P) (.node (x165 P) .nil .nil) .nil)) (.node (x11 P) (.node (x11 P) (.node (x11 P) .nil .nil) .nil) (.node (x12 P) (.node (x181 P) .nil .nil) .nil))) (.node (x11 P) (.node (x45 P) (.node (x77 P) (.node (x141 P) .nil .nil) .nil) (.node (x109 P) (.node (x173 P) .nil .nil) .nil)) (.node (x61 P) (.node (x93 P) (.node (x11 P) .nil .nil) .nil) (.node (x12 P) .nil .nil)))))) (.node (boot_o_2 P) (.node (boot_o_4 P) (.node (boot_o_8 P) (.node (x12 P) (.node (x11 P) (.node (x11 P) (.node (x128 P) .nil .nil) .nil) (.node (x96 P) (.node (x160 P) .nil .nil) .nil)) (.node (x48 P) (.node (x80 P) (.node (x144 P) .nil .nil) .nil) (.node (x11 P) (.node (x176 P) .nil .nil) .nil))) (.node (x24 P) (.node (x40 P) (.node (x12 P) (.node (x136 P) .nil .nil) .nil) (.node (x104 P) (.node (x108 P) .nil .nil) .nil)) (.node (x56 P) (.node (x11 P) (.node (x152 P) .nil .nil) .nil) (.node (x120 P) .nil .nil)))) (.node (x12_2 P) (.node (x20 P) (.node (x11 P) (.node (x68 P) (.node (x132 P) .nil .nil) .nil) (.node (x23 P) (.node (x11 P) .nil .nil) .nil)) (.node (x52 P) (.node (x84 P) (.node (x148 P) .nil .nil) .nil) (.node (x11 P) (.node (x180 P) .nil .nil) .nil))) (.node (x28 P) (.node (x12 P) (.node (x76 P) (.node (x12 P) .nil .nil) .nil) (.node (x108 P) (.node (x11 P) .nil .nil) .nil)) (.node (x11 P) (.node (x92 P) (.node (x156 P) .nil .nil) .nil) (.node (x11 P) .nil .nil))))) (.node (boot_o_6 P) (.node (boot_o_10 P) (.node (x11 P) (.node (x34 P) (.node (x66 P) (.node (x130 P) .nil .nil) .nil) (.node (x98 P) (.node (x12 P) .nil .nil) .nil)) (.node (x11 P) (.node (x82 P) (.node (x11 P) .nil .nil) .nil) (.node (x114 P) (.node (x178 P) .nil .nil) .nil))) (.node (x26 P) (.node (x42 P) (.node (x11 P) (.node (x138 P) .nil .nil) .nil) (.node (x106 P) (.node (x12 P) .nil .nil) .nil)) (.node (x12 P) (.node (x90 P) (.node (x11 P) .nil .nil) .nil) (.node (x122 P) .nil .nil)))) (.node (x14 P) (.node (x11 P) (.node (x38 P) (.node (x70 P) (.node (x134 P) .nil .nil) .nil) (.node (x102 P) (.node (x166 P) .nil .nil) .nil)) (.node (x54 P) (.node (x12 P) (.node (x150 P) .nil .nil) .nil) (.node (x118 P) (.node (x182 P) .nil .nil) .nil))) (.node (x12 P) (.node (x11 P) (.node (x11 P) (.node (x11 P) .nil .nil) .nil) (.node (x12 P) (.node (x174 P) .nil .nil) .nil)) (.node (x62 P) (.node (x94 P) (.node (x158 P) .nil .nil) .nil) (.node (x126 P) .nil .nil)))))))
noncomputable def tr_28 : Params → BT := fun P => (.node (boot_o_0 P) (.node (boot_o_1 P) (.node (x3_2 P) (.node (boot_o_7 P) (.node (x11 P) (.node (x31 P) (.node (x63 P) (.node (x11 P) (.node (x255 P) .nil .nil) .nil) (.node (x12 P) .nil .nil)) (.node (x95 P) (.node (x159 P) (.node (x11 P) .nil .nil) .nil) (.node (x223 P) .nil .nil))) (.node (x47 P) (.node (x12 P) (.node (x143 P) (.node (x11 P) .nil .nil) .nil) (.node (x207 P) .nil .nil)) (.node (x111 P) (.node (x175 P) (.node (x303 P) .nil .nil) .nil) (.node (x239 P) .nil .nil)))) (.node (x23 P) (.node (x11 P) (.node (x11 P) (.node (x11 P) (.node (x11 P) .nil .nil) .nil) (.node (x199 P) .nil .nil)) (.node (x11 P) (.node (x167 P) (.node (x12 P) .nil .nil) .nil) (.node (x12 P) .nil .nil))) (.node (x55 P) (.node (x87 P) (.node (x151 P) (.node (x279 P) .nil .nil) .nil) (.node (x215 P) .nil .nil)) (.node (x11 P) (.node (x11 P) .nil .nil) (.node (x11 P) .nil .nil))))) (.node (x11 P) (.node (x19 P) (.node (x35 P) (.node (x11 P) (.node (x108 P) (.node (x12 P) .nil .nil) .nil) (.node (x195 P) .nil .nil)) (.node (x99 P) (.node (x163 P) (.node (x291 P) .nil .nil) .nil) (.node (x227 P) .nil .nil))) (.node (x12 P) (.node (x83 P) (.node (x12 P) (.node (x11 P) .nil .nil) .nil) (.node (x11 P) .nil .nil)) (.node (x115 P) (.node (x179 P) .nil .nil) (.node (x243 P) .nil .nil)))) (.node (x27 P) (.node (x11 P) (.node (x75 P) (.node (x11 P) (.node (x267 P) .nil .nil) .nil) (.node (x203 P) .nil .nil)) (.node (x107 P) (.node (x171 P) (.node (x11 P) .nil .nil) .nil) (.node (x235 P) .nil .nil))) (.node (x59 P) (.node (x91 P) (.node (x12 P) (.node (x11 P) .nil .nil) .nil) (.node (x12 P) .nil .nil)) (.node (x123 P) (.node (x187 P) .nil .nil) (.node (x11 P) .nil .nil)))))) (.node (boot_o_5 P) (.node (boot_o_9 P) (.node (x17 P) (.node (x33 P) (.node (x12 P) (.node (x129 P) (.node (x257 P) .nil .nil) .nil) (.node (x11 P) .nil .nil)) (.node (x97 P) (.node (x11 P) (.node (x289 P) .nil .nil) .nil) (.node (x11 P) .nil .nil))) (.node (x49 P) (.node (x11 P) (.node (x145 P) (.node (x273 P) .nil .nil) .nil) (.node (x209 P) .nil .nil)) (.node (x113 P) (.node (x177 P) (.node (x305 P) .nil .nil) .nil) (.node (x241 P) .nil .nil)))) (.node (x11 P) (.node (x41 P) (.node (x73 P) (.node (x137 P) (.node (x265 P) .nil .nil) .nil) (.node (x201 P) .nil .nil)) (.node (x105 P) (.node (x169 P) (.node (x297 P) .nil .nil) .nil) (.node (x11 P) .nil .nil))) (.node (x11 P) (.node (x89 P) (.node (x153 P) (.node (x12 P) .nil .nil) .nil) (.node (x217 P) .nil .nil)) (.node (x121 P) (.node (x185 P) .nil .nil) (.node (x249 P) .nil .nil))))) (.node (x13 P) (.node (x21 P) (.node (x12 P) (.node (x69 P) (.node (x12 P) (.node (x261 P) .nil .nil) .nil) (.node (x11 P) .nil .nil)) (.node (x101 P) (.node (x165 P) (.node (x293 P) .nil .nil) .nil) (.node (x229 P) .nil .nil))) (.node (x11 P) (.node (x11 P) (.node (x11 P) (.node (x277 P) .nil .nil) .nil) (.node (x213 P) .nil .nil)) (.node (x12 P) (.node (x181 P) .nil .nil) (.node (x12 P) .nil .nil)))) (.node (x11 P) (.node (x45 P) (.node (x77 P) (.node (x141 P) (.node (x12 P) .nil .nil) .nil) (.node (x12 P) .nil .nil)) (.node (x109 P) (.node (x173 P) (.node (x301 P) .nil .nil) .nil) (.node (x11 P) .nil .nil))) (.node (x61 P) (.node (x93 P) (.node (x11 P) (.node (x285 P) .nil .nil) .nil) (.node (x11 P) .nil .nil)) (.node (x12 P) (.node (x189 P) .nil .nil) (.node (x253 P) .nil .nil))))))) (.node (boot_o_2 P) (.node (boot_o_4 P) (.node (boot_o_8 P) (.node (x12 P) (.node (x11 P) (.node (x11 P) (.node (x128 P) (.node (x256 P) .nil .nil) .nil) (.node (x192 P) .nil .nil)) (.node (x96 P) (.node (x160 P) (.node (x12 P) .nil .nil) .nil) (.node (x224 P) .nil .nil))) (.node (x48 P) (.node (x80 P) (.node (x144 P) (.node (x272 P) .nil .nil) .nil) (.node (x208 P) .nil .nil)) (.node (x11 P) (.node (x176 P) (.node (x304 P) .nil .nil) .nil) (.node (x11 P) .nil .nil)))) (.node (x24 P) (.node (x40 P) (.node (x12 P) (.node (x136 P) (.node (x12 P) .nil .nil) .nil) (.node (x200 P) .nil .nil)) (.node (x104 P) (.node (x108 P) (.node (x296 P) .nil .nil) .nil) (.node (x232 P) .nil .nil))) (.node (x56 P) (.node (x11 P) (.node (x152 P) (.node (x11 P) .nil .nil) .nil) (.node (x216 P) .nil .nil)) (.node (x120 P) (.node (x12 P) .nil .nil) (.node (x248 P) .nil .nil))))) (.node (x12_3 P) (.node (x20 P) (.node (x11 P) (.node (x68 P) (.node (x132 P) (.node (x260 P) .nil .nil) .nil) (.node (x196 P) .nil .nil)) (.node (x23 P) (.node (x11 P) (.node (x292 P) .nil .nil) .nil) (.node (x228 P) .nil .nil))) (.node (x52 P) (.node (x84 P) (.node (x148 P) (.node (x12 P) .nil .nil) .nil) (.node (x12 P) .nil .nil)) (.node (x11 P) (.node (x180 P) .nil .nil) (.node (x11 P) .nil .nil)))) (.node (x28 P) (.node (x12 P) (.node (x76 P) (.node (x12 P) (.node (x11 P) .nil .nil) .nil) (.node (x11 P) .nil .nil)) (.node (x108 P) (.node (x11 P) (.node (x12 P) .nil .nil) .nil) (.node (x236 P) .nil .nil))) (.node (x11 P) (.node (x92 P) (.node (x156 P) (.node (x284 P) .nil .nil) .nil) (.node (x220 P) .nil .nil)) (.node (x11 P) (.node (x188 P) .nil .nil) (.node (x12 P) .nil .nil)))))) (.node (boot_o_6 P) (.node (boot_o_10 P) (.node (x11 P) (.node (x34 P) (.node (x66 P) (.node (x130 P) (.node (x11 P) .nil .nil) .nil) (.node (x194 P) .nil .nil)) (.node (x98 P) (.node (x12 P) (.node (x11 P) .nil .nil) .nil) (.node (x12 P) .nil .nil))) (.node (x11 P) (.node (x82 P) (.node (x11 P) (.node (x274 P) .nil .nil) .nil) (.node (x210 P) .nil .nil)) (.node (x114 P) (.node (x178 P) .nil .nil) (.node (x242 P) .nil .nil)))) (.node (x26 P) (.node (x42 P) (.node (x11 P) (.node (x138 P) (.node (x266 P) .nil .nil) .nil) (.node (x202 P) .nil .nil)) (.node (x106 P) (.node (x12 P) (.node (x298 P) .nil .nil) .nil) (.node (x234 P) .nil .nil))) (.node (x12 P) (.node (x90 P) (.node (x11 P) (.node (x282 P) .nil .nil) .nil) (.node (x11 P) .nil .nil)) (.node (x122 P) (.node (x11 P) .nil .nil) (.node (x250 P) .nil .nil))))) (.node (x14 P) (.node (x11 P) (.node (x38 P) (.node (x70 P) (.node (x134 P) (.node (x262 P) .nil .nil) .nil) (.node (x12 P) .nil .nil)) (.node (x102 P) (.node (x166 P) (.node (x11 P) .nil .nil) .nil) (.node (x11 P) .nil .nil))) (.node (x54 P) (.node (x12 P) (.node (x150 P) (.node (x278 P) .nil .nil) .nil) (.node (x11 P) .nil .nil)) (.node (x118 P) (.node (x182 P) .nil .nil) (.node (x246 P) .nil .nil)))) (.node (x12 P) (.node (x11 P) (.node (x11 P) (.node (x11 P) (.node (x270 P) .nil .nil) .nil) (.node (x206 P) .nil .nil)) (.node (x12 P) (.node (x174 P) (.node (x11 P) .nil .nil) .nil) (.node (x12 P) .nil .nil))) (.node (x62 P) (.node (x94 P) (.node (x158 P) (.node (x286 P) .nil .nil) .nil) (.node (x222 P) .nil .nil)) (.node (x126 P) (.node (x11 P) .nil .nil) (.node (x11 P) .nil .nil))))))))
noncomputable def hp_pre : Params → Heap := fun P => ⟨⟨boot_o_0 P :: boot_o_1 P :: boot_o_2 P :: boot_o_3 P :: boot_o_4 P :: boot_o_5 P :: boot_o_6 P :: boot_o_7 P :: boot_o_8 P :: boot_o_9 P :: boot_o_10 P :: x11 P :: x12 P :: x13 P :: x14 P :: []⟩, {}⟩
noncomputable def hp_fin : Params → Heap := fun P => ⟨⟨boot_o_0 P :: boot_o_1 P :: boot_o_2 P :: x3_2 P :: boot_o_4 P :: boot_o_5 P :: boot_o_6 P :: boot_o_7 P :: boot_o_8 P :: boot_o_9 P :: boot_o_10 P :: x11 P :: x12_3 P :: x13 P :: x14 P :: x11 P :: x12 P :: x17 P :: x11 P :: x19 P :: x20 P :: x21 P :: x11 P :: x23 P :: x24 P :: x11 P :: x26 P :: x27 P :: x28 P :: x11 P :: x12 P :: x31 P :: x11 P :: x33 P :: x34 P :: x35 P :: x11 P :: x12 P :: x38 P :: x11 P :: x40 P :: x41 P :: x42 P :: x11 P :: x12 P :: x45 P :: x11 P :: x47 P :: x48 P :: x49 P :: x11 P :: x12 P :: x52 P :: x11 P :: x54 P :: x55 P :: x56 P :: x11 P :: x12 P :: x59 P :: x11 P :: x61 P :: x62 P :: x63 P :: x11 P :: x12 P :: x66 P :: x11 P :: x68 P :: x69 P :: x70 P :: x11 P :: x12 P :: x73 P :: x11 P :: x75 P :: x76 P :: x77 P :: x11 P :: x12 P :: x80 P :: x11 P :: x82 P :: x83 P :: x84 P :: x11 P :: x12 P :: x87 P :: x11 P :: x89 P :: x90 P :: x91 P :: x92 P :: x93 P :: x94 P :: x95 P :: x96 P :: x97 P :: x98 P :: x99 P :: x23 P :: x101 P :: x102 P :: x11 P :: x104 P :: x105 P :: x106 P :: x107 P :: x108 P :: x109 P :: x12 P :: x111 P :: x11 P :: x113 P :: x114 P :: x115 P :: x11 P :: x12 P :: x118 P :: x11 P :: x120 P :: x121 P :: x122 P :: x123 P :: x11 P :: x12 P :: x126 P :: x11 P :: x128 P :: x129 P :: x130 P :: x108 P :: x132 P :: x12 P :: x134 P :: x11 P :: x136 P :: x137 P :: x138 P :: x11 P :: x12 P :: x141 P :: x11 P :: x143 P :: x144 P :: x145 P :: x11 P :: x12 P :: x148 P :: x11 P :: x150 P :: x151 P :: x152 P :: x153 P :: x11 P :: x12 P :: x156 P :: x11 P :: x158 P :: x159 P :: x160 P :: x11 P :: x12 P :: x163 P :: x11 P :: x165 P :: x166 P :: x167 P :: x108 P :: x169 P :: x12 P :: x171 P :: x11 P :: x173 P :: x174 P :: x175 P :: x176 P :: x177 P :: x178 P :: x179 P :: x180 P :: x181 P :: x182 P :: x11 P :: x12 P :: x185 P :: x11 P :: x187 P :: x188 P :: x189 P :: x11 P :: x12 P :: x192 P :: x11 P :: x194 P :: x195 P :: x196 P :: x11 P :: x12 P :: x199 P :: x200 P :: x201 P :: x202 P :: x203 P :: x11 P :: x12 P :: x206 P :: x207 P :: x208 P :: x209 P :: x210 P :: x11 P :: x12 P :: x213 P :: x11 P :: x215 P :: x216 P :: x217 P :: x11 P :: x12 P :: x220 P :: x11 P :: x222 P :: x223 P :: x224 P :: x11 P :: x12 P :: x227 P :: x228 P :: x229 P :: x11 P :: x12 P :: x232 P :: x11 P :: x234 P :: x235 P :: x236 P :: x11 P :: x12 P :: x239 P :: x11 P :: x241 P :: x242 P :: x243 P :: x11 P :: x12 P :: x246 P :: x11 P :: x248 P :: x249 P :: x250 P :: x11 P :: x12 P :: x253 P :: x11 P :: x255 P :: x256 P :: x257 P :: x11 P :: x12 P :: x260 P :: x261 P :: x262 P :: x11 P :: x12 P :: x265 P :: x266 P :: x267 P :: x11 P :: x12 P :: x270 P :: x11 P :: x272 P :: x273 P :: x274 P :: x11 P :: x12 P :: x277 P :: x278 P :: x279 P :: x11 P :: x12 P :: x282 P :: x11 P :: x284 P :: x285 P :: x286 P :: x11 P :: x12 P :: x289 P :: x11 P :: x291 P :: x292 P :: x293 P :: x11 P :: x12 P :: x296 P :: x297 P :: x298 P :: x11 P :: x12 P :: x301 P :: x11 P :: x303 P :: x304 P :: x305 P :: []⟩, {}⟩
abbrev BF : List Frame := [topFrame ⟨0, 0, 0, 0⟩]
set_option maxHeartbeats 0 in
theorem seg_5 (w : World) (os : OsState) : segRunT treeTable PySem.Challenge.pw_nb0260_01 w 11 (some (.ref 6)) 1 554 ⟨tr_block w.params, 15, {}, ⟨[]⟩, {}, 187, os⟩ (piecesOf (cutN 5 bE) envE cE ⟨0, 0, 0, 0⟩ BF) =
    some (.next, ⟨tr_5 w.params, 99, {}, ⟨[]⟩, {}, 308, os⟩, cE, ⟨7, 0, 72, 47⟩) := by kernel_rfl
set_option maxHeartbeats 0 in
theorem seg_6 (w : World) (os : OsState) : segRunT treeTable PySem.Challenge.pw_nb0260_01 w 11 (some (.ref 6)) 1 505 ⟨tr_5 w.params, 99, {}, ⟨[]⟩, {}, 308, os⟩ (piecesOf (cutN 1 (skipN 5 bE)) envE cE ⟨7, 0, 72, 47⟩ BF) =
    some (.next, ⟨tr_6 w.params, 183, {}, ⟨[]⟩, {}, 404, os⟩, cE, ⟨73, 0, 108, 32⟩) := by kernel_rfl
set_option maxHeartbeats 0 in
theorem seg_28 (w : World) (os : OsState) : segRunT treeTable PySem.Challenge.pw_nb0260_01 w 11 (some (.ref 6)) 1 637 ⟨tr_6 w.params, 183, {}, ⟨[]⟩, {}, 404, os⟩ (piecesOf (cutN 22 (skipN 1 (skipN 5 bE))) envE cE ⟨73, 0, 108, 32⟩ BF) =
    some (.next, ⟨tr_28 w.params, 306, {}, ⟨[]⟩, {}, 590, os⟩, cE, ⟨248, 0, 249, 122⟩) := by kernel_rfl
theorem seg_pre (w : World) (os : OsState) : topGo treeTable PySem.Challenge.pw_nb0260_01 w 11 (some (.ref 6)) 12 ⟨boot_heap w.params, ⟨[]⟩, boot_drawn, boot_toks, os⟩ (topStub PySem.Challenge.pw_nb0260_01) =
    some (⟨hp_pre w.params, ⟨[]⟩, {}, 187, os⟩, ⟨denote treeTable cE, cE, ⟨0, 0, 0, 0⟩, BF⟩) := by kernel_rfl
theorem seg_block (w : World) (os : OsState) : segRun treeTable PySem.Challenge.pw_nb0260_01 w 11 (some (.ref 6)) 1 1 ⟨hp_pre w.params, ⟨[]⟩, {}, 187, os⟩ (blockOf bE envE cE ⟨0, 0, 0, 0⟩ BF) =
    some (.next, SharedT.abs ⟨tr_block w.params, 15, {}, ⟨[]⟩, {}, 187, os⟩, cE, ⟨0, 0, 0, 0⟩) := by kernel_rfl
theorem seg_fin (w : World) (os : OsState) : topRun treeTable PySem.Challenge.pw_nb0260_01 w 11 (some (.ref 6)) 2 (SharedT.abs ⟨tr_28 w.params, 306, {}, ⟨[]⟩, {}, 590, os⟩) ⟨doneF .next, cE, ⟨248, 0, 249, 122⟩, BF⟩ =
    some ⟨hp_fin w.params, ⟨[]⟩, {}, 590, os⟩ := by kernel_rfl
theorem seg_all (w : World) (os : OsState) : topRun treeTable PySem.Challenge.pw_nb0260_01 w 11 (some (.ref 6)) 1711 ⟨boot_heap w.params, ⟨[]⟩, boot_drawn, boot_toks, os⟩ (topStub PySem.Challenge.pw_nb0260_01) = some ⟨hp_fin w.params, ⟨[]⟩, {}, 590, os⟩ := by
  refine go_top (n := 12) (N := 1699) (seg_pre w os) ?_
  refine piece_block (n := 1) (N := 1698) (seg_block w os) ?_
  rw [cut_skip 5 bE]
  refine piece_app (n := 554) (N := 1144) (segRun_of (seg_5 w os)) ?_
  rw [cut_skip 1 (skipN 5 bE)]
  refine piece_app (n := 505) (N := 639) (segRun_of (seg_6 w os)) ?_
  rw [cut_skip 22 (skipN 1 (skipN 5 bE))]
  refine piece_app (n := 637) (N := 2) (segRun_of (seg_28 w os)) ?_
  exact seg_fin w os
noncomputable abbrev fin_ (w : World) (os : OsState) : Shared := ⟨hp_fin w.params, ⟨[]⟩, {}, 590, os⟩
theorem look_a (w : World) (os : OsState) : (staticsOk (importedModules PySem.Challenge.pw_nb0260_01.main.body) (boot_heap w.params) (hp_fin w.params) && namesBound PySem.Challenge.pw_nb0260_01 (hp_fin w.params) && gensDone (fin_ w os) && laidKept (boot_heap w.params) (hp_fin w.params)) = true := by kernel_rfl
theorem look_b (w : World) (os : OsState) : openSeen qv lz (importedModules PySem.Challenge.pw_nb0260_01.main.body) (fun s => xlAt qv [] s && recOk (RowW.records (OpenRow.toRowW PySem.Challenge.rw_nb0260_01.row)) s) true (fin_ w os) = openGood qv lz := by kernel_rfl
theorem look_c (w : World) (os : OsState) : Hook.obs Hk (fin_ w os) = Hook.val Hk w := by kernel_rfl
theorem open_size (w : World) : ((boot_heap w.params).isNs mainGlobals && (⟨[]⟩ : Array GenState).size == 0, (boot_heap w.params).objs.size, (boot_heap w.params).nsMap mainGlobals "__annotations__") = (true, 11, some (.ref 6)) := by kernel_rfl
theorem left1 : LeftO PySem.Challenge.pw_nb0260_01 qv lz (fun s => xlAt qv [] s && recOk (RowW.records (OpenRow.toRowW PySem.Challenge.rw_nb0260_01.row)) s) (Hook.obs Hk) (Hook.val Hk) 3462 :=
  LeftO.of_pieces (H₁ := hp_fin) (boot_open (by kernel_rfl) (by decide) (fun s => by kernel_rfl)) open_size seg_all (by decide) (fun w => funext fun os => by rw [look_a, look_b, look_c])
/-! the look at the law, part by part -/
abbrev lawp : Program := PySem.Challenge.rw_nb0260_01.row.prog
theorem lk_names : namesResolve lawp = true := by kernel_rfl
theorem lk_road : noRoadLSs { strict := !(importedModules lawp.main.body).all cThrough.contains, foot := none, bare := (["vars", "dir", "locals"] : List Str).filter (readsOut lawp lawp.main.body) } lawp.main.body = true := by kernel_rfl
theorem lk_meet : (namesMeet lawp lawp.main.body fun _ n => attrL n) = true := by kernel_rfl
theorem lk_looks : looksOpen lawp = true := by
  unfold looksOpen
  exact look_both (look_both (look_both (look_both (by kernel_rfl) lk_names) (by kernel_rfl)) lk_road) lk_meet
theorem lk_part : PySem.Challenge.rw_nb0260_01.row.partSaid = true := by
  unfold OpenRow.partSaid
  iterate 13 (refine look_both ?_ ?_)
  exact lk_looks
  all_goals kernel_rfl
theorem lk_row : PySem.Challenge.rw_nb0260_01.row.wellSaid = true := by
  unfold OpenRow.wellSaid
  exact look_both (look_both lk_part (by kernel_rfl)) (by kernel_rfl)
abbrev lawr : OpenLaw := PySem.Challenge.rw_nb0260_01
theorem lk_foot : noRoadLSs { strict := true, foot := some lawr.bound', writes := lawr.writes, may := lawr.may } lawr.footing = true := by kernel_rfl
theorem lk_bound : lawr.bound'.all (fun n => !builtinNamed n || lawr.about == [n] || !lawr.reads n) = true := by kernel_rfl
theorem lk_own : lawr.own.all (fun n => !builtinNamed n) = true := by kernel_rfl
theorem lk_above : (namesMeet lawr.prog lawr.above (fun _ n => !lawr.own.contains n)) = true := by kernel_rfl
theorem law_ok : PySem.Challenge.rw_nb0260_01.wellSaid = true := by
  unfold OpenLaw.wellSaid
  iterate 18 (refine look_both ?_ ?_)
  exact lk_row
  all_goals first | with_reducible exact lk_foot | with_reducible exact lk_bound | with_reducible exact lk_own | with_reducible exact lk_above | kernel_rfl
end Mine
end

section
open PySem PySem.W PyProof.Rows
namespace Mine

theorem dpl {d a b c lim : Nat} (h : a + b ≤ c) (hd : d + c < lim) : d + a + b < lim := Nat.lt_of_le_of_lt (by rw [Nat.add_assoc]; exact Nat.add_le_add_left h d) hd
theorem dpl0 {d a c lim : Nat} (h : a ≤ c) (hd : d + c < lim) : d + a < lim := Nat.lt_of_le_of_lt (Nat.add_le_add_left h d) hd
/-- the caller's side of a contract -/
structure Cx (w : World) (p : Program) (loose : List Str) (mean : ExcName → Option Value) (mg mb : Str → Option Value) (cs : Scope) (outer : List Env) (A₀ : Around) (base h₀ : Heap) (L : Addr) (m : Str → Option Value)
    (news : List (Addr × Obj)) (h : Heap) : Prop where
  B : Below A₀ base outer h₀
  F : Fr h₀ L h m
  X : (Kf w.params).In h₀
  N : News h₀ L h news
  T : Top p loose mean mg mb h₀
  hk : cs.kind = .function

theorem lo_ne {l : List (Addr × Obj)} {d e : Nat} (h : ∀ p ∈ l, p.1 < d) (k : @LE.le Nat _ d e) : ∀ p ∈ l, p.1 ≠ e := fun p hp q => by
  have := h p hp; rw [q] at this; exact absurd this (Nat.not_lt.mpr k)
theorem lo_tail {q : Addr × Obj} {l : List (Addr × Obj)} {d : Nat} (h : ∀ p ∈ q :: l, p.1 < d) : ∀ p ∈ l, p.1 < d := fun p hp => h p (.tail _ hp)
theorem ne_all {l : List (Addr × Obj)} {d : Addr} (h : AllLt d l) : ∀ p ∈ l, p.1 ≠ d := fun p hp => Nat.ne_of_lt (ktn_ltOf h p hp)
theorem ne_all' {l : List (Addr × Obj)} {d e : Addr} (h : AllLt d l) (k : @LE.le Nat _ d e) : ∀ p ∈ l, p.1 ≠ e := fun p hp => Nat.ne_of_lt (Nat.lt_of_lt_of_le (ktn_ltOf h p hp) k)

theorem News.sub {h₀ h : Heap} {L : Addr} {news news' : List (Addr × Obj)} (N : News h₀ L h news') (hs : ∀ p ∈ news, p ∈ news') : News h₀ L h news := fun p hp => N p (hs p hp)

/-- a table of code objects, as the call finds or leaves it -/
def isQ (o : Obj) : Prop := ∃ ps : Array Value, o = tabObj ps ∧ (ps = #[] ∨ ∃ i j c, ps = #[rawInt i, rawInt j, .ref c])
theorem notQ {o : Obj} (h : o.cls ≠ .none) : ¬ isQ o := fun ⟨_, e, _⟩ => h (by rw [e])
theorem notQ_str {o : Obj} {vs : Array Value} {q : Str} {t : Tok} (hd : o.data = .fields vs) (hv : vs[1]? = some (.str q t)) : ¬ isQ o := by
  rintro ⟨ps, rfl, rfl | ⟨i, j, c, rfl⟩⟩
  · cases hd; simp at hv
  · cases hd; simp [rawInt] at hv
/-- a table that a call may change: an empty one, or one of the accumulator's -/
def isT (o : Obj) : Prop := o = tabObj #[] ∨ ∃ (i j : Nat) (c : Addr), (i = 93 ∨ i = 96) ∧ o = tabObj #[rawInt i, rawInt j, .ref c]
theorem isT.q {o : Obj} (h : isT o) : isQ o := by
  rcases h with rfl | ⟨i, j, c, _, rfl⟩
  · exact ⟨_, rfl, .inl rfl⟩
  · exact ⟨_, rfl, .inr ⟨_, _, _, rfl⟩⟩
theorem notT {o : Obj} (h : o.cls ≠ .none) : ¬ isT o := fun e => notQ h e.q
theorem notT_str {o : Obj} {vs : Array Value} {q : Str} {t : Tok} (hd : o.data = .fields vs) (hv : vs[1]? = some (.str q t)) : ¬ isT o := fun e => notQ_str hd hv e.q
theorem notT_line {i j : Nat} {c : Addr} (h : i ≠ 93 ∧ i ≠ 96) : ¬ isT (tabObj #[rawInt i, rawInt j, .ref c]) := by
  rintro (e | ⟨i', j', c', hi, e⟩)
  · exact nomatch congrArg Obj.data e
  · have e1 := congrArg Obj.data e
    simp [rawInt] at e1
    omega

/-- what a call keeps of the ledger: all but the tables -/
def Kp (news news' : List (Addr × Obj)) : Prop := ∀ q ∈ news, ¬ isT q.2 → q ∈ news'
theorem Kp.refl (l : List (Addr × Obj)) : Kp l l := fun _ h _ => h
theorem Kp.trans {a b c : List (Addr × Obj)} (x : Kp a b) (y : Kp b c) : Kp a c := fun q h n => y q (x q h n) n

/-- a table of code objects: empty, or with the one code object in it -/
def TabOk (P : Addr) (line col : Nat) (qual : Str) (news : List (Addr × Obj)) : Prop :=
  (P, tabObj #[]) ∈ news ∨ ∃ c' oc vs t, (P, tabObj #[rawInt line, rawInt col, .ref c']) ∈ news ∧ (c', oc) ∈ news ∧ oc.data = .fields vs ∧ vs[1]? = some (.str qual t)
/-- the table filled -/
def TabF (P : Addr) (line col : Nat) (qual : Str) (news : List (Addr × Obj)) : Prop :=
  ∃ c' oc vs t, (P, tabObj #[rawInt line, rawInt col, .ref c']) ∈ news ∧ (c', oc) ∈ news ∧ oc.data = .fields vs ∧ vs[1]? = some (.str qual t)
theorem TabF.ok {P : Addr} {line col : Nat} {qual : Str} {news : List (Addr × Obj)} (h : TabF P line col qual news) : TabOk P line col qual news := .inr h
theorem TabF.mono {P : Addr} {line col : Nat} {qual : Str} {news news' : List (Addr × Obj)} (h : TabF P line col qual news) (k : ∀ q ∈ news, q ∈ news') : TabF P line col qual news' := by
  obtain ⟨c', oc, vs, t, h1, h2, h3, h4⟩ := h
  exact ⟨c', oc, vs, t, k _ h1, k _ h2, h3, h4⟩
theorem TabOk.isQ {P : Addr} {line col : Nat} {qual : Str} {news : List (Addr × Obj)} (h : TabOk P line col qual news) : ∃ o, (P, o) ∈ news ∧ isQ o := by
  rcases h with h | ⟨c', oc, vs, t, h, _⟩
  · exact ⟨_, h, _, rfl, .inl rfl⟩
  · exact ⟨_, h, _, rfl, .inr ⟨_, _, _, rfl⟩⟩
theorem TabOk.keep {h₀ h : Heap} {L P P' : Addr} {line col line' col' : Nat} {qual qual' : Str} {news news' : List (Addr × Obj)} (N : News h₀ L h news) (x : TabOk P line col qual news) (y : TabOk P' line' col' qual' news) (hP : P ≠ P')
    (k : ∀ q ∈ news, q.1 ≠ P' → q ∈ news') : TabOk P line col qual news' := by
  obtain ⟨o, ho, hT⟩ := y.isQ
  rcases x with x | ⟨c', oc, vs, t, x1, x2, x3, x4⟩
  · exact .inl (k _ x hP)
  · refine .inr ⟨c', oc, vs, t, k _ x1 hP, k _ x2 fun e => ?_, x3, x4⟩
    have e1 := (N _ x2).1
    have e2 := (N _ ho).1
    dsimp only at e1 e2 e
    rw [e, e2] at e1
    cases e1
    exact notQ_str x3 x4 hT
theorem Kp.of {h₀ h : Heap} {L P' : Addr} {line' col' : Nat} {qual' : Str} {news news' : List (Addr × Obj)} (N : News h₀ L h news) (y : TabOk P' line' col' qual' news) (k : ∀ q ∈ news, q.1 ≠ P' → q ∈ news') (hl : line' = 93 ∨ line' = 96 := by decide) : Kp news news' := fun q hq hn => by
  refine k q hq fun e => ?_
  have key : ∀ o, (P', o) ∈ news → isT o → False := fun o ho hT => by
    have e1 := (N _ hq).1
    have e2 := (N _ ho).1
    dsimp only at e1 e2
    rw [e, e2] at e1
    cases e1
    exact hn hT
  rcases y with y | ⟨c', oc, vs, t, y, _⟩
  · exact key _ y (.inl rfl)
  · exact key _ y (.inr ⟨_, _, _, hl, rfl⟩)
theorem Kp.ofF {h₀ h : Heap} {L P' : Addr} {line' col' : Nat} {qual' : Str} {news news' : List (Addr × Obj)} (N : News h₀ L h news) (y : TabOk P' line' col' qual' news) (k : ∀ q ∈ news, (q.1 ≠ P' ∨ TabF P' line' col' qual' news) → q ∈ news') : Kp news news' := fun q hq hn => by
  rcases y with y | y
  · refine k q hq (.inl fun e => ?_)
    have e1 := (N _ hq).1
    have e2 := (N _ y).1
    dsimp only at e1 e2
    rw [e, e2] at e1
    injection e1 with e1
    exact hn (.inl e1.symm)
  · exact k q hq (.inr y)
theorem TabF.kp {P : Addr} {line col : Nat} {qual : Str} {news news' : List (Addr × Obj)} (h : TabF P line col qual news) (k : Kp news news') (hl : line ≠ 93 ∧ line ≠ 96 := by decide) : TabF P line col qual news' := by
  obtain ⟨c', oc, vs, t, h1, h2, h3, h4⟩ := h
  exact ⟨c', oc, vs, t, k _ h1 (notT_line hl), k _ h2 (notT_str h3 h4), h3, h4⟩
/-- the four tables of code objects that the call may fill -/
structure TabsOk (news : List (Addr × Obj)) : Prop where
  len : TabOk 140 93 19 ((Str.ofString "_Accumulator.__len__" ++ ".<locals>.") ++ "<genexpr>") news
  str : TabOk 147 96 32 ((Str.ofString "_Accumulator.__str__" ++ ".<locals>.") ++ "<genexpr>") news
  i2d : TabOk 198 140 4 ((Str.ofString "_int2digits" ++ ".<locals>.") ++ "inner") news
  d2i : TabOk 205 155 4 ((Str.ofString "_digits2int" ++ ".<locals>.") ++ "inner") news


/-- what is left of the ledger beside one address -/
def off (P : Addr) (news : List (Addr × Obj)) : List (Addr × Obj) := news.filter fun q => decide (q.1 ≠ P)
theorem mem_off {P : Addr} {news : List (Addr × Obj)} {q : Addr × Obj} : q ∈ off P news ↔ q ∈ news ∧ q.1 ≠ P := by simp [off]
theorem off_ne {P : Addr} {news : List (Addr × Obj)} : ∀ q ∈ off P news, q.1 ≠ P := fun _ h => (mem_off.mp h).2
theorem off_sub {P : Addr} {news : List (Addr × Obj)} : ∀ q ∈ off P news, q ∈ news := fun _ h => (mem_off.mp h).1
theorem off_cover {P : Addr} {o : Obj} {news : List (Addr × Obj)} (h : (P, o) ∈ news) : ∀ q ∈ (P, o) :: off P news, q ∈ news := fun q hq => by
  rcases List.mem_cons.mp hq with rfl | hq
  · exact h
  · exact off_sub q hq
theorem ne_obj {h₀ h : Heap} {L x y : Addr} {ox oy : Obj} {news : List (Addr × Obj)} (N : News h₀ L h news) (h1 : (x, ox) ∈ news) (h2 : (y, oy) ∈ news) (hne : ox ≠ oy) : x ≠ y := fun e => by
  have e1 := (N _ h1).1
  have e2 := (N _ h2).1
  dsimp only at e1 e2
  rw [e, e2] at e1
  cases e1
  exact hne rfl

theorem TabOk.mono {P : Addr} {line col : Nat} {qual : Str} {news news' : List (Addr × Obj)} (h : TabOk P line col qual news) (k : ∀ q ∈ news, q ∈ news') : TabOk P line col qual news' := by
  rcases h with h | ⟨c', oc, vs, t, h1, h2, h3, h4⟩
  · exact .inl (k _ h)
  · exact .inr ⟨c', oc, vs, t, k _ h1, k _ h2, h3, h4⟩
/-- an object that is no record may be set aside -/
theorem TabOk.off {h₀ h : Heap} {L P x : Addr} {ox : Obj} {line col : Nat} {qual : Str} {news : List (Addr × Obj)} (t : TabOk P line col qual news) (N : News h₀ L h news) (hx : (x, ox) ∈ news) (ho : ∀ vs, ox.data ≠ .fields vs) : TabOk P line col qual (off x news) := by
  rcases t with h | ⟨c', oc, vs, t, h1, h2, h3, h4⟩
  · exact .inl (mem_off.mpr ⟨h, ne_obj N h hx (by rintro rfl; exact ho _ rfl)⟩)
  · exact .inr ⟨c', oc, vs, t, mem_off.mpr ⟨h1, ne_obj N h1 hx (by rintro rfl; exact ho _ rfl)⟩, mem_off.mpr ⟨h2, ne_obj N h2 hx (by rintro rfl; exact ho _ h3)⟩, h3, h4⟩
theorem empty_full {h₀ h : Heap} {L P c : Addr} {i j : Nat} {news : List (Addr × Obj)} (N : News h₀ L h news) (h1 : (P, tabObj #[]) ∈ news) (h2 : (P, tabObj #[rawInt i, rawInt j, .ref c]) ∈ news) : False :=
  ne_obj N h1 h2 (fun e => nomatch congrArg Obj.data e) rfl
theorem execs_as {M : Model} {A : Around} {env : Env} {Q : Flow → Shared → Prop} {E : Value → Shared → Prop} {s : Shared} {b r : List Stmt} {s1 : Stmt} (h : b = s1 :: r) (k : wpAny M A (execs (s1 :: r) env) Q E s) : wpAny M A (execs b env) Q E s := h ▸ k
theorem TabF.off {h₀ h : Heap} {L P x : Addr} {ox : Obj} {line col : Nat} {qual : Str} {news : List (Addr × Obj)} (t : TabF P line col qual news) (N : News h₀ L h news) (hx : (x, ox) ∈ news) (ho : ∀ vs, ox.data ≠ .fields vs) : TabF P line col qual (off x news) := by
  obtain ⟨c', oc, vs, t, h1, h2, h3, h4⟩ := t
  exact ⟨c', oc, vs, t, mem_off.mpr ⟨h1, ne_obj N h1 hx (by rintro rfl; exact ho _ rfl)⟩, mem_off.mpr ⟨h2, ne_obj N h2 hx (by rintro rfl; exact ho _ h3)⟩, h3, h4⟩
/-- a def made by the call, whether its code object stands in the table or not -/
theorem nest_T {M : Model} {A : Around} {E : Value → Shared → Prop} {s : Shared} {h₀ : Heap} {L a c P : Addr} {m mg mb : Str → Option Value} {cn : Str} {cs : Scope} {ccd : Value} {cl : List (Str × Addr)} {news : List (Addr × Obj)}
    {p : Program} {loose : List Str} {mean : ExcName → Option Value} {name qual : Str} {params : Arguments} {body : List Stmt} {scope : Scope} {pos : Pos} {firstLine : Nat} {clos : List (Str × Addr)} {Q : Value → Shared → Prop}
    (F : Fr h₀ L s.heap m) (N : News h₀ L s.heap news) (T : Top p loose mean mg mb h₀) (C : CodeHd h₀ c P) (hcd : ccd = .ref c) (ht : TabOk P pos.line pos.col qual news)
    (hcl : closureFor scope (envX cn cs L a ccd cl) = pure clos)
    (h : ∀ f c' oc vs t ctv doc news' h' tk, Fr h₀ L h' m → News h₀ L h' ((f, fnMade name qual params body scope clos doc ((mg "__name__").getD .none) c' ctv) :: news') →
      (c', oc) ∈ news' → oc.data = .fields vs → vs[1]? = some (.str qual t) → TabF P pos.line pos.col qual news' → (∀ q ∈ news, (q.1 ≠ P ∨ TabF P pos.line pos.col qual news) → q ∈ news') → (∀ q ∈ news', q.1 < f) → Q (.ref f) { s with heap := h', toks := tk }) :
    wpAny M A (makeFunction name qual params (.stmts body) scope (envX cn cs L a ccd cl) [] [] [] pos firstLine) Q E s := by
  rcases ht with ht | ⟨c', oc, vs, t, ht, hc, hd1, hd2⟩
  · refine nest_K F (News.sub N (off_cover ht)) T C hcd (.head off_ne) (by exact True.intro) rfl hcl fun f c' oc vs t ctv doc h' tk F' N' d1 d2 l1 l2 => ?_
    simp only [Array.empty_append] at N'
    refine h f c' oc vs t ctv doc _ h' tk F' N' (.head _) d1 d2 ⟨c', oc, vs, t, .tail _ (.head _), .head _, d1, d2⟩ (fun q hq hne => .tail _ (.tail _ (mem_off.mpr ⟨hq, hne.elim id fun ⟨c2, _, _, _, h2, _⟩ => (empty_full N ht h2).elim⟩))) fun q hq => ?_
    rcases List.mem_cons.mp hq with rfl | hq
    · exact l2
    · rcases List.mem_cons.mp hq with rfl | hq
      · exact Nat.lt_trans (l1 (P, tabObj #[]) (.head _)) l2
      · exact Nat.lt_trans (l1 q (.tail _ hq)) l2
  · exact nestHit_K F N T C hcd ht (by simp [TriplesOk, rawInt]) (by simp [codeAmong, rawInt]) hcl fun f ctv doc h' tk F' N' l1 =>
      h f c' oc vs t ctv doc news h' tk F' N' hc hd1 hd2 ⟨c', oc, vs, t, ht, hc, hd1, hd2⟩ (fun q hq _ => hq) l1

section
variable {prog : Program} {w : World} {A A₀ : Around} {s : Shared} {K : Frag} {L : Addr} {h₀ base : Heap} {m mg mb : Str → Option Value} {news : List (Addr × Obj)} {p : Program} {loose : List Str} {mean : ExcName → Option Value}
  {env : Env} {outer : List Env} {R : Result → Shared → Prop} {name qual : Str} {a1 a2 a4 : List Arg} {a3 a6 : Option Arg} {a5 : List (Option PySem.Expr)} {a7 : List PySem.Expr} {s1 : Stmt} {r1 : List Stmt} {k1 : ScopeKind} {k2 : List (Str × NameKind)} {k3 k4 : Bool} {k5 : List (Str × Const)} {dV kV doc pm cdv ct oc : Value} {an od : Option Addr} {osl : Array (Option Value)} {f : Addr} {args : Args} {binds : List (Str × Value)}
/-- into a def of the text -/
theorem code_def2 (B : Below A₀ base outer h₀) (F : Fr h₀ L s.heap m) (X₀ : K.In h₀) (N : News h₀ L s.heap news) (T : Top p loose mean mg mb h₀) (hA : A.frames = some (env :: outer)) (hf : env.frame = some L) (hke : env.scope.kind = .function)
    (ho : K.lookup f = some ⟨oc, od, .func (fnOf name qual ⟨a1, a2, a3, a4, a5, a6, a7⟩ (s1 :: r1) ⟨k1, k2, k3, k4, k5⟩ dV kV doc pm an cdv ct), osl⟩) (hcd : codeIn K cdv qual = true) (hroom : A.depth < recursionLimit)
    (hbind : BindsTo s (fnOf name qual ⟨a1, a2, a3, a4, a5, a6, a7⟩ (s1 :: r1) ⟨k1, k2, k3, k4, k5⟩ dV kV doc pm an cdv ct) args binds) (hloc : ∀ y ∈ binds, k2.lookup y.1 = some .local)
    (h : ∀ g L' h₁, Fr h₀ L g m → Fr g L' h₁ (fun y => binds.reverse.lookup y) → News g L' h₁ news → Below A base (env :: outer) g → K.In g → Top p loose mean mg mb g → (∀ q ∈ news, q.1 < L') →
      wpAny (model prog w) (A.deeper (envOf qual ⟨k1, k2, k3, k4, k5⟩ L' f cdv)) (execs (s1 :: r1) (envOf qual ⟨k1, k2, k3, k4, k5⟩ L' f cdv))
        (fun fl s' => LeaveK h₀ L m g R (match fl with | .ret v => v | _ => .none) s')
        (fun e s' => wpAny (model prog w) (A.deeper (envOf qual ⟨k1, k2, k3, k4, k5⟩ L' f cdv)) (leaving (envOf qual ⟨k1, k2, k3, k4, k5⟩ L' f cdv) e) (fun _ s'' => R (.error e) s'') (fun e' s'' => R (.error e') s'') s')
        { s with heap := h₁, toks := s.toks + binds.length })
    (hco : k4 = false) (hgen : k3 = false) (hk : k1 = .function) (hcell : ∀ x ∈ k2, x.2 ≠ .cell) : codeAny (model prog w) A (.call (.ref f) args) R s :=
  callX_plain (cl := []) B F N T.nolimit hA hf hke ((X₀.keeps F.keep) _ _ ho) rfl (codeRec_of (X₀.keeps F.keep) hcd) hroom hbind hloc (fun g L' h₁ FG F' N' B' st l => h g L' h₁ FG F' N' B' (X₀.keeps st) (T.keeps st) l) hcell hco hgen hk
/-- into a def of the text whose names are cells -/
theorem code_defC2 (B : Below A₀ base outer h₀) (F : Fr h₀ L s.heap m) (X₀ : K.In h₀) (N : News h₀ L s.heap news) (T : Top p loose mean mg mb h₀) (hA : A.frames = some (env :: outer)) (hf : env.frame = some L) (hke : env.scope.kind = .function)
    (ho : K.lookup f = some ⟨oc, od, .func (fnOf name qual ⟨a1, a2, a3, a4, a5, a6, a7⟩ (s1 :: r1) ⟨k1, k2, k3, k4, k5⟩ dV kV doc pm an cdv ct), osl⟩) (hcd : codeIn K cdv qual = true) (hroom : A.depth < recursionLimit)
    (hbind : BindsTo s (fnOf name qual ⟨a1, a2, a3, a4, a5, a6, a7⟩ (s1 :: r1) ⟨k1, k2, k3, k4, k5⟩ dV kV doc pm an cdv ct) args binds) (hkind : (binds.all fun y => k2.lookup y.1 == some .local || k2.lookup y.1 == some .cell) = true)
    (hnd : ((cellsFrom 0 k2 []).map (·.1)).Nodup)
    (h : ∀ g L' h₁ tk cells, Fr h₀ L g m → Fr g L' h₁ (bindL (envOfC qual ⟨k1, k2, k3, k4, k5⟩ L' f cdv).kindOf binds fun _ => none) → News g L' h₁ (cells ++ news) →
      CellsAre (bindC (envOfC qual ⟨k1, k2, k3, k4, k5⟩ L' f cdv).kindOf binds fun _ => none) (cellsFrom (L' + 1) k2 []) cells → Below A base (env :: outer) g → K.In g → Top p loose mean mg mb g → (∀ p ∈ news, p.1 < L') →
      wpAny (model prog w) (A.deeper (envOfC qual ⟨k1, k2, k3, k4, k5⟩ L' f cdv)) (execs (s1 :: r1) (envOfC qual ⟨k1, k2, k3, k4, k5⟩ L' f cdv))
        (fun fl s' => LeaveK h₀ L m g R (match fl with | .ret v => v | _ => .none) s')
        (fun e s' => wpAny (model prog w) (A.deeper (envOfC qual ⟨k1, k2, k3, k4, k5⟩ L' f cdv)) (leaving (envOfC qual ⟨k1, k2, k3, k4, k5⟩ L' f cdv) e) (fun _ s'' => R (.error e) s'') (fun e' s'' => R (.error e') s'') s')
        { s with heap := h₁, toks := tk })
    (hco : k4 = false) (hgen : k3 = false) (hk : k1 = .function) : codeAny (model prog w) A (.call (.ref f) args) R s :=
  code_defC B F X₀ N T hA hf hke ho hcd hroom hbind hkind hnd h hco hgen hk
end
end Mine
end

section
open PySem PySem.W PyProof.Rows
set_option linter.unusedVariables false
namespace Mine
theorem locs2 {k2 : List (Str × NameKind)} {binds : List (Str × Value)} (h : (binds.all fun x => decide (k2.lookup x.1 = some .local)) = true) : ∀ y ∈ binds, k2.lookup y.1 = some .local := fun y hy => of_decide_eq_true (List.all_eq_true.mp h y hy)
section
variable {prog : Program} {w : World} {A : Around} {s : Shared} {env : Env} {h₀ : Heap}
/-- an iterator's object -/
def Itr (c : String) (o : Obj) : Prop := o.cls = .type c ∧ ∀ vs, o.data = .fields vs → ∀ q t, vs[1]? ≠ some (.str q t)
/-- a turn's end -/
def TurnEnd (h₀ : Heap) (L I : Addr) (oI : Obj) (src : List (Addr × Obj)) (J : (Str → Option Value) → List (Addr × Obj) → Array GenState → Prop) (s₀ : Shared) (R : Flow → Shared → Prop) (f : Flow) (s' : Shared) : Prop := match f with
  | .ret v => R (.ret v) s'
  | .brk => R .next s'
  | _ => ∃ m₂ news₂ h₂ tk₂ gs₂, s' = ⟨h₂, gs₂, s₀.drawn, tk₂, s₀.os⟩ ∧ Fr h₀ L h₂ m₂ ∧ News h₀ L h₂ ((I, oI) :: news₂) ∧ (∀ q ∈ src, q ∈ news₂) ∧ (∀ q ∈ news₂, q.1 ≠ I) ∧ J m₂ news₂ gs₂
/-- a for over anything that walks -/
theorem for_rule {PI : Obj → Prop} {R : Flow → Shared → Prop} {RE : Value → Shared → Prop} {x : Str} {px : Pos} {body orelse : List Stmt} {I : Addr} {fp : List Addr} {n : Nat} {P : Nat → Value → Prop} {St : Nat → Heap → Prop} {m : Str → Option Value} {news : List (Addr × Obj)}
    (J : Nat → (Str → Option Value) → List (Addr × Obj) → Array GenState → Prop) (src : List (Addr × Obj))
    (W : Walks prog w A I fp [I] n P St) (hx : env.kindOf x = some .local) (hp : (env.scope.kind == .class || (env.scope.kind == .module && env.locals != env.globals)) = false)
    (hIp : ∀ i h, St i h → ∃ o, h.get? I = some o ∧ PI o) (hfp : ∀ b ∈ fp, b = I ∨ (∃ o, (b, o) ∈ src) ∨ ∃ o, h₀.get? b = some o)
    (hst : St 0 s.heap) (F : Fr h₀ env.locals s.heap m) (N : News h₀ env.locals s.heap news) (hsrc : ∀ q ∈ src, q ∈ news) (hI : ∀ q ∈ news, q.1 ≠ I) (hI0 : h₀.get? I = none) (hIL : I ≠ env.locals) (h0 : J 0 m news s.gens)
    (turn : ∀ i v m₁ news₁ h₁ tk gs oI, i < n → P i v → J i m₁ news₁ gs → (∀ q ∈ src, q ∈ news₁) → (∀ q ∈ news₁, q.1 ≠ I) → PI oI → Fr h₀ env.locals h₁ (fun y => if y = x then some v else m₁ y) → News h₀ env.locals h₁ ((I, oI) :: news₁) →
      wpAny (model prog w) A (execs body env) (TurnEnd h₀ env.locals I oI src (J (i + 1)) s R) (fun _ _ => False) ⟨h₁, gs, s.drawn, tk, s.os⟩)
    (done : ∀ m₁ news₁ h₁ tk gs, J n m₁ news₁ gs → (∀ q ∈ src, q ∈ news₁) → Fr h₀ env.locals h₁ m₁ → News h₀ env.locals h₁ news₁ → wpAny (model prog w) A (execs orelse env) R (fun _ _ => False) ⟨h₁, gs, s.drawn, tk, s.os⟩) :
    codeAny (model prog w) A (.forLoop (.Name x px) (.ref I) body orelse env) (fun r s' => match r with | .ok f => R f s' | .error e => RE e s') s := by
  refine codeAny_forLoop
    (fun k s' => ∃ h' tk gs m' news' i, s' = ⟨h', gs, s.drawn, tk, s.os⟩ ∧ St i h' ∧ Fr h₀ env.locals h' m' ∧ News h₀ env.locals h' news' ∧ (∀ q ∈ src, q ∈ news') ∧ (∀ q ∈ news', q.1 ≠ I) ∧ J i m' news' gs ∧ i ≤ n ∧ k = n + 1 - i) ?_ (n + 1)
    ⟨s.heap, s.toks, s.gens, m, news, 0, rfl, hst, F, N, hsrc, hI, h0, Nat.zero_le _, rfl⟩
  rintro k s' ⟨h', tk, gs, m', news', i, rfl, hst', F', N', hsrc', hI', hJ, hi, rfl⟩
  have next : ∀ h₁ : Heap, (∀ b o, b ∉ [I] → h'.get? b = some o → h₁.get? b = some o) → Fr h₀ env.locals h₁ m' ∧ News h₀ env.locals h₁ news' := fun h₁ hk₁ =>
    ⟨⟨F'.ns.at' fun o e => hk₁ _ o (fun h => hIL (List.mem_singleton.mp h).symm) e, fun b o e => hk₁ b o (fun h => by rw [List.mem_singleton.mp h, hI0] at e; cases e) (F'.keep b o e), F'.above⟩, fun p hp => ⟨hk₁ _ _ (fun h => hI' p hp (List.mem_singleton.mp h)) (N' p hp).1, (N' p hp).2⟩⟩
  by_cases hlt : i < n
  · refine W.item i _ _ _ hlt hst' fun v h₁ tk₁ hP hst₁ hk₁ => ?_
    obtain ⟨F₁, N₁⟩ := next h₁ hk₁
    refine wpAny_assign_Name (wpAny_storeName_local hx F₁.ns (fun h₂ hn₂ hs₂ => ?_) hp)
    have F₂ := F₁.set hn₂ hs₂
    obtain ⟨oI, eI, cI⟩ := hIp _ _ hst₁
    have eI₂ : h₂.get? I = some oI := (hs₂.2 I hIL).trans eI
    have N₂ : News h₀ env.locals h₂ ((I, oI) :: news') := fun p hp => by
      rcases List.mem_cons.mp hp with rfl | hp
      · exact ⟨eI₂, hIL, hI0⟩
      · exact (N₁.set hs₂) p hp
    refine wpAny_mono (turn i v m' news' h₂ _ gs oI hlt hP hJ hsrc' hI' cI F₂ N₂) (fun f s₃ h₃ => ?_) fun _ _ e => e.elim
    have go : (∃ m₂ news₂ h₂ tk₂ gs₂, s₃ = ⟨h₂, gs₂, s.drawn, tk₂, s.os⟩ ∧ Fr h₀ env.locals h₂ m₂ ∧ News h₀ env.locals h₂ ((I, oI) :: news₂) ∧ (∀ q ∈ src, q ∈ news₂) ∧ (∀ q ∈ news₂, q.1 ≠ I) ∧ J (i + 1) m₂ news₂ gs₂) →
        ∃ k, k < n + 1 - i ∧ ∃ h' tk gs m' news' i, s₃ = ⟨h', gs, s.drawn, tk, s.os⟩ ∧ St i h' ∧ Fr h₀ env.locals h' m' ∧ News h₀ env.locals h' news' ∧ (∀ q ∈ src, q ∈ news') ∧ (∀ q ∈ news', q.1 ≠ I) ∧ J i m' news' gs ∧ i ≤ n ∧ k = n + 1 - i := by
      rintro ⟨m₂, news₂, h₄, tk₃, gs₃, e₄, F₃, N₃, s₃', I₃, J₃⟩
      refine ⟨n + 1 - (i + 1), by omega, h₄, tk₃, gs₃, m₂, news₂, i + 1, e₄, ?_, F₃, fun p hp => N₃ p (.tail _ hp), s₃', I₃, J₃, hlt, rfl⟩
      refine W.frame _ _ _ hst₁ fun b hb o e => ?_
      rcases hfp b hb with rfl | ⟨o', hs⟩ | ⟨o', ho⟩
      · rw [eI] at e; cases e; exact (N₃ _ (.head _)).1
      · have e1 := (N₁ _ (hsrc' _ hs)).1
        dsimp only at e1
        rw [e] at e1; cases e1
        exact (N₃ _ (.tail _ (s₃' _ hs))).1
      · have e1 := F₁.keep _ _ ho
        rw [e] at e1; cases e1
        exact F₃.keep _ _ ho
    cases f with
    | ret v => exact h₃
    | brk => exact h₃
    | cont => exact go h₃
    | next => exact go h₃
  · have hin : i = n := by omega
    subst hin
    refine W.done _ _ _ hst' fun h₁ tk₁ hk₁ => ?_
    obtain ⟨F₁, N₁⟩ := next h₁ hk₁
    exact wpAny_mono (done m' news' h₁ tk₁ gs hJ hsrc' F₁ N₁) (fun _ _ x => x) fun _ _ e => e.elim

/-- over a list of the ledger -/
theorem iter_list {R : Flow → Shared → Prop} {RE E : Value → Shared → Prop} {x : Str} {px : Pos} {body orelse : List Stmt} {l : Addr} {items : Array Value} {k : Nat} {m : Str → Option Value} {news : List (Addr × Obj)}
    (J : Nat → (Str → Option Value) → List (Addr × Obj) → Array GenState → Prop)
    (F : Fr h₀ env.locals s.heap m) (N : News h₀ env.locals s.heap news) (hl : (l, listOf items k) ∈ news) (h0 : J 0 m news s.gens)
    (turn : ∀ I i v m₁ news₁ h₁ tk gs oI, items[i]? = some v → J i m₁ news₁ gs → (l, listOf items k) ∈ news₁ → (∀ q ∈ news₁, q.1 ≠ I) → Itr "list_iterator" oI → Fr h₀ env.locals h₁ (fun y => if y = x then some v else m₁ y) → News h₀ env.locals h₁ ((I, oI) :: news₁) →
      wpAny (model prog w) A (execs body env) (TurnEnd h₀ env.locals I oI [(l, listOf items k)] (J (i + 1)) s R) (fun _ _ => False) ⟨h₁, gs, s.drawn, tk, s.os⟩)
    (done : ∀ m₁ news₁ h₁ tk gs, J items.size m₁ news₁ gs → (l, listOf items k) ∈ news₁ → Fr h₀ env.locals h₁ m₁ → News h₀ env.locals h₁ news₁ → wpAny (model prog w) A (execs orelse env) R (fun _ _ => False) ⟨h₁, gs, s.drawn, tk, s.os⟩)
    (hh : A.handled = none := by rfl) (hx : env.kindOf x = some .local := by rfl) (hp : (env.scope.kind == .class || (env.scope.kind == .module && env.locals != env.globals)) = false := by rfl) :
    wpAny (model prog w) A (pyIter (.ref l)) (fun it s₂ => codeAny (model prog w) A (.forLoop (.Name x px) it body orelse env) (fun r s' => match r with | .ok f => R f s' | .error e => RE e s') s₂) E s := by
  have hls : s.heap.IsList l items := News.isList N hl
  have hne : l ≠ s.heap.objs.size := Nat.ne_of_lt (Heap.lt_size (N _ hl).1)
  refine wpAny_pyIter_list hls ?_
  have N' := News.push F N { cls := .type "list_iterator", data := .fields #[.ref l, .int 0 0] }
  refine for_rule (PI := Itr "list_iterator") (s := { s with heap := _ }) J [(l, listOf items k)] (Walks.list hh _ l hne items) hx hp (fun i h st => ?_) (fun b hb => ?_) ⟨⟨_, Heap.get?_push_size _ rfl, rfl, rfl⟩, hls.at fun o e => Heap.get?_push_of_some _ e⟩
    (F.push _) (fun p hp => N' p (.tail _ hp)) (fun q hq => by rw [List.mem_singleton.mp hq]; exact hl) (fun q hq => Nat.ne_of_lt (Heap.lt_size (N q hq).1)) (N' _ (.head _)).2.2 (N' _ (.head _)).2.1 h0
    (fun i v m₁ news₁ h₁ tk gs oI _ hv hJ hs hI c F₁ N₁ => turn _ i v m₁ news₁ h₁ tk gs oI hv hJ (hs _ (.head _)) hI c F₁ N₁)
    (fun m₁ news₁ h₁ tk gs hJ hs F₁ N₁ => done m₁ news₁ h₁ tk gs hJ (hs _ (.head _)) F₁ N₁)
  · obtain ⟨⟨o, e, c, d⟩, _⟩ := st
    exact ⟨o, e, c, fun vs hv q t => by rw [d] at hv; cases hv; simp⟩
  · rcases List.mem_cons.mp hb with rfl | hb
    · exact .inl rfl
    · exact .inr (.inl ⟨_, by rw [List.mem_singleton.mp hb]; exact .head _⟩)
/-- over a list of the ledger, from its end -/
theorem iter_rev {R : Flow → Shared → Prop} {RE E : Value → Shared → Prop} {x : Str} {px : Pos} {body orelse : List Stmt} {D l : Addr} {items : List Value} {k : Nat} {m : Str → Option Value} {news : List (Addr × Obj)}
    (J : Nat → (Str → Option Value) → List (Addr × Obj) → Array GenState → Prop)
    (F : Fr h₀ env.locals s.heap m) (N : News h₀ env.locals s.heap news) (hD : (D, revObj l ((items.length : Int) - 1)) ∈ news) (hl : (l, listOf items.toArray k) ∈ news) (h0 : J 0 m (off D news) s.gens)
    (turn : ∀ i v m₁ news₁ h₁ tk gs oI, i < items.length → items[items.length - 1 - i]? = some v → J i m₁ news₁ gs → (l, listOf items.toArray k) ∈ news₁ → (∀ q ∈ news₁, q.1 ≠ D) → Itr "list_reverseiterator" oI → Fr h₀ env.locals h₁ (fun y => if y = x then some v else m₁ y) → News h₀ env.locals h₁ ((D, oI) :: news₁) →
      wpAny (model prog w) A (execs body env) (TurnEnd h₀ env.locals D oI [(l, listOf items.toArray k)] (J (i + 1)) s R) (fun _ _ => False) ⟨h₁, gs, s.drawn, tk, s.os⟩)
    (done : ∀ m₁ news₁ h₁ tk gs, J items.length m₁ news₁ gs → (l, listOf items.toArray k) ∈ news₁ → Fr h₀ env.locals h₁ m₁ → News h₀ env.locals h₁ news₁ → wpAny (model prog w) A (execs orelse env) R (fun _ _ => False) ⟨h₁, gs, s.drawn, tk, s.os⟩)
    (hh : A.handled = none := by rfl) (hx : env.kindOf x = some .local := by rfl) (hp : (env.scope.kind == .class || (env.scope.kind == .module && env.locals != env.globals)) = false := by rfl) :
    wpAny (model prog w) A (pyIter (.ref D)) (fun it s₂ => codeAny (model prog w) A (.forLoop (.Name x px) it body orelse env) (fun r s' => match r with | .ok f => R f s' | .error e => RE e s') s₂) E s := by
  have hls : s.heap.IsList l items.toArray := News.isList N hl
  have hit : s.heap.IsRevIter D l ((items.length : Int) - 1) := ⟨_, (N _ hD).1, rfl, rfl⟩
  have hne : l ≠ D := ne_obj N hl hD (fun e => nomatch congrArg Obj.data e)
  refine wpAny_pyIter_revIter hit ?_
  have W := Walks.listRev (prog := prog) (w := w) hh D l hne items.toArray
  rw [List.size_toArray] at W
  refine for_rule (PI := Itr "list_reverseiterator") J [(l, listOf items.toArray k)] W hx hp (fun i h st => ?_) (fun b hb => ?_) ⟨Nat.zero_le _, by simpa using hit, hls⟩
    F (News.sub N off_sub) (fun q hq => by rw [List.mem_singleton.mp hq]; exact mem_off.mpr ⟨hl, hne⟩) off_ne (N _ hD).2.2 (N _ hD).2.1 h0
    (fun i v m₁ news₁ h₁ tk gs oI hi hv hJ hs hI c F₁ N₁ => turn i v m₁ news₁ h₁ tk gs oI hi (by simpa using hv) hJ (hs _ (.head _)) hI c F₁ N₁)
    (fun m₁ news₁ h₁ tk gs hJ hs F₁ N₁ => done m₁ news₁ h₁ tk gs hJ (hs _ (.head _)) F₁ N₁)
  · obtain ⟨_, ⟨o, e, c, d⟩, _⟩ := st
    exact ⟨o, e, c, fun vs hv q t => by rw [d] at hv; cases hv; simp [rawInt]⟩
  · rcases List.mem_cons.mp hb with rfl | hb
    · exact .inl rfl
    · exact .inr (.inl ⟨_, by rw [List.mem_singleton.mp hb]; exact .head _⟩)
end
end Mine
end

section
open PySem PySem.W PyProof.Rows
set_option linter.unusedVariables false
namespace Mine
section
variable {prog : Program} {w : World} {A : Around} {s : Shared} {env : Env} {h₀ : Heap}
/-- over the signs of an ASCII text -/
theorem iter_str {R : Flow → Shared → Prop} {RE E : Value → Shared → Prop} {x : Str} {px : Pos} {body orelse : List Stmt} {tx : Str} {tt : Tok} {m : Str → Option Value} {news : List (Addr × Obj)}
    (J : Nat → (Str → Option Value) → List (Addr × Obj) → Array GenState → Prop) (ha : tx.cps.all (· < 128) = true)
    (F : Fr h₀ env.locals s.heap m) (N : News h₀ env.locals s.heap news) (h0 : J 0 m news s.gens)
    (turn : ∀ I i c u m₁ news₁ h₁ tk gs oI, tx.cps[i]? = some c → J i m₁ news₁ gs → (∀ q ∈ news₁, q.1 ≠ I) → oI.cls ≠ .none → Fr h₀ env.locals h₁ (fun y => if y = x then some (.str ⟨#[c]⟩ u) else m₁ y) → News h₀ env.locals h₁ ((I, oI) :: news₁) →
      wpAny (model prog w) A (execs body env) (TurnEnd h₀ env.locals I oI [] (J (i + 1)) s R) (fun _ _ => False) ⟨h₁, gs, s.drawn, tk, s.os⟩)
    (done : ∀ m₁ news₁ h₁ tk gs, J tx.cps.size m₁ news₁ gs → Fr h₀ env.locals h₁ m₁ → News h₀ env.locals h₁ news₁ → wpAny (model prog w) A (execs orelse env) R (fun _ _ => False) ⟨h₁, gs, s.drawn, tk, s.os⟩)
    (hh : A.handled = none := by rfl) (hx : env.kindOf x = some .local := by rfl) (hp : (env.scope.kind == .class || (env.scope.kind == .module && env.locals != env.globals)) = false := by rfl) :
    wpAny (model prog w) A (pyIter (.str tx tt)) (fun it s₂ => codeAny (model prog w) A (.forLoop (.Name x px) it body orelse env) (fun r s' => match r with | .ok f => R f s' | .error e => RE e s') s₂) E s := by
  refine wpAny_pyIter_ascii ha ?_
  have N' := News.push F N { cls := .type "str_ascii_iterator", data := .fields #[.str tx tt, .int 0 0] }
  refine for_rule (PI := fun o => o.cls ≠ .none) (s := { s with heap := _ }) J [] (Walks.strAscii hh _ tx tt) hx hp (fun i h st => ?_) (fun b hb => .inl (List.mem_singleton.mp hb)) ⟨_, Heap.get?_push_size _ rfl, rfl, rfl⟩
    (F.push _) (fun p hp => N' p (.tail _ hp)) (fun q hq => nomatch hq) (fun q hq => Nat.ne_of_lt (Heap.lt_size (N q hq).1)) (N' _ (.head _)).2.2 (N' _ (.head _)).2.1 h0
    (fun i v m₁ news₁ h₁ tk gs oI _ hv hJ hs hI c F₁ N₁ => ?_)
    (fun m₁ news₁ h₁ tk gs hJ hs F₁ N₁ => done m₁ news₁ h₁ tk gs hJ F₁ N₁)
  · obtain ⟨o, e, c, _⟩ := st
    exact ⟨o, e, by rw [c]; nofun⟩
  · obtain ⟨c', u, e1, rfl⟩ := hv
    exact turn _ i c' u m₁ news₁ h₁ tk gs oI e1 hJ hI c F₁ N₁
abbrev rangeO (a b c : Int) (t u v : Tok) : Obj := { cls := .type "range", data := .fields #[.int a t, .int b u, .int c v] }
/-- over a range of the ledger -/
theorem iter_range {R : Flow → Shared → Prop} {RE E : Value → Shared → Prop} {x : Str} {px : Pos} {body orelse : List Stmt} {r : Addr} {a b c : Int} {t u v : Tok} {n : Nat} {m : Str → Option Value} {news : List (Addr × Obj)}
    (J : Nat → (Str → Option Value) → List (Addr × Obj) → Array GenState → Prop) (hr : s.heap.get? r = some (rangeO a b c t u v)) (hsm : Builtin.Range.small a b c = true) (hn : Builtin.Range.rangeSize a b c = n)
    (F : Fr h₀ env.locals s.heap m) (N : News h₀ env.locals s.heap news) (h0 : J 0 m news s.gens)
    (turn : ∀ I i tv m₁ news₁ h₁ tk gs oI, i < n → J i m₁ news₁ gs → (∀ q ∈ news₁, q.1 ≠ I) → oI.cls ≠ .none → Fr h₀ env.locals h₁ (fun y => if y = x then some (.int (a + i * c) tv) else m₁ y) → News h₀ env.locals h₁ ((I, oI) :: news₁) →
      wpAny (model prog w) A (execs body env) (TurnEnd h₀ env.locals I oI [] (J (i + 1)) s R) (fun _ _ => False) ⟨h₁, gs, s.drawn, tk, s.os⟩)
    (done : ∀ m₁ news₁ h₁ tk gs, J n m₁ news₁ gs → Fr h₀ env.locals h₁ m₁ → News h₀ env.locals h₁ news₁ → wpAny (model prog w) A (execs orelse env) R (fun _ _ => False) ⟨h₁, gs, s.drawn, tk, s.os⟩)
    (hh : A.handled = none := by rfl) (hx : env.kindOf x = some .local := by rfl) (hp : (env.scope.kind == .class || (env.scope.kind == .module && env.locals != env.globals)) = false := by rfl) :
    wpAny (model prog w) A (pyIter (.ref r)) (fun it s₂ => codeAny (model prog w) A (.forLoop (.Name x px) it body orelse env) (fun r s' => match r with | .ok f => R f s' | .error e => RE e s') s₂) E s := by
  refine wpAny_pyIter_range hr hsm ?_
  rw [hn]
  have N' := News.push F N { cls := .type "range_iterator", data := .fields #[rawInt a, rawInt n, rawInt c] }
  refine for_rule (PI := fun o => o.cls ≠ .none) (s := { s with heap := _ }) J [] (Walks.range hh _ a c n) hx hp (fun i h st => ⟨_, st, nofun⟩) (fun b hb => .inl (List.mem_singleton.mp hb)) ?_
    (F.push _) (fun p hp => N' p (.tail _ hp)) (fun q hq => nomatch hq) (fun q hq => Nat.ne_of_lt (Heap.lt_size (N q hq).1)) (N' _ (.head _)).2.2 (N' _ (.head _)).2.1 h0
    (fun i v m₁ news₁ h₁ tk gs oI hi hv hJ hs hI c F₁ N₁ => ?_)
    (fun m₁ news₁ h₁ tk gs hJ hs F₁ N₁ => done m₁ news₁ h₁ tk gs hJ F₁ N₁)
  · show (Heap.push _ _).get? _ = _
    rw [Heap.get?_push_size _ rfl]
    simp [rawInt]
  · obtain ⟨tv, rfl⟩ := hv
    exact turn _ i tv m₁ news₁ h₁ tk gs oI hi hJ hI c F₁ N₁
end
end Mine
end

section
open PySem PySem.W PyProof.Rows
set_option linter.unusedVariables false
namespace Mine
theorem Itr.noT {c : String} {o : Obj} (h : Itr c o) : ¬ isT o := notT (by rw [h.1]; nofun)
section
variable {news : List (Addr × Obj)} {h₀ h : Heap} {L I : Addr} {oI : Obj} {c : String}
theorem cls_off (N : News h₀ L h news) (hI : (I, oI) ∈ news) {q : Addr × Obj} (hq : q ∈ news) (hc : q.2.cls ≠ oI.cls) : q ∈ off I news :=
  mem_off.mpr ⟨hq, fun e => by
    have e1 := (N _ hI).1
    have e2 := (N _ hq).1
    rw [e] at e2
    rw [e1] at e2
    injection e2 with e2
    exact hc (by rw [← e2])⟩
theorem TabOk.offI {P : Addr} {line col : Nat} {qual : Str} (t : TabOk P line col qual news) (N : News h₀ L h news) (hI : (I, oI) ∈ news) (hi : Itr c oI) : TabOk P line col qual (Mine.off I news) := by
  rcases t with h | ⟨c', oc, vs, t, h1, h2, h3, h4⟩
  · exact .inl (cls_off N hI h (by rw [hi.1]; nofun))
  · refine .inr ⟨c', oc, vs, t, cls_off N hI h1 (by rw [hi.1]; nofun), mem_off.mpr ⟨h2, fun e => ?_⟩, h3, h4⟩
    have e1 := (N _ hI).1
    have e2 := (N _ h2).1
    dsimp only at e e1 e2
    rw [e, e1] at e2
    injection e2 with e2
    subst e2
    exact hi.2 _ h3 _ _ h4
theorem TabsOk.offI (t : TabsOk news) (N : News h₀ L h news) (hI : (I, oI) ∈ news) (hi : Itr c oI) : TabsOk (Mine.off I news) := ⟨t.len.offI N hI hi, t.str.offI N hI hi, t.i2d.offI N hI hi, t.d2i.offI N hI hi⟩
end
abbrev tupK (items : Array Value) (k : Nat) : Obj := { cls := .type "tuple", data := .seq items k }
section
variable {prog : Program} {w : World} {A : Around} {s : Shared} {env : Env} {h₀ : Heap}
/-- over a tuple of the ledger -/
theorem iter_tup {R : Flow → Shared → Prop} {RE E : Value → Shared → Prop} {x : Str} {px : Pos} {body orelse : List Stmt} {l : Addr} {items : Array Value} {k : Nat} {m : Str → Option Value} {news : List (Addr × Obj)}
    (J : Nat → (Str → Option Value) → List (Addr × Obj) → Array GenState → Prop)
    (F : Fr h₀ env.locals s.heap m) (N : News h₀ env.locals s.heap news) (hl : (l, tupK items k) ∈ news) (h0 : J 0 m news s.gens)
    (turn : ∀ I i v m₁ news₁ h₁ tk gs oI, items[i]? = some v → J i m₁ news₁ gs → (l, tupK items k) ∈ news₁ → (∀ q ∈ news₁, q.1 ≠ I) → Itr "tuple_iterator" oI → Fr h₀ env.locals h₁ (fun y => if y = x then some v else m₁ y) → News h₀ env.locals h₁ ((I, oI) :: news₁) →
      wpAny (model prog w) A (execs body env) (TurnEnd h₀ env.locals I oI [(l, tupK items k)] (J (i + 1)) s R) (fun _ _ => False) ⟨h₁, gs, s.drawn, tk, s.os⟩)
    (done : ∀ m₁ news₁ h₁ tk gs, J items.size m₁ news₁ gs → (l, tupK items k) ∈ news₁ → Fr h₀ env.locals h₁ m₁ → News h₀ env.locals h₁ news₁ → wpAny (model prog w) A (execs orelse env) R (fun _ _ => False) ⟨h₁, gs, s.drawn, tk, s.os⟩)
    (hh : A.handled = none := by rfl) (hx : env.kindOf x = some .local := by rfl) (hp : (env.scope.kind == .class || (env.scope.kind == .module && env.locals != env.globals)) = false := by rfl) :
    wpAny (model prog w) A (pyIter (.ref l)) (fun it s₂ => codeAny (model prog w) A (.forLoop (.Name x px) it body orelse env) (fun r s' => match r with | .ok f => R f s' | .error e => RE e s') s₂) E s := by
  have hls : s.heap.IsTuple l items := ⟨_, (N _ hl).1, rfl, _, rfl⟩
  have hne : l ≠ s.heap.objs.size := Nat.ne_of_lt (Heap.lt_size (N _ hl).1)
  refine wpAny_pyIter_tuple hls ?_
  have N' := News.push F N { cls := .type "tuple_iterator", data := .fields #[.ref l, .int 0 0] }
  refine for_rule (PI := Itr "tuple_iterator") (s := { s with heap := _ }) J [(l, tupK items k)] (Walks.tuple hh _ l hne items) hx hp (fun i h st => ?_) (fun b hb => ?_) ⟨⟨_, Heap.get?_push_size _ rfl, rfl, rfl⟩, hls.at fun o e => Heap.get?_push_of_some _ e⟩
    (F.push _) (fun p hp => N' p (.tail _ hp)) (fun q hq => by rw [List.mem_singleton.mp hq]; exact hl) (fun q hq => Nat.ne_of_lt (Heap.lt_size (N q hq).1)) (N' _ (.head _)).2.2 (N' _ (.head _)).2.1 h0
    (fun i v m₁ news₁ h₁ tk gs oI _ hv hJ hs hI c F₁ N₁ => turn _ i v m₁ news₁ h₁ tk gs oI hv hJ (hs _ (.head _)) hI c F₁ N₁)
    (fun m₁ news₁ h₁ tk gs hJ hs F₁ N₁ => done m₁ news₁ h₁ tk gs hJ (hs _ (.head _)) F₁ N₁)
  · obtain ⟨⟨o, e, c, d⟩, _⟩ := st
    exact ⟨o, e, c, fun vs hv q t => by rw [d] at hv; cases hv; simp⟩
  · rcases List.mem_cons.mp hb with rfl | hb
    · exact .inl rfl
    · exact .inr (.inl ⟨_, by rw [List.mem_singleton.mp hb]; exact .head _⟩)
end
end Mine
end

section
open PySem PySem.W PyProof.Rows
set_option linter.unusedVariables false
set_option maxRecDepth 100000
namespace Mine
/-- an _Accumulator -/
abbrev accO (dx : Addr) (items : Array Value) (n : Nat) : Obj := { cls := .ref 178, dict := some dx, data := .seq items n }
theorem acc_at {h₀ h : Heap} {L x dx : Addr} {news : List (Addr × Obj)} {items : Array Value} {n : Nat} {od : Obj} (N : News h₀ L h news) (h1 : (x, accO dx items n) ∈ news) (h2 : (dx, od) ∈ news) :
    InstAt h x (accO dx items n) 178 (some od) := ⟨(N _ h1).1, rfl, rfl, (N _ h2).1⟩
theorem acc_ga (P : Params) : findIn (Kf P) (.ref 178) "__getattribute__" = some (some (.builtin "list.__getattribute__")) := by kernel_rfl
theorem acc_gx (P : Params) : findIn (Kf P) (.ref 178) "__getattr__" = some none := by kernel_rfl
theorem canon_list_ga : Manifest.canonical "list.__getattribute__" = "object.__getattribute__" := by decide +kernel
section
variable {prog : Program} {w : World} {A : Around} {E : Value → Shared → Prop} {s : Shared} {x : Addr} {ox : Obj} {od : Obj} {name : Str}
/-- a method of an _Accumulator -/
theorem acc_method {P : Params} {pl : Sem Bool} {Q : Value × List Value → Shared → Prop} {f tf : Value} (X : (Kf P).In s.heap) (I : InstAt s.heap x ox 178 (some od))
    (hf : findIn (Kf P) (.ref 178) name = some (some f)) (ht : typeIn (Kf P) f = some tf) (htf : (tf != .type "function" && tf != .type "method_descriptor" && tf != .type "wrapper_descriptor") = false)
    (hs : lookIn name od = some none) (h : Q (f, [.ref x]) s) : wpAny (model prog w) A (getMethod (.ref x) name pl) Q E s := by
  unfold getMethod specialOf
  refine wpAny_bind (wpAny_bind (I.type.here ((looks_findIn X (acc_ga P)).here ?_)))
  dsimp only
  rw [canon_list_ga, if_neg (by decide)]
  refine wpAny_bind (wpAny_bind (I.type.here ((looks_findIn X (acc_gx P)).here ?_)))
  refine wpAny_bind (wpAny_bind (I.type.here ((looks_findIn X hf).here (wpAny_bind ((looks_typeIn X ht).here ?_)))))
  rw [if_neg (by rw [htf]; decide)]
  refine wpAny_bind (wpAny_loadPart I.at_ ?_)
  have hd := I.dict
  cases e : ox.dict with
  | none => rw [e] at hd; exact hd.elim
  | some dx =>
    rw [e] at hd
    refine wpAny_bind (wpAny_bind (wpAny_loadPart hd ?_))
    rw [nsLook_of hs]
    refine wpAny_pure ?_
    exact wpAny_bind (wpAny_rule (wpAny_pure h))
theorem lga_bind (self : Value) : bindSpecial (.builtin "list.__getattribute__") self = pure (.builtin "list.__getattribute__", [self]) :=
  (Slot.of (T := "list") (name := "__getattribute__") (owner := "list") (n := "__getattribute__") (by rw [typeLookup_type, builtinLookup_eq_fast]; kernel_rfl) (by decide +kernel) (by decide +kernel) (by decide +kernel)
    (.inl (by decide +kernel)) (by rw [isSubtype_type]; kernel_rfl)).bind self
theorem lga_plain : plainId "list.__getattribute__" = true := by decide +kernel
theorem lga_kind : builtinKind "list.__getattribute__" = some .slot := by decide +kernel
theorem lga_split : splitId "list.__getattribute__" = some ("list", "__getattribute__") := by decide +kernel
theorem lga_args (a b : Value) : argsOk "list.__getattribute__" ⟨[a, b], []⟩ := by unfold argsOk; kernel_rfl
theorem acc_sub (P : Params) : mroIn (Kf P) 178 (.type "list") = some true := by kernel_rfl
theorem acc_list {M : Model} {P : Params} {h : Heap} (X : (Kf P).In h) (I : InstAt h x ox 178 (some od)) : Looks M h (isInstance (.ref x) (.type "list")) true := I.type.andThen (looks_mroIn X (acc_sub P))
/-- a field of an _Accumulator -/
theorem acc_get {P : Params} {expr : Bool} {Q : Value → Shared → Prop} {v : Value} (X : (Kf P).In s.heap) (I : InstAt s.heap x ox 178 (some od))
    (hf : findObj (Kf P) 178 (some od) name = some (.value v)) (hv : handedIn v = true) (h : Q v { s with toks := s.toks + 1 }) : wpAny (model prog w) A (getAttr (.ref x) name expr) Q E s := by
  obtain ⟨hh, g, d, t, os⟩ := s
  have L0 := I.type (M := model prog w)
  have L1 := looks_findIn (M := model prog w) X (acc_ga P)
  have L2 := looks_findIn (M := model prog w) X (acc_gx P)
  have L3 := acc_list (M := model prog w) X I
  have L4 := looks_find (M := model prog w) X I hf
  unfold getAttr getAttrBy
  refine wpAny_bind (wpAny_mkText (wpAny_holding (wpAny_bind (L0.at (wpAny_bind (L1.at ?_))))))
  dsimp only
  rw [if_neg (by decide +kernel)]
  unfold getAttrByItsOwn
  refine wpAny_bind (L2.at (wpAny_bind (wpAny_attempt (wpAny_holding ?_))))
  unfold callGetattribute
  rw [show (expr && onTheHeap (.builtin "list.__getattribute__")) = false by cases expr <;> rfl, if_neg (by decide)]
  unfold boundAndCalled
  rw [lga_bind]
  refine wpAny_bind (wpAny_pure ?_)
  show wpAny _ _ (call (.builtin "list.__getattribute__") [.ref x, .str name t]) _ _ _
  refine wpAny_call (codeAny_call_builtin lga_plain PySem.F.entry_list_ga (@check_slot (model prog w) _ _ _ "list.__getattribute__" "list" "__getattribute__" (.ref x) [.str name t] [] _ lga_kind lga_split L3 (lga_args _ _) ?_))
  show wpAny _ _ (Builtin.«object.__getattribute__» ⟨[.ref x, .str name t], []⟩) _ _ _
  unfold Builtin.«object.__getattribute__»
  refine wpAny_bind (wpAny_pure (a := (Value.ref x, [Value.str name t])) ?_)
  refine wpAny_bind (wpAny_pure (a := name) ?_)
  refine wpAny_bind (L0.at (wpAny_bind (L4.at ?_)))
  refine wpAny_pure ?_
  show wpAny _ _ (handedOut v) _ _ _
  rw [handedOut_of hv]
  exact wpAny_pure h
end
end Mine
end

section
open PySem PySem.W PyProof.Rows Builtin Builtin.ObjectAttr
set_option linter.unusedVariables false
set_option maxRecDepth 100000
namespace Mine
section
variable {prog : Program} {w : World} {A : Around} {E : Value → Shared → Prop} {s : Shared} {x dx : Addr} {h₀ : Heap} {L : Addr} {m : Str → Option Value} {name : Str} {R : Result → Shared → Prop}
theorem acc_refuse (self : Value) : refuseLoop self "__setattr__" [.ref 178, .type "list", .type "object"] = pure () := by
  rw [refuseLoop_ref]; kernel_rfl
theorem acc_mro (P : Params) : (clsIn (Kf P) 178).map (fun cd => (cd.mro, cd.hasDict)) = some ([.ref 178, .type "list", .type "object"], true) := by kernel_rfl
theorem acc_obj (P : Params) : mroIn (Kf P) 178 (.type "object") = some true := by kernel_rfl
/-- a field of an _Accumulator is stored -/
theorem acc_osa {ox od od' : Obj} {tk : Tok} {v : Value} {pre post : List (Addr × Obj)} {es : List DictEntry} {n : Nat} (F : Fr h₀ L s.heap m) (N : News h₀ L s.heap (pre ++ (dx, od) :: post)) (X : (Kf w.params).In s.heap)
    (I : InstAt s.heap x ox 178 (some od)) (hd : ox.dict = some dx) (ht : findIn (Kf w.params) (.ref 178) name = some none)
    (hl : (lookIn name od).isSome = true) (h1 : ∀ p ∈ pre, p.1 ≠ dx) (h2 : ∀ p ∈ post, p.1 ≠ dx)
    (e : Obj.putName name (PyData.keyHash w.params name) (.str name s.toks) v od = od') (e' : od'.data = .dict es.toArray n) (hz : es.length ≤ 1000)
    (h : ∀ h', Fr h₀ L h' m → News h₀ L h' (pre ++ (dx, od') :: post) → R (.ok (.ret .none)) { s with heap := h', toks := s.toks + 1 }) :
    codeAny (model prog w) A (.call (.builtin "object.__setattr__") ⟨[.ref x, .str name tk, v], []⟩) R s := by
  have SF := PySem.F.store_object
  obtain ⟨cd, hc, hcd⟩ := Option.map_eq_some_iff.mp (acc_mro w.params)
  obtain ⟨hmro, hdict⟩ := Prod.mk.inj hcd
  have sub : Looks (model prog w) s.heap (isInstance (.ref x) (.type "object")) true := I.type.andThen (looks_mroIn X (acc_obj _))
  refine codeAny_call_builtin SF.slot.plain SF.entry (@check_slot (model prog w) _ _ s "object.__setattr__" "object" "__setattr__" (.ref x) [.str name tk, v] [] _ SF.kind SF.split sub (SF.args (.ref x) (.str name tk) v) ?_)
  have hm : Looks (model prog w) s.heap (mroOf (.ref 178)) cd.mro := (looks_clsIn X hc).andThen .now
  rw [osa_eq, refuse_eq]
  refine wpAny_bind (wpAny_bind (I.type.here (wpAny_bind (hm.here ?_))))
  rw [hmro, acc_refuse]
  refine wpAny_pure (wpAny_bind (I.type.here (wpAny_bind ((looks_findIn X ht).here (wpAny_bind (wpAny_pure ?_))))))
  obtain ⟨U1, U2⟩ := news_upd (f := Obj.putName name (PyData.keyHash w.params name) (.str name s.toks) v) F N h1 h2 e (by obtain ⟨_, _, dd, _⟩ := od'; cases e'; rfl)
  have D := (N (dx, od) (by simp)).1
  have D' := (U2 (dx, od') (by simp)).1
  obtain ⟨hx, hcl, hn, -⟩ := I
  obtain ⟨oc, odi, oda, osl⟩ := ox
  dsimp only at hcl hd
  subst hcl hd
  refine wpAny_bind (wpAny_pure (wpAny_bind (wpAny_bind (wpAny_loadPart hx (wpAny_bind ((looks_clsIn X hc).here ?_))))))
  rw [hdict]
  refine wpAny_pure (a := some dx) (wpAny_bind (wpAny_pure (wpAny_bind ?_)))
  unfold nsSet
  refine wpAny_bind (wpAny_bind (wpAny_askSetting (wpAny_pure (wpAny_bind (wpAny_mkText (wpAny_bind (wpAny_loadPart D ?_)))))))
  unfold lookIn at hl
  split at hl
  · rename_i es₀ n₀ q
    rw [q]
    dsimp only
    have c : (!es₀.any (·.key.isStr name) && es₀.any (·.refKey)) = false := by
      rw [← Array.any_toList, ← Array.any_toList]
      split at hl
      · rename_i en he
        rw [List.any_eq_true.mpr ⟨en, List.mem_of_find?_eq_some he, List.find?_some he⟩]; rfl
      · split at hl
        · cases hl
        · rename_i z; rw [Bool.not_eq_true] at z; rw [z, Bool.and_false]
    rw [aRefKeyMayBeTheName_at, c]
    refine wpAny_updatePart D ?_
    refine wpAny_bind (wpAny_lookBehind D' (by rw [e']; exact pastItsLine_dict (by rw [List.size_toArray, sizeLine_eq]; omega)) ?_)
    exact wpAny_pure (h _ U1 U2)
  · cases hl
theorem acc_sa (P : Params) : findIn (Kf P) (.ref 178) "__setattr__" = some (some (.builtin "object.__setattr__")) := by kernel_rfl
theorem acc_no (P : Params) : findIn (Kf P) (.ref 178) "_initial_size" = some none := by kernel_rfl
/-- the dict of an _Accumulator -/
abbrev accD (hsh : Int) (tk : Tok) (v : Value) (n : Nat) : Obj := dictOf [⟨hsh, .str "_initial_size" tk, v⟩] n
theorem acc_set1 {news : List (Addr × Obj)} {items : Array Value} {k n : Nat} {v : Value} {Q : Unit → Shared → Prop} (F : Fr h₀ L s.heap m) (X₀ : (Kf w.params).In h₀) (N : News h₀ L s.heap news)
    (h1 : (x, accO dx items k) ∈ news) (h2 : (dx, dictOf [] n) ∈ news)
    (h : ∀ hsh tk n' h', Fr h₀ L h' m → News h₀ L h' ((dx, accD hsh tk v n') :: off dx news) → Q () { s with heap := h', toks := s.toks + 2 }) :
    wpAny (model prog w) A (setAttr (.ref x) "_initial_size" v) Q E s :=
  set_plain (X₀.keeps F.keep) (acc_at N h1 h2) (acc_sa _) (acc_osa (s := { s with toks := s.toks + 1 }) (pre := []) (es := [⟨_, _, _⟩]) F (News.sub N (off_cover h2)) (X₀.keeps F.keep) (acc_at N h1 h2) rfl (acc_no _) rfl (by simp) off_ne
    (by rw [putName_dict]; rfl) rfl (Nat.le_of_ble_eq_true rfl) fun h' F' N' => h _ _ _ h' F' N')
theorem acc_set2 {news : List (Addr × Obj)} {items : Array Value} {k n : Nat} {hsh : Int} {tk : Tok} {v v₀ : Value} {Q : Unit → Shared → Prop} (F : Fr h₀ L s.heap m) (X₀ : (Kf w.params).In h₀) (N : News h₀ L s.heap news)
    (h1 : (x, accO dx items k) ∈ news) (h2 : (dx, accD hsh tk v₀ n) ∈ news)
    (h : ∀ n' h', Fr h₀ L h' m → News h₀ L h' ((dx, accD hsh tk v n') :: off dx news) → Q () { s with heap := h', toks := s.toks + 2 }) :
    wpAny (model prog w) A (setAttr (.ref x) "_initial_size" v) Q E s :=
  set_plain (X₀.keeps F.keep) (acc_at N h1 h2) (acc_sa _) (acc_osa (s := { s with toks := s.toks + 1 }) (pre := []) (es := [⟨_, _, _⟩]) F (News.sub N (off_cover h2)) (X₀.keeps F.keep) (acc_at N h1 h2) rfl (acc_no _) rfl (by simp) off_ne
    (by rw [putName_dict]; rfl) rfl (Nat.le_of_ble_eq_true rfl) fun h' F' N' => h _ h' F' N')
theorem acc_read {news : List (Addr × Obj)} {items : Array Value} {k n : Nat} {hsh : Int} {tk : Tok} {v : Value} {expr : Bool} {Q : Value → Shared → Prop} (F : Fr h₀ L s.heap m) (X₀ : (Kf w.params).In h₀) (N : News h₀ L s.heap news)
    (h1 : (x, accO dx items k) ∈ news) (h2 : (dx, accD hsh tk v n) ∈ news) (hv : handedIn v = true) (h : Q v { s with toks := s.toks + 1 }) : wpAny (model prog w) A (getAttr (.ref x) "_initial_size" expr) Q E s :=
  acc_get (X₀.keeps F.keep) (acc_at N h1 h2) (findObj_own (attr := none) (by kernel_rfl) (acc_no _) (by rfl) (by rw [lookIn_dict]; rfl)) hv h
end
end Mine
end

section
open PySem PySem.W PyProof.Rows
set_option linter.unusedVariables false
set_option maxRecDepth 100000
namespace Mine
theorem slot_md_get : Slot "method_descriptor" "__get__" "method_descriptor.__get__" := .of (owner := "method_descriptor") (n := "__get__") (by rw [typeLookup_type, builtinLookup_eq_fast]; kernel_rfl) (by decide +kernel) (by decide +kernel) (by decide +kernel)
  (by first | exact .inl (by decide +kernel) | exact .inr (by decide +kernel)) (by rw [isSubtype_type]; kernel_rfl)
theorem slot_wd_get : Slot "wrapper_descriptor" "__get__" "wrapper_descriptor.__get__" := .of (owner := "wrapper_descriptor") (n := "__get__") (by rw [typeLookup_type, builtinLookup_eq_fast]; kernel_rfl) (by decide +kernel) (by decide +kernel) (by decide +kernel)
  (by first | exact .inl (by decide +kernel) | exact .inr (by decide +kernel)) (by rw [isSubtype_type]; kernel_rfl)
theorem entry_md_get : entryFor table "method_descriptor.__get__" = some Builtin.«method_descriptor.__get__» := entryFor_of_tree (by kernel_rfl)
theorem entry_wd_get : entryFor table "wrapper_descriptor.__get__" = some Builtin.«wrapper_descriptor.__get__» := entryFor_of_tree (by kernel_rfl)
theorem args_md_get (a b c : Value) : argsOk "method_descriptor.__get__" ⟨[a, b, c], []⟩ := by unfold argsOk; kernel_rfl
theorem args_wd_get (a b c : Value) : argsOk "wrapper_descriptor.__get__" ⟨[a, b, c], []⟩ := by unfold argsOk; kernel_rfl
/-- a built-in method bound to an object -/
abbrev boundO (T : String) (i : String) (x : Addr) : Obj := { cls := .type T, data := .fields #[.builtin i, .ref x] }
section
variable {prog : Program} {w : World} {A : Around} {E : Value → Shared → Prop} {h : Heap} {g : Array GenState} {d : Drawn} {t : Nat} {os : OsState}
set_option maxHeartbeats 4000000 in
theorem sup_ga_wd {so D x C : Addr} {ox : Obj} {l₀ l : List Value} {K : Frag} {name : Str} {tk : Tok} {i : String} {Q : Fin → Shared → Prop}
    (hso : h.get? so = some { cls := .type "super", dict := none, data := .fields #[.ref D, .ref x, .ref C], slots := #[] }) (hno : Looks (model prog w) h (opaqueClassAbove (.ref C)) none)
    (hC : Looks (model prog w) h (mroOf (.ref C)) l₀) (hl : (l₀.dropWhile (· != .ref D)).drop 1 = l) (X : K.In h)
    (hf : alongIn K name l = some (some (.builtin i))) (hTf : ∀ s : Shared, s.TypeIs (.builtin i) "wrapper_descriptor") (hxC : x ≠ C) (hn : (name == ("__class__" : Str)) = false)
    (hx : h.get? x = some ox) (hxc : ox.cls = .ref C) (hown : ".".intercalate (i.cutAt '.').dropLast = "list") (hsub : Looks (model prog w) h (isSubtype (.ref C) (.type "list")) true)
    (hq : Q (.done (.ret (.ref h.objs.size))) ⟨h.push (boundO "method-wrapper" i x), g, d, t, os⟩) :
    wpAny (model prog w) A (Builtin.«super.__getattribute__» ⟨[.ref so, .str name tk], []⟩) Q E ⟨h, g, d, t, os⟩ := by
  have hlk := slot_wd_get.lookup
  have hne : (Value.ref x == Value.ref C) = false := by simp [hxC]
  have hdt : ({ cls := .type "super", dict := none, data := .fields #[.ref D, .ref x, .ref C], slots := #[] } : Obj).data = .fields #[.ref D, .ref x, .ref C] := rfl
  have f0 : (#[.ref D, .ref x, .ref C] : Array Value)[0]? = some (.ref D) := rfl
  have f1 : (#[.ref D, .ref x, .ref C] : Array Value)[1]? = some (.ref x) := rfl
  have f2 : (#[.ref D, .ref x, .ref C] : Array Value)[2]? = some (.ref C) := rfl
  unfold Builtin.«super.__getattribute__»
  repeat (first
    | (with_reducible refine wpAny_field hso hdt f0 ?_) | (with_reducible refine wpAny_field hso hdt f1 ?_) | (with_reducible refine wpAny_field hso hdt f2 ?_)
    | (with_reducible refine ks_wpAny_notOpaque hno ?_)
    | (with_reducible refine Looks.at hC ?_; rw [hl])
    | (refine ks_forIn_along X (fun _ _ => rfl) rfl ?_ hf)
    | (with_reducible refine wpAny_typeOf (hTf _) ?_)
    | (with_reducible refine wpAny_call_entry slot_wd_get (hTf _) entry_wd_get ?_ (args_wd_get _ _ _))
    | (simp only [hn, hne, Bool.or_false, Bool.false_eq_true, if_false])
    | wp_step
    | dsimp only)
  rw [hxc, hown]
  refine hsub.at ?_
  rw [if_neg (by decide)]
  refine wpAny_pure (wpAny_bind ?_)
  unfold newFields
  refine wpAny_newObj_type (wpAny_pure ⟨_, rfl, ?_⟩) (by size_fits)
  exact wpAny_bind (wpAny_pure (wpAny_pure (wpAny_pure hq)))
set_option maxHeartbeats 4000000 in
theorem sup_ga_md {so D x C : Addr} {ox : Obj} {l₀ l : List Value} {K : Frag} {name : Str} {tk : Tok} {i : String} {Q : Fin → Shared → Prop}
    (hso : h.get? so = some { cls := .type "super", dict := none, data := .fields #[.ref D, .ref x, .ref C], slots := #[] }) (hno : Looks (model prog w) h (opaqueClassAbove (.ref C)) none)
    (hC : Looks (model prog w) h (mroOf (.ref C)) l₀) (hl : (l₀.dropWhile (· != .ref D)).drop 1 = l) (X : K.In h)
    (hf : alongIn K name l = some (some (.builtin i))) (hTf : ∀ s : Shared, s.TypeIs (.builtin i) "method_descriptor") (hxC : x ≠ C) (hn : (name == ("__class__" : Str)) = false)
    (hx : h.get? x = some ox) (hxc : ox.cls = .ref C) (hown : ".".intercalate (i.cutAt '.').dropLast = "list") (hto : Manifest.toldItsClass.contains i = false) (hsub : Looks (model prog w) h (isSubtype (.ref C) (.type "list")) true)
    (hq : Q (.done (.ret (.ref h.objs.size))) ⟨h.push (boundO "builtin_function_or_method" i x), g, d, t, os⟩) :
    wpAny (model prog w) A (Builtin.«super.__getattribute__» ⟨[.ref so, .str name tk], []⟩) Q E ⟨h, g, d, t, os⟩ := by
  have hlk := slot_md_get.lookup
  have hne : (Value.ref x == Value.ref C) = false := by simp [hxC]
  have hdt : ({ cls := .type "super", dict := none, data := .fields #[.ref D, .ref x, .ref C], slots := #[] } : Obj).data = .fields #[.ref D, .ref x, .ref C] := rfl
  have f0 : (#[.ref D, .ref x, .ref C] : Array Value)[0]? = some (.ref D) := rfl
  have f1 : (#[.ref D, .ref x, .ref C] : Array Value)[1]? = some (.ref x) := rfl
  have f2 : (#[.ref D, .ref x, .ref C] : Array Value)[2]? = some (.ref C) := rfl
  unfold Builtin.«super.__getattribute__»
  repeat (first
    | (with_reducible refine wpAny_field hso hdt f0 ?_) | (with_reducible refine wpAny_field hso hdt f1 ?_) | (with_reducible refine wpAny_field hso hdt f2 ?_)
    | (with_reducible refine ks_wpAny_notOpaque hno ?_)
    | (with_reducible refine Looks.at hC ?_; rw [hl])
    | (refine ks_forIn_along X (fun _ _ => rfl) rfl ?_ hf)
    | (with_reducible refine wpAny_typeOf (hTf _) ?_)
    | (with_reducible refine wpAny_call_entry slot_md_get (hTf _) entry_md_get ?_ (args_md_get _ _ _))
    | (simp only [hn, hne, hto, Bool.or_false, Bool.false_eq_true, if_false])
    | wp_step
    | dsimp only)
  rw [hxc, hown]
  refine hsub.at ?_
  rw [if_neg (by decide)]
  refine wpAny_pure (wpAny_bind ?_)
  unfold newFields
  refine wpAny_newObj_type (wpAny_pure ⟨_, rfl, ?_⟩) (by size_fits)
  exact wpAny_bind (wpAny_pure (wpAny_pure (wpAny_pure hq)))
end
end Mine
end

section
open PySem PySem.W PyProof.Rows
set_option linter.unusedVariables false
set_option maxRecDepth 100000
namespace Mine
theorem acc_opaque (P : Params) : nsIn (Kf P) cStatics "thirdparty.any" = some none := by kernel_rfl
theorem acc_cls (P : Params) : ∃ cd, clsIn (Kf P) 178 = some cd ∧ cd.mro = [.ref 178, .type "list", .type "object"] := by
  obtain ⟨cd, hc, hcd⟩ := Option.map_eq_some_iff.mp (acc_mro P)
  exact ⟨cd, hc, (Prod.mk.inj hcd).1⟩
theorem kf_178 (P : Params) : ∃ o, (Kf P).lookup 178 = some o ∧ o.cls ≠ .ref 178 := by
  have h : ((Kf P).lookup 178).map (·.cls) = some (.type "type") := by kernel_rfl
  obtain ⟨o, h1, h2⟩ := Option.map_eq_some_iff.mp h
  exact ⟨o, h1, by rw [h2]; nofun⟩
section
variable {prog : Program} {w : World} {A : Around} {E : Value → Shared → Prop} {s : Shared} {x dx so : Addr} {h₀ : Heap} {L : Addr} {m : Str → Option Value} {news : List (Addr × Obj)} {name : Str} {items : Array Value} {k : Nat} {i : String}
theorem sup_wd {pl : Sem Bool} {Q : Value × List Value → Shared → Prop} (F : Fr h₀ L s.heap m) (X₀ : (Kf w.params).In h₀) (N : News h₀ L s.heap news) (hso : (so, ks_superObj 178 x 178) ∈ news) (hx : (x, accO dx items k) ∈ news)
    (hf : alongIn (Kf w.params) name [.type "list", .type "object"] = some (some (.builtin i))) (hTf : ∀ s : Shared, s.TypeIs (.builtin i) "wrapper_descriptor") (hn : (name == ("__class__" : Str)) = false) (hown : ".".intercalate (i.cutAt '.').dropLast = "list")
    (h : ∀ q h', Fr h₀ L h' m → News h₀ L h' ((q, boundO "method-wrapper" i x) :: news) → (∀ p ∈ news, p.1 < q) → Q (.ref q, []) { s with heap := h', toks := s.toks + 1 }) : wpAny (model prog w) A (getMethod (.ref so) name pl) Q E s := by
  have X : (Kf w.params).In s.heap := X₀.keeps F.keep
  obtain ⟨hh, g, d, t, os⟩ := s
  obtain ⟨cd, hc, hmro⟩ := acc_cls w.params
  obtain ⟨o178, h178, n178⟩ := kf_178 w.params
  have hxC : x ≠ 178 := by
    rintro rfl
    have e1 := (N _ hx).1
    have e2 := X _ _ h178
    dsimp only at e1 e2
    rw [e1] at e2; cases e2
    exact n178 rfl
  have hC : Looks (model prog w) hh (mroOf (.ref 178)) [.ref 178, .type "list", .type "object"] := by rw [← hmro]; exact (looks_clsIn X hc).andThen .now
  have hlk := PySem.F.ks_slot_super_ga.lookup
  have hcan := PySem.F.ks_canon_super_ga
  have hT : ∀ t', (⟨hh, g, d, t', os⟩ : Shared).TypeIs (.ref so) "super" := fun _ => ⟨_, (N _ hso).1, rfl⟩
  unfold getMethod
  refine wpAny_bind (wpAny_specialOf (hT _) hlk ?_)
  show wpAny _ _ (if (Manifest.canonical "super.__getattribute__" != "object.__getattribute__") = true then _ else _) _ _ _
  rw [if_pos hcan]
  unfold getAttr getAttrBy
  refine wpAny_bind (wpAny_bind (wpAny_mkText (wpAny_holding (wpAny_bind (wpAny_typeOf (hT _) (wpAny_bind (wpAny_of_eq hlk ?_)))))))
  show wpAny _ _ (getAttrByItsOwn (.ref so) (.str name t) (.type "super") (.builtin "super.__getattribute__") true false) _ _ _
  unfold getAttrByItsOwn hookBefore callGetattribute boundAndCalled
  refine wpAny_bind (wpAny_of_eq (show (if onTheHeap (.type "super") then typeLookup (.type "super") "__getattr__" else pure none) = pure none from rfl) ?_)
  refine wpAny_bind (wpAny_attempt (wpAny_holding ?_))
  show wpAny _ _ (bindSpecial (.builtin "super.__getattribute__") (.ref so) >>= _) _ _ _
  refine wpAny_bind (wpAny_of_eq (PySem.F.ks_slot_super_ga.bind _) ?_)
  refine wpAny_mono (Q := fun v s' => v = .ref hh.objs.size ∧ s' = ⟨hh.push (boundO "method-wrapper" i x), g, d, t + 1, os⟩) (E := fun _ _ => False)
    (wpAny_call_entry PySem.F.ks_slot_super_ga (hT _) PySem.F.ks_entry_super_ga (sup_ga_wd (N _ hso).1 (looks_opaque X (acc_opaque _)) hC rfl X hf hTf hxC hn (N _ hx).1 rfl hown (looks_mroIn X (acc_sub _)) ⟨_, rfl, rfl, rfl⟩) (PySem.F.ks_gaArgs_super _ _)) (fun v s' hv => ?_) fun _ _ z => z.elim
  obtain ⟨rfl, rfl⟩ := hv
  obtain ⟨F', N', l'⟩ := ks_newsPush (s := ⟨hh, g, d, t, os⟩) (o := boundO "method-wrapper" i x) F N rfl (Heap.get?_push_at rfl rfl) (fun b o e => Heap.get?_push_of_some _ e)
  exact wpAny_pure (wpAny_pure (h _ _ F' N' l'))
theorem sup_md {pl : Sem Bool} {Q : Value × List Value → Shared → Prop} (F : Fr h₀ L s.heap m) (X₀ : (Kf w.params).In h₀) (N : News h₀ L s.heap news) (hso : (so, ks_superObj 178 x 178) ∈ news) (hx : (x, accO dx items k) ∈ news)
    (hf : alongIn (Kf w.params) name [.type "list", .type "object"] = some (some (.builtin i))) (hTf : ∀ s : Shared, s.TypeIs (.builtin i) "method_descriptor") (hn : (name == ("__class__" : Str)) = false) (hto : Manifest.toldItsClass.contains i = false) (hown : ".".intercalate (i.cutAt '.').dropLast = "list")
    (h : ∀ q h', Fr h₀ L h' m → News h₀ L h' ((q, boundO "builtin_function_or_method" i x) :: news) → (∀ p ∈ news, p.1 < q) → Q (.ref q, []) { s with heap := h', toks := s.toks + 1 }) : wpAny (model prog w) A (getMethod (.ref so) name pl) Q E s := by
  have X : (Kf w.params).In s.heap := X₀.keeps F.keep
  obtain ⟨hh, g, d, t, os⟩ := s
  obtain ⟨cd, hc, hmro⟩ := acc_cls w.params
  obtain ⟨o178, h178, n178⟩ := kf_178 w.params
  have hxC : x ≠ 178 := by
    rintro rfl
    have e1 := (N _ hx).1
    have e2 := X _ _ h178
    dsimp only at e1 e2
    rw [e1] at e2; cases e2
    exact n178 rfl
  have hC : Looks (model prog w) hh (mroOf (.ref 178)) [.ref 178, .type "list", .type "object"] := by rw [← hmro]; exact (looks_clsIn X hc).andThen .now
  have hlk := PySem.F.ks_slot_super_ga.lookup
  have hcan := PySem.F.ks_canon_super_ga
  have hT : ∀ t', (⟨hh, g, d, t', os⟩ : Shared).TypeIs (.ref so) "super" := fun _ => ⟨_, (N _ hso).1, rfl⟩
  unfold getMethod
  refine wpAny_bind (wpAny_specialOf (hT _) hlk ?_)
  show wpAny _ _ (if (Manifest.canonical "super.__getattribute__" != "object.__getattribute__") = true then _ else _) _ _ _
  rw [if_pos hcan]
  unfold getAttr getAttrBy
  refine wpAny_bind (wpAny_bind (wpAny_mkText (wpAny_holding (wpAny_bind (wpAny_typeOf (hT _) (wpAny_bind (wpAny_of_eq hlk ?_)))))))
  show wpAny _ _ (getAttrByItsOwn (.ref so) (.str name t) (.type "super") (.builtin "super.__getattribute__") true false) _ _ _
  unfold getAttrByItsOwn hookBefore callGetattribute boundAndCalled
  refine wpAny_bind (wpAny_of_eq (show (if onTheHeap (.type "super") then typeLookup (.type "super") "__getattr__" else pure none) = pure none from rfl) ?_)
  refine wpAny_bind (wpAny_attempt (wpAny_holding ?_))
  show wpAny _ _ (bindSpecial (.builtin "super.__getattribute__") (.ref so) >>= _) _ _ _
  refine wpAny_bind (wpAny_of_eq (PySem.F.ks_slot_super_ga.bind _) ?_)
  refine wpAny_mono (Q := fun v s' => v = .ref hh.objs.size ∧ s' = ⟨hh.push (boundO "builtin_function_or_method" i x), g, d, t + 1, os⟩) (E := fun _ _ => False)
    (wpAny_call_entry PySem.F.ks_slot_super_ga (hT _) PySem.F.ks_entry_super_ga (sup_ga_md (N _ hso).1 (looks_opaque X (acc_opaque _)) hC rfl X hf hTf hxC hn (N _ hx).1 rfl hown hto (looks_mroIn X (acc_sub _)) ⟨_, rfl, rfl, rfl⟩) (PySem.F.ks_gaArgs_super _ _)) (fun v s' hv => ?_) fun _ _ z => z.elim
  obtain ⟨rfl, rfl⟩ := hv
  obtain ⟨F', N', l'⟩ := ks_newsPush (s := ⟨hh, g, d, t, os⟩) (o := boundO "builtin_function_or_method" i x) F N rfl (Heap.get?_push_at rfl rfl) (fun b o e => Heap.get?_push_of_some _ e)
  exact wpAny_pure (wpAny_pure (h _ _ F' N' l'))
end
end Mine
end

section
open PySem PySem.W PyProof.Rows
set_option linter.unusedVariables false
set_option maxRecDepth 100000
namespace Mine
section
variable {prog : Program} {w : World} {A : Around} {E : Value → Shared → Prop} {s : Shared} {x q : Addr} {i T : String}
/-- a bound built-in method is called -/
theorem call_bound {Q : Value → Shared → Prop} {Bi : Builtin} {args : List Value} (hq : s.heap.get? q = some (boundO T i x)) (hT : T = "builtin_function_or_method" ∨ T = "method-wrapper")
    (hc : ∀ (Q' : Unit → Shared → Prop) (E' : Value → Shared → Prop), Q' () s → wpAny (model prog w) A.in1 (checkBoundCall i ⟨.ref x :: args, []⟩) Q' E' s) (hp : plainId i = true) (he : entryFor table i = some Bi)
    (h : wpAny (model prog w) A.in1 (Bi ⟨.ref x :: args, []⟩) (fun fin s' => ∃ v, fin = .done (.ret v) ∧ Q v s') E s) : wpAny (model prog w) A (call (.ref q) args) Q E s := by
  refine wpAny_call (codeAny_of_tree ?_)
  show wpAny _ A.in1 (callAny (.ref q) ⟨args, []⟩) _ _ _
  unfold callAny
  refine wpAny_bind (wpAny_load hq ?_)
  dsimp only
  rw [if_pos (by rcases hT with rfl | rfl <;> decide +kernel)]
  show wpAny _ _ (if ((Value.type T) != .type "method") = true then (do checkBoundCall i ⟨.ref x :: args, []⟩; again (.builtin i ⟨.ref x :: args, []⟩)) else _) _ _ _
  rw [if_pos (by rcases hT with rfl | rfl <;> decide +kernel)]
  refine wpAny_bind (hc _ _ ?_)
  refine wpAny_pure ⟨plainId_quiet hp _, codeAny_builtin he ?_⟩
  rw [Around.under_plainId hp _]
  refine wpAny_mono h (fun fin s' z => ?_) fun _ _ z => z
  obtain ⟨v, rfl, z⟩ := z
  exact z
end
end Mine
end

section
open PySem PySem.W PyProof.Rows
set_option linter.unusedVariables false
set_option maxRecDepth 100000
namespace Mine
section
variable {prog : Program} {w : World} {A : Around} {E : Value → Shared → Prop} {h : Heap} {g : Array GenState} {d : Drawn} {t : Nat} {os : OsState} {x dx : Addr} {items : Array Value} {n : Nat}
theorem len_tree {Q : PySem.Fin → Shared → Prop} (hx : h.get? x = some (accO dx items n)) (hq : ∀ tk, Q (.done (.ret (.int (items.size : Int) tk))) ⟨h, g, d, t + 1, os⟩) :
    wpAny (model prog w) A (Builtin.«list.__len__» ⟨[.ref x], []⟩) Q E ⟨h, g, d, t, os⟩ := by
  unfold Builtin.«list.__len__»
  refine wpAny_bind (wpAny_pure (a := (Value.ref x, [])) ?_)
  dsimp only
  repeat lk
  exact hq _
/-- the items of an _Accumulator are changed -/
theorem acc_upd {h₀ : Heap} {L : Addr} {m : Str → Option Value} {news : List (Addr × Obj)} {f : Array Value → Array Value} {s : Shared} {Q : Unit → Shared → Prop} (F : Fr h₀ L s.heap m) (N : News h₀ L s.heap news) (hx : (x, accO dx items n) ∈ news) (hz : (f items).size ≤ sizeLine)
    (h : ∀ n' h', Fr h₀ L h' m → News h₀ L h' ((x, accO dx (f items) n') :: off x news) → Q () { s with heap := h' }) : wpAny (model prog w) A (Builtin.List.listUpdate (.ref x) f) Q E s := by
  obtain ⟨U1, U2⟩ := news_upd (pre := []) (post := off x news) (f := Obj.mapSeq f) (o' := accO dx (f items) _) F (News.sub N (off_cover hx)) (by simp) off_ne rfl rfl
  show wpAny _ _ (updateSeq x f) _ _ _
  unfold updateSeq
  refine wpAny_bind (wpAny_load (N _ hx).1 ?_)
  refine wpAny_bind (wpAny_updatePart (N _ hx).1 ?_)
  exact wpAny_lookBehind (U2 _ (.head _)).1 (pastItsLine_seq (Nat.le_succ_of_le hz)) (h _ _ U1 U2)
end
end Mine
end

section
open PySem PySem.W PyProof.Rows
set_option linter.unusedVariables false
set_option maxRecDepth 100000
namespace Mine
section
variable {prog : Program} {w : World} {A : Around} {E : Value → Shared → Prop} {s : Shared} {x dx : Addr} {h₀ : Heap} {L : Addr} {m : Str → Option Value} {news : List (Addr × Obj)} {items : Array Value} {n : Nat} {i nm : String}
theorem check_method {M : Model} {self : Value} {rest : List Value} {kw : List (Str × Value)} {Q : Unit → Shared → Prop}
    (hk : builtinKind i = some .method) (hs : splitId i = some ("list", nm)) (hi : Looks M s.heap (isInstance self (.type "list")) true) (ha : argsOk i ⟨self :: rest, kw⟩) (q : Q () s) :
    wpAny M A (checkBuiltinCall i ⟨self :: rest, kw⟩) Q E s := by
  simp only [checkBuiltinCall, hk, hs]
  refine wpAny_bind (hi.here ?_)
  simp only [Bool.not_true, Bool.false_eq_true, if_false]
  cases hsig : Manifest.signature? i with
  | none => exact wpAny_pure q
  | some sig =>
    simp only [argsOk, hsig] at ha
    have h2 : Bind.checkArgs i sig ⟨self :: rest, kw⟩ = pure () := ha
    show wpAny M A (Bind.checkArgs i sig ⟨self :: rest, kw⟩) Q E s
    rw [h2]; exact wpAny_pure q
theorem acc_inst (F : Fr h₀ L s.heap m) (X₀ : (Kf w.params).In h₀) (N : News h₀ L s.heap news) (hx : (x, accO dx items n) ∈ news) : Looks (model prog w) s.heap (isInstance (.ref x) (.type "list")) true :=
  (show Looks (model prog w) s.heap (typeOf (.ref x)) (.ref 178) from (Looks.ld (N _ hx).1).andThen .now).andThen (looks_mroIn (X₀.keeps F.keep) (acc_sub _))
/-- self.append(v) on an _Accumulator -/
theorem acc_append {v : Value} {Q : Value → Shared → Prop} (F : Fr h₀ L s.heap m) (X₀ : (Kf w.params).In h₀) (N : News h₀ L s.heap news) (hx : (x, accO dx items n) ∈ news) (hz : items.size < 100000)
    (h : ∀ n' h', Fr h₀ L h' m → News h₀ L h' ((x, accO dx (items.push v) n') :: off x news) → Q .none { s with heap := h' }) : wpAny (model prog w) A (call (.builtin "list.append") [.ref x, v]) Q E s := by
  refine wpAny_call (codeAny_call_builtin (by decide +kernel) PySem.F.entry_list_append (check_method (nm := "append") (by decide +kernel) (by decide +kernel) (acc_inst F X₀ N hx) (by unfold argsOk; kernel_rfl) ?_))
  show wpAny _ _ (Builtin.List.listUpdate (.ref x) (·.push v) >>= fun _ => ret .none) _ _ s
  refine wpAny_bind (acc_upd F N hx ?_ fun n' h' F' N' => wpAny_pure (h n' h' F' N'))
  rw [Array.size_push]
  exact Nat.le_trans hz (by decide)
end
end Mine
end

section
open PySem PySem.W PyProof.Rows
set_option linter.unusedVariables false
set_option maxRecDepth 100000
namespace Mine
section
variable {prog : Program} {w : World} {A : Around} {E : Value → Shared → Prop} {s : Shared} {x dx : Addr} {h₀ : Heap} {L : Addr} {m : Str → Option Value} {news : List (Addr × Obj)} {n : Nat}
theorem pop_tree {v : Value} {ys : List Value} {Q : PySem.Fin → Shared → Prop} (F : Fr h₀ L s.heap m) (N : News h₀ L s.heap news) (hx : (x, accO dx (ys ++ [v]).toArray n) ∈ news) (hz : ys.length < 100000)
    (h : ∀ n' h', Fr h₀ L h' m → News h₀ L h' ((x, accO dx ys.toArray n') :: off x news) → Q (.done (.ret v)) { s with heap := h' }) :
    wpAny (model prog w) A (Builtin.«list.pop» ⟨[.ref x], []⟩) Q E s := by
  have hg := (N _ hx).1
  obtain ⟨hh, g, d, t, os⟩ := s
  dsimp only at hg
  have e1 : (ys ++ [v]).toArray.isEmpty = false := by simp
  have e2 : (seqIndex? (-1) (ys ++ [v]).toArray.size).bind (fun k => Option.map (fun x => (k, x)) (ys ++ [v]).toArray[k]?) = some (ys.length, v) := by
    have hi : seqIndex? (-1) (ys ++ [v]).toArray.size = some ys.length := by
      unfold seqIndex?
      rw [List.size_toArray, List.length_append, List.length_singleton]
      have e : (if (-1 : Int) < 0 then -1 + ((ys.length + 1 : Nat) : Int) else -1) = (ys.length : Int) := by rw [if_pos (by decide)]; omega
      simp only [e]
      rw [if_pos (by simp; omega), Int.toNat_natCast]
    rw [hi]
    simp
  have e3 : (ys ++ [v]).eraseIdx ys.length = ys := by rw [List.eraseIdx_append_of_length_le (Nat.le_refl _)]; simp
  unfold Builtin.«list.pop»
  repeat lk
  rw [e1, e2]
  simp only [Bool.false_eq_true, if_false]
  refine wpAny_bind (acc_upd F N hx ?_ fun n' h' F' N' => wpAny_pure (h n' h' F' ?_))
  · have : (100000 : Nat) ≤ sizeLine := by decide
    simp [e3]; omega
  · simpa [e3] using N'
end
end Mine
end

section
open PySem PySem.W PyProof.Rows
set_option linter.unusedVariables false
set_option maxRecDepth 100000
namespace Mine
section
variable {prog : Program} {w : World} {A : Around} {E : Value → Shared → Prop} {s : Shared} {x dx : Addr} {h₀ : Heap} {L : Addr} {m : Str → Option Value} {news : List (Addr × Obj)} {n : Nat}
theorem init_tree {Q : PySem.Fin → Shared → Prop} (F : Fr h₀ L s.heap m) (N : News h₀ L s.heap news) (hx : (x, accO dx #[] n) ∈ news)
    (h : ∀ n' h', Fr h₀ L h' m → News h₀ L h' ((x, accO dx #[] n') :: off x news) → Q (.done (.ret .none)) { s with heap := h' }) :
    wpAny (model prog w) A (Builtin.«list.__init__» ⟨[.ref x], []⟩) Q E s := by
  have hg := (N _ hx).1
  obtain ⟨hh, g, d, t, os⟩ := s
  dsimp only at hg
  unfold Builtin.«list.__init__»
  lk
  lk
  lk
  lk
  lk
  lk
  lk
  repeat ((fail_if_success (with_reducible show wpAny _ _ (Builtin.List.listUpdate _ _) _ _ _)); lk)
  refine acc_upd F N hx (Nat.zero_le _) fun n' h' F' N' => ?_
  repeat lk
  exact h n' h' F' N'
end
end Mine
end

section
open PySem PySem.W PyProof.Rows
set_option linter.unusedVariables false
set_option maxRecDepth 100000
namespace Mine
section
variable {prog : Program} {w : World} {A : Around} {R : Result → Shared → Prop} {h : Heap} {g : Array GenState} {d : Drawn} {t : Nat} {os : OsState}
theorem acc_lookup (P : Params) : ∃ oc od cd sl, (Kf P).lookup 178 = some ⟨oc, od, .cls cd, sl⟩ ∧ cd.abstract = false ∧ cd.hasDel = false ∧ cd.mro = [.ref 178, .type "list", .type "object"] ∧ (sl.toList[4]?).join = some (.builtin "list.__new__") := by
  have h : ((Kf P).lookup 178).any (fun o => match o with | ⟨_, _, .cls cd, sl⟩ => !cd.abstract && !cd.hasDel && cd.mro == [.ref 178, .type "list", .type "object"] && (sl.toList[4]?).join == some (.builtin "list.__new__") | _ => false) = true := by kernel_rfl
  obtain ⟨⟨oc, od, dt, sl⟩, h1, h2⟩ := any_some h
  cases dt <;> first | (simp at h2; done) | skip
  rename_i cd
  simp only [Bool.and_eq_true, Bool.not_eq_true', beq_iff_eq] at h2
  exact ⟨oc, od, cd, sl, h1, h2.1.1.1, h2.1.1.2, h2.1.2, h2.2⟩
end
end Mine
end

section
open PySem PySem.W PyProof.Rows
set_option linter.unusedVariables false
set_option maxRecDepth 100000
namespace Mine
theorem ln_kind : builtinKind "list.__new__" = some .builtinFn := by decide +kernel
theorem ln_split : splitId "list.__new__" = some ("list", "__new__") := by decide +kernel
section
variable {prog : Program} {w : World} {A : Around} {R : Result → Shared → Prop} {h : Heap} {g : Array GenState} {d : Drawn} {t : Nat} {os : OsState}
theorem acc_made (X : (Kf w.params).In h) : Looks (model prog w) h (Bind.madeBy (.ref 178)) (some "list.__new__") := by
  obtain ⟨oc, od, cd, sl, ho, e1, e2, hl, e3⟩ := acc_lookup w.params
  have hc : clsIn (Kf w.params) 178 = some cd := by unfold clsIn; rw [ho]
  have hm : Looks (model prog w) h (mroOf (.ref 178)) cd.mro := (looks_clsIn X hc).andThen .now
  intro A Q E s k q
  unfold Bind.madeBy
  refine wpAny_bind (hm A _ E s k ?_)
  rw [hl, List.forIn_cons]
  refine wpAny_bind (wpAny_bind (wpAny_bind (wpAny_bind (wpAny_loadPart (k _ _ (X _ _ ho)) (wpAny_pure ?_)))))
  dsimp only
  rw [← Array.getElem?_toList, e3]
  exact wpAny_pure (wpAny_pure (wpAny_pure q))
theorem acc_base (X : (Kf w.params).In h) : Looks (model prog w) h (Bind.staticBase (.ref 178)) (.ref 178) := by
  obtain ⟨oc, od, cd, sl, ho, e1, e2, hl, e3⟩ := acc_lookup w.params
  have hc : clsIn (Kf w.params) 178 = some cd := by unfold clsIn; rw [ho]
  have hm : Looks (model prog w) h (mroOf (.ref 178)) cd.mro := (looks_clsIn X hc).andThen .now
  intro A Q E s k q
  unfold Bind.staticBase
  refine wpAny_bind (hm A _ E s k ?_)
  rw [hl, List.forIn_cons]
  exact wpAny_bind (wpAny_bind (wpAny_bind (acc_made X A _ E s k (wpAny_pure (wpAny_pure (wpAny_pure q))))))
theorem acc_isType (X : (Kf w.params).In h) : Looks (model prog w) h (isType (.ref 178)) true := by
  obtain ⟨oc, od, cd, sl, ho, e1, e2, hl, e3⟩ := acc_lookup w.params
  intro A Q E s k q
  unfold isType loadHead
  exact wpAny_bind (wpAny_loadPart (k _ _ (X _ _ ho)) (wpAny_pure q))
end
end Mine
end

section
open PySem PySem.W PyProof.Rows
set_option linter.unusedVariables false
set_option maxRecDepth 100000
namespace Mine
theorem acc_call (P : Params) : specialIn (Kf P) (.ref 178) "__call__" = some (some (.builtin "type.__call__")) := by kernel_rfl
theorem acc_typ (P : Params) : instIn (Kf P) (.ref 178) (.type "type") = some true := by kernel_rfl
theorem acc_init (P : Params) : findIn (Kf P) (.ref 178) "__init__" = some (some (.ref 115)) := by kernel_rfl
theorem acc_initF (P : Params) : typeIn (Kf P) (.ref 115) = some (.type "function") := by kernel_rfl
theorem acc_self (P : Params) : mroIn (Kf P) 178 (.ref 178) = some true := by kernel_rfl
theorem ln_args (rest : List Value) : argsOk "list.__new__" ⟨.ref 178 :: rest, []⟩ := by unfold argsOk; kernel_rfl
theorem ln_sig : Manifest.signature? "list.__new__" ≠ none := by decide +kernel
section
variable {prog : Program} {w : World} {A : Around} {R : Result → Shared → Prop} {h : Heap} {g : Array GenState} {d : Drawn} {t : Nat} {os : OsState}
set_option maxHeartbeats 4000000 in
theorem acc_new {rest : List Value} (X : (Kf w.params).In h)
    (hq : R (.ok (.ret (.ref (h.objs.size + 1)))) ⟨(h.push emptyDict).push (accO h.objs.size #[] 0), g, d, t, os⟩) :
    codeAny (model prog w) A (.call (.builtin "list.__new__") ⟨.ref 178 :: rest, []⟩) R ⟨h, g, d, t, os⟩ := by
  obtain ⟨oc, od, cd, sl, ho, e1, e2, hl, e3⟩ := acc_lookup w.params
  have hC : h.get? 178 = some ⟨oc, od, .cls cd, sl⟩ := X _ _ ho
  have made := acc_made (prog := prog) X
  have base := acc_base (prog := prog) X
  have isT := acc_isType (prog := prog) X
  have sub : Looks (model prog w) h (isSubtype (.ref 178) (.type "list")) true := looks_mroIn X (acc_sub _)
  refine codeAny_call_builtin_code (Code.quiet_builtin _ (by decide +kernel)) ?_
  simp only [checkBuiltinCall, ln_kind, ln_split]
  have here : Looks (model prog w) h (Bind.madeHere "list.__new__" (.ref 178)) () := base.andThen (made.andThen (Looks.of_pure (by simp only [Option.map_some, bne_self_eq_false, Bool.false_eq_true, if_false])))
  have ha : argsOk "list.__new__" ⟨.ref 178 :: rest, []⟩ := ln_args rest
  cases hsig : Manifest.signature? "list.__new__" with
  | none => exact absurd hsig ln_sig
  | some sig =>
  simp only [argsOk, hsig] at ha
  have args : Bind.checkArgs "list.__new__" sig ⟨.ref 178 :: rest, []⟩ = pure () := ha
  simp only [args]
  repeat (first | simp only [bne_self_eq_false, Bool.false_eq_true, if_false] | lk)
  refine codeAny_builtin_stack PySem.F.entry_list_new rfl fun p st => ?_
  have hown := owner_list_new
  simp only [hown]
  repeat lk
  refine wpAny_load (Heap.get?_push_of_some _ (Heap.get?_push_of_some _ hC)) (wpAny_pure ?_)
  rw [e2]
  refine wpAny_pure (wpAny_pure ?_)
  show R _ _
  rw [Heap.size_push]
  exact hq
set_option maxHeartbeats 4000000 in
theorem acc_make {rest : List Value} {s : Shared} {h₀ : Heap} {L : Addr} {m : Str → Option Value} {news : List (Addr × Obj)} (F : Fr h₀ L s.heap m) (N : News h₀ L s.heap news) (X : (Kf w.params).In s.heap)
    (hq : ∀ x dx h', Fr h₀ L h' m → News h₀ L h' ((x, accO dx #[] 0) :: (dx, emptyDict) :: news) → (∀ p ∈ news, p.1 < dx) → dx < x →
      codeAny (model prog w) (A.under (.builtin "type.__call__" ⟨.ref 178 :: rest, []⟩)) (.call (.ref 115) ⟨.ref x :: rest, []⟩) (InitBack x R) { s with heap := h' }) :
    codeAny (model prog w) A (.call (.ref 178) ⟨rest, []⟩) R s := by
  obtain ⟨h, g, d, t, os⟩ := s
  have N2 := (N.push F emptyDict).push (F.push _) (accO h.objs.size #[] 0)
  rw [Heap.size_push] at N2
  have hq' := hq _ h.objs.size _ ((F.push _).push _) N2 (fun p hp => Heap.lt_size (N p hp).1) (Nat.lt_succ_self _)
  clear hq N2 N F
  obtain ⟨oc, od, cd, sl, ho, e1, e2, hl, e3⟩ := acc_lookup w.params
  have e4 : cd.mro.isEmpty = false := by rw [hl]; rfl
  have hC : h.get? 178 = some ⟨oc, od, .cls cd, sl⟩ := X _ _ ho
  have made := acc_made (prog := prog) X
  have call := looks_specialIn (M := model prog w) X (acc_call _)
  have typ := looks_instIn (M := model prog w) X (acc_typ _)
  have hi := looks_findIn (M := model prog w) X (acc_init _)
  have hb := fun self => bind_fn (M := model prog w) X self (acc_initF _)
  have self : Looks (model prog w) h (isSubtype (.ref 178) (.ref 178)) true := looks_mroIn X (acc_self _)
  refine codeAny_of_tree ?_
  show wpAny _ _ (callAny (.ref 178) _) _ _ _
  refine nd_load hC ?_
  show wpAny _ _ (callAny.viaDunder (.ref 178) _) _ _ _
  unfold callAny.viaDunder
  refine wpAny_bind (call.at ?_)
  dsimp only
  rw [tc_bind]
  refine wpAny_bind (wpAny_pure (wpAny_bind (wpAny_pure ?_)))
  refine wpAny_pure (a := Fin.again (.call (.builtin "type.__call__") ⟨.ref 178 :: rest, []⟩)) (And.intro rfl ?_)
  refine codeAny_call_builtin_at (Code.quiet_builtin _ (by decide +kernel)) entry_typeCall (check_slot tc_kind tc_split typ (tc_args _ _ _) ?_)
  unfold Builtin.«type.__call__»
  have hm : Looks (model prog w) h (mroOf (.ref 178)) cd.mro := ((Looks.ld (part := none) hC).andThen .now).andThen .now
  repeat (first | simp only [e4, Bool.false_eq_true, if_false] | with_reducible refine wpAny_call ?_ | lk)
  refine acc_new X ?_
  have k : ∀ b o, h.get? b = some o → ((h.push emptyDict).push (accO h.objs.size #[] 0)).get? b = some o := fun b o e => Heap.get?_push_of_some _ (Heap.get?_push_of_some _ e)
  have hx : ((h.push emptyDict).push (accO h.objs.size #[] 0)).get? (h.objs.size + 1) = some (accO h.objs.size #[] 0) := by heap_get
  have t1 : Looks (model prog w) ((h.push emptyDict).push (accO h.objs.size #[] 0)) (typeOf (.ref (h.objs.size + 1))) (.ref 178) := (Looks.ld hx).andThen .now
  have s1 := self.keeps k
  have i1 := hi.keeps k
  have b1 := (hb (.ref (h.objs.size + 1))).keeps k
  unfold isInstance callSpecial? specialOf
  repeat (first | with_reducible refine wpAny_call ?_ | lk)
  refine codeAny_mono hq' fun r s' z => ?_
  rcases r with e | (v | _ | _ | _) <;> first | exact z | exact z.elim | skip
  obtain ⟨rfl, z⟩ := z
  exact wpAny_pure (wpAny_pure z)
end
end Mine
end

section
open PySem PySem.W PyProof.Rows
set_option linter.unusedVariables false
set_option maxRecDepth 100000
namespace Mine
theorem acc_fiter (P : Params) : findIn (Kf P) (.ref 178) "__iter__" = some (some (.builtin "list.__iter__")) := by kernel_rfl
theorem acc_fgi (P : Params) : findIn (Kf P) (.ref 178) "__getitem__" = some (some (.builtin "list.__getitem__")) := by kernel_rfl
theorem acc_fsi (P : Params) : findIn (Kf P) (.ref 178) "__setitem__" = some (some (.builtin "list.__setitem__")) := by kernel_rfl
section
variable {prog : Program} {w : World} {A : Around} {E : Value → Shared → Prop} {s : Shared} {x dx : Addr} {items : Array Value} {n : Nat}
theorem acc_ty {h : Heap} (hx : h.get? x = some (accO dx items n)) : Looks (model prog w) h (typeOf (.ref x)) (.ref 178) := (Looks.ld hx).andThen .now
/-- a built-in slot of list is called upon an _Accumulator -/
theorem acc_slot {id nm : String} {Bi : Builtin} {rest : List Value} {Q : Value → Shared → Prop} (hx : s.heap.get? x = some (accO dx items n)) (X : (Kf w.params).In s.heap) (hp : plainId id = true) (hk : builtinKind id = some .slot) (hsp : splitId id = some ("list", nm)) (he : entryFor table id = some Bi)
    (ha : argsOk id ⟨.ref x :: rest, []⟩) (h : wpAny (model prog w) A.in1 (Bi ⟨.ref x :: rest, []⟩) (fun fin s' => ∃ v, fin = .done (.ret v) ∧ Q v s') E s) :
    wpAny (model prog w) A (call (.builtin id) (.ref x :: rest)) Q E s := by
  refine wpAny_call (codeAny_call_builtin hp he (check_slot hk hsp ((acc_ty hx).andThen (looks_mroIn X (acc_sub _))) ha ?_))
  refine wpAny_mono h (fun fin s' z => ?_) fun _ _ z => z
  obtain ⟨v, rfl, z⟩ := z
  exact z
theorem acc_iter {Q : Value → Shared → Prop} (hx : s.heap.get? x = some (accO dx items n)) (X : (Kf w.params).In s.heap)
    (hQ : Q (.ref s.heap.objs.size) { s with heap := s.heap.push { cls := .type "list_iterator", data := .fields #[.ref x, .int 0 0] } }) :
    wpAny (model prog w) A (pyIter (.ref x)) Q E s := by
  have L0 : Looks (model prog w) s.heap (specialOf (.ref x) "__iter__") (some (.builtin "list.__iter__")) := (acc_ty hx).andThen (looks_findIn X (acc_fiter _))
  unfold pyIter
  refine wpAny_bind (L0.here ?_)
  unfold callSpecialIfBoundUnlessNone? bindSpecialIfBound?
  refine wpAny_bind (wpAny_holding (wpAny_bind (wpAny_bind (L0.here ?_))))
  have fin : wpAny (model prog w) A (call (.builtin "list.__iter__") [.ref x]) (fun it s₁ => wpAny (model prog w) A (specialOf it "__next__" >>= fun r => match r with | none => (do rule "iter.non-iterator"; raiseError "TypeError" s!"iter() returned non-iterator of type '{← typeNameOf it}'") | some _ => pure it) Q E s₁) E s := by
    refine acc_slot hx X (by decide +kernel) (by decide +kernel) (nm := "__iter__") (by decide +kernel) entry_list_iter (args_list_iter _) ?_
    show wpAny _ _ (do ret (← newFields "list_iterator" [.ref x, rawInt 0])) _ _ s
    refine wpAny_bind (wpAny_newObj_type (wpAny_pure ⟨_, rfl, ?_⟩))
    refine wpAny_bind (wpAny_specialOf (T := "list_iterator") ⟨_, Heap.get?_push_size _ rfl, rfl⟩ slot_listiter_next.lookup (wpAny_pure hQ))
  have hb : bindSpecial (.builtin "list.__iter__") (.ref x) = pure (.builtin "list.__iter__", [.ref x]) := slot_list_iter.bind _
  refine wpAny_bind (wpAny_askSetting ?_)
  simp only [hb]
  split
  · exact wpAny_bind (wpAny_pure (wpAny_pure (wpAny_bind (wpAny_mono fin (fun _ _ z => wpAny_pure z) fun _ _ z => z))))
  · exact wpAny_tryCatch (wpAny_bind (wpAny_pure (wpAny_pure (wpAny_bind (wpAny_mono fin (fun _ _ z => wpAny_pure z) fun _ _ z => z)))))
end
end Mine
end

section
open PySem PySem.W PyProof.Rows
set_option linter.unusedVariables false
set_option maxRecDepth 100000
namespace Mine
/-- an object with a row of items, of whatever class -/
def SeqAt (h : Heap) (a : Addr) (items : Array Value) : Prop := ∃ o, h.get? a = some o ∧ ∃ n, o.data = .seq items n
theorem SeqAt.at {h h' : Heap} {a : Addr} {items : Array Value} (x : SeqAt h a items) (e : ∀ o, h.get? a = some o → h'.get? a = some o) : SeqAt h' a items := let ⟨o, ho, r⟩ := x; ⟨o, e o ho, r⟩
section
variable {prog : Program} {w : World} {A : Around} {E : Value → Shared → Prop} {s : Shared}
theorem seq_next {it l : Addr} {i : Nat} {items : Array Value} {x : Value} {Q : Option Value → Shared → Prop} (hit : s.heap.IsListIter it l i) (hl : SeqAt s.heap l items) (hx : items[i]? = some x)
    (hQ : ∀ h', h'.IsListIter it l (i + 1) → Heap.SameBut it s.heap h' → Q (some x) { s with heap := h' }) : wpAny (model prog w) A (pyNext (.ref it)) Q E s := by
  obtain ⟨o, ho, hc, hd⟩ := id hit
  obtain ⟨ol, hol, nl, hdl⟩ := hl
  have hty := hit.typeIs
  unfold pyNext
  refine wpAny_bind (wpAny_attempt (wpAny_callSpecial?_slot (name := Str.ofString "__next__") hty slot_listiter_next (wpAny_call_entry slot_listiter_next hty entry_listiter_next ?_ (args_listiter_next _))))
  show wpAny _ _ (field (.ref it) 0 >>= _) _ _ s
  refine wpAny_bind (wpAny_field ho hd (x := .ref l) rfl ?_)
  rw [if_neg (show ¬ ((Value.ref l == Value.none) = true) from Bool.false_ne_true)]
  refine wpAny_bind (wpAny_field ho hd (x := .int i 0) rfl (wpAny_bind (wpAny_seqItems hol hdl ?_)))
  simp only [Int.toNat_natCast, hx]
  refine wpAny_bind (wpAny_setField ho hd (by simp) (wpAny_pure ⟨x, rfl, wpAny_pure (hQ _ ⟨_, Heap.get?_update_self _ ho (Obj.isFreed_of_fields (Obj.data_mapFields hd _)), (Obj.cls_mapFields ..).trans hc, ?_⟩ (Heap.SameBut.update ..))⟩))
  rw [Obj.data_mapFields hd]; simp [rawInt]
theorem seq_stop {it l : Addr} {i : Nat} {items : Array Value} {Q : Option Value → Shared → Prop} (hh : A.handled = none) (hit : s.heap.IsListIter it l i) (hl : SeqAt s.heap l items) (hx : items[i]? = none)
    (hQ : ∀ h', Heap.ExtBut it s.heap h' → Q none { s with heap := h' }) : wpAny (model prog w) A (pyNext (.ref it)) Q E s := by
  obtain ⟨o, ho, hc, hd⟩ := id hit
  obtain ⟨ol, hol, nl, hdl⟩ := hl
  have hty := hit.typeIs
  unfold pyNext
  refine wpAny_bind (wpAny_attempt (wpAny_callSpecial?_slot (name := Str.ofString "__next__") hty slot_listiter_next (wpAny_call_entry slot_listiter_next hty entry_listiter_next ?_ (args_listiter_next _))))
  show wpAny _ _ (field (.ref it) 0 >>= _) _ _ s
  refine wpAny_bind (wpAny_field ho hd (x := .ref l) rfl ?_)
  rw [if_neg (show ¬ ((Value.ref l == Value.none) = true) from Bool.false_ne_true)]
  refine wpAny_bind (wpAny_field ho hd (x := .int i 0) rfl (wpAny_bind (wpAny_seqItems hol hdl ?_)))
  simp only [Int.toNat_natCast, hx]
  refine wpAny_bind (wpAny_rule (wpAny_bind (wpAny_setField ho hd (by simp) ?_)))
  show wpAny _ _ (newExc (.type "StopIteration") [] >>= _) _ _ _
  simp only [newExc, newTuple]
  refine wpAny_bind (wpAny_bind (wpAny_newObj_type (wpAny_bind (m := firstArgMember _ _) (wpAny_of_eq (a := Value.none) (by first | rfl | (simp only [firstArgMember]; rfl)) (wpAny_newObj_type ?_ (by size_fits)))) (by size_fits)))
  simp only [raiseNew]
  refine wpAny_bind (wpAny_handled ?_)
  rw [show A.in1.handled = none from hh]
  refine wpAny_bind (wpAny_pure (wpAny_throw ?_))
  refine wpAny_bind (wpAny_isInstance (T := "StopIteration") (b := true) ⟨_, Heap.get?_push_size _ rfl, rfl⟩ isSubtype_stop ?_)
  exact wpAny_pure (hQ _ (((Heap.SameBut.update ..).extBut.push _).push _))
end
/-- over the pairs of an _Accumulator -/
theorem walk_pairs {prog : Program} {w : World} {A : Around} (hh : A.handled = none) (I ax : Addr) (hne : ax ≠ I) (items : Array Value) (Ts : Nat → Addr) (vals : Nat → Array Value)
    (hit : ∀ j, j < items.size → items[j]? = some (.ref (Ts j))) (hTI : ∀ j, j < items.size → Ts j ≠ I) :
    WalksU prog w A I (I :: ax :: (List.range items.size).map Ts) [I] items.size (fun j v => v = vals j)
      (fun j h => h.IsListIter I ax j ∧ SeqAt h ax items ∧ ∀ k, k < items.size → h.IsTuple (Ts k) (vals k))
      (fun j T h => (j < items.size ∧ T = Ts j) ∧ h.IsListIter I ax (j + 1) ∧ SeqAt h ax items ∧ ∀ k, k < items.size → h.IsTuple (Ts k) (vals k)) where
  sub := fun b hb => by simp at hb; simp [hb]
  frame := fun _ _ _ st hk => ⟨st.1.at fun o e => hk I (by simp) o e, st.2.1.at fun o e => hk ax (by simp) o e,
    fun k hk' => (st.2.2 k hk').at fun o e => hk (Ts k) (List.mem_cons_of_mem _ (List.mem_cons_of_mem _ (List.mem_map.mpr ⟨k, List.mem_range.mpr hk', rfl⟩))) o e⟩
  item := fun i s Q E hi st hQ => by
    refine seq_next st.1 st.2.1 (x := .ref (Ts i)) (hit i hi) fun h' hit' hs' => ?_
    have tup : ∀ k, k < items.size → h'.IsTuple (Ts k) (vals k) := fun k hk' => (st.2.2 k hk').extBut hs'.extBut (hTI k hk')
    exact hQ (Ts i) (vals i) h' s.toks rfl (tup i hi) ⟨⟨hi, rfl⟩, hit', st.2.1.at fun o e => hs'.extBut _ o hne e, tup⟩ fun b o hb e => hs'.extBut b o (fun h => hb (by simp [h])) e
  go := fun _ _ _ _ _ s Q _ hm hQ => wpAny_letOwnedTupleGo_listiter hm.2.1 (hQ s.heap hm.2 fun _ _ _ e => e)
  apart := fun j T _ hm hmem => by
    rcases List.mem_cons.mp hmem with e | e
    · exact hTI j hm.1.1 (hm.1.2 ▸ e)
    · cases e
  done := fun s Q E st hQ => seq_stop hh st.1 st.2.1 (by simp) fun h' he' => hQ h' s.toks fun b o hb e => he' b o (fun h => hb (by simp [h])) e
  self := fun _ _ _ _ st hQ => wpAny_pyIter_listiter st.1 hQ
end Mine
end

section
open PySem PySem.W PyProof.Rows
set_option linter.unusedVariables false
set_option maxRecDepth 100000
namespace Mine
theorem args_sum2 (a b : Value) : argsOk "sum" ⟨[a, b], []⟩ := by unfold argsOk; kernel_rfl
theorem wpAny_of_ite {M : Model} {A : Around} {α : Type} {b : Bool} {t e : Sem α} {Q : α → Shared → Prop} {E : Value → Shared → Prop} {s : Shared} (hb : b = true) (h : wpAny M A t Q E s) : wpAny M A (if b = true then t else e) Q E s := by rw [if_pos hb]; exact h
section
variable {prog : Program} {w : World} {A : Around} {E : Value → Shared → Prop} {s : Shared} {I : Addr} {fp wr : List Addr} {G : Array GenState → Array GenState → Prop} {n : Nat} {P : Nat → Value → Prop} {St : Nat → Shared → Prop}
theorem walk_late (W : WalksS prog w A I fp wr G n P St) : WalksS prog w A I fp wr G (n + 1) (fun j v => ∃ i, j = i + 1 ∧ P i v) (fun j s => ∃ i, j = i + 1 ∧ St i s) where
  sub := W.sub
  grefl := W.grefl
  gtrans := W.gtrans
  frame := fun i s h' tk ⟨k, e, st⟩ ht hk => ⟨k, e, W.frame k s h' tk st ht hk⟩
  item := fun i s Q E hi ⟨k, e, st⟩ hQ => W.item k s Q E (by omega) st fun v s' hp st' hm => hQ v s' ⟨k, e, hp⟩ ⟨k + 1, by omega, st'⟩ hm
  done := fun s Q E ⟨k, e, st⟩ hQ => W.done s Q E (by rwa [show n = k by omega]) hQ
  self := fun i s Q E ⟨k, e, st⟩ hQ => W.self k s Q E st hQ
theorem preSum_late (val : Nat → Int) (z : Int) : ∀ k, preSum (fun j => if j = 0 then z else val (j - 1)) (k + 1) = z + preSum val k
  | 0 => by simp [preSum]
  | k + 1 => by rw [preSum, preSum_late val z k]; simp [preSum, Int.add_assoc]
/-- sum(it, start) -/
theorem call_sum2 {z : Int} {tz : Tok} {Q : Value → Shared → Prop} (W : WalksS prog w A.in1 I fp wr G n P St) (hst : St 0 s) (hfp : ∀ b ∈ fp, b < s.heap.objs.size) (val : Nat → Int) (hval : ∀ i v, P i v → ∃ t, v = .int (val i) t)
    (hz : -(2 ^ 63) ≤ z ∧ z < 2 ^ 63) (hQ : ∀ s' t', Moved wr G s s' → Q (.int (z + preSum val n) t') s') : wpAny (model prog w) A (call (.builtin "sum") [.ref I, .int z tz]) Q E s := by
  refine call_function_tree F.kind_sum F.plain_sum F.entry_sum (args_sum2 _ _) ?_
  unfold Builtin.«sum»
  simp only [List.length_cons, List.length_nil]
  rw [if_neg (by decide)]
  refine wpAny_bind (wpAny_of_eq (show Builtin.Builtins.bindParams "sum" ["start"] 0 ⟨[.int z tz], []⟩ = pure [some (.int z tz)] from rfl) ?_)
  refine wpAny_bind (W.self 0 s _ _ hst ?_)
  have hf : (decide (-(2 ^ 63) ≤ z) && decide (z < 2 ^ 63)) = true := by rw [decide_eq_true hz.1, decide_eq_true hz.2]; rfl
  dsimp only
  refine wpAny_of_ite hf ?_
  refine wpAny_bind (wpAny_rule (wpAny_bind (wpAny_mkInt (wpAny_bind (wpAny_pure ?_)))))
  simp only [List.forIn_cons, List.forIn_nil]
  refine wpAny_bind (wpAny_bind (wpAny_bind (wpAny_isInstance (T := "int") (b := false) (typeIs_int _ _ _) PySem.sub_int_str ?_)))
  simp only [Bool.false_eq_true, if_false]
  refine wpAny_pure (wpAny_bind (wpAny_bind (wpAny_isInstance (T := "int") (b := false) (typeIs_int _ _ _) PySem.sub_int_bytes ?_)))
  simp only [Bool.false_eq_true, if_false]
  refine wpAny_pure (wpAny_bind (wpAny_bind (wpAny_isInstance (T := "int") (b := false) (typeIs_int _ _ _) PySem.sub_int_bytearray ?_)))
  simp only [Bool.false_eq_true, if_false]
  refine wpAny_pure (wpAny_pure (wpAny_bind (wpAny_newObj_type ?_)))
  have hSf : s.heap.objs.size ∉ fp := fun hm => Nat.lt_irrefl _ (hfp _ hm)
  have e1 : preSum (fun j => if j = 0 then z else val (j - 1)) 1 = z := by simp [preSum]
  refine wpAny_pure ⟨plainId_quiet F.plain_sum_loop _, codeAny_sum_loopAnyS (walk_late W) (fun j => if j = 0 then z else val (j - 1)) (fun i v ⟨k, e, hp⟩ => by subst e; simpa using hval k v hp) s.heap.objs.size hSf n 1 _ s.toks 0 0 (.inl rfl) (by omega) (by omega)
    ⟨0, rfl, W.frame 0 s _ _ hst (by first | exact Nat.le_refl _ | exact Nat.le_succ _ | omega) fun b _ o e => Heap.get?_push_of_some _ e⟩ (by rw [e1]; exact Heap.get?_push_size _ rfl) fun s' t' hm => ?_⟩
  rw [preSum_late]
  exact hQ s' t' (hm.drop_new (by first | exact Nat.le_refl _ | exact Nat.le_succ _ | omega))
end
section
variable {prog : Program} {w : World} {A : Around} {E : Value → Shared → Prop} {s : Shared} {h₀ : Heap} {L c P : Addr} {m : Str → Option Value} {news : List (Addr × Obj)}
/-- the code object of a generator expression, whether it stands in the table or not -/
theorem gen_code {M : Model} {env : Env} {pos : Pos} {qual : Str} {scope : Scope} {Q : Value → Shared → Prop} (F : Fr h₀ L s.heap m) (N : News h₀ L s.heap news) (C : CodeHd h₀ c P) (hcd : env.code = .ref c) (ht : TabOk P pos.line pos.col qual news)
    (h : ∀ c' news' h' tk, Fr h₀ L h' m → News h₀ L h' news' → TabOk P pos.line pos.col qual news' → (∀ q ∈ news, q.1 ≠ P → q ∈ news') → Heap.ExtBut P s.heap h' → s.heap.objs.size ≤ h'.objs.size → (∀ q ∈ news', q ∈ news ∨ q.1 = P ∨ @LE.le Nat _ s.heap.objs.size q.1) → Q (.ref c') { s with heap := h', toks := tk }) :
    wpAny M A (genexprCode env pos qual scope) Q E s := by
  have C' := C.keeps F.keep
  rcases ht with ht | ⟨c', oc, vs, t, ht, hc, hd1, hd2⟩
  · have hP := (N _ ht).1
    have hPL := (N _ ht).2.1
    have hP0 := (N _ ht).2.2
    dsimp only at hP hPL hP0
    refine wpAny_genexprCodeX hcd (C'.code hP (by trivial)) (C'.tab hP) rfl fun c' h' tk hx hge hlt hcode hrec htab _ => ?_
    obtain ⟨c₂, o₂, vs₂, t₂, e₂, g₂, k₂, k₃⟩ := hrec
    cases e₂
    have F' : Fr h₀ L h' m := ⟨F.ns.at' fun o e => hx _ o hPL.symm e, fun b o e => hx b o (fun q => by rw [q, hP0] at e; cases e) (F.keep b o e), F.above⟩
    have hc' : c' ≠ L ∧ h₀.get? c' = none := ⟨fun e => Nat.lt_irrefl _ (Nat.lt_of_lt_of_le F.ns.lt (e ▸ hge)), by
      cases q : h₀.get? c' with
      | none => rfl
      | some o => exact absurd (Heap.lt_size (F.keep _ _ q)) (Nat.not_lt.mpr hge)⟩
    have N' : News h₀ L h' ((c', o₂) :: (P, tabObj (#[] ++ #[rawInt pos.line, rawInt pos.col, .ref c'])) :: off P news) := fun p hp => by
      rcases List.mem_cons.mp hp with rfl | hp
      · exact ⟨g₂, hc'.1, hc'.2⟩
      · rcases List.mem_cons.mp hp with rfl | hp
        · exact ⟨htab.2, hPL, hP0⟩
        · obtain ⟨hp, hne⟩ := mem_off.mp hp
          exact ⟨hx _ _ hne (N _ hp).1, (N _ hp).2⟩
    simp only [Array.empty_append] at N'
    exact h c' _ h' tk F' N' (.inr ⟨c', o₂, vs₂, t₂, .tail _ (.head _), .head _, k₂, k₃⟩) (fun q hq hne => .tail _ (.tail _ (mem_off.mpr ⟨hq, hne⟩))) hx (Nat.le_trans hge (Nat.le_of_lt hlt)) fun q hq => by
      rcases List.mem_cons.mp hq with rfl | hq
      · exact .inr (.inr hge)
      · rcases List.mem_cons.mp hq with rfl | hq
        · exact .inr (.inl rfl)
        · exact .inl (mem_off.mp hq).1
  · have hP := (N _ ht).1
    exact wpAny_genexprCode_hit hcd (C'.code hP (by simp [TriplesOk, rawInt])) (c' := .ref c') (by simp [codeAmong, rawInt]) (h c' news s.heap s.toks F N (.inr ⟨c', oc, vs, t, ht, hc, hd1, hd2⟩) (fun q hq _ => hq) (fun _ _ _ e => e) (Nat.le_refl _) fun q hq => .inl hq)
end
end Mine
end

section
open PySem PySem.W PyProof.Rows
set_option linter.unusedVariables false
set_option maxRecDepth 100000
namespace Mine
/-- a part of a line: the pair's address, its blank and its word -/
structure Part where
  ad : Addr
  f : Str
  tf : Tok
  p : Str
  tp : Tok
abbrev tupO (a b : Value) : Obj := { cls := .type "tuple", data := .seq #[a, b] }
abbrev Part.obj (q : Part) : Obj := tupO (.str q.f q.tf) (.str q.p q.tp)
abbrev accI (ps : List Part) : Array Value := (ps.map fun q => Value.ref q.ad).toArray
def PartsIn (ps : List Part) (news : List (Addr × Obj)) : Prop := ∀ q ∈ ps, (q.ad, q.obj) ∈ news
/-- a generator over the ledger -/
def GenL (prog : Program) (w : World) (A : Around) (h₀ : Heap) (L : Addr) (news : List (Addr × Obj)) (a : Addr) (n : Nat) (F : Nat → Value → Prop) (s : Shared) : Prop :=
  ∃ fp wr g St, WalksS prog w A.in4 a fp wr (GenOnlyQ g) n F St ∧ (∀ tk, St 0 { s with toks := tk }) ∧ (∀ i s', St i s' → s'.TypeIs (.ref a) "generator") ∧ a ∈ fp ∧ (∀ b ∈ fp, b < s.heap.objs.size) ∧ ∀ b ∈ wr, b ≠ L ∧ h₀.get? b = none ∧ ∀ q ∈ news, q.1 ≠ b
theorem moved_fr {h₀ : Heap} {L : Addr} {m : Str → Option Value} {news : List (Addr × Obj)} {s s' : Shared} {wr : List Addr} {G : Array GenState → Array GenState → Prop} (F : Fr h₀ L s.heap m) (N : News h₀ L s.heap news) (hm : Moved wr G s s')
    (hw : ∀ b ∈ wr, b ≠ L ∧ h₀.get? b = none ∧ ∀ q ∈ news, q.1 ≠ b) : Fr h₀ L s'.heap m ∧ News h₀ L s'.heap news :=
  ⟨⟨F.ns.at' fun o e => hm.heap _ o (fun hb => (hw _ hb).1 rfl) e, fun b o e => hm.heap b o (fun hb => by rw [(hw _ hb).2.1] at e; cases e) (F.keep b o e), F.above⟩,
    fun q hq => ⟨hm.heap _ _ (fun hb => (hw _ hb).2.2 q hq rfl) (N q hq).1, (N q hq).2⟩⟩
section
variable {prog : Program} {w : World} {A : Around} {E : Value → Shared → Prop} {s : Shared} {h₀ : Heap} {L c P x dx : Addr} {m mg mb : Str → Option Value} {news : List (Addr × Obj)} {n : Nat}
  {p : Program} {loose : List Str} {mean : ExcName → Option Value}
theorem GenL.tick {a : Addr} {k : Nat} {F : Nat → Value → Prop} {tk : Tok} (X : GenL prog w A h₀ L news a k F s) : GenL prog w A h₀ L news a k F { s with toks := tk } := X
/-- a generator expression over the parts of an _Accumulator -/
theorem gen_pairs {env : Env} {elt iter : PySem.Expr} {xa xb : Str} {pa pb pt : Pos} {kt : Nat} {scope : Scope} {pos : Pos} {ps : List Part} {Fv : Str → Str → Value → Prop} {Q : Value → Shared → Prop}
    (F : Fr h₀ L s.heap m) (X₀ : (Kf w.params).In h₀) (N : News h₀ L s.heap news) (T : Top p loose mean mg mb h₀) (G : AllBare s.gens) (C : CodeHd h₀ c P) (hcd : env.code = .ref c) (hgl : env.globals = mainGlobals) (ht : TabOk P pos.line pos.col (env.qual ++ "<genexpr>") news)
    (hx : (x, accO dx (accI ps) n) ∈ news) (hps : PartsIn ps news)
    (hh : A.handled = none) (hco : scope.isCoroutine = false) (hclos : closureFor scope env = pure []) (hcell : ∀ y ∈ scope.names, y.2 ≠ .cell) (hz : scope.names.lookup (".0" : Str) = some NameKind.local)
    (hxa : scope.names.lookup xa = some .local) (hxb : scope.names.lookup xb = some .local) (hab : xa ≠ xb) (hkind : scope.kind = .function) (hroom : A.depth < recursionLimit)
    (hs : ∀ x, genFold iter env x = pure x)
    (he : ∀ (R : Value → Shared → Prop), R (.ref x) s → wpAny (model prog w) A (eval iter env) R E s)
    (helt : ∀ (c' C : Addr) (A' : Around) E' (q : Part) (u : Shared) m₂, q ∈ ps → A'.handled = none → A'.depth ≤ A.depth + 1 → A'.units ≤ A.units + 8 → Fr h₀ C u.heap m₂ → m₂ xa = some (.str q.f q.tf) → m₂ xb = some (.str q.p q.tp) →
      wpAny (model prog w) A' (eval elt (genEnv scope [] C (.ref c') builtinsNs env)) (fun y s₃ => Fv q.f q.p y ∧ Keeps u s₃) E' u)
    (h : ∀ a news' h' tk gs, Fr h₀ L h' m → News h₀ L h' news' → TabOk P pos.line pos.col (env.qual ++ "<genexpr>") news' → (∀ q ∈ news, q.1 ≠ P → q ∈ news') → AllBare gs →
      GenL prog w A h₀ L news' a ps.length (fun j y => ∃ q, ps[j]? = some q ∧ Fv q.f q.p y) ⟨h', gs, s.drawn, tk, s.os⟩ → Q (.ref a) ⟨h', gs, s.drawn, tk, s.os⟩) :
    wpAny (model prog w) A (eval (.GeneratorExp elt [⟨.Tuple [.Name xa pa, .Name xb pb] kt pt, iter, [], 0⟩] scope pos) env) Q E s := by
  have X : (Kf w.params).In s.heap := X₀.keeps F.keep
  have hlim : s.heap.NoLimit := T.nolimit.keeps F.keep
  obtain ⟨oT, hoT, hTT⟩ := ht.isQ
  have hPlt : P < s.heap.objs.size := Heap.lt_size (N _ hoT).1
  have hxg := (N _ hx).1
  have hxlt : x < s.heap.objs.size := Heap.lt_size hxg
  have hpg : ∀ q ∈ ps, s.heap.get? q.ad = some q.obj := fun q hq => (N _ (hps q hq)).1
  refine wpAny_GeneratorExp_walksQTD hh hco hclos hcell hz hxa hxb hab hkind hroom (he _ (acc_iter hxg X ?_)) hs
  obtain ⟨F₂, N₂, l₂⟩ := ks_newsPush (q := s.heap.objs.size) (h' := s.heap.push { cls := .type "list_iterator", data := .fields #[.ref x, .int 0 0] }) F N rfl (Heap.get?_push_size _ rfl) fun b o e => Heap.get?_push_of_some _ e
  have hlim₂ := hlim.push { cls := .type "list_iterator", data := .fields #[.ref x, .int 0 0] }
  have keep₂ : ∀ b o, s.heap.get? b = some o → (s.heap.push { cls := .type "list_iterator", data := .fields #[.ref x, .int 0 0] }).get? b = some o := fun b o e => Heap.get?_push_of_some _ e
  have hI₂ : (s.heap.push { cls := .type "list_iterator", data := .fields #[.ref x, .int 0 0] }).IsListIter s.heap.objs.size x 0 := ⟨_, Heap.get?_push_size _ rfl, rfl, rfl⟩
  have hsz₂ : (s.heap.push { cls := .type "list_iterator", data := .fields #[.ref x, .int 0 0] }).objs.size = s.heap.objs.size + 1 := Heap.size_push ..
  generalize s.heap.push { cls := .type "list_iterator", data := .fields #[.ref x, .int 0 0] } = H₂ at F₂ N₂ hlim₂ keep₂ hI₂ hsz₂ ⊢
  refine ⟨hlim₂, gen_code (s := { s with heap := H₂ }) F₂ (News.sub N₂ fun _ hp => .tail _ hp) C hcd ht fun c' news' h₃ tk₃ F₃ N₃ ht₃ hk₃ hx₃ hsz₃ hfrom => ?_⟩
  dsimp only at hx₃ hsz₃ hfrom ⊢
  have hcP : cStatics ≠ P := fun e => by
    obtain ⟨_, hns, _⟩ := hlim
    obtain ⟨o, es, ep, ho, hd, _⟩ := hns
    rw [e, (N _ hoT).1] at ho; cases ho
    obtain ⟨_, rfl, _⟩ := hTT
    cases hd
  have hl₃ : h₃.NoLimit := hlim₂.extBut hx₃ hcP
  have up₃ : ∀ b o, b ≠ P → s.heap.get? b = some o → h₃.get? b = some o := fun b o hb e => hx₃ b o hb (keep₂ b o e)
  obtain ⟨bm, ob, b1, b2, b3, b4, b5, b6⟩ := T.bmain
  refine wpAny_builtinsFor (m := mg) (by rw [hgl]; exact T.g.keeps F₃.keep) b1 b2 (F₃.keep _ _ b3) b4 b5 b6 ?_
  have hIne : s.heap.objs.size ≠ P := Nat.ne_of_gt hPlt
  have hxP : x ≠ P := ne_obj N hx hoT (by rintro e; obtain ⟨_, e2, _⟩ := hTT; rw [e2] at e; cases e)
  have hqP : ∀ q ∈ ps, q.ad ≠ P := fun q hq => ne_obj N (hps q hq) hoT (by rintro e; obtain ⟨_, e2, _⟩ := hTT; rw [e2] at e; cases e)
  have hq0 : ∀ j, j < ps.length → ∃ q, ps[j]? = some q ∧ q ∈ ps := fun j hj => ⟨ps[j], by simp [hj], List.getElem_mem hj⟩
  let Ts : Nat → Addr := fun j => (ps[j]?.map fun q => q.ad).getD 0
  let vals : Nat → Array Value := fun j => (ps[j]?.map fun q => (#[Value.str q.f q.tf, Value.str q.p q.tp] : Array Value)).getD #[.none, .none]
  have hsz : (accI ps).size = ps.length := by simp [accI]
  have hTlt : ∀ j, j < (accI ps).size → Ts j < s.heap.objs.size := fun j hj => by
    obtain ⟨q, e, hq⟩ := hq0 j (hsz ▸ hj)
    simp only [Ts, e, Option.map_some, Option.getD_some]
    exact Heap.lt_size (hpg q hq)
  have W := fun (A' : Around) (hA : A'.handled = none) => (walk_pairs (prog := prog) (w := w) hA s.heap.objs.size x (Nat.ne_of_lt hxlt) (accI ps) Ts vals
    (fun j hj => by obtain ⟨q, e, hq⟩ := hq0 j (hsz ▸ hj); simp [accI, Ts, e]) fun j hj => Nat.ne_of_lt (hTlt j hj)).bound
  have hsize₃ : s.heap.objs.size < h₃.objs.size := Nat.lt_of_lt_of_le (by rw [hsz₂]; exact Nat.lt_succ_self _) hsz₃
  have hI0 : s.heap.objs.size ≠ L ∧ h₀.get? s.heap.objs.size = none := (N₂ _ (.head _)).2
  have hC0 : h₃.objs.size ≠ L ∧ h₀.get? h₃.objs.size = none := ⟨fun e => Nat.lt_irrefl _ (Nat.lt_of_lt_of_le F₃.ns.lt (Nat.le_of_eq e)), by
    cases q : h₀.get? h₃.objs.size with
    | none => rfl
    | some o => exact absurd (Heap.lt_size (F₃.keep _ _ q)) (Nat.lt_irrefl _)⟩
  refine ⟨s.heap.objs.size, _, _, _, _, _, _, (fun _ => true), (fun j y => ∃ q, ps[j]? = some q ∧ Fv q.f q.p y), rfl, W, (fun i v hv => ?_), ⟨hI₂.at fun o e => hx₃ _ o hIne e, ⟨_, up₃ _ _ hxP hxg, _, rfl⟩, fun k hk => ?_⟩, ?_, hl₃, ?_, (fun href hhref => ?_), fun a h₅ tk gs hgb hag hsz₅ hk₅ W' hat => ?_⟩
  · obtain ⟨hi, rfl⟩ := hv
    obtain ⟨q, e, hq⟩ := hq0 i (hsz ▸ hi)
    exact ⟨_, _, by simp only [vals, e, Option.map_some, Option.getD_some]; rfl⟩
  · obtain ⟨q, e, hq⟩ := hq0 k (hsz ▸ hk)
    simp only [Ts, vals, e, Option.map_some, Option.getD_some]
    exact ⟨_, up₃ _ _ (hqP q hq) (hpg q hq), rfl, _, rfl⟩
  · intro b hb
    rcases List.mem_cons.mp hb with rfl | hb
    · exact hsize₃
    · rcases List.mem_cons.mp hb with rfl | hb
      · exact Nat.lt_trans hxlt hsize₃
      · obtain ⟨k, hk, rfl⟩ := List.mem_map.mp hb
        exact Nat.lt_trans (hTlt k (List.mem_range.mp hk)) hsize₃
  · intro hm
    have e := List.mem_singleton.mp hm
    obtain ⟨_, hn, _⟩ := hlim
    exact absurd hn.lt (by rw [e]; exact Nat.lt_irrefl _)
  · have inB : ∀ (u : Shared) m₂, u.heap.Ns h₃.objs.size m₂ → (∀ b ∈ List.range h₃.objs.size, b ∉ [s.heap.objs.size] → ∀ o, href.get? b = some o → u.heap.get? b = some o) → Fr h₀ h₃.objs.size u.heap m₂ := fun u m₂ hn hkp =>
      ⟨hn, fun b o e => hkp b (List.mem_range.mpr (Heap.lt_size (F₃.keep b o e))) (fun hm => by rw [List.mem_singleton.mp hm, hI0.2] at e; cases e) o (hhref b o (F₃.keep b o e)), Nat.le_trans F₃.above (Nat.le_of_lt F₃.ns.lt)⟩
    refine ⟨fun A' E' i va vb u m₂ hA hD hU hP hn hma hmb hkp => wpAny_pure ⟨rfl, ⟨_, _, rfl, fun _ _ e => e⟩⟩, fun A' E' i va vb u m₂ hA hD hU hP _ hn hma hmb hkp => ?_⟩
    obtain ⟨hi, hv⟩ := hP
    obtain ⟨q, e, hq⟩ := hq0 i (hsz ▸ hi)
    simp only [vals, e, Option.map_some, Option.getD_some] at hv
    obtain ⟨e1, e2⟩ : va = Value.str q.f q.tf ∧ vb = Value.str q.p q.tp := by simpa using congrArg Array.toList hv
    subst e1 e2
    refine wpAny_mono (helt c' _ A' E' q u m₂ hq hA hD hU (inB u m₂ hn hkp) hma hmb) (fun y s₃ z => ⟨⟨q, e, z.1⟩, z.2⟩) fun _ _ e => e
  · have hpass : passing (fun _ => true) (accI ps).size 0 = List.range ps.length := by simp [passing, hsz]
    simp only [hpass] at W'
    rw [List.length_range] at W'
    have e : (fun (j : Nat) (y : Value) => ∃ i, (List.range ps.length)[j]? = some i ∧ ∃ q, ps[i]? = some q ∧ Fv q.f q.p y) = (fun j y => ∃ q, ps[j]? = some q ∧ Fv q.f q.p y) := by
      funext j y
      refine propext ⟨fun ⟨i, hi, q, hq⟩ => ?_, fun ⟨q, hq, hv⟩ => ⟨j, ?_, q, hq, hv⟩⟩
      · have := (List.getElem?_eq_some_iff.mp hi)
        obtain ⟨_, hi⟩ := this
        simp at hi
        exact ⟨q, by rw [hi]; exact hq.1, hq.2⟩
      · have := (List.getElem?_eq_some_iff.mp hq).1
        simp [this]
    rw [e] at W'
    refine h a news' h₅ tk _ (F₃.keeps hk₅) (fun q hq => ⟨hk₅ _ _ (N₃ q hq).1, (N₃ q hq).2⟩) ht₃ hk₃ (G.push hgb) ⟨_, _, _, _, W', fun _ => hat, fun i s' st => st.1.typeIs, List.mem_cons_self, ?_, ?_⟩
    · intro b hb
      show b < h₅.objs.size
      rw [hsz₅]
      rcases List.mem_cons.mp hb with rfl | hb
      · exact Nat.lt_succ_self _
      · rcases List.mem_cons.mp hb with rfl | hb
        · exact Nat.lt_succ_of_lt hag
        · exact Nat.lt_succ_of_lt (Nat.lt_trans (List.mem_range.mp hb) hag)
    · intro b hb
      rcases List.mem_cons.mp hb with rfl | hb
      · exact ⟨hC0.1, hC0.2, fun q hq => Nat.ne_of_lt (Heap.lt_size (N₃ q hq).1)⟩
      · rw [List.mem_singleton.mp hb]
        refine ⟨hI0.1, hI0.2, fun q hq => ?_⟩
        rcases hfrom q hq with hq | hq | hq
        · exact Nat.ne_of_lt (l₂ q hq)
        · rw [hq]; exact Nat.ne_of_lt hPlt
        · rw [hsz₂] at hq; exact Nat.ne_of_gt hq
end
end Mine
end

section
open PySem PySem.W PyProof.Rows
set_option linter.unusedVariables false
set_option maxRecDepth 100000
namespace Mine
section
variable {prog : Program} {w : World} {A : Around} {E : Value → Shared → Prop} {s : Shared} {h₀ : Heap} {L : Addr} {m : Str → Option Value} {news : List (Addr × Obj)} {a : Addr} {n : Nat} {Fv : Nat → Value → Prop}
theorem shared_eq {s s' : Shared} (hd : s'.drawn = s.drawn) (ho : s'.os = s.os) : s' = ⟨s'.heap, s'.gens, s.drawn, s'.toks, s.os⟩ := by obtain ⟨h, g, d, t, o⟩ := s'; dsimp only at hd ho; rw [hd, ho]
theorem sum_led {z : Int} {tz : Tok} {Q : Value → Shared → Prop} (F : Fr h₀ L s.heap m) (N : News h₀ L s.heap news) (G : AllBare s.gens) (X : GenL prog w A h₀ L news a n Fv s) (val : Nat → Int) (hval : ∀ i v, Fv i v → ∃ t, v = .int (val i) t)
    (hz : -(2 ^ 63) ≤ z ∧ z < 2 ^ 63) (hQ : ∀ h' gs tk t', Fr h₀ L h' m → News h₀ L h' news → AllBare gs → Q (.int (z + preSum val n) t') ⟨h', gs, s.drawn, tk, s.os⟩) : wpAny (model prog w) A (call (.builtin "sum") [.ref a, .int z tz]) Q E s := by
  obtain ⟨fp, wr, g, St, W, hst, _, _, hfp, hw⟩ := X
  refine call_sum2 W.in4_1 (hst s.toks) hfp val hval hz fun s' t' hm => ?_
  obtain ⟨F', N'⟩ := moved_fr F N hm hw
  rw [shared_eq hm.drawn hm.os]
  exact hQ _ _ _ _ F' N' (G.movedS hm)
theorem join_led {sep : Str} {t : Tok} {Q : Value → Shared → Prop} (F : Fr h₀ L s.heap m) (N : News h₀ L s.heap news) (G : AllBare s.gens) (X : GenL prog w A h₀ L news a n Fv s) (tx : Nat → Str) (htx : ∀ i v, Fv i v → ∃ u, v = .str (tx i) u)
    (hok : JoinOk sep ((List.range n).map tx) = true) (hsz : n ≤ sizeLine)
    (hQ : ∀ h' gs tk t', Fr h₀ L h' m → News h₀ L h' news → AllBare gs → Q (.str (Txt.join sep ((List.range n).map tx)) t') ⟨h', gs, s.drawn, tk, s.os⟩) : wpAny (model prog w) A (call (.builtin "str.join") [.str sep t, .ref a]) Q E s := by
  obtain ⟨fp, wr, g, St, W, hst, hT, ha, hfp, hw⟩ := X
  refine SC.joinGen W.in4_2 hT (hst s.toks) hfp ha (fun j v hv => let ⟨u, e⟩ := htx j v hv; ⟨_, u, e⟩) (fun s' lt hm hacc => ?_) hsz
  have hl : lt.map (·.1) = (List.range n).map tx := by
    have hn : lt.length = n := by simpa [strValues] using hacc.1
    refine List.ext_getElem (by simp [hn]) fun j h1 h2 => ?_
    have hj : j < lt.length := by simpa using h1
    obtain ⟨u, hv⟩ := htx j _ (hacc.2 j (.str lt[j].1 lt[j].2) (by simp [strValues, List.getElem?_eq_getElem hj]))
    injection hv with e _
    simp [e]
  rw [hl]
  obtain ⟨F', N'⟩ := moved_fr F N hm hw
  have G' := G.movedS hm
  refine ⟨hok, fun t' k => ?_⟩
  rw [shared_eq (s := s) (s' := { s' with toks := k }) hm.drawn hm.os]
  exact hQ _ _ _ _ F' N' G'
end
end Mine
end

section
open PySem PySem.W PyProof.Rows
set_option linter.unusedVariables false
set_option maxRecDepth 100000
namespace Mine
section
variable {prog : Program} {w : World} {A : Around} {E : Value → Shared → Prop} {s : Shared} {h₀ : Heap} {L x dx : Addr} {m : Str → Option Value} {news : List (Addr × Obj)} {items : Array Value} {k n : Nat} {hsh : Int} {tk : Tok} {v : Value}
theorem fm_append (P : Params) : findIn (Kf P) (.ref 178) "append" = some (some (.builtin "list.append")) := by kernel_rfl
theorem tm_append (P : Params) : typeIn (Kf P) (.builtin "list.append") = some (.type "method_descriptor") := by kernel_rfl
theorem m_append {pl : Sem Bool} {Q : Value × List Value → Shared → Prop} (F : Fr h₀ L s.heap m) (X₀ : (Kf w.params).In h₀) (N : News h₀ L s.heap news) (h1 : (x, accO dx items k) ∈ news) (h2 : (dx, accD hsh tk v n) ∈ news) (h : Q (.builtin "list.append", [.ref x]) s) :
    wpAny (model prog w) A (getMethod (.ref x) (Str.ofString "append") pl) Q E s :=
  acc_method (X₀.keeps F.keep) (acc_at N h1 h2) (fm_append _) (tm_append _) (by decide +kernel) (by rw [lookIn_dict]; rfl) h
theorem fm_push (P : Params) : findIn (Kf P) (.ref 178) "push" = some (some (.ref 122)) := by kernel_rfl
theorem tm_push (P : Params) : typeIn (Kf P) (.ref 122) = some (.type "function") := by kernel_rfl
theorem m_push {pl : Sem Bool} {Q : Value × List Value → Shared → Prop} (F : Fr h₀ L s.heap m) (X₀ : (Kf w.params).In h₀) (N : News h₀ L s.heap news) (h1 : (x, accO dx items k) ∈ news) (h2 : (dx, accD hsh tk v n) ∈ news) (h : Q (.ref 122, [.ref x]) s) :
    wpAny (model prog w) A (getMethod (.ref x) (Str.ofString "push") pl) Q E s :=
  acc_method (X₀.keeps F.keep) (acc_at N h1 h2) (fm_push _) (tm_push _) (by decide +kernel) (by rw [lookIn_dict]; rfl) h
theorem fm_pop_from (P : Params) : findIn (Kf P) (.ref 178) "pop_from" = some (some (.ref 130)) := by kernel_rfl
theorem tm_pop_from (P : Params) : typeIn (Kf P) (.ref 130) = some (.type "function") := by kernel_rfl
theorem m_pop_from {pl : Sem Bool} {Q : Value × List Value → Shared → Prop} (F : Fr h₀ L s.heap m) (X₀ : (Kf w.params).In h₀) (N : News h₀ L s.heap news) (h1 : (x, accO dx items k) ∈ news) (h2 : (dx, accD hsh tk v n) ∈ news) (h : Q (.ref 130, [.ref x]) s) :
    wpAny (model prog w) A (getMethod (.ref x) (Str.ofString "pop_from") pl) Q E s :=
  acc_method (X₀.keeps F.keep) (acc_at N h1 h2) (fm_pop_from _) (tm_pop_from _) (by decide +kernel) (by rw [lookIn_dict]; rfl) h
theorem fm_pop (P : Params) : findIn (Kf P) (.ref 178) "pop" = some (some (.ref 138)) := by kernel_rfl
theorem tm_pop (P : Params) : typeIn (Kf P) (.ref 138) = some (.type "function") := by kernel_rfl
theorem m_pop {pl : Sem Bool} {Q : Value × List Value → Shared → Prop} (F : Fr h₀ L s.heap m) (X₀ : (Kf w.params).In h₀) (N : News h₀ L s.heap news) (h1 : (x, accO dx items k) ∈ news) (h2 : (dx, accD hsh tk v n) ∈ news) (h : Q (.ref 138, [.ref x]) s) :
    wpAny (model prog w) A (getMethod (.ref x) (Str.ofString "pop") pl) Q E s :=
  acc_method (X₀.keeps F.keep) (acc_at N h1 h2) (fm_pop _) (tm_pop _) (by decide +kernel) (by rw [lookIn_dict]; rfl) h
theorem fm_reset (P : Params) : findIn (Kf P) (.ref 178) "reset" = some (some (.ref 160)) := by kernel_rfl
theorem tm_reset (P : Params) : typeIn (Kf P) (.ref 160) = some (.type "function") := by kernel_rfl
theorem m_reset {pl : Sem Bool} {Q : Value × List Value → Shared → Prop} (F : Fr h₀ L s.heap m) (X₀ : (Kf w.params).In h₀) (N : News h₀ L s.heap news) (h1 : (x, accO dx items k) ∈ news) (h2 : (dx, accD hsh tk v n) ∈ news) (h : Q (.ref 160, [.ref x]) s) :
    wpAny (model prog w) A (getMethod (.ref x) (Str.ofString "reset") pl) Q E s :=
  acc_method (X₀.keeps F.keep) (acc_at N h1 h2) (fm_reset _) (tm_reset _) (by decide +kernel) (by rw [lookIn_dict]; rfl) h
theorem fm_is_onlyws (P : Params) : findIn (Kf P) (.ref 178) "is_onlyws" = some (some (.ref 167)) := by kernel_rfl
theorem tm_is_onlyws (P : Params) : typeIn (Kf P) (.ref 167) = some (.type "function") := by kernel_rfl
theorem m_is_onlyws {pl : Sem Bool} {Q : Value × List Value → Shared → Prop} (F : Fr h₀ L s.heap m) (X₀ : (Kf w.params).In h₀) (N : News h₀ L s.heap news) (h1 : (x, accO dx items k) ∈ news) (h2 : (dx, accD hsh tk v n) ∈ news) (h : Q (.ref 167, [.ref x]) s) :
    wpAny (model prog w) A (getMethod (.ref x) (Str.ofString "is_onlyws") pl) Q E s :=
  acc_method (X₀.keeps F.keep) (acc_at N h1 h2) (fm_is_onlyws _) (tm_is_onlyws _) (by decide +kernel) (by rw [lookIn_dict]; rfl) h
theorem fm_part_count (P : Params) : findIn (Kf P) (.ref 178) "part_count" = some (some (.ref 175)) := by kernel_rfl
theorem tm_part_count (P : Params) : typeIn (Kf P) (.ref 175) = some (.type "function") := by kernel_rfl
theorem m_part_count {pl : Sem Bool} {Q : Value × List Value → Shared → Prop} (F : Fr h₀ L s.heap m) (X₀ : (Kf w.params).In h₀) (N : News h₀ L s.heap news) (h1 : (x, accO dx items k) ∈ news) (h2 : (dx, accD hsh tk v n) ∈ news) (h : Q (.ref 175, [.ref x]) s) :
    wpAny (model prog w) A (getMethod (.ref x) (Str.ofString "part_count") pl) Q E s :=
  acc_method (X₀.keeps F.keep) (acc_at N h1 h2) (fm_part_count _) (tm_part_count _) (by decide +kernel) (by rw [lookIn_dict]; rfl) h
end
end Mine
end

section
open PySem PySem.W PyProof.Rows
set_option linter.unusedVariables false
set_option maxRecDepth 100000
namespace Mine
theorem TabsOk.but {h₀ h : Heap} {L x : Addr} {ox : Obj} {news news' : List (Addr × Obj)} (t : TabsOk news) (N : News h₀ L h news) (hx : (x, ox) ∈ news) (ho : ∀ vs, ox.data ≠ .fields vs) (k : ∀ q ∈ news, q.1 ≠ x → q ∈ news') : TabsOk news' :=
  have k' : ∀ q ∈ off x news, q ∈ news' := fun q hq => k q (mem_off.mp hq).1 (mem_off.mp hq).2
  ⟨(t.len.off N hx ho).mono k', (t.str.off N hx ho).mono k', (t.i2d.off N hx ho).mono k', (t.d2i.off N hx ho).mono k'⟩
theorem TabsOk.mono {news news' : List (Addr × Obj)} (t : TabsOk news) (k : ∀ q ∈ news, q ∈ news') : TabsOk news' := ⟨t.len.mono k, t.str.mono k, t.i2d.mono k, t.d2i.mono k⟩
/-- an _Accumulator in the ledger: its parts and its initial size -/
structure Ac (x dx : Addr) (ps : List Part) (ini : Int) (news : List (Addr × Obj)) : Prop where
  ob : ∃ k, (x, accO dx (accI ps) k) ∈ news
  di : ∃ hsh tk ti n, (dx, accD hsh tk (.int ini ti) n) ∈ news
  pa : PartsIn ps news
/-- what a method of an _Accumulator keeps of the ledger -/
def KpA (x dx : Addr) (news news' : List (Addr × Obj)) : Prop := ∀ q ∈ news, q.1 ≠ x → q.1 ≠ dx → ¬ isT q.2 → q ∈ news'
theorem KpA.refl (x dx : Addr) (l : List (Addr × Obj)) : KpA x dx l l := fun _ h _ _ _ => h
theorem KpA.trans {x dx : Addr} {a b c : List (Addr × Obj)} (u : KpA x dx a b) (v : KpA x dx b c) : KpA x dx a c := fun q h n1 n2 n3 => v q (u q h n1 n2 n3) n1 n2 n3
theorem Kp.toA {x dx : Addr} {a b : List (Addr × Obj)} (u : Kp a b) : KpA x dx a b := fun q h _ _ n => u q h n
theorem acc_noT {dx : Addr} {items : Array Value} {k : Nat} : ¬ isT (accO dx items k) := notT (by nofun)
theorem dict_noT {es : List DictEntry} {n : Nat} : ¬ isT (dictOf es n) := notT (by nofun)
theorem tup_noT {a b : Value} : ¬ isT (tupO a b) := notT (by nofun)
theorem list_noT {its : Array Value} {n : Nat} : ¬ isT (listOf its n) := notT (by nofun)
theorem Ac.kp {x dx : Addr} {ps : List Part} {ini : Int} {news news' : List (Addr × Obj)} (a : Ac x dx ps ini news) (k : Kp news news') : Ac x dx ps ini news' :=
  ⟨let ⟨_, h⟩ := a.ob; ⟨_, k _ h acc_noT⟩, let ⟨_, _, _, _, h⟩ := a.di; ⟨_, _, _, _, k _ h dict_noT⟩, fun q hq => k _ (a.pa q hq) tup_noT⟩
theorem ne_data {h₀ h : Heap} {L x y : Addr} {ox oy : Obj} {news : List (Addr × Obj)} (N : News h₀ L h news) (h1 : (x, ox) ∈ news) (h2 : (y, oy) ∈ news) (hne : ox.data ≠ oy.data) : x ≠ y := ne_obj N h1 h2 fun e => hne (by rw [e])
theorem ne_cls {h₀ h : Heap} {L x y : Addr} {ox oy : Obj} {news : List (Addr × Obj)} (N : News h₀ L h news) (h1 : (x, ox) ∈ news) (h2 : (y, oy) ∈ news) (hne : ox.cls ≠ oy.cls) : x ≠ y := ne_obj N h1 h2 fun e => hne (by rw [e])
end Mine
end

section
open PySem PySem.W PyProof.Rows
set_option linter.unusedVariables false
set_option maxRecDepth 100000
namespace Mine
theorem al_len (P : Params) : alongIn (Kf P) "__len__" [.type "list", .type "object"] = some (some (.builtin "list.__len__")) := by kernel_rfl
theorem al_init (P : Params) : alongIn (Kf P) "__init__" [.type "list", .type "object"] = some (some (.builtin "list.__init__")) := by kernel_rfl
theorem al_pop (P : Params) : alongIn (Kf P) "pop" [.type "list", .type "object"] = some (some (.builtin "list.pop")) := by kernel_rfl
section
variable {prog : Program} {w : World} {A : Around} {E : Value → Shared → Prop} {s : Shared} {x dx so q : Addr} {h₀ : Heap} {L : Addr} {m : Str → Option Value} {news : List (Addr × Obj)} {items : Array Value} {k : Nat}
theorem typ_bi {i T : String} (h : fastBuiltinType i = pure (.type T)) : ∀ s : Shared, s.TypeIs (.builtin i) T := fun _ => by show builtinType i = _; rw [builtinType_eq_fast]; exact h
theorem s_len {pl : Sem Bool} {Q : Value × List Value → Shared → Prop} (F : Fr h₀ L s.heap m) (X₀ : (Kf w.params).In h₀) (N : News h₀ L s.heap news) (hso : (so, ks_superObj 178 x 178) ∈ news) (hx : (x, accO dx items k) ∈ news)
    (h : ∀ q h', Fr h₀ L h' m → News h₀ L h' ((q, boundO "method-wrapper" "list.__len__" x) :: news) → (∀ p ∈ news, p.1 < q) → Q (.ref q, []) { s with heap := h', toks := s.toks + 1 }) : wpAny (model prog w) A (getMethod (.ref so) (Str.ofString "__len__") pl) Q E s :=
  sup_wd F X₀ N hso hx (al_len _) (typ_bi (by kernel_rfl)) (by decide +kernel) (by decide +kernel) h
theorem s_init {pl : Sem Bool} {Q : Value × List Value → Shared → Prop} (F : Fr h₀ L s.heap m) (X₀ : (Kf w.params).In h₀) (N : News h₀ L s.heap news) (hso : (so, ks_superObj 178 x 178) ∈ news) (hx : (x, accO dx items k) ∈ news)
    (h : ∀ q h', Fr h₀ L h' m → News h₀ L h' ((q, boundO "method-wrapper" "list.__init__" x) :: news) → (∀ p ∈ news, p.1 < q) → Q (.ref q, []) { s with heap := h', toks := s.toks + 1 }) : wpAny (model prog w) A (getMethod (.ref so) (Str.ofString "__init__") pl) Q E s :=
  sup_wd F X₀ N hso hx (al_init _) (typ_bi (by kernel_rfl)) (by decide +kernel) (by decide +kernel) h
theorem s_pop {pl : Sem Bool} {Q : Value × List Value → Shared → Prop} (F : Fr h₀ L s.heap m) (X₀ : (Kf w.params).In h₀) (N : News h₀ L s.heap news) (hso : (so, ks_superObj 178 x 178) ∈ news) (hx : (x, accO dx items k) ∈ news)
    (h : ∀ q h', Fr h₀ L h' m → News h₀ L h' ((q, boundO "builtin_function_or_method" "list.pop" x) :: news) → (∀ p ∈ news, p.1 < q) → Q (.ref q, []) { s with heap := h', toks := s.toks + 1 }) : wpAny (model prog w) A (getMethod (.ref so) (Str.ofString "pop") pl) Q E s :=
  sup_md F X₀ N hso hx (al_pop _) (typ_bi (by kernel_rfl)) (by decide +kernel) (by decide +kernel) (by decide +kernel) h
theorem cb_slot {M : Model} {i : String} {rest : List Value} {Q : Unit → Shared → Prop} (hk : builtinKind i = some .slot) (ha : argsOk i ⟨.ref x :: rest, []⟩) (hq : Q () s) : wpAny M A (checkBoundCall i ⟨.ref x :: rest, []⟩) Q E s := by
  unfold checkBoundCall
  simp only [hk]
  cases hsig : Manifest.signature? i with
  | none => exact wpAny_pure hq
  | some sig =>
    simp only [argsOk, hsig] at ha
    dsimp only
    rw [if_pos (by decide)]
    have h2 : Bind.checkArgs i sig ⟨.ref x :: rest, []⟩ = pure () := ha
    rw [h2]; exact wpAny_pure hq
theorem pop_sig (x : Value) : (Manifest.signature? "list.pop").any (fun sig => (pureOf (Bind.checkArgs "list.pop" { sig with full := s!"{"_Accumulator"}.{Bind.lastOf "list.pop"}" } ⟨[x], []⟩)).isSome) = true := by kernel_rfl
theorem acc_qual (P : Params) : (clsIn (Kf P) 178).map (fun cd => cd.qualname.toString) = some "_Accumulator" := by kernel_rfl
theorem acc_mod (P : Params) : mroIn (Kf P) 178 (.type "module") = some false := by kernel_rfl
theorem acc_tt (P : Params) : typeIn (Kf P) (.ref 178) = some (.type "type") := by kernel_rfl
theorem cb_pop {Q : Unit → Shared → Prop} (X : (Kf w.params).In s.heap) (hx : s.heap.get? x = some (accO dx items k)) (hq : Q () s) : wpAny (model prog w) A (checkBoundCall "list.pop" ⟨[.ref x], []⟩) Q E s := by
  have L0 : Looks (model prog w) s.heap (isInstance (.ref x) (.type "module")) false := (acc_ty hx).andThen (looks_mroIn X (acc_mod _))
  have L1 : Looks (model prog w) s.heap (typeOf (.ref x)) (.ref 178) := acc_ty hx
  have L2 := looks_typeIn (M := model prog w) X (acc_tt _)
  obtain ⟨cd, hc, hq'⟩ := Option.map_eq_some_iff.mp (acc_qual w.params)
  have L3 := looks_clsIn (M := model prog w) X hc
  have hk : builtinKind "list.pop" = some .method := by decide +kernel
  unfold checkBoundCall
  simp only [hk]
  cases hsig : Manifest.signature? "list.pop" with
  | none => exact absurd hsig (by decide +kernel)
  | some sig =>
    have hch : Bind.checkArgs "list.pop" { sig with full := s!"{"_Accumulator"}.{Bind.lastOf "list.pop"}" } ⟨[.ref x], []⟩ = pure () := by
      have h := pop_sig (.ref x)
      rw [hsig] at h
      simp only [Option.any_some] at h
      obtain ⟨u, hu⟩ := Option.isSome_iff_exists.mp h
      cases u
      exact of_pureOf hu
    dsimp only
    rw [if_neg (by decide)]
    refine wpAny_bind (L0.here ?_)
    rw [if_neg (by decide +kernel)]
    refine wpAny_bind ?_
    unfold isType loadHead
    refine wpAny_bind (wpAny_loadPart hx ?_)
    refine wpAny_pure ?_
    rw [if_neg (by nofun)]
    refine wpAny_bind (L1.here ?_)
    dsimp only
    refine wpAny_bind (L3.here (wpAny_bind (L2.here ?_)))
    rw [if_pos (by decide), hq', hch]
    exact wpAny_pure hq
theorem bk_len : builtinKind "list.__len__" = some .slot := by decide +kernel
theorem bk_init : builtinKind "list.__init__" = some .slot := by decide +kernel
theorem ba_len (v : Value) : argsOk "list.__len__" ⟨[v], []⟩ := by unfold argsOk; kernel_rfl
theorem ba_init (v : Value) : argsOk "list.__init__" ⟨[v], []⟩ := by unfold argsOk; kernel_rfl
theorem b_len {Q : Value → Shared → Prop} (F : Fr h₀ L s.heap m) (N : News h₀ L s.heap news) (hb : (q, boundO "method-wrapper" "list.__len__" x) ∈ news) (hx : (x, accO dx items k) ∈ news)
    (h : ∀ t, Q (.int (items.size : Int) t) { s with toks := s.toks + 1 }) : wpAny (model prog w) A (call (.ref q) []) Q E s := by
  refine call_bound (args := []) (N _ hb).1 (.inr rfl) (fun Q' E' z => cb_slot (i := "list.__len__") (rest := []) bk_len (ba_len _) z) (by decide +kernel) PySem.F.entry_list_len ?_
  obtain ⟨hh, g, d, t, os⟩ := s
  refine len_tree (N _ hx).1 fun tk => ?_
  exact ⟨_, rfl, h tk⟩
theorem b_init {Q : Value → Shared → Prop} (F : Fr h₀ L s.heap m) (N : News h₀ L s.heap news) (hb : (q, boundO "method-wrapper" "list.__init__" x) ∈ news) (hx : (x, accO dx #[] k) ∈ news)
    (h : ∀ n' h', Fr h₀ L h' m → News h₀ L h' ((x, accO dx #[] n') :: off x news) → Q .none { s with heap := h' }) : wpAny (model prog w) A (call (.ref q) []) Q E s := by
  refine call_bound (args := []) (N _ hb).1 (.inr rfl) (fun Q' E' z => cb_slot (i := "list.__init__") (rest := []) bk_init (ba_init _) z) (by decide +kernel) PySem.F.entry_list_init ?_
  exact init_tree F N hx fun n' h' F' N' => ⟨_, rfl, h n' h' F' N'⟩
theorem b_pop {v : Value} {ys : List Value} {Q : Value → Shared → Prop} (F : Fr h₀ L s.heap m) (X₀ : (Kf w.params).In h₀) (N : News h₀ L s.heap news) (hb : (q, boundO "builtin_function_or_method" "list.pop" x) ∈ news) (hx : (x, accO dx (ys ++ [v]).toArray k) ∈ news) (hz : ys.length < 100000)
    (h : ∀ n' h', Fr h₀ L h' m → News h₀ L h' ((x, accO dx ys.toArray n') :: off x news) → Q v { s with heap := h' }) : wpAny (model prog w) A (call (.ref q) []) Q E s := by
  refine call_bound (N _ hb).1 (.inl rfl) (fun Q' E' z => cb_pop (X₀.keeps F.keep) (N _ hx).1 z) (by decide +kernel) PySem.F.entry_list_pop ?_
  exact pop_tree F N hx hz fun n' h' F' N' => ⟨_, rfl, h n' h' F' N'⟩
end
end Mine
end

section
open PySem PySem.W PyProof.Rows
set_option linter.unusedVariables false
set_option maxRecDepth 100000
namespace Mine
theorem execs_at {M : Model} {A : Around} {c : Code} {env : Env} {Q : Flow → Shared → Prop} {E : Value → Shared → Prop} {s : Shared} {b r : List Stmt} {s1 : Stmt} (h : b = s1 :: r) (k : PySem.wpAt M A c (execs (s1 :: r) env) Q E s) : PySem.wpAt M A c (execs b env) Q E s := h ▸ k
section
variable {prog : Program} {w : World} {A : Around} {E : Value → Shared → Prop} {s : Shared} {x q L : Addr} {h₀ : Heap} {news : List (Addr × Obj)} {T i : String}
/-- a bound built-in method is called without arguments -/
theorem cw_bound {pos : Pos} {env : Env} {Q : Value → Shared → Prop} (N : News h₀ L s.heap news) (hb : (q, boundO T i x) ∈ news) (hT : T = "builtin_function_or_method" ∨ T = "method-wrapper")
    (h : wpAny (model prog w) A (call (.ref q) []) Q E s) : wpAny (model prog w) A (callWith pos (.ref q) [] (backTo pos (starEach [] env)) []) Q E s := by
  have ho := (N _ hb).1
  unfold callWith
  refine wpAny_bind (wpAny_holding ?_)
  refine wpAny_mono (Q := fun a s' => a = ⟨[], []⟩ ∧ s' = s) (E := fun _ _ => False) ?_ (fun a s' z => ?_) fun _ _ z => z.elim
  · unfold evalArgs
    rw [show backTo pos (starEach [] env) = [] from rfl]
    refine wpAny_bind ?_
    repeat lk
    exact ⟨rfl, rfl⟩
  obtain ⟨rfl, rfl⟩ := z
  refine wpAny_bind (wpAny_standAt ?_)
  rw [show backTo pos (starEach [] env) = [] from rfl]
  dsimp only
  refine wpAny_bind (m := keeperOf (.ref q)) ?_
  unfold keeperOf
  refine wpAny_bind (wpAny_load ho ?_)
  rcases hT with rfl | rfl
  all_goals
    refine wpAny_pure ?_
    exact wpAny_bind (wpAny_mono h (fun r s₂ hr => wpAny_bind (wpAny_holding (wpAny_point (wpAny_pure hr)))) fun _ _ x => x)
end
end Mine
end

section
open PySem PySem.W PyProof.Rows
set_option linter.unusedVariables false
set_option maxRecDepth 100000
namespace Mine
theorem acc_deque (P : Params) : mroIn (Kf P) 178 (.type "collections.deque") = some false := by kernel_rfl
section
variable {prog : Program} {w : World} {A : Around} {E : Value → Shared → Prop} {s : Shared} {x dx sl : Addr} {items : Array Value} {n : Nat}
theorem acc_key {h : Heap} {k : Value} {name : Str} (hx : h.get? x = some (accO dx items n)) (X : (Kf w.params).In h) : Looks (model prog w) h (sequenceKey (.ref x) k name) k := by
  intro A Q E s kp q
  have L0 := (acc_ty (prog := prog) (w := w) hx).keeps kp
  have L1 := (looks_mroIn (M := model prog w) X (acc_deque _)).keeps kp
  unfold sequenceKey
  refine wpAny_bind (L0.here ?_)
  dsimp only
  refine wpAny_bind ?_
  unfold seqItemTypes
  simp only [List.anyM]
  refine wpAny_bind (L1.here ?_)
  exact wpAny_pure (wpAny_pure q)
theorem acc_meth {id nm : String} {Bi : Builtin} {rest : List Value} {Q : Value → Shared → Prop} (hx : s.heap.get? x = some (accO dx items n)) (X : (Kf w.params).In s.heap) (hp : plainId id = true) (hk : builtinKind id = some .method) (hsp : splitId id = some ("list", nm)) (he : entryFor table id = some Bi)
    (ha : argsOk id ⟨.ref x :: rest, []⟩) (h : wpAny (model prog w) A.in1 (Bi ⟨.ref x :: rest, []⟩) (fun fin s' => ∃ v, fin = .done (.ret v) ∧ Q v s') E s) :
    wpAny (model prog w) A (call (.builtin id) (.ref x :: rest)) Q E s := by
  refine wpAny_call (codeAny_call_builtin hp he (check_method hk hsp ((acc_ty hx).andThen (looks_mroIn X (acc_sub _))) ha ?_))
  refine wpAny_mono h (fun fin s' z => ?_) fun _ _ z => z
  obtain ⟨v, rfl, z⟩ := z
  exact z
theorem acc_getitem {i : Value} {Q : Value → Shared → Prop} (hx : s.heap.get? x = some (accO dx items n)) (X : (Kf w.params).In s.heap)
    (h : wpAny (model prog w) A.in1 (Builtin.«list.__getitem__» ⟨[.ref x, i], []⟩) (fun fin s' => ∃ v, fin = .done (.ret v) ∧ Q v s') E s) : wpAny (model prog w) A (getItem (.ref x) i) Q E s := by
  have L0 : Looks (model prog w) s.heap (specialOf (.ref x) "__getitem__") (some (.builtin "list.__getitem__")) := (acc_ty hx).andThen (looks_findIn X (acc_fgi _))
  unfold getItem callSpecial?
  refine wpAny_holding (wpAny_bind ((acc_key hx X).here (wpAny_bind (wpAny_bind (L0.here (wpAny_holding ?_))))))
  rw [slot_list_getitem.bind]
  refine wpAny_bind (wpAny_pure (wpAny_bind ?_))
  exact acc_meth hx X (by decide +kernel) (by decide +kernel) (nm := "__getitem__") (by decide +kernel) entry_list_getitem (args_list_getitem _ _) (wpAny_mono h (fun fin s' ⟨v, e, z⟩ => ⟨v, e, wpAny_pure (wpAny_pure z)⟩) fun _ _ z => z)
theorem acc_tail {value slice : PySem.Expr} {i : Value} {ops : List Value} {Q : Value → Shared → Prop} (hx : s.heap.get? x = some (accO dx items n)) (X : (Kf w.params).In s.heap) (h : wpAny (model prog w) A (getItem (.ref x) i) Q E s)
    (hs : subscripted slice false (.ref x) i = operate ops (getItem (.ref x) i)) (ht : ∀ r, letTemporaryGo value (.ref x) r = pure ()) : wpAny (model prog w) A (subscriptTail value slice (.ref x) i) Q E s := by
  have L0 : Looks (model prog w) s.heap (specialOf (.ref x) "__getitem__") (some (.builtin "list.__getitem__")) := (acc_ty hx).andThen (looks_findIn X (acc_fgi _))
  unfold subscriptTail getitemInPython
  refine wpAny_bind (wpAny_bind (L0.here (wpAny_pure ?_)))
  rw [hs]
  refine wpAny_bind (wpAny_operating (wpAny_mono h (fun r s₃ h₃ => ?_) fun _ _ x => x))
  exact wpAny_bind (wpAny_of_eq (ht r) (wpAny_pure h₃))
/-- what the slice's parts tell -/
theorem slice_parts {vl vu : Value} {lo hi : Option Int} {Q : Value × Value × Value → Shared → Prop} (hs : s.heap.IsSliceOf sl vl vu .none) (pl : IsPart vl lo) (pu : IsPart vu hi) (h : Q (rawPart lo, rawPart hi, .none) s) :
    wpAny (model prog w) A (Builtin.List.listSliceParts (.ref sl)) Q E s := by
  obtain ⟨os, hos, hcs, hds⟩ := hs
  rw [listSliceParts_eq]
  refine wpAny_bind (wpAny_field hos hds (x := .none) rfl (wpAny_bind (wpAny_listPart .none ?_)))
  rw [if_neg (by exact Bool.false_ne_true)]
  refine wpAny_bind (wpAny_field hos hds (x := vl) rfl (wpAny_bind (wpAny_listPart pl ?_)))
  exact wpAny_bind (wpAny_field hos hds (x := vu) rfl (wpAny_bind (wpAny_listPart pu (wpAny_pure h))))
theorem slice_sub {vl vu vs : Value} {Q : Option Int → Shared → Prop} (hs : s.heap.IsSliceOf sl vl vu vs) (h : Q none s) : wpAny (model prog w) A (Builtin.List.listSubscript? (.ref sl)) Q E s := by
  obtain ⟨os, hos, hcs, hds⟩ := hs
  unfold Builtin.List.listSubscript?
  refine wpAny_bind (wpAny_specialOf (T := "slice") ⟨os, hos, hcs⟩ slice_no_index ?_)
  simp only [Option.isNone_none, if_true]
  exact wpAny_pure h
theorem acc_items {Q : Array Value → Shared → Prop} (hx : s.heap.get? x = some (accO dx items n)) (h : Q items s) : wpAny (model prog w) A (Builtin.List.listItems (.ref x)) Q E s := by
  unfold Builtin.List.listItems
  exact wpAny_bind (wpAny_seqItems hx rfl (wpAny_pure h))
/-- self[a:b] -/
theorem acc_slice {vl vu : Value} {lo hi : Option Int} {Q : Value → Shared → Prop} (hx : s.heap.get? x = some (accO dx items n)) (X : (Kf w.params).In s.heap) (hs : s.heap.IsSliceOf sl vl vu .none) (pl : IsPart vl lo) (pu : IsPart vu hi) (hsz : items.size ≤ sizeLine)
    (h : Q (.ref s.heap.objs.size) { s with heap := s.heap.push { cls := .type "list", data := .seq (slicePick items lo hi none) } }) : wpAny (model prog w) A (getItem (.ref x) (.ref sl)) Q E s := by
  refine acc_getitem hx X ?_
  have hs' := hs
  obtain ⟨os, hos, hcs, hds⟩ := hs
  unfold Builtin.«list.__getitem__»
  refine wpAny_bind (wpAny_pure (a := (Value.ref x, Value.ref sl)) ?_)
  dsimp only
  refine wpAny_bind (slice_sub hs' ?_)
  dsimp only
  refine wpAny_bind (wpAny_typeOf (T := "slice") ⟨os, hos, hcs⟩ ?_)
  rw [if_neg (by decide)]
  refine wpAny_bind (slice_parts hs' pl pu (wpAny_bind (acc_items hx ?_)))
  refine wpAny_bind (wpAny_of_eq (sliceIndices_raw lo hi none items.size (by nofun)) ?_)
  exact wpAny_bind (wpAny_newObj_type (wpAny_pure ⟨_, rfl, h⟩) (Nat.le_trans (slicePick_size_le items lo hi none) hsz))
/-- self[i] -/
theorem acc_item {k : Int} {t : Tok} {v : Value} {Q : Value → Shared → Prop} (hx : s.heap.get? x = some (accO dx items n)) (X : (Kf w.params).In s.heap) (h0 : 0 ≤ k) (hfit : k < 2 ^ 63) (hi : items[k.toNat]? = some v) (h : Q v s) : wpAny (model prog w) A (getItem (.ref x) (.int k t)) Q E s := by
  refine acc_getitem hx X ?_
  show wpAny _ _ (Builtin.List.listSubscript? (.int k t) >>= _) _ _ s
  refine wpAny_bind (wpAny_listSubscript_int (fitsIndex_of h0 hfit) ?_)
  clear hfit
  obtain ⟨j, rfl⟩ := Int.eq_ofNat_of_zero_le h0
  have hx' : items[j]? = some v := hi
  show wpAny _ _ ((seqItemAt x j >>= fun r => pure (r.map (j, ·))) >>= _) _ _ s
  refine wpAny_bind (wpAny_bind (wpAny_seqItemAt hx rfl (wpAny_pure ?_)))
  rw [hx']
  exact wpAny_pure ⟨v, rfl, h⟩
end
end Mine
end

section
open PySem PySem.W PyProof.Rows
set_option linter.unusedVariables false
set_option maxRecDepth 100000
namespace Mine
section
variable {prog : Program} {w : World} {A : Around} {E : Value → Shared → Prop} {s : Shared} {x dx sl r : Addr} {items new : Array Value} {n kr : Nat} {h₀ : Heap} {L : Addr} {m : Str → Option Value} {news : List (Addr × Obj)}
theorem acc_setitem {i v : Value} {Q : Unit → Shared → Prop} (hx : s.heap.get? x = some (accO dx items n)) (X : (Kf w.params).In s.heap)
    (h : wpAny (model prog w) A.in1 (Builtin.«list.__setitem__» ⟨[.ref x, i, v], []⟩) (fun fin s' => ∃ v, fin = .done (.ret v) ∧ Q () s') E s) : wpAny (model prog w) A (setItem (.ref x) i v) Q E s := by
  have L0 : Looks (model prog w) s.heap (specialOf (.ref x) "__setitem__") (some (.builtin "list.__setitem__")) := (acc_ty hx).andThen (looks_findIn X (acc_fsi _))
  unfold setItem callSpecial?
  refine wpAny_holding (wpAny_bind ((acc_key hx X).here (wpAny_bind (wpAny_bind (L0.here (wpAny_holding ?_))))))
  rw [slot_list_setitem.bind]
  refine wpAny_bind (wpAny_pure (wpAny_bind ?_))
  exact acc_slot hx X (by decide +kernel) (by decide +kernel) (nm := "__setitem__") (by decide +kernel) entry_list_setitem (args_list_setitem _ _ _) (wpAny_mono h (fun fin s' ⟨v, e, z⟩ => ⟨v, e, wpAny_pure (wpAny_pure z)⟩) fun _ _ z => z)
/-- self[a:b] = a list -/
theorem acc_setslice {vl vu : Value} {lo hi : Option Int} {Q : Unit → Shared → Prop} (F : Fr h₀ L s.heap m) (X₀ : (Kf w.params).In h₀) (N : News h₀ L s.heap news) (hx : (x, accO dx items n) ∈ news) (hr : s.heap.IsList r new) (hs : s.heap.IsSliceOf sl vl vu .none) (pl : IsPart vl lo) (pu : IsPart vu hi)
    (hz : items.size + new.size ≤ 1000)
    (h : ∀ n' h', Fr h₀ L h' m → News h₀ L h' ((x, accO dx (items.extract 0 (sliceBounds lo hi none items.size).1.toNat ++ new ++ items.extract (max (sliceBounds lo hi none items.size).1 (sliceBounds lo hi none items.size).2.1).toNat items.size) n') :: off x news) → Q () { s with heap := h' }) :
    wpAny (model prog w) A (setItem (.ref x) (.ref sl) (.ref r)) Q E s := by
  have hg := (N _ hx).1
  have X := X₀.keeps F.keep
  refine acc_setitem hg X ?_
  have hs' := hs
  obtain ⟨os, hos, hcs, hds⟩ := hs
  obtain ⟨ol, hol, hcl, nl, hdl⟩ := hr
  have hxr : x ≠ r := fun e => by rw [e] at hg; rw [hg] at hol; cases hol; cases hcl
  unfold Builtin.«list.__setitem__»
  refine wpAny_bind (wpAny_pure (a := (Value.ref x, [Value.ref sl, Value.ref r])) ?_)
  dsimp only
  refine wpAny_bind (slice_sub hs' ?_)
  dsimp only
  refine wpAny_bind (wpAny_typeOf (T := "slice") ⟨os, hos, hcs⟩ ?_)
  rw [if_neg (by decide)]
  refine wpAny_bind (slice_parts hs' pl pu ?_)
  dsimp only
  rw [if_neg (by show ¬ ((x == r) = true); simpa using hxr)]
  unfold Builtin.List.listAllItems
  refine wpAny_bind (wpAny_bind (wpAny_typeOf (T := "list") ⟨ol, hol, hcl⟩ ?_))
  rw [if_pos (by decide)]
  unfold Builtin.List.listItems
  refine wpAny_bind (wpAny_seqItems hol hdl (wpAny_pure ?_))
  refine wpAny_bind (wpAny_bind (wpAny_seqItems hg rfl (wpAny_pure ?_)))
  refine wpAny_bind (wpAny_of_eq (sliceIndices_raw lo hi none items.size (by nofun)) ?_)
  rw [if_pos (show ((sliceBounds lo hi none items.size).2.2 == 1) = true from rfl)]
  refine wpAny_bind (wpAny_rule ?_)
  have e1 : (100000 : Nat) ≤ sizeLine := by decide
  rw [if_neg (by simp only [Builtin.List.listTooLong, decide_eq_true_eq]; omega)]
  refine wpAny_bind (acc_upd F N hx ?_ fun n' h' F' N' => wpAny_bind (wpAny_letGo (wpAny_pure ⟨_, rfl, h n' h' F' N'⟩)))
  refine Nat.le_trans ?_ e1
  simp only [Array.size_append, Array.size_extract, Nat.min_self, Nat.sub_zero]
  exact Nat.le_trans (Nat.add_le_add (Nat.add_le_add_right (Nat.min_le_right _ _) _) (Nat.sub_le _ _)) (by omega)
theorem cut_from {α : Type} {as : List α} {i : Nat} (hi : i ≤ as.length) : as.toArray.extract 0 (sliceBounds (some (i : Int)) none none as.length).1.toNat ++ (#[] : Array α) ++ as.toArray.extract (max (sliceBounds (some (i : Int)) none none as.length).1 (sliceBounds (some (i : Int)) none none as.length).2.1).toNat as.length = (as.take i).toArray := by
  have e1 : (sliceBounds (some (i : Int)) none none as.length).1 = i := by simp [sliceBounds]; omega
  have e2 : (sliceBounds (some (i : Int)) none none as.length).2.1 = as.length := by simp [sliceBounds]
  rw [e1, e2, show (max (i : Int) (as.length : Int)).toNat = as.length by omega]
  apply Array.ext'
  simp [List.extract_eq_take_drop]
theorem put_whole {α : Type} {as bs : List α} : as.toArray.extract 0 (sliceBounds none none none as.length).1.toNat ++ bs.toArray ++ as.toArray.extract (max (sliceBounds none none none as.length).1 (sliceBounds none none none as.length).2.1).toNat as.length = bs.toArray := by
  have e1 : (sliceBounds none none none as.length).1 = 0 := by simp [sliceBounds]
  have e2 : (sliceBounds none none none as.length).2.1 = as.length := by simp [sliceBounds]
  rw [e1, e2, show (max (0 : Int) (as.length : Int)).toNat = as.length by omega]
  apply Array.ext'
  simp [List.extract_eq_take_drop]
end
end Mine
end

section
open PySem PySem.W PyProof.Rows
set_option linter.unusedVariables false
set_option maxRecDepth 100000
namespace Mine
section
variable {prog : Program} {w : World} {A : Around} {E : Value → Shared → Prop} {s : Shared} {x dx sl r : Addr} {items : Array Value} {n kr : Nat} {h₀ : Heap} {L : Addr} {m : Str → Option Value} {news : List (Addr × Obj)}
theorem acc_sliceL {value slice : PySem.Expr} {vl vu : Value} {lo hi : Option Int} {Q : Value → Shared → Prop} (F : Fr h₀ L s.heap m) (X₀ : (Kf w.params).In h₀) (N : News h₀ L s.heap news) (hx : (x, accO dx items n) ∈ news) (pl : IsPart vl lo) (pu : IsPart vu hi) (hsz : items.size ≤ sizeLine)
    (h : ∀ r h', Fr h₀ L h' m → News h₀ L h' ((r, listOf (slicePick items lo hi none) 0) :: news) → (∀ p ∈ news, p.1 < r) → Q (.ref r) { s with heap := h' })
    (hs : subscripted slice false (.ref x) (.ref s.heap.objs.size) = operate [.ref s.heap.objs.size, .ref x] (getItem (.ref x) (.ref s.heap.objs.size)) := by with_unfolding_all rfl)
    (ht : ∀ r, letTemporaryGo value (.ref x) r = pure () := by intro _; with_unfolding_all rfl) :
    wpAny (model prog w) A (subscriptTail value slice (.ref x) (.ref s.heap.objs.size)) Q E { s with heap := s.heap.push { cls := .type "slice", data := .fields #[vl, vu, .none] } } := by
  have F1 := F.push { cls := .type "slice", data := .fields #[vl, vu, .none] }
  have N1 := N.grown (h' := s.heap.push { cls := .type "slice", data := .fields #[vl, vu, .none] }) fun _ _ e => Heap.get?_push_of_some _ e
  have X1 := X₀.keeps F1.keep
  have hx1 := (N1 _ hx).1
  refine acc_tail (s := { s with heap := _ }) hx1 X1 (acc_slice (s := { s with heap := _ }) hx1 X1 (Heap.IsSliceOf.new ..) pl pu hsz ?_) hs ht
  exact h _ _ (F1.push _) (News.push F1 N1 _) fun p hp => Heap.lt_size (N1 p hp).1
theorem acc_itemL {value slice : PySem.Expr} {k : Int} {t : Tok} {v : Value} {Q : Value → Shared → Prop} (F : Fr h₀ L s.heap m) (X₀ : (Kf w.params).In h₀) (N : News h₀ L s.heap news) (hx : (x, accO dx items n) ∈ news) (h0 : 0 ≤ k) (hfit : k < 2 ^ 63) (hi : items[k.toNat]? = some v) (h : Q v s)
    (hs : subscripted slice false (.ref x) (.int k t) = operate [.ref x, .int k t] (getItem (.ref x) (.int k t)) := by with_unfolding_all rfl)
    (ht : ∀ r, letTemporaryGo value (.ref x) r = pure () := by intro _; with_unfolding_all rfl) :
    wpAny (model prog w) A (subscriptTail value slice (.ref x) (.int k t)) Q E s :=
  acc_tail (N _ hx).1 (X₀.keeps F.keep) (acc_item (N _ hx).1 (X₀.keeps F.keep) h0 hfit hi h) hs ht
theorem acc_setL {new : Array Value} {vl vu : Value} {lo hi : Option Int} {Q : Unit → Shared → Prop} (F : Fr h₀ L s.heap m) (X₀ : (Kf w.params).In h₀) (N : News h₀ L s.heap news) (hx : (x, accO dx items n) ∈ news) (hr : (r, listOf new kr) ∈ news) (pl : IsPart vl lo) (pu : IsPart vu hi)
    (hz : items.size + new.size ≤ 1000) {its : Array Value}
    (he : items.extract 0 (sliceBounds lo hi none items.size).1.toNat ++ new ++ items.extract (max (sliceBounds lo hi none items.size).1 (sliceBounds lo hi none items.size).2.1).toNat items.size = its)
    (h : ∀ n' h', Fr h₀ L h' m → News h₀ L h' ((x, accO dx its n') :: off x news) → Q () { s with heap := h' }) :
    wpAny (model prog w) A (setItem (.ref x) (.ref s.heap.objs.size) (.ref r)) Q E { s with heap := s.heap.push { cls := .type "slice", data := .fields #[vl, vu, .none] } } := by
  subst he
  have F1 := F.push { cls := .type "slice", data := .fields #[vl, vu, .none] }
  have N1 := N.grown (h' := s.heap.push { cls := .type "slice", data := .fields #[vl, vu, .none] }) fun _ _ e => Heap.get?_push_of_some _ e
  exact acc_setslice (s := { s with heap := _ }) F1 X₀ N1 hx (News.isList N1 hr) (Heap.IsSliceOf.new ..) pl pu hz h
end
end Mine
end

section
open PySem PySem.W PySem.Calls PyProof.Rows Builtin Builtin.Str
set_option linter.unusedVariables false
set_option maxRecDepth 100000
namespace Mine
theorem ns_len (P : Params) : nsIn (Kf P) mainGlobals "len" = some none := by kernel_rfl
theorem ns_es (P : Params) : (nsIn (Kf P) mainGlobals "EMPTYSTRING").any (fun v => match v with | some (.str x t) => x == "" | _ => false) = true := by kernel_rfl
section
variable {prog : Program} {w : World} {A : Around} {E : Value → Shared → Prop} {s : Shared} {h₀ : Heap} {L : Addr} {m mg mb : Str → Option Value} {p : Program} {loose : List Str} {mean : ExcName → Option Value} {env : Env}
theorem nm_loc {x : Str} {px : Pos} {v : Value} {Q : Value → Shared → Prop} (F : Fr h₀ env.locals s.heap m) (hk : env.scope.kind = .function) (hx : env.kindOf x = some .local) (hv : m x = some v) (hd : (x == ("__debug__" : Str)) = false) (h : Q v s) :
    wpAny (model prog w) A (eval (.Name x px) env) Q E s := wpAny_Name (wpAny_loadName_local hk hx F.ns hv h) hd
theorem nm_len {px : Pos} {Q : Value → Shared → Prop} (F : Fr h₀ env.locals s.heap m) (X₀ : (Kf w.params).In h₀) (T : Top p loose mean mg mb h₀) (hk : env.scope.kind = .function) (hx : env.kindOf "len" = some .globalImplicit) (hg : env.globals = mainGlobals) (hb : env.builtins = builtinsNs)
    (h : Q (.builtin "len") s) : wpAny (model prog w) A (eval (.Name "len" px) env) Q E s :=
  wpAny_Name (ks_loadName_global hk hx (loadGlobal_builtin (by rw [hg]; exact T.g.keeps F.keep) (mg_none_of X₀ T.g (ns_len _)) (by rw [hb]; exact T.b.keeps F.keep) ((T.builtins _ (by decide +kernel)).trans (show bootBuiltins "len" = some (.builtin "len") by first | boot_by_name | rfl | kernel_rfl)) h)) (by decide +kernel)
theorem nm_es {px : Pos} {Q : Value → Shared → Prop} (F : Fr h₀ env.locals s.heap m) (X₀ : (Kf w.params).In h₀) (T : Top p loose mean mg mb h₀) (hk : env.scope.kind = .function) (hx : env.kindOf "EMPTYSTRING" = some .globalImplicit) (hg : env.globals = mainGlobals)
    (h : ∀ t, Q (.str "" t) s) : wpAny (model prog w) A (eval (.Name "EMPTYSTRING" px) env) Q E s := by
  obtain ⟨v, hv1, hv2⟩ := any_some (ns_es w.params)
  match v, hv2 with
  | some (.str x t), hv2 =>
    have e : x = "" := eq_of_beq hv2
    subst e
    refine wpAny_Name (ks_loadName_global hk hx ?_) (by decide +kernel)
    unfold loadGlobal
    refine wpAny_bind (wpAny_nsGet (m := mg) (by rw [hg]; exact T.g.keeps F.keep) ?_)
    rw [mg_of X₀ T.g hv1]
    exact wpAny_pure (h t)
theorem len_nm {x : Str} {p1 p2 p3 : Pos} {v : Str} {tv : Tok} {Q : Value → Shared → Prop} (F : Fr h₀ env.locals s.heap m) (X₀ : (Kf w.params).In h₀) (T : Top p loose mean mg mb h₀) (hk : env.scope.kind = .function) (hl : env.kindOf "len" = some .globalImplicit) (hg : env.globals = mainGlobals) (hb : env.builtins = builtinsNs)
    (hx : env.kindOf x = some .local) (hv : m x = some (.str v tv)) (hd : (x == ("__debug__" : Str)) = false) (hfit : v.length ≤ 1000) (h : ∀ t tk, Q (.int (v.length : Int) t) { s with toks := tk }) :
    wpAny (model prog w) A (eval (.Call (.Name "len" p1) [.Name x p2] [] p3) env) Q E s := by
  refine Call_Name1 (nm_len F X₀ T hk hl hg hb (callWith_builtin1 (nm_loc F hk hx hv hd ?_)))
  exact len_str (by omega) (h _ _)
/-- len(fws) + len(part) -/
theorem elt_len {xa xb : Str} {p1 p2 p3 p4 p5 p6 p7 : Pos} {f q : Str} {tf tq : Tok} (F : Fr h₀ env.locals s.heap m) (X₀ : (Kf w.params).In h₀) (T : Top p loose mean mg mb h₀) (hk : env.scope.kind = .function) (hl : env.kindOf "len" = some .globalImplicit) (hg : env.globals = mainGlobals) (hb : env.builtins = builtinsNs)
    (hxa : env.kindOf xa = some .local) (hxb : env.kindOf xb = some .local) (ha : m xa = some (.str f tf)) (hbv : m xb = some (.str q tq)) (hda : (xa == ("__debug__" : Str)) = false) (hdb : (xb == ("__debug__" : Str)) = false) (hf : f.length ≤ 1000) (hq : q.length ≤ 1000) :
    wpAny (model prog w) A (eval (.BinOp (.Call (.Name "len" p1) [.Name xa p2] [] p3) .Add (.Call (.Name "len" p4) [.Name xb p5] [] p6) p7) env) (fun y s₃ => (∃ t, y = .int ((f.length + q.length : Nat) : Int) t) ∧ Keeps s s₃) E s := by
  refine wpAny_BinOp (len_nm F X₀ T hk hl hg hb hxa ha hda hf fun t1 k1 => ?_)
  refine len_nm (s := { s with toks := k1 }) F X₀ T hk hl hg hb hxb hbv hdb hq fun t2 k2 => ?_
  refine add_int ⟨⟨_, by rw [Int.natCast_add]⟩, s.heap, k2 + 1, rfl, fun _ _ e => e⟩
theorem join_tup {sep : Str} {t : Tok} {a : Addr} {l : List (Str × Tok)} {Q : Value → Shared → Prop} (hT : s.heap.IsTuple a (strValues l).toArray) (hok : JoinOk sep (l.map (·.1)) = true) (h : ∀ t' k, Q (.str (Txt.join sep (l.map (·.1))) t') { s with toks := k }) :
    wpAny (model prog w) A (call (.builtin "str.join") [.str sep t, .ref a]) Q E s := by
  obtain ⟨o, ho, hc, n, hd⟩ := hT
  refine wpAny_call (codeAny_call_builtin F.slot_str_join.plain F.entry_str_join (F.slot_str_join.check _ _ _ _ _ _ _ _ (typeIs_str _ _ _) (F.args_str_join_2 _ _) ?_))
  rw [join_tree_other]
  refine wpAny_bind (wpAny_typeOf (T := "tuple") ⟨o, ho, hc⟩ ?_)
  rw [if_pos (by decide)]
  refine wpAny_bind (wpAny_seqItems ho hd ?_)
  unfold JoinOk at hok
  rw [Bool.not_eq_true'] at hok
  have g : Gives (joinTail sep (strValues l)) (joinMade sep l) := by
    have g0 := gives_joinTail sep l hok
    cases l with
    | nil => exact g0
    | cons p r => cases r with
      | nil => exact g0
      | cons q r' => exact g0
  exact g prog w A (wants Q E) s (post_join l ⟨joinFit_length hok, h⟩)
/-- EMPTYSTRING.join((fws, part)) -/
theorem elt_str {xa xb : Str} {p1 p2 p3 p4 p5 p6 : Pos} {kt : Nat} {f q : Str} {tf tq : Tok} (F : Fr h₀ env.locals s.heap m) (X₀ : (Kf w.params).In h₀) (T : Top p loose mean mg mb h₀) (hk : env.scope.kind = .function) (hl : env.kindOf "EMPTYSTRING" = some .globalImplicit) (hg : env.globals = mainGlobals)
    (hxa : env.kindOf xa = some .local) (hxb : env.kindOf xb = some .local) (ha : m xa = some (.str f tf)) (hbv : m xb = some (.str q tq)) (hda : (xa == ("__debug__" : Str)) = false) (hdb : (xb == ("__debug__" : Str)) = false) (hok : JoinOk "" [f, q] = true) {pl : Sem Bool}
    (hev : eval (.Call (.Attribute (.Name "EMPTYSTRING" p1) "join" p2) [.Tuple [.Name xa p3, .Name xb p4] kt p5] [] p6) env = (do
      let ov ← eval (.Name "EMPTYSTRING" p1) env
      standAt p2.atName
      let (f, first) ← holding [ov] (getMethod ov "join" pl)
      callWith p6 f first (backTo p6 (starEach [.Tuple [.Name xa p3, .Name xb p4] kt p5] env)) [])) :
    wpAny (model prog w) A (eval (.Call (.Attribute (.Name "EMPTYSTRING" p1) "join" p2) [.Tuple [.Name xa p3, .Name xb p4] kt p5] [] p6) env) (fun y s₃ => (∃ t, y = .str (Txt.join "" [f, q]) t) ∧ Keeps s s₃) E s := by
  refine MethodCall_ (pl := pl) (nm_es F X₀ T hk hl hg fun t0 => GM.join ?_) hev
  refine callWith_builtin rfl ?_
  refine evalArgs_plain (spliced_cons ?_)
  refine wpAny_Tuple (k := kt) (spliced_cons (nm_loc F hk hxa ha hda (spliced_cons (nm_loc F hk hxb hbv hdb (spliced_nil ⟨show 2 ≤ sizeLine by decide, spliced_nil ?_⟩)))))
  refine join_tup (l := [(f, tf), (q, tq)]) (s := { s with heap := _ }) ⟨_, Heap.get?_push_size _ rfl, rfl, _, rfl⟩ hok fun t' k => ?_
  exact ⟨⟨_, rfl⟩, _, k, rfl, fun b o e => Heap.get?_push_of_some _ e⟩
end
end Mine
end

section
open PySem PySem.W PyProof.Rows
set_option linter.unusedVariables false
set_option maxRecDepth 100000
namespace Mine
theorem fl_len (P : Params) : findIn (Kf P) (.ref 178) "__len__" = some (some (.ref 145)) := by kernel_rfl
theorem fl_str (P : Params) : findIn (Kf P) (.ref 178) "__str__" = some (some (.ref 152)) := by kernel_rfl
theorem fl_bool (P : Params) : findIn (Kf P) (.ref 178) "__bool__" = some none := by kernel_rfl
theorem fl_lenF (P : Params) : isFn (Kf P) (.ref 145) = true := by kernel_rfl
theorem fl_strF (P : Params) : isFn (Kf P) (.ref 152) = true := by kernel_rfl
/-- the width of the parts -/
def wid (ps : List Part) : Int := (ps.map fun q => ((q.f.length + q.p.length : Nat) : Int)).sum
/-- the parts' text -/
def txt (ps : List Part) : Str := Txt.join "" (ps.map fun q => Txt.join "" [q.f, q.p])
/-- small parts -/
structure Sm (ps : List Part) : Prop where
  len : ps.length ≤ 100
  part : ∀ q ∈ ps, q.f.length ≤ 10 ∧ q.p.length ≤ 10
theorem wid_le : ∀ {ps : List Part}, (∀ q ∈ ps, q.f.length ≤ 10 ∧ q.p.length ≤ 10) → 0 ≤ wid ps ∧ wid ps ≤ 20 * ps.length
  | [], _ => by simp [wid]
  | q :: r, h => by
    have := wid_le (ps := r) fun z hz => h z (.tail _ hz)
    have h1 := h q (.head _)
    simp only [wid, List.map_cons, List.sum_cons, List.length_cons] at this ⊢
    omega
theorem Sm.wid {ps : List Part} (h : Sm ps) : 0 ≤ wid ps ∧ Mine.wid ps ≤ 2000 := by
  have := wid_le h.part
  have := h.len
  omega
theorem S_of (x : Str) : S x.cps.toList = x := by cases x; simp [S]
def ptx (q : Part) : List Nat := q.f.cps.toList ++ q.p.cps.toList
theorem part_S (q : Part) : Txt.join "" [q.f, q.p] = S (ptx q) := by
  have := join_S [] [q.f.cps.toList, q.p.cps.toList]
  simp only [List.map_cons, List.map_nil, S_of, gl_nil] at this
  rw [S_nil, this]
  simp [ptx]
theorem txt_S (ps : List Part) : txt ps = S (ps.map ptx).flatten := by
  have e : (ps.map fun q => Txt.join "" [q.f, q.p]) = (ps.map ptx).map S := by rw [List.map_map]; exact List.map_congr_left fun q _ => part_S q
  rw [txt, e, S_nil, join_S, gl_nil]
theorem ptx_len (q : Part) : (ptx q).length = q.f.length + q.p.length := by simp [ptx]; rfl
theorem Sm.joins {ps : List Part} (h : Sm ps) : (∀ q ∈ ps, JoinOk "" [q.f, q.p] = true) ∧ JoinOk "" (ps.map fun q => Txt.join "" [q.f, q.p]) = true := by
  refine ⟨fun q hq => joinOk_of ?_, joinOk_of ?_⟩
  · have := h.part q hq
    have h3 : (Str.ofString "").length = 0 := by decide +kernel
    simp [h3]
    omega
  · have hs : ∀ l : List Part, (∀ q ∈ l, q.f.length ≤ 10 ∧ q.p.length ≤ 10) → ((l.map fun q => Txt.join "" [q.f, q.p]).map (·.length)).sum ≤ 20 * l.length := by
      intro l
      induction l with
      | nil => intro _; simp
      | cons q r ih =>
        intro hl
        have h1 := hl q (.head _)
        have h2 := ih fun z hz => hl z (.tail _ hz)
        have h3 : (Txt.join "" [q.f, q.p]).length = q.f.length + q.p.length := by rw [part_S, S_len, ptx_len]
        simp only [List.map_cons, List.sum_cons, List.length_cons]
        omega
    have h1 := hs ps h.part
    have h2 := h.len
    have h3 : (Str.ofString "").length = 0 := by decide +kernel
    rw [h3, List.length_map]
    omega
section
variable {prog : Program} {w : World} {A : Around} {E : Value → Shared → Prop} {s : Shared} {x dx : Addr} {items : Array Value} {k : Nat} {h₀ : Heap} {L : Addr} {m : Str → Option Value} {news : List (Addr × Obj)} {od : Obj}
theorem a_len {Q : Value → Shared → Prop} (F : Fr h₀ L s.heap m) (X₀ : (Kf w.params).In h₀) (N : News h₀ L s.heap news) (hx : (x, accO dx items k) ∈ news) (hdx : (dx, od) ∈ news)
    (h : wpAny (model prog w) A.in1 (call (.ref 145) [.ref x]) (W.LenBack Q) E s) : wpAny (model prog w) A (call (.builtin "len") [.ref x]) Q E s :=
  len_K F X₀ (acc_at N hx hdx) (fl_len _) (fl_lenF _) h
theorem a_str {Q : Value → Shared → Prop} (hu : A.in1.in1.units < cLine) (F : Fr h₀ L s.heap m) (X₀ : (Kf w.params).In h₀) (N : News h₀ L s.heap news) (hx : (x, accO dx items k) ∈ news) (hdx : (dx, od) ∈ news)
    (h : wpAny (model prog w) A.in1.in1 (call (.ref 152) [.ref x]) (W.StrBack Q) E s) : wpAny (model prog w) A (call (.type "str") [.ref x]) Q E s :=
  kso_call hu (X₀.keeps F.keep) (acc_at N hx hdx) (fl_str _) (fl_strF _) h
theorem a_truth {Q : Bool → Shared → Prop} (F : Fr h₀ L s.heap m) (X₀ : (Kf w.params).In h₀) (N : News h₀ L s.heap news) (hx : (x, accO dx items k) ∈ news) (hdx : (dx, od) ∈ news)
    (h : wpAny (model prog w) A.in1 (call (.ref 145) [.ref x]) (W.LenBack fun v s' => ∃ n t, v = .int n t ∧ Q (n != 0) s') E s) : wpAny (model prog w) A (truthy (.ref x)) Q E s := by
  have X := X₀.keeps F.keep
  have I := acc_at N hx hdx
  unfold truthy
  refine wpAny_bind (m := callSpecial? (.ref x) (Str.ofString "__bool__")) (wpAny_bind (wpAny_bind (I.type.here ((looks_findIn X (fl_bool _)).here (wpAny_pure ?_)))))
  refine wpAny_bind (wpAny_bind (I.type.here ((looks_findIn X (fl_len _)).here ?_)))
  rw [if_neg (by simp)]
  refine wpAny_bind (wpAny_runValue (codeAny_builtin entry_len ?_))
  rw [Around.under_plainId plain_len _]
  unfold Builtin.«len»
  refine wpAny_bind (m := PySem.oneArg "len" _) (wpAny_pure ?_)
  refine wpAny_bind (m := callSpecial? (.ref x) (Str.ofString "__len__")) (special_fn X I (fl_len _) (beq_iff_eq.mp (fl_lenF _)) (wpAny_mono h (fun r s' hr => ?_) fun _ _ y => y))
  cases r <;> first | exact hr.elim | skip
  rename_i n u
  obtain ⟨⟨h0, h1⟩, n', t', e, hq⟩ := hr
  cases e
  refine wpAny_bind (wpAny_holding (wpAny_pure ?_))
  refine wpAny_bind (wpAny_letGo ?_)
  show wpAny _ _ (if n < 0 then _ else _) _ _ _
  rw [if_neg (by omega)]
  show wpAny _ _ (if n ≥ 2 ^ 63 then _ else _) _ _ _
  rw [if_neg (by omega)]
  exact wpAny_bind (wpAny_mkInt (wpAny_pure (wpAny_pure hq)))
end
end Mine
end

section
open PySem PySem.W PyProof.Rows
set_option linter.unusedVariables false
set_option maxRecDepth 100000
namespace Mine
theorem vf_sa (P : Params) : findIn (Kf P) (.ref 94) "__setattr__" = some (some (.builtin "object.__setattr__")) := by kernel_rfl
theorem vf_plain (P : Params) : plainOver (Kf P) 94 = true := by kernel_rfl
theorem vf_hd (P : Params) : hasDictIn (Kf P) 94 = true := by kernel_rfl
section
variable {prog : Program} {w : World} {A : Around} {E : Value → Shared → Prop} {s : Shared} {v dv : Addr} {h₀ : Heap} {L : Addr} {m : Str → Option Value} {news : List (Addr × Obj)} {es es' : List DictEntry} {n n' : Nat} {name : Str} {val : Value}
theorem vf_at {h : Heap} {od : Obj} (N : News h₀ L h news) (h1 : (v, instObj 94 dv) ∈ news) (h2 : (dv, od) ∈ news) : InstAt h v (instObj 94 dv) 94 (some od) := ⟨(N _ h1).1, rfl, rfl, (N _ h2).1⟩
theorem vf_set {Q : Unit → Shared → Prop} (F : Fr h₀ L s.heap m) (X₀ : (Kf w.params).In h₀) (N : News h₀ L s.heap news) (h1 : (v, instObj 94 dv) ∈ news) (h2 : (dv, dictOf es n) ∈ news) (ht : takerIn (Kf w.params) 94 name = some none) (hl : (getL name es).isSome = true)
    (e : (putL name (PyData.keyHash w.params name) (.str name (s.toks + 1)) val es, putN name es n) = (es', n')) (hz : es'.length ≤ 1000)
    (h : ∀ h', Fr h₀ L h' m → News h₀ L h' ((dv, dictOf es' n') :: off dv news) → Q () { s with heap := h', toks := s.toks + 2 }) :
    wpAny (model prog w) A (setAttr (.ref v) name val) Q E s := by
  obtain ⟨e1, e2⟩ := Prod.mk.inj e
  exact set_plain (X₀.keeps F.keep) (vf_at N h1 h2) (vf_sa _) (osa_dict (s := { s with toks := s.toks + 1 }) (pre := []) (post := off dv news) F (News.sub N (off_cover h2)) (X₀.keeps F.keep) (vf_at N h1 h2) rfl (vf_plain _) ht (vf_hd _) hl (by simp) off_ne
    (by rw [putName_dict, e1, e2]) rfl hz fun h' F' N' => h h' F' N')
end
end Mine
end

section
open PySem PySem.W PySem.Calls PyProof.Rows
set_option linter.unusedVariables false
set_option maxRecDepth 100000
namespace Mine
theorem push_get (P : Params) : specialIn (Kf P) (.ref 122) "__get__" = some (some (.builtin "function.__get__")) := by kernel_rfl
theorem push_takes (P : Params) : takesIn (Kf P) (.ref 122) = some false := by kernel_rfl
theorem acc_hd (P : Params) : hasDictIn (Kf P) 178 = true := by kernel_rfl
theorem push_fn (P : Params) : ∃ o fd, (Kf P).lookup 122 = some o ∧ o.data = .func fd := by
  have h : ((Kf P).lookup 122).any (fun o => match o.data with | .func _ => true | _ => false) = true := by kernel_rfl
  obtain ⟨o, h1, h2⟩ := any_some h
  split at h2
  · rename_i fd e; exact ⟨o, fd, h1, e⟩
  · cases h2
section
variable {prog : Program} {w : World} {A : Around} {E : Value → Shared → Prop} {s : Shared} {x dx : Addr} {h₀ : Heap} {L : Addr} {m : Str → Option Value} {news : List (Addr × Obj)} {items : Array Value} {k n : Nat} {hsh : Int} {tk : Tok} {v : Value}
/-- x.push as a value -/
theorem acc_bind {Q : Value → Shared → Prop} (F : Fr h₀ L s.heap m) (X₀ : (Kf w.params).In h₀) (N : News h₀ L s.heap news) (h1 : (x, accO dx items k) ∈ news) (h2 : (dx, accD hsh tk v n) ∈ news)
    (h : ∀ q h', Fr h₀ L h' m → News h₀ L h' ((q, methodObj (.ref 122) (.ref x)) :: news) → (∀ p ∈ news, p.1 < q) → Q (.ref q) { s with heap := h', toks := s.toks + 1 }) : wpAny (model prog w) A (getAttr (.ref x) "push" true) Q E s := by
  have X := X₀.keeps F.keep
  have I := acc_at N h1 h2
  have hf : findObj (Kf w.params) 178 (some (accD hsh tk v n)) "push" = some (.bind (.builtin "function.__get__") (.ref 122)) :=
    findObj_fn (acc_hd _) (fm_push _) (push_get _) (push_takes _) (by decide +kernel) (by rw [lookIn_dict]; rfl)
  have fin : ∀ (A' : Around) (E' : Value → Shared → Prop), wpAny (model prog w) A' (call (.builtin "function.__get__") [.ref 122, .ref x, .ref 178]) (fun r s' => r = .ref s.heap.objs.size ∧ s' = { s with heap := s.heap.push (methodObj (.ref 122) (.ref x)), toks := s.toks + 1 }) E' { s with toks := s.toks + 1 } := fun A' E' =>
    wpAny_call (fn_get (s := { s with toks := s.toks + 1 }) X (tm_push _) ⟨rfl, rfl⟩)
  have fin2 := h s.heap.objs.size _ (F.push _) (N.push F (methodObj (.ref 122) (.ref x))) fun p hp => Heap.lt_size (N p hp).1
  obtain ⟨hh, g, d, t, os⟩ := s
  have L0 := I.type (M := model prog w)
  have L1 := looks_findIn (M := model prog w) X (acc_ga w.params)
  have L2 := looks_findIn (M := model prog w) X (acc_gx w.params)
  have L3 := acc_list (M := model prog w) X I
  have L4 := looks_find (M := model prog w) X I hf
  unfold getAttr getAttrBy
  refine wpAny_bind (wpAny_mkText (wpAny_holding (wpAny_bind (L0.at (wpAny_bind (L1.at ?_))))))
  dsimp only
  rw [if_neg (by decide +kernel)]
  unfold getAttrByItsOwn
  refine wpAny_bind (L2.at (wpAny_bind (wpAny_attempt (wpAny_holding ?_))))
  unfold callGetattribute
  rw [show (true && onTheHeap (.builtin "list.__getattribute__")) = false by rfl, if_neg (by decide)]
  unfold boundAndCalled
  rw [lga_bind]
  refine wpAny_bind (wpAny_pure ?_)
  show wpAny _ _ (call (.builtin "list.__getattribute__") [.ref x, .str "push" t]) _ _ _
  refine wpAny_call (codeAny_call_builtin lga_plain PySem.F.entry_list_ga (@check_slot (model prog w) _ _ _ "list.__getattribute__" "list" "__getattribute__" (.ref x) [.str "push" t] [] _ lga_kind lga_split L3 (lga_args _ _) ?_))
  show wpAny _ _ (Builtin.«object.__getattribute__» ⟨[.ref x, .str "push" t], []⟩) _ _ _
  unfold Builtin.«object.__getattribute__»
  refine wpAny_bind (wpAny_pure (a := (Value.ref x, [Value.str "push" t])) ?_)
  refine wpAny_bind (wpAny_pure (a := ("push" : Str)) ?_)
  refine wpAny_bind (L0.at (wpAny_bind (L4.at ?_)))
  dsimp only
  show wpAny _ _ (holding [.ref 122] (call (.builtin "function.__get__") [.ref 122, .ref x, .ref 178]) >>= fun v => ret v) _ _ _
  refine wpAny_bind (wpAny_holding (wpAny_mono (fin _ (fun _ _ => False)) (fun r s' z => ?_) fun _ _ z => z.elim))
  obtain ⟨rfl, rfl⟩ := z
  refine wpAny_pure ?_
  show wpAny _ _ (handedOut _) _ _ _
  rw [handedOut_of rfl]
  exact wpAny_pure fin2
/-- x.push( *pair ) -/
theorem star_push {env : Env} {o e : PySem.Expr} {apos pos pe : Pos} {r : Addr} {va vb : Value} {Q : Value → Shared → Prop} (X₀ : (Kf w.params).In h₀)
    (he : eval (.Call (.Attribute o "push" apos) [.Starred e pe] [] pos) env = (do
      let ov ← eval o env
      standAt apos.atName
      let (f, first) ← holding [ov] (do pure (← getAttr ov "push" true, []))
      callWith pos f first (backTo pos (starEach [.Starred e pe] env)) []))
    (hs : starEach [.Starred e pe] env = [(true, eval e env)])
    (ho : ∀ (R : Value → Shared → Prop), (∀ tk, R (.ref x) { s with toks := tk }) → wpAny (model prog w) A (eval o env) R E s)
    (hv : ∀ (u : Shared) (R : Value → Shared → Prop), Fr h₀ L u.heap m → R (.ref r) u → wpAny (model prog w) A (eval e env) R E u)
    (F : Fr h₀ L s.heap m) (N : News h₀ L s.heap news) (h1 : (x, accO dx items k) ∈ news) (h2 : (dx, accD hsh tk v n) ∈ news) (hr : (r, tupO va vb) ∈ news)
    (h : ∀ h' tk, Fr h₀ L h' m → News h₀ L h' news → codeAny (model prog w) A (.call (.ref 122) ⟨[.ref x, va, vb], []⟩) (fun r s' => match r with | .ok (.ret v) => Q v s' | .ok _ => False | .error e => E e s') { s with heap := h', toks := tk }) :
    wpAny (model prog w) A (eval (.Call (.Attribute o "push" apos) [.Starred e pe] [] pos) env) Q E s := by
  rw [he]
  refine wpAny_bind (ho _ fun tk0 => ?_)
  refine wpAny_bind (wpAny_standAt (wpAny_bind (wpAny_holding (wpAny_bind (acc_bind (s := { s with toks := tk0 }) F X₀ N h1 h2 fun q h' F' N' l' => wpAny_pure ?_)))))
  dsimp only
  rw [hs]
  refine ks_call (P := fun hp => hp.get? q = some (methodObj (.ref 122) (.ref x)) ∧ (Kf w.params).In hp) rfl (fun hp hP => ⟨.boundFrame, .inr (.inr rfl), ?_⟩) (ks_lone (hv _ _ F' ?_))
  · obtain ⟨o, fd, e1, e2⟩ := push_fn w.params
    have g1 := hP.2 _ _ e1
    intro A' Q' E' u kp z
    unfold keeperOf
    refine wpAny_bind (wpAny_load (kp _ _ hP.1) ?_)
    dsimp only
    rw [if_neg (by decide)]
    refine wpAny_bind (wpAny_load (kp _ _ g1) ?_)
    rw [e2]
    exact wpAny_pure z
  · refine star_seq (T := "tuple") (ws := [va, vb]) (s := { s with heap := h', toks := _ }) F' N' (.tail _ hr) rfl rfl (.inr rfl) rfl (show 2 ≤ sizeLine by decide) fun h2' F2 N2 => ⟨⟨(N2 _ (.head _)).1, X₀.keeps F2.keep⟩, ?_⟩
    refine wpAny_call (method_call (N2 _ (.head _)).1 ?_)
    have z := h h2' (tk0 + 1) F2 (fun p hp => N2 p (.tail _ hp))
    exact z
end
end Mine
end

section
open PySem PySem.W PySem.Calls PyProof.Rows
set_option linter.unusedVariables false
namespace Mine
theorem shaped2 (a b : Str) (ha : PyData.strOk a = true) (hb : PyData.strOk b = true) : SeqAt.shaped (.tuple [.str a, .str b]) = true := by simp [ha, hb, SeqAt.shaped, PyData.canLay0, PyData.canLayAll0, PyData.depth, PyData.depthAll]
theorem eqv2 (a b c d : Str) : PyData.eqv (.tuple [.str a, .str b]) (.tuple [.str c, .str d]) = (a == c && b == d) := by
  simp [PyData.eqv, PyData.eqvAll]
section
variable {prog : Program} {w : World} {A : Around} {E : Value → Shared → Prop} {s : Shared} {x y : Addr} {h₀ : Heap} {L : Addr} {news : List (Addr × Obj)} {a b c d : Str} {ta tb tc td : Tok}
/-- two pairs of texts that differ -/
theorem ne_pairs {Q : Value → Shared → Prop} (N : News h₀ L s.heap news) (hx : (x, tupO (.str a ta) (.str b tb)) ∈ news) (hy : (y, tupO (.str c tc) (.str d td)) ∈ news) (hu : A.units + 64 < cLine) (hne : b ≠ d) (ha : PyData.strOk a = true) (hb : PyData.strOk b = true) (hc : PyData.strOk c = true) (hd : PyData.strOk d = true) (h : Q (.bool true) s) :
    wpAny (model prog w) A (compareOp .NotEq (.ref x) (.ref y)) Q E s := by
  refine ne_dataH (reads_tuple_at (News.get N hx) rfl rfl (.cons (.str _ _) (.cons (.str _ _) .nil))) (reads_tuple_at (News.get N hy) rfl rfl (.cons (.str _ _) (.cons (.str _ _) .nil))) (shaped2 _ _ ha hb) (shaped2 _ _ hc hd) hu ?_
  rw [eqv2, show (b == d) = false by simpa using hne, Bool.and_false]
  exact h
end
end Mine
end

section
open PySem PySem.W PySem.Calls PyProof.Rows
set_option linter.unusedVariables false
namespace Mine
theorem last_char (l : List Nat) (c : Nat) : Txt.charAt (S (l ++ [c])) (-1) = some c := by
  unfold Txt.charAt
  have hl : (S (l ++ [c])).length = l.length + 1 := by rw [S_len]; simp
  have hi : seqIndex? (-1) (S (l ++ [c])).length = some l.length := by
    rw [hl]
    unfold seqIndex?
    have e : (if (-1 : Int) < 0 then -1 + ((l.length + 1 : Nat) : Int) else -1) = (l.length : Int) := by rw [if_pos (by decide)]; omega
    simp only [e]
    rw [if_pos (by simp; omega), Int.toNat_natCast]
  rw [hi]
  simp [S]
theorem last_item (l : List Nat) (c : Nat) : Txt.item (S (l ++ [c])) (-1) = S [c] := by
  unfold Txt.item
  rw [last_char]
  rfl
section
variable {prog : Program} {w : World} {A : Around} {E : Value → Shared → Prop} {s : Shared}
/-- text[-1] -/
theorem str_last {value slice : PySem.Expr} {l : List Nat} {c : Nat} {t u : Tok} {Q : Value → Shared → Prop} (h : Q (.str (S [c]) s.toks) { s with toks := s.toks + 1 })
    (hs : subscripted slice false (.str (S (l ++ [c])) t) (.int (-1) u) = operate [.str (S (l ++ [c])) t, .int (-1) u] (getItem (.str (S (l ++ [c])) t) (.int (-1) u)) := by with_unfolding_all rfl)
    (ht : ∀ r, letTemporaryGo value (.str (S (l ++ [c])) t) r = pure () := by intro _; with_unfolding_all rfl) :
    wpAny (model prog w) A (subscriptTail value slice (.str (S (l ++ [c])) t) (.int (-1) u)) Q E s := by
  refine subscriptTail_builtin (T := "str") (typeIs_str _ _ _) PySem.F.slot_str_getitem.lookup (SB.getItem rfl (by rw [last_char]; rfl) ?_) hs ht
  rw [last_item]
  exact h
end
end Mine
end

section
open PySem PySem.W PyProof.Rows
namespace Mine
theorem fillK : (Challenge.rw_nb0260_01.Holds ∧ ∃ P, Kf P = []) → True := by
  k_fill
  exact fun _ => trivial
end Mine
end

section
open PySem PySem.W PyProof.Rows Mine
local macro_rules | `(tactic| k_all) => `(tactic| first | assumption | exact lo_ne (by assumption) (by omega))
local macro_rules | `(tactic| k_ne) => `(tactic| first | assumption | (refine neN ?_; (try dsimp only); first | assumption | omega))
local macro_rules | `(tactic| k_mem) => `(tactic| first | assumption | exact List.mem_cons_self | (refine mem_off.mpr (And.intro ?kma ?kmb); (case kma => k_mem); (case kmb => k_ne)) | (refine List.mem_cons_of_mem _ ?_; k_mem))
local macro_rules | `(tactic| is_list) => `(tactic| exact News.isList (by k_asm) (by k_mem))

section
open PySem PySem.W PyProof.Rows
set_option linter.unusedVariables false
namespace Mine

theorem getD_cast (ns : List Nat) (i : Nat) : (ns.map (fun x : Nat => (x : Int))).getD i 0 = ((ns.getD i 0 : Nat) : Int) := by
  rw [List.getD_eq_getElem?_getD, List.getD_eq_getElem?_getD, List.getElem?_map]
  cases ns[i]? <;> rfl
theorem mid_is {i j : Int} (h0 : 0 ≤ i) (h1 : i < j) : ((i + j).fdiv (2 ^ (1 : Int).toNat)) = ((((i.toNat + j.toNat) / 2 : Nat)) : Int) := by
  rw [show ((2 : Int) ^ (1 : Int).toNat) = 2 from rfl, Int.fdiv_eq_ediv_of_nonneg _ (by decide)]
  obtain ⟨a, rfl⟩ := Int.eq_ofNat_of_zero_le h0
  obtain ⟨b, rfl⟩ := Int.eq_ofNat_of_zero_le (Int.le_of_lt (Int.lt_of_le_of_lt h0 h1))
  show ((a : Int) + (b : Int)) / 2 = (((a + b) / 2 : Nat) : Int)
  rw [Int.natCast_ediv, Int.natCast_add]
  rfl
/-- a list, whatever else its object holds -/
abbrev lstO (od : Option Addr) (xs : Array Value) (kk : Nat) (osl : Array (Option Value)) : Obj := ⟨.type "list", od, .seq xs kk, osl⟩
theorem bits_of_lt {v k : Nat} (h : v < 2 ^ k) : Builtin.Int.intBits ((v : Nat) : Int) ≤ k := intBits_le (by simpa using h)
theorem hi_le {i md j : Int} {k : Nat} (h0 : 0 ≤ i) (h1 : i < md) (h2 : md < j) (h : j.toNat - i.toNat ≤ k + 1) : j.toNat - md.toNat ≤ k ∧ md.toNat - i.toNat ≤ k := by
  obtain ⟨a, rfl⟩ := Int.eq_ofNat_of_zero_le h0
  obtain ⟨b, rfl⟩ := Int.eq_ofNat_of_zero_le (Int.le_of_lt (Int.lt_of_le_of_lt h0 h1))
  obtain ⟨c, rfl⟩ := Int.eq_ofNat_of_zero_le (Int.le_of_lt (Int.lt_of_le_of_lt h0 (Int.lt_trans h1 h2)))
  have h1' : a < b := by exact_mod_cast h1
  have h2' : b < c := by exact_mod_cast h2
  simp only [Int.toNat_natCast, Int.ofNat_eq_natCast] at h ⊢
  omega
theorem one_more {i j : Int} (h0 : 0 ≤ i) (h : i + 1 = j) : j.toNat = i.toNat + 1 := by
  subst h; rw [Int.toNat_add h0 (by decide)]; rfl
/-- the half-way place, with what is asked of it -/
theorem mid_facts {i j : Int} {n len : Nat} (h0 : 0 ≤ i) (h1 : i < j) (h2 : j ≤ (len : Int)) (hl : len ≤ 100) (hn : n ≤ 200) : ∃ md : Int, (i + j).fdiv (2 ^ (1 : Int).toNat) = md ∧ i ≤ md ∧ md < j ∧ (i + 1 ≠ j → i < md) ∧
    0 ≤ (md - i) * (n : Int) ∧ (md - i) * (n : Int) ≤ 1000000 ∧ ((md - i) * (n : Int)).toNat = (md.toNat - i.toNat) * n := by
  refine ⟨_, mid_is h0 h1, ?_⟩
  obtain ⟨a, rfl⟩ := Int.eq_ofNat_of_zero_le h0
  obtain ⟨b, rfl⟩ := Int.eq_ofNat_of_zero_le (Int.le_of_lt (Int.lt_of_le_of_lt h0 h1))
  have hab : a < b := Int.ofNat_lt.mp h1
  have hbl : b ≤ len := Int.ofNat_le.mp h2
  show ((a : Int) ≤ (((a + b) / 2 : Nat) : Int)) ∧ ((((a + b) / 2 : Nat) : Int) < (b : Int)) ∧ ((a : Int) + 1 ≠ (b : Int) → (a : Int) < (((a + b) / 2 : Nat) : Int)) ∧
    0 ≤ ((((a + b) / 2 : Nat) : Int) - (a : Int)) * (n : Int) ∧ ((((a + b) / 2 : Nat) : Int) - (a : Int)) * (n : Int) ≤ 1000000 ∧ (((((a + b) / 2 : Nat) : Int) - (a : Int)) * (n : Int)).toNat = ((a + b) / 2 - a) * n
  have c1 : a ≤ (a + b) / 2 := by omega
  have c2 : (a + b) / 2 < b := by omega
  have c3 : a + 1 ≠ b → a < (a + b) / 2 := by omega
  generalize (a + b) / 2 = c at c1 c2 c3 ⊢
  have e : ((c : Int) - (a : Int)) * (n : Int) = (((c - a) * n : Nat) : Int) := by rw [Int.natCast_mul, Int.ofNat_sub c1]
  rw [e]
  refine ⟨Int.ofNat_le.mpr c1, Int.ofNat_lt.mpr c2, fun h => Int.ofNat_lt.mpr (c3 fun q => h (by rw [← q]; rfl)), Int.natCast_nonneg _, Int.ofNat_le.mpr ?_, Int.toNat_natCast _⟩
  exact Nat.le_trans (Nat.mul_le_mul (Nat.le_trans (Nat.sub_le _ _) (Nat.le_trans (Nat.le_of_lt c2) (Nat.le_trans hbl hl))) hn) (by decide)
theorem d2_bits {n : Nat} {ns : List Nat} {i j : Nat} (hn : n ≤ 200) (hl : ns.length ≤ 100) (hj : j ≤ ns.length) (hx : ∀ x ∈ ns, x < 2 ^ n) : Builtin.Int.intBits ((d2 n (cut ns i j) : Nat) : Int) ≤ 20000 := by
  refine Nat.le_trans (bits_of_lt (d2_lt fun x h => hx x (cut_mem h))) ?_
  rw [cut_length hj]
  exact Nat.le_trans (Nat.mul_le_mul hn (show _ ≤ 100 by omega)) (by decide)
theorem d2_join {n : Nat} {ns : List Nat} {i md j : Int} (h0 : 0 ≤ i) (h1 : i ≤ md) (h2 : md < j) (h3 : j ≤ ns.length) (hs : ((md - i) * (n : Int)).toNat = (md.toNat - i.toNat) * n) :
    ((d2 n (cut ns i.toNat j.toNat) : Nat) : Int) = (d2 n (cut ns md.toNat j.toNat) : Int) * 2 ^ ((md - i) * (n : Int)).toNat + (d2 n (cut ns i.toNat md.toNat) : Int) := by
  rw [d2_cut_split (n := n) (l := ns) (i := i.toNat) (m := md.toNat) (j := j.toNat) (by omega) (by omega) (by omega), hs]
  simp

local macro_rules | `(tactic| walk_at "binaryOp LShift int int") => `(tactic| (with_reducible refine lshift_int ?kbn ?kbs ?_; (case kbn => assumption); (case kbs => exact kbm_shl (m := 20000) (by assumption) (by assumption) (by decide))))
theorem room_succ {dp k : Nat} (h : dp + (k + 1) + 1 < recursionLimit) : dp + 1 + k + 1 < recursionLimit := by omega
theorem unit_succ {un k : Nat} (h : un + 4 * (k + 1) + 8 < cLine) : un + 3 + 4 * k + 8 < cLine := by omega
/-- the inner def of _digits2int -/
noncomputable abbrev iD : Stmt := nth (fnBody (top 11)) 0
set_option maxRecDepth 100000 in
set_option maxHeartbeats 8000000 in
theorem inner_d {w : World} {p : Program} {loose : List Str} {mean : ExcName → Option Value} {mg mb : Str → Option Value} {base : Heap}
    {qual : Str} {dc pm ct : Value} {c' f cD cN cI dl : Addr} {oc oD oN oI : Obj} {vs : Array Value} {t tn : Tok} {xs : List Value} {od : Option Addr} {osl : Array (Option Value)} {kk : Nat} {ns : List Nat} {n : Nat}
    (hd1 : oc.data = .fields vs) (hd2 : vs[1]? = some (.str qual t))
    (hDd : oD.data = .cell (some (.ref dl))) (hNd : oN.data = .cell (some (.int (n : Int) tn))) (hId : oI.data = .cell (some (.ref f)))
    (hi : IntsAre xs (ns.map (fun x : Nat => (x : Int)))) (hlen : ns.length ≤ 100) (hn : n ≤ 200) (hx : ∀ x ∈ ns, x < 2 ^ n) (k : Nat) :
    ∀ (dp un : Nat) (gd : Option (List Code)) (cn : Str) (cs : Scope) (a : Addr) (ccd : Value) (cl : List (Str × Addr)) (outer : List Env) (A₀ : Around) (h₀ : Heap) (L : Addr) (m : Str → Option Value) (news : List (Addr × Obj)) (s : Shared) (Q E : Value → Shared → Prop) (i j : Int) (ti tj : Tok)
    (_C : Cx w p loose mean mg mb cs outer A₀ base h₀ L m news s.heap)
    (_hf : (f, fnMade "inner" qual (fnArgs iD) (fnBody iD) (fnScope iD) [("n", cN), ("inner", cI), ("digits", cD)] dc pm c' ct) ∈ news)
    (_hc : (c', oc) ∈ news) (_hD : (cD, oD) ∈ news) (_hN : (cN, oN) ∈ news) (_hI : (cI, oI) ∈ news) (_hl : (dl, lstO od xs.toArray kk osl) ∈ news)
    (_hdp : dp + k + 1 < recursionLimit) (_hun : un + 4 * k + 8 < cLine) (_h0 : 0 ≤ i) (_h1 : i < j) (_h2 : j ≤ ns.length) (_hk : j.toNat - i.toNat ≤ k)
    (_hret : ∀ tk h' tk', Fr h₀ L h' m → News h₀ L h' news → Q (.int ((d2 n (cut ns i.toNat j.toNat) : Nat) : Int) tk) { s with heap := h', toks := tk' }),
    wpAny (model Challenge.rw_nb0260_01.row.prog w) (ktrTop dp un gd cn cs L a ccd cl outer) (call (.ref f) [.int i ti, .int j tj]) Q E s := by
  induction k with
  | zero => intros; omega
  | succ k ih =>
  intro dp un gd cn cs a ccd cl outer A₀ h₀ L m news s Q E i j ti tj C hf hc hD hN hI hl hdp hun h0 h1 h2 hk0 hret
  obtain ⟨B, F, X, N, T, hk⟩ := C
  have C1 := codeHd_of_K (c := 209) (P := 205) X (by kernel_rfl)
  have hlm : (ns.map (fun x : Nat => (x : Int))).length = ns.length := List.length_map ..
  obtain ⟨md, hmd, hm1, hm2, hm3, hs0, hs1, hs2⟩ := mid_facts (n := n) h0 h1 h2 hlen hn
  refine wpAny_call ?_
  (k_dflt (refine' code_nest (scope := ⟨_, _, _, _, _⟩) (params := ⟨_, _, _, _, _, _, _⟩) ?k1 ?k2 ?k3 ?k4 ?k5 ?kA ?kF ?kK ?k6 ?k7 ?k8 ?k9 ?kB ?_ ?c2 ?c3 ?c4 ?c5; (case kA => exact rfl); (case kF => exact rfl); (case kK => assumption); (case k1 => k_asm); (case k2 => k_asm); (case k3 => k_asm); (case k4 => k_asm); (case k5 => k_asm); (case k6 => k_mem); (case k7 => exact codeRec_news (by k_asm) (by k_mem) (by assumption) (by assumption)); (case k8 => ktr_room); (case k9 => exact BindsTo.of_eq rfl); (case c5 => decide); (case kB => exact locs rfl); (case c2 => exact rfl); (case c3 => exact rfl); (case c4 => exact rfl); k_whole; intro g' L' h' FG' F' N' B' X' T'; (refine' execs_as ?kE ?_; (case kE => exact rfl)); (try dsimp only); (try k_lift B'); (try k_fold)))
  (repeat' ((fail_if_success (with_reducible show wpAny _ _ (call (Value.ref _) [Value.int _ _, Value.int _ _]) _ _ _)); (first | (k_unfold; (try dsimp only)) | walk1 | (dsimp only; walk1) | (leave1; walk_say "STEP leave1"; try dsimp only) | fail "no step")))
  · rw [getD_cast]
    have e : j.toNat = i.toNat + 1 := one_more h0 (by assumption)
    rw [e, cut_one (by omega)] at hret
    exact hret _ _ _ (by assumption) (by assumption)
  · have := hm3 (by assumption)
    simp only [hmd] at *
    have hb1 := d2_bits (n := n) (ns := ns) (i := md.toNat) (j := j.toNat) hn hlen (by omega) hx
    refine ih _ _ _ _ _ _ _ _ _ _ _ _ _ _ _ _ _ _ _ _ _ ⟨by k_asm, by k_asm, by k_asm, by k_asm, by k_asm, rfl⟩ hf hc hD hN hI hl (room_succ hdp) (unit_succ hun) (by omega) hm2 h2 (hi_le h0 this hm2 hk0).1 ?_
    intro tk1 h1' tk1' F1' N1'
    dsimp only
    (repeat' ((fail_if_success (with_reducible show wpAny _ _ (call (Value.ref _) [Value.int _ _, Value.int _ _]) _ _ _)); (first | (k_unfold; (try dsimp only)) | walk1 | (dsimp only; walk1) | (leave1; walk_say "STEP leave1"; try dsimp only) | fail "no step")))
    refine ih _ _ _ _ _ _ _ _ _ _ _ _ _ _ _ _ _ _ _ _ _ ⟨by k_asm, by k_asm, by k_asm, by k_asm, by k_asm, rfl⟩ hf hc hD hN hI hl (room_succ hdp) (unit_succ hun) h0 this (by omega) (hi_le h0 this hm2 hk0).2 ?_
    intro tk2 h2' tk2' F2' N2'
    dsimp only
    (repeat' ((fail_if_success (with_reducible show wpAny _ _ (call (Value.ref _) [Value.int _ _, Value.int _ _]) _ _ _)); (first | (k_unfold; (try dsimp only)) | walk1 | (dsimp only; walk1) | (leave1; walk_say "STEP leave1"; try dsimp only) | fail "no step")))
    rw [d2_join h0 hm1 hm2 h2 hs2] at hret
    exact hret _ _ _ (by assumption) (by assumption)

set_option maxRecDepth 100000 in
set_option maxHeartbeats 8000000 in
theorem c_d2iF {w : World} {p : Program} {loose : List Str} {mean : ExcName → Option Value} {mg mb : Str → Option Value} {dp un : Nat} {gd : Option (List Code)} {cn : Str} {cs : Scope} {a : Addr} {ccd : Value} {cl : List (Str × Addr)} {outer : List Env} {A₀ : Around} {base h₀ : Heap} {L : Addr} {m : Str → Option Value} {news : List (Addr × Obj)} {s : Shared} {Q E : Value → Shared → Prop}
    {dl : Addr} {xs : List Value} {od : Option Addr} {osl : Array (Option Value)} {kk : Nat} {ns : List Nat} {zs : List Int} {n : Nat} {tn : Tok}
    (C : Cx w p loose mean mg mb cs outer A₀ base h₀ L m news s.heap) (ht : TabOk 205 155 4 ((Str.ofString "_digits2int" ++ ".<locals>.") ++ "inner") news)
    (hl : (dl, lstO od xs.toArray kk osl) ∈ news) (hi : IntsAre xs zs) (hz : zs = ns.map (fun x : Nat => (x : Int))) (hlen : ns.length ≤ 100) (hn : n ≤ 200) (hx : ∀ x ∈ ns, x < 2 ^ n)
    (hdp : dp + 110 < recursionLimit) (hun : un + 500 < cLine)
    (hret : ∀ tk news' h' tk', Fr h₀ L h' m → News h₀ L h' news' → TabF 205 155 4 ((Str.ofString "_digits2int" ++ ".<locals>.") ++ "inner") news' → (∀ q ∈ news, (q.1 ≠ 205 ∨ TabF 205 155 4 ((Str.ofString "_digits2int" ++ ".<locals>.") ++ "inner") news) → q ∈ news') →
      Q (.int ((d2 n ns : Nat) : Int) tk) { s with heap := h', toks := tk' }) :
    wpAny (model Challenge.rw_nb0260_01.row.prog w) (ktrTop dp un gd cn cs L a ccd cl outer) (call (.ref 210) [.ref dl, .int n tn]) Q E s := by
  obtain ⟨B, F, X, N, T, hk⟩ := C
  have hzl : zs.length = ns.length := by rw [hz, List.length_map]
  have hzf : zs.length ≤ 100 := by omega
  refine wpAny_call ?_
  (k_dflt (refine' code_defC2 ?k1 ?k2 ?k3 ?k4 ?k5 ?kA ?kF ?kK ?k6 ?k7 ?k8 ?k9 ?kB ?kD ?_ ?c2 ?c3 ?c4; (case kA => exact rfl); (case kF => exact rfl); (case kK => assumption); (case k1 => k_asm); (case k2 => k_asm); (case k3 => k_asm); (case k4 => k_asm); (case k5 => k_asm); (case k6 => k_is); (case k7 => k_is); (case k8 => ktr_room); (case k9 => exact BindsTo.of_eq rfl); (case kB => exact rfl); (case kD => decide +kernel); (case c2 => exact rfl); (case c3 => exact rfl); (case c4 => exact rfl); k_whole; intro g' L' h' tk' cells' FG' F' N' Y' B' X' T' l1; k_cells Y'; (try simp only [List.cons_append, List.nil_append] at N'); (try dsimp only); (try k_lift B'); (try k_fold)))
  rename_i o1 o2 o3 e1 e2 e3
  have C1 := codeHd_of_K (c := 209) (P := 205) X' (by kernel_rfl)
  have h5 : @LT.lt Nat _ 205 L' := l1 _ ht.isQ.choose_spec.1
  have hld : @LT.lt Nat _ dl L' := l1 _ hl
  (repeat' ((fail_if_success (with_reducible show wpAny _ _ (call (Value.ref _) [Value.int _ _, Value.int _ _]) _ _ _)); (first | (k_unfold; (try dsimp only)) | walk1 | (dsimp only; walk1) | (leave1; walk_say "STEP leave1"; try dsimp only) | fail "no step")))
  k_dflt (refine' nestDef_K ?d0 ?k0 ?a0 ?_; (case d0 => exact rfl); (case k0 => exact rfl); (case a0 => exact rfl))
  refine' nest_T (c := 209) (P := 205) F' N' T' C1 rfl (ht.mono fun q hq => .tail _ (.tail _ (.tail _ hq))) rfl ?_
  intro f c' oc vs t ctv doc n1 h2 tk2 F2 N2 hc hd1 hd2 ht1 hk1 l2
  have p1 : (L' + 1 + 1 + 1, o1) ∈ n1 := hk1 _ (.head _) (.inl (by refine neN ?_; omega))
  have p2 : (L' + 1 + 1, o2) ∈ n1 := hk1 _ (.tail _ (.head _)) (.inl (by refine neN ?_; omega))
  have p3 : (L' + 1, o3) ∈ n1 := hk1 _ (.tail _ (.tail _ (.head _))) (.inl (by refine neN ?_; omega))
  have p4 : (dl, lstO od xs.toArray kk osl) ∈ n1 := hk1 _ (.tail _ (.tail _ (.tail _ hl))) (.inl (ne_obj N hl ht.isQ.choose_spec.1 (fun e => by have := ht.isQ.choose_spec.2; rw [← e] at this; exact notQ (by nofun) this)))
  have lf : @LT.lt Nat _ (L' + 1 + 1 + 1) f := l2 _ p1
  have hne3 : ∀ q ∈ off (L' + 1 + 1 + 1) n1, q.1 ≠ L' + 1 + 1 + 1 := off_ne
  have N2' : News g' L' h2 n1 := News.sub N2 fun q hq => .tail _ hq
  replace N2 := News.sub (news := (f, _) :: (L' + 1 + 1 + 1, o1) :: off (L' + 1 + 1 + 1) n1) N2 (by
    intro q hq
    rcases List.mem_cons.mp hq with rfl | hq
    · exact .head _
    · exact .tail _ (off_cover p1 q hq))
  have nc : c' ≠ L' + 1 + 1 + 1 := ne_obj N2' hc p1 (by rintro rfl; rw [hd1] at e1; cases e1)
  have ht2 : TabF 205 155 4 _ (off (L' + 1 + 1 + 1) n1) := ht1.off N2' p1 (fun vs e => by rw [e1] at e; cases e)
  have hk2 : ∀ q ∈ news, (q.1 ≠ 205 ∨ TabF 205 155 4 ((Str.ofString "_digits2int" ++ ".<locals>.") ++ "inner") news) → q ∈ off (L' + 1 + 1 + 1) n1 := fun q hq hne => mem_off.mpr ⟨hk1 q (.tail _ (.tail _ (.tail _ hq))) (hne.imp_right fun h => h.mono fun z hz => .tail _ (.tail _ (.tail _ hz))), by
    have : @LT.lt Nat _ q.1 L' := l1 _ hq
    refine neN ?_; omega⟩
  clear hk1 l2
  (repeat' ((fail_if_success (with_reducible show wpAny _ _ (call (Value.ref _) [Value.int _ _, Value.int _ _]) _ _ _)); (first | (k_unfold; (try dsimp only)) | walk1 | (dsimp only; walk1) | (leave1; walk_say "STEP leave1"; try dsimp only) | fail "no step")))
  · subst hz
    simp only [List.length_map]
    refine' inner_d (w := w) (k := 101) ?hd1 ?hd2 ?hDd ?hNd ?hId hi hlen hn hx _ _ _ _ _ _ _ _ _ _ _ _ _ _ _ _ _ _ _ _ _ ⟨by k_asm, by k_asm, by k_asm, by k_asm, by k_asm, rfl⟩ ?hf ?hc ?hD ?hN ?hI ?hl ?hdp ?hun (by omega) ?h1 (Int.le_refl _) ?h2 ?hR
    case hf => k_mem
    case hc => k_mem
    case hD => k_mem
    case hN => k_mem
    case hI => k_mem
    case hl => k_mem
    case hd1 => assumption
    case hd2 => assumption
    case hDd => assumption
    case hNd => assumption
    case hId => assumption
    case hdp => exact Nat.lt_of_le_of_lt (show dp + 1 + 101 + 1 ≤ dp + 110 by omega) hdp
    case hun => exact Nat.lt_of_le_of_lt (show un + 3 + 4 * 101 + 8 ≤ un + 500 by omega) hun
    case h1 => omega
    case h2 => omega
    case hR =>
    intro tk1 h1' tk1' F1' N1'
    rw [show (Int.toNat 0) = 0 from rfl, Int.toNat_natCast, cut_all]
    (repeat' ((fail_if_success (with_reducible show wpAny _ _ (call (Value.ref _) [Value.int _ _, Value.int _ _]) _ _ _)); (first | (k_unfold; (try dsimp only)) | walk1 | (dsimp only; walk1) | (leave1; walk_say "STEP leave1"; try dsimp only) | fail "no step")))
    rename_i kF kN kT kX
    exact hret _ _ _ _ kF kN (ht2.mono fun q hq => .tail _ (.tail _ hq)) fun q hq hne => .tail _ (.tail _ (hk2 q hq hne))
  · rename_i kF kN kT kX
    have e0 : ns = [] := List.length_eq_zero_iff.mp (by omega)
    subst e0
    exact hret _ _ _ _ kF kN (ht2.mono fun q hq => .tail _ (.tail _ hq)) fun q hq hne => .tail _ (.tail _ (hk2 q hq hne))
end Mine
end

section
open PySem PySem.W PyProof.Rows
set_option linter.unusedVariables false
namespace Mine

theorem shr_is {x sh : Int} (h : 0 ≤ x) : x.fdiv (2 ^ sh.toNat) = ((x.toNat / 2 ^ sh.toNat : Nat) : Int) := by
  rw [Int.fdiv_eq_ediv_of_nonneg _ (Int.le_of_lt (Int.pow_pos (by decide)))]
  conv => lhs; rw [← Int.toNat_of_nonneg h]
  simp
theorem xor_is {x sh : Int} (h : 0 ≤ x) : Builtin.bitXor x (x.fdiv (2 ^ sh.toNat) * 2 ^ sh.toNat) = ((x.toNat % 2 ^ sh.toNat : Nat) : Int) := by
  have e : (((x.toNat / 2 ^ sh.toNat : Nat) : Int) * 2 ^ sh.toNat) = ((x.toNat / 2 ^ sh.toNat * 2 ^ sh.toNat : Nat) : Int) := by simp
  have h2 := Nat.div_add_mod x.toNat (2 ^ sh.toNat)
  rw [Nat.mul_comm] at h2
  rw [shr_is h, e, bitXor_and, bitAnd_pp h (by omega), Int.toNat_natCast, and_high]
  omega
theorem shr_bits {x sh : Int} {n k : Nat} (h : 0 ≤ x) (hx : x.toNat < 2 ^ (n * k)) (hn : n ≤ 200) (hk : k ≤ 100) : Builtin.Int.intBits (x.fdiv (2 ^ sh.toNat)) ≤ 20000 := by
  rw [shr_is h]
  exact Nat.le_trans (bits_of_lt (Nat.lt_of_le_of_lt (Nat.div_le_self ..) hx)) (Nat.le_trans (Nat.mul_le_mul hn hk) (by decide))
/-- the two halves together -/
theorem put_halves {n : Nat} {zs : List Int} {i md j xv : Int} (h0 : 0 ≤ i) (h1 : i ≤ md) (h2 : md < j) (h3 : j ≤ zs.length) :
    put (put zs i.toNat (pad n (md.toNat - i.toNat) (xv.toNat % 2 ^ ((md.toNat - i.toNat) * n)))) md.toNat (pad n (j.toNat - md.toNat) (xv.toNat / 2 ^ ((md.toNat - i.toNat) * n))) = put zs i.toNat (pad n (j.toNat - i.toNat) xv.toNat) := by
  have hsp := pad_split n (md.toNat - i.toNat) (j.toNat - md.toNat) xv.toNat
  rw [Nat.add_comm, Nat.sub_add_sub_cancel (Int.toNat_le_toNat (Int.le_of_lt h2)) (Int.toNat_le_toNat h1), Nat.mul_comm n] at hsp
  rw [put_put (by rw [pad_length]; omega) (by omega), ← hsp]
theorem low_fits {n : Nat} {i md j xv : Int} : ((xv.toNat % 2 ^ ((md.toNat - i.toNat) * n) : Nat) : Int).toNat < 2 ^ (n * (md.toNat - i.toNat)) := by
  rw [Int.toNat_natCast, Nat.mul_comm n]; exact Nat.mod_lt _ (Nat.two_pow_pos _)
theorem high_fits {n : Nat} {i md j xv : Int} (h0 : 0 ≤ i) (h1 : i ≤ md) (h2 : md < j) (hx : xv.toNat < 2 ^ (n * (j.toNat - i.toNat))) : ((xv.toNat / 2 ^ ((md.toNat - i.toNat) * n) : Nat) : Int).toNat < 2 ^ (n * (j.toNat - md.toNat)) := by
  rw [Int.toNat_natCast, Nat.div_lt_iff_lt_mul (Nat.two_pow_pos _), ← Nat.pow_add, Nat.mul_comm _ n, ← Nat.mul_add, Nat.sub_add_sub_cancel (Int.toNat_le_toNat (Int.le_of_lt h2)) (Int.toNat_le_toNat h1)]
  exact hx

local macro_rules | `(tactic| walk_at "binaryOp LShift int int") => `(tactic| (with_reducible refine lshift_int ?kbn ?kbs ?_; (case kbn => assumption); (case kbs => exact kbm_shl (m := 20000) (by assumption) (by assumption) (by decide))))
local macro_rules | `(tactic| walk_at "binaryOp RShift int int") => `(tactic| (with_reducible refine rshift_int ?kbn ?_; (case kbn => first | assumption | decide)))
/-- the inner def of _int2digits -/
noncomputable abbrev iI : Stmt := nth (fnBody (top 10)) 1
set_option maxRecDepth 100000 in
set_option maxHeartbeats 8000000 in
theorem inner_i {w : World} {p : Program} {loose : List Str} {mean : ExcName → Option Value} {mg mb : Str → Option Value} {base : Heap}
    {qual : Str} {dc pm ct : Value} {c' f cD cN cI dl : Addr} {oc oD oN oI : Obj} {vs : Array Value} {t tn : Tok} {n : Nat}
    (hd1 : oc.data = .fields vs) (hd2 : vs[1]? = some (.str qual t))
    (hDd : oD.data = .cell (some (.ref dl))) (hNd : oN.data = .cell (some (.int (n : Int) tn))) (hId : oI.data = .cell (some (.ref f)))
    (hn : n ≤ 200) (k : Nat) :
    ∀ (dp un : Nat) (gd : Option (List Code)) (cn : Str) (cs : Scope) (a : Addr) (ccd : Value) (cl : List (Str × Addr)) (outer : List Env) (A₀ : Around) (h₀ : Heap) (L : Addr) (m : Str → Option Value) (rest : List (Addr × Obj)) (s : Shared) (Q E : Value → Shared → Prop) (xv i j : Int) (tx ti tj : Tok) (xs : List Value) (zs : List Int) (kk : Nat)
    (_C : Cx w p loose mean mg mb cs outer A₀ base h₀ L m ((dl, listOf xs.toArray kk) :: rest) s.heap)
    (_hne : ∀ q ∈ rest, q.1 ≠ dl)
    (_hf : (f, fnMade "inner" qual (fnArgs iI) (fnBody iI) (fnScope iI) [("n", cN), ("inner", cI), ("a_digits", cD)] dc pm c' ct) ∈ rest)
    (_hc : (c', oc) ∈ rest) (_hD : (cD, oD) ∈ rest) (_hN : (cN, oN) ∈ rest) (_hI : (cI, oI) ∈ rest)
    (_hi : IntsAre xs zs) (_hlen : zs.length ≤ 100) 
    (_hdp : dp + k + 1 < recursionLimit) (_hun : un + 4 * k + 8 < cLine) (_h0 : 0 ≤ i) (_h1 : i < j) (_h2 : j ≤ zs.length) (_hk : j.toNat - i.toNat ≤ k)
    (_hx0 : 0 ≤ xv) (_hx : xv.toNat < 2 ^ (n * (j.toNat - i.toNat)))
    (_hret : ∀ xs' kk' h' tk', Fr h₀ L h' m → News h₀ L h' ((dl, listOf xs'.toArray kk') :: rest) → IntsAre xs' (put zs i.toNat (pad n (j.toNat - i.toNat) xv.toNat)) → Q .none { s with heap := h', toks := tk' }),
    wpAny (model Challenge.rw_nb0260_01.row.prog w) (ktrTop dp un gd cn cs L a ccd cl outer) (call (.ref f) [.int xv tx, .int i ti, .int j tj]) Q E s := by
  induction k with
  | zero => intros; omega
  | succ k ih =>
  intro dp un gd cn cs a ccd cl outer A₀ h₀ L m rest s Q E xv i j tx ti tj xs zs kk C hne hf hc hD hN hI hi hlen hdp hun h0 h1 h2 hk0 hx0 hx hret
  obtain ⟨B, F, X, N, T, hk⟩ := C
  have C1 := codeHd_of_K (c := 202) (P := 198) X (by kernel_rfl)
  obtain ⟨md, hmd, hm1, hm2, hm3, hs0, hs1, hs2⟩ := mid_facts (n := n) h0 h1 h2 hlen hn
  have hb1 := shr_bits (sh := (md - i) * (n : Int)) hx0 hx hn (by omega)
  have hlo := xor_is (x := xv) (sh := (md - i) * (n : Int)) hx0
  have hup := shr_is (x := xv) (sh := (md - i) * (n : Int)) hx0
  rw [← hmd] at hs0 hs1 hb1 hlo hup
  refine wpAny_call ?_
  (k_dflt (refine' code_nest (scope := ⟨_, _, _, _, _⟩) (params := ⟨_, _, _, _, _, _, _⟩) ?k1 ?k2 ?k3 ?k4 ?k5 ?kA ?kF ?kK ?k6 ?k7 ?k8 ?k9 ?kB ?_ ?c2 ?c3 ?c4 ?c5; (case kA => exact rfl); (case kF => exact rfl); (case kK => assumption); (case k1 => k_asm); (case k2 => k_asm); (case k3 => k_asm); (case k4 => k_asm); (case k5 => k_asm); (case k6 => k_mem); (case k7 => exact codeRec_news (by k_asm) (by k_mem) (by assumption) (by assumption)); (case k8 => ktr_room); (case k9 => exact BindsTo.of_eq rfl); (case c5 => decide); (case kB => exact locs rfl); (case c2 => exact rfl); (case c3 => exact rfl); (case c4 => exact rfl); k_whole; intro g' L' h' FG' F' N' B' X' T'; (refine' execs_as ?kE ?_; (case kE => exact rfl)); (try dsimp only); (try k_lift B'); (try k_fold)))
  (repeat' ((fail_if_success (with_reducible show wpAny _ _ (call (Value.ref _) [Value.int _ _, Value.int _ _, Value.int _ _]) _ _ _)); (first | (k_unfold; (try dsimp only)) | walk1 | (dsimp only; walk1) | (leave1; walk_say "STEP leave1"; try dsimp only) | fail "no step")))
  · rename_i hxs _ _ kF kN _ _
    have e : j.toNat - i.toNat = 1 := by rw [one_more h0 (by assumption)]; exact Nat.add_sub_cancel_left _ _
    refine hret _ _ _ _ kF kN ?_
    rw [e] at hx ⊢
    rw [pad_one (by simpa using hx), ← put_one (by omega), Int.toNat_of_nonneg hx0]
    exact hxs
  · have hij := hm3 (by assumption)
    rw [hlo, hmd, hs2]
    refine' ih _ _ _ _ _ _ _ _ _ _ _ _ _ _ _ _ _ _ _ _ _ _ _ _ _ _ ⟨by k_asm, by k_asm, by k_asm, by k_asm, by k_asm, rfl⟩ hne hf hc hD hN hI hi hlen (room_succ hdp) (unit_succ hun) h0 hij (by omega) (hi_le h0 hij hm2 hk0).2 (Int.natCast_nonneg _) (low_fits (j := j)) ?hR
    intro xs1 kk1 h1' tk1' F1' N1' hi1
    dsimp only
    rw [Int.toNat_natCast] at hi1
    have hl1 : (put zs i.toNat (pad n (md.toNat - i.toNat) (xv.toNat % 2 ^ ((md.toNat - i.toNat) * n)))).length = zs.length := put_length (by rw [pad_length]; omega)
    (repeat' ((fail_if_success (with_reducible show wpAny _ _ (call (Value.ref _) [Value.int _ _, Value.int _ _, Value.int _ _]) _ _ _)); (first | (k_unfold; (try dsimp only)) | walk1 | (dsimp only; walk1) | (leave1; walk_say "STEP leave1"; try dsimp only) | fail "no step")))
    rw [hup, hmd, hs2]
    refine' ih _ _ _ _ _ _ _ _ _ _ _ _ _ _ _ _ _ _ _ _ _ _ _ _ _ _ ⟨by k_asm, by k_asm, by k_asm, by k_asm, by k_asm, rfl⟩ hne hf hc hD hN hI hi1 (by rw [hl1]; exact hlen) (room_succ hdp) (unit_succ hun) (by omega) hm2 (by rw [hl1]; exact h2) (hi_le h0 hij hm2 hk0).1 (Int.natCast_nonneg _) (high_fits h0 hm1 hm2 hx) ?hR2
    intro xs2 kk2 h2' tk2' F2' N2' hi2
    dsimp only
    (repeat' ((fail_if_success (with_reducible show wpAny _ _ (call (Value.ref _) [Value.int _ _, Value.int _ _, Value.int _ _]) _ _ _)); (first | (k_unfold; (try dsimp only)) | walk1 | (dsimp only; walk1) | (leave1; walk_say "STEP leave1"; try dsimp only) | fail "no step")))
    rename_i kF kN _ _
    refine hret _ _ _ _ kF kN ?_
    rw [Int.toNat_natCast, put_halves h0 hm1 hm2 h2] at hi2
    exact hi2

theorem inner_i' {w : World} {p : Program} {loose : List Str} {mean : ExcName → Option Value} {mg mb : Str → Option Value} {base : Heap}
    {qual : Str} {dc pm ct : Value} {c' f cD cN cI dl : Addr} {oc oD oN oI : Obj} {vs : Array Value} {t tn : Tok} {n : Nat}
    {dp un : Nat} {gd : Option (List Code)} {cn : Str} {cs : Scope} {a : Addr} {ccd : Value} {cl : List (Str × Addr)} {outer : List Env} {A₀ : Around} {h₀ : Heap} {L : Addr} {m : Str → Option Value} {news : List (Addr × Obj)} {s : Shared} {Q E : Value → Shared → Prop} {xv i j : Int} {tx ti tj : Tok} {xs : List Value} {zs : List Int} {kk : Nat}
    (C : Cx w p loose mean mg mb cs outer A₀ base h₀ L m news s.heap)
    (hf : (f, fnMade "inner" qual (fnArgs iI) (fnBody iI) (fnScope iI) [("n", cN), ("inner", cI), ("a_digits", cD)] dc pm c' ct) ∈ news)
    (hc : (c', oc) ∈ news) (hd1 : oc.data = .fields vs) (hd2 : vs[1]? = some (.str qual t))
    (hD : (cD, oD) ∈ news) (hDd : oD.data = .cell (some (.ref dl))) (hN : (cN, oN) ∈ news) (hNd : oN.data = .cell (some (.int (n : Int) tn))) (hI : (cI, oI) ∈ news) (hId : oI.data = .cell (some (.ref f)))
    (hl : (dl, listOf xs.toArray kk) ∈ news) (hi : IntsAre xs zs) (hlen : zs.length ≤ 100) (hn : n ≤ 200)
    (hdp : dp + 102 < recursionLimit) (hun : un + 412 < cLine) (h0 : 0 ≤ i) (h1 : i < j) (h2 : j ≤ zs.length)
    (hx0 : 0 ≤ xv) (hx : xv.toNat < 2 ^ (n * (j.toNat - i.toNat)))
    (hret : ∀ xs' kk' h' tk', Fr h₀ L h' m → News h₀ L h' ((dl, listOf xs'.toArray kk') :: off dl news) → IntsAre xs' (put zs i.toNat (pad n (j.toNat - i.toNat) xv.toNat)) → Q .none { s with heap := h', toks := tk' }) :
    wpAny (model Challenge.rw_nb0260_01.row.prog w) (ktrTop dp un gd cn cs L a ccd cl outer) (call (.ref f) [.int xv tx, .int i ti, .int j tj]) Q E s := by
  have N := C.N
  exact inner_i hd1 hd2 hDd hNd hId hn 101 dp un gd cn cs a ccd cl outer A₀ h₀ L m (off dl news) s Q E xv i j tx ti tj xs zs kk ⟨C.B, C.F, C.X, News.sub N (off_cover hl), C.T, C.hk⟩ off_ne
    (mem_off.mpr ⟨hf, ne_obj N hf hl (fun e => nomatch congrArg Obj.data e)⟩) (mem_off.mpr ⟨hc, ne_obj N hc hl (by rintro rfl; cases hd1)⟩) (mem_off.mpr ⟨hD, ne_obj N hD hl (by rintro rfl; cases hDd)⟩)
    (mem_off.mpr ⟨hN, ne_obj N hN hl (by rintro rfl; cases hNd)⟩) (mem_off.mpr ⟨hI, ne_obj N hI hl (by rintro rfl; cases hId)⟩) hi hlen hdp hun h0 h1 h2 (by omega) hx0 hx hret
theorem i2_count {av : Int} {n : Nat} (ha : 0 ≤ av) (hab : Builtin.Int.intBits av ≤ 100 * n) (hn1 : 1 ≤ n) :
    ∃ K : Nat, ((Builtin.Int.intBits av : Int) + (n : Int) - 1).fdiv (n : Int) = (K : Int) ∧ K = (nbits av.toNat + n - 1) / n ∧ K ≤ 100 := by
  have e : Builtin.Int.intBits av = nbits av.toNat := by
    unfold Builtin.Int.intBits nbits
    by_cases h : av = 0
    · subst h; rfl
    · rw [if_neg (by simpa using h), if_neg (by omega), show av.natAbs = av.toNat by omega]
  refine ⟨(nbits av.toNat + n - 1) / n, ?_, rfl, ?_⟩
  · rw [e, Int.fdiv_eq_ediv_of_nonneg _ (by omega), show ((nbits av.toNat : Int) + (n : Int) - 1) = ((nbits av.toNat + n - 1 : Nat) : Int) by omega]
    rfl
  · rw [e] at hab
    rw [Nat.div_le_iff_le_mul_add_pred (by omega), Nat.mul_comm n]
    omega
theorem i2_some {av : Int} {n K : Nat} (hK2 : K = (nbits av.toNat + n - 1) / n) (hn1 : 1 ≤ n) (h : av ≠ 0) (ha : 0 ≤ av) : 0 < K := by
  rw [hK2]
  refine Nat.div_pos ?_ hn1
  have : 0 < nbits av.toNat := by unfold nbits; rw [if_neg (by omega)]; omega
  omega
theorem ints_zeros (t : Tok) (K : Nat) : ∃ zs : List Int, IntsAre (List.replicate K (Value.int 0 t)) zs ∧ zs.length = K := by
  induction K with
  | zero => exact ⟨[], .nil, rfl⟩
  | succ K ih => obtain ⟨zs, h1, h2⟩ := ih; exact ⟨0 :: zs, .cons _ _ h1, by simp [h2]⟩
theorem i2_whole {zs : List Int} {n K : Nat} {av : Int} (hzl : zs.length = K) (hK2 : K = (nbits av.toNat + n - 1) / n) :
    put zs (Int.toNat 0) (pad n (((zs.length : Nat) : Int).toNat - Int.toNat 0) av.toNat) = (i2 n av.toNat).map (fun x : Nat => (x : Int)) := by
  rw [show (Int.toNat 0) = 0 from rfl, Int.toNat_natCast, hzl, put_all (by rw [pad_length]; omega), hK2]
  rfl
set_option maxRecDepth 100000 in
set_option maxHeartbeats 8000000 in
theorem c_i2dF {w : World} {p : Program} {loose : List Str} {mean : ExcName → Option Value} {mg mb : Str → Option Value} {dp un : Nat} {gd : Option (List Code)} {cn : Str} {cs : Scope} {a : Addr} {ccd : Value} {cl : List (Str × Addr)} {outer : List Env} {A₀ : Around} {base h₀ : Heap} {L : Addr} {m : Str → Option Value} {news : List (Addr × Obj)} {s : Shared} {Q E : Value → Shared → Prop}
    {av : Int} {n : Nat} {ta tn : Tok}
    (C : Cx w p loose mean mg mb cs outer A₀ base h₀ L m news s.heap) (ht : TabOk 198 140 4 ((Str.ofString "_int2digits" ++ ".<locals>.") ++ "inner") news)
    (ha : 0 ≤ av) (hab : Builtin.Int.intBits av ≤ 100 * n) (hn : n ≤ 200) (hn1 : 1 ≤ n)
    (hdp : dp + 110 < recursionLimit) (hun : un + 500 < cLine)
    (hret : ∀ r xs kk news' h' tk', Fr h₀ L h' m → News h₀ L h' ((r, listOf xs.toArray kk) :: news') → IntsAre xs ((i2 n av.toNat).map (fun x : Nat => (x : Int))) → (∀ q ∈ news', q.1 ≠ r) → (∀ q ∈ news, q.1 < r) → TabF 198 140 4 ((Str.ofString "_int2digits" ++ ".<locals>.") ++ "inner") news' → (∀ q ∈ news, (q.1 ≠ 198 ∨ TabF 198 140 4 ((Str.ofString "_int2digits" ++ ".<locals>.") ++ "inner") news) → q ∈ news') →
      Q (.ref r) { s with heap := h', toks := tk' }) :
    wpAny (model Challenge.rw_nb0260_01.row.prog w) (ktrTop dp un gd cn cs L a ccd cl outer) (call (.ref 203) [.int av ta, .int n tn]) Q E s := by
  obtain ⟨B, F, X, N, T, hk⟩ := C
  refine wpAny_call ?_
  (k_dflt (refine' code_defC2 ?k1 ?k2 ?k3 ?k4 ?k5 ?kA ?kF ?kK ?k6 ?k7 ?k8 ?k9 ?kB ?kD ?_ ?c2 ?c3 ?c4; (case kA => exact rfl); (case kF => exact rfl); (case kK => assumption); (case k1 => k_asm); (case k2 => k_asm); (case k3 => k_asm); (case k4 => k_asm); (case k5 => k_asm); (case k6 => k_is); (case k7 => k_is); (case k8 => ktr_room); (case k9 => exact BindsTo.of_eq rfl); (case kB => exact rfl); (case kD => decide +kernel); (case c2 => exact rfl); (case c3 => exact rfl); (case c4 => exact rfl); k_whole; intro g' L' h' tk' cells' FG' F' N' Y' B' X' T' l1; k_cells Y'; (try simp only [List.cons_append, List.nil_append] at N'); (try dsimp only); (try k_lift B'); (try k_fold)))
  rename_i o1 o2 o3 e1 e2 e3
  have C1 := codeHd_of_K (c := 202) (P := 198) X' (by kernel_rfl)
  have h5 : @LT.lt Nat _ 198 L' := l1 _ ht.isQ.choose_spec.1
  (repeat' ((fail_if_success (with_reducible show wpAny _ _ (call (Value.ref _) [Value.int _ _, Value.int _ _, Value.int _ _]) _ _ _)); (first | (k_unfold; (try dsimp only)) | walk1 | (dsimp only; walk1) | (leave1; walk_say "STEP leave1"; try dsimp only) | fail "no step")))
  obtain ⟨K, hK, hK2, hK3⟩ := i2_count ha hab hn1
  rw [hK]
  k_dflt (refine' KMa.mul (ws := List.replicate K (Value.int 0 tk')) ?F ?N ?l ?lo ?hi ?z ?e ?_; (case F => k_asm); (case N => k_asm); (case l => is_list); (case lo => omega); (case hi => omega); (case z => (rw [List.length_singleton, Int.toNat_natCast]; omega)); (case e => (rw [Int.toNat_natCast]; simp)))
  intro D h3 F3 N3 l3
  obtain ⟨zs, hz, hzl⟩ := ints_zeros tk' K
  have hzf : zs.length ≤ 100 := by omega
  have q1 : @LT.lt Nat _ (L' + 1 + 1 + 1) D := l3 _ (.tail _ (.head _))
  have l4 : ∀ q ∈ news, ¬ D ≤ q.1 := fun q hq => Nat.not_le.mpr (l3 q (.tail _ (.tail _ (.tail _ (.tail _ hq)))))
  replace N3 := News.sub (news := (D, _) :: (L' + 1 + 1 + 1, o1) :: (L' + 1 + 1, o2) :: (L' + 1, o3) :: news) N3 (by
    intro q hq
    rcases List.mem_cons.mp hq with rfl | hq
    · exact .head _
    · exact .tail _ (.tail _ hq))
  clear l3
  (repeat' ((fail_if_success (with_reducible show wpAny _ _ (call (Value.ref _) [Value.int _ _, Value.int _ _, Value.int _ _]) _ _ _)); (first | (k_unfold; (try dsimp only)) | walk1 | (dsimp only; walk1) | (leave1; walk_say "STEP leave1"; try dsimp only) | fail "no step")))
  k_dflt (refine' nestDef_K ?d0 ?k0 ?a0 ?_; (case d0 => exact rfl); (case k0 => exact rfl); (case a0 => exact rfl))
  refine' nest_T (c := 202) (P := 198) (by k_asm) (by k_asm) T' C1 rfl (ht.mono fun q hq => .tail _ (.tail _ (.tail _ (.tail _ hq)))) rfl ?_
  intro f c' oc vs t ctv doc n1 h2 tk2 F2 N2 hc hd1 hd2 ht1 hk1 l2
  rename_i o2' _ _ e2'
  have N2' : News g' L' h2 n1 := News.sub N2 fun q hq => .tail _ hq
  have p0 : (D, listOf (List.replicate K (Value.int 0 tk')).toArray 0) ∈ n1 := hk1 _ (.head _) (.inl (by refine neN ?_; omega))
  have p1 : (L' + 1 + 1 + 1, o1) ∈ n1 := hk1 _ (.tail _ (.head _)) (.inl (by refine neN ?_; omega))
  have p2 : (L' + 1 + 1, o2') ∈ n1 := hk1 _ (.tail _ (.tail _ (.head _))) (.inl (by refine neN ?_; omega))
  have p3 : (L' + 1, o3) ∈ n1 := hk1 _ (.tail _ (.tail _ (.tail _ (.head _)))) (.inl (by refine neN ?_; omega))
  have lf : @LT.lt Nat _ (L' + 1 + 1 + 1) f := l2 _ p1
  have lfD : @LT.lt Nat _ D f := l2 _ p0
  have hne3 : ∀ q ∈ off (L' + 1 + 1 + 1) n1, q.1 ≠ L' + 1 + 1 + 1 := off_ne
  replace N2 := News.sub (news := (f, _) :: (L' + 1 + 1 + 1, o1) :: off (L' + 1 + 1 + 1) n1) N2 (by
    intro q hq
    rcases List.mem_cons.mp hq with rfl | hq
    · exact .head _
    · exact .tail _ (off_cover p1 q hq))
  have nc : c' ≠ L' + 1 + 1 + 1 := ne_obj N2' hc p1 (by rintro rfl; rw [hd1] at e1; cases e1)
  have ncD : c' ≠ D := ne_obj N2' hc p0 (by rintro rfl; cases hd1)
  have ht2 : TabF 198 140 4 _ (off (L' + 1 + 1 + 1) n1) := ht1.off N2' p1 (fun vs e => by rw [e1] at e; cases e)
  have hk2 : ∀ q ∈ news, (q.1 ≠ 198 ∨ TabF 198 140 4 ((Str.ofString "_int2digits" ++ ".<locals>.") ++ "inner") news) → q ∈ off (L' + 1 + 1 + 1) n1 := fun q hq hne => mem_off.mpr ⟨hk1 q (.tail _ (.tail _ (.tail _ (.tail _ hq)))) (hne.imp_right fun h => h.mono fun z hz => .tail _ (.tail _ (.tail _ (.tail _ hz)))), by
    have : @LT.lt Nat _ q.1 L' := l1 _ hq
    refine neN ?_; omega⟩
  clear hk1 l2
  have nD : @Ne Nat (L' + 1 + 1) (L' + 1 + 1 + 1) := by omega
  have nD1 : @Ne Nat (L' + 1) (L' + 1 + 1 + 1) := by omega
  have nD2 : @Ne Nat D (L' + 1 + 1 + 1) := by omega
  have nD3 : @Ne Nat (L' + 1 + 1) D := by omega
  have hk3 : ∀ q ∈ news, (q.1 ≠ 198 ∨ TabF 198 140 4 ((Str.ofString "_int2digits" ++ ".<locals>.") ++ "inner") news) → q ∈ off D (off (L' + 1 + 1 + 1) n1) := fun q hq hne => mem_off.mpr ⟨hk2 q hq hne, fun e => l4 q hq (Nat.le_of_eq e.symm)⟩
  have p0' : (D, listOf (List.replicate K (Value.int 0 tk')).toArray 0) ∈ off (L' + 1 + 1 + 1) n1 := mem_off.mpr ⟨p0, nD2⟩
  have ht3 : TabF 198 140 4 _ (off D (off (L' + 1 + 1 + 1) n1)) := ht2.off (News.sub N2' off_sub) p0' (fun vs e => by cases e)
  have l5 : ∀ q ∈ news, q.1 < D := fun q hq => Nat.not_le.mp (l4 q hq)
  clear hk2 ht2 l4
  (repeat' ((fail_if_success (with_reducible show wpAny _ _ (call (Value.ref _) [Value.int _ _, Value.int _ _, Value.int _ _]) _ _ _)); (first | (k_unfold; (try dsimp only)) | walk1 | (dsimp only; walk1) | (leave1; walk_say "STEP leave1"; try dsimp only) | fail "no step")))
  · refine' inner_i' (w := w) ⟨by k_asm, by k_asm, by k_asm, by k_asm, by k_asm, rfl⟩ ?hf ?hc ?hd1 ?hd2 ?hD ?hDd ?hN ?hNd ?hI ?hId ?hl hz hzf hn ?hdp ?hun (by omega) ?h1 (Int.le_refl _) ha ?h4 ?hR
    case hf => k_mem
    case hc => k_mem
    case hD => k_mem
    case hN => k_mem
    case hI => k_mem
    case hl => k_mem
    case hd1 => assumption
    case hd2 => assumption
    case hDd => assumption
    case hNd => assumption
    case hId => assumption
    case hdp => exact Nat.lt_of_le_of_lt (show dp + 1 + 102 ≤ dp + 110 by omega) hdp
    case hun => exact Nat.lt_of_le_of_lt (show un + 3 + 412 ≤ un + 500 by omega) hun
    case h1 =>
      have := i2_some hK2 hn1 (by omega) ha
      omega
    case h4 =>
      rw [show (Int.toNat 0) = 0 from rfl, Int.toNat_natCast, hzl, hK2]
      exact i2_fits hn1
    case hR =>
    intro xs1 kk1 h1' tk1' F1' N1' hi1
    rw [i2_whole hzl hK2] at hi1
    (repeat' ((fail_if_success (with_reducible show wpAny _ _ (call (Value.ref _) [Value.int _ _, Value.int _ _, Value.int _ _]) _ _ _)); (first | (k_unfold; (try dsimp only)) | walk1 | (dsimp only; walk1) | (leave1; walk_say "STEP leave1"; try dsimp only) | fail "no step")))
    rename_i kF kN kT kX
    refine hret D xs1 kk1 _ _ _ kF (News.sub kN fun q hq => ?_) hi1 off_ne l5 ht3 hk3
    rcases List.mem_cons.mp hq with rfl | hq
    · exact .head _
    · exact .tail _ (mem_off.mpr ⟨.tail _ (.tail _ (mem_off.mp hq).1), (mem_off.mp hq).2⟩)
  · rename_i kF kN kT kX
    have hav : av = 0 := by omega
    have hz0 : zs = [] := List.length_eq_zero_iff.mp (by rw [hzl, hK2, hav]; exact Nat.div_eq_of_lt (by simp [nbits]; omega))
    subst hz0
    refine hret D _ _ _ _ _ kF (News.sub kN fun q hq => .tail _ (.tail _ (off_cover p0' q hq))) ?_ off_ne l5 ht3 hk3
    rw [hav, show Int.toNat 0 = 0 from rfl, i2_zero n hn1]
    exact hz
end Mine
end

section
open PySem PySem.W PyProof.Rows
set_option linter.unusedVariables false
namespace Mine
set_option maxRecDepth 100000 in
set_option maxHeartbeats 8000000 in
theorem c_div1 {w : World} {p : Program} {loose : List Str} {mean : ExcName → Option Value} {mg mb : Str → Option Value} {dp un : Nat} {gd : Option (List Code)} {cn : Str} {cs : Scope} {a : Addr} {ccd : Value} {cl : List (Str × Addr)} {outer : List Env} {A₀ : Around} {base h₀ : Heap} {L : Addr} {m : Str → Option Value} {news : List (Addr × Obj)} {s : Shared} {Q E : Value → Shared → Prop}
    {av bv nv : Int} {ta tb tn : Tok}
    (C : Cx w p loose mean mg mb cs outer A₀ base h₀ L m news s.heap)
    (hle : (Builtin.Int.intBits av : Int) - nv ≤ 4000) (hb : 0 < bv) (hbb : bv.natAbs.log2 < 9000)
    (hdp : dp + 2 < recursionLimit) (hun : un + 8 < cLine)
    (hret : ∀ (r : Addr) (x y : Tok) (h' : Heap) (tk' : Tok), Fr h₀ L h' m → News h₀ L h' ((r, { cls := .type "tuple", data := .seq #[.int (av.fdiv bv) x, .int (av.fmod bv) y] }) :: news) → (∀ q ∈ news, q.1 < r) → Q (.ref r) { s with heap := h', toks := tk' }) :
    wpAny (model Challenge.rw_nb0260_01.row.prog w) (ktrTop dp un gd cn cs L a ccd cl outer) (call (.ref 189) [.int av ta, .int bv tb, .int nv tn]) Q E s := by
  obtain ⟨B, F, X, N, T, hk⟩ := C
  refine wpAny_call ?_
  (k_dflt (refine' code_def2 ?k1 ?k2 ?k3 ?k4 ?k5 ?kA ?kF ?kK ?k6 ?k7 ?k8 ?k9 ?kB ?_ ?c2 ?c3 ?c4 ?c5; (case kA => exact rfl); (case kF => exact rfl); (case kK => assumption); (case k1 => k_asm); (case k2 => k_asm); (case k3 => k_asm); (case k4 => k_asm); (case k5 => k_asm); (case k6 => k_is); (case k7 => k_is); (case k8 => ktr_room); (case k9 => first | exact BindsTo.of_eq rfl | exact binds_K (by k_in) rfl (by k_is) rfl rfl rfl); (case c5 => decide); (case kB => exact locs2 rfl); (case c2 => exact rfl); (case c3 => exact rfl); (case c4 => exact rfl); k_whole; intro g' L' h' FG' F' N' B' X' T' l1; (try dsimp only); (try k_lift B'); (try k_fold)))
  (repeat' ((first | (k_unfold; (try dsimp only)) | walk1 | (dsimp only; walk1) | (leave1; walk_say "STEP leave1"; try dsimp only) | fail "no step")))
  rename_i tk0
  refine' divmod_N (by k_asm) (by k_asm) (by omega) ?_ (Or.inl (PyProof.noPylong_of_log2 hbb))
  have l2 : ∀ q ∈ news, q.1 < h'.objs.size := fun q hq => Heap.lt_size (N' q hq).1
  dsimp only
  generalize h'.objs.size = D at l2 ⊢
  intro h1 F1 N1
  (repeat' ((first | (k_unfold; (try dsimp only)) | walk1 | (dsimp only; walk1) | (leave1; walk_say "STEP leave1"; try dsimp only) | fail "no step")))
  rename_i kF kN kT kX
  exact hret D _ _ _ _ kF kN l2
end Mine
end

section
open PySem PySem.W PyProof.Rows
set_option linter.unusedVariables false
namespace Mine
theorem tabs_i2d {h₀ h : Heap} {L : Addr} {news news' : List (Addr × Obj)} (N : News h₀ L h news) (t : TabsOk news) (x : TabF 198 140 4 ((Str.ofString "_int2digits" ++ ".<locals>.") ++ "inner") news') (k : ∀ q ∈ news, (q.1 ≠ 198 ∨ TabF 198 140 4 ((Str.ofString "_int2digits" ++ ".<locals>.") ++ "inner") news) → q ∈ news') : TabsOk news' ∧ Kp news news' :=
  ⟨⟨t.len.keep N t.i2d (by decide) fun q hq h => k q hq (.inl h), t.str.keep N t.i2d (by decide) fun q hq h => k q hq (.inl h), x.ok, t.d2i.keep N t.i2d (by decide) fun q hq h => k q hq (.inl h)⟩, Kp.ofF N t.i2d k⟩
theorem tabs_d2i {h₀ h : Heap} {L : Addr} {news news' : List (Addr × Obj)} (N : News h₀ L h news) (t : TabsOk news) (x : TabF 205 155 4 ((Str.ofString "_digits2int" ++ ".<locals>.") ++ "inner") news') (k : ∀ q ∈ news, (q.1 ≠ 205 ∨ TabF 205 155 4 ((Str.ofString "_digits2int" ++ ".<locals>.") ++ "inner") news) → q ∈ news') : TabsOk news' ∧ Kp news news' :=
  ⟨⟨t.len.keep N t.d2i (by decide) fun q hq h => k q hq (.inl h), t.str.keep N t.d2i (by decide) fun q hq h => k q hq (.inl h), t.i2d.keep N t.d2i (by decide) fun q hq h => k q hq (.inl h), x.ok⟩, Kp.ofF N t.d2i k⟩
theorem TabsOk.off {h₀ h : Heap} {L x : Addr} {ox : Obj} {news : List (Addr × Obj)} (t : TabsOk news) (N : News h₀ L h news) (hx : (x, ox) ∈ news) (ho : ∀ vs, ox.data ≠ .fields vs) : TabsOk (off x news) := ⟨t.len.off N hx ho, t.str.off N hx ho, t.i2d.off N hx ho, t.d2i.off N hx ho⟩
theorem intBits_pos {b : Int} (h : 0 < b) : 1 ≤ Builtin.Int.intBits b := by
  unfold Builtin.Int.intBits
  rw [if_neg (by simp; omega)]
  omega
/-- what the loop of _divmod_pos holds after i digits -/
structure DivInv (n b : Nat) (ds : List Nat) (i rr : Nat) (qd : List Nat) : Prop where
  hr : rr = d2 n (ds.drop (ds.length - i)) % b
  hq : d2 n qd.reverse = d2 n (ds.drop (ds.length - i)) / b
  hl : qd.length = i
  hx : ∀ x ∈ qd, x < 2 ^ n
theorem DivInv.zero {n b : Nat} {ds : List Nat} : DivInv n b ds 0 0 [] := ⟨by simp [d2], by simp [d2], rfl, by simp⟩
theorem DivInv.step {n b : Nat} {ds : List Nat} {i rr x : Nat} {qd : List Nat} (h : DivInv n b ds i rr qd) (hb : 0 < b) (hi : i < ds.length) (hx : ds[ds.length - 1 - i]? = some x) (hlt : x < 2 ^ n) :
    DivInv n b ds (i + 1) ((rr * 2 ^ n + x) % b) (qd ++ [(rr * 2 ^ n + x) / b]) := by
  have e : ds.drop (ds.length - (i + 1)) = x :: ds.drop (ds.length - i) := by
    have h1 : ds.length - (i + 1) < ds.length := by omega
    rw [List.drop_eq_getElem_cons h1, show ds.length - (i + 1) + 1 = ds.length - i by omega]
    congr 1
    rw [List.getElem?_eq_some_iff] at hx
    obtain ⟨h2, h3⟩ := hx
    rw [← h3]
    congr 1
    omega
  have hr := h.hr
  have key : d2 n (ds.drop (ds.length - (i + 1))) = rr * 2 ^ n + x + b * (2 ^ n * (d2 n (ds.drop (ds.length - i)) / b)) := by
    rw [e]
    show x + 2 ^ n * d2 n (ds.drop (ds.length - i)) = _
    generalize d2 n (ds.drop (ds.length - i)) = D at hr ⊢
    conv => lhs; rw [← Nat.div_add_mod D b]
    rw [hr, Nat.mul_add, Nat.mul_comm (D % b), Nat.mul_left_comm]
    omega
  have hlt2 : (rr * 2 ^ n + x) / b < 2 ^ n := by
    rw [Nat.div_lt_iff_lt_mul hb]
    have : rr < b := by rw [hr]; exact Nat.mod_lt _ hb
    have h2 : (rr + 1) * 2 ^ n ≤ b * 2 ^ n := Nat.mul_le_mul_right _ this
    rw [Nat.succ_mul] at h2
    rw [Nat.mul_comm (2 ^ n) b]
    omega
  refine ⟨?_, ?_, ?_, ?_⟩
  · rw [key, Nat.add_mul_mod_self_left]
  · rw [List.reverse_append, key, Nat.add_mul_div_left _ _ hb]
    show (rr * 2 ^ n + x) / b + 2 ^ n * d2 n qd.reverse = _
    rw [h.hq]
  · rw [List.length_append, h.hl]; rfl
  · intro y hy
    rcases List.mem_append.mp hy with hy | hy
    · exact h.hx y hy
    · rw [List.mem_singleton.mp hy]; exact hlt2
theorem IntsAre.at' {xs : List Value} {ns : List Nat} {i : Nat} {v : Value} (h : IntsAre xs (ns.map (fun x : Nat => (x : Int)))) (hv : xs[i]? = some v) : ∃ x t, ns[i]? = some x ∧ v = .int (x : Int) t := by
  generalize hz : ns.map (fun x : Nat => (x : Int)) = zs at h
  induction h generalizing ns i with
  | nil => simp at hv
  | cons n t h ih =>
    cases ns with
    | nil => simp at hz
    | cons y ns =>
      simp only [List.map_cons, List.cons.injEq] at hz
      cases i with
      | zero => simp only [List.getElem?_cons_zero, Option.some.injEq] at hv; exact ⟨y, _, rfl, by rw [← hv, ← hz.1]⟩
      | succ i => rw [List.getElem?_cons_succ] at hv ⊢; exact ih hv hz.2
theorem off_self {P : Addr} {o : Obj} {rest : List (Addr × Obj)} (h : ∀ q ∈ rest, q.1 ≠ P) : off P ((P, o) :: rest) = rest := by
  unfold off
  rw [List.filter_cons_of_neg (by simp), List.filter_eq_self.mpr (fun q hq => by simpa using h q hq)]
theorem bits_lt {b : Nat} (hb : 0 < b) : b < 2 ^ Builtin.Int.intBits (b : Int) := by
  unfold Builtin.Int.intBits
  rw [if_neg (by simp; omega)]
  exact Nat.lt_log2_self
theorem DivInv.bits {n b : Nat} {ds : List Nat} {i rr : Nat} {qd : List Nat} (h : DivInv n b ds i rr qd) (hb : 0 < b) : rr < b := by rw [h.hr]; exact Nat.mod_lt _ hb
theorem log2_small {b : Nat} (h : Builtin.Int.intBits (b : Int) ≤ 200) (hb : 0 < (b : Int)) : b.log2 < 9000 := by
  unfold Builtin.Int.intBits at h
  rw [if_neg (by simp; omega), Int.natAbs_natCast] at h
  omega
theorem step_lt {n b rr x : Nat} (hr : rr < b) (hb : b < 2 ^ n) (hx : x < 2 ^ n) : rr * 2 ^ n + x < 2 ^ (n + n) := by
  have h2 : (rr + 1) * 2 ^ n ≤ 2 ^ n * 2 ^ n := Nat.mul_le_mul_right _ (by omega)
  rw [Nat.succ_mul] at h2
  rw [Nat.pow_add]
  omega
local macro_rules | `(tactic| walk_at "binaryOp LShift int int") => `(tactic| (with_reducible refine lshift_int (Int.natCast_nonneg _) ?kbs ?_; (case kbs => assumption)))
/-- append to a list of the ledger -/
theorem append_M {prog : Program} {w : World} {A : Around} {s : Shared} {E : Value → Shared → Prop} {h₀ : Heap} {L D : Addr} {m : Str → Option Value} {news : List (Addr × Obj)} {xs : List Value} {n : Nat} {x : Value} {Q : Value → Shared → Prop} (F : Fr h₀ L s.heap m) (N : News h₀ L s.heap news)
    (hm : (D, listOf xs.toArray n) ∈ news) (hsz : xs.length ≤ 1000000) (h : ∀ h', Fr h₀ L h' m → News h₀ L h' ((D, listOf (xs ++ [x]).toArray (n + 1)) :: off D news) → Q .none { s with heap := h' }) :
    wpAny (model prog w) A (call (.builtin "list.append") [.ref D, x]) Q E s := by
  refine append_K F (News.sub N (off_cover hm)) (.head off_ne) (fun h' F' N' => h h' F' ?_) (by rw [List.size_toArray]; exact Nat.le_trans hsz (by decide))
  rw [List.push_toArray] at N'
  exact N'
theorem IntsAre.snoc {xs : List Value} {ns : List Int} {n : Int} {t : Tok} (h : IntsAre xs ns) : IntsAre (xs ++ [.int n t]) (ns ++ [n]) := by
  induction h with
  | nil => exact .cons _ _ .nil
  | cons n t h ih => exact .cons _ _ ih
local macro_rules | `(tactic| walk_at "eval Name") => `(tactic| (k_here; k_dflt (refine' ld ?k1 ?k2 ?_; (case k1 => k_asm); (case k2 => first | exact rfl | assumption); k_whole)))
set_option maxRecDepth 100000 in
set_option maxHeartbeats 8000000 in
theorem c_pos {w : World} {p : Program} {loose : List Str} {mean : ExcName → Option Value} {mg mb : Str → Option Value} {dp un : Nat} {gd : Option (List Code)} {cn : Str} {cs : Scope} {a : Addr} {ccd : Value} {cl : List (Str × Addr)} {outer : List Env} {A₀ : Around} {base h₀ : Heap} {L : Addr} {m : Str → Option Value} {news : List (Addr × Obj)} {s : Shared} {Q E : Value → Shared → Prop}
    {av bv : Int} {ta tb : Tok}
    (C : Cx w p loose mean mg mb cs outer A₀ base h₀ L m news s.heap) (ht : TabsOk news)
    (ha : 0 ≤ av) (hb : 0 < bv) (hb2 : Builtin.Int.intBits bv ≤ 200) (ha2 : Builtin.Int.intBits av ≤ 100 * Builtin.Int.intBits bv)
    (hdp : dp + 112 < recursionLimit) (hun : un + 510 < cLine)
    (hret : ∀ (r : Addr) (x y : Tok) (news' : List (Addr × Obj)) (h' : Heap) (tk' : Tok), Fr h₀ L h' m → News h₀ L h' ((r, { cls := .type "tuple", data := .seq #[.int (av / bv) x, .int (av % bv) y] }) :: news') → (∀ q ∈ news', q.1 ≠ r) → (∀ q ∈ news, q.1 < r) → TabsOk news' → Kp news news' → Q (.ref r) { s with heap := h', toks := tk' }) :
    wpAny (model Challenge.rw_nb0260_01.row.prog w) (ktrTop dp un gd cn cs L a ccd cl outer) (call (.ref 217) [.int av ta, .int bv tb]) Q E s := by
  obtain ⟨B, F, X, N, T, hk⟩ := C
  refine wpAny_call ?_
  (k_dflt (refine' code_def2 ?k1 ?k2 ?k3 ?k4 ?k5 ?kA ?kF ?kK ?k6 ?k7 ?k8 ?k9 ?kB ?_ ?c2 ?c3 ?c4 ?c5; (case kA => exact rfl); (case kF => exact rfl); (case kK => assumption); (case k1 => k_asm); (case k2 => k_asm); (case k3 => k_asm); (case k4 => k_asm); (case k5 => k_asm); (case k6 => k_is); (case k7 => k_is); (case k8 => ktr_room); (case k9 => first | exact BindsTo.of_eq rfl | exact binds_K (by k_in) rfl (by k_is) rfl rfl rfl); (case c5 => decide); (case kB => exact locs2 rfl); (case c2 => exact rfl); (case c3 => exact rfl); (case c4 => exact rfl); k_whole; intro g' L' h' FG' F' N' B' X' T' l1; (try dsimp only); (try k_lift B'); (try k_fold)))
  (repeat' ((fail_if_success (with_reducible show wpAny _ _ (call (Value.builtin "list.append") _) _ _ _)); (fail_if_success (with_reducible show wpAny _ _ (call (Value.ref _) _) _ _ _)); (fail_if_success (with_reducible show wpAny _ _ (exec (Stmt.For _ _ _ _ _) _) _ _ _)); (fail_if_success (with_reducible show wpAny _ _ (pyIter _) _ _ _)); (first | (k_unfold; (try dsimp only)) | walk1 | (dsimp only; walk1) | (leave1; walk_say "STEP leave1"; try dsimp only) | fail "no step")))
  refine' c_i2dF (w := w) (n := Builtin.Int.intBits bv) ⟨by k_asm, by k_asm, by k_asm, by k_asm, by k_asm, rfl⟩ ht.i2d ha ha2 hb2 (intBits_pos hb) (dpl (a := 1) (b := 110) (c := 112) (by decide) hdp) (dpl (a := 3) (b := 500) (c := 510) (by decide) hun) ?hR
  intro r xs kk n1 h1 tk1 F1 N1 hi1 hne1 lr ht1 hk1
  dsimp only
  obtain ⟨ht1, hk1⟩ := tabs_i2d N ht ht1 hk1
  (repeat' ((fail_if_success (with_reducible show wpAny _ _ (call (Value.builtin "list.append") _) _ _ _)); (fail_if_success (with_reducible show wpAny _ _ (call (Value.ref _) _) _ _ _)); (fail_if_success (with_reducible show wpAny _ _ (exec (Stmt.For _ _ _ _ _) _) _ _ _)); (fail_if_success (with_reducible show wpAny _ _ (pyIter _) _ _ _)); (first | (k_unfold; (try dsimp only)) | walk1 | (dsimp only; walk1) | (leave1; walk_say "STEP leave1"; try dsimp only) | fail "no step")))
  refine wpAny_For ?_
  (repeat' ((fail_if_success (with_reducible show wpAny _ _ (call (Value.builtin "list.append") _) _ _ _)); (fail_if_success (with_reducible show wpAny _ _ (call (Value.ref _) _) _ _ _)); (fail_if_success (with_reducible show wpAny _ _ (exec (Stmt.For _ _ _ _ _) _) _ _ _)); (fail_if_success (with_reducible show wpAny _ _ (pyIter _) _ _ _)); (first | (k_unfold; (try dsimp only)) | walk1 | (dsimp only; walk1) | (leave1; walk_say "STEP leave1"; try dsimp only) | fail "no step")))
  rename_i l2 h2 l2a h3 I h4 F4o N4 l4
  obtain ⟨M0, tk0, tr0, F4, e1, e2, e3, e4, e5, e6⟩ : ∃ (M0 : Str → Option Value) (tk0 tr0 : Tok), Fr g' L' h4 M0 ∧ M0 (Str.ofString "n") = some (.int (Builtin.Int.intBits bv) tk0) ∧ M0 (Str.ofString "b") = some (.int bv tb) ∧ M0 (Str.ofString "q_digits") = some (.ref l2) ∧ M0 (Str.ofString "a_digit") = none ∧ M0 (Str.ofString "q_digit") = none ∧ M0 (Str.ofString "r") = some (.int ((0 : Nat) : Int) tr0) := ⟨_, _, _, F4o, rfl, rfl, rfl, rfl, rfl, rfl⟩
  clear F4o
  have q1 : ∀ q ∈ n1, q.1 ≠ l2 := ne_all l2a.2
  have q2 : r < l2 := l2a.1
  have q3 : l2 < I := l4.1
  obtain ⟨bn, rfl⟩ : ∃ bn : Nat, bv = (bn : Int) := ⟨bv.toNat, by omega⟩
  have hi0 : ∀ q ∈ (l2, listOf (#[] : Array Value) 0) :: (r, listOf xs.toArray kk) :: n1, q.1 ≠ I := by
    intro q hq
    rcases List.mem_cons.mp hq with rfl | hq
    · exact Nat.ne_of_lt l4.1
    · rcases List.mem_cons.mp hq with rfl | hq
      · exact Nat.ne_of_lt l4.2.1
      · exact ne_all l4.2.2 q hq
  refine' iter_rev (l := r) (items := xs) (k := kk) (D := I) (fun i m2 news2 gs => ∃ (rr : Nat) (tr : Tok) (ys : List Value) (qd : List Nat) (k2 : Nat) (u1 u2 : Option Value),
      m2 = (fun y => if y = Str.ofString "a_digit" then u1 else if y = Str.ofString "q_digit" then u2 else if y = Str.ofString "r" then some (.int (rr : Int) tr) else M0 y) ∧
      news2 = (l2, listOf ys.toArray k2) :: (r, listOf xs.toArray kk) :: n1 ∧ gs = s.gens ∧ IntsAre ys (qd.map (fun x : Nat => (x : Int))) ∧ DivInv (Builtin.Int.intBits (bn : Int)) bn (i2 (Builtin.Int.intBits (bn : Int)) av.toNat) i rr qd)
    F4 N4 (.head _) (.tail _ (.tail _ (.head _))) ?j0 ?turn ?done
  case j0 =>
    refine ⟨0, tr0, [], [], 0, none, none, ?_, off_self hi0, rfl, .nil, DivInv.zero⟩
    funext y
    by_cases e1 : y = Str.ofString "a_digit"
    · subst e1; exact e4
    by_cases e2 : y = Str.ofString "q_digit"
    · subst e2; exact e5
    by_cases e3 : y = Str.ofString "r"
    · subst e3; exact e6
    rw [if_neg e1, if_neg e2, if_neg e3]
  case turn =>
    rintro i v m1 news1 h5 tk5 gs oI hi hv ⟨rr, tr, ys, qd, k2, u1, u2, rfl, rfl, rfl, hys, hinv⟩ hl hI hc F5 N5
    obtain ⟨x, tx, hx, rfl⟩ := IntsAre.at' hi1 hv
    have hlen : xs.length = (i2 (Builtin.Int.intBits (bn : Int)) av.toNat).length := by rw [IntsAre.length hi1, List.length_map]
    obtain ⟨K, _, hK2, hK3⟩ := i2_count ha ha2 (intBits_pos hb)
    rw [i2_length, ← hK2] at hlen
    have hx2 : x < 2 ^ Builtin.Int.intBits (bn : Int) := i2_lt (List.mem_of_getElem? hx)
    have hrb := hinv.bits (by omega)
    have hb3 := bits_lt (b := bn) (by omega)
    have hst := hinv.step (by omega) (by rw [i2_length, ← hK2, ← hlen]; exact hi) (by rw [i2_length, ← hK2, ← hlen]; exact hx) hx2
    have hs : (Builtin.Int.intBits (rr : Int) : Int) + (Builtin.Int.intBits (bn : Int) : Int) ≤ 2 ^ 27 := by
      have := bits_of_lt (Nat.lt_trans hrb hb3)
      have e : (2 : Int) ^ 27 = 134217728 := by decide
      rw [e]; omega
    have hbl : (Builtin.Int.intBits (((rr * 2 ^ Builtin.Int.intBits (bn : Int) + x : Nat) : Int)) : Int) - (Builtin.Int.intBits (bn : Int) : Int) ≤ 4000 := by
      have := bits_of_lt (step_lt hrb hb3 hx2)
      omega
    (repeat' ((fail_if_success (with_reducible show wpAny _ _ (call (Value.builtin "list.append") _) _ _ _)); (fail_if_success (with_reducible show wpAny _ _ (call (Value.ref _) _) _ _ _)); (fail_if_success (with_reducible show wpAny _ _ (exec (Stmt.For _ _ _ _ _) _) _ _ _)); (fail_if_success (with_reducible show wpAny _ _ (pyIter _) _ _ _)); (first | (k_unfold; (try dsimp only)) | walk1 | (dsimp only; walk1) | (leave1; walk_say "STEP leave1"; try dsimp only) | fail "no step")))
    rw [show (rr : Int) * 2 ^ (Builtin.Int.intBits (bn : Int) : Int).toNat + (x : Int) = ((rr * 2 ^ Builtin.Int.intBits (bn : Int) + x : Nat) : Int) by simp]
    refine' c_div1 (w := w) ⟨by k_asm, by k_asm, by k_asm, by k_asm, by k_asm, rfl⟩ hbl hb (by rw [Int.natAbs_natCast]; exact log2_small hb2 hb) (dpl (a := 1) (b := 2) (c := 112) (by decide) hdp) (dpl (a := 3) (b := 8) (c := 510) (by decide) hun) ?hR2
    intro r6 x6 y6 h6 tk6 F6 N6 l6
    rw [← Int.ofNat_fdiv, ← Int.ofNat_fmod] at N6
    dsimp only
    (repeat' ((fail_if_success (with_reducible show wpAny _ _ (call (Value.builtin "list.append") _) _ _ _)); (fail_if_success (with_reducible show wpAny _ _ (call (Value.ref _) _) _ _ _)); (fail_if_success (with_reducible show wpAny _ _ (exec (Stmt.For _ _ _ _ _) _) _ _ _)); (fail_if_success (with_reducible show wpAny _ _ (pyIter _) _ _ _)); (first | (k_unfold; (try dsimp only)) | walk1 | (dsimp only; walk1) | (leave1; walk_say "STEP leave1"; try dsimp only) | fail "no step")))
    rename_i F7 N7
    refine' append_M (D := l2) (xs := ys) (n := k2) F7 N7 (.tail _ (.tail _ (.head _))) (by rw [IntsAre.length hys, List.length_map, hinv.hl]; omega) ?_
    intro h8 F8 N8
    dsimp only
    (repeat' ((fail_if_success (with_reducible show wpAny _ _ (call (Value.builtin "list.append") _) _ _ _)); (fail_if_success (with_reducible show wpAny _ _ (call (Value.ref _) _) _ _ _)); (fail_if_success (with_reducible show wpAny _ _ (exec (Stmt.For _ _ _ _ _) _) _ _ _)); (fail_if_success (with_reducible show wpAny _ _ (pyIter _) _ _ _)); (first | (k_unfold; (try dsimp only)) | walk1 | (dsimp only; walk1) | (leave1; walk_say "STEP leave1"; try dsimp only) | fail "no step")))
    generalize (rr * 2 ^ Builtin.Int.intBits (bn : Int) + x) / bn = qv at *
    generalize (rr * 2 ^ Builtin.Int.intBits (bn : Int) + x) % bn = rv at *
    refine ⟨_, (l2, listOf (ys ++ [Value.int (qv : Int) x6]).toArray (k2 + 1)) :: (r, listOf xs.toArray kk) :: n1, h8, _, s.gens, rfl, F8, News.sub N8 ?_, fun q hq => ?_, ?_, rv, y6, ys ++ [Value.int (qv : Int) x6], qd ++ [qv], k2 + 1, some (.int (x : Int) tx), some (.int (qv : Int) x6), ?_, rfl, rfl, ?_, hst⟩
    · intro q hq
      rcases List.mem_cons.mp hq with rfl | hq
      · exact .tail _ (mem_off.mpr ⟨.tail _ (.head _), fun e => hI _ (.head _) e.symm⟩)
      · rcases List.mem_cons.mp hq with rfl | hq
        · exact .head _
        · refine .tail _ (mem_off.mpr ⟨.tail _ (.tail _ (.tail _ hq)), ?_⟩)
          rcases List.mem_cons.mp hq with rfl | hq
          · exact Nat.ne_of_lt q2
          · exact q1 q hq
    · rw [List.mem_singleton.mp hq]; exact .tail _ (.head _)
    · intro q hq
      rcases List.mem_cons.mp hq with rfl | hq
      · exact hI (l2, listOf ys.toArray k2) (.head _)
      · exact hI q (.tail _ hq)
    · funext y
      by_cases e1 : y = Str.ofString "r"
      · subst e1; rfl
      by_cases e2 : y = Str.ofString "q_digit"
      · subst e2; rfl
      by_cases e3 : y = Str.ofString "a_digit"
      · subst e3; rfl
      simp only [if_neg e1, if_neg e2, if_neg e3]
    · rw [List.map_append]; exact IntsAre.snoc hys
  case done =>
    rintro m1 news1 h5 tk5 gs ⟨rr, tr, ys, qd, k2, u1, u2, rfl, rfl, rfl, hys, hinv⟩ hl F5 N5
    obtain ⟨K, _, hK2, hK3⟩ := i2_count ha ha2 (intBits_pos hb)
    have hlen : xs.length = K := by rw [IntsAre.length hi1, List.length_map, i2_length, ← hK2]
    have hyl : ys.length = K := by rw [IntsAre.length hys, List.length_map, hinv.hl, hlen]
    (repeat' ((fail_if_success (with_reducible show wpAny _ _ (call (Value.builtin "list.append") _) _ _ _)); (fail_if_success (with_reducible show wpAny _ _ (call (Value.ref _) _) _ _ _)); (fail_if_success (with_reducible show wpAny _ _ (exec (Stmt.For _ _ _ _ _) _) _ _ _)); (fail_if_success (with_reducible show wpAny _ _ (pyIter _) _ _ _)); (first | (k_unfold; (try dsimp only)) | walk1 | (dsimp only; walk1) | (leave1; walk_say "STEP leave1"; try dsimp only) | fail "no step")))
    dsimp only
    refine' kl_reverse F5 N5 rfl (.head ?hq1) ?hq2 ?_
    case hq1 =>
      intro q hq
      rcases List.mem_cons.mp hq with rfl | hq
      · exact Nat.ne_of_lt q2
      · exact q1 q hq
    case hq2 =>
      rw [hyl]; exact Nat.le_trans hK3 (by decide)
    intro h6 F6 N6
    (repeat' ((fail_if_success (with_reducible show wpAny _ _ (call (Value.builtin "list.append") _) _ _ _)); (fail_if_success (with_reducible show wpAny _ _ (call (Value.ref _) _) _ _ _)); (fail_if_success (with_reducible show wpAny _ _ (exec (Stmt.For _ _ _ _ _) _) _ _ _)); (fail_if_success (with_reducible show wpAny _ _ (pyIter _) _ _ _)); (first | (k_unfold; (try dsimp only)) | walk1 | (dsimp only; walk1) | (leave1; walk_say "STEP leave1"; try dsimp only) | fail "no step")))
    refine' c_d2iF (w := w) (xs := ys.reverse) (ns := qd.reverse) ⟨by k_asm, by k_asm, by k_asm, by k_asm, by k_asm, rfl⟩ (ht1.d2i.mono fun q hq => .tail _ (.tail _ hq)) (.head _) (PyProof.Rows.IntsAre.reverse hys) (List.map_reverse ..).symm ?hl hb2 (fun x hx => hinv.hx x (List.mem_reverse.mp hx)) (dpl (a := 1) (b := 110) (c := 112) (by decide) hdp) (dpl (a := 3) (b := 500) (c := 510) (by decide) hun) ?hR3
    case hl => rw [List.length_reverse, hinv.hl, hlen]; exact hK3
    intro tq n2 h7 tk7 F7 N7 ht7 hk7
    obtain ⟨ht7, hk7⟩ := tabs_d2i N6 (ht1.mono fun q hq => .tail _ (.tail _ hq)) ht7 hk7
    have hd := hinv.hq
    have hr := hinv.hr
    rw [show (i2 (Builtin.Int.intBits (bn : Int)) av.toNat).length = xs.length by rw [hlen, i2_length, ← hK2], Nat.sub_self, List.drop_zero, d2_i2 (intBits_pos hb)] at hd hr
    obtain ⟨an, rfl⟩ : ∃ an : Nat, av = (an : Int) := ⟨av.toNat, by omega⟩
    rw [Int.toNat_natCast] at hd hr
    have hnl : ∀ q ∈ news, q.1 < l2 := fun q hq => Nat.lt_trans (lr q hq) q2
    (repeat' ((fail_if_success (with_reducible show wpAny _ _ (call (Value.builtin "list.append") _) _ _ _)); (fail_if_success (with_reducible show wpAny _ _ (call (Value.ref _) _) _ _ _)); (fail_if_success (with_reducible show wpAny _ _ (exec (Stmt.For _ _ _ _ _) _) _ _ _)); (fail_if_success (with_reducible show wpAny _ _ (pyIter _) _ _ _)); (first | (k_unfold; (try dsimp only)) | walk1 | (dsimp only; walk1) | (leave1; walk_say "STEP leave1"; try dsimp only) | fail "no step")))
    rename_i D9 h9 F9 N9 l9 kF kN kT kX
    rw [hd, hr, Int.natCast_ediv, Int.natCast_emod] at kN
    exact hret D9 _ _ _ _ _ kF kN (fun q hq => Nat.ne_of_lt (l9 q hq)) (fun q hq => Nat.lt_trans (hnl q hq) (l9 (l2, listOf ys.reverse.toArray k2) (hk7 _ (.head _) (notT (by simp))))) ht7 (fun q hq hn => hk7 q (.tail _ (.tail _ (hk1 q hq hn))) hn)
end Mine
end

section
open PySem PySem.W PyProof.Rows
set_option linter.unusedVariables false
namespace Mine
set_option maxRecDepth 100000 in
set_option maxHeartbeats 8000000 in
theorem c_idm {w : World} {p : Program} {loose : List Str} {mean : ExcName → Option Value} {mg mb : Str → Option Value} {dp un : Nat} {gd : Option (List Code)} {cn : Str} {cs : Scope} {a : Addr} {ccd : Value} {cl : List (Str × Addr)} {outer : List Env} {A₀ : Around} {base h₀ : Heap} {L : Addr} {m : Str → Option Value} {news : List (Addr × Obj)} {s : Shared} {Q E : Value → Shared → Prop}
    {av bv : Int} {ta tb : Tok}
    (C : Cx w p loose mean mg mb cs outer A₀ base h₀ L m news s.heap) (ht : TabsOk news)
    (ha : 0 ≤ av) (hb : 0 < bv) (hb2 : Builtin.Int.intBits bv ≤ 200) (ha2 : Builtin.Int.intBits av ≤ 100 * Builtin.Int.intBits bv)
    (hdp : dp + 114 < recursionLimit) (hun : un + 520 < cLine)
    (hret : ∀ (r : Addr) (x y : Tok) (news' : List (Addr × Obj)) (h' : Heap) (tk' : Tok), Fr h₀ L h' m → News h₀ L h' ((r, { cls := .type "tuple", data := .seq #[.int (av / bv) x, .int (av % bv) y] }) :: news') → (∀ q ∈ news', q.1 ≠ r) → (∀ q ∈ news, q.1 < r) → TabsOk news' → Kp news news' → Q (.ref r) { s with heap := h', toks := tk' }) :
    wpAny (model Challenge.rw_nb0260_01.row.prog w) (ktrTop dp un gd cn cs L a ccd cl outer) (call (.ref 224) [.int av ta, .int bv tb]) Q E s := by
  obtain ⟨B, F, X, N, T, hk⟩ := C
  have hb0 : bv ≠ 0 := by omega
  have hb1 : ¬ bv < 0 := by omega
  have ha1 : ¬ av < 0 := by omega
  refine wpAny_call ?_
  (k_dflt (refine' code_def2 ?k1 ?k2 ?k3 ?k4 ?k5 ?kA ?kF ?kK ?k6 ?k7 ?k8 ?k9 ?kB ?_ ?c2 ?c3 ?c4 ?c5; (case kA => exact rfl); (case kF => exact rfl); (case kK => assumption); (case k1 => k_asm); (case k2 => k_asm); (case k3 => k_asm); (case k4 => k_asm); (case k5 => k_asm); (case k6 => k_is); (case k7 => k_is); (case k8 => ktr_room); (case k9 => first | exact BindsTo.of_eq rfl | exact binds_K (by k_in) rfl (by k_is) rfl rfl rfl); (case c5 => decide); (case kB => exact locs2 rfl); (case c2 => exact rfl); (case c3 => exact rfl); (case c4 => exact rfl); k_whole; intro g' L' h' FG' F' N' B' X' T' l1; (try dsimp only); (try k_lift B'); (try k_fold)))
  (repeat' ((fail_if_success (with_reducible show wpAny _ _ (call (Value.ref _) _) _ _ _)); first | (with_reducible contradiction) | (first | (k_unfold; (try dsimp only)) | walk1 | (dsimp only; walk1) | (leave1; walk_say "STEP leave1"; try dsimp only) | fail "no step")))
  refine' c_pos (w := w) ⟨by k_asm, by k_asm, by k_asm, by k_asm, by k_asm, rfl⟩ ht ha hb hb2 ha2 (dpl (a := 1) (b := 112) (c := 114) (by decide) hdp) (dpl (a := 3) (b := 510) (c := 520) (by decide) hun) ?hR3
  intro r x y n1 h1 tk1 F1 N1 e1 e2 e3 e4
  (repeat' ((fail_if_success (with_reducible show wpAny _ _ (call (Value.ref _) _) _ _ _)); first | (with_reducible contradiction) | (first | (k_unfold; (try dsimp only)) | walk1 | (dsimp only; walk1) | (leave1; walk_say "STEP leave1"; try dsimp only) | fail "no step")))
  rename_i kF kN kT kX
  exact hret r x y n1 _ _ kF kN e1 e2 e3 e4
end Mine
end

section
open PySem PySem.W PyProof.Rows
set_option linter.unusedVariables false
namespace Mine
theorem q_int {Q : Value → Shared → Prop} {x : Int} {t : Tok} {s' : Shared} (P : Nat → Prop) (h : ∀ v : Nat, P v → Q (.int (v : Int) t) s') (h0 : 0 ≤ x) (hp : P x.toNat) : Q (.int x t) s' := by
  have := h x.toNat hp
  rwa [Int.toNat_of_nonneg h0] at this
theorem fm_is (y : Int) {k : Int} (hk : 0 < k) : ∃ z : Int, y.fmod k = z ∧ 0 ≤ z ∧ z < k := ⟨_, rfl, Int.fmod_nonneg_of_pos y hk, Int.fmod_lt_of_pos y hk⟩
set_option maxRecDepth 100000 in
set_option maxHeartbeats 8000000 in
theorem c_width {w : World} {p : Program} {loose : List Str} {mean : ExcName → Option Value} {mg mb : Str → Option Value} {dp un : Nat} {gd : Option (List Code)} {cn : Str} {cs : Scope} {a : Addr} {ccd : Value} {cl : List (Str × Addr)} {outer : List Env} {A₀ : Around} {base h₀ : Heap} {L : Addr} {m : Str → Option Value} {news : List (Addr × Obj)} {s : Shared} {Q E : Value → Shared → Prop}
    {l : Addr} {vs : List Value} {ns : List Int}
    (C : Cx w p loose mean mg mb cs outer A₀ base h₀ L m news s.heap)
    (hl : base.IsList l vs.toArray) (hi : IntsAre vs ns) (hfit : ns.length ≤ 63) (hdp : dp + 2 < recursionLimit) (hun : un + 10 < cLine)
    (hret : ∀ (v : Nat) t h' tk', 3 ≤ v ∧ v ≤ 8 → Fr h₀ L h' m → News h₀ L h' news → Q (.int (v : Int) t) { s with heap := h', toks := tk' }) :
    wpAny (model Challenge.rw_nb0260_01.row.prog w) (ktrTop dp un gd cn cs L a ccd cl outer) (call (.ref 236) [.ref l]) Q E s := by
  obtain ⟨B, F, X, N, T, hk⟩ := C
  refine wpAny_call ?_
  (k_dflt (refine' code_def2 ?k1 ?k2 ?k3 ?k4 ?k5 ?kA ?kF ?kK ?k6 ?k7 ?k8 ?k9 ?kB ?_ ?c2 ?c3 ?c4 ?c5; (case kA => exact rfl); (case kF => exact rfl); (case kK => assumption); (case k1 => k_asm); (case k2 => k_asm); (case k3 => k_asm); (case k4 => k_asm); (case k5 => k_asm); (case k6 => k_is); (case k7 => k_is); (case k8 => ktr_room); (case k9 => first | exact BindsTo.of_eq rfl | exact binds_K (by k_in) rfl (by k_is) rfl rfl rfl); (case c5 => decide); (case kB => exact locs2 rfl); (case c2 => exact rfl); (case c3 => exact rfl); (case c4 => exact rfl); k_whole; intro g' L' h' FG' F' N' B' X' T' l1; (try dsimp only); (try k_lift B'); (try k_fold)))
  (repeat' ((first | (k_unfold; (try dsimp only)) | walk1 | (dsimp only; walk1) | (leave1; walk_say "STEP leave1"; try dsimp only) | fail "no step")))
  · rename_i kF kN kT kX
    generalize (if (_ : Int) < _ then (_ : Int) else _) = y
    obtain ⟨z, hz, h0, h1⟩ := fm_is y (k := 6) (by decide)
    rw [hz]
    exact q_int _ (fun v hv => hret v _ _ _ hv kF kN) (by omega) (by omega)
  · rename_i kF kN kT kX
    exact q_int _ (fun v hv => hret v _ _ _ hv kF kN) (by omega) (by omega)
set_option maxRecDepth 100000 in
set_option maxHeartbeats 8000000 in
theorem c_wide {w : World} {p : Program} {loose : List Str} {mean : ExcName → Option Value} {mg mb : Str → Option Value} {dp un : Nat} {gd : Option (List Code)} {cn : Str} {cs : Scope} {a : Addr} {ccd : Value} {cl : List (Str × Addr)} {outer : List Env} {A₀ : Around} {base h₀ : Heap} {L : Addr} {m : Str → Option Value} {news : List (Addr × Obj)} {s : Shared} {Q E : Value → Shared → Prop}
    {l : Addr} {vs : List Value} {ns : List Int}
    (C : Cx w p loose mean mg mb cs outer A₀ base h₀ L m news s.heap)
    (hl : base.IsList l vs.toArray) (hi : IntsAre vs ns) (hfit : ns.length ≤ 63) (hdp : dp + 2 < recursionLimit) (hun : un + 10 < cLine)
    (hret : ∀ (v : Nat) t h' tk', 2 ≤ v ∧ v ≤ 10 → Fr h₀ L h' m → News h₀ L h' news → Q (.int (v : Int) t) { s with heap := h', toks := tk' }) :
    wpAny (model Challenge.rw_nb0260_01.row.prog w) (ktrTop dp un gd cn cs L a ccd cl outer) (call (.ref 243) [.ref l]) Q E s := by
  obtain ⟨B, F, X, N, T, hk⟩ := C
  refine wpAny_call ?_
  (k_dflt (refine' code_def2 ?k1 ?k2 ?k3 ?k4 ?k5 ?kA ?kF ?kK ?k6 ?k7 ?k8 ?k9 ?kB ?_ ?c2 ?c3 ?c4 ?c5; (case kA => exact rfl); (case kF => exact rfl); (case kK => assumption); (case k1 => k_asm); (case k2 => k_asm); (case k3 => k_asm); (case k4 => k_asm); (case k5 => k_asm); (case k6 => k_is); (case k7 => k_is); (case k8 => ktr_room); (case k9 => first | exact BindsTo.of_eq rfl | exact binds_K (by k_in) rfl (by k_is) rfl rfl rfl); (case c5 => decide); (case kB => exact locs2 rfl); (case c2 => exact rfl); (case c3 => exact rfl); (case c4 => exact rfl); k_whole; intro g' L' h' FG' F' N' B' X' T' l1; (try dsimp only); (try k_lift B'); (try k_fold)))
  (repeat' ((first | (k_unfold; (try dsimp only)) | walk1 | (dsimp only; walk1) | (leave1; walk_say "STEP leave1"; try dsimp only) | fail "no step")))
  · rename_i kF kN kT kX
    generalize (if (_ : Int) < _ then (_ : Int) else _) = y
    obtain ⟨z, hz, h0, h1⟩ := fm_is y (k := 9) (by decide)
    rw [hz]
    exact q_int _ (fun v hv => hret v _ _ _ hv kF kN) (by omega) (by omega)
  · rename_i kF kN kT kX
    exact q_int _ (fun v hv => hret v _ _ _ hv kF kN) (by omega) (by omega)
set_option maxRecDepth 100000 in
set_option maxHeartbeats 8000000 in
theorem c_head {w : World} {p : Program} {loose : List Str} {mean : ExcName → Option Value} {mg mb : Str → Option Value} {dp un : Nat} {gd : Option (List Code)} {cn : Str} {cs : Scope} {a : Addr} {ccd : Value} {cl : List (Str × Addr)} {outer : List Env} {A₀ : Around} {base h₀ : Heap} {L : Addr} {m : Str → Option Value} {news : List (Addr × Obj)} {s : Shared} {Q E : Value → Shared → Prop}
    {l : Addr} {vs : List Value} {ns : List Int}
    (C : Cx w p loose mean mg mb cs outer A₀ base h₀ L m news s.heap)
    (hl : base.IsList l vs.toArray) (hi : IntsAre vs ns) (hfit : ns.length ≤ 63) (hdp : dp + 2 < recursionLimit) (hun : un + 10 < cLine)
    (hret : ∀ (v : Nat) t h' tk', v ≤ 8 → Fr h₀ L h' m → News h₀ L h' news → Q (.int (v : Int) t) { s with heap := h', toks := tk' }) :
    wpAny (model Challenge.rw_nb0260_01.row.prog w) (ktrTop dp un gd cn cs L a ccd cl outer) (call (.ref 250) [.ref l]) Q E s := by
  obtain ⟨B, F, X, N, T, hk⟩ := C
  refine wpAny_call ?_
  (k_dflt (refine' code_def2 ?k1 ?k2 ?k3 ?k4 ?k5 ?kA ?kF ?kK ?k6 ?k7 ?k8 ?k9 ?kB ?_ ?c2 ?c3 ?c4 ?c5; (case kA => exact rfl); (case kF => exact rfl); (case kK => assumption); (case k1 => k_asm); (case k2 => k_asm); (case k3 => k_asm); (case k4 => k_asm); (case k5 => k_asm); (case k6 => k_is); (case k7 => k_is); (case k8 => ktr_room); (case k9 => first | exact BindsTo.of_eq rfl | exact binds_K (by k_in) rfl (by k_is) rfl rfl rfl); (case c5 => decide); (case kB => exact locs2 rfl); (case c2 => exact rfl); (case c3 => exact rfl); (case c4 => exact rfl); k_whole; intro g' L' h' FG' F' N' B' X' T' l1; (try dsimp only); (try k_lift B'); (try k_fold)))
  (repeat' ((first | (k_unfold; (try dsimp only)) | walk1 | (dsimp only; walk1) | (leave1; walk_say "STEP leave1"; try dsimp only) | fail "no step")))
  · rename_i kF kN kT kX
    generalize (if (_ : Int) < _ then (_ : Int) else _) = y
    obtain ⟨z, hz, h0, h1⟩ := fm_is y (k := 9) (by decide)
    rw [hz]
    exact q_int _ (fun v hv => hret v _ _ _ hv kF kN) (by omega) (by omega)
  · rename_i kF kN kT kX
    exact q_int _ (fun v hv => hret v _ _ _ hv kF kN) (by omega) (by omega)
set_option maxRecDepth 100000 in
set_option maxHeartbeats 8000000 in
theorem c_dvs {w : World} {p : Program} {loose : List Str} {mean : ExcName → Option Value} {mg mb : Str → Option Value} {dp un : Nat} {gd : Option (List Code)} {cn : Str} {cs : Scope} {a : Addr} {ccd : Value} {cl : List (Str × Addr)} {outer : List Env} {A₀ : Around} {base h₀ : Heap} {L : Addr} {m : Str → Option Value} {news : List (Addr × Obj)} {s : Shared} {Q E : Value → Shared → Prop}
    {l : Addr} {vs : List Value} {ns : List Int}
    (C : Cx w p loose mean mg mb cs outer A₀ base h₀ L m news s.heap)
    (hl : base.IsList l vs.toArray) (hi : IntsAre vs ns) (hfit : ns.length ≤ 63) (hdp : dp + 2 < recursionLimit) (hun : un + 10 < cLine)
    (hret : ∀ (v : Nat) t h' tk', 257 ≤ v ∧ v ≤ 1000000256 → Fr h₀ L h' m → News h₀ L h' news → Q (.int (v : Int) t) { s with heap := h', toks := tk' }) :
    wpAny (model Challenge.rw_nb0260_01.row.prog w) (ktrTop dp un gd cn cs L a ccd cl outer) (call (.ref 257) [.ref l]) Q E s := by
  obtain ⟨B, F, X, N, T, hk⟩ := C
  refine wpAny_call ?_
  (k_dflt (refine' code_def2 ?k1 ?k2 ?k3 ?k4 ?k5 ?kA ?kF ?kK ?k6 ?k7 ?k8 ?k9 ?kB ?_ ?c2 ?c3 ?c4 ?c5; (case kA => exact rfl); (case kF => exact rfl); (case kK => assumption); (case k1 => k_asm); (case k2 => k_asm); (case k3 => k_asm); (case k4 => k_asm); (case k5 => k_asm); (case k6 => k_is); (case k7 => k_is); (case k8 => ktr_room); (case k9 => first | exact BindsTo.of_eq rfl | exact binds_K (by k_in) rfl (by k_is) rfl rfl rfl); (case c5 => decide); (case kB => exact locs2 rfl); (case c2 => exact rfl); (case c3 => exact rfl); (case c4 => exact rfl); k_whole; intro g' L' h' FG' F' N' B' X' T' l1; (try dsimp only); (try k_lift B'); (try k_fold)))
  (repeat' ((first | (k_unfold; (try dsimp only)) | walk1 | (dsimp only; walk1) | (leave1; walk_say "STEP leave1"; try dsimp only) | fail "no step")))
  · rename_i kF kN kT kX
    generalize (if (_ : Int) < _ then (_ : Int) else _) = y
    have e9 : (10 : Int) ^ Int.toNat 9 = 1000000000 := by decide
    rw [e9]
    obtain ⟨z, hz, h0, h1⟩ := fm_is y (k := 1000000000) (by decide)
    rw [hz]
    exact q_int _ (fun v hv => hret v _ _ _ hv kF kN) (by omega) (by omega)
  · rename_i kF kN kT kX
    exact q_int _ (fun v hv => hret v _ _ _ hv kF kN) (by omega) (by omega)
end Mine
end

section
open PySem PySem.W PyProof.Rows
set_option linter.unusedVariables false
namespace Mine
theorem tabs_at {g h : Heap} {L : Addr} {news news' : List (Addr × Obj)} (_N : News g L h news') (ht : TabsOk news) (k : ∀ q ∈ news, q ∈ news') : TabsOk news' := ht.mono k
/-- a list made by the call, put into the ledger -/
theorem news_of {g h : Heap} {L D : Addr} {m : Str → Option Value} {items : Array Value} {news : List (Addr × Obj)} (F : Fr g L h m) (N : News g L h news) (h0 : g.get? D = none) (hl : h.IsList D items) : ∃ od kk osl, News g L h ((D, lstO od items kk osl) :: news) := by
  obtain ⟨⟨c, d, dt, sl⟩, e, hc, k, hd⟩ := hl
  cases hc
  cases hd
  refine ⟨d, k, sl, fun q hq => ?_⟩
  rcases List.mem_cons.mp hq with rfl | hq
  · refine ⟨e, ?_, h0⟩
    rintro rfl
    obtain ⟨o, es, ep, e1, e2, _⟩ := F.ns
    rw [e] at e1; cases e1; cases e2
  · exact N q hq
theorem num_end {ys : List Value} {Z : List Int} (hc : CarriedAll ys (List.map (fun a => PyData.int (a.fmod 256)) (List.filter (fun a => true) Z))) : ∃ bs : List Nat, IntsAre ys (bs.map (fun x : Nat => (x : Int))) ∧ bs.length = Z.length ∧ ∀ x ∈ bs, x < 2 ^ 8 := by
  have h := CarriedAll.intsOf hc
  rw [List.filter_eq_self.mpr (fun _ _ => rfl)] at h
  refine ⟨Z.map fun a => (a.fmod 256).toNat, ?_, by simp, ?_⟩
  · rw [List.map_map]
    have : (Z.map fun a => a.fmod 256) = Z.map ((fun x : Nat => (x : Int)) ∘ fun a => (a.fmod 256).toNat) := List.map_congr_left fun a _ => (Int.toNat_of_nonneg (Int.fmod_nonneg_of_pos a (by decide))).symm
    rw [← this]; exact h
  · intro x hx
    obtain ⟨a, _, rfl⟩ := List.mem_map.mp hx
    have h1 := Int.fmod_nonneg_of_pos a (b := 256) (by decide)
    have h2 := Int.fmod_lt_of_pos a (b := 256) (by decide)
    omega
theorem num_le {bs : List Nat} (hl : bs.length ≤ 11) (hx : ∀ x ∈ bs, x < 2 ^ 8) : 1 + d2 8 bs ≤ 2 ^ 88 := by
  have := d2_lt hx
  have h2 : 2 ^ (8 * bs.length) ≤ 2 ^ 88 := Nat.pow_le_pow_right (by decide) (by omega)
  omega
set_option maxRecDepth 100000 in
set_option maxHeartbeats 8000000 in
theorem c_num {w : World} {p : Program} {loose : List Str} {mean : ExcName → Option Value} {mg mb : Str → Option Value} {dp un : Nat} {gd : Option (List Code)} {cn : Str} {cs : Scope} {a : Addr} {ccd : Value} {cl : List (Str × Addr)} {outer : List Env} {A₀ : Around} {base h₀ : Heap} {L : Addr} {m : Str → Option Value} {news : List (Addr × Obj)} {s : Shared} {Q E : Value → Shared → Prop}
    {l : Addr} {vs : List Value} {ns : List Int}
    (C : Cx w p loose mean mg mb cs outer A₀ base h₀ L m news s.heap) (ht : TabsOk news)
    (hl : base.IsList l vs.toArray) (hi : IntsAre vs ns) (hfit : ns.length ≤ 63) (hdp : dp + 114 < recursionLimit) (hun : un + 520 < cLine)
    (hret : ∀ (v : Nat) t news' h' tk', 1 ≤ v → v ≤ 2 ^ 88 → Fr h₀ L h' m → News h₀ L h' news' → TabsOk news' → TabF 205 155 4 ((Str.ofString "_digits2int" ++ ".<locals>.") ++ "inner") news' → Kp news news' → Q (.int (v : Int) t) { s with heap := h', toks := tk' }) :
    wpAny (model Challenge.rw_nb0260_01.row.prog w) (ktrTop dp un gd cn cs L a ccd cl outer) (call (.ref 229) [.ref l]) Q E s := by
  obtain ⟨B, F, X, N, T, hk⟩ := C
  refine wpAny_call ?_
  (k_dflt (refine' code_def2 ?k1 ?k2 ?k3 ?k4 ?k5 ?kA ?kF ?kK ?k6 ?k7 ?k8 ?k9 ?kB ?_ ?c2 ?c3 ?c4 ?c5; (case kA => exact rfl); (case kF => exact rfl); (case kK => assumption); (case k1 => k_asm); (case k2 => k_asm); (case k3 => k_asm); (case k4 => k_asm); (case k5 => k_asm); (case k6 => k_is); (case k7 => k_is); (case k8 => ktr_room); (case k9 => first | exact BindsTo.of_eq rfl | exact binds_K (by k_in) rfl (by k_is) rfl rfl rfl); (case c5 => decide); (case kB => exact locs2 rfl); (case c2 => exact rfl); (case c3 => exact rfl); (case c4 => exact rfl); k_whole; intro g' L' h' FG' F' N' B' X' T' l1; (try dsimp only); (try k_lift B'); (try k_fold)))
  (repeat' ((fail_if_success (with_reducible show wpAny _ _ (call (Value.ref _) _) _ _ _)); (first | (k_unfold; (try dsimp only)) | walk1 | (dsimp only; walk1) | (leave1; walk_say "STEP leave1"; try dsimp only) | fail "no step")))
  · rename_i D ys h9 tk9 F9 N9 hg hl9 hc
    obtain ⟨bs, hb1, hb2, hb3⟩ := num_end hc
    have hlen : bs.length ≤ 11 := by
      rw [hb2]
      rw [List.length_append]
      simp only [List.length_cons, List.length_nil]
      omega
    obtain ⟨od, kk, osl, N10⟩ := news_of F9 N9 hg hl9
    have ht10 := tabs_at N10 ht fun q hq => .tail _ (.tail _ (.tail _ (.tail _ hq)))
    refine' c_d2iF (w := w) (n := 8) ⟨by k_asm, by k_asm, by k_asm, N10, by k_asm, rfl⟩ ht10.d2i (.head _) hb1 rfl (Nat.le_trans hlen (by decide)) (by decide) hb3 (dpl (a := 1) (b := 110) (c := 114) (by decide) hdp) (dpl (a := 3) (b := 500) (c := 520) (by decide) hun) ?hR3
    intro tq n2 h7 tk7 F7 N7 ht7 hk7
    have ht7F := ht7
    obtain ⟨ht7, hk7⟩ := tabs_d2i N10 ht10 ht7 hk7
    (repeat' ((fail_if_success (with_reducible show wpAny _ _ (call (Value.ref _) _) _ _ _)); (first | (k_unfold; (try dsimp only)) | walk1 | (dsimp only; walk1) | (leave1; walk_say "STEP leave1"; try dsimp only) | fail "no step")))
    rename_i kF kN kT kX
    rw [show (1 : Int) + ((d2 8 bs : Nat) : Int) = ((1 + d2 8 bs : Nat) : Int) by omega]
    exact hret _ _ _ _ _ (Nat.le_add_right _ _) (num_le hlen hb3) kF kN ht7 ht7F (fun q hq hn => hk7 q (.tail _ (.tail _ (.tail _ (.tail _ hq)))) hn)
  · rename_i D ys h9 tk9 F9 N9 hg hl9 hc
    obtain ⟨bs, hb1, hb2, hb3⟩ := num_end hc
    have hlen : bs.length ≤ 11 := by
      rw [hb2]
      exact Nat.le_trans (List.length_take_le _ _) (Nat.le_trans (Nat.sub_le_sub_right (Nat.min_le_left _ _) _) (by decide))
    obtain ⟨od, kk, osl, N10⟩ := news_of F9 N9 hg hl9
    have ht10 := tabs_at N10 ht fun q hq => .tail _ (.tail _ hq)
    refine' c_d2iF (w := w) (n := 8) ⟨by k_asm, by k_asm, by k_asm, N10, by k_asm, rfl⟩ ht10.d2i (.head _) hb1 rfl (Nat.le_trans hlen (by decide)) (by decide) hb3 (dpl (a := 1) (b := 110) (c := 114) (by decide) hdp) (dpl (a := 3) (b := 500) (c := 520) (by decide) hun) ?hR4
    intro tq n2 h7 tk7 F7 N7 ht7 hk7
    have ht7F := ht7
    obtain ⟨ht7, hk7⟩ := tabs_d2i N10 ht10 ht7 hk7
    (repeat' ((fail_if_success (with_reducible show wpAny _ _ (call (Value.ref _) _) _ _ _)); (first | (k_unfold; (try dsimp only)) | walk1 | (dsimp only; walk1) | (leave1; walk_say "STEP leave1"; try dsimp only) | fail "no step")))
    rename_i kF kN kT kX
    rw [show (1 : Int) + ((d2 8 bs : Nat) : Int) = ((1 + d2 8 bs : Nat) : Int) by omega]
    exact hret _ _ _ _ _ (Nat.le_add_right _ _) (num_le hlen hb3) kF kN ht7 ht7F (fun q hq hn => hk7 q (.tail _ (.tail _ hq)) hn)
end Mine
end

section
open PySem PySem.W PyProof.Rows
set_option linter.unusedVariables false
namespace Mine
/-- a turn's end -/
def CmpTurn (h₀ : Heap) (L : Addr) (m : Str → Option Value) (s : Shared) (I C D : Addr) (oI oC oD : Obj) (S : List (Addr × Obj) → Prop) (J : Value → List (Addr × Obj) → Prop) (y : Value) (s₂ : Shared) : Prop :=
  ∃ h' tk' news', s₂ = { s with heap := h', toks := tk' } ∧ Fr h₀ L h' m ∧ News h₀ L h' ((I, oI) :: (C, oC) :: (D, oD) :: news') ∧ (∀ q ∈ news', q.1 ≠ I ∧ q.1 ≠ C ∧ q.1 ≠ D) ∧ S news' ∧ J y news'
open LCg in
/-- the turns of a comprehension, by an invariant -/
theorem comp_rest {prog : Program} {w : World} {A : Around} {h₀ : Heap} {L : Addr} {m : Str → Option Value} {env : Env} {elt : PySem.Expr} {x : Str} {scope : Scope} {cl : List (Str × Addr)} {s : Shared} {S : List (Addr × Obj) → Prop} {P : Nat → Value → Prop} {Fin : List Value → List (Addr × Obj) → Prop} {n : Nat}
    (J : Nat → List Value → List (Addr × Obj) → Prop)
    (turn : ∀ i v ys news I oI C oC D m₂ h tk, i < n → P i v → J i ys news → NsObj oC m₂ → m₂ x = some v → Fr h₀ L h m → News h₀ L h ((I, oI) :: (C, oC) :: (D, lst ys) :: news) → (∀ q ∈ news, q.1 ≠ I ∧ q.1 ≠ C ∧ q.1 ≠ D) → I ≠ C → I ≠ D → C ≠ D →
      wpAny (model prog w) A (eval elt (compEnvC scope cl C env)) (CmpTurn h₀ L m s I C D oI oC (lst ys) S fun y news' => J (i + 1) (ys ++ [y]) news') (fun _ _ => False) { s with heap := h, toks := tk })
    (done : ∀ ys news, J n ys news → Fin ys news) : ∀ k i ys news, i + k = n → J i ys news → CompRest prog w A h₀ L m env elt x scope cl s S P Fin k i ys news := by
  intro k
  induction k with
  | zero => intro i ys news hi hJ; rw [Nat.add_zero] at hi; subst hi; exact done ys news hJ
  | succ k ih =>
    intro i ys news hi hJ
    refine CompRest.succ fun v I oI C oC D m₂ h tk E' hP hN hx F N off hne => ?_
    refine wpAny_mono (turn i v ys news I oI C oC D m₂ h tk (by omega) hP hJ hN hx F N off.mem hne.1 hne.2.1 hne.2.2) (fun y s₂ h₂ => ?_) fun _ _ e => e.elim
    obtain ⟨h', tk', news', e, F', N', off', hS, hJ'⟩ := h₂
    exact ⟨h', tk', news', e, F', N', Off3.of off', hS, ih (i + 1) (ys ++ [y]) news' (by omega) hJ'⟩
end Mine
end

section
open PySem PySem.W PyProof.Rows
set_option linter.unusedVariables false
namespace Mine
theorem i3_len {d : Nat} (h : d < 2 ^ 8) : (i2 3 d).length ≤ 3 := by
  have := wd_len h
  rwa [wd, List.length_map] at this
set_option maxRecDepth 100000 in
set_option maxHeartbeats 8000000 in
theorem c_word {w : World} {p : Program} {loose : List Str} {mean : ExcName → Option Value} {mg mb : Str → Option Value} {dp un : Nat} {gd : Option (List Code)} {cn : Str} {cs : Scope} {a : Addr} {ccd : Value} {cl : List (Str × Addr)} {outer : List Env} {A₀ : Around} {base h₀ : Heap} {L : Addr} {m : Str → Option Value} {news : List (Addr × Obj)} {s : Shared} {Q E : Value → Shared → Prop}
    {d : Nat} {td : Tok}
    (C : Cx w p loose mean mg mb cs outer A₀ base h₀ L m news s.heap) (hF : TabF 198 140 4 ((Str.ofString "_int2digits" ++ ".<locals>.") ++ "inner") news)
    (hd : d < 2 ^ 8) (hdp : dp + 114 < recursionLimit) (hun : un + 520 < cLine)
    (hret : ∀ t news' h' tk', Fr h₀ L h' m → News h₀ L h' news' → (∀ q ∈ news, q ∈ news') → Q (.str (S (wd d)) t) { s with heap := h', toks := tk' }) :
    wpAny (model Challenge.rw_nb0260_01.row.prog w) (ktrTop dp un gd cn cs L a ccd cl outer) (call (.ref 262) [.int (d : Int) td]) Q E s := by
  obtain ⟨B, F, X, N, T, hk⟩ := C
  refine wpAny_call ?_
  (k_dflt (refine' code_def2 ?k1 ?k2 ?k3 ?k4 ?k5 ?kA ?kF ?kK ?k6 ?k7 ?k8 ?k9 ?kB ?_ ?c2 ?c3 ?c4 ?c5; (case kA => exact rfl); (case kF => exact rfl); (case kK => assumption); (case k1 => k_asm); (case k2 => k_asm); (case k3 => k_asm); (case k4 => k_asm); (case k5 => k_asm); (case k6 => k_is); (case k7 => k_is); (case k8 => ktr_room); (case k9 => first | exact BindsTo.of_eq rfl | exact binds_K (by k_in) rfl (by k_is) rfl rfl rfl); (case c5 => decide); (case kB => exact locs2 rfl); (case c2 => exact rfl); (case c3 => exact rfl); (case c4 => exact rfl); k_whole; intro g' L' h' FG' F' N' B' X' T' l1; (try dsimp only); (try k_lift B'); (try k_fold)))
  (repeat' ((fail_if_success (with_reducible show wpAny _ _ (eval (Expr.ListComp _ _ _ _) _) _ _ _)); (fail_if_success (with_reducible show wpAny _ _ (call (Value.builtin "str.join") _) _ _ _)); (fail_if_success (with_reducible show LCg.CompSrc _ _ _ _ _ _ _ _ _ _ _ _ _ _)); (fail_if_success (with_reducible show wpAny _ _ (call (Value.ref _) _) _ _ _)); (first | (k_unfold; (try dsimp only)) | walk1 | (dsimp only; walk1) | (leave1; walk_say "STEP leave1"; try dsimp only) | fail "no step")))
  k_dflt (refine LCg.ListComp_U (F₀ := by k_asm) (by rfl) (by decide) (by rfl) (by decide) (by rfl) ?_)
  (repeat' ((fail_if_success (with_reducible show wpAny _ _ (eval (Expr.ListComp _ _ _ _) _) _ _ _)); (fail_if_success (with_reducible show wpAny _ _ (call (Value.builtin "str.join") _) _ _ _)); (fail_if_success (with_reducible show LCg.CompSrc _ _ _ _ _ _ _ _ _ _ _ _ _ _)); (fail_if_success (with_reducible show wpAny _ _ (call (Value.ref _) _) _ _ _)); (first | (k_unfold; (try dsimp only)) | walk1 | (dsimp only; walk1) | (leave1; walk_say "STEP leave1"; try dsimp only) | fail "no step")))
  refine' c_i2dF (w := w) (n := 3) ⟨by k_asm, by k_asm, by k_asm, by k_asm, by k_asm, rfl⟩ hF.ok (Int.natCast_nonneg _) (Nat.le_trans (bits_of_lt hd) (by decide)) (by decide) (by decide) (dpl (a := 1) (b := 110) (c := 114) (by decide) hdp) (dpl (a := 3) (b := 500) (c := 520) (by decide) hun) ?hR
  intro r xs kk n1 h1 tk1 F1 N1 hi1 hne1 lr ht1 hk1
  have hk0 := fun q hq => hk1 q hq (.inr hF)
  (repeat' ((fail_if_success (with_reducible show wpAny _ _ (eval (Expr.ListComp _ _ _ _) _) _ _ _)); (fail_if_success (with_reducible show wpAny _ _ (call (Value.builtin "str.join") _) _ _ _)); (fail_if_success (with_reducible show LCg.CompSrc _ _ _ _ _ _ _ _ _ _ _ _ _ _)); (fail_if_success (with_reducible show wpAny _ _ (call (Value.ref _) _) _ _ _)); (first | (k_unfold; (try dsimp only)) | walk1 | (dsimp only; walk1) | (leave1; walk_say "STEP leave1"; try dsimp only) | fail "no step")))
  refine' LCg.CompSrc.ledger (its := xs.toArray) (k := kk) rfl (by k_asm) (by k_asm) (.head _) ?hsz ?_
  case hsz => rw [List.size_toArray, IntsAre.length hi1, List.length_map, Int.toNat_natCast]; exact Nat.le_trans (i3_len hd) (by decide)
  intro g2
  refine comp_rest (n := xs.toArray.size) (fun i ys nw => nw = (r, listOf xs.toArray kk) :: n1 ∧ CarriedAll ys (((i2 3 d).take i).map fun k => PyData.str (ltr k))) ?turn ?done _ 0 [] _ (Nat.zero_add _) ⟨rfl, .nil⟩
  case turn =>
    rintro i v ys nw I oI C oC D m2 h2 tk2 hi hv ⟨rfl, hys⟩ hN hx F2 N2 off2 ne1 ne2 ne3
    rw [List.getElem?_toArray] at hv
    obtain ⟨x, tx, hx', rfl⟩ := IntsAre.at' hi1 hv
    have hx8 : x < 2 ^ 3 := i2_lt (List.mem_of_getElem? hx')
    (repeat' ((fail_if_success (with_reducible show wpAny _ _ (eval (Expr.ListComp _ _ _ _) _) _ _ _)); (fail_if_success (with_reducible show wpAny _ _ (call (Value.builtin "str.join") _) _ _ _)); (fail_if_success (with_reducible show LCg.CompSrc _ _ _ _ _ _ _ _ _ _ _ _ _ _)); (fail_if_success (with_reducible show wpAny _ _ (call (Value.ref _) _) _ _ _)); (first | (k_unfold; (try dsimp only)) | walk1 | (dsimp only; walk1) | (leave1; walk_say "STEP leave1"; try dsimp only) | fail "no step")))
    rw [ltr_is hx8]
    refine ⟨_, _, _, rfl, F2, N2, off2, .inr ⟨_, .head _, rfl, _, rfl⟩, rfl, ?_⟩
    rw [Int.toNat_natCast] at hx'
    rw [take_snoc hx', List.map_append]
    exact CarriedAll.snoc hys (.str _ _)
  case done =>
    rintro ys nw ⟨rfl, hys⟩
    intro D h3 tk3 F3 N3 off3
    have hxl : xs.length = (i2 3 d).length := by rw [IntsAre.length hi1, List.length_map, Int.toNat_natCast]
    rw [List.size_toArray, hxl, List.take_length] at hys
    (repeat' ((fail_if_success (with_reducible show wpAny _ _ (eval (Expr.ListComp _ _ _ _) _) _ _ _)); (fail_if_success (with_reducible show wpAny _ _ (call (Value.builtin "str.join") _) _ _ _)); (fail_if_success (with_reducible show LCg.CompSrc _ _ _ _ _ _ _ _ _ _ _ _ _ _)); (fail_if_success (with_reducible show wpAny _ _ (call (Value.ref _) _) _ _ _)); (first | (k_unfold; (try dsimp only)) | walk1 | (dsimp only; walk1) | (leave1; walk_say "STEP leave1"; try dsimp only) | fail "no step")))
    refine' KT.join_1 (News.isList N3 (.head _)) hys (fun _ _ => rfl) ?hn ?_
    case hn => exact Nat.le_trans (i3_len hd) (by decide)
    intro t4 k4 e4
    dsimp only
    rw [join_ltr] at e4 ⊢
    (repeat' ((fail_if_success (with_reducible show wpAny _ _ (eval (Expr.ListComp _ _ _ _) _) _ _ _)); (fail_if_success (with_reducible show wpAny _ _ (call (Value.builtin "str.join") _) _ _ _)); (fail_if_success (with_reducible show LCg.CompSrc _ _ _ _ _ _ _ _ _ _ _ _ _ _)); (fail_if_success (with_reducible show wpAny _ _ (call (Value.ref _) _) _ _ _)); (first | (k_unfold; (try dsimp only)) | walk1 | (dsimp only; walk1) | (leave1; walk_say "STEP leave1"; try dsimp only) | fail "no step")))
    rename_i kF kN kT kX
    exact hret t4 _ _ _ kF kN (fun q hq => .tail _ (.tail _ (hk0 q hq)))
end Mine
end

section
open PySem PySem.W PyProof.Rows
set_option linter.unusedVariables false
namespace Mine
open LCg
/-- a text as the source of a comprehension -/
def SrcT (prog : Program) (w : World) (A : Around) (h₀ : Heap) (L : Addr) (m : Str → Option Value) (env : Env) (elt : PySem.Expr) (x : Str) (scope : Scope) (cl : List (Str × Addr)) (Q : Value → Shared → Prop) (xv : Value) (s₁ : Shared) : Prop :=
  ∃ tx t news, xv = .str tx t ∧ A.handled = none ∧ tx.cps.all (· < 128) = true ∧ Fr h₀ L s₁.heap m ∧ News h₀ L s₁.heap news ∧ tx.cps.size ≤ sizeLine ∧
    ∀ g, CompRest prog w A h₀ L m env elt x scope cl { s₁ with heap := g } (fun _ => True) (SignAt tx) (FinE h₀ L m { s₁ with heap := g } Q) tx.cps.size 0 [] news
theorem text_st {I : Addr} {h₀ : Heap} {L : Addr} {tx : Str} {t : Tok} : ∀ i (h h' : Heap) (o : Obj) (nw : List (Addr × Obj)), h.IsStrIter I "str_ascii_iterator" tx t i → h.get? I = some o → h'.get? I = some o → (∀ b o, h₀.get? b = some o → h'.get? b = some o) → News h₀ L h' nw → True → h'.IsStrIter I "str_ascii_iterator" tx t i :=
  fun i h h' o nw st e e' _ _ _ => by
    obtain ⟨o', q, r⟩ := st
    rw [e] at q; cases q
    exact ⟨o, e', r⟩
theorem ListComp_text {prog : Program} {w : World} {A : Around} {E : Value → Shared → Prop} {s : Shared} {h₀ : Heap} {L : Addr} {m : Str → Option Value} {env : Env} {elt iter : PySem.Expr} {x : Str} {px : Pos} {scope : Scope} {cl : List (Str × Addr)} {pos : Pos} {Q : Value → Shared → Prop} (F₀ : Fr h₀ L s.heap m)
    (hclos : closureFor scope env = pure cl) (hcell : ∀ y ∈ scope.names, y.2 ≠ .cell) (hkind : scope.kind = .function)
    (hnames : ∀ y ∈ scope.names, y.2 = .local → scope.names.lookup y.1 = some .local) (hx : scope.names.lookup x = some .local)
    (h : wpAny (model prog w) A (eval iter env) (SrcT prog w A h₀ L m env elt x scope cl Q) E s)
    (hs : ∀ x, foldedSetIterable iter env x = pure x := by intro _; rfl) :
    wpAny (model prog w) A (eval (.ListComp elt [⟨.Name x px, iter, [], 0⟩] scope pos) env) Q E s := by
  rw [eval_ListComp]
  refine wpAny_comprehension_free (use := none) rfl hs hclos hkind hnames (wpAny_mono h (fun xv s₁ h₁ => ?_) fun _ _ e => e)
  obtain ⟨tx, t, news, rfl, hh, ha, F, N, hsz, R⟩ := h₁
  refine wpAny_pyIter_ascii ha ?_
  refine block_U (Walks.strAscii hh s₁.heap.objs.size tx t) hsz (fun i h st => by obtain ⟨o, e, _⟩ := st; exact ⟨o, e⟩) text_st hcell hkind hx ⟨_, Heap.get?_push_size _ rfl, rfl, rfl⟩ (fun b hb => ?_)
    (F.keeps fun _ _ e => Heap.get?_push_of_some _ e) (N.grown fun _ _ e => Heap.get?_push_of_some _ e) (Nat.ne_of_lt F.ns.lt) (next_is_new F) (fun p hp => Nat.ne_of_lt (Heap.lt_size (N p hp).1)) trivial (R _) ?_
  · rw [List.mem_singleton.mp hb]
    show s₁.heap.objs.size < (s₁.heap.push _).objs.size
    rw [Heap.size_push]; exact Nat.lt_succ_self _
  · intro D C h tk m' ys news' F' N' o1 hn hC₀ hD₀ hCL hDL hCD offC fin
    refine ⟨m', hn, fun h'' hs'' => fin D h'' tk (F'.change hs'' hCL hC₀) (fun p hp => ?_) o1⟩
    refine ⟨hs''.extBut _ _ ?_ (N' p hp).1, (N' p hp).2⟩
    rcases List.mem_cons.mp hp with rfl | hp
    · exact Ne.symm hCD
    · exact offC p hp
end Mine
end

section
open PySem PySem.W PyProof.Rows
set_option linter.unusedVariables false
namespace Mine
theorem find_is {x : Nat} (h : x < 2 ^ 3) : Txt.find (Str.ofString "abcdefgh") (ltr x) = (x : Int) := by
  have h8 : x < 8 := h
  rcases x with _ | _ | _ | _ | _ | _ | _ | _ | x
  all_goals first | (decide +kernel) | omega
theorem wd_ascii {d : Nat} (h : d < 2 ^ 8) : (S (wd d)).cps.all (· < 128) = true := by
  show ((wd d).toArray).all (· < 128) = true
  rw [List.all_toArray, List.all_eq_true]
  intro c hc
  obtain ⟨k, hk, rfl⟩ := List.mem_map.mp hc
  have := i2_lt hk
  simp; omega
theorem S_size (l : List Nat) : (S l).cps.size = l.length := by show l.toArray.size = _; simp
theorem wd_at {d i : Nat} {v : Value} (h : SignAt (S (wd d)) i v) : ∃ x u, (i2 3 d)[i]? = some x ∧ v = .str (ltr x) u ∧ x < 2 ^ 3 := by
  obtain ⟨c, u, hc, rfl⟩ := h
  have hc' : (wd d)[i]? = some c := by
    have : ((wd d).toArray)[i]? = some c := hc
    simpa using this
  rw [wd, List.getElem?_map] at hc'
  cases hx : (i2 3 d)[i]? with
  | none => rw [hx] at hc'; cases hc'
  | some x =>
    rw [hx] at hc'
    cases hc'
    exact ⟨x, u, rfl, rfl, i2_lt (List.mem_of_getElem? hx)⟩
set_option maxRecDepth 100000 in
set_option maxHeartbeats 8000000 in
theorem c_digit {w : World} {p : Program} {loose : List Str} {mean : ExcName → Option Value} {mg mb : Str → Option Value} {dp un : Nat} {gd : Option (List Code)} {cn : Str} {cs : Scope} {a : Addr} {ccd : Value} {cl : List (Str × Addr)} {outer : List Env} {A₀ : Around} {base h₀ : Heap} {L : Addr} {m : Str → Option Value} {news : List (Addr × Obj)} {s : Shared} {Q E : Value → Shared → Prop}
    {d : Nat} {td : Tok}
    (C : Cx w p loose mean mg mb cs outer A₀ base h₀ L m news s.heap) (hF : TabF 205 155 4 ((Str.ofString "_digits2int" ++ ".<locals>.") ++ "inner") news)
    (hd : d < 2 ^ 8) (hdp : dp + 114 < recursionLimit) (hun : un + 520 < cLine)
    (hret : ∀ t news' h' tk', Fr h₀ L h' m → News h₀ L h' news' → (∀ q ∈ news, q ∈ news') → Q (.int (d : Int) t) { s with heap := h', toks := tk' }) :
    wpAny (model Challenge.rw_nb0260_01.row.prog w) (ktrTop dp un gd cn cs L a ccd cl outer) (call (.ref 267) [.str (S (wd d)) td]) Q E s := by
  obtain ⟨B, F, X, N, T, hk⟩ := C
  have hwl := wd_len hd
  have hsl : (S (wd d)).length ≤ 3 := by rw [S_len]; exact hwl
  refine wpAny_call ?_
  (k_dflt (refine' code_def2 ?k1 ?k2 ?k3 ?k4 ?k5 ?kA ?kF ?kK ?k6 ?k7 ?k8 ?k9 ?kB ?_ ?c2 ?c3 ?c4 ?c5; (case kA => exact rfl); (case kF => exact rfl); (case kK => assumption); (case k1 => k_asm); (case k2 => k_asm); (case k3 => k_asm); (case k4 => k_asm); (case k5 => k_asm); (case k6 => k_is); (case k7 => k_is); (case k8 => ktr_room); (case k9 => first | exact BindsTo.of_eq rfl | exact binds_K (by k_in) rfl (by k_is) rfl rfl rfl); (case c5 => decide); (case kB => exact locs2 rfl); (case c2 => exact rfl); (case c3 => exact rfl); (case c4 => exact rfl); k_whole; intro g' L' h' FG' F' N' B' X' T' l1; (try dsimp only); (try k_lift B'); (try k_fold)))
  (repeat' ((fail_if_success (with_reducible show wpAny _ _ (eval (Expr.ListComp _ _ _ _) _) _ _ _)); (fail_if_success (with_reducible show SrcT _ _ _ _ _ _ _ _ _ _ _ _ _ _)); (fail_if_success (with_reducible show CmpTurn _ _ _ _ _ _ _ _ _ _ _ _ _ _)); (fail_if_success (with_reducible show wpAny _ _ (call (Value.ref _) _) _ _ _)); (first | (k_unfold; (try dsimp only)) | walk1 | (dsimp only; walk1) | (leave1; walk_say "STEP leave1"; try dsimp only) | fail "no step")))
  k_dflt (refine ListComp_text (F₀ := by k_asm) (by rfl) (by decide) (by rfl) (by decide) (by rfl) ?_)
  (repeat' ((fail_if_success (with_reducible show wpAny _ _ (eval (Expr.ListComp _ _ _ _) _) _ _ _)); (fail_if_success (with_reducible show SrcT _ _ _ _ _ _ _ _ _ _ _ _ _ _)); (fail_if_success (with_reducible show CmpTurn _ _ _ _ _ _ _ _ _ _ _ _ _ _)); (fail_if_success (with_reducible show wpAny _ _ (call (Value.ref _) _) _ _ _)); (first | (k_unfold; (try dsimp only)) | walk1 | (dsimp only; walk1) | (leave1; walk_say "STEP leave1"; try dsimp only) | fail "no step")))
  refine ⟨_, _, news, rfl, rfl, wd_ascii hd, by k_asm, by k_asm, by rw [S_size]; exact Nat.le_trans hwl (by decide), fun g2 => ?_⟩
  refine comp_rest (n := (S (wd d)).cps.size) (fun i ys nw => nw = news ∧ CarriedAll ys (((i2 3 d).take i).map fun k : Nat => PyData.int (k : Int))) ?turn ?done _ 0 [] _ (Nat.zero_add _) ⟨rfl, .nil⟩
  case turn =>
    rintro i v ys nw I oI C oC D m2 h2 tk2 hi hv ⟨rfl, hys⟩ hN hx F2 N2 off2 ne1 ne2 ne3
    obtain ⟨x, u, hx', rfl, hx8⟩ := wd_at hv
    (repeat' ((fail_if_success (with_reducible show wpAny _ _ (eval (Expr.ListComp _ _ _ _) _) _ _ _)); (fail_if_success (with_reducible show SrcT _ _ _ _ _ _ _ _ _ _ _ _ _ _)); (fail_if_success (with_reducible show CmpTurn _ _ _ _ _ _ _ _ _ _ _ _ _ _)); (fail_if_success (with_reducible show wpAny _ _ (call (Value.ref _) _) _ _ _)); (first | (k_unfold; (try dsimp only)) | walk1 | (dsimp only; walk1) | (leave1; walk_say "STEP leave1"; try dsimp only) | fail "no step")))
    rw [find_is hx8]
    refine ⟨_, _, _, rfl, F2, N2, off2, trivial, rfl, ?_⟩
    rw [take_snoc hx', List.map_append]
    exact CarriedAll.snoc hys (.int _ _)
  case done =>
    rintro ys nw ⟨rfl, hys⟩
    intro D h3 tk3 F3 N3 off3
    rw [S_size, wd, List.length_map, List.take_length] at hys
    have hz := CarriedAll.intsOf hys
    (repeat' ((fail_if_success (with_reducible show wpAny _ _ (eval (Expr.ListComp _ _ _ _) _) _ _ _)); (fail_if_success (with_reducible show SrcT _ _ _ _ _ _ _ _ _ _ _ _ _ _)); (fail_if_success (with_reducible show CmpTurn _ _ _ _ _ _ _ _ _ _ _ _ _ _)); (fail_if_success (with_reducible show wpAny _ _ (call (Value.ref _) _) _ _ _)); (first | (k_unfold; (try dsimp only)) | walk1 | (dsimp only; walk1) | (leave1; walk_say "STEP leave1"; try dsimp only) | fail "no step")))
    refine' c_d2iF (w := w) (xs := ys) (n := 3) (ns := i2 3 d) ⟨by k_asm, by k_asm, by k_asm, by k_asm, by k_asm, rfl⟩ (hF.ok.mono fun q hq => .tail _ hq) (.head _) hz rfl (Nat.le_trans (i3_len hd) (by decide)) (by decide) (fun x hx => i2_lt hx) (dpl (a := 1) (b := 110) (c := 114) (by decide) hdp) (dpl (a := 3) (b := 500) (c := 520) (by decide) hun) ?hR3
    intro tq n2 h7 tk7 F7 N7 ht7 hk7
    have hk0 := fun q hq => hk7 q (.tail _ hq) (.inr (hF.mono fun q hq => .tail _ hq))
    (repeat' ((fail_if_success (with_reducible show wpAny _ _ (eval (Expr.ListComp _ _ _ _) _) _ _ _)); (fail_if_success (with_reducible show SrcT _ _ _ _ _ _ _ _ _ _ _ _ _ _)); (fail_if_success (with_reducible show CmpTurn _ _ _ _ _ _ _ _ _ _ _ _ _ _)); (fail_if_success (with_reducible show wpAny _ _ (call (Value.ref _) _) _ _ _)); (first | (k_unfold; (try dsimp only)) | walk1 | (dsimp only; walk1) | (leave1; walk_say "STEP leave1"; try dsimp only) | fail "no step")))
    rename_i kF kN kT kX
    rw [d2_i2 (by decide)]
    exact hret _ _ _ _ kF kN hk0
end Mine
end

section
open PySem PySem.W PyProof.Rows
set_option linter.unusedVariables false
namespace Mine
local macro_rules | `(tactic| walk_at "eval Name") => `(tactic| (k_here; k_dflt (refine' ld ?k1 ?k2 ?_; (case k1 => k_asm); (case k2 => first | exact rfl | assumption); k_whole)))
open LCg LCt in
/-- a comprehension whose test always fails -/
theorem comp_restF {prog : Program} {w : World} {A : Around} {h₀ : Heap} {L : Addr} {m : Str → Option Value} {env : Env} {ct elt : PySem.Expr} {x : Str} {scope : Scope} {cl : List (Str × Addr)} {s : Shared} {S : List (Addr × Obj) → Prop} {P : Nat → Value → Prop} {Fin : List Value → List (Addr × Obj) → Prop} {n : Nat}
    (J : Nat → List (Addr × Obj) → Prop)
    (turn : ∀ i v news I oI C oC D m₂ h tk, i < n → P i v → J i news → NsObj oC m₂ → m₂ x = some v → Fr h₀ L h m → News h₀ L h ((I, oI) :: (C, oC) :: (D, lst []) :: news) → (∀ q ∈ news, q.1 ≠ I ∧ q.1 ≠ C ∧ q.1 ≠ D) → I ≠ C → I ≠ D → C ≠ D →
      wpAny (model prog w) A (isTrue ct (compEnvC scope cl C env) (eval ct (compEnvC scope cl C env))) (fun ok s₂ => ok = false ∧ CmpTurn h₀ L m s I C D oI oC (lst []) S (fun _ news' => J (i + 1) news') .none s₂) (fun _ _ => False) { s with heap := h, toks := tk })
    (done : ∀ news, J n news → Fin [] news) : ∀ k i news, i + k = n → J i news → CompRestT prog w A h₀ L m env ct elt x scope cl s S P Fin k i [] news := by
  intro k
  induction k with
  | zero => intro i news hi hJ; rw [Nat.add_zero] at hi; subst hi; exact done news hJ
  | succ k ih =>
    intro i news hi hJ
    refine CompRestT.succ fun v I oI C oC D m₂ h tk E' hP hN hx F N off hne => ?_
    refine wpAny_mono (turn i v news I oI C oC D m₂ h tk (by omega) hP hJ hN hx F N off.mem hne.1 hne.2.1 hne.2.2) (fun ok s₂ h₂ => ?_) fun _ _ e => e.elim
    obtain ⟨rfl, h', tk', news', e, F', N', off', hS, hJ'⟩ := h₂
    exact ⟨h', tk', news', e, F', N', Off3.of off', hS, ih (i + 1) news' (by omega) hJ'⟩
open PySem.Builtin.Str in
theorem slice1 (c : Nat) (l : List Nat) : Txt.slice (S (c :: l)) none (some 1) = S [c] := by
  have hl : (S (c :: l)).length = l.length + 1 := by rw [S_len]; rfl
  have hi : strSliceIndices none (some 1) 1 (l.length + 1) = [0] := by
    unfold strSliceIndices sliceRange
    have e1 : max (0 : Int) (min (1 : Int) ((l.length + 1 : Nat) : Int)) = 1 := by omega
    simp only [show ¬ (1 : Int) < 0 by decide, show (1 : Int) > 0 by decide, if_true, if_false, e1]
    rfl
  unfold Txt.slice
  rw [hl, hi]
  split
  · rename_i h
    have : l = [] := by simpa using h
    rw [this]
  · simp [S]
theorem rows_ne {d : Nat} {rt : List Nat} : (Txt.slice (S (rowT (d :: rt))) none (some 1) != Str.ofString " ") = false := by
  rw [rowT_cons, slice1, show Str.ofString " " = S [32] by decide +kernel]
  simp
section
variable {prog : Program} {w : World} {A : Around} {E : Value → Shared → Prop} {s : Shared} {h₀ : Heap} {L D : Addr} {news : List (Addr × Obj)} {xs : List Value} {n kk : Nat} {Q : Value → Shared → Prop}
theorem len_rows (N : News h₀ L s.heap news) (hm : (D, listOf xs.toArray kk) ∈ news) (hz : xs.length = n ∧ n ≤ 1000) (h : ∀ t tk, Q (.int (n : Int) t) { s with toks := tk }) : wpAny (model prog w) A (call (.builtin "len") [.ref D]) Q E s := by
  obtain ⟨rfl, hz⟩ := hz
  refine kun_lenL (k := (xs.length : Int)) (News.isList N hm) (by rw [List.size_toArray]) (by omega) (h _ _)
theorem item_rows {value slice : PySem.Expr} {k : Int} {u : Tok} {x : Value} (N : News h₀ L s.heap news) (hm : (D, listOf xs.toArray kk) ∈ news) (hx : xs[k.toNat]? = some x) (h0 : 0 ≤ k) (hf : k < 2 ^ 63) (h : Q x s)
    (hs : subscripted slice false (.ref D) (.int k u) = operate [.ref D, .int k u] (getItem (.ref D) (.int k u))) :
    wpAny (model prog w) A (subscriptTail value slice (.ref D) (.int k u)) Q E s :=
  item_listR (News.isList N hm) h0 hf (by rw [List.getElem?_toArray]; exact hx) h hs
end
theorem range_up {n : Nat} : Builtin.Range.rangeSize 0 (n : Int) 1 = n := by
  unfold Builtin.Range.rangeSize
  simp
  omega
theorem range_up_small {n : Nat} (h : n ≤ 1000) : Builtin.Range.small 0 (n : Int) 1 = true := by
  unfold Builtin.Range.small
  rw [range_up]
  simp [Builtin.Range.rangeFitsLong]
  omega
theorem blank32 : Str.ofString " " = ⟨#[32]⟩ := by decide +kernel
theorem if_cut {M : Model} {A : Around} {env : Env} {st : Stmt} {rest : List Stmt} {Q : Flow → Shared → Prop} {E : Value → Shared → Prop} {s : Shared}
    (h1 : wpAny M A (exec st env) (fun f s' => f = .next ∧ ∃ tk, s' = { s with toks := tk }) (fun _ _ => False) s) (h2 : ∀ tk, wpAny M A (execs rest env) Q E { s with toks := tk }) : wpAny M A (execs (st :: rest) env) Q E s :=
  wpAny_execs_cons (wpAny_mono h1 (fun f s' h => by obtain ⟨rfl, tk, rfl⟩ := h; exact h2 tk) fun _ _ e => e.elim)
def SetEnd (h₀ : Heap) (L : Addr) (m : Str → Option Value) (news : List (Addr × Obj)) (x : Str) (v : Int) (s : Shared) (f : Flow) (s' : Shared) : Prop :=
  f = .next ∧ ∃ h' tk t, s' = { s with heap := h', toks := tk } ∧ Fr h₀ L h' (fun y => if y = x then some (.int v t) else m y) ∧ News h₀ L h' news
theorem set_cut {M : Model} {A : Around} {env : Env} {st : Stmt} {rest : List Stmt} {Q : Flow → Shared → Prop} {E : Value → Shared → Prop} {s : Shared} {h₀ : Heap} {L : Addr} {m : Str → Option Value} {news : List (Addr × Obj)} {x : Str} {v : Int}
    (h1 : wpAny M A (exec st env) (SetEnd h₀ L m news x v s) (fun _ _ => False) s)
    (h2 : ∀ h' tk t, Fr h₀ L h' (fun y => if y = x then some (.int v t) else m y) → News h₀ L h' news → wpAny M A (execs rest env) Q E { s with heap := h', toks := tk }) : wpAny M A (execs (st :: rest) env) Q E s :=
  wpAny_execs_cons (wpAny_mono h1 (fun f s' h => by obtain ⟨rfl, h', tk, t, rfl, F, N⟩ := h; exact h2 h' tk t F N) fun _ _ e => e.elim)
theorem getD_row {rows : List (List Nat)} {j : Nat} {r : List Nat} (h : rows[j]? = some r) : (rows.map fun r => S (rowT r)).getD j Str.empty = S (rowT r) := by
  rw [List.getD_eq_getElem?_getD, List.getElem?_map, h]; rfl
theorem pick1 (v0 : Value) (vr : List Value) : kms_pick (v0 :: vr).toArray.toList (some 1) none = vr := by
  simp [kms_pick, kms_lo, kms_hi]
local macro_rules | `(tactic| walk_at "subscriptTail Name Slice ref ref") => `(tactic| (k_here; (with_reducible show wpAny _ _ (subscriptTail _ (PySem.Expr.Slice _ _ none _) (Value.ref _) (Value.ref _)) _ _ _); k_dflt (refine' kms_slice_lit ?F ?N ?l ?p ?q ?e ?_ ?s ?t ?z; (case F => k_asm); (case N => k_asm); (case l => kmk_list); (case p => kmk_part); (case q => kmk_part); (case e => exact pick1 _ _); (case s => with_unfolding_all rfl); (case t => kmk_pure); (case z => rw [List.size_toArray]; (first | assumption | exact Nat.le_trans (by assumption) (by decide)))); intro D' h' F' N' l1))
local macro_rules | `(tactic| walk_at "call builtin:len") => `(tactic| (k_here; (with_reducible show wpAny _ _ (call (Value.builtin "len") [Value.ref _]) _ _ _); k_dflt (refine' len_rows ?N ?m ?z ?_; (case N => k_asm); (case m => k_mem); (case z => assumption)); intro t' k'; (try dsimp only)))
local macro_rules | `(tactic| walk_at "subscriptTail") => `(tactic| (k_here; (with_reducible show wpAny _ _ (subscriptTail _ _ (Value.ref _) (Value.int _ _)) _ _ _); k_dflt (refine' item_rows ?N ?m ?z ?h0 ?hf ?_ ?s; (case N => k_asm); (case m => k_mem); (case z => assumption); (case h0 => omega); (case hf => omega); (case s => with_unfolding_all rfl))))
local macro_rules | `(tactic| walk_at "ite") => `(tactic| (k_openite; first
  | (refine ite_pos (by (try simp only [decide_eq_true_eq, beq_iff_eq, bne_iff_ne, ne_eq]); omega) ?_; walk_say "PRUNED mine")
  | (refine ite_neg (by (try simp only [decide_eq_true_eq, beq_iff_eq, bne_iff_ne, ne_eq]); omega) ?_; walk_say "PRUNED mine")))
set_option maxRecDepth 100000 in
set_option maxHeartbeats 8000000 in
theorem c_full {w : World} {p : Program} {loose : List Str} {mean : ExcName → Option Value} {mg mb : Str → Option Value} {dp un : Nat} {gd : Option (List Code)} {cn : Str} {cs : Scope} {a : Addr} {ccd : Value} {cl : List (Str × Addr)} {outer : List Env} {A₀ : Around} {base h₀ : Heap} {L : Addr} {m : Str → Option Value} {news : List (Addr × Obj)} {s : Shared} {Q E : Value → Shared → Prop}
    {r : Addr} {vs : List Value} {k : Nat} {rows : List (List Nat)} {wide front : Nat} {tw th : Tok}
    (C : Cx w p loose mean mg mb cs outer A₀ base h₀ L m news s.heap) 
    (hl : (r, listOf vs.toArray k) ∈ news) (hv : StrsAre vs (rows.map fun r => S (rowT r))) (hds : ∀ r ∈ rows, ∀ d ∈ r, d < 2 ^ 8) (hn : rows.length ≤ 100) (hn2 : ∀ r ∈ rows, r.length ≤ 100) (hne : rows ≠ []) (hF : Full wide front rows) (hf : front ≤ 1000) (hw : wide ≤ 1000)
    (hrt : ∀ r rs, rows = r :: rs → ∀ r' ∈ rs, r' ≠ [])
    (hdp : dp + 40 < recursionLimit) (hun : un + 300 < cLine)
    (hret : ∀ (h' : Heap) (tk' : Tok) (news' : List (Addr × Obj)), Fr h₀ L h' m → News h₀ L h' news' → (∀ q ∈ news, q ∈ news') → Q (.bool true) { s with heap := h', toks := tk' }) :
    wpAny (model Challenge.rw_nb0260_01.row.prog w) (ktrTop dp un gd cn cs L a ccd cl outer) (call (.ref 279) [.ref r, .int (wide : Int) tw, .int (front : Int) th]) Q E s := by
  obtain ⟨B, F, X, N, T, hk⟩ := C
  obtain ⟨r0, rr, rfl⟩ := List.exists_cons_of_ne_nil hne
  obtain ⟨v0, vr, rfl⟩ : ∃ v0 vr, vs = v0 :: vr := by cases hv; exact ⟨_, _, rfl⟩
  have hvl : (v0 :: vr).length ≤ 100 := by rw [StrsAre.length hv, List.length_map]; exact hn
  obtain ⟨n, hn⟩ : ∃ n, (v0 :: vr).length = n ∧ n ≤ 1000 := ⟨_, rfl, by omega⟩
  have hnr : n = rr.length + 1 := by rw [← hn.1, StrsAre.length hv, List.length_map]; rfl
  refine wpAny_call ?_
  (k_dflt (refine' code_def2 ?k1 ?k2 ?k3 ?k4 ?k5 ?kA ?kF ?kK ?k6 ?k7 ?k8 ?k9 ?kB ?_ ?c2 ?c3 ?c4 ?c5; (case kA => exact rfl); (case kF => exact rfl); (case kK => assumption); (case k1 => k_asm); (case k2 => k_asm); (case k3 => k_asm); (case k4 => k_asm); (case k5 => k_asm); (case k6 => k_is); (case k7 => k_is); (case k8 => ktr_room); (case k9 => first | exact BindsTo.of_eq rfl | exact binds_K (by k_in) rfl (by k_is) rfl rfl rfl); (case c5 => decide); (case kB => exact locs2 rfl); (case c2 => exact rfl); (case c3 => exact rfl); (case c4 => exact rfl); k_whole; intro g' L' h' FG' F' N' B' X' T' l1; (try dsimp only); (try k_lift B'); (try k_fold)))
  (repeat' ((fail_if_success (with_reducible show wpAny _ _ (call (Value.ref _) _) _ _ _)); (fail_if_success (with_reducible show wpAny _ _ (eval (Expr.ListComp _ _ _ _) _) _ _ _)); (fail_if_success (with_reducible show wpAny _ _ (call (Value.builtin "str.count") _) _ _ _)); (fail_if_success (with_reducible show wpAny _ _ (call (Value.builtin "str.split") _) _ _ _)); (fail_if_success (with_reducible show wpAny _ _ (pyIter _) _ _ _)); (fail_if_success (with_reducible show wpAny _ _ (exec (Stmt.For _ _ _ _ _) _) _ _ _)); first | (with_reducible contradiction) | (first | (k_unfold; (try dsimp only)) | walk1 | (dsimp only; walk1) | (leave1; walk_say "STEP leave1"; try dsimp only) | fail "no step")))
  k_dflt (refine LCt.ListComp_T (F₀ := by k_asm) (by rfl) (by decide) (by rfl) (by decide) (by rfl) ?_)
  (repeat' ((fail_if_success (with_reducible show wpAny _ _ (call (Value.ref _) _) _ _ _)); (fail_if_success (with_reducible show wpAny _ _ (eval (Expr.ListComp _ _ _ _) _) _ _ _)); (fail_if_success (with_reducible show wpAny _ _ (call (Value.builtin "str.count") _) _ _ _)); (fail_if_success (with_reducible show wpAny _ _ (call (Value.builtin "str.split") _) _ _ _)); (fail_if_success (with_reducible show wpAny _ _ (pyIter _) _ _ _)); (fail_if_success (with_reducible show wpAny _ _ (exec (Stmt.For _ _ _ _ _) _) _ _ _)); first | (with_reducible contradiction) | (first | (k_unfold; (try dsimp only)) | walk1 | (dsimp only; walk1) | (leave1; walk_say "STEP leave1"; try dsimp only) | fail "no step")))
  refine' LCt.CompSrcT.ledger (its := vr.toArray) (k := 0) rfl (by k_asm) (by k_asm) (.head _) ?hsz ?_
  case hsz => rw [List.size_toArray]; exact Nat.le_trans (Nat.le_trans (Nat.le_succ _) hvl) (by decide)
  intro g2
  rename_i D1 hq F1 N1 l2
  refine comp_restF (n := vr.toArray.size) (fun i nw => nw = (D1, listOf vr.toArray 0) :: news) ?turn ?done _ 0 _ (Nat.zero_add _) rfl
  case turn =>
    rintro i v nw I oI C oC D m2 h2 tk2 hi hv2 rfl hN hx F2 N2 off2 ne1 ne2 ne3
    rw [List.getElem?_toArray] at hv2
    obtain ⟨y, ty, rfl, hy⟩ := StrsAre.item hv (i + 1) v hv2
    rw [List.getElem?_map, List.getElem?_cons_succ] at hy
    obtain ⟨ri, hri, rfl⟩ := Option.map_eq_some_iff.mp hy
    obtain ⟨d, rt, rfl⟩ := List.exists_cons_of_ne_nil (hrt _ _ rfl ri (List.mem_of_getElem? hri))
    have hsl : (S (rowT (d :: rt))).length ≤ 1000 := by
      have h1 := rowT_len (hds _ (.tail _ (List.mem_of_getElem? hri)))
      have h2 := hn2 _ (.tail _ (List.mem_of_getElem? hri))
      rw [S_len]; omega
    (repeat' ((fail_if_success (with_reducible show wpAny _ _ (call (Value.ref _) _) _ _ _)); (fail_if_success (with_reducible show wpAny _ _ (eval (Expr.ListComp _ _ _ _) _) _ _ _)); (fail_if_success (with_reducible show wpAny _ _ (call (Value.builtin "str.count") _) _ _ _)); (fail_if_success (with_reducible show wpAny _ _ (call (Value.builtin "str.split") _) _ _ _)); (fail_if_success (with_reducible show wpAny _ _ (pyIter _) _ _ _)); (fail_if_success (with_reducible show wpAny _ _ (exec (Stmt.For _ _ _ _ _) _) _ _ _)); first | (with_reducible contradiction) | (first | (k_unfold; (try dsimp only)) | walk1 | (dsimp only; walk1) | (leave1; walk_say "STEP leave1"; try dsimp only) | fail "no step")))
    · exact rows_ne
    · rename_i F3 N3 _
      exact ⟨_, _, _, rfl, F3, N3, off2, .inr ⟨_, .head _, rfl, _, rfl⟩, rfl⟩
  case done =>
    rintro nw rfl
    intro D h3 tk3 F3 N3 off3
    (repeat' ((fail_if_success (with_reducible show wpAny _ _ (call (Value.ref _) _) _ _ _)); (fail_if_success (with_reducible show wpAny _ _ (eval (Expr.ListComp _ _ _ _) _) _ _ _)); (fail_if_success (with_reducible show wpAny _ _ (call (Value.builtin "str.count") _) _ _ _)); (fail_if_success (with_reducible show wpAny _ _ (call (Value.builtin "str.split") _) _ _ _)); (fail_if_success (with_reducible show wpAny _ _ (pyIter _) _ _ _)); (fail_if_success (with_reducible show wpAny _ _ (exec (Stmt.For _ _ _ _ _) _) _ _ _)); first | (with_reducible contradiction) | (first | (k_unfold; (try dsimp only)) | walk1 | (dsimp only; walk1) | (leave1; walk_say "STEP leave1"; try dsimp only) | fail "no step")))
    refine wpAny_For ?_
    (repeat' ((fail_if_success (with_reducible show wpAny _ _ (call (Value.ref _) _) _ _ _)); (fail_if_success (with_reducible show wpAny _ _ (eval (Expr.ListComp _ _ _ _) _) _ _ _)); (fail_if_success (with_reducible show wpAny _ _ (call (Value.builtin "str.count") _) _ _ _)); (fail_if_success (with_reducible show wpAny _ _ (call (Value.builtin "str.split") _) _ _ _)); (fail_if_success (with_reducible show wpAny _ _ (pyIter _) _ _ _)); (fail_if_success (with_reducible show wpAny _ _ (exec (Stmt.For _ _ _ _ _) _) _ _ _)); first | (with_reducible contradiction) | (first | (k_unfold; (try dsimp only)) | walk1 | (dsimp only; walk1) | (leave1; walk_say "STEP leave1"; try dsimp only) | fail "no step")))
    rename_i kq h5 tk5 tr1 tr2 tr3 hr5 F5 N5 e5
    refine' iter_range (n := n) (fun j m1 news1 gs => m1 (Str.ofString "rows") = some (.ref r) ∧ m1 (Str.ofString "wide") = some (.int (wide : Int) tw) ∧ m1 (Str.ofString "head") = some (.int (front : Int) th) ∧ (∀ q ∈ news, q ∈ news1) ∧ gs = s.gens) hr5 ?sm ?sz F5 N5 ⟨rfl, rfl, rfl, fun q hq => .tail _ (.tail _ hq), rfl⟩ ?turn2 ?done2
    case turn2 =>
      intro I2 i tv m6 n6 h6 tk6 gs6 oI2 hj hJ2 hI2 hoI2 F6 N6
      obtain ⟨f1, f2, f3, f4, rfl⟩ := hJ2
      have hl6 := f4 _ hl
      rw [show (0 : Int) + (i : Int) * 1 = (i : Int) by omega] at F6
      obtain ⟨ri, hri⟩ : ∃ ri, (r0 :: rr)[i]? = some ri := ⟨(r0 :: rr)[i]'(by simp; omega), by simp⟩
      obtain ⟨ti, hti⟩ := StrsAre.at hv (j := i) (y := S (rowT ri)) (by rw [List.getElem?_map, hri]; rfl)
      have hri8 := hds ri (List.mem_of_getElem? hri)
      have hlen := rowT_len hri8
      have hrl := hn2 ri (List.mem_of_getElem? hri)
      have hFA := hF.at hri
      replace hti : (v0 :: vr)[((i : Nat) : Int).toNat]? = some (.str (S (rowT ri)) ti) := hti
      have hsl : (S (rowT ri)).length = (rowT ri).length := S_len _
      obtain ⟨fr, hfr⟩ : ∃ fr, fr = (if i = 0 then front else 0) := ⟨_, rfl⟩
      rw [← hfr] at hFA
      obtain ⟨hA1, hA2, hA3⟩ := hFA
      have hA2a : wide < fr + (rowT ri).length → 0 < fr → ri.length ≤ 0 := fun e1 e2 => by rw [if_pos e2] at hA2; clear hfr; omega
      have hA2b : wide < fr + (rowT ri).length → fr = 0 → ri.length ≤ 1 := fun e1 e2 => by rw [if_neg (by clear hfr; omega)] at hA2; clear hfr; omega
      clear hA2
      refine set_cut (h₀ := g') (L := L') (m := fun y => if y = Str.ofString "place" then some (.int (i : Int) tv) else m6 y) (news := (I2, oI2) :: n6) (x := Str.ofString "front") (v := (fr : Int)) ?ifF ?_
      case ifF =>
        rcases Nat.eq_zero_or_pos i with hi0 | hi0
        · rw [if_pos hi0] at hfr
          subst hfr
          (repeat' ((fail_if_success (with_reducible show wpAny _ _ (call (Value.ref _) _) _ _ _)); (fail_if_success (with_reducible show wpAny _ _ (eval (Expr.ListComp _ _ _ _) _) _ _ _)); (fail_if_success (with_reducible show wpAny _ _ (call (Value.builtin "str.count") _) _ _ _)); (fail_if_success (with_reducible show wpAny _ _ (call (Value.builtin "str.split") _) _ _ _)); (fail_if_success (with_reducible show wpAny _ _ (pyIter _) _ _ _)); (fail_if_success (with_reducible show wpAny _ _ (exec (Stmt.For _ _ _ _ _) _) _ _ _)); first | (with_reducible contradiction) | (first | (k_unfold; (try dsimp only)) | walk1 | (dsimp only; walk1) | (leave1; walk_say "STEP leave1"; try dsimp only) | fail "no step")))
          rename_i F8 N8
          exact ⟨rfl, _, _, _, rfl, F8, N8⟩
        · rw [if_neg (by omega)] at hfr
          subst hfr
          (repeat' ((fail_if_success (with_reducible show wpAny _ _ (call (Value.ref _) _) _ _ _)); (fail_if_success (with_reducible show wpAny _ _ (eval (Expr.ListComp _ _ _ _) _) _ _ _)); (fail_if_success (with_reducible show wpAny _ _ (call (Value.builtin "str.count") _) _ _ _)); (fail_if_success (with_reducible show wpAny _ _ (call (Value.builtin "str.split") _) _ _ _)); (fail_if_success (with_reducible show wpAny _ _ (pyIter _) _ _ _)); (fail_if_success (with_reducible show wpAny _ _ (exec (Stmt.For _ _ _ _ _) _) _ _ _)); first | (with_reducible contradiction) | (first | (k_unfold; (try dsimp only)) | walk1 | (dsimp only; walk1) | (leave1; walk_say "STEP leave1"; try dsimp only) | fail "no step")))
          rename_i F8 N8
          exact ⟨rfl, _, _, _, rfl, F8, N8⟩
      intro hF8 tkF tF F6b N6b
      have hfb : fr ≤ 1000 := by rw [hfr]; split <;> omega
      clear hfr
      (repeat' ((fail_if_success (with_reducible show wpAny _ _ (execs (Stmt.If _ _ _ _ :: _) _) _ _ _)); (fail_if_success (with_reducible show wpAny _ _ (call (Value.builtin "str.count") _) _ _ _)); (fail_if_success (with_reducible show wpAny _ _ (call (Value.builtin "str.split") _) _ _ _)); first | (with_reducible contradiction) | (first | (k_unfold; (try dsimp only)) | walk1 | (dsimp only; walk1) | (leave1; walk_say "STEP leave1"; try dsimp only) | fail "no step")))
      refine SC.count ?_
      rw [blank32, row_count]
      (repeat' ((fail_if_success (with_reducible show wpAny _ _ (execs (Stmt.If _ _ _ _ :: _) _) _ _ _)); (fail_if_success (with_reducible show wpAny _ _ (call (Value.builtin "str.count") _) _ _ _)); (fail_if_success (with_reducible show wpAny _ _ (call (Value.builtin "str.split") _) _ _ _)); first | (with_reducible contradiction) | (first | (k_unfold; (try dsimp only)) | walk1 | (dsimp only; walk1) | (leave1; walk_say "STEP leave1"; try dsimp only) | fail "no step")))
      refine if_cut ?ifA1 ?_
      case ifA1 =>
        (repeat' ((fail_if_success (with_reducible show wpAny _ _ (call (Value.ref _) _) _ _ _)); (fail_if_success (with_reducible show wpAny _ _ (eval (Expr.ListComp _ _ _ _) _) _ _ _)); (fail_if_success (with_reducible show wpAny _ _ (call (Value.builtin "str.count") _) _ _ _)); (fail_if_success (with_reducible show wpAny _ _ (call (Value.builtin "str.split") _) _ _ _)); (fail_if_success (with_reducible show wpAny _ _ (pyIter _) _ _ _)); (fail_if_success (with_reducible show wpAny _ _ (exec (Stmt.For _ _ _ _ _) _) _ _ _)); first | (with_reducible contradiction) | (first | (k_unfold; (try dsimp only)) | walk1 | (dsimp only; walk1) | (leave1; walk_say "STEP leave1"; try dsimp only) | fail "no step")))
        all_goals exact ⟨rfl, _, rfl⟩
      intro tkA
      dsimp only
      refine if_cut ?ifB1 ?_
      case ifB1 =>
        (repeat' ((fail_if_success (with_reducible show wpAny _ _ (call (Value.ref _) _) _ _ _)); (fail_if_success (with_reducible show wpAny _ _ (eval (Expr.ListComp _ _ _ _) _) _ _ _)); (fail_if_success (with_reducible show wpAny _ _ (call (Value.builtin "str.count") _) _ _ _)); (fail_if_success (with_reducible show wpAny _ _ (call (Value.builtin "str.split") _) _ _ _)); (fail_if_success (with_reducible show wpAny _ _ (pyIter _) _ _ _)); (fail_if_success (with_reducible show wpAny _ _ (exec (Stmt.For _ _ _ _ _) _) _ _ _)); first | (with_reducible contradiction) | (first | (k_unfold; (try dsimp only)) | walk1 | (dsimp only; walk1) | (leave1; walk_say "STEP leave1"; try dsimp only) | fail "no step")))
        all_goals exact ⟨rfl, _, rfl⟩
      intro tkB
      dsimp only
      (repeat' ((fail_if_success (with_reducible show wpAny _ _ (call (Value.ref _) _) _ _ _)); (fail_if_success (with_reducible show wpAny _ _ (eval (Expr.ListComp _ _ _ _) _) _ _ _)); (fail_if_success (with_reducible show wpAny _ _ (call (Value.builtin "str.count") _) _ _ _)); (fail_if_success (with_reducible show wpAny _ _ (call (Value.builtin "str.split") _) _ _ _)); (fail_if_success (with_reducible show wpAny _ _ (pyIter _) _ _ _)); (fail_if_success (with_reducible show wpAny _ _ (exec (Stmt.For _ _ _ _ _) _) _ _ _)); first | (with_reducible contradiction) | (first | (k_unfold; (try dsimp only)) | walk1 | (dsimp only; walk1) | (leave1; walk_say "STEP leave1"; try dsimp only) | fail "no step")))
      · obtain ⟨r2, hr2⟩ : ∃ r2, (r0 :: rr)[i + 1]? = some r2 := ⟨(r0 :: rr)[i + 1]'(by simp; omega), by simp⟩
        obtain ⟨d2, t2, rfl, hw2⟩ := hA3 r2 hr2
        have h28 := rowT_len (hds _ (List.mem_of_getElem? hr2))
        have h2l := hn2 _ (List.mem_of_getElem? hr2)
        rw [show ((i : Int) + 1).toNat = i + 1 by omega, getD_row hr2]
        refine KSpl.split1 (by k_asm) (by k_asm) (by decide) ?_ ?hsz1
        case hsz1 =>
          rw [S_len]
          have : sizeLine = 16777216 := by decide
          omega
        intro D l7 h7 k7 e7 a7 F7 N7 lo7
        rw [e7.trans (row_split _)] at a7
        obtain ⟨t9, hw9⟩ := StrsAre.at a7 (j := 1) (y := S (wd d2)) (by rfl)
        replace hw9 : (strValues l7)[((1 : Int)).toNat]? = some (.str (S (wd d2)) t9) := hw9
        have hwl : (S (wd d2)).length = (wd d2).length := S_len _
        have hwb := wd_len (hds _ (List.mem_of_getElem? hr2) d2 (.head _))
        (repeat' ((fail_if_success (with_reducible show wpAny _ _ (subscriptTail _ _ (Value.ref _) (Value.int _ _)) _ _ _)); first | (with_reducible contradiction) | (first | (k_unfold; (try dsimp only)) | walk1 | (dsimp only; walk1) | (leave1; walk_say "STEP leave1"; try dsimp only) | fail "no step")))
        refine item_rows (kk := 0) N7 (.head _) hw9 (by decide) (by decide) ?_ (by with_unfolding_all rfl)
        (repeat' ((fail_if_success (with_reducible show wpAny _ _ (call (Value.ref _) _) _ _ _)); (fail_if_success (with_reducible show wpAny _ _ (eval (Expr.ListComp _ _ _ _) _) _ _ _)); (fail_if_success (with_reducible show wpAny _ _ (call (Value.builtin "str.count") _) _ _ _)); (fail_if_success (with_reducible show wpAny _ _ (call (Value.builtin "str.split") _) _ _ _)); (fail_if_success (with_reducible show wpAny _ _ (pyIter _) _ _ _)); (fail_if_success (with_reducible show wpAny _ _ (exec (Stmt.For _ _ _ _ _) _) _ _ _)); first | (with_reducible contradiction) | (first | (k_unfold; (try dsimp only)) | walk1 | (dsimp only; walk1) | (leave1; walk_say "STEP leave1"; try dsimp only) | fail "no step")))
        exact ⟨_, n6, _, _, _, rfl, F7, fun q hq => N7 q (.tail _ hq), fun q hq => (nomatch hq), hI2, f1, f2, f3, f4, rfl⟩
      · rename_i h9 F9 N9 t9 k9 a9
        exact ⟨_, n6, _, _, _, rfl, F9, N9, fun q hq => (nomatch hq), hI2, f1, f2, f3, f4, rfl⟩
    case sm => exact range_up_small hn.2
    case sz => exact range_up
    case done2 =>
      intro m7 n7 h7 tk7 gs7 hJ7 F7 N7
      obtain ⟨f1, f2, f3, f4, rfl⟩ := hJ7
      (repeat' ((fail_if_success (with_reducible show wpAny _ _ (call (Value.ref _) _) _ _ _)); (fail_if_success (with_reducible show wpAny _ _ (eval (Expr.ListComp _ _ _ _) _) _ _ _)); (fail_if_success (with_reducible show wpAny _ _ (call (Value.builtin "str.count") _) _ _ _)); (fail_if_success (with_reducible show wpAny _ _ (call (Value.builtin "str.split") _) _ _ _)); (fail_if_success (with_reducible show wpAny _ _ (pyIter _) _ _ _)); (fail_if_success (with_reducible show wpAny _ _ (exec (Stmt.For _ _ _ _ _) _) _ _ _)); first | (with_reducible contradiction) | (first | (k_unfold; (try dsimp only)) | walk1 | (dsimp only; walk1) | (leave1; walk_say "STEP leave1"; try dsimp only) | fail "no step")))
      rename_i kF kN kT kX
      exact hret _ _ _ kF kN f4
end Mine
end

section
local macro_rules | `(tactic| walk_at "getMethod ref") => `(tactic| (k_here; k_dflt ((first | with_reducible refine' m_append ?F ?X ?N ?h1 ?h2 ?_ | with_reducible refine' m_push ?F ?X ?N ?h1 ?h2 ?_ | with_reducible refine' m_pop_from ?F ?X ?N ?h1 ?h2 ?_ | with_reducible refine' m_pop ?F ?X ?N ?h1 ?h2 ?_ | with_reducible refine' m_reset ?F ?X ?N ?h1 ?h2 ?_ | with_reducible refine' m_is_onlyws ?F ?X ?N ?h1 ?h2 ?_ | with_reducible refine' m_part_count ?F ?X ?N ?h1 ?h2 ?_); (case F => k_asm); (case X => k_asm); (case N => k_asm); (case h1 => k_mem); (case h2 => k_mem))))
local macro_rules | `(tactic| walk_at "wpAt") => `(tactic| (ks_step "attributeBase Call"; k_here; k_dflt (refine ks_node (C := 178) (by k_asm) (by k_asm) (by k_asm) (by k_asm) (by k_is) (by rfl) (by rfl) (acc_at (by k_asm) (by k_mem) (by k_mem)) (by k_is) (by rfl) (by first | rfl | decide +kernel) (by k_is) (by k_is) (by k_is) (by k_is) (by decide) (by rfl) (by rfl) (by rfl) (by rfl) (by decide +kernel) (by first | boot_by_name | rfl | kernel_rfl) ?_; intro so' h' F' N' l1; (try dsimp only))))
local macro_rules | `(tactic| walk_at "getMethod ref") => `(tactic| (k_here; k_dflt ((first | with_reducible refine' s_len ?F ?X ?N ?h1 ?h2 ?_ | with_reducible refine' s_init ?F ?X ?N ?h1 ?h2 ?_ | with_reducible refine' s_pop ?F ?X ?N ?h1 ?h2 ?_); (case F => k_asm); (case X => k_asm); (case N => k_asm); (case h1 => k_mem); (case h2 => k_mem); intro q' h' F' N' l1; (try dsimp only))))
local macro_rules | `(tactic| walk_at "call ref") => `(tactic| (k_here; k_dflt ((with_reducible refine' b_len ?F ?N ?h1 ?h2 ?_); (case F => k_asm); (case N => k_asm); (case h1 => k_mem); (case h2 => k_mem); intro t'; (try dsimp only))))
local macro_rules | `(tactic| walk_at "callWith ref") => `(tactic| (k_here; k_dflt ((with_reducible refine' cw_bound ?N ?h1 ?h2 ?_); (case N => k_asm); (case h1 => k_mem); (case h2 => first | exact .inl rfl | exact .inr rfl))))
local macro_rules | `(tactic| walk_at "wpAt") => `(tactic| ((try dsimp only); ks_step "execs cons"; k_dflt (refine ks_wpAt_execs_cons ?_)))
local macro_rules | `(tactic| walk_at "wpAt") => `(tactic| ((try dsimp only); ks_step "exec Return"; k_dflt (refine ks_wpAt_Return_some ?_)))
local macro_rules | `(tactic| walk_at "wpAt") => `(tactic| ((try dsimp only); ks_step "exec Expr"; k_dflt (refine ks_wpAt_Expr_any ?_)))
local macro_rules | `(tactic| walk_at "wpAt") => `(tactic| ((try dsimp only); ks_step "eval Call"; k_dflt (refine ks_wpAt_MethodCall ?_)))
local macro_rules | `(tactic| walk_at "getAttr ref") => `(tactic| (k_here; k_dflt ((with_reducible refine' acc_read ?F ?X ?N ?h1 ?h2 ?h3 ?_); (case F => k_asm); (case X => k_asm); (case N => k_asm); (case h1 => k_mem); (case h2 => k_mem); (case h3 => exact rfl); (try dsimp only))))
local macro_rules | `(tactic| walk_at "setAttr ref") => `(tactic| (k_here; k_dflt ((with_reducible refine' vf_set ?k1 ?k2 ?k3 ?k4 ?k5 ?k6 ?k7 ?k8 ?k9 ?_); (case k1 => k_asm); (case k2 => k_asm); (case k3 => k_asm); (case k4 => k_mem); (case k5 => k_mem); (case k6 => k_is); (case k7 => k_get); (case k8 => k_put); (case k9 => exact Nat.le_of_ble_eq_true rfl); k_whole; intro h' F' N'; (try dsimp only))))

section
open PySem PySem.W PyProof.Rows
set_option linter.unusedVariables false
namespace Mine
set_option maxRecDepth 100000 in
set_option maxHeartbeats 8000000 in
theorem c_pushC {w : World} {p : Program} {loose : List Str} {mean : ExcName → Option Value} {mg mb : Str → Option Value} {dp un : Nat} {gd : Option (List Code)} {cn : Str} {cs : Scope} {a : Addr} {ccd : Value} {cl : List (Str × Addr)} {outer : List Env} {A₀ : Around} {base h₀ : Heap} {L : Addr} {m : Str → Option Value} {news : List (Addr × Obj)} {s : Shared} {Q E : Value → Shared → Prop}
    {x dx : Addr} {ps : List Part} {ini : Int} {f q : Str} {tf tq : Tok}
    (C : Cx w p loose mean mg mb cs outer A₀ base h₀ L m news s.heap) (ht : TabsOk news) (H : Ac x dx ps ini news) (hz : ps.length < 100000)
    (hdp : dp + 3 < recursionLimit) (hun : un + 20 < cLine)
    (hret : ∀ (r : Addr) (news' : List (Addr × Obj)) (h' : Heap) (tk' : Tok), Fr h₀ L h' m → News h₀ L h' news' → TabsOk news' → Ac x dx (ps ++ [⟨r, f, tf, q, tq⟩]) ini news' → KpA x dx news news' → Q .none { s with heap := h', toks := tk' }) :
    codeAny (model Challenge.rw_nb0260_01.row.prog w) (ktrTop dp un gd cn cs L a ccd cl outer) (.call (.ref 122) ⟨[.ref x, .str f tf, .str q tq], []⟩) (fun r s' => match r with | .ok (.ret v) => Q v s' | .ok _ => False | .error e => E e s') s := by
  obtain ⟨B, F, X, N, T, hk⟩ := C
  obtain ⟨⟨k, hx⟩, ⟨hsh, tki, ti, ki, hdx⟩, hps⟩ := H
  (k_dflt (refine' code_def2 ?k1 ?k2 ?k3 ?k4 ?k5 ?kA ?kF ?kK ?k6 ?k7 ?k8 ?k9 ?kB ?_ ?c2 ?c3 ?c4 ?c5; (case kA => exact rfl); (case kF => exact rfl); (case kK => assumption); (case k1 => k_asm); (case k2 => k_asm); (case k3 => k_asm); (case k4 => k_asm); (case k5 => k_asm); (case k6 => k_is); (case k7 => k_is); (case k8 => ktr_room); (case k9 => first | exact BindsTo.of_eq rfl | exact binds_K (by k_in) rfl (by k_is) rfl rfl rfl); (case c5 => decide); (case kB => exact locs2 rfl); (case c2 => exact rfl); (case c3 => exact rfl); (case c4 => exact rfl); k_whole; intro g' L' h' FG' F' N' B' X' T' l1; (try dsimp only); (try k_lift B'); (try k_fold)))
  k_steps
  rename_i D' h2 F2 N2 l2
  refine acc_append (by k_asm) (by k_asm) (by k_asm) (by k_mem) (by simpa [accI] using hz) ?_
  intro n' h3 F3 N3
  k_steps
  rename_i kF kN kT kX
  have hxD : x ≠ dx := ne_cls N hx hdx (by nofun)
  have kk : ∀ z ∈ news, z.1 ≠ x → z ∈ off x ((D', tupO (.str f tf) (.str q tq)) :: news) := fun z hz1 hz2 => mem_off.mpr ⟨.tail _ hz1, hz2⟩
  have hDx : D' ≠ x := Nat.ne_of_gt (l2 _ hx)
  refine hret D' _ _ _ kF kN (ht.but N hx (by nofun) fun z h1 h2 => .tail _ (kk z h1 h2)) ⟨⟨n', ?_⟩, ⟨hsh, tki, ti, ki, .tail _ (kk _ hdx hxD.symm)⟩, fun z hz1 => ?_⟩ fun z h1 h2 _ _ => .tail _ (kk z h1 h2)
  · have e : accI (ps ++ [⟨D', f, tf, q, tq⟩]) = (accI ps).push (.ref D') := by simp [accI]
    rw [e]; exact .head _
  · rcases List.mem_append.mp hz1 with h1 | h1
    · exact .tail _ (kk _ (hps z h1) (ne_cls N (hps z h1) hx (by nofun)))
    · rw [List.mem_singleton.mp h1]; exact .tail _ (mem_off.mpr ⟨.head _, hDx⟩)
theorem c_push {w : World} {p : Program} {loose : List Str} {mean : ExcName → Option Value} {mg mb : Str → Option Value} {dp un : Nat} {gd : Option (List Code)} {cn : Str} {cs : Scope} {a : Addr} {ccd : Value} {cl : List (Str × Addr)} {outer : List Env} {A₀ : Around} {base h₀ : Heap} {L : Addr} {m : Str → Option Value} {news : List (Addr × Obj)} {s : Shared} {Q E : Value → Shared → Prop}
    {x dx : Addr} {ps : List Part} {ini : Int} {f q : Str} {tf tq : Tok}
    (C : Cx w p loose mean mg mb cs outer A₀ base h₀ L m news s.heap) (ht : TabsOk news) (H : Ac x dx ps ini news) (hz : ps.length < 100000)
    (hdp : dp + 3 < recursionLimit) (hun : un + 20 < cLine)
    (hret : ∀ (r : Addr) (news' : List (Addr × Obj)) (h' : Heap) (tk' : Tok), Fr h₀ L h' m → News h₀ L h' news' → TabsOk news' → Ac x dx (ps ++ [⟨r, f, tf, q, tq⟩]) ini news' → KpA x dx news news' → Q .none { s with heap := h', toks := tk' }) :
    wpAny (model Challenge.rw_nb0260_01.row.prog w) (ktrTop dp un gd cn cs L a ccd cl outer) (call (.ref 122) [.ref x, .str f tf, .str q tq]) Q E s :=
  wpAny_call (c_pushC C ht H hz hdp hun hret)
end Mine
end

section
open PySem PySem.W PyProof.Rows
set_option linter.unusedVariables false
namespace Mine
set_option maxRecDepth 100000 in
set_option maxHeartbeats 8000000 in
theorem c_pc {w : World} {p : Program} {loose : List Str} {mean : ExcName → Option Value} {mg mb : Str → Option Value} {dp un : Nat} {gd : Option (List Code)} {cn : Str} {cs : Scope} {a : Addr} {ccd : Value} {cl : List (Str × Addr)} {outer : List Env} {A₀ : Around} {base h₀ : Heap} {L : Addr} {m : Str → Option Value} {news : List (Addr × Obj)} {s : Shared} {Q E : Value → Shared → Prop}
    {x dx : Addr} {ps : List Part} {ini : Int}
    (C : Cx w p loose mean mg mb cs outer A₀ base h₀ L m news s.heap) (H : Ac x dx ps ini news)
    (hdp : dp + 3 < recursionLimit) (hun : un + 20 < cLine)
    (hret : ∀ (t : Tok) (news' : List (Addr × Obj)) (h' : Heap) (tk' : Tok), Fr h₀ L h' m → News h₀ L h' news' → (∀ q ∈ news, q ∈ news') → Q (.int ps.length t) { s with heap := h', toks := tk' }) :
    wpAny (model Challenge.rw_nb0260_01.row.prog w) (ktrTop dp un gd cn cs L a ccd cl outer) (call (.ref 175) [.ref x]) Q E s := by
  obtain ⟨B, F, X, N, T, hk⟩ := C
  obtain ⟨⟨k, hx⟩, ⟨hsh, tki, ti, ki, hdx⟩, hps⟩ := H
  refine wpAny_call ?_
  ((refine' ks_code_super ?k1 ?k2 ?k3 ?k4 ?k5 ?kA ?kF ?kK ?k6 ?k7 ?k8 ?k9 ?kB ?_ ?c1 ?c2 ?c3 ?c4; (case kA => exact rfl); (case kF => exact rfl); (case kK => assumption); (case k1 => k_asm); (case k2 => k_asm); (case k3 => k_asm); (case k4 => k_asm); (case k5 => k_asm); (case k6 => k_is); (case k7 => k_is); (case k8 => ktr_room); (case k9 => first | exact BindsTo.of_eq rfl | exact binds_K (by k_in) rfl (by k_is) rfl rfl rfl); (case kB => exact locs rfl); (case c1 => decide); (case c2 => exact rfl); (case c3 => exact rfl); (case c4 => exact rfl); intro g' L' h' FG' F' N' B' X' T' l1; (refine' execs_at ?kE ?_; (case kE => exact rfl)); (try dsimp only); (try k_lift B')))
  k_steps
  rename_i kF kN kT kX
  have e : (accI ps).size = ps.length := by simp [accI]
  rw [e]
  exact hret _ _ _ _ kF kN fun q hq => .tail _ (.tail _ hq)
set_option maxRecDepth 100000 in
set_option maxHeartbeats 8000000 in
theorem c_pop0 {w : World} {p : Program} {loose : List Str} {mean : ExcName → Option Value} {mg mb : Str → Option Value} {dp un : Nat} {gd : Option (List Code)} {cn : Str} {cs : Scope} {a : Addr} {ccd : Value} {cl : List (Str × Addr)} {outer : List Env} {A₀ : Around} {base h₀ : Heap} {L : Addr} {m : Str → Option Value} {news : List (Addr × Obj)} {s : Shared} {Q E : Value → Shared → Prop}
    {x dx : Addr} {ini : Int}
    (C : Cx w p loose mean mg mb cs outer A₀ base h₀ L m news s.heap) (H : Ac x dx [] ini news)
    (hdp : dp + 6 < recursionLimit) (hun : un + 40 < cLine)
    (hret : ∀ (r : Addr) (t1 t2 : Tok) (news' : List (Addr × Obj)) (h' : Heap) (tk' : Tok), Fr h₀ L h' m → News h₀ L h' news' → (∀ q ∈ news, q ∈ news') → (r, tupO (.str "" t1) (.str "" t2)) ∈ news' → Q (.ref r) { s with heap := h', toks := tk' }) :
    wpAny (model Challenge.rw_nb0260_01.row.prog w) (ktrTop dp un gd cn cs L a ccd cl outer) (call (.ref 138) [.ref x]) Q E s := by
  obtain ⟨B, F, X, N, T, hk⟩ := C
  have H' := H
  obtain ⟨⟨k, hx⟩, ⟨hsh, tki, ti, ki, hdx⟩, hps⟩ := H
  refine wpAny_call ?_
  ((refine' ks_code_super ?k1 ?k2 ?k3 ?k4 ?k5 ?kA ?kF ?kK ?k6 ?k7 ?k8 ?k9 ?kB ?_ ?c1 ?c2 ?c3 ?c4; (case kA => exact rfl); (case kF => exact rfl); (case kK => assumption); (case k1 => k_asm); (case k2 => k_asm); (case k3 => k_asm); (case k4 => k_asm); (case k5 => k_asm); (case k6 => k_is); (case k7 => k_is); (case k8 => ktr_room); (case k9 => first | exact BindsTo.of_eq rfl | exact binds_K (by k_in) rfl (by k_is) rfl rfl rfl); (case kB => exact locs rfl); (case c1 => decide); (case c2 => exact rfl); (case c3 => exact rfl); (case c4 => exact rfl); intro g' L' h' FG' F' N' B' X' T' l1; (refine' execs_at ?kE ?_; (case kE => exact rfl)); (try dsimp only); (try k_lift B')))
  (repeat' ((fail_if_success (with_reducible show wpAny _ _ (call (Value.ref _) _) _ _ _)); first | (with_reducible contradiction) | (first | (k_unfold; (try dsimp only)) | walk1 | (dsimp only; walk1) | (leave1; walk_say "STEP leave1"; try dsimp only) | fail "no step")))
  refine' c_pc (w := w) ⟨by k_asm, by k_asm, by k_asm, by k_asm, by k_asm, rfl⟩ H' (dpl (a := 1) (b := 3) (c := 6) (by decide) hdp) (dpl (a := 3) (b := 20) (c := 40) (by decide) hun) ?hR3
  intro t1 n1 h1 tk1 F1 N1 e1
  dsimp only [List.length_nil]
  (repeat' ((fail_if_success (with_reducible show wpAny _ _ (call (Value.ref _) _) _ _ _)); first | (with_reducible contradiction) | (first | (k_unfold; (try dsimp only)) | walk1 | (dsimp only; walk1) | (leave1; walk_say "STEP leave1"; try dsimp only) | fail "no step")))
  rename_i kF kN kT kX
  exact hret _ _ _ _ _ _ kF kN (fun q hq => .tail _ (e1 q hq)) (.head _)
set_option maxRecDepth 100000 in
set_option maxHeartbeats 8000000 in
theorem c_pop1 {w : World} {p : Program} {loose : List Str} {mean : ExcName → Option Value} {mg mb : Str → Option Value} {dp un : Nat} {gd : Option (List Code)} {cn : Str} {cs : Scope} {a : Addr} {ccd : Value} {cl : List (Str × Addr)} {outer : List Env} {A₀ : Around} {base h₀ : Heap} {L : Addr} {m : Str → Option Value} {news : List (Addr × Obj)} {s : Shared} {Q E : Value → Shared → Prop}
    {x dx : Addr} {ini : Int} {ps : List Part} {q : Part}
    (C : Cx w p loose mean mg mb cs outer A₀ base h₀ L m news s.heap) (ht : TabsOk news) (H : Ac x dx (ps ++ [q]) ini news) (hz : ps.length < 100000)
    (hdp : dp + 6 < recursionLimit) (hun : un + 40 < cLine)
    (hret : ∀ (news' : List (Addr × Obj)) (h' : Heap) (tk' : Tok), Fr h₀ L h' m → News h₀ L h' news' → TabsOk news' → Ac x dx ps ini news' → (q.ad, q.obj) ∈ news' → KpA x dx news news' → Q (.ref q.ad) { s with heap := h', toks := tk' }) :
    wpAny (model Challenge.rw_nb0260_01.row.prog w) (ktrTop dp un gd cn cs L a ccd cl outer) (call (.ref 138) [.ref x]) Q E s := by
  obtain ⟨B, F, X, N, T, hk⟩ := C
  have H' := H
  obtain ⟨⟨k, hx⟩, ⟨hsh, tki, ti, ki, hdx⟩, hps⟩ := H
  refine wpAny_call ?_
  ((refine' ks_code_super ?k1 ?k2 ?k3 ?k4 ?k5 ?kA ?kF ?kK ?k6 ?k7 ?k8 ?k9 ?kB ?_ ?c1 ?c2 ?c3 ?c4; (case kA => exact rfl); (case kF => exact rfl); (case kK => assumption); (case k1 => k_asm); (case k2 => k_asm); (case k3 => k_asm); (case k4 => k_asm); (case k5 => k_asm); (case k6 => k_is); (case k7 => k_is); (case k8 => ktr_room); (case k9 => first | exact BindsTo.of_eq rfl | exact binds_K (by k_in) rfl (by k_is) rfl rfl rfl); (case kB => exact locs rfl); (case c1 => decide); (case c2 => exact rfl); (case c3 => exact rfl); (case c4 => exact rfl); intro g' L' h' FG' F' N' B' X' T' l1; (refine' execs_at ?kE ?_; (case kE => exact rfl)); (try dsimp only); (try k_lift B')))
  (repeat' ((fail_if_success (with_reducible show wpAny _ _ (call (Value.ref _) _) _ _ _)); first | (with_reducible contradiction) | (first | (k_unfold; (try dsimp only)) | walk1 | (dsimp only; walk1) | (leave1; walk_say "STEP leave1"; try dsimp only) | fail "no step")))
  refine' c_pc (w := w) ⟨by k_asm, by k_asm, by k_asm, by k_asm, by k_asm, rfl⟩ H' (dpl (a := 1) (b := 3) (c := 6) (by decide) hdp) (dpl (a := 3) (b := 20) (c := 40) (by decide) hun) ?hR3
  intro t1 n1 h1 tk1 F1 N1 e1
  have hx1 := e1 _ hx
  have hdx1 := e1 _ hdx
  have hne : ¬ (((ps ++ [q]).length : Int) = 0) := by simp; omega
  generalize ((ps ++ [q]).length : Int) = z at hne ⊢
  rw [show accI (ps ++ [q]) = ((ps.map fun q => Value.ref q.ad) ++ [Value.ref q.ad]).toArray by simp [accI]] at hx1
  (repeat' ((fail_if_success (with_reducible show wpAny _ _ (call (Value.ref _) _) _ _ _)); first | (with_reducible contradiction) | (first | (k_unfold; (try dsimp only)) | walk1 | (dsimp only; walk1) | (leave1; walk_say "STEP leave1"; try dsimp only) | fail "no step")))
  rename_i so h2 F2 N2 l2 bq h3 F3 N3 l3
  refine b_pop (by k_asm) (by k_asm) (by k_asm) (by k_mem) (by k_mem) (by simpa using hz) ?_
  intro n4 h4 F4 N4
  (repeat' ((fail_if_success (with_reducible show wpAny _ _ (call (Value.ref _) _) _ _ _)); first | (with_reducible contradiction) | (first | (k_unfold; (try dsimp only)) | walk1 | (dsimp only; walk1) | (leave1; walk_say "STEP leave1"; try dsimp only) | fail "no step")))
  rename_i kF kN kT kX
  have kk : ∀ z ∈ news, z.1 ≠ x → z ∈ off x ((bq, boundO "builtin_function_or_method" "list.pop" x) :: (so, ks_superObj 178 x 178) :: n1) := fun z hz1 hz2 => mem_off.mpr ⟨.tail _ (.tail _ (e1 z hz1)), hz2⟩
  have hxD : dx ≠ x := ne_cls N hdx hx (by nofun)
  have hqx : ∀ z ∈ ps ++ [q], z.ad ≠ x := fun z hz1 => ne_cls N (hps z hz1) hx (by nofun)
  refine hret _ _ _ kF kN (ht.but N hx (by nofun) fun z h1 h2 => .tail _ (kk z h1 h2)) ⟨⟨n4, .head _⟩, ⟨hsh, tki, ti, ki, .tail _ (kk _ hdx hxD)⟩, fun z hz1 => .tail _ (kk _ (hps z (List.mem_append_left _ hz1)) (hqx z (List.mem_append_left _ hz1)))⟩ (.tail _ (kk _ (hps q (by simp)) (hqx q (by simp)))) fun z h1 h2 _ _ => .tail _ (kk z h1 h2)
end Mine
end

section
open PySem PySem.W PyProof.Rows
set_option linter.unusedVariables false
namespace Mine
set_option maxRecDepth 100000 in
set_option maxHeartbeats 8000000 in
theorem c_make {w : World} {p : Program} {loose : List Str} {mean : ExcName → Option Value} {mg mb : Str → Option Value} {dp un : Nat} {gd : Option (List Code)} {cn : Str} {cs : Scope} {a : Addr} {ccd : Value} {cl : List (Str × Addr)} {outer : List Env} {A₀ : Around} {base h₀ : Heap} {L : Addr} {m : Str → Option Value} {news : List (Addr × Obj)} {s : Shared} {Q E : Value → Shared → Prop}
    {v : Int} {tv : Tok}
    (C : Cx w p loose mean mg mb cs outer A₀ base h₀ L m news s.heap) 
    (hdp : dp + 6 < recursionLimit) (hun : un + 40 < cLine)
    (hret : ∀ (x dx : Addr) (news' : List (Addr × Obj)) (h' : Heap) (tk' : Tok), Fr h₀ L h' m → News h₀ L h' news' → (∀ q ∈ news, q ∈ news') → Ac x dx [] v news' → (∀ q ∈ news, q.1 < dx) → dx < x → Q (.ref x) { s with heap := h', toks := tk' }) :
    wpAny (model Challenge.rw_nb0260_01.row.prog w) (ktrTop dp un gd cn cs L a ccd cl outer) (call (.ref 178) [.int v tv]) Q E s := by
  obtain ⟨B, F, X, N, T, hk⟩ := C
  refine wpAny_call (acc_make F N (X.keeps F.keep) fun x dx h1 F1 N1 l1 l2 => ?_)
  ((refine' ks_code_super ?k1 ?k2 ?k3 ?k4 ?k5 ?kA ?kF ?kK ?k6 ?k7 ?k8 ?k9 ?kB ?_ ?c1 ?c2 ?c3 ?c4; (case kA => exact rfl); (case kF => exact rfl); (case kK => assumption); (case k1 => k_asm); (case k2 => k_asm); (case k3 => k_asm); (case k4 => k_asm); (case k5 => k_asm); (case k6 => k_is); (case k7 => k_is); (case k8 => ktr_room); (case k9 => first | exact BindsTo.of_eq rfl | exact binds_K (by k_in) rfl (by k_is) rfl rfl rfl); (case kB => exact locs rfl); (case c1 => decide); (case c2 => exact rfl); (case c3 => exact rfl); (case c4 => exact rfl); intro g' L' h' FG' F' N' B' X' T' l3; (refine' execs_at ?kE ?_; (case kE => exact rfl)); (try dsimp only); (try k_lift B')))
  (repeat' ((fail_if_success (with_reducible show wpAny _ _ (call (Value.ref _) _) _ _ _)); first | (with_reducible contradiction) | (first | (k_unfold; (try dsimp only)) | walk1 | (dsimp only; walk1) | (leave1; walk_say "STEP leave1"; try dsimp only) | fail "no step")))
  refine acc_set1 (n := 0) (by k_asm) (by k_asm) (by k_asm) (List.Mem.head _) (.tail _ (.head _)) ?_
  intro hsh tk2 n2 h2 F2 N2
  have hne : dx ≠ x := Nat.ne_of_lt l2
  have hx2 : (x, accO dx #[] 0) ∈ (dx, accD hsh tk2 (.int v tv) n2) :: off dx ((x, accO dx #[] 0) :: (dx, emptyDict) :: news) := .tail _ (mem_off.mpr ⟨.head _, hne.symm⟩)
  have hd2 : (dx, accD hsh tk2 (.int v tv) n2) ∈ (dx, accD hsh tk2 (.int v tv) n2) :: off dx ((x, accO dx #[] 0) :: (dx, emptyDict) :: news) := .head _
  have kk : ∀ z ∈ news, z ∈ (dx, accD hsh tk2 (.int v tv) n2) :: off dx ((x, accO dx #[] 0) :: (dx, emptyDict) :: news) := fun z hz => .tail _ (mem_off.mpr ⟨.tail _ (.tail _ hz), Nat.ne_of_lt (l1 z hz)⟩)
  generalize (dx, accD hsh tk2 (.int v tv) n2) :: off dx ((x, accO dx #[] 0) :: (dx, emptyDict) :: news) = news2 at N2 hx2 hd2 kk ⊢
  (repeat' ((fail_if_success (with_reducible show wpAny _ _ (call (Value.ref _) _) _ _ _)); first | (with_reducible contradiction) | (first | (k_unfold; (try dsimp only)) | walk1 | (dsimp only; walk1) | (leave1; walk_say "STEP leave1"; try dsimp only) | fail "no step")))
  rename_i so h3 F3 N3 l3 bq h4 F4 N4 l4
  refine b_init (by k_asm) (by k_asm) (by k_mem) (by k_mem) ?_
  intro n5 h5 F5 N5
  (repeat' ((fail_if_success (with_reducible show wpAny _ _ (call (Value.ref _) _) _ _ _)); first | (with_reducible contradiction) | (first | (k_unfold; (try dsimp only)) | walk1 | (dsimp only; walk1) | (leave1; walk_say "STEP leave1"; try dsimp only) | fail "no step")))
  rename_i kF kN kT kX
  have hlx : ∀ z ∈ news, z.1 ≠ x := fun z hz => Nat.ne_of_lt (Nat.lt_trans (l1 z hz) l2)
  refine hret x dx _ _ _ kF kN (fun z hz => .tail _ (mem_off.mpr ⟨.tail _ (.tail _ (kk z hz)), hlx z hz⟩)) ⟨⟨n5, .head _⟩, ⟨hsh, tk2, tv, n2, .tail _ (mem_off.mpr ⟨.tail _ (.tail _ hd2), hne⟩)⟩, fun z hz => nomatch hz⟩ l1 l2
set_option maxRecDepth 100000 in
set_option maxHeartbeats 8000000 in
theorem c_popfrom {w : World} {p : Program} {loose : List Str} {mean : ExcName → Option Value} {mg mb : Str → Option Value} {dp un : Nat} {gd : Option (List Code)} {cn : Str} {cs : Scope} {a : Addr} {ccd : Value} {cl : List (Str × Addr)} {outer : List Env} {A₀ : Around} {base h₀ : Heap} {L : Addr} {m : Str → Option Value} {news : List (Addr × Obj)} {s : Shared} {Q E : Value → Shared → Prop}
    {x dx : Addr} {ini : Int} {ps : List Part} {i : Nat} {ti : Tok}
    (C : Cx w p loose mean mg mb cs outer A₀ base h₀ L m news s.heap) (ht : TabsOk news) (H : Ac x dx ps ini news) (hz : ps.length ≤ 500) (hi : i ≤ ps.length)
    (hdp : dp + 6 < recursionLimit) (hun : un + 40 < cLine)
    (hret : ∀ (r : Addr) (k : Nat) (news' : List (Addr × Obj)) (h' : Heap) (tk' : Tok), Fr h₀ L h' m → News h₀ L h' news' → TabsOk news' → Ac x dx (ps.take i) ini news' → (r, listOf (accI (ps.drop i)) k) ∈ news' → PartsIn (ps.drop i) news' → KpA x dx news news' → Q (.ref r) { s with heap := h', toks := tk' }) :
    wpAny (model Challenge.rw_nb0260_01.row.prog w) (ktrTop dp un gd cn cs L a ccd cl outer) (call (.ref 130) [.ref x, .int i ti]) Q E s := by
  obtain ⟨B, F, X, N, T, hk⟩ := C
  have H' := H
  obtain ⟨⟨k, hx⟩, ⟨hsh, tki, tii, ki, hdx⟩, hps⟩ := H
  refine wpAny_call ?_
  (k_dflt (refine' code_def2 ?k1 ?k2 ?k3 ?k4 ?k5 ?kA ?kF ?kK ?k6 ?k7 ?k8 ?k9 ?kB ?_ ?c2 ?c3 ?c4 ?c5; (case kA => exact rfl); (case kF => exact rfl); (case kK => assumption); (case k1 => k_asm); (case k2 => k_asm); (case k3 => k_asm); (case k4 => k_asm); (case k5 => k_asm); (case k6 => k_is); (case k7 => k_is); (case k8 => ktr_room); (case k9 => first | exact BindsTo.of_eq rfl | exact binds_K (by k_in) rfl (by k_is) rfl rfl rfl); (case c5 => decide); (case kB => exact locs2 rfl); (case c2 => exact rfl); (case c3 => exact rfl); (case c4 => exact rfl); k_whole; intro g' L' h' FG' F' N' B' X' T' l1; (try dsimp only); (try k_lift B'); (try k_fold)))
  (repeat' ((fail_if_success (with_reducible show wpAny _ _ (call (Value.ref _) _) _ _ _)); first | (with_reducible contradiction) | (first | (k_unfold; (try dsimp only)) | walk1 | (dsimp only; walk1) | (leave1; walk_say "STEP leave1"; try dsimp only) | fail "no step")))
  refine acc_sliceL (by k_asm) (by k_asm) (by k_asm) (by k_mem) (.int _ _) .none (by rw [show (accI ps).size = ps.length by simp [accI]]; exact Nat.le_trans hz (by decide)) ?_
  intro r h2 F2 N2 l2
  rw [slicePick_from' (accI ps) i] at N2
  (repeat' ((fail_if_success (with_reducible show wpAny _ _ (call (Value.ref _) _) _ _ _)); first | (with_reducible contradiction) | (first | (k_unfold; (try dsimp only)) | walk1 | (dsimp only; walk1) | (leave1; walk_say "STEP leave1"; try dsimp only) | fail "no step")))
  rename_i h3 l3 h4 F4 N4 ll
  have hcut := cut_from (as := ps.map fun q => Value.ref q.ad) (i := i) (by simpa using hi)
  have hsz : (accI ps).size = (ps.map fun q => Value.ref q.ad).length := by simp [accI]
  refine acc_setL (its := ((ps.map fun q => Value.ref q.ad).take i).toArray) (by k_asm) (by k_asm) (by k_asm) (by k_mem) (List.Mem.head _) (.int _ _) .none (by rw [hsz]; simp; omega) (by rw [hsz]; exact hcut) ?_
  intro n5 h5 F5 N5
  (repeat' ((fail_if_success (with_reducible show wpAny _ _ (call (Value.ref _) _) _ _ _)); first | (with_reducible contradiction) | (first | (k_unfold; (try dsimp only)) | walk1 | (dsimp only; walk1) | (leave1; walk_say "STEP leave1"; try dsimp only) | fail "no step")))
  rename_i kF kN kT kX
  have hrx : r ≠ x := Nat.ne_of_gt (l2 _ hx)
  have kk : ∀ z ∈ news, z.1 ≠ x → z ∈ off x ((l3, listOf #[] 0) :: (r, listOf ((accI ps).toList.drop i).toArray 0) :: news) := fun z hz1 hz2 => mem_off.mpr ⟨.tail _ (.tail _ hz1), hz2⟩
  have hxD : dx ≠ x := ne_cls N hdx hx (by nofun)
  have hqx : ∀ z ∈ ps, z.ad ≠ x := fun z hz1 => ne_cls N (hps z hz1) hx (by nofun)
  have e1 : ((ps.map fun q => Value.ref q.ad).take i).toArray = accI (ps.take i) := by simp [accI]
  have e2 : ((accI ps).toList.drop i).toArray = accI (ps.drop i) := by simp [accI]
  rw [e1, e2] at kN
  rw [e2] at kk
  refine hret r 0 _ _ _ kF kN (ht.but N hx (by nofun) fun z h1 h2 => .tail _ (kk z h1 h2)) ⟨⟨n5, .head _⟩, ⟨hsh, tki, tii, ki, .tail _ (kk _ hdx hxD)⟩, fun z hz1 => .tail _ (kk _ (hps z (List.mem_of_mem_take hz1)) (hqx z (List.mem_of_mem_take hz1)))⟩
    (.tail _ (mem_off.mpr ⟨.tail _ (.head _), hrx⟩)) (fun z hz1 => .tail _ (kk _ (hps z (List.mem_of_mem_drop hz1)) (hqx z (List.mem_of_mem_drop hz1)))) fun z h1 h2 _ _ => .tail _ (kk z h1 h2)
set_option maxRecDepth 100000 in
set_option maxHeartbeats 8000000 in
theorem c_reset0 {w : World} {p : Program} {loose : List Str} {mean : ExcName → Option Value} {mg mb : Str → Option Value} {dp un : Nat} {gd : Option (List Code)} {cn : Str} {cs : Scope} {a : Addr} {ccd : Value} {cl : List (Str × Addr)} {outer : List Env} {A₀ : Around} {base h₀ : Heap} {L : Addr} {m : Str → Option Value} {news : List (Addr × Obj)} {s : Shared} {Q E : Value → Shared → Prop}
    {x dx : Addr} {ini : Int} {ps : List Part}
    (C : Cx w p loose mean mg mb cs outer A₀ base h₀ L m news s.heap) (ht : TabsOk news) (H : Ac x dx ps ini news) (hz : ps.length ≤ 500)
    (hdp : dp + 6 < recursionLimit) (hun : un + 40 < cLine)
    (hret : ∀ (news' : List (Addr × Obj)) (h' : Heap) (tk' : Tok), Fr h₀ L h' m → News h₀ L h' news' → TabsOk news' → Ac x dx [] 0 news' → KpA x dx news news' → Q .none { s with heap := h', toks := tk' }) :
    wpAny (model Challenge.rw_nb0260_01.row.prog w) (ktrTop dp un gd cn cs L a ccd cl outer) (call (.ref 160) [.ref x]) Q E s := by
  obtain ⟨B, F, X, N, T, hk⟩ := C
  have H' := H
  obtain ⟨⟨k, hx⟩, ⟨hsh, tki, tii, ki, hdx⟩, hps⟩ := H
  refine wpAny_call ?_
  (k_dflt (refine' code_def2 ?k1 ?k2 ?k3 ?k4 ?k5 ?kA ?kF ?kK ?k6 ?k7 ?k8 ?k9 ?kB ?_ ?c2 ?c3 ?c4 ?c5; (case kA => exact rfl); (case kF => exact rfl); (case kK => assumption); (case k1 => k_asm); (case k2 => k_asm); (case k3 => k_asm); (case k4 => k_asm); (case k5 => k_asm); (case k6 => k_is); (case k7 => k_is); (case k8 => ktr_room); (case k9 => first | exact BindsTo.of_eq rfl | exact binds_K (by k_in) rfl (by k_is) rfl rfl rfl); (case c5 => decide); (case kB => exact locs2 rfl); (case c2 => exact rfl); (case c3 => exact rfl); (case c4 => exact rfl); k_whole; intro g' L' h' FG' F' N' B' X' T' l1; (try dsimp only); (try k_lift B'); (try k_fold)))
  (repeat' ((fail_if_success (with_reducible show wpAny _ _ (call (Value.ref _) _) _ _ _)); first | (with_reducible contradiction) | (first | (k_unfold; (try dsimp only)) | walk1 | (dsimp only; walk1) | (leave1; walk_say "STEP leave1"; try dsimp only) | fail "no step")))
  rename_i l3 h3 l3' h4 F4 N4
  have hcut := put_whole (as := ps.map fun q => Value.ref q.ad) (bs := ([] : List Part).map fun q => Value.ref q.ad)
  have hsz : (accI ps).size = (ps.map fun q => Value.ref q.ad).length := by simp [accI]
  refine acc_setL (its := accI ([] : List Part)) (by k_asm) (by k_asm) (by k_asm) (by k_mem) (List.Mem.head _) .none .none (by rw [hsz]; simp; omega) (by rw [hsz]; exact hcut) ?_
  intro n5 h5 F5 N5
  have hxD : dx ≠ x := ne_cls N hdx hx (by nofun)
  have kk : ∀ z ∈ news, z.1 ≠ x → z ∈ (x, accO dx (accI ([] : List Part)) n5) :: off x ((l3, listOf #[] 0) :: news) := fun z hz1 hz2 => .tail _ (mem_off.mpr ⟨.tail _ hz1, hz2⟩)
  have hx5 : (x, accO dx (accI ([] : List Part)) n5) ∈ (x, accO dx (accI ([] : List Part)) n5) :: off x ((l3, listOf #[] 0) :: news) := .head _
  have hdx5 := kk _ hdx hxD
  generalize (x, accO dx (accI ([] : List Part)) n5) :: off x ((l3, listOf #[] 0) :: news) = news5 at N5 kk hx5 hdx5 ⊢
  have N5' := N5
  have hqs : PartsIn [] news := fun z hz => nomatch hz
  have hqx : ∀ z ∈ ([] : List Part), z.ad ≠ x ∧ z.ad ≠ dx := fun z hz => nomatch hz
  (repeat' ((fail_if_success (with_reducible show wpAny _ _ (call (Value.ref _) _) _ _ _)); first | (with_reducible contradiction) | (first | (k_unfold; (try dsimp only)) | walk1 | (dsimp only; walk1) | (leave1; walk_say "STEP leave1"; try dsimp only) | fail "no step")))
  refine acc_set2 (by k_asm) (by k_asm) (by k_asm) (by k_mem) (by k_mem) ?_
  intro n6 h6 F6 N6
  (repeat' ((fail_if_success (with_reducible show wpAny _ _ (call (Value.ref _) _) _ _ _)); first | (with_reducible contradiction) | (first | (k_unfold; (try dsimp only)) | walk1 | (dsimp only; walk1) | (leave1; walk_say "STEP leave1"; try dsimp only) | fail "no step")))
  rename_i kF kN kT kX
  have kd : ∀ z ∈ news, z.1 ≠ x → z.1 ≠ dx → z ∈ off dx news5 := fun z h1 h2 h3 => mem_off.mpr ⟨kk z h1 h2, h3⟩
  refine hret _ _ _ kF kN (TabsOk.but (TabsOk.but ht N hx (by nofun) kk) N5' hdx5 (by nofun) fun z h1 h2 => .tail _ (mem_off.mpr ⟨h1, h2⟩)) ⟨⟨n5, .tail _ (mem_off.mpr ⟨hx5, hxD.symm⟩)⟩, ⟨hsh, tki, _, n6, .head _⟩, fun z hz1 => .tail _ (kd _ (hqs z hz1) (hqx z hz1).1 (hqx z hz1).2)⟩ fun z h1 h2 h3 _ => .tail _ (kd z h1 h2 h3)
set_option maxRecDepth 100000 in
set_option maxHeartbeats 8000000 in
theorem c_reset1 {w : World} {p : Program} {loose : List Str} {mean : ExcName → Option Value} {mg mb : Str → Option Value} {dp un : Nat} {gd : Option (List Code)} {cn : Str} {cs : Scope} {a : Addr} {ccd : Value} {cl : List (Str × Addr)} {outer : List Env} {A₀ : Around} {base h₀ : Heap} {L : Addr} {m : Str → Option Value} {news : List (Addr × Obj)} {s : Shared} {Q E : Value → Shared → Prop}
    {x dx : Addr} {ini : Int} {ps : List Part} {qs : List Part} {r : Addr} {kr : Nat}
    (C : Cx w p loose mean mg mb cs outer A₀ base h₀ L m news s.heap) (ht : TabsOk news) (H : Ac x dx ps ini news) (hz : ps.length ≤ 500) (hr : (r, listOf (accI qs) kr) ∈ news) (hqs : PartsIn qs news) (hz2 : qs.length ≤ 500)
    (hdp : dp + 6 < recursionLimit) (hun : un + 40 < cLine)
    (hret : ∀ (news' : List (Addr × Obj)) (h' : Heap) (tk' : Tok), Fr h₀ L h' m → News h₀ L h' news' → TabsOk news' → Ac x dx qs 0 news' → KpA x dx news news' → Q .none { s with heap := h', toks := tk' }) :
    wpAny (model Challenge.rw_nb0260_01.row.prog w) (ktrTop dp un gd cn cs L a ccd cl outer) (call (.ref 160) [.ref x, .ref r]) Q E s := by
  obtain ⟨B, F, X, N, T, hk⟩ := C
  have H' := H
  obtain ⟨⟨k, hx⟩, ⟨hsh, tki, tii, ki, hdx⟩, hps⟩ := H
  refine wpAny_call ?_
  (k_dflt (refine' code_def2 ?k1 ?k2 ?k3 ?k4 ?k5 ?kA ?kF ?kK ?k6 ?k7 ?k8 ?k9 ?kB ?_ ?c2 ?c3 ?c4 ?c5; (case kA => exact rfl); (case kF => exact rfl); (case kK => assumption); (case k1 => k_asm); (case k2 => k_asm); (case k3 => k_asm); (case k4 => k_asm); (case k5 => k_asm); (case k6 => k_is); (case k7 => k_is); (case k8 => ktr_room); (case k9 => first | exact BindsTo.of_eq rfl | exact binds_K (by k_in) rfl (by k_is) rfl rfl rfl); (case c5 => decide); (case kB => exact locs2 rfl); (case c2 => exact rfl); (case c3 => exact rfl); (case c4 => exact rfl); k_whole; intro g' L' h' FG' F' N' B' X' T' l1; (try dsimp only); (try k_lift B'); (try k_fold)))
  (repeat' ((fail_if_success (with_reducible show wpAny _ _ (call (Value.ref _) _) _ _ _)); first | (with_reducible contradiction) | (first | (k_unfold; (try dsimp only)) | walk1 | (dsimp only; walk1) | (leave1; walk_say "STEP leave1"; try dsimp only) | fail "no step")))

  have hcut := put_whole (as := ps.map fun q => Value.ref q.ad) (bs := qs.map fun q => Value.ref q.ad)
  have hsz : (accI ps).size = (ps.map fun q => Value.ref q.ad).length := by simp [accI]
  refine acc_setL (its := accI qs) (by k_asm) (by k_asm) (by k_asm) (by k_mem) (by k_mem) .none .none (by rw [hsz]; simp; omega) (by rw [hsz]; exact hcut) ?_
  intro n5 h5 F5 N5
  have hxD : dx ≠ x := ne_cls N hdx hx (by nofun)
  have kk : ∀ z ∈ news, z.1 ≠ x → z ∈ (x, accO dx (accI qs) n5) :: off x news := fun z hz1 hz2 => .tail _ (mem_off.mpr ⟨hz1, hz2⟩)
  have hx5 : (x, accO dx (accI qs) n5) ∈ (x, accO dx (accI qs) n5) :: off x news := .head _
  have hdx5 := kk _ hdx hxD
  generalize (x, accO dx (accI qs) n5) :: off x news = news5 at N5 kk hx5 hdx5 ⊢
  have N5' := N5
  have hqx : ∀ z ∈ qs, z.ad ≠ x ∧ z.ad ≠ dx := fun z hz => ⟨ne_cls N (hqs z hz) hx (by nofun), ne_data N (hqs z hz) hdx (by nofun)⟩
  (repeat' ((fail_if_success (with_reducible show wpAny _ _ (call (Value.ref _) _) _ _ _)); first | (with_reducible contradiction) | (first | (k_unfold; (try dsimp only)) | walk1 | (dsimp only; walk1) | (leave1; walk_say "STEP leave1"; try dsimp only) | fail "no step")))
  refine acc_set2 (by k_asm) (by k_asm) (by k_asm) (by k_mem) (by k_mem) ?_
  intro n6 h6 F6 N6
  (repeat' ((fail_if_success (with_reducible show wpAny _ _ (call (Value.ref _) _) _ _ _)); first | (with_reducible contradiction) | (first | (k_unfold; (try dsimp only)) | walk1 | (dsimp only; walk1) | (leave1; walk_say "STEP leave1"; try dsimp only) | fail "no step")))
  rename_i kF kN kT kX
  have kd : ∀ z ∈ news, z.1 ≠ x → z.1 ≠ dx → z ∈ off dx news5 := fun z h1 h2 h3 => mem_off.mpr ⟨kk z h1 h2, h3⟩
  refine hret _ _ _ kF kN (TabsOk.but (TabsOk.but ht N hx (by nofun) kk) N5' hdx5 (by nofun) fun z h1 h2 => .tail _ (mem_off.mpr ⟨h1, h2⟩)) ⟨⟨n5, .tail _ (mem_off.mpr ⟨hx5, hxD.symm⟩)⟩, ⟨hsh, tki, _, n6, .head _⟩, fun z hz1 => .tail _ (kd _ (hqs z hz1) (hqx z hz1).1 (hqx z hz1).2)⟩ fun z h1 h2 h3 _ => .tail _ (kd z h1 h2 h3)
end Mine
end

section
open PySem PySem.W PyProof.Rows
set_option linter.unusedVariables false
namespace Mine
set_option maxRecDepth 100000 in
set_option maxHeartbeats 8000000 in
theorem c_len {w : World} {p : Program} {loose : List Str} {mean : ExcName → Option Value} {mg mb : Str → Option Value} {dp un : Nat} {gd : Option (List Code)} {cn : Str} {cs : Scope} {a : Addr} {ccd : Value} {cl : List (Str × Addr)} {outer : List Env} {A₀ : Around} {base h₀ : Heap} {L : Addr} {m : Str → Option Value} {news : List (Addr × Obj)} {s : Shared} {Q E : Value → Shared → Prop}
    {x dx : Addr} {ini : Int} {ps : List Part}
    (C : Cx w p loose mean mg mb cs outer A₀ base h₀ L m news s.heap) (ht : TabsOk news) (hC : CodeHd h₀ 144 140) (G : AllBare s.gens) (H : Ac x dx ps ini news) (hi : 0 ≤ ini ∧ ini ≤ 1000) (hsm : ∀ q ∈ ps, q.f.length ≤ 1000 ∧ q.p.length ≤ 1000)
    (hdp : dp + 6 < recursionLimit) (hun : un + 40 < cLine)
    (hret : ∀ (t : Tok) (news' : List (Addr × Obj)) (h' : Heap) (tk' : Tok) (gs : Array GenState), Fr h₀ L h' m → News h₀ L h' news' → TabsOk news' → AllBare gs → Kp news news' → Q (.int (ini + ((ps.map fun q => ((q.f.length + q.p.length : Nat) : Int)).sum)) t) ⟨h', gs, s.drawn, tk', s.os⟩) :
    wpAny (model Challenge.rw_nb0260_01.row.prog w) (ktrTop dp un gd cn cs L a ccd cl outer) (call (.ref 145) [.ref x]) Q E s := by
  obtain ⟨B, F, X, N, T, hk⟩ := C
  have H' := H
  obtain ⟨⟨k, hx⟩, ⟨hsh, tki, tii, ki, hdx⟩, hps⟩ := H
  refine wpAny_call ?_
  (k_dflt (refine' code_def2 ?k1 ?k2 ?k3 ?k4 ?k5 ?kA ?kF ?kK ?k6 ?k7 ?k8 ?k9 ?kB ?_ ?c2 ?c3 ?c4 ?c5; (case kA => exact rfl); (case kF => exact rfl); (case kK => assumption); (case k1 => k_asm); (case k2 => k_asm); (case k3 => k_asm); (case k4 => k_asm); (case k5 => k_asm); (case k6 => k_is); (case k7 => k_is); (case k8 => ktr_room); (case k9 => first | exact BindsTo.of_eq rfl | exact binds_K (by k_in) rfl (by k_is) rfl rfl rfl); (case c5 => decide); (case kB => exact locs2 rfl); (case c2 => exact rfl); (case c3 => exact rfl); (case c4 => exact rfl); k_whole; intro g' L' h' FG' F' N' B' X' T' l1; (try dsimp only); (try k_lift B'); (try k_fold)))
  (repeat' ((fail_if_success (with_reducible show wpAny _ _ (eval (Expr.GeneratorExp _ _ _ _) _) _ _ _)); first | (with_reducible contradiction) | (first | (k_unfold; (try dsimp only)) | walk1 | (dsimp only; walk1) | (leave1; walk_say "STEP leave1"; try dsimp only) | fail "no step")))
  refine' gen_pairs (x := x) (ps := ps) (Fv := fun f p y => ∃ t, y = .int ((f.length + p.length : Nat) : Int) t) (by k_asm) (by k_asm) (by k_asm) (by k_asm) G (hC.keeps FG'.keep) rfl rfl ht.len hx hps rfl rfl rfl (by decide) rfl rfl rfl (by decide) rfl ?room (by intro _; rfl) ?he ?helt ?hq
  case room => ktr_room
  case he =>
    intro R hR
    (first | (k_unfold; (try dsimp only)) | walk1 | (dsimp only; walk1) | (leave1; walk_say "STEP leave1"; try dsimp only) | fail "no step")
    exact hR
  case helt =>
    intro c' C' A' E' q u m2 hq hA hD hU F2 ha hb
    exact elt_len F2 X' T' rfl rfl rfl rfl rfl rfl ha hb (by decide) (by decide) (hsm q hq).1 (hsm q hq).2
  case hq =>
    intro ga n1 h1 tk1 gs F1 N1 t1 e1 G1 V1
    have hx1 := e1 _ hx (ne_obj N hx (by exact ht.len.isQ.choose_spec.1) (fun e => absurd ht.len.isQ.choose_spec.2 (by rw [← e]; exact notQ (by nofun))))
    have hdx1 := e1 _ hdx (ne_obj N hdx (by exact ht.len.isQ.choose_spec.1) (fun e => absurd ht.len.isQ.choose_spec.2 (by rw [← e]; exact notQ (by nofun))))
    (repeat' ((fail_if_success (with_reducible show wpAny _ _ (call (Value.ref _) _) _ _ _)); first | (with_reducible contradiction) | (first | (k_unfold; (try dsimp only)) | walk1 | (dsimp only; walk1) | (leave1; walk_say "STEP leave1"; try dsimp only) | fail "no step")))
    try (refine acc_read (by k_asm) (by k_asm) (by k_asm) (by k_mem) (by k_mem) rfl ?_)
    (repeat' ((fail_if_success (with_reducible show wpAny _ _ (call (Value.builtin "sum") _) _ _ _)); first | (with_reducible contradiction) | (first | (k_unfold; (try dsimp only)) | walk1 | (dsimp only; walk1) | (leave1; walk_say "STEP leave1"; try dsimp only) | fail "no step")))
    refine sum_led (by k_asm) (by k_asm) G1 (GenL.tick V1) (fun j => ((ps.map fun q => ((q.f.length + q.p.length : Nat) : Int)).getD j 0)) (fun j v hv => ?hval) ⟨by omega, by omega⟩ ?hfin
    case hval =>
      obtain ⟨q, e1, t, e2⟩ := hv
      exact ⟨t, by rw [e2]; simp [List.getD_eq_getElem?_getD, e1]⟩
    intro h2 gs2 tk2 t2 F2 N2 G2
    (repeat' ((fail_if_success (with_reducible show wpAny _ _ (call (Value.ref _) _) _ _ _)); first | (with_reducible contradiction) | (first | (k_unfold; (try dsimp only)) | walk1 | (dsimp only; walk1) | (leave1; walk_say "STEP leave1"; try dsimp only) | fail "no step")))
    rename_i kF kN kT kX
    have e := preSum_getD (ps.map fun q => ((q.f.length + q.p.length : Nat) : Int)) ps.length
    rw [List.take_of_length_le (by simp)] at e
    rw [e]
    exact hret _ _ _ _ _ kF kN ⟨t1, ht.str.keep N ht.len (by decide) e1, ht.i2d.keep N ht.len (by decide) e1, ht.d2i.keep N ht.len (by decide) e1⟩ G2 (Kp.of N ht.len e1)
set_option maxRecDepth 100000 in
set_option maxHeartbeats 8000000 in
theorem c_str {w : World} {p : Program} {loose : List Str} {mean : ExcName → Option Value} {mg mb : Str → Option Value} {dp un : Nat} {gd : Option (List Code)} {cn : Str} {cs : Scope} {a : Addr} {ccd : Value} {cl : List (Str × Addr)} {outer : List Env} {A₀ : Around} {base h₀ : Heap} {L : Addr} {m : Str → Option Value} {news : List (Addr × Obj)} {s : Shared} {Q E : Value → Shared → Prop}
    {x dx : Addr} {ini : Int} {ps : List Part}
    (C : Cx w p loose mean mg mb cs outer A₀ base h₀ L m news s.heap) (ht : TabsOk news) (hC : CodeHd h₀ 151 147) (G : AllBare s.gens) (H : Ac x dx ps ini news)
    (hj : ∀ q ∈ ps, JoinOk "" [q.f, q.p] = true) (hj2 : JoinOk "" (ps.map fun q => Txt.join "" [q.f, q.p]) = true) (hl : ps.length ≤ 1000)
    (hdp : dp + 6 < recursionLimit) (hun : un + 40 < cLine)
    (hret : ∀ (t : Tok) (news' : List (Addr × Obj)) (h' : Heap) (tk' : Tok) (gs : Array GenState), Fr h₀ L h' m → News h₀ L h' news' → TabsOk news' → AllBare gs → Kp news news' → Q (.str (Txt.join "" (ps.map fun q => Txt.join "" [q.f, q.p])) t) ⟨h', gs, s.drawn, tk', s.os⟩) :
    wpAny (model Challenge.rw_nb0260_01.row.prog w) (ktrTop dp un gd cn cs L a ccd cl outer) (call (.ref 152) [.ref x]) Q E s := by
  obtain ⟨B, F, X, N, T, hk⟩ := C
  have H' := H
  obtain ⟨⟨k, hx⟩, ⟨hsh, tki, tii, ki, hdx⟩, hps⟩ := H
  refine wpAny_call ?_
  (k_dflt (refine' code_def2 ?k1 ?k2 ?k3 ?k4 ?k5 ?kA ?kF ?kK ?k6 ?k7 ?k8 ?k9 ?kB ?_ ?c2 ?c3 ?c4 ?c5; (case kA => exact rfl); (case kF => exact rfl); (case kK => assumption); (case k1 => k_asm); (case k2 => k_asm); (case k3 => k_asm); (case k4 => k_asm); (case k5 => k_asm); (case k6 => k_is); (case k7 => k_is); (case k8 => ktr_room); (case k9 => first | exact BindsTo.of_eq rfl | exact binds_K (by k_in) rfl (by k_is) rfl rfl rfl); (case c5 => decide); (case kB => exact locs2 rfl); (case c2 => exact rfl); (case c3 => exact rfl); (case c4 => exact rfl); k_whole; intro g' L' h' FG' F' N' B' X' T' l1; (try dsimp only); (try k_lift B'); (try k_fold)))
  (repeat' ((fail_if_success (with_reducible show wpAny _ _ (eval (Expr.GeneratorExp _ _ _ _) _) _ _ _)); first | (with_reducible contradiction) | (first | (k_unfold; (try dsimp only)) | walk1 | (dsimp only; walk1) | (leave1; walk_say "STEP leave1"; try dsimp only) | fail "no step")))
  refine' gen_pairs (x := x) (ps := ps) (Fv := fun f p y => ∃ t, y = .str (Txt.join "" [f, p]) t) (by k_asm) (by k_asm) (by k_asm) (by k_asm) G (hC.keeps FG'.keep) rfl rfl ht.str hx hps rfl rfl rfl (by decide) rfl rfl rfl (by decide) rfl ?room (by intro _; rfl) ?he ?helt ?hq
  case room => ktr_room
  case he =>
    intro R hR
    (first | (k_unfold; (try dsimp only)) | walk1 | (dsimp only; walk1) | (leave1; walk_say "STEP leave1"; try dsimp only) | fail "no step")
    exact hR
  case helt =>
    intro c' C' A' E' q u m2 hq hA hD hU F2 ha hb
    exact elt_str F2 X' T' rfl rfl rfl rfl rfl ha hb (by decide) (by decide) (hj q hq) rfl
  case hq =>
    intro ga n1 h1 tk1 gs F1 N1 t1 e1 G1 V1
    (repeat' ((fail_if_success (with_reducible show wpAny _ _ (call (Value.builtin "str.join") _) _ _ _)); first | (with_reducible contradiction) | (first | (k_unfold; (try dsimp only)) | walk1 | (dsimp only; walk1) | (leave1; walk_say "STEP leave1"; try dsimp only) | fail "no step")))
    refine join_led (by k_asm) (by k_asm) G1 (GenL.tick V1) (fun j => ((ps.map fun q => Txt.join "" [q.f, q.p]).getD j "")) (fun j v hv => ?hval) ?hok (Nat.le_trans hl (by decide)) ?hfin
    case hval =>
      obtain ⟨q, e1, t, e2⟩ := hv
      exact ⟨t, by rw [e2]; simp [List.getD_eq_getElem?_getD, e1]⟩
    case hok =>
      rw [show (List.range ps.length).map (fun j => ((ps.map fun q => Txt.join "" [q.f, q.p]).getD j "")) = ps.map fun q => Txt.join "" [q.f, q.p] by have := range_getD (ps.map fun q => Txt.join "" [q.f, q.p]) ""; simpa using this]
      exact hj2
    intro h2 gs2 tk2 t2 F2 N2 G2
    rw [show (List.range ps.length).map (fun j => ((ps.map fun q => Txt.join "" [q.f, q.p]).getD j "")) = ps.map fun q => Txt.join "" [q.f, q.p] by have := range_getD (ps.map fun q => Txt.join "" [q.f, q.p]) ""; simpa using this]
    (repeat' ((fail_if_success (with_reducible show wpAny _ _ (call (Value.ref _) _) _ _ _)); first | (with_reducible contradiction) | (first | (k_unfold; (try dsimp only)) | walk1 | (dsimp only; walk1) | (leave1; walk_say "STEP leave1"; try dsimp only) | fail "no step")))
    rename_i kF kN kT kX
    exact hret _ _ _ _ _ kF kN ⟨ht.len.keep N ht.str (by decide) e1, t1, ht.i2d.keep N ht.str (by decide) e1, ht.d2i.keep N ht.str (by decide) e1⟩ G2 (Kp.of N ht.str e1)
end Mine
end

section
open PySem PySem.W PyProof.Rows
set_option linter.unusedVariables false
namespace Mine
/-- what an _Accumulator's reading methods leave -/
abbrev LBack (h₀ : Heap) (L : Addr) (m : Str → Option Value) (news : List (Addr × Obj)) (s : Shared) (R : Shared → Prop) : Prop :=
  ∀ (news' : List (Addr × Obj)) (h' : Heap) (tk' : Tok) (gs : Array GenState), Fr h₀ L h' m → News h₀ L h' news' → TabsOk news' → AllBare gs → Kp news news' → R ⟨h', gs, s.drawn, tk', s.os⟩
theorem l_len {w : World} {p : Program} {loose : List Str} {mean : ExcName → Option Value} {mg mb : Str → Option Value} {dp un : Nat} {gd : Option (List Code)} {cn : Str} {cs : Scope} {a : Addr} {ccd : Value} {cl : List (Str × Addr)} {outer : List Env} {A₀ : Around} {base h₀ : Heap} {L : Addr} {m : Str → Option Value} {news : List (Addr × Obj)} {s : Shared} {Q E : Value → Shared → Prop}
    {x dx : Addr} {ini : Int} {ps : List Part}
    (C : Cx w p loose mean mg mb cs outer A₀ base h₀ L m news s.heap) (ht : TabsOk news) (hC : CodeHd h₀ 144 140) (G : AllBare s.gens) (H : Ac x dx ps ini news) (hi : 0 ≤ ini ∧ ini ≤ 1000) (hsm : Sm ps)
    (hdp : dp + 6 < recursionLimit) (hun : un + 50 < cLine)
    (hret : ∀ t, LBack h₀ L m news s (Q (.int (ini + wid ps) t))) :
    wpAny (model Challenge.rw_nb0260_01.row.prog w) (ktrTop dp un gd cn cs L a ccd cl outer) (call (.builtin "len") [.ref x]) Q E s := by
  obtain ⟨k, hx⟩ := H.ob
  obtain ⟨hsh, tki, tii, ki, hdx⟩ := H.di
  refine a_len C.F C.X C.N hx hdx ?_
  refine c_len (dp := dp) (un := un + 1) C ht hC G H hi (fun q hq => by have := hsm.part q hq; omega) hdp (by omega) ?_
  intro t n1 h1 tk1 gs F1 N1 t1 G1 K1
  have := hsm.wid
  exact ⟨⟨by unfold wid at this; omega, by unfold wid at this; omega⟩, hret _ _ _ _ _ F1 N1 t1 G1 K1⟩
theorem l_truth {Q : Bool → Shared → Prop} {w : World} {p : Program} {loose : List Str} {mean : ExcName → Option Value} {mg mb : Str → Option Value} {dp un : Nat} {gd : Option (List Code)} {cn : Str} {cs : Scope} {a : Addr} {ccd : Value} {cl : List (Str × Addr)} {outer : List Env} {A₀ : Around} {base h₀ : Heap} {L : Addr} {m : Str → Option Value} {news : List (Addr × Obj)} {s : Shared} {E : Value → Shared → Prop}
    {x dx : Addr} {ini : Int} {ps : List Part}
    (C : Cx w p loose mean mg mb cs outer A₀ base h₀ L m news s.heap) (ht : TabsOk news) (hC : CodeHd h₀ 144 140) (G : AllBare s.gens) (H : Ac x dx ps ini news) (hi : 0 ≤ ini ∧ ini ≤ 1000) (hsm : Sm ps)
    (hdp : dp + 6 < recursionLimit) (hun : un + 50 < cLine)
    (hret : LBack h₀ L m news s (Q (ini + wid ps != 0))) :
    wpAny (model Challenge.rw_nb0260_01.row.prog w) (ktrTop dp un gd cn cs L a ccd cl outer) (truthy (.ref x)) Q E s := by
  obtain ⟨k, hx⟩ := H.ob
  obtain ⟨hsh, tki, tii, ki, hdx⟩ := H.di
  refine a_truth C.F C.X C.N hx hdx ?_
  refine c_len (dp := dp) (un := un + 1) C ht hC G H hi (fun q hq => by have := hsm.part q hq; omega) hdp (by omega) ?_
  intro t n1 h1 tk1 gs F1 N1 t1 G1 K1
  have := hsm.wid
  exact ⟨⟨by unfold wid at this; omega, by unfold wid at this; omega⟩, _, _, rfl, hret _ _ _ _ F1 N1 t1 G1 K1⟩
theorem l_str {w : World} {p : Program} {loose : List Str} {mean : ExcName → Option Value} {mg mb : Str → Option Value} {dp un : Nat} {gd : Option (List Code)} {cn : Str} {cs : Scope} {a : Addr} {ccd : Value} {cl : List (Str × Addr)} {outer : List Env} {A₀ : Around} {base h₀ : Heap} {L : Addr} {m : Str → Option Value} {news : List (Addr × Obj)} {s : Shared} {Q E : Value → Shared → Prop}
    {x dx : Addr} {ini : Int} {ps : List Part}
    (C : Cx w p loose mean mg mb cs outer A₀ base h₀ L m news s.heap) (ht : TabsOk news) (hC : CodeHd h₀ 151 147) (G : AllBare s.gens) (H : Ac x dx ps ini news) (hsm : Sm ps)
    (hdp : dp + 6 < recursionLimit) (hun : un + 50 < cLine)
    (hret : ∀ t, LBack h₀ L m news s (Q (.str (txt ps) t))) :
    wpAny (model Challenge.rw_nb0260_01.row.prog w) (ktrTop dp un gd cn cs L a ccd cl outer) (call (.type "str") [.ref x]) Q E s := by
  obtain ⟨k, hx⟩ := H.ob
  obtain ⟨hsh, tki, tii, ki, hdx⟩ := H.di
  refine a_str (show un + 1 + 1 < cLine by omega) C.F C.X C.N hx hdx ?_
  refine c_str (dp := dp) (un := un + 1 + 1) C ht hC G H hsm.joins.1 hsm.joins.2 (by have := hsm.len; omega) hdp (by omega) ?_
  intro t n1 h1 tk1 gs F1 N1 t1 G1 K1
  exact hret _ _ _ _ _ F1 N1 t1 G1 K1
set_option maxRecDepth 100000 in
set_option maxHeartbeats 8000000 in
theorem c_only1 {w : World} {p : Program} {loose : List Str} {mean : ExcName → Option Value} {mg mb : Str → Option Value} {dp un : Nat} {gd : Option (List Code)} {cn : Str} {cs : Scope} {a : Addr} {ccd : Value} {cl : List (Str × Addr)} {outer : List Env} {A₀ : Around} {base h₀ : Heap} {L : Addr} {m : Str → Option Value} {news : List (Addr × Obj)} {s : Shared} {Q E : Value → Shared → Prop}
    {x dx : Addr} {ini : Int} {ps : List Part}
    (C : Cx w p loose mean mg mb cs outer A₀ base h₀ L m news s.heap) (H : Ac x dx ps ini news) (hi : 0 < ini)
    (hdp : dp + 6 < recursionLimit) (hun : un + 40 < cLine)
    (hret : ∀ (h' : Heap) (tk' : Tok), Fr h₀ L h' m → News h₀ L h' news → Q (.bool false) { s with heap := h', toks := tk' }) :
    wpAny (model Challenge.rw_nb0260_01.row.prog w) (ktrTop dp un gd cn cs L a ccd cl outer) (call (.ref 167) [.ref x]) Q E s := by
  obtain ⟨B, F, X, N, T, hk⟩ := C
  obtain ⟨⟨k, hx⟩, ⟨hsh, tki, tii, ki, hdx⟩, hps⟩ := H
  have hne : ¬ ini = 0 := by omega
  refine wpAny_call ?_
  (k_dflt (refine' code_def2 ?k1 ?k2 ?k3 ?k4 ?k5 ?kA ?kF ?kK ?k6 ?k7 ?k8 ?k9 ?kB ?_ ?c2 ?c3 ?c4 ?c5; (case kA => exact rfl); (case kF => exact rfl); (case kK => assumption); (case k1 => k_asm); (case k2 => k_asm); (case k3 => k_asm); (case k4 => k_asm); (case k5 => k_asm); (case k6 => k_is); (case k7 => k_is); (case k8 => ktr_room); (case k9 => first | exact BindsTo.of_eq rfl | exact binds_K (by k_in) rfl (by k_is) rfl rfl rfl); (case c5 => decide); (case kB => exact locs2 rfl); (case c2 => exact rfl); (case c3 => exact rfl); (case c4 => exact rfl); k_whole; intro g' L' h' FG' F' N' B' X' T' l1; (try dsimp only); (try k_lift B'); (try k_fold)))
  (repeat' ((fail_if_success (with_reducible show wpAny _ _ (call (Value.ref _) _) _ _ _)); first | (with_reducible contradiction) | (first | (k_unfold; (try dsimp only)) | walk1 | (dsimp only; walk1) | (leave1; walk_say "STEP leave1"; try dsimp only) | fail "no step")))
  rename_i kF kN kT kX
  rw [show (ini == 0) = false by simpa using hne]
  exact hret _ _ kF kN
set_option maxRecDepth 100000 in
set_option maxHeartbeats 8000000 in
theorem c_only0 {w : World} {p : Program} {loose : List Str} {mean : ExcName → Option Value} {mg mb : Str → Option Value} {dp un : Nat} {gd : Option (List Code)} {cn : Str} {cs : Scope} {a : Addr} {ccd : Value} {cl : List (Str × Addr)} {outer : List Env} {A₀ : Around} {base h₀ : Heap} {L : Addr} {m : Str → Option Value} {news : List (Addr × Obj)} {s : Shared} {Q E : Value → Shared → Prop}
    {x dx : Addr} {ps : List Part}
    (C : Cx w p loose mean mg mb cs outer A₀ base h₀ L m news s.heap) (ht : TabsOk news) (hC1 : CodeHd h₀ 144 140) (hC2 : CodeHd h₀ 151 147) (G : AllBare s.gens) (H : Ac x dx ps 0 news) (hsm : Sm ps) (hw : 0 < wid ps) (hsp : Txt.isspace (txt ps) = false)
    (hdp : dp + 10 < recursionLimit) (hun : un + 80 < cLine)
    (hret : LBack h₀ L m news s (Q (.bool false))) :
    wpAny (model Challenge.rw_nb0260_01.row.prog w) (ktrTop dp un gd cn cs L a ccd cl outer) (call (.ref 167) [.ref x]) Q E s := by
  obtain ⟨B, F, X, N, T, hk⟩ := C
  have H' := H
  obtain ⟨⟨k, hx⟩, ⟨hsh, tki, tii, ki, hdx⟩, hps⟩ := H
  refine wpAny_call ?_
  (k_dflt (refine' code_def2 ?k1 ?k2 ?k3 ?k4 ?k5 ?kA ?kF ?kK ?k6 ?k7 ?k8 ?k9 ?kB ?_ ?c2 ?c3 ?c4 ?c5; (case kA => exact rfl); (case kF => exact rfl); (case kK => assumption); (case k1 => k_asm); (case k2 => k_asm); (case k3 => k_asm); (case k4 => k_asm); (case k5 => k_asm); (case k6 => k_is); (case k7 => k_is); (case k8 => ktr_room); (case k9 => first | exact BindsTo.of_eq rfl | exact binds_K (by k_in) rfl (by k_is) rfl rfl rfl); (case c5 => decide); (case kB => exact locs2 rfl); (case c2 => exact rfl); (case c3 => exact rfl); (case c4 => exact rfl); k_whole; intro g' L' h' FG' F' N' B' X' T' l1; (try dsimp only); (try k_lift B'); (try k_fold)))
  (repeat' ((fail_if_success (with_reducible show wpAny _ _ (call (Value.ref _) _) _ _ _)); first | (with_reducible contradiction) | (first | (k_unfold; (try dsimp only)) | walk1 | (dsimp only; walk1) | (leave1; walk_say "STEP leave1"; try dsimp only) | fail "no step")))
  refine' l_truth (w := w) ⟨by k_asm, by k_asm, by k_asm, by k_asm, by k_asm, rfl⟩ ht (hC1.keeps FG'.keep) G H' ⟨by omega, by omega⟩ hsm (dpl (a := 1) (b := 6) (c := 10) (by decide) hdp) (dpl (a := 3) (b := 50) (c := 80) (by decide) hun) ?hR1
  intro n1 h1 tk1 gs1 F1 N1 t1 G1 K1
  have H1 := H'.kp K1
  rw [show (0 + wid ps != 0) = true by simp; omega]
  (repeat' ((fail_if_success (with_reducible show wpAny _ _ (call (Value.type "str") _) _ _ _)); first | (with_reducible contradiction) | (first | (k_unfold; (try dsimp only)) | walk1 | (dsimp only; walk1) | (leave1; walk_say "STEP leave1"; try dsimp only) | fail "no step")))
  refine' l_str (w := w) ⟨by k_asm, by k_asm, by k_asm, by k_asm, by k_asm, rfl⟩ t1 (hC2.keeps FG'.keep) G1 H1 hsm (dpl (a := 1) (b := 6) (c := 10) (by decide) hdp) (dpl (a := 3) (b := 50) (c := 80) (by decide) hun) ?hR2
  intro ts n2 h2 tk2 gs2 F2 N2 t2 G2 K2
  (repeat' ((fail_if_success (with_reducible show wpAny _ _ (call (Value.ref _) _) _ _ _)); first | (with_reducible contradiction) | (first | (k_unfold; (try dsimp only)) | walk1 | (dsimp only; walk1) | (leave1; walk_say "STEP leave1"; try dsimp only) | fail "no step")))
  rename_i kF kN kT kX
  rw [hsp]
  exact hret _ _ _ _ kF kN t2 G2 (K1.trans K2)
end Mine
end

section
open PySem PySem.W PyProof.Rows
set_option linter.unusedVariables false
namespace Mine
theorem under_tc {dp un : Nat} {gd : Option (List Code)} {cn : Str} {cs : Scope} {L a : Addr} {ccd : Value} {cl : List (Str × Addr)} {outer : List Env} {C : Addr} {rest : List Value} :
    (ktrTop dp un gd cn cs L a ccd cl outer).under (.builtin "type.__call__" ⟨.ref C :: rest, []⟩) = ktrTop (dp + 1) (un + 1) (pushGuards (Code.guards (.builtin "type.__call__" ⟨.ref C :: rest, []⟩)) gd) cn cs L a ccd cl outer := by
  kernel_rfl
theorem vf_makes (P : Params) : makesIn (Kf P) 94 = true := by kernel_rfl
theorem vf_init (P : Params) : findIn (Kf P) (.ref 94) "__init__" = some (some (.ref 35)) := by kernel_rfl
theorem vf_initF (P : Params) : typeIn (Kf P) (.ref 35) = some (.type "function") := by kernel_rfl
/-- the dict of a _ValueFormatter -/
abbrev vfD (h1 h2 h3 h4 h5 h6 : Int) (t1 t2 t3 t4 t5 t6 : Tok) (v1 v2 v3 v4 : Value) (l x : Addr) (n : Nat) : Obj :=
  dictOf [⟨h1, .str "_maxlen" t1, v1⟩, ⟨h2, .str "_continuation_ws" t2, v2⟩, ⟨h3, .str "_continuation_ws_len" t3, v3⟩, ⟨h4, .str "_splitchars" t4, v4⟩, ⟨h5, .str "_lines" t5, .ref l⟩, ⟨h6, .str "_current_line" t6, .ref x⟩] n
/-- a _ValueFormatter in the ledger -/
structure Vf (v dv l x dx : Addr) (wide : Int) (lines : List Str) (ps : List Part) (ini : Int) (news : List (Addr × Obj)) : Prop where
  ob : (v, instObj 94 dv) ∈ news
  di : ∃ h1 h2 h3 h4 h5 h6 t1 t2 t3 t4 t5 t6 tw v2 v3 ts n, (dv, vfD h1 h2 h3 h4 h5 h6 t1 t2 t3 t4 t5 t6 (.int wide tw) v2 v3 (.str "; " ts) l x n) ∈ news
  li : ∃ vs k, (l, listOf vs.toArray k) ∈ news ∧ StrsAre vs lines
  ac : Ac x dx ps ini news
/-- what a method of a _ValueFormatter keeps of the ledger -/
def KpV (l x dx : Addr) (news news' : List (Addr × Obj)) : Prop := ∀ q ∈ news, q.1 ≠ l → q.1 ≠ x → q.1 ≠ dx → ¬ isT q.2 → q ∈ news'
theorem KpV.trans {l x dx : Addr} {a b c : List (Addr × Obj)} (u : KpV l x dx a b) (v : KpV l x dx b c) : KpV l x dx a c := fun q h n1 n2 n3 n4 => v q (u q h n1 n2 n3 n4) n1 n2 n3 n4
theorem KpA.toV {l x dx : Addr} {a b : List (Addr × Obj)} (u : KpA x dx a b) : KpV l x dx a b := fun q h _ n2 n3 n4 => u q h n2 n3 n4
theorem Kp.toV {l x dx : Addr} {a b : List (Addr × Obj)} (u : Kp a b) : KpV l x dx a b := fun q h _ _ _ n => u q h n
set_option maxRecDepth 100000 in
set_option maxHeartbeats 8000000 in
theorem c_vfmake {w : World} {p : Program} {loose : List Str} {mean : ExcName → Option Value} {mg mb : Str → Option Value} {dp un : Nat} {gd : Option (List Code)} {cn : Str} {cs : Scope} {a : Addr} {ccd : Value} {cl : List (Str × Addr)} {outer : List Env} {A₀ : Around} {base h₀ : Heap} {L : Addr} {m : Str → Option Value} {news : List (Addr × Obj)} {s : Shared} {Q E : Value → Shared → Prop}
    {hd wd : Int} {th tw tc ts : Tok}
    (C : Cx w p loose mean mg mb cs outer A₀ base h₀ L m news s.heap) (ht : TabsOk news)
    (hdp : dp + 10 < recursionLimit) (hun : un + 80 < cLine)
    (hret : ∀ (v dv l x dx : Addr) (news' : List (Addr × Obj)) (h' : Heap) (tk' : Tok), Fr h₀ L h' m → News h₀ L h' news' → TabsOk news' → Vf v dv l x dx wd [] [] hd news' → (∀ q ∈ news, q ∈ news') → (∀ q ∈ news, q.1 ≠ l ∧ q.1 ≠ x ∧ q.1 ≠ dx) → Q (.ref v) { s with heap := h', toks := tk' }) :
    wpAny (model Challenge.rw_nb0260_01.row.prog w) (ktrTop dp un gd cn cs L a ccd cl outer) (call (.ref 94) [.int hd th, .int wd tw, .str "\t" tc, .str "; " ts]) Q E s := by
  obtain ⟨B, F, X, N, T, hk⟩ := C
  refine wpAny_call (make_K F N (X.keeps F.keep) (vf_makes _) (vf_init _) (vf_initF _) fun v dv h1 F1 N1 l1 l2 => ?_)
  rw [under_tc]
  have hne : v ≠ dv := Nat.ne_of_gt l2
  have hne' : dv ≠ v := Nat.ne_of_lt l2
  have hd0 : (dv, dictOf [] 0) ∈ (v, instObj 94 dv) :: (dv, emptyDict) :: news := .tail _ (.head _)
  have hv0 : (v, instObj 94 dv) ∈ (v, instObj 94 dv) :: (dv, emptyDict) :: news := .head _
  (k_dflt (refine' code_def2 ?k1 ?k2 ?k3 ?k4 ?k5 ?kA ?kF ?kK ?k6 ?k7 ?k8 ?k9 ?kB ?_ ?c2 ?c3 ?c4 ?c5; (case kA => exact rfl); (case kF => exact rfl); (case kK => assumption); (case k1 => k_asm); (case k2 => k_asm); (case k3 => k_asm); (case k4 => k_asm); (case k5 => k_asm); (case k6 => k_is); (case k7 => k_is); (case k8 => ktr_room); (case k9 => first | exact BindsTo.of_eq rfl | exact binds_K (by k_in) rfl (by k_is) rfl rfl rfl); (case c5 => decide); (case kB => exact locs2 rfl); (case c2 => exact rfl); (case c3 => exact rfl); (case c4 => exact rfl); k_whole; intro g' L' h' FG' F' N' B' X' T' l3; (try dsimp only); (try k_lift B'); (try k_fold)))
  (repeat' ((fail_if_success (with_reducible show wpAny _ _ (call (Value.ref _) _) _ _ _)); first | (with_reducible contradiction) | (first | (k_unfold; (try dsimp only)) | walk1 | (dsimp only; walk1) | (leave1; walk_say "STEP leave1"; try dsimp only) | fail "no step")))
  rename_i ta ha tb hb tc' hc td hd' te l h5 F5 N5 l5 h6 F6 N6
  refine' c_make (w := w) ⟨by k_asm, by k_asm, by k_asm, by k_asm, by k_asm, rfl⟩ (Nat.lt_of_le_of_lt (show dp + 1 + 1 + 6 ≤ dp + 10 by omega) hdp) (Nat.lt_of_le_of_lt (show un + 1 + 3 + 40 ≤ un + 80 by omega) hun) ?hR1
  intro x dx n7 h7 tk7 F7 N7 e7 A7 lo1 lo2
  have hl1 : l ≠ dv := Nat.ne_of_gt l5.1
  have hd7 := e7 _ (List.Mem.head _)
  have hl7 := e7 (l, listOf #[] 0) (.tail _ (mem_off.mpr ⟨.head _, hl1⟩))
  have hv7 := e7 (v, instObj 94 dv) (by k_mem)
  have kk : ∀ z ∈ news, z ∈ n7 := fun z hz => e7 z (by have := l1 z hz; have hzd : z.1 ≠ dv := Nat.ne_of_lt this; exact .tail _ (mem_off.mpr ⟨.tail _ (.tail _ (mem_off.mpr ⟨.tail _ (mem_off.mpr ⟨.tail _ (mem_off.mpr ⟨.tail _ (mem_off.mpr ⟨.tail _ (.tail _ hz), hzd⟩), hzd⟩), hzd⟩), hzd⟩)), hzd⟩))
  clear e7
  have hdD : dx ≠ dv := Nat.ne_of_gt (lo1 _ (List.Mem.head _))
  have hxD : x ≠ dv := Nat.ne_of_gt (Nat.lt_trans (lo1 _ (List.Mem.head _)) lo2)
  have lo3 : ∀ q ∈ news, q.1 ≠ l ∧ q.1 ≠ x ∧ q.1 ≠ dx := fun q hq => by
    have h1 : @LT.lt Nat _ q.1 dv := l1 q hq
    have h2 : @LT.lt Nat _ dv l := l5.1
    have h3 : @LT.lt Nat _ dv dx := lo1 _ (List.Mem.head _)
    have h4 : @LT.lt Nat _ dx x := lo2
    exact ⟨Nat.ne_of_lt (by omega), Nat.ne_of_lt (by omega), Nat.ne_of_lt (by omega)⟩
  clear lo1
  (repeat' ((fail_if_success (with_reducible show wpAny _ _ (call (Value.ref _) _) _ _ _)); first | (with_reducible contradiction) | (first | (k_unfold; (try dsimp only)) | walk1 | (dsimp only; walk1) | (leave1; walk_say "STEP leave1"; try dsimp only) | fail "no step")))
  rename_i kF kN kT kX
  have hld : ∀ q ∈ news, q.1 ≠ dv := fun q hq => Nat.ne_of_lt (l1 q hq)
  obtain ⟨⟨ka, ha1⟩, ⟨b1, b2, b3, b4, ha2⟩, _⟩ := A7
  refine hret v dv l x dx _ _ _ kF kN (ht.mono fun z hz => .tail _ (mem_off.mpr ⟨kk z hz, hld z hz⟩)) ⟨.tail _ (mem_off.mpr ⟨hv7, hne⟩), ⟨_, _, _, _, _, _, _, _, _, _, _, _, _, _, _, _, _, .head _⟩, ⟨[], 0, .tail _ (mem_off.mpr ⟨hl7, hl1⟩), .nil⟩,
    ⟨ka, .tail _ (mem_off.mpr ⟨ha1, hxD⟩)⟩, ⟨b1, b2, b3, b4, .tail _ (mem_off.mpr ⟨ha2, hdD⟩)⟩, fun z hz => nomatch hz⟩ (fun z hz => .tail _ (mem_off.mpr ⟨kk z hz, hld z hz⟩)) lo3
end Mine
end

section
open PySem PySem.W PyProof.Rows
set_option linter.unusedVariables false
namespace Mine
theorem StrsAre.snoc {xs : List Value} {ns : List Str} {n : Str} {t : Tok} (h : StrsAre xs ns) : StrsAre (xs ++ [.str n t]) (ns ++ [n]) := by
  induction h with
  | nil => exact .cons _ _ .nil
  | cons n t h ih => exact .cons _ _ ih
theorem inst_noT {C d : Addr} : ¬ isT (instObj C d) := notT (by nofun)
section
variable {v dv l x dx : Addr} {wide ini ini' : Int} {lines : List Str} {ps ps' : List Part} {news news' : List (Addr × Obj)} {h₀ h : Heap} {L : Addr}
theorem Vf.acc (H : Vf v dv l x dx wide lines ps ini news) (N : News h₀ L h news) (K : KpA x dx news news') (A' : Ac x dx ps' ini' news') : Vf v dv l x dx wide lines ps' ini' news' := by
  obtain ⟨hv, ⟨h1, h2, h3, h4, h5, h6, t1, t2, t3, t4, t5, t6, tw, v2, v3, ts, n, hd⟩, ⟨vs, kl, hlm, hvs⟩, ⟨⟨k, hx⟩, ⟨hsh, tki, tii, ki, hdx⟩, hps⟩⟩ := H
  exact ⟨K _ hv (ne_data N hv hx (by nofun)) (ne_data N hv hdx (by nofun)) inst_noT,
    ⟨h1, h2, h3, h4, h5, h6, t1, t2, t3, t4, t5, t6, tw, v2, v3, ts, n, K _ hd (ne_data N hd hx (by nofun)) (ne_obj N hd hdx (by nofun)) dict_noT⟩,
    ⟨vs, kl, K _ hlm (ne_cls N hlm hx (by nofun)) (ne_data N hlm hdx (by nofun)) list_noT, hvs⟩, A'⟩
theorem Vf.kp (H : Vf v dv l x dx wide lines ps ini news) (K : Kp news news') : Vf v dv l x dx wide lines ps ini news' := by
  obtain ⟨hv, ⟨h1, h2, h3, h4, h5, h6, t1, t2, t3, t4, t5, t6, tw, v2, v3, ts, n, hd⟩, ⟨vs, kl, hlm, hvs⟩, HA⟩ := H
  exact ⟨K _ hv inst_noT, ⟨h1, h2, h3, h4, h5, h6, t1, t2, t3, t4, t5, t6, tw, v2, v3, ts, n, K _ hd dict_noT⟩, ⟨vs, kl, K _ hlm list_noT, hvs⟩, HA.kp K⟩
theorem Vf.mono (H : Vf v dv l x dx wide lines ps ini news) (K : ∀ q ∈ news, q ∈ news') : Vf v dv l x dx wide lines ps ini news' := H.kp fun q hq _ => K q hq
theorem Vf.line {vs : List Value} {kl n : Nat} {tx : Str} {tt : Tok} (H : Vf v dv l x dx wide lines ps ini news) (N : News h₀ L h news) (hlm : (l, listOf vs.toArray kl) ∈ news) (hvs : StrsAre vs lines) :
    Vf v dv l x dx wide (lines ++ [tx]) ps ini ((l, listOf (vs ++ [Value.str tx tt]).toArray n) :: off l news) := by
  obtain ⟨hv, ⟨h1, h2, h3, h4, h5, h6, t1, t2, t3, t4, t5, t6, tw, v2, v3, ts, n', hd⟩, _, ⟨⟨k, hx⟩, ⟨hsh, tki, tii, ki, hdx⟩, hps⟩⟩ := H
  have g : ∀ q ∈ news, q.1 ≠ l → q ∈ (l, listOf (vs ++ [Value.str tx tt]).toArray n) :: off l news := fun q h1 h2 => .tail _ (mem_off.mpr ⟨h1, h2⟩)
  exact ⟨g _ hv (ne_data N hv hlm (by nofun)), ⟨h1, h2, h3, h4, h5, h6, t1, t2, t3, t4, t5, t6, tw, v2, v3, ts, n', g _ hd (ne_data N hd hlm (by nofun))⟩, ⟨_, n, .head _, StrsAre.snoc hvs⟩,
    ⟨k, g _ hx (ne_cls N hx hlm (by nofun))⟩, ⟨hsh, tki, tii, ki, g _ hdx (ne_data N hdx hlm (by nofun))⟩, fun q hq => g _ (hps q hq) (ne_cls N (hps q hq) hlm (by simp))⟩
end
set_option maxRecDepth 100000 in
set_option maxHeartbeats 8000000 in
theorem c_nlA {w : World} {p : Program} {loose : List Str} {mean : ExcName → Option Value} {mg mb : Str → Option Value} {dp un : Nat} {gd : Option (List Code)} {cn : Str} {cs : Scope} {a : Addr} {ccd : Value} {cl : List (Str × Addr)} {outer : List Env} {A₀ : Around} {base h₀ : Heap} {L : Addr} {m : Str → Option Value} {news : List (Addr × Obj)} {s : Shared} {Q E : Value → Shared → Prop}
    {v dv l x dx : Addr} {wide ini : Int} {lines : List Str}
    (C : Cx w p loose mean mg mb cs outer A₀ base h₀ L m news s.heap) (ht : TabsOk news) (hC1 : CodeHd h₀ 144 140) (hC2 : CodeHd h₀ 151 147) (G : AllBare s.gens) (H : Vf v dv l x dx wide lines [] ini news) (hi : 0 < ini ∧ ini ≤ 1000) (hl : lines.length ≤ 200)
    (hdp : dp + 20 < recursionLimit) (hun : un + 150 < cLine)
    (hret : ∀ (news' : List (Addr × Obj)) (h' : Heap) (tk' : Tok) (gs : Array GenState), Fr h₀ L h' m → News h₀ L h' news' → TabsOk news' → AllBare gs → Vf v dv l x dx wide (lines ++ [Str.ofString ""]) [] 0 news' → KpV l x dx news news' → Q .none ⟨h', gs, s.drawn, tk', s.os⟩) :
    wpAny (model Challenge.rw_nb0260_01.row.prog w) (ktrTop dp un gd cn cs L a ccd cl outer) (call (.ref 56) [.ref v]) Q E s := by
  obtain ⟨B, F, X, N, T, hk⟩ := C
  obtain ⟨hv0, ⟨a01, a02, a03, a04, a05, a06, b01, b02, b03, b04, b05, b06, tw0, c02, c03, ts0, nn0, hd0⟩, ⟨vs0, kl0, hl0, hvs0⟩, HA0⟩ := id H
  obtain ⟨⟨k0, hx0⟩, ⟨hsh0, tki0, tii0, ki0, hdx0⟩, hps0⟩ := id HA0
  refine wpAny_call ?_
  (k_dflt (refine' code_def2 ?k1 ?k2 ?k3 ?k4 ?k5 ?kA ?kF ?kK ?k6 ?k7 ?k8 ?k9 ?kB ?_ ?c2 ?c3 ?c4 ?c5; (case kA => exact rfl); (case kF => exact rfl); (case kK => assumption); (case k1 => k_asm); (case k2 => k_asm); (case k3 => k_asm); (case k4 => k_asm); (case k5 => k_asm); (case k6 => k_is); (case k7 => k_is); (case k8 => ktr_room); (case k9 => first | exact BindsTo.of_eq rfl | exact binds_K (by k_in) rfl (by k_is) rfl rfl rfl); (case c5 => decide); (case kB => exact locs2 rfl); (case c2 => exact rfl); (case c3 => exact rfl); (case c4 => exact rfl); k_whole; intro g' L' h' FG' F' N' B' X' T' l1; (try dsimp only); (try k_lift B'); (try k_fold)))
  (repeat' ((fail_if_success (with_reducible show wpAny _ _ (call (Value.ref _) _) _ _ _)); (fail_if_success (with_reducible show wpAny _ _ (call (Value.builtin "len") [Value.ref _]) _ _ _)); (fail_if_success (with_reducible show wpAny _ _ (call (Value.type "str") _) _ _ _)); (fail_if_success (with_reducible show wpAny _ _ (call (Value.builtin "list.append") _) _ _ _)); first | (with_reducible contradiction) | (first | (k_unfold; (try dsimp only)) | walk1 | (dsimp only; walk1) | (leave1; walk_say "STEP leave1"; try dsimp only) | fail "no step")))
  refine' c_pop0 (w := w) ⟨by k_asm, by k_asm, by k_asm, by k_asm, by k_asm, rfl⟩ HA0 (dpl (a := 1) (b := 6) (c := 20) (by decide) hdp) (dpl (a := 3) (b := 40) (c := 150) (by decide) hun) ?hR1
  intro r ta tb n2 h2' tk2 F2 N2 e2 hr2
  have H2 := H.mono e2
  have hT2 := ht.mono e2
  obtain ⟨hv2, ⟨a21, a22, a23, a24, a25, a26, b21, b22, b23, b24, b25, b26, tw2, c22, c23, ts2, nn2, hd2⟩, ⟨vs2, kl2, hl2, hvs2⟩, HA2⟩ := id H2
  obtain ⟨⟨k2, hx2⟩, ⟨hsh2, tki2, tii2, ki2, hdx2⟩, hps2⟩ := id HA2
  (repeat' ((fail_if_success (with_reducible show wpAny _ _ (call (Value.ref _) _) _ _ _)); (fail_if_success (with_reducible show wpAny _ _ (call (Value.builtin "len") [Value.ref _]) _ _ _)); (fail_if_success (with_reducible show wpAny _ _ (call (Value.type "str") _) _ _ _)); (fail_if_success (with_reducible show wpAny _ _ (call (Value.builtin "list.append") _) _ _ _)); first | (with_reducible contradiction) | (first | (k_unfold; (try dsimp only)) | walk1 | (dsimp only; walk1) | (leave1; walk_say "STEP leave1"; try dsimp only) | fail "no step")))
  rename_i h3a D' h3 F3 N3 l3
  refine' star_push (x := x) (r := r) (by k_asm) rfl rfl ?ho ?hv (by k_asm) (by k_asm) (by k_mem) (by k_mem) (by k_mem) ?hp
  case ho =>
    intro R hR
    (repeat' ((fail_if_success (with_reducible show wpAny _ _ (call (Value.ref _) _) _ _ _)); (fail_if_success (with_reducible show wpAny _ _ (call (Value.builtin "len") [Value.ref _]) _ _ _)); (fail_if_success (with_reducible show wpAny _ _ (call (Value.type "str") _) _ _ _)); (fail_if_success (with_reducible show wpAny _ _ (call (Value.builtin "list.append") _) _ _ _)); first | (with_reducible contradiction) | (first | (k_unfold; (try dsimp only)) | walk1 | (dsimp only; walk1) | (leave1; walk_say "STEP leave1"; try dsimp only) | fail "no step")))
    exact hR _
  case hv =>
    intro u R Fu hR
    exact nm_loc Fu rfl rfl rfl (by decide) hR
  intro h4 tk4 F4 N4
  replace N4 : News g' L' h4 n2 := fun p hp => N4 p (.tail _ hp)
  refine' c_pushC (w := w) ⟨by k_asm, by k_asm, by k_asm, by k_asm, by k_asm, rfl⟩ hT2 HA2 (by decide) (dpl (a := 1) (b := 3) (c := 20) (by decide) hdp) (dpl (a := 3) (b := 20) (c := 150) (by decide) hun) ?hR2
  intro r5 n5 h5 tk5 F5 N5 t5 A5 K5
  have H5 := H2.acc N4 K5 A5
  have K25 : KpV l x dx news n5 := fun q h1 h2 h3 h4 h5 => K5 q (e2 q h1) h3 h4 h5
  have h0 : (Str.ofString "").length = 0 := by decide +kernel
  have hsm : Sm ([] ++ [(⟨r5, Str.ofString "", ta, Str.ofString "", tb⟩ : Part)]) := ⟨by simp, fun q hq => by simp at hq; subst hq; simp [h0]⟩
  have hw : wid ([] ++ [(⟨r5, Str.ofString "", ta, Str.ofString "", tb⟩ : Part)]) = 0 := by simp [wid, h0]
  have hini : 0 ≤ ini ∧ ini ≤ 1000 := ⟨by omega, hi.2⟩
  have hpos : 0 < ini + wid ([] ++ [(⟨r5, Str.ofString "", ta, Str.ofString "", tb⟩ : Part)]) := by omega
  have htx : txt ([] ++ [(⟨r5, Str.ofString "", ta, Str.ofString "", tb⟩ : Part)]) = Str.ofString "" := by rw [txt_S, S_nil]; rfl
  obtain ⟨hv5, ⟨a51, a52, a53, a54, a55, a56, b51, b52, b53, b54, b55, b56, tw5, c52, c53, ts5, nn5, hd5⟩, ⟨vs5, kl5, hl5, hvs5⟩, HA5⟩ := id H5
  obtain ⟨⟨k5, hx5⟩, ⟨hsh5, tki5, tii5, ki5, hdx5⟩, hps5⟩ := id HA5
  (repeat' ((fail_if_success (with_reducible show wpAny _ _ (call (Value.ref _) _) _ _ _)); (fail_if_success (with_reducible show wpAny _ _ (call (Value.builtin "len") [Value.ref _]) _ _ _)); (fail_if_success (with_reducible show wpAny _ _ (call (Value.type "str") _) _ _ _)); (fail_if_success (with_reducible show wpAny _ _ (call (Value.builtin "list.append") _) _ _ _)); first | (with_reducible contradiction) | (first | (k_unfold; (try dsimp only)) | walk1 | (dsimp only; walk1) | (leave1; walk_say "STEP leave1"; try dsimp only) | fail "no step")))
  refine' l_len (w := w) ⟨by k_asm, by k_asm, by k_asm, by k_asm, by k_asm, rfl⟩ t5 (hC1.keeps FG'.keep) G HA5 hini hsm (dpl (a := 1) (b := 6) (c := 20) (by decide) hdp) (dpl (a := 3) (b := 50) (c := 150) (by decide) hun) ?hR3
  intro tL n6 h6 tk6 gs6 F6 N6 t6 G6 K6
  have H6 := H5.kp K6
  clear K5
  obtain ⟨hv6, ⟨a61, a62, a63, a64, a65, a66, b61, b62, b63, b64, b65, b66, tw6, c62, c63, ts6, nn6, hd6⟩, ⟨vs6, kl6, hl6, hvs6⟩, HA6⟩ := id H6
  obtain ⟨⟨k6, hx6⟩, ⟨hsh6, tki6, tii6, ki6, hdx6⟩, hps6⟩ := id HA6
  generalize ini + wid ([] ++ [(⟨r5, Str.ofString "", ta, Str.ofString "", tb⟩ : Part)]) = z at hpos ⊢
  (repeat' ((fail_if_success (with_reducible show wpAny _ _ (call (Value.ref _) _) _ _ _)); (fail_if_success (with_reducible show wpAny _ _ (call (Value.builtin "len") [Value.ref _]) _ _ _)); (fail_if_success (with_reducible show wpAny _ _ (call (Value.type "str") _) _ _ _)); (fail_if_success (with_reducible show wpAny _ _ (call (Value.builtin "list.append") _) _ _ _)); first | (with_reducible contradiction) | (first | (k_unfold; (try dsimp only)) | walk1 | (dsimp only; walk1) | (leave1; walk_say "STEP leave1"; try dsimp only) | fail "no step")))
  refine' c_only1 (w := w) ⟨by k_asm, by k_asm, by k_asm, by k_asm, by k_asm, rfl⟩ HA6 hi.1 (dpl (a := 1) (b := 6) (c := 20) (by decide) hdp) (dpl (a := 3) (b := 40) (c := 150) (by decide) hun) ?hR4
  intro h7 tk7 F7 N7
  have H7 := H6
  have HA7 := HA6
  have t7 := t6
  have G7 := G6
  have K7 : Kp n6 n6 := Kp.refl _
  (repeat' ((fail_if_success (with_reducible show wpAny _ _ (call (Value.ref _) _) _ _ _)); (fail_if_success (with_reducible show wpAny _ _ (call (Value.builtin "len") [Value.ref _]) _ _ _)); (fail_if_success (with_reducible show wpAny _ _ (call (Value.type "str") _) _ _ _)); (fail_if_success (with_reducible show wpAny _ _ (call (Value.builtin "list.append") _) _ _ _)); first | (with_reducible contradiction) | (first | (k_unfold; (try dsimp only)) | walk1 | (dsimp only; walk1) | (leave1; walk_say "STEP leave1"; try dsimp only) | fail "no step")))
  refine' l_str (w := w) ⟨by k_asm, by k_asm, by k_asm, by k_asm, by k_asm, rfl⟩ t7 (hC2.keeps FG'.keep) G7 HA7 hsm (dpl (a := 1) (b := 6) (c := 20) (by decide) hdp) (dpl (a := 3) (b := 50) (c := 150) (by decide) hun) ?hR5
  intro tS n8 h8 tk8 gs8 F8 N8 t8 G8 K8
  have H8 := H7.kp K8
  rw [htx]
  obtain ⟨hv8, ⟨a81, a82, a83, a84, a85, a86, b81, b82, b83, b84, b85, b86, tw8, c82, c83, ts8, nn8, hd8⟩, ⟨vs8, kl8, hl8, hvs8⟩, HA8⟩ := id H8
  obtain ⟨⟨k8, hx8⟩, ⟨hsh8, tki8, tii8, ki8, hdx8⟩, hps8⟩ := id HA8
  (repeat' ((fail_if_success (with_reducible show wpAny _ _ (call (Value.ref _) _) _ _ _)); (fail_if_success (with_reducible show wpAny _ _ (call (Value.builtin "len") [Value.ref _]) _ _ _)); (fail_if_success (with_reducible show wpAny _ _ (call (Value.type "str") _) _ _ _)); (fail_if_success (with_reducible show wpAny _ _ (call (Value.builtin "list.append") _) _ _ _)); first | (with_reducible contradiction) | (first | (k_unfold; (try dsimp only)) | walk1 | (dsimp only; walk1) | (leave1; walk_say "STEP leave1"; try dsimp only) | fail "no step")))
  refine append_M (by k_asm) (by k_asm) hl8 (by rw [StrsAre.length hvs8]; omega) ?_
  intro h9 F9 N9
  have H9 := H8.line (tx := (Str.ofString "")) (tt := tS) (n := kl8 + 1) N8 hl8 hvs8
  have t9 : TabsOk ((l, listOf (vs8 ++ [Value.str (Str.ofString "") tS]).toArray (kl8 + 1)) :: off l n8) := t8.but N8 hl8 (by nofun) fun z h1 h2 => .tail _ (mem_off.mpr ⟨h1, h2⟩)
  have K9 : KpV l x dx n8 ((l, listOf (vs8 ++ [Value.str (Str.ofString "") tS]).toArray (kl8 + 1)) :: off l n8) := fun q h1 h2 _ _ _ => .tail _ (mem_off.mpr ⟨h1, h2⟩)
  generalize (l, listOf (vs8 ++ [Value.str (Str.ofString "") tS]).toArray (kl8 + 1)) :: off l n8 = n9 at N9 H9 t9 K9 ⊢
  obtain ⟨hv9, ⟨a91, a92, a93, a94, a95, a96, b91, b92, b93, b94, b95, b96, tw9, c92, c93, ts9, nn9, hd9⟩, ⟨vs9, kl9, hl9, hvs9⟩, HA9⟩ := id H9
  obtain ⟨⟨k9, hx9⟩, ⟨hsh9, tki9, tii9, ki9, hdx9⟩, hps9⟩ := id HA9
  (repeat' ((fail_if_success (with_reducible show wpAny _ _ (call (Value.ref _) _) _ _ _)); (fail_if_success (with_reducible show wpAny _ _ (call (Value.builtin "len") [Value.ref _]) _ _ _)); (fail_if_success (with_reducible show wpAny _ _ (call (Value.type "str") _) _ _ _)); (fail_if_success (with_reducible show wpAny _ _ (call (Value.builtin "list.append") _) _ _ _)); first | (with_reducible contradiction) | (first | (k_unfold; (try dsimp only)) | walk1 | (dsimp only; walk1) | (leave1; walk_say "STEP leave1"; try dsimp only) | fail "no step")))
  refine' c_reset0 (w := w) ⟨by k_asm, by k_asm, by k_asm, by k_asm, by k_asm, rfl⟩ t9 HA9 (by have := hsm.len; omega) (dpl (a := 1) (b := 6) (c := 20) (by decide) hdp) (dpl (a := 3) (b := 40) (c := 150) (by decide) hun) ?hR6
  intro n10 h10 tk10 F10 N10 t10 A10 K10
  have H10 := H9.acc N9 K10 A10
  (repeat' ((fail_if_success (with_reducible show wpAny _ _ (call (Value.ref _) _) _ _ _)); (fail_if_success (with_reducible show wpAny _ _ (call (Value.builtin "len") [Value.ref _]) _ _ _)); (fail_if_success (with_reducible show wpAny _ _ (call (Value.type "str") _) _ _ _)); (fail_if_success (with_reducible show wpAny _ _ (call (Value.builtin "list.append") _) _ _ _)); first | (with_reducible contradiction) | (first | (k_unfold; (try dsimp only)) | walk1 | (dsimp only; walk1) | (leave1; walk_say "STEP leave1"; try dsimp only) | fail "no step")))
  rename_i kF kN kT kX
  exact hret _ _ _ _ kF kN t10 G8 H10 (K25.trans ((Kp.toV (K6.trans (K7.trans K8))).trans (K9.trans K10.toV)))
end Mine
end

section
open PySem PySem.W PyProof.Rows
set_option linter.unusedVariables false
namespace Mine
theorem c_only {w : World} {p : Program} {loose : List Str} {mean : ExcName → Option Value} {mg mb : Str → Option Value} {dp un : Nat} {gd : Option (List Code)} {cn : Str} {cs : Scope} {a : Addr} {ccd : Value} {cl : List (Str × Addr)} {outer : List Env} {A₀ : Around} {base h₀ : Heap} {L : Addr} {m : Str → Option Value} {news : List (Addr × Obj)} {s : Shared} {Q E : Value → Shared → Prop}
    {x dx : Addr} {ini : Int} {ps : List Part}
    (C : Cx w p loose mean mg mb cs outer A₀ base h₀ L m news s.heap) (ht : TabsOk news) (hC1 : CodeHd h₀ 144 140) (hC2 : CodeHd h₀ 151 147) (G : AllBare s.gens) (H : Ac x dx ps ini news) (hsm : Sm ps) (hon : 0 < ini ∨ (ini = 0 ∧ 0 < wid ps ∧ Txt.isspace (txt ps) = false))
    (hdp : dp + 10 < recursionLimit) (hun : un + 80 < cLine)
    (hret : LBack h₀ L m news s (Q (.bool false))) :
    wpAny (model Challenge.rw_nb0260_01.row.prog w) (ktrTop dp un gd cn cs L a ccd cl outer) (call (.ref 167) [.ref x]) Q E s := by
  rcases hon with hon | ⟨rfl, h1, h2⟩
  · exact c_only1 C H hon (by omega) (by omega) fun h' tk' F' N' => hret _ _ _ _ F' N' ht G (Kp.refl _)
  · exact c_only0 C ht hC1 hC2 G H hsm h1 h2 hdp hun hret
theorem wid_snoc (ps : List Part) (q : Part) : wid (ps ++ [q]) = wid ps + ((q.f.length + q.p.length : Nat) : Int) := by simp [wid]
theorem Sm.snoc {ps : List Part} (h : ∀ q ∈ ps, q.f.length ≤ 10 ∧ q.p.length ≤ 10) (hl : ps.length ≤ 99) {q : Part} (hq : q.f.length ≤ 10 ∧ q.p.length ≤ 10) : Sm (ps ++ [q]) :=
  ⟨by simp; omega, fun z hz => by rcases List.mem_append.mp hz with h1 | h1; exact h z h1; rw [List.mem_singleton.mp h1]; exact hq⟩
theorem txt_snoc (ps : List Part) (q : Part) : txt (ps ++ [q]) = S ((ps.map ptx).flatten ++ ptx q) := by rw [txt_S]; simp
set_option maxRecDepth 100000 in
set_option maxHeartbeats 8000000 in
theorem c_nlB {w : World} {p : Program} {loose : List Str} {mean : ExcName → Option Value} {mg mb : Str → Option Value} {dp un : Nat} {gd : Option (List Code)} {cn : Str} {cs : Scope} {a : Addr} {ccd : Value} {cl : List (Str × Addr)} {outer : List Env} {A₀ : Around} {base h₀ : Heap} {L : Addr} {m : Str → Option Value} {news : List (Addr × Obj)} {s : Shared} {Q E : Value → Shared → Prop}
    {v dv l x dx ad : Addr} {wide ini : Int} {lines : List Str} {qs : List Part} {wl : Str} {tf tp : Tok}
    (C : Cx w p loose mean mg mb cs outer A₀ base h₀ L m news s.heap) (ht : TabsOk news) (hC1 : CodeHd h₀ 144 140) (hC2 : CodeHd h₀ 151 147) (G : AllBare s.gens) (H : Vf v dv l x dx wide lines (qs ++ [⟨ad, Str.ofString " ", tf, wl, tp⟩]) ini news)
    (hi : 0 ≤ ini ∧ ini ≤ 1000) (hl : lines.length ≤ 200) (hsm0 : Sm (qs ++ [⟨ad, Str.ofString " ", tf, wl, tp⟩])) (hwl : wl ≠ Str.ofString "") (hok : PyData.strOk wl = true) (hon : 0 < ini ∨ (ini = 0 ∧ Txt.isspace (txt (qs ++ [⟨ad, Str.ofString " ", tf, wl, tp⟩])) = false))
    (hdp : dp + 20 < recursionLimit) (hun : un + 150 < cLine)
    (hret : ∀ (news' : List (Addr × Obj)) (h' : Heap) (tk' : Tok) (gs : Array GenState), Fr h₀ L h' m → News h₀ L h' news' → TabsOk news' → AllBare gs → Vf v dv l x dx wide (lines ++ [txt (qs ++ [⟨ad, Str.ofString " ", tf, wl, tp⟩])]) [] 0 news' → KpV l x dx news news' → Q .none ⟨h', gs, s.drawn, tk', s.os⟩) :
    wpAny (model Challenge.rw_nb0260_01.row.prog w) (ktrTop dp un gd cn cs L a ccd cl outer) (call (.ref 56) [.ref v]) Q E s := by
  obtain ⟨B, F, X, N, T, hk⟩ := C
  obtain ⟨hv0, ⟨a01, a02, a03, a04, a05, a06, b01, b02, b03, b04, b05, b06, tw0, c02, c03, ts0, nn0, hd0⟩, ⟨vs0, kl0, hl0, hvs0⟩, HA0⟩ := id H
  obtain ⟨⟨k0, hx0⟩, ⟨hsh0, tki0, tii0, ki0, hdx0⟩, hps0⟩ := id HA0
  refine wpAny_call ?_
  (k_dflt (refine' code_def2 ?k1 ?k2 ?k3 ?k4 ?k5 ?kA ?kF ?kK ?k6 ?k7 ?k8 ?k9 ?kB ?_ ?c2 ?c3 ?c4 ?c5; (case kA => exact rfl); (case kF => exact rfl); (case kK => assumption); (case k1 => k_asm); (case k2 => k_asm); (case k3 => k_asm); (case k4 => k_asm); (case k5 => k_asm); (case k6 => k_is); (case k7 => k_is); (case k8 => ktr_room); (case k9 => first | exact BindsTo.of_eq rfl | exact binds_K (by k_in) rfl (by k_is) rfl rfl rfl); (case c5 => decide); (case kB => exact locs2 rfl); (case c2 => exact rfl); (case c3 => exact rfl); (case c4 => exact rfl); k_whole; intro g' L' h' FG' F' N' B' X' T' l1; (try dsimp only); (try k_lift B'); (try k_fold)))
  (repeat' ((fail_if_success (with_reducible show wpAny _ _ (call (Value.ref _) _) _ _ _)); (fail_if_success (with_reducible show wpAny _ _ (call (Value.builtin "len") [Value.ref _]) _ _ _)); (fail_if_success (with_reducible show wpAny _ _ (call (Value.type "str") _) _ _ _)); (fail_if_success (with_reducible show wpAny _ _ (call (Value.builtin "list.append") _) _ _ _)); (fail_if_success (with_reducible show wpAny _ _ (compareOp CmpOp.NotEq _ _) _ _ _)); first | (with_reducible contradiction) | (first | (k_unfold; (try dsimp only)) | walk1 | (dsimp only; walk1) | (leave1; walk_say "STEP leave1"; try dsimp only) | fail "no step")))
  refine' c_pop1 (w := w) ⟨by k_asm, by k_asm, by k_asm, by k_asm, by k_asm, rfl⟩ ht HA0 (by have := hsm0.len; simp at this; omega) (dpl (a := 1) (b := 6) (c := 20) (by decide) hdp) (dpl (a := 3) (b := 40) (c := 150) (by decide) hun) ?hR1
  intro n2 h2' tk2 F2 N2 hT2 A2 hr2 e2
  have H2 := H.acc N' e2 A2
  obtain ⟨hv2, ⟨a21, a22, a23, a24, a25, a26, b21, b22, b23, b24, b25, b26, tw2, c22, c23, ts2, nn2, hd2⟩, ⟨vs2, kl2, hl2, hvs2⟩, HA2⟩ := id H2
  obtain ⟨⟨k2, hx2⟩, ⟨hsh2, tki2, tii2, ki2, hdx2⟩, hps2⟩ := id HA2
  (repeat' ((fail_if_success (with_reducible show wpAny _ _ (call (Value.ref _) _) _ _ _)); (fail_if_success (with_reducible show wpAny _ _ (call (Value.builtin "len") [Value.ref _]) _ _ _)); (fail_if_success (with_reducible show wpAny _ _ (call (Value.type "str") _) _ _ _)); (fail_if_success (with_reducible show wpAny _ _ (call (Value.builtin "list.append") _) _ _ _)); (fail_if_success (with_reducible show wpAny _ _ (compareOp CmpOp.NotEq _ _) _ _ _)); first | (with_reducible contradiction) | (first | (k_unfold; (try dsimp only)) | walk1 | (dsimp only; walk1) | (leave1; walk_say "STEP leave1"; try dsimp only) | fail "no step")))
  rename_i h3a D' h3 F3 N3 l3
  refine ne_pairs N3 (.tail _ hr2) (.head _) (dpl (a := 3) (b := 64) (c := 150) (by decide) hun) hwl (show PyData.strOk (Str.ofString " ") = true by decide +kernel) hok (show PyData.strOk (Str.ofString " ") = true by decide +kernel) (show PyData.strOk (Str.ofString "") = true by decide +kernel) ?_
  (repeat' ((fail_if_success (with_reducible show wpAny _ _ (call (Value.ref _) _) _ _ _)); (fail_if_success (with_reducible show wpAny _ _ (call (Value.builtin "len") [Value.ref _]) _ _ _)); (fail_if_success (with_reducible show wpAny _ _ (call (Value.type "str") _) _ _ _)); (fail_if_success (with_reducible show wpAny _ _ (call (Value.builtin "list.append") _) _ _ _)); (fail_if_success (with_reducible show wpAny _ _ (compareOp CmpOp.NotEq _ _) _ _ _)); first | (with_reducible contradiction) | (first | (k_unfold; (try dsimp only)) | walk1 | (dsimp only; walk1) | (leave1; walk_say "STEP leave1"; try dsimp only) | fail "no step")))
  refine' star_push (x := x) (r := ad) (by k_asm) rfl rfl ?ho ?hv (by k_asm) (by k_asm) (by k_mem) (by k_mem) (by k_mem) ?hp
  case ho =>
    intro R hR
    (repeat' ((fail_if_success (with_reducible show wpAny _ _ (call (Value.ref _) _) _ _ _)); (fail_if_success (with_reducible show wpAny _ _ (call (Value.builtin "len") [Value.ref _]) _ _ _)); (fail_if_success (with_reducible show wpAny _ _ (call (Value.type "str") _) _ _ _)); (fail_if_success (with_reducible show wpAny _ _ (call (Value.builtin "list.append") _) _ _ _)); (fail_if_success (with_reducible show wpAny _ _ (compareOp CmpOp.NotEq _ _) _ _ _)); first | (with_reducible contradiction) | (first | (k_unfold; (try dsimp only)) | walk1 | (dsimp only; walk1) | (leave1; walk_say "STEP leave1"; try dsimp only) | fail "no step")))
    exact hR _
  case hv =>
    intro u R Fu hR
    exact nm_loc Fu rfl rfl rfl (by decide) hR
  intro h4 tk4 F4 N4
  replace N4 : News g' L' h4 n2 := fun p hp => N4 p (.tail _ hp)
  refine' c_pushC (w := w) ⟨by k_asm, by k_asm, by k_asm, by k_asm, by k_asm, rfl⟩ hT2 HA2 (by have := hsm0.len; simp at this; omega) (dpl (a := 1) (b := 3) (c := 20) (by decide) hdp) (dpl (a := 3) (b := 20) (c := 150) (by decide) hun) ?hR2
  intro r5 n5 h5 tk5 F5 N5 t5 A5 K5
  have H5 := H2.acc N4 K5 A5
  have K25 : KpV l x dx news n5 := (e2.trans K5).toV
  have hp0 := hsm0.part ⟨ad, Str.ofString " ", tf, wl, tp⟩ (by simp)
  have hsm : Sm (qs ++ [(⟨r5, Str.ofString " ", tf, wl, tp⟩ : Part)]) := Sm.snoc (fun q hq => hsm0.part q (by simp [hq])) (by have := hsm0.len; simp at this; omega) hp0
  have hl1 : (Str.ofString " ").length = 1 := by decide +kernel
  have hw0 := (wid_le (ps := qs) fun q hq => hsm0.part q (by simp [hq])).1
  have hw : 0 < wid (qs ++ [(⟨r5, Str.ofString " ", tf, wl, tp⟩ : Part)]) := by rw [wid_snoc]; dsimp only; rw [hl1]; omega
  have hini : 0 ≤ ini ∧ ini ≤ 1000 := hi
  have hpos : 0 < ini + wid (qs ++ [(⟨r5, Str.ofString " ", tf, wl, tp⟩ : Part)]) := by omega
  have htx : txt (qs ++ [(⟨r5, Str.ofString " ", tf, wl, tp⟩ : Part)]) = txt (qs ++ [(⟨ad, Str.ofString " ", tf, wl, tp⟩ : Part)]) := by rw [txt_snoc, txt_snoc]; rfl
  have hon5 : 0 < ini ∨ (ini = 0 ∧ 0 < wid (qs ++ [(⟨r5, Str.ofString " ", tf, wl, tp⟩ : Part)]) ∧ Txt.isspace (txt (qs ++ [(⟨r5, Str.ofString " ", tf, wl, tp⟩ : Part)])) = false) := by
    rcases hon with h | ⟨h1, h2⟩
    · exact .inl h
    · exact .inr ⟨h1, hw, by rw [htx]; exact h2⟩
  obtain ⟨hv5, ⟨a51, a52, a53, a54, a55, a56, b51, b52, b53, b54, b55, b56, tw5, c52, c53, ts5, nn5, hd5⟩, ⟨vs5, kl5, hl5, hvs5⟩, HA5⟩ := id H5
  obtain ⟨⟨k5, hx5⟩, ⟨hsh5, tki5, tii5, ki5, hdx5⟩, hps5⟩ := id HA5
  (repeat' ((fail_if_success (with_reducible show wpAny _ _ (call (Value.ref _) _) _ _ _)); (fail_if_success (with_reducible show wpAny _ _ (call (Value.builtin "len") [Value.ref _]) _ _ _)); (fail_if_success (with_reducible show wpAny _ _ (call (Value.type "str") _) _ _ _)); (fail_if_success (with_reducible show wpAny _ _ (call (Value.builtin "list.append") _) _ _ _)); (fail_if_success (with_reducible show wpAny _ _ (compareOp CmpOp.NotEq _ _) _ _ _)); first | (with_reducible contradiction) | (first | (k_unfold; (try dsimp only)) | walk1 | (dsimp only; walk1) | (leave1; walk_say "STEP leave1"; try dsimp only) | fail "no step")))
  refine' l_len (w := w) ⟨by k_asm, by k_asm, by k_asm, by k_asm, by k_asm, rfl⟩ t5 (hC1.keeps FG'.keep) G HA5 hini hsm (dpl (a := 1) (b := 6) (c := 20) (by decide) hdp) (dpl (a := 3) (b := 50) (c := 150) (by decide) hun) ?hR3
  intro tL n6 h6 tk6 gs6 F6 N6 t6 G6 K6
  have H6 := H5.kp K6
  clear K5
  obtain ⟨hv6, ⟨a61, a62, a63, a64, a65, a66, b61, b62, b63, b64, b65, b66, tw6, c62, c63, ts6, nn6, hd6⟩, ⟨vs6, kl6, hl6, hvs6⟩, HA6⟩ := id H6
  obtain ⟨⟨k6, hx6⟩, ⟨hsh6, tki6, tii6, ki6, hdx6⟩, hps6⟩ := id HA6
  generalize ini + wid (qs ++ [(⟨r5, Str.ofString " ", tf, wl, tp⟩ : Part)]) = z at hpos ⊢
  (repeat' ((fail_if_success (with_reducible show wpAny _ _ (call (Value.ref _) _) _ _ _)); (fail_if_success (with_reducible show wpAny _ _ (call (Value.builtin "len") [Value.ref _]) _ _ _)); (fail_if_success (with_reducible show wpAny _ _ (call (Value.type "str") _) _ _ _)); (fail_if_success (with_reducible show wpAny _ _ (call (Value.builtin "list.append") _) _ _ _)); (fail_if_success (with_reducible show wpAny _ _ (compareOp CmpOp.NotEq _ _) _ _ _)); first | (with_reducible contradiction) | (first | (k_unfold; (try dsimp only)) | walk1 | (dsimp only; walk1) | (leave1; walk_say "STEP leave1"; try dsimp only) | fail "no step")))
  refine' c_only (w := w) ⟨by k_asm, by k_asm, by k_asm, by k_asm, by k_asm, rfl⟩ t6 (hC1.keeps FG'.keep) (hC2.keeps FG'.keep) G6 HA6 hsm hon5 (dpl (a := 1) (b := 10) (c := 20) (by decide) hdp) (dpl (a := 3) (b := 80) (c := 150) (by decide) hun) ?hR4
  intro n7 h7 tk7 gs7 F7 N7 t7 G7 K7
  have H7 := H6.kp K7
  obtain ⟨hv7, ⟨a71, a72, a73, a74, a75, a76, b71, b72, b73, b74, b75, b76, tw7, c72, c73, ts7, nn7, hd7⟩, ⟨vs7, kl7, hl7, hvs7⟩, HA7⟩ := id H7
  obtain ⟨⟨k7, hx7⟩, ⟨hsh7, tki7, tii7, ki7, hdx7⟩, hps7⟩ := id HA7
  (repeat' ((fail_if_success (with_reducible show wpAny _ _ (call (Value.ref _) _) _ _ _)); (fail_if_success (with_reducible show wpAny _ _ (call (Value.builtin "len") [Value.ref _]) _ _ _)); (fail_if_success (with_reducible show wpAny _ _ (call (Value.type "str") _) _ _ _)); (fail_if_success (with_reducible show wpAny _ _ (call (Value.builtin "list.append") _) _ _ _)); (fail_if_success (with_reducible show wpAny _ _ (compareOp CmpOp.NotEq _ _) _ _ _)); first | (with_reducible contradiction) | (first | (k_unfold; (try dsimp only)) | walk1 | (dsimp only; walk1) | (leave1; walk_say "STEP leave1"; try dsimp only) | fail "no step")))
  refine' l_str (w := w) ⟨by k_asm, by k_asm, by k_asm, by k_asm, by k_asm, rfl⟩ t7 (hC2.keeps FG'.keep) G7 HA7 hsm (dpl (a := 1) (b := 6) (c := 20) (by decide) hdp) (dpl (a := 3) (b := 50) (c := 150) (by decide) hun) ?hR5
  intro tS n8 h8 tk8 gs8 F8 N8 t8 G8 K8
  have H8 := H7.kp K8
  rw [htx]
  obtain ⟨hv8, ⟨a81, a82, a83, a84, a85, a86, b81, b82, b83, b84, b85, b86, tw8, c82, c83, ts8, nn8, hd8⟩, ⟨vs8, kl8, hl8, hvs8⟩, HA8⟩ := id H8
  obtain ⟨⟨k8, hx8⟩, ⟨hsh8, tki8, tii8, ki8, hdx8⟩, hps8⟩ := id HA8
  (repeat' ((fail_if_success (with_reducible show wpAny _ _ (call (Value.ref _) _) _ _ _)); (fail_if_success (with_reducible show wpAny _ _ (call (Value.builtin "len") [Value.ref _]) _ _ _)); (fail_if_success (with_reducible show wpAny _ _ (call (Value.type "str") _) _ _ _)); (fail_if_success (with_reducible show wpAny _ _ (call (Value.builtin "list.append") _) _ _ _)); (fail_if_success (with_reducible show wpAny _ _ (compareOp CmpOp.NotEq _ _) _ _ _)); first | (with_reducible contradiction) | (first | (k_unfold; (try dsimp only)) | walk1 | (dsimp only; walk1) | (leave1; walk_say "STEP leave1"; try dsimp only) | fail "no step")))
  refine append_M (by k_asm) (by k_asm) hl8 (by rw [StrsAre.length hvs8]; omega) ?_
  intro h9 F9 N9
  have H9 := H8.line (tx := (txt (qs ++ [(⟨ad, Str.ofString " ", tf, wl, tp⟩ : Part)]))) (tt := tS) (n := kl8 + 1) N8 hl8 hvs8
  have t9 : TabsOk ((l, listOf (vs8 ++ [Value.str (txt (qs ++ [(⟨ad, Str.ofString " ", tf, wl, tp⟩ : Part)])) tS]).toArray (kl8 + 1)) :: off l n8) := t8.but N8 hl8 (by nofun) fun z h1 h2 => .tail _ (mem_off.mpr ⟨h1, h2⟩)
  have K9 : KpV l x dx n8 ((l, listOf (vs8 ++ [Value.str (txt (qs ++ [(⟨ad, Str.ofString " ", tf, wl, tp⟩ : Part)])) tS]).toArray (kl8 + 1)) :: off l n8) := fun q h1 h2 _ _ _ => .tail _ (mem_off.mpr ⟨h1, h2⟩)
  generalize (l, listOf (vs8 ++ [Value.str (txt (qs ++ [(⟨ad, Str.ofString " ", tf, wl, tp⟩ : Part)])) tS]).toArray (kl8 + 1)) :: off l n8 = n9 at N9 H9 t9 K9 ⊢
  obtain ⟨hv9, ⟨a91, a92, a93, a94, a95, a96, b91, b92, b93, b94, b95, b96, tw9, c92, c93, ts9, nn9, hd9⟩, ⟨vs9, kl9, hl9, hvs9⟩, HA9⟩ := id H9
  obtain ⟨⟨k9, hx9⟩, ⟨hsh9, tki9, tii9, ki9, hdx9⟩, hps9⟩ := id HA9
  (repeat' ((fail_if_success (with_reducible show wpAny _ _ (call (Value.ref _) _) _ _ _)); (fail_if_success (with_reducible show wpAny _ _ (call (Value.builtin "len") [Value.ref _]) _ _ _)); (fail_if_success (with_reducible show wpAny _ _ (call (Value.type "str") _) _ _ _)); (fail_if_success (with_reducible show wpAny _ _ (call (Value.builtin "list.append") _) _ _ _)); (fail_if_success (with_reducible show wpAny _ _ (compareOp CmpOp.NotEq _ _) _ _ _)); first | (with_reducible contradiction) | (first | (k_unfold; (try dsimp only)) | walk1 | (dsimp only; walk1) | (leave1; walk_say "STEP leave1"; try dsimp only) | fail "no step")))
  refine' c_reset0 (w := w) ⟨by k_asm, by k_asm, by k_asm, by k_asm, by k_asm, rfl⟩ t9 HA9 (Nat.le_trans hsm.len (by decide)) (dpl (a := 1) (b := 6) (c := 20) (by decide) hdp) (dpl (a := 3) (b := 40) (c := 150) (by decide) hun) ?hR6
  intro n10 h10 tk10 F10 N10 t10 A10 K10
  have H10 := H9.acc N9 K10 A10
  (repeat' ((fail_if_success (with_reducible show wpAny _ _ (call (Value.ref _) _) _ _ _)); (fail_if_success (with_reducible show wpAny _ _ (call (Value.builtin "len") [Value.ref _]) _ _ _)); (fail_if_success (with_reducible show wpAny _ _ (call (Value.type "str") _) _ _ _)); (fail_if_success (with_reducible show wpAny _ _ (call (Value.builtin "list.append") _) _ _ _)); (fail_if_success (with_reducible show wpAny _ _ (compareOp CmpOp.NotEq _ _) _ _ _)); first | (with_reducible contradiction) | (first | (k_unfold; (try dsimp only)) | walk1 | (dsimp only; walk1) | (leave1; walk_say "STEP leave1"; try dsimp only) | fail "no step")))
  rename_i kF kN kT kX
  exact hret _ _ _ _ kF kN t10 G8 H10 (K25.trans ((Kp.toV (K6.trans (K7.trans K8))).trans (K9.trans K10.toV)))
end Mine
end

section
open PySem PySem.W PyProof.Rows
set_option linter.unusedVariables false
namespace Mine
/-- an ordinary part: a blank and a word of letters -/
structure Pt (q : Part) : Prop where
  f : q.f = Str.ofString " "
  p : ∃ wl : List Nat, q.p = S wl ∧ wl.length ≤ 3 ∧ ∀ c ∈ wl, 97 ≤ c ∧ c < 105
theorem Pt.small {q : Part} (h : Pt q) : q.f.length ≤ 10 ∧ q.p.length ≤ 10 := by
  obtain ⟨wl, e, h1, _⟩ := h.p
  have : (Str.ofString " ").length = 1 := by decide +kernel
  rw [h.f, e, S_len, this]
  omega
theorem range_size (n : Nat) : Builtin.Range.rangeSize (n : Int) 0 (-1) = n := by
  unfold Builtin.Range.rangeSize
  simp
  omega
theorem range_small {n : Nat} (h : n ≤ 1000) : Builtin.Range.small (n : Int) 0 (-1) = true := by
  unfold Builtin.Range.small
  rw [range_size]
  simp [Builtin.Range.rangeFitsLong]
  omega
/-- what a chunk makes of the lines, the parts and the initial size -/
inductive Chunk (wide : Int) (lines : List Str) (ps : List Part) (ini : Int) (wl : List Nat) : List Str → List Part → Int → Prop
  | fits (q : Part) (h1 : q.f = Str.ofString " ") (h2 : q.p = S wl) (h3 : ini + wid (ps ++ [q]) ≤ wide) : Chunk wide lines ps ini wl lines (ps ++ [q]) ini
  | split (q : Part) (h1 : q.f = Str.ofString " ") (h2 : q.p = S wl) (h3 : wide < ini + wid (ps ++ [q])) (h4 : ps ≠ []) : Chunk wide lines ps ini wl (lines ++ [txt ps]) [q] 0
  | alone (q : Part) (h1 : q.f = Str.ofString " ") (h2 : q.p = S wl) (h3 : wide < ini + wid (ps ++ [q])) (h4 : ps = []) (h5 : ini = 0) : Chunk wide lines ps ini wl lines [q] 0
  | head (q : Part) (h1 : q.f = Str.ofString " ") (h2 : q.p = S wl) (h3 : wide < ini + wid (ps ++ [q])) (h4 : ps = []) (h5 : 0 < ini) : Chunk wide lines ps ini wl (lines ++ [Str.ofString ""]) [q] 0
theorem ref_not_strs {vs : List Value} {ls : List Str} (h : StrsAre vs ls) {q : Part} : accI [q] ≠ vs.toArray := fun e => by
  have e' : [Value.ref q.ad] = vs := by simpa [accI] using congrArg Array.toList e
  subst e'
  cases h
theorem sign_cases {i c : Nat} (h : (Str.ofString "; ").cps[i]? = some c) : (i = 0 ∧ c = 59) ∨ (i = 1 ∧ c = 32) := by
  have e : (Str.ofString "; ").cps = #[59, 32] := by decide +kernel
  rw [e] at h
  match i, h with
  | 0, h => left; simpa using h.symm
  | 1, h => right; simpa using h.symm
  | i + 2, h => simp at h
end Mine
end

section
open PySem PySem.W PyProof.Rows
set_option linter.unusedVariables false
namespace Mine
section
variable {prog : Program} {w : World} {A : Around} {E : Value → Shared → Prop} {s : Shared} {q : Addr} {h₀ : Heap} {L : Addr} {news : List (Addr × Obj)} {a b : Value} {u : Tok} {value slice : PySem.Expr} {Q : Value → Shared → Prop}
theorem tup0 (N : News h₀ L s.heap news) (hm : (q, tupO a b) ∈ news) (h : Q a s) (hs : subscripted slice false (.ref q) (.int 0 u) = operate [.ref q, .int 0 u] (getItem (.ref q) (.int 0 u))) :
    wpAny (model prog w) A (subscriptTail value slice (.ref q) (.int 0 u)) Q E s :=
  item_tupleT (l := [a, b]) (j := 0) ⟨_, (N _ hm).1, rfl, _, rfl⟩ (by decide) (by decide) (by rfl) rfl h hs
theorem tup1 (N : News h₀ L s.heap news) (hm : (q, tupO a b) ∈ news) (h : Q b s) (hs : subscripted slice false (.ref q) (.int 1 u) = operate [.ref q, .int 1 u] (getItem (.ref q) (.int 1 u))) :
    wpAny (model prog w) A (subscriptTail value slice (.ref q) (.int 1 u)) Q E s :=
  item_tupleT (l := [a, b]) (j := 1) ⟨_, (N _ hm).1, rfl, _, rfl⟩ (by decide) (by decide) (by rfl) rfl h hs
end
local macro_rules | `(tactic| walk_at "eval Name") => `(tactic| (k_here; k_dflt (refine' ld ?k1 ?k2 ?_; (case k1 => k_asm); (case k2 => first | exact rfl | assumption); k_whole)))
set_option maxRecDepth 100000 in
set_option maxHeartbeats 8000000 in
theorem c_chunk0 {w : World} {p : Program} {loose : List Str} {mean : ExcName → Option Value} {mg mb : Str → Option Value} {dp un : Nat} {gd : Option (List Code)} {cn : Str} {cs : Scope} {a : Addr} {ccd : Value} {cl : List (Str × Addr)} {outer : List Env} {A₀ : Around} {base h₀ : Heap} {L : Addr} {m : Str → Option Value} {news : List (Addr × Obj)} {s : Shared} {Q E : Value → Shared → Prop}
    {v dv l x dx : Addr} {wide ini : Int} {lines : List Str} {ps : List Part} {wl : List Nat} {tf tp : Tok}
    (C : Cx w p loose mean mg mb cs outer A₀ base h₀ L m news s.heap) (ht : TabsOk news) (hC1 : CodeHd h₀ 144 140) (hC2 : CodeHd h₀ 151 147) (G : AllBare s.gens) (H : Vf v dv l x dx wide lines ps ini news)
    (hi : 0 ≤ ini ∧ ini ≤ 1000) (hl : lines.length ≤ 100) (hps : ∀ q ∈ ps, Pt q) (hlen : ps.length ≤ 90) (hwl : wl.length ≤ 3) (hw2 : ∀ c ∈ wl, 97 ≤ c ∧ c < 105)
    (hdp : dp + 30 < recursionLimit) (hun : un + 250 < cLine)
    (hret : ∀ (news' : List (Addr × Obj)) (h' : Heap) (tk' : Tok) (gs : Array GenState), Fr h₀ L h' m → News h₀ L h' news' → TabsOk news' → AllBare gs → (∃ lines' ps' ini', Vf v dv l x dx wide lines' ps' ini' news' ∧ Chunk wide lines ps ini wl lines' ps' ini') → KpV l x dx news news' → Q .none ⟨h', gs, s.drawn, tk', s.os⟩) :
    wpAny (model Challenge.rw_nb0260_01.row.prog w) (ktrTop dp un gd cn cs L a ccd cl outer) (call (.ref 91) [.ref v, .str " " tf, .str (S wl) tp]) Q E s := by
  obtain ⟨B, F, X, N, T, hk⟩ := C
  obtain ⟨hv0, ⟨a01, a02, a03, a04, a05, a06, b01, b02, b03, b04, b05, b06, tw0, c02, c03, ts0, nn0, hd0⟩, ⟨vs0, kl0, hl0, hvs0⟩, HA0⟩ := id H
  obtain ⟨⟨k0, hx0⟩, ⟨hsh0, tki0, tii0, ki0, hdx0⟩, hps0⟩ := id HA0
  refine wpAny_call ?_
  (k_dflt (refine' code_def2 ?k1 ?k2 ?k3 ?k4 ?k5 ?kA ?kF ?kK ?k6 ?k7 ?k8 ?k9 ?kB ?_ ?c2 ?c3 ?c4 ?c5; (case kA => exact rfl); (case kF => exact rfl); (case kK => assumption); (case k1 => k_asm); (case k2 => k_asm); (case k3 => k_asm); (case k4 => k_asm); (case k5 => k_asm); (case k6 => k_is); (case k7 => k_is); (case k8 => ktr_room); (case k9 => first | exact BindsTo.of_eq rfl | exact binds_K (by k_in) rfl (by k_is) rfl rfl rfl); (case c5 => decide); (case kB => exact locs2 rfl); (case c2 => exact rfl); (case c3 => exact rfl); (case c4 => exact rfl); k_whole; intro g' L' h' FG' F' N' B' X' T' l1; (try dsimp only); (try k_lift B'); (try k_fold)))
  (repeat' ((fail_if_success (with_reducible show wpAny _ _ (subscriptTail _ _ (Value.ref _) (Value.int _ _)) _ _ _)); (fail_if_success (with_reducible show wpAny _ _ (call (Value.ref _) _) _ _ _)); (fail_if_success (with_reducible show wpAny _ _ (call (Value.builtin "len") [Value.ref _]) _ _ _)); (fail_if_success (with_reducible show wpAny _ _ (call (Value.type "str") _) _ _ _)); (fail_if_success (with_reducible show wpAny _ _ (call (Value.builtin "list.append") _) _ _ _)); (fail_if_success (with_reducible show wpAny _ _ (pyIter _) _ _ _)); (fail_if_success (with_reducible show wpAny _ _ (exec (Stmt.For _ _ _ _ _) _) _ _ _)); (fail_if_success (with_reducible show wpAny _ _ (truthy (Value.str (S (_ ++ _)) _)) _ _ _)); (fail_if_success (with_reducible show wpAny _ _ (subscriptTail _ _ (Value.str (S (_ ++ _)) _) _) _ _ _)); first | (with_reducible contradiction) | (first | (k_unfold; (try dsimp only)) | walk1 | (dsimp only; walk1) | (leave1; walk_say "STEP leave1"; try dsimp only) | fail "no step")))
  refine' c_push (w := w) ⟨by k_asm, by k_asm, by k_asm, by k_asm, by k_asm, rfl⟩ ht HA0 (Nat.lt_of_le_of_lt hlen (by decide)) (dpl (a := 1) (b := 3) (c := 30) (by decide) hdp) (dpl (a := 3) (b := 20) (c := 250) (by decide) hun) ?hR1
  intro r1 n1 h1 tk1 F1 N1 t1 A1 K1
  have H1 := H.acc N' K1 A1
  obtain ⟨hv1, ⟨a11, a12, a13, a14, a15, a16, b11, b12, b13, b14, b15, b16, tw1, c12, c13, ts1, nn1, hd1⟩, ⟨vs1, kl1, hl1, hvs1⟩, HA1⟩ := id H1
  obtain ⟨⟨k1, hx1⟩, ⟨hsh1, tki1, tii1, ki1, hdx1⟩, hps1⟩ := id HA1
  (repeat' ((fail_if_success (with_reducible show wpAny _ _ (subscriptTail _ _ (Value.ref _) (Value.int _ _)) _ _ _)); (fail_if_success (with_reducible show wpAny _ _ (call (Value.ref _) _) _ _ _)); (fail_if_success (with_reducible show wpAny _ _ (call (Value.builtin "len") [Value.ref _]) _ _ _)); (fail_if_success (with_reducible show wpAny _ _ (call (Value.type "str") _) _ _ _)); (fail_if_success (with_reducible show wpAny _ _ (call (Value.builtin "list.append") _) _ _ _)); (fail_if_success (with_reducible show wpAny _ _ (pyIter _) _ _ _)); (fail_if_success (with_reducible show wpAny _ _ (exec (Stmt.For _ _ _ _ _) _) _ _ _)); (fail_if_success (with_reducible show wpAny _ _ (truthy (Value.str (S (_ ++ _)) _)) _ _ _)); (fail_if_success (with_reducible show wpAny _ _ (subscriptTail _ _ (Value.str (S (_ ++ _)) _) _) _ _ _)); first | (with_reducible contradiction) | (first | (k_unfold; (try dsimp only)) | walk1 | (dsimp only; walk1) | (leave1; walk_say "STEP leave1"; try dsimp only) | fail "no step")))
  have hPt : ∀ q ∈ (ps ++ [(⟨r1, Str.ofString " ", tf, S wl, tp⟩ : Part)]), Pt q := fun q hq => by
    rcases List.mem_append.mp hq with h | h
    · exact hps q h
    · rw [List.mem_singleton.mp h]; exact ⟨rfl, wl, rfl, hwl, hw2⟩
  have hsm : Sm (ps ++ [(⟨r1, Str.ofString " ", tf, S wl, tp⟩ : Part)]) := ⟨by simp; omega, fun q hq => (hPt q hq).small⟩
  have hPl : (ps ++ [(⟨r1, Str.ofString " ", tf, S wl, tp⟩ : Part)]).length = ps.length + 1 := by simp
  refine' l_len (w := w) ⟨by k_asm, by k_asm, by k_asm, by k_asm, by k_asm, rfl⟩ t1 (hC1.keeps FG'.keep) G HA1 hi hsm (dpl (a := 1) (b := 6) (c := 30) (by decide) hdp) (dpl (a := 3) (b := 50) (c := 250) (by decide) hun) ?hR2
  intro tL n2 h2 tk2 gs2 F2 N2 t2 G2 K2
  have H2 := H1.kp K2
  obtain ⟨hv2, ⟨a21, a22, a23, a24, a25, a26, b21, b22, b23, b24, b25, b26, tw2, c22, c23, ts2, nn2, hd2⟩, ⟨vs2, kl2, hl2, hvs2⟩, HA2⟩ := id H2
  obtain ⟨⟨k2, hx2⟩, ⟨hsh2, tki2, tii2, ki2, hdx2⟩, hps2⟩ := id HA2
  (repeat' ((fail_if_success (with_reducible show wpAny _ _ (subscriptTail _ _ (Value.ref _) (Value.int _ _)) _ _ _)); (fail_if_success (with_reducible show wpAny _ _ (call (Value.ref _) _) _ _ _)); (fail_if_success (with_reducible show wpAny _ _ (call (Value.builtin "len") [Value.ref _]) _ _ _)); (fail_if_success (with_reducible show wpAny _ _ (call (Value.type "str") _) _ _ _)); (fail_if_success (with_reducible show wpAny _ _ (call (Value.builtin "list.append") _) _ _ _)); (fail_if_success (with_reducible show wpAny _ _ (pyIter _) _ _ _)); (fail_if_success (with_reducible show wpAny _ _ (exec (Stmt.For _ _ _ _ _) _) _ _ _)); (fail_if_success (with_reducible show wpAny _ _ (truthy (Value.str (S (_ ++ _)) _)) _ _ _)); (fail_if_success (with_reducible show wpAny _ _ (subscriptTail _ _ (Value.str (S (_ ++ _)) _) _) _ _ _)); first | (with_reducible contradiction) | (first | (k_unfold; (try dsimp only)) | walk1 | (dsimp only; walk1) | (leave1; walk_say "STEP leave1"; try dsimp only) | fail "no step")))
  · generalize hPS : (ps ++ [(⟨r1, Str.ofString " ", tf, S wl, tp⟩ : Part)]) = PS at *
    refine wpAny_For ?_
    (repeat' ((fail_if_success (with_reducible show wpAny _ _ (subscriptTail _ _ (Value.ref _) (Value.int _ _)) _ _ _)); (fail_if_success (with_reducible show wpAny _ _ (call (Value.ref _) _) _ _ _)); (fail_if_success (with_reducible show wpAny _ _ (call (Value.builtin "len") [Value.ref _]) _ _ _)); (fail_if_success (with_reducible show wpAny _ _ (call (Value.type "str") _) _ _ _)); (fail_if_success (with_reducible show wpAny _ _ (call (Value.builtin "list.append") _) _ _ _)); (fail_if_success (with_reducible show wpAny _ _ (pyIter _) _ _ _)); (fail_if_success (with_reducible show wpAny _ _ (exec (Stmt.For _ _ _ _ _) _) _ _ _)); (fail_if_success (with_reducible show wpAny _ _ (truthy (Value.str (S (_ ++ _)) _)) _ _ _)); (fail_if_success (with_reducible show wpAny _ _ (subscriptTail _ _ (Value.str (S (_ ++ _)) _) _) _ _ _)); first | (with_reducible contradiction) | (first | (k_unfold; (try dsimp only)) | walk1 | (dsimp only; walk1) | (leave1; walk_say "STEP leave1"; try dsimp only) | fail "no step")))
    rename_i tkq hgt
    have K02 : KpV l x dx news n2 := K1.toV.trans K2.toV
    refine' iter_str (fun i m1 news1 gs => m1 (Str.ofString "self") = some (.ref v) ∧ (∃ t, m1 (Str.ofString "fws") = some (.str " " t)) ∧ Vf v dv l x dx wide lines PS ini news1 ∧ TabsOk news1 ∧ AllBare gs ∧ KpV l x dx n2 news1 ∧ (i = 2 → PS.length = 1)) (by decide +kernel) F2 N2 ⟨rfl, ⟨_, rfl⟩, H2, t2, G2, fun q hq _ _ _ _ => hq, by omega⟩ ?turn ?done
    case turn =>
      intro I i c u m3 n3 h3 tk3 gs3 oI hc hJ hI hoI F3 N3
      obtain ⟨e1, ⟨tfw, e2⟩, H3, t3, G3, K3, _⟩ := hJ
      obtain ⟨hv3, ⟨a31, a32, a33, a34, a35, a36, b31, b32, b33, b34, b35, b36, tw3, c32, c33, ts3, nn3, hd3⟩, ⟨vs3, kl3, hl3, hvs3⟩, HA3⟩ := id H3
      obtain ⟨⟨k3, hx3⟩, ⟨hsh3, tki3, tii3, ki3, hdx3⟩, hps3⟩ := id HA3
      rcases sign_cases hc with ⟨rfl, rfl⟩ | ⟨rfl, rfl⟩
      · (repeat' ((fail_if_success (with_reducible show wpAny _ _ (subscriptTail _ _ (Value.ref _) (Value.int _ _)) _ _ _)); (fail_if_success (with_reducible show wpAny _ _ (call (Value.ref _) _) _ _ _)); (fail_if_success (with_reducible show wpAny _ _ (call (Value.builtin "len") [Value.ref _]) _ _ _)); (fail_if_success (with_reducible show wpAny _ _ (call (Value.type "str") _) _ _ _)); (fail_if_success (with_reducible show wpAny _ _ (call (Value.builtin "list.append") _) _ _ _)); (fail_if_success (with_reducible show wpAny _ _ (pyIter _) _ _ _)); (fail_if_success (with_reducible show wpAny _ _ (exec (Stmt.For _ _ _ _ _) _) _ _ _)); (fail_if_success (with_reducible show wpAny _ _ (truthy (Value.str (S (_ ++ _)) _)) _ _ _)); (fail_if_success (with_reducible show wpAny _ _ (subscriptTail _ _ (Value.str (S (_ ++ _)) _) _) _ _ _)); first | (with_reducible contradiction) | (first | (k_unfold; (try dsimp only)) | walk1 | (dsimp only; walk1) | (leave1; walk_say "STEP leave1"; try dsimp only) | fail "no step")))
        refine wpAny_For ?_
        (repeat' ((fail_if_success (with_reducible show wpAny _ _ (subscriptTail _ _ (Value.ref _) (Value.int _ _)) _ _ _)); (fail_if_success (with_reducible show wpAny _ _ (call (Value.ref _) _) _ _ _)); (fail_if_success (with_reducible show wpAny _ _ (call (Value.builtin "len") [Value.ref _]) _ _ _)); (fail_if_success (with_reducible show wpAny _ _ (call (Value.type "str") _) _ _ _)); (fail_if_success (with_reducible show wpAny _ _ (call (Value.builtin "list.append") _) _ _ _)); (fail_if_success (with_reducible show wpAny _ _ (pyIter _) _ _ _)); (fail_if_success (with_reducible show wpAny _ _ (exec (Stmt.For _ _ _ _ _) _) _ _ _)); (fail_if_success (with_reducible show wpAny _ _ (truthy (Value.str (S (_ ++ _)) _)) _ _ _)); (fail_if_success (with_reducible show wpAny _ _ (subscriptTail _ _ (Value.str (S (_ ++ _)) _) _) _ _ _)); first | (with_reducible contradiction) | (first | (k_unfold; (try dsimp only)) | walk1 | (dsimp only; walk1) | (leave1; walk_say "STEP leave1"; try dsimp only) | fail "no step")))
        refine' c_pc (w := w) (news := (I, oI) :: n3) ⟨by k_asm, by k_asm, by k_asm, by k_asm, by k_asm, rfl⟩ (HA3.kp fun q hq _ => .tail _ hq) (dpl (a := 1) (b := 3) (c := 30) (by decide) hdp) (dpl (a := 3) (b := 20) (c := 250) (by decide) hun) ?hR3
        intro t4 n4 h4 tk4 F4 N4 e4
        (repeat' ((fail_if_success (with_reducible show wpAny _ _ (subscriptTail _ _ (Value.ref _) (Value.int _ _)) _ _ _)); (fail_if_success (with_reducible show wpAny _ _ (call (Value.ref _) _) _ _ _)); (fail_if_success (with_reducible show wpAny _ _ (call (Value.builtin "len") [Value.ref _]) _ _ _)); (fail_if_success (with_reducible show wpAny _ _ (call (Value.type "str") _) _ _ _)); (fail_if_success (with_reducible show wpAny _ _ (call (Value.builtin "list.append") _) _ _ _)); (fail_if_success (with_reducible show wpAny _ _ (pyIter _) _ _ _)); (fail_if_success (with_reducible show wpAny _ _ (exec (Stmt.For _ _ _ _ _) _) _ _ _)); (fail_if_success (with_reducible show wpAny _ _ (truthy (Value.str (S (_ ++ _)) _)) _ _ _)); (fail_if_success (with_reducible show wpAny _ _ (subscriptTail _ _ (Value.str (S (_ ++ _)) _) _) _ _ _)); first | (with_reducible contradiction) | (first | (k_unfold; (try dsimp only)) | walk1 | (dsimp only; walk1) | (leave1; walk_say "STEP leave1"; try dsimp only) | fail "no step")))
        rename_i h5 tk5 tr1 tr2 tr3 hr5 F5 N5 e5
        have hv4 := e4 _ (.tail _ hv3)
        have hd4 := e4 _ (.tail _ hd3)
        have hx4 := e4 _ (.tail _ hx3)
        have hdx4 := e4 _ (.tail _ hdx3)
        have hps4 : PartsIn PS n4 := fun q hq => e4 _ (.tail _ (hps3 q hq))
        obtain ⟨kk, hkk⟩ : ∃ kk, PS.length = kk + 1 := ⟨ps.length, hPl⟩
        rw [show ((PS.length : Int) - 1) = (kk : Int) by omega] at hr5
        refine' iter_range (n := kk) (fun j m1 news1 gs => m1 (Str.ofString "self") = some (.ref v) ∧ m1 (Str.ofString "ch") = some (.str ⟨#[59]⟩ u) ∧ (∃ t, m1 (Str.ofString "fws") = some (.str " " t)) ∧ news1 = n4 ∧ gs = gs3) hr5 (range_small (by omega)) (range_size kk) F5 N5 ⟨e1, rfl, ⟨_, e2⟩, rfl, rfl⟩ ?turn2 ?done2
        case turn2 =>
          intro I2 j tv m6 n6 h6 tk6 gs6 oI2 hj hJ2 hI2 hoI2 F6 N6
          obtain ⟨f1, f2, ⟨tf6, f3⟩, rfl, rfl⟩ := hJ2
          (repeat' ((fail_if_success (with_reducible show wpAny _ _ (subscriptTail _ _ (Value.ref _) (Value.int _ _)) _ _ _)); (fail_if_success (with_reducible show wpAny _ _ (call (Value.ref _) _) _ _ _)); (fail_if_success (with_reducible show wpAny _ _ (call (Value.builtin "len") [Value.ref _]) _ _ _)); (fail_if_success (with_reducible show wpAny _ _ (call (Value.type "str") _) _ _ _)); (fail_if_success (with_reducible show wpAny _ _ (call (Value.builtin "list.append") _) _ _ _)); (fail_if_success (with_reducible show wpAny _ _ (pyIter _) _ _ _)); (fail_if_success (with_reducible show wpAny _ _ (exec (Stmt.For _ _ _ _ _) _) _ _ _)); (fail_if_success (with_reducible show wpAny _ _ (truthy (Value.str (S (_ ++ _)) _)) _ _ _)); (fail_if_success (with_reducible show wpAny _ _ (subscriptTail _ _ (Value.str (S (_ ++ _)) _) _) _ _ _)); first | (with_reducible contradiction) | (first | (k_unfold; (try dsimp only)) | walk1 | (dsimp only; walk1) | (leave1; walk_say "STEP leave1"; try dsimp only) | fail "no step")))
          obtain ⟨q, hq1, hq2⟩ : ∃ q, PS[kk - j - 1]? = some q ∧ q ∈ PS := ⟨PS[kk - j - 1]'(by omega), by simp, List.getElem_mem _⟩
          have hq4 := hps4 q hq2
          obtain ⟨hqf, wq, hqp, hwq, hwq2⟩ := hPt q hq2
          obtain ⟨qa, qf, qtf, qp, qtp⟩ := q
          dsimp only at hqf hqp
          subst hqf hqp
          have hix : ((kk : Int) + (j : Int) * -1 - 1).toNat = kk - j - 1 := by omega
          rcases List.eq_nil_or_concat wq with e | ⟨wq0, c0, e⟩
          · subst e
            replace hq4 : (qa, tupO (.str (Str.ofString " ") qtf) (.str (S []) qtp)) ∈ n6 := hq4
            walk_at "last subscriptTail"
            refine acc_itemL (v := .ref qa) (by k_asm) (by k_asm) (by k_asm) (by k_mem) (by omega) (by omega) (by rw [hix]; simp [accI, hq1]) ?_
            (repeat' ((fail_if_success (with_reducible show wpAny _ _ (subscriptTail _ _ (Value.ref _) (Value.int _ _)) _ _ _)); (fail_if_success (with_reducible show wpAny _ _ (call (Value.ref _) _) _ _ _)); (fail_if_success (with_reducible show wpAny _ _ (call (Value.builtin "len") [Value.ref _]) _ _ _)); (fail_if_success (with_reducible show wpAny _ _ (call (Value.type "str") _) _ _ _)); (fail_if_success (with_reducible show wpAny _ _ (call (Value.builtin "list.append") _) _ _ _)); (fail_if_success (with_reducible show wpAny _ _ (pyIter _) _ _ _)); (fail_if_success (with_reducible show wpAny _ _ (exec (Stmt.For _ _ _ _ _) _) _ _ _)); (fail_if_success (with_reducible show wpAny _ _ (truthy (Value.str (S (_ ++ _)) _)) _ _ _)); (fail_if_success (with_reducible show wpAny _ _ (subscriptTail _ _ (Value.str (S (_ ++ _)) _) _) _ _ _)); first | (with_reducible contradiction) | (first | (k_unfold; (try dsimp only)) | walk1 | (dsimp only; walk1) | (leave1; walk_say "STEP leave1"; try dsimp only) | fail "no step")))
            refine tup1 (by k_asm) (by k_mem) ?_ (by with_unfolding_all rfl)
            (repeat' ((fail_if_success (with_reducible show wpAny _ _ (subscriptTail _ _ (Value.ref _) (Value.int _ _)) _ _ _)); (fail_if_success (with_reducible show wpAny _ _ (call (Value.ref _) _) _ _ _)); (fail_if_success (with_reducible show wpAny _ _ (call (Value.builtin "len") [Value.ref _]) _ _ _)); (fail_if_success (with_reducible show wpAny _ _ (call (Value.type "str") _) _ _ _)); (fail_if_success (with_reducible show wpAny _ _ (call (Value.builtin "list.append") _) _ _ _)); (fail_if_success (with_reducible show wpAny _ _ (pyIter _) _ _ _)); (fail_if_success (with_reducible show wpAny _ _ (exec (Stmt.For _ _ _ _ _) _) _ _ _)); (fail_if_success (with_reducible show wpAny _ _ (truthy (Value.str (S (_ ++ _)) _)) _ _ _)); (fail_if_success (with_reducible show wpAny _ _ (subscriptTail _ _ (Value.str (S (_ ++ _)) _) _) _ _ _)); first | (with_reducible contradiction) | (first | (k_unfold; (try dsimp only)) | walk1 | (dsimp only; walk1) | (leave1; walk_say "STEP leave1"; try dsimp only) | fail "no step")))
            first | (rename_i h9 F9 N9 k9; exact ⟨_, n6, _, _, gs6, rfl, F9, N9, (fun q hq => nomatch hq), hI2, f1, f2, ⟨_, f3⟩, rfl, rfl⟩) | (rename_i h9 F9 N9; exact ⟨_, n6, _, _, gs6, rfl, F9, N9, (fun q hq => nomatch hq), hI2, f1, f2, ⟨_, f3⟩, rfl, rfl⟩)
          · rw [List.concat_eq_append] at e
            subst e
            replace hq4 : (qa, tupO (.str (Str.ofString " ") qtf) (.str (S (wq0 ++ [c0])) qtp)) ∈ n6 := hq4
            have hc0 := hwq2 c0 (by simp)
            have hne0 : (S [c0] == (⟨#[59]⟩ : Str)) = false := by
              have : S [c0] ≠ S [59] := fun e => by have := S_inj e; simp at this; omega
              simpa [S] using this
            walk_at "last subscriptTail"
            refine acc_itemL (v := .ref qa) (by k_asm) (by k_asm) (by k_asm) (by k_mem) (by omega) (by omega) (by rw [hix]; simp [accI, hq1]) ?_
            (repeat' ((fail_if_success (with_reducible show wpAny _ _ (subscriptTail _ _ (Value.ref _) (Value.int _ _)) _ _ _)); (fail_if_success (with_reducible show wpAny _ _ (call (Value.ref _) _) _ _ _)); (fail_if_success (with_reducible show wpAny _ _ (call (Value.builtin "len") [Value.ref _]) _ _ _)); (fail_if_success (with_reducible show wpAny _ _ (call (Value.type "str") _) _ _ _)); (fail_if_success (with_reducible show wpAny _ _ (call (Value.builtin "list.append") _) _ _ _)); (fail_if_success (with_reducible show wpAny _ _ (pyIter _) _ _ _)); (fail_if_success (with_reducible show wpAny _ _ (exec (Stmt.For _ _ _ _ _) _) _ _ _)); (fail_if_success (with_reducible show wpAny _ _ (truthy (Value.str (S (_ ++ _)) _)) _ _ _)); (fail_if_success (with_reducible show wpAny _ _ (subscriptTail _ _ (Value.str (S (_ ++ _)) _) _) _ _ _)); first | (with_reducible contradiction) | (first | (k_unfold; (try dsimp only)) | walk1 | (dsimp only; walk1) | (leave1; walk_say "STEP leave1"; try dsimp only) | fail "no step")))
            refine tup1 (by k_asm) (by k_mem) ?_ (by with_unfolding_all rfl)
            (repeat' ((fail_if_success (with_reducible show wpAny _ _ (subscriptTail _ _ (Value.ref _) (Value.int _ _)) _ _ _)); (fail_if_success (with_reducible show wpAny _ _ (call (Value.ref _) _) _ _ _)); (fail_if_success (with_reducible show wpAny _ _ (call (Value.builtin "len") [Value.ref _]) _ _ _)); (fail_if_success (with_reducible show wpAny _ _ (call (Value.type "str") _) _ _ _)); (fail_if_success (with_reducible show wpAny _ _ (call (Value.builtin "list.append") _) _ _ _)); (fail_if_success (with_reducible show wpAny _ _ (pyIter _) _ _ _)); (fail_if_success (with_reducible show wpAny _ _ (exec (Stmt.For _ _ _ _ _) _) _ _ _)); (fail_if_success (with_reducible show wpAny _ _ (truthy (Value.str (S (_ ++ _)) _)) _ _ _)); (fail_if_success (with_reducible show wpAny _ _ (subscriptTail _ _ (Value.str (S (_ ++ _)) _) _) _ _ _)); first | (with_reducible contradiction) | (first | (k_unfold; (try dsimp only)) | walk1 | (dsimp only; walk1) | (leave1; walk_say "STEP leave1"; try dsimp only) | fail "no step")))
            refine PySem.P.truthy_str (by rw [S_len]; omega) ?_
            rw [show (((S (wq0 ++ [c0])).length : Int) != 0) = true by rw [S_len]; simp; omega]
            (repeat' ((fail_if_success (with_reducible show wpAny _ _ (subscriptTail _ _ (Value.ref _) (Value.int _ _)) _ _ _)); (fail_if_success (with_reducible show wpAny _ _ (call (Value.ref _) _) _ _ _)); (fail_if_success (with_reducible show wpAny _ _ (call (Value.builtin "len") [Value.ref _]) _ _ _)); (fail_if_success (with_reducible show wpAny _ _ (call (Value.type "str") _) _ _ _)); (fail_if_success (with_reducible show wpAny _ _ (call (Value.builtin "list.append") _) _ _ _)); (fail_if_success (with_reducible show wpAny _ _ (pyIter _) _ _ _)); (fail_if_success (with_reducible show wpAny _ _ (exec (Stmt.For _ _ _ _ _) _) _ _ _)); (fail_if_success (with_reducible show wpAny _ _ (truthy (Value.str (S (_ ++ _)) _)) _ _ _)); (fail_if_success (with_reducible show wpAny _ _ (subscriptTail _ _ (Value.str (S (_ ++ _)) _) _) _ _ _)); first | (with_reducible contradiction) | (first | (k_unfold; (try dsimp only)) | walk1 | (dsimp only; walk1) | (leave1; walk_say "STEP leave1"; try dsimp only) | fail "no step")))
            refine str_last (l := wq0) (c := c0) ?_ (by rfl) (by intro _; rfl)
            (repeat' ((fail_if_success (with_reducible show wpAny _ _ (compareOp _ _ _) _ _ _)); first | (with_reducible contradiction) | (first | (k_unfold; (try dsimp only)) | walk1 | (dsimp only; walk1) | (leave1; walk_say "STEP leave1"; try dsimp only) | fail "no step")))
            refine PyProof.Rows.eq_str ?_
            rw [hne0]
            (repeat' ((fail_if_success (with_reducible show wpAny _ _ (subscriptTail _ _ (Value.ref _) (Value.int _ _)) _ _ _)); (fail_if_success (with_reducible show wpAny _ _ (call (Value.ref _) _) _ _ _)); (fail_if_success (with_reducible show wpAny _ _ (call (Value.builtin "len") [Value.ref _]) _ _ _)); (fail_if_success (with_reducible show wpAny _ _ (call (Value.type "str") _) _ _ _)); (fail_if_success (with_reducible show wpAny _ _ (call (Value.builtin "list.append") _) _ _ _)); (fail_if_success (with_reducible show wpAny _ _ (pyIter _) _ _ _)); (fail_if_success (with_reducible show wpAny _ _ (exec (Stmt.For _ _ _ _ _) _) _ _ _)); (fail_if_success (with_reducible show wpAny _ _ (truthy (Value.str (S (_ ++ _)) _)) _ _ _)); (fail_if_success (with_reducible show wpAny _ _ (subscriptTail _ _ (Value.str (S (_ ++ _)) _) _) _ _ _)); first | (with_reducible contradiction) | (first | (k_unfold; (try dsimp only)) | walk1 | (dsimp only; walk1) | (leave1; walk_say "STEP leave1"; try dsimp only) | fail "no step")))
            first | (rename_i h9 F9 N9 k9; exact ⟨_, n6, _, _, gs6, rfl, F9, N9, (fun q hq => nomatch hq), hI2, f1, f2, ⟨_, f3⟩, rfl, rfl⟩) | (rename_i h9 F9 N9; exact ⟨_, n6, _, _, gs6, rfl, F9, N9, (fun q hq => nomatch hq), hI2, f1, f2, ⟨_, f3⟩, rfl, rfl⟩)
        case done2 =>
          intro m7 n7 h7 tk7 gs7 hJ7 F7 N7
          obtain ⟨f1, f2, ⟨tf7, f3⟩, rfl, rfl⟩ := hJ7
          (repeat' ((fail_if_success (with_reducible show wpAny _ _ (subscriptTail _ _ (Value.ref _) (Value.int _ _)) _ _ _)); (fail_if_success (with_reducible show wpAny _ _ (call (Value.ref _) _) _ _ _)); (fail_if_success (with_reducible show wpAny _ _ (call (Value.builtin "len") [Value.ref _]) _ _ _)); (fail_if_success (with_reducible show wpAny _ _ (call (Value.type "str") _) _ _ _)); (fail_if_success (with_reducible show wpAny _ _ (call (Value.builtin "list.append") _) _ _ _)); (fail_if_success (with_reducible show wpAny _ _ (pyIter _) _ _ _)); (fail_if_success (with_reducible show wpAny _ _ (exec (Stmt.For _ _ _ _ _) _) _ _ _)); (fail_if_success (with_reducible show wpAny _ _ (truthy (Value.str (S (_ ++ _)) _)) _ _ _)); (fail_if_success (with_reducible show wpAny _ _ (subscriptTail _ _ (Value.str (S (_ ++ _)) _) _) _ _ _)); first | (with_reducible contradiction) | (first | (k_unfold; (try dsimp only)) | walk1 | (dsimp only; walk1) | (leave1; walk_say "STEP leave1"; try dsimp only) | fail "no step")))
          have kq : ∀ q ∈ n3, q ∈ off I n7 := fun q hq => mem_off.mpr ⟨e4 q (.tail _ hq), hI q hq⟩
          exact ⟨_, off I n7, _, _, gs7, rfl, F7, News.sub N7 (off_cover (e4 _ (.head _))), (fun q hq => nomatch hq), off_ne, f1, ⟨_, f3⟩, H3.mono kq, t3.mono kq, G3, fun q h1 h2 h3 h4 h5 => kq q (K3 q h1 h2 h3 h4 h5), by omega⟩
      · (repeat' ((fail_if_success (with_reducible show wpAny _ _ (subscriptTail _ _ (Value.ref _) (Value.int _ _)) _ _ _)); (fail_if_success (with_reducible show wpAny _ _ (call (Value.ref _) _) _ _ _)); (fail_if_success (with_reducible show wpAny _ _ (call (Value.builtin "len") [Value.ref _]) _ _ _)); (fail_if_success (with_reducible show wpAny _ _ (call (Value.type "str") _) _ _ _)); (fail_if_success (with_reducible show wpAny _ _ (call (Value.builtin "list.append") _) _ _ _)); (fail_if_success (with_reducible show wpAny _ _ (pyIter _) _ _ _)); (fail_if_success (with_reducible show wpAny _ _ (exec (Stmt.For _ _ _ _ _) _) _ _ _)); (fail_if_success (with_reducible show wpAny _ _ (truthy (Value.str (S (_ ++ _)) _)) _ _ _)); (fail_if_success (with_reducible show wpAny _ _ (subscriptTail _ _ (Value.str (S (_ ++ _)) _) _) _ _ _)); first | (with_reducible contradiction) | (first | (k_unfold; (try dsimp only)) | walk1 | (dsimp only; walk1) | (leave1; walk_say "STEP leave1"; try dsimp only) | fail "no step")))
        refine wpAny_For ?_
        (repeat' ((fail_if_success (with_reducible show wpAny _ _ (subscriptTail _ _ (Value.ref _) (Value.int _ _)) _ _ _)); (fail_if_success (with_reducible show wpAny _ _ (call (Value.ref _) _) _ _ _)); (fail_if_success (with_reducible show wpAny _ _ (call (Value.builtin "len") [Value.ref _]) _ _ _)); (fail_if_success (with_reducible show wpAny _ _ (call (Value.type "str") _) _ _ _)); (fail_if_success (with_reducible show wpAny _ _ (call (Value.builtin "list.append") _) _ _ _)); (fail_if_success (with_reducible show wpAny _ _ (pyIter _) _ _ _)); (fail_if_success (with_reducible show wpAny _ _ (exec (Stmt.For _ _ _ _ _) _) _ _ _)); (fail_if_success (with_reducible show wpAny _ _ (truthy (Value.str (S (_ ++ _)) _)) _ _ _)); (fail_if_success (with_reducible show wpAny _ _ (subscriptTail _ _ (Value.str (S (_ ++ _)) _) _) _ _ _)); first | (with_reducible contradiction) | (first | (k_unfold; (try dsimp only)) | walk1 | (dsimp only; walk1) | (leave1; walk_say "STEP leave1"; try dsimp only) | fail "no step")))
        refine' c_pc (w := w) (news := (I, oI) :: n3) ⟨by k_asm, by k_asm, by k_asm, by k_asm, by k_asm, rfl⟩ (HA3.kp fun q hq _ => .tail _ hq) (dpl (a := 1) (b := 3) (c := 30) (by decide) hdp) (dpl (a := 3) (b := 20) (c := 250) (by decide) hun) ?hR3b
        intro t4 n4 h4 tk4 F4 N4 e4
        (repeat' ((fail_if_success (with_reducible show wpAny _ _ (subscriptTail _ _ (Value.ref _) (Value.int _ _)) _ _ _)); (fail_if_success (with_reducible show wpAny _ _ (call (Value.ref _) _) _ _ _)); (fail_if_success (with_reducible show wpAny _ _ (call (Value.builtin "len") [Value.ref _]) _ _ _)); (fail_if_success (with_reducible show wpAny _ _ (call (Value.type "str") _) _ _ _)); (fail_if_success (with_reducible show wpAny _ _ (call (Value.builtin "list.append") _) _ _ _)); (fail_if_success (with_reducible show wpAny _ _ (pyIter _) _ _ _)); (fail_if_success (with_reducible show wpAny _ _ (exec (Stmt.For _ _ _ _ _) _) _ _ _)); (fail_if_success (with_reducible show wpAny _ _ (truthy (Value.str (S (_ ++ _)) _)) _ _ _)); (fail_if_success (with_reducible show wpAny _ _ (subscriptTail _ _ (Value.str (S (_ ++ _)) _) _) _ _ _)); first | (with_reducible contradiction) | (first | (k_unfold; (try dsimp only)) | walk1 | (dsimp only; walk1) | (leave1; walk_say "STEP leave1"; try dsimp only) | fail "no step")))
        rename_i h5 tk5 tr1 tr2 tr3 hr5 F5 N5 e5
        have hv4 := e4 _ (.tail _ hv3)
        have hd4 := e4 _ (.tail _ hd3)
        have hx4 := e4 _ (.tail _ hx3)
        have hdx4 := e4 _ (.tail _ hdx3)
        have hps4 : PartsIn PS n4 := fun q hq => e4 _ (.tail _ (hps3 q hq))
        obtain ⟨kk, hkk⟩ : ∃ kk, PS.length = kk + 1 := ⟨ps.length, hPl⟩
        rw [show ((PS.length : Int) - 1) = (kk : Int) by omega] at hr5
        refine' iter_range (n := kk) (fun j m1 news1 gs => j = 0 ∧ m1 (Str.ofString "self") = some (.ref v) ∧ m1 (Str.ofString "ch") = some (.str ⟨#[32]⟩ u) ∧ (∃ t, m1 (Str.ofString "fws") = some (.str " " t)) ∧ news1 = n4 ∧ gs = gs3) hr5 (range_small (by omega)) (range_size kk) F5 N5 ⟨rfl, e1, rfl, ⟨_, e2⟩, rfl, rfl⟩ ?turn3 ?done3
        case turn3 =>
          intro I2 j tv m6 n6 h6 tk6 gs6 oI2 hj hJ2 hI2 hoI2 F6 N6
          obtain ⟨rfl, f1, f2, ⟨tf6, f3⟩, rfl, rfl⟩ := hJ2
          obtain ⟨q, hq1, hq2⟩ : ∃ q, PS[kk]? = some q ∧ q ∈ PS := ⟨PS[kk]'(by omega), by simp, List.getElem_mem _⟩
          have hq4 := hps4 q hq2
          obtain ⟨hqf, wq, hqp, hwq, hwq2⟩ := hPt q hq2
          obtain ⟨qa, qf, qtf, qp, qtp⟩ := q
          dsimp only at hqf hqp
          subst hqf hqp
          replace hq4 : (qa, tupO (.str (Str.ofString " ") qtf) (.str (S wq) qtp)) ∈ n6 := hq4
          have hix : ((kk : Int) + ((0 : Nat) : Int) * -1).toNat = kk := by omega
          (repeat' ((fail_if_success (with_reducible show wpAny _ _ (subscriptTail _ _ (Value.ref _) (Value.int _ _)) _ _ _)); (fail_if_success (with_reducible show wpAny _ _ (call (Value.ref _) _) _ _ _)); (fail_if_success (with_reducible show wpAny _ _ (call (Value.builtin "len") [Value.ref _]) _ _ _)); (fail_if_success (with_reducible show wpAny _ _ (call (Value.type "str") _) _ _ _)); (fail_if_success (with_reducible show wpAny _ _ (call (Value.builtin "list.append") _) _ _ _)); (fail_if_success (with_reducible show wpAny _ _ (pyIter _) _ _ _)); (fail_if_success (with_reducible show wpAny _ _ (exec (Stmt.For _ _ _ _ _) _) _ _ _)); (fail_if_success (with_reducible show wpAny _ _ (truthy (Value.str (S (_ ++ _)) _)) _ _ _)); (fail_if_success (with_reducible show wpAny _ _ (subscriptTail _ _ (Value.str (S (_ ++ _)) _) _) _ _ _)); first | (with_reducible contradiction) | (first | (k_unfold; (try dsimp only)) | walk1 | (dsimp only; walk1) | (leave1; walk_say "STEP leave1"; try dsimp only) | fail "no step")))
          walk_at "last subscriptTail"
          refine acc_itemL (v := .ref qa) (by k_asm) (by k_asm) (by k_asm) (by k_mem) (by omega) (by omega) (by rw [hix]; simp [accI, hq1]) ?_
          (repeat' ((fail_if_success (with_reducible show wpAny _ _ (subscriptTail _ _ (Value.ref _) (Value.int _ _)) _ _ _)); (fail_if_success (with_reducible show wpAny _ _ (call (Value.ref _) _) _ _ _)); (fail_if_success (with_reducible show wpAny _ _ (call (Value.builtin "len") [Value.ref _]) _ _ _)); (fail_if_success (with_reducible show wpAny _ _ (call (Value.type "str") _) _ _ _)); (fail_if_success (with_reducible show wpAny _ _ (call (Value.builtin "list.append") _) _ _ _)); (fail_if_success (with_reducible show wpAny _ _ (pyIter _) _ _ _)); (fail_if_success (with_reducible show wpAny _ _ (exec (Stmt.For _ _ _ _ _) _) _ _ _)); (fail_if_success (with_reducible show wpAny _ _ (truthy (Value.str (S (_ ++ _)) _)) _ _ _)); (fail_if_success (with_reducible show wpAny _ _ (subscriptTail _ _ (Value.str (S (_ ++ _)) _) _) _ _ _)); first | (with_reducible contradiction) | (first | (k_unfold; (try dsimp only)) | walk1 | (dsimp only; walk1) | (leave1; walk_say "STEP leave1"; try dsimp only) | fail "no step")))
          refine tup0 (by k_asm) (by k_mem) ?_ (by with_unfolding_all rfl)
          (repeat' ((fail_if_success (with_reducible show wpAny _ _ (subscriptTail _ _ (Value.ref _) (Value.int _ _)) _ _ _)); (fail_if_success (with_reducible show wpAny _ _ (call (Value.ref _) _) _ _ _)); (fail_if_success (with_reducible show wpAny _ _ (call (Value.builtin "len") [Value.ref _]) _ _ _)); (fail_if_success (with_reducible show wpAny _ _ (call (Value.type "str") _) _ _ _)); (fail_if_success (with_reducible show wpAny _ _ (call (Value.builtin "list.append") _) _ _ _)); (fail_if_success (with_reducible show wpAny _ _ (pyIter _) _ _ _)); (fail_if_success (with_reducible show wpAny _ _ (exec (Stmt.For _ _ _ _ _) _) _ _ _)); (fail_if_success (with_reducible show wpAny _ _ (truthy (Value.str (S (_ ++ _)) _)) _ _ _)); (fail_if_success (with_reducible show wpAny _ _ (subscriptTail _ _ (Value.str (S (_ ++ _)) _) _) _ _ _)); first | (with_reducible contradiction) | (first | (k_unfold; (try dsimp only)) | walk1 | (dsimp only; walk1) | (leave1; walk_say "STEP leave1"; try dsimp only) | fail "no step")))
          rename_i h9 F9 N9 k9 a9
          have H9 : Vf v dv l x dx wide lines PS ini n6 := H3.mono fun q hq => e4 q (.tail _ hq)
          have t9 : TabsOk n6 := t3.mono fun q hq => e4 q (.tail _ hq)
          replace N9 : News g' L' h9 n6 := fun p hp => N9 p (.tail _ hp)
          have hik : ((kk : Int) + ((0 : Nat) : Int) * -1) = (kk : Int) := by omega
          rw [hik] at F9
          show wpAny _ _ (execs _ _) _ _ _
          (repeat' ((fail_if_success (with_reducible show wpAny _ _ (subscriptTail _ _ (Value.ref _) (Value.int _ _)) _ _ _)); (fail_if_success (with_reducible show wpAny _ _ (call (Value.ref _) _) _ _ _)); (fail_if_success (with_reducible show wpAny _ _ (call (Value.builtin "len") [Value.ref _]) _ _ _)); (fail_if_success (with_reducible show wpAny _ _ (call (Value.type "str") _) _ _ _)); (fail_if_success (with_reducible show wpAny _ _ (call (Value.builtin "list.append") _) _ _ _)); (fail_if_success (with_reducible show wpAny _ _ (pyIter _) _ _ _)); (fail_if_success (with_reducible show wpAny _ _ (exec (Stmt.For _ _ _ _ _) _) _ _ _)); (fail_if_success (with_reducible show wpAny _ _ (truthy (Value.str (S (_ ++ _)) _)) _ _ _)); (fail_if_success (with_reducible show wpAny _ _ (subscriptTail _ _ (Value.str (S (_ ++ _)) _) _) _ _ _)); first | (with_reducible contradiction) | (first | (k_unfold; (try dsimp only)) | walk1 | (dsimp only; walk1) | (leave1; walk_say "STEP leave1"; try dsimp only) | fail "no step")))
          show wpAny _ _ (execs _ _) _ _ _
          obtain ⟨hv9, ⟨a91, a92, a93, a94, a95, a96, b91, b92, b93, b94, b95, b96, tw9, c92, c93, ts9, nn9, hd9⟩, ⟨vs9, kl9, hl9, hvs9⟩, HA9⟩ := id H9
          obtain ⟨⟨k9, hx9⟩, ⟨hsh9, tki9, tii9, ki9, hdx9⟩, hps9⟩ := id HA9
          (repeat' ((fail_if_success (with_reducible show wpAny _ _ (subscriptTail _ _ (Value.ref _) (Value.int _ _)) _ _ _)); (fail_if_success (with_reducible show wpAny _ _ (call (Value.ref _) _) _ _ _)); (fail_if_success (with_reducible show wpAny _ _ (call (Value.builtin "len") [Value.ref _]) _ _ _)); (fail_if_success (with_reducible show wpAny _ _ (call (Value.type "str") _) _ _ _)); (fail_if_success (with_reducible show wpAny _ _ (call (Value.builtin "list.append") _) _ _ _)); (fail_if_success (with_reducible show wpAny _ _ (pyIter _) _ _ _)); (fail_if_success (with_reducible show wpAny _ _ (exec (Stmt.For _ _ _ _ _) _) _ _ _)); (fail_if_success (with_reducible show wpAny _ _ (truthy (Value.str (S (_ ++ _)) _)) _ _ _)); (fail_if_success (with_reducible show wpAny _ _ (subscriptTail _ _ (Value.str (S (_ ++ _)) _) _) _ _ _)); first | (with_reducible contradiction) | (first | (k_unfold; (try dsimp only)) | walk1 | (dsimp only; walk1) | (leave1; walk_say "STEP leave1"; try dsimp only) | fail "no step")))
          have hps0 : ps ≠ [] := fun e => by rw [e] at hPl; simp at hPl; omega
          have hkl : kk = ps.length := by omega
          have htk : PS.take kk = ps := by rw [← hPS, hkl]; simp
          have hdr : PS.drop kk = [(⟨r1, Str.ofString " ", tf, S wl, tp⟩ : Part)] := by rw [← hPS, hkl]; simp
          refine' c_popfrom (w := w) ⟨by k_asm, by k_asm, by k_asm, by k_asm, by k_asm, rfl⟩ t9 HA9 (by omega) (by omega) (dpl (a := 1) (b := 6) (c := 30) (by decide) hdp) (dpl (a := 3) (b := 40) (c := 250) (by decide) hun) ?hR9
          intro r10 kr10 n10 h10 tk10 F10 N10 t10 A10 hr10 hp10 K10
          have H10 := H9.acc N9 K10 A10
          rw [htk] at H10
          rw [hdr] at hr10 hp10
          have hsm10 : Sm ps := ⟨by omega, fun q hq => (hps q hq).small⟩
          obtain ⟨hv10, ⟨a101, a102, a103, a104, a105, a106, b101, b102, b103, b104, b105, b106, tw10, c102, c103, ts10, nn10, hd10⟩, ⟨vs10, kl10, hl10, hvs10⟩, HA10⟩ := id H10
          obtain ⟨⟨k10, hx10⟩, ⟨hsh10, tki10, tii10, ki10, hdx10⟩, hps10⟩ := id HA10
          (repeat' ((fail_if_success (with_reducible show wpAny _ _ (subscriptTail _ _ (Value.ref _) (Value.int _ _)) _ _ _)); (fail_if_success (with_reducible show wpAny _ _ (call (Value.ref _) _) _ _ _)); (fail_if_success (with_reducible show wpAny _ _ (call (Value.builtin "len") [Value.ref _]) _ _ _)); (fail_if_success (with_reducible show wpAny _ _ (call (Value.type "str") _) _ _ _)); (fail_if_success (with_reducible show wpAny _ _ (call (Value.builtin "list.append") _) _ _ _)); (fail_if_success (with_reducible show wpAny _ _ (pyIter _) _ _ _)); (fail_if_success (with_reducible show wpAny _ _ (exec (Stmt.For _ _ _ _ _) _) _ _ _)); (fail_if_success (with_reducible show wpAny _ _ (truthy (Value.str (S (_ ++ _)) _)) _ _ _)); (fail_if_success (with_reducible show wpAny _ _ (subscriptTail _ _ (Value.str (S (_ ++ _)) _) _) _ _ _)); first | (with_reducible contradiction) | (first | (k_unfold; (try dsimp only)) | walk1 | (dsimp only; walk1) | (leave1; walk_say "STEP leave1"; try dsimp only) | fail "no step")))
          refine' l_str (w := w) ⟨by k_asm, by k_asm, by k_asm, by k_asm, by k_asm, rfl⟩ t10 (hC2.keeps FG'.keep) G3 HA10 hsm10 (dpl (a := 1) (b := 6) (c := 30) (by decide) hdp) (dpl (a := 3) (b := 50) (c := 250) (by decide) hun) ?hR11
          intro tS n11 h11 tk11 gs11 F11 N11 t11 G11 K11
          have H11 := H10.kp K11
          have hr11 := K11 _ hr10 list_noT
          have hp11 : PartsIn [(⟨r1, Str.ofString " ", tf, S wl, tp⟩ : Part)] n11 := fun q hq => K11 _ (hp10 q hq) tup_noT
          obtain ⟨hv11, ⟨a111, a112, a113, a114, a115, a116, b111, b112, b113, b114, b115, b116, tw11, c112, c113, ts11, nn11, hd11⟩, ⟨vs11, kl11, hl11, hvs11⟩, HA11⟩ := id H11
          obtain ⟨⟨k11, hx11⟩, ⟨hsh11, tki11, tii11, ki11, hdx11⟩, hps11⟩ := id HA11
          (repeat' ((fail_if_success (with_reducible show wpAny _ _ (subscriptTail _ _ (Value.ref _) (Value.int _ _)) _ _ _)); (fail_if_success (with_reducible show wpAny _ _ (call (Value.ref _) _) _ _ _)); (fail_if_success (with_reducible show wpAny _ _ (call (Value.builtin "len") [Value.ref _]) _ _ _)); (fail_if_success (with_reducible show wpAny _ _ (call (Value.type "str") _) _ _ _)); (fail_if_success (with_reducible show wpAny _ _ (call (Value.builtin "list.append") _) _ _ _)); (fail_if_success (with_reducible show wpAny _ _ (pyIter _) _ _ _)); (fail_if_success (with_reducible show wpAny _ _ (exec (Stmt.For _ _ _ _ _) _) _ _ _)); (fail_if_success (with_reducible show wpAny _ _ (truthy (Value.str (S (_ ++ _)) _)) _ _ _)); (fail_if_success (with_reducible show wpAny _ _ (subscriptTail _ _ (Value.str (S (_ ++ _)) _) _) _ _ _)); first | (with_reducible contradiction) | (first | (k_unfold; (try dsimp only)) | walk1 | (dsimp only; walk1) | (leave1; walk_say "STEP leave1"; try dsimp only) | fail "no step")))
          refine append_M (by k_asm) (by k_asm) hl11 (by rw [StrsAre.length hvs11]; omega) ?_
          intro h12 F12 N12
          have hrl : r10 ≠ l := ne_data N11 hr11 hl11 (fun e => ref_not_strs hvs11 (by injection e))
          have hp12 : PartsIn [(⟨r1, Str.ofString " ", tf, S wl, tp⟩ : Part)] ((l, listOf (vs11 ++ [Value.str (txt ps) tS]).toArray (kl11 + 1)) :: off l n11) := fun q hq => .tail _ (mem_off.mpr ⟨hp11 q hq, ne_cls N11 (hp11 q hq) hl11 (by simp)⟩)
          have hr12 : (r10, listOf (accI [(⟨r1, Str.ofString " ", tf, S wl, tp⟩ : Part)]) kr10) ∈ ((l, listOf (vs11 ++ [Value.str (txt ps) tS]).toArray (kl11 + 1)) :: off l n11) := .tail _ (mem_off.mpr ⟨hr11, hrl⟩)
          have H12 := H11.line (tx := txt ps) (tt := tS) (n := kl11 + 1) N11 hl11 hvs11
          have t12 : TabsOk ((l, listOf (vs11 ++ [Value.str (txt ps) tS]).toArray (kl11 + 1)) :: off l n11) := t11.but N11 hl11 (by nofun) fun z h1 h2 => .tail _ (mem_off.mpr ⟨h1, h2⟩)
          have K12 : KpV l x dx n11 ((l, listOf (vs11 ++ [Value.str (txt ps) tS]).toArray (kl11 + 1)) :: off l n11) := fun q h1 h2 _ _ _ => .tail _ (mem_off.mpr ⟨h1, h2⟩)
          generalize (l, listOf (vs11 ++ [Value.str (txt ps) tS]).toArray (kl11 + 1)) :: off l n11 = n12 at N12 H12 t12 K12 hr12 hp12 ⊢
          obtain ⟨hv12, ⟨a121, a122, a123, a124, a125, a126, b121, b122, b123, b124, b125, b126, tw12, c122, c123, ts12, nn12, hd12⟩, ⟨vs12, kl12, hl12, hvs12⟩, HA12⟩ := id H12
          obtain ⟨⟨k12, hx12⟩, ⟨hsh12, tki12, tii12, ki12, hdx12⟩, hps12⟩ := id HA12
          (repeat' ((fail_if_success (with_reducible show wpAny _ _ (subscriptTail _ _ (Value.ref _) (Value.int _ _)) _ _ _)); (fail_if_success (with_reducible show wpAny _ _ (call (Value.ref _) _) _ _ _)); (fail_if_success (with_reducible show wpAny _ _ (call (Value.builtin "len") [Value.ref _]) _ _ _)); (fail_if_success (with_reducible show wpAny _ _ (call (Value.type "str") _) _ _ _)); (fail_if_success (with_reducible show wpAny _ _ (call (Value.builtin "list.append") _) _ _ _)); (fail_if_success (with_reducible show wpAny _ _ (pyIter _) _ _ _)); (fail_if_success (with_reducible show wpAny _ _ (exec (Stmt.For _ _ _ _ _) _) _ _ _)); (fail_if_success (with_reducible show wpAny _ _ (truthy (Value.str (S (_ ++ _)) _)) _ _ _)); (fail_if_success (with_reducible show wpAny _ _ (subscriptTail _ _ (Value.str (S (_ ++ _)) _) _) _ _ _)); first | (with_reducible contradiction) | (first | (k_unfold; (try dsimp only)) | walk1 | (dsimp only; walk1) | (leave1; walk_say "STEP leave1"; try dsimp only) | fail "no step")))
          refine' c_reset1 (w := w) ⟨by k_asm, by k_asm, by k_asm, by k_asm, by k_asm, rfl⟩ t12 HA12 (by omega) hr12 hp12 (by simp) (dpl (a := 1) (b := 6) (c := 30) (by decide) hdp) (dpl (a := 3) (b := 40) (c := 250) (by decide) hun) ?hR13
          intro n13 h13 tk13 F13 N13 t13 A13 K13
          have H13 := H12.acc N12 K13 A13
          (repeat' ((fail_if_success (with_reducible show wpAny _ _ (subscriptTail _ _ (Value.ref _) (Value.int _ _)) _ _ _)); (fail_if_success (with_reducible show wpAny _ _ (call (Value.ref _) _) _ _ _)); (fail_if_success (with_reducible show wpAny _ _ (call (Value.builtin "len") [Value.ref _]) _ _ _)); (fail_if_success (with_reducible show wpAny _ _ (call (Value.type "str") _) _ _ _)); (fail_if_success (with_reducible show wpAny _ _ (call (Value.builtin "list.append") _) _ _ _)); (fail_if_success (with_reducible show wpAny _ _ (pyIter _) _ _ _)); (fail_if_success (with_reducible show wpAny _ _ (exec (Stmt.For _ _ _ _ _) _) _ _ _)); (fail_if_success (with_reducible show wpAny _ _ (truthy (Value.str (S (_ ++ _)) _)) _ _ _)); (fail_if_success (with_reducible show wpAny _ _ (subscriptTail _ _ (Value.str (S (_ ++ _)) _) _) _ _ _)); first | (with_reducible contradiction) | (first | (k_unfold; (try dsimp only)) | walk1 | (dsimp only; walk1) | (leave1; walk_say "STEP leave1"; try dsimp only) | fail "no step")))
          rename_i kF kN kT kX
          exact hret _ _ _ _ kF kN t13 G11 ⟨_, _, _, H13, .split ⟨r1, Str.ofString " ", tf, S wl, tp⟩ rfl rfl (by rw [hPS]; exact hgt) hps0⟩
            (K02.trans (K3.trans (KpV.trans (fun q hq _ _ _ _ => e4 q (.tail _ hq)) (K10.toV.trans (K11.toV.trans (K12.trans K13.toV))))))
        case done3 =>
          intro m7 n7 h7 tk7 gs7 hJ7 F7 N7
          obtain ⟨hk0, f1, f2, ⟨tf7, f3⟩, rfl, rfl⟩ := hJ7
          (repeat' ((fail_if_success (with_reducible show wpAny _ _ (subscriptTail _ _ (Value.ref _) (Value.int _ _)) _ _ _)); (fail_if_success (with_reducible show wpAny _ _ (call (Value.ref _) _) _ _ _)); (fail_if_success (with_reducible show wpAny _ _ (call (Value.builtin "len") [Value.ref _]) _ _ _)); (fail_if_success (with_reducible show wpAny _ _ (call (Value.type "str") _) _ _ _)); (fail_if_success (with_reducible show wpAny _ _ (call (Value.builtin "list.append") _) _ _ _)); (fail_if_success (with_reducible show wpAny _ _ (pyIter _) _ _ _)); (fail_if_success (with_reducible show wpAny _ _ (exec (Stmt.For _ _ _ _ _) _) _ _ _)); (fail_if_success (with_reducible show wpAny _ _ (truthy (Value.str (S (_ ++ _)) _)) _ _ _)); (fail_if_success (with_reducible show wpAny _ _ (subscriptTail _ _ (Value.str (S (_ ++ _)) _) _) _ _ _)); first | (with_reducible contradiction) | (first | (k_unfold; (try dsimp only)) | walk1 | (dsimp only; walk1) | (leave1; walk_say "STEP leave1"; try dsimp only) | fail "no step")))
          have kq : ∀ q ∈ n3, q ∈ off I n7 := fun q hq => mem_off.mpr ⟨e4 q (.tail _ hq), hI q hq⟩
          exact ⟨_, off I n7, _, _, gs7, rfl, F7, News.sub N7 (off_cover (e4 _ (.head _))), (fun q hq => nomatch hq), off_ne, f1, ⟨_, f3⟩, H3.mono kq, t3.mono kq, G3, fun q h1 h2 h3 h4 h5 => kq q (K3 q h1 h2 h3 h4 h5), by omega⟩
    case done =>
      intro m8 n8 h8 tk8 gs8 hJ8 F8 N8
      obtain ⟨e1, ⟨tfw, e2⟩, H8, t8, G8, K8, hl1⟩ := hJ8
      have hl2 : PS.length = 1 := hl1 (by decide +kernel)
      have hps0 : ps = [] := List.length_eq_zero_iff.mp (by omega)
      rw [hps0] at hPS
      subst hPS
      obtain ⟨hv8, ⟨a81, a82, a83, a84, a85, a86, b81, b82, b83, b84, b85, b86, tw8, c82, c83, ts8, nn8, hd8⟩, ⟨vs8, kl8, hl8, hvs8⟩, HA8⟩ := id H8
      obtain ⟨⟨k8, hx8⟩, ⟨hsh8, tki8, tii8, ki8, hdx8⟩, hps8⟩ := id HA8
      (repeat' ((fail_if_success (with_reducible show wpAny _ _ (subscriptTail _ _ (Value.ref _) (Value.int _ _)) _ _ _)); (fail_if_success (with_reducible show wpAny _ _ (call (Value.ref _) _) _ _ _)); (fail_if_success (with_reducible show wpAny _ _ (call (Value.builtin "len") [Value.ref _]) _ _ _)); (fail_if_success (with_reducible show wpAny _ _ (call (Value.type "str") _) _ _ _)); (fail_if_success (with_reducible show wpAny _ _ (call (Value.builtin "list.append") _) _ _ _)); (fail_if_success (with_reducible show wpAny _ _ (pyIter _) _ _ _)); (fail_if_success (with_reducible show wpAny _ _ (exec (Stmt.For _ _ _ _ _) _) _ _ _)); (fail_if_success (with_reducible show wpAny _ _ (truthy (Value.str (S (_ ++ _)) _)) _ _ _)); (fail_if_success (with_reducible show wpAny _ _ (subscriptTail _ _ (Value.str (S (_ ++ _)) _) _) _ _ _)); first | (with_reducible contradiction) | (first | (k_unfold; (try dsimp only)) | walk1 | (dsimp only; walk1) | (leave1; walk_say "STEP leave1"; try dsimp only) | fail "no step")))
      refine' c_pop1 (w := w) (ps := []) ⟨by k_asm, by k_asm, by k_asm, by k_asm, by k_asm, rfl⟩ t8 HA8 (by decide) (dpl (a := 1) (b := 6) (c := 30) (by decide) hdp) (dpl (a := 3) (b := 40) (c := 250) (by decide) hun) ?hRd1
      intro n9 h9 tk9 F9 N9 t9 A9 hq9 K9
      have H9 := H8.acc N8 K9 A9
      obtain ⟨hv9, ⟨a91, a92, a93, a94, a95, a96, b91, b92, b93, b94, b95, b96, tw9, c92, c93, ts9, nn9, hd9⟩, ⟨vs9, kl9, hl9, hvs9⟩, HA9⟩ := id H9
      obtain ⟨⟨k9, hx9⟩, ⟨hsh9, tki9, tii9, ki9, hdx9⟩, hps9⟩ := id HA9
      (repeat' ((fail_if_success (with_reducible show wpAny _ _ (subscriptTail _ _ (Value.ref _) (Value.int _ _)) _ _ _)); (fail_if_success (with_reducible show wpAny _ _ (call (Value.ref _) _) _ _ _)); (fail_if_success (with_reducible show wpAny _ _ (call (Value.builtin "len") [Value.ref _]) _ _ _)); (fail_if_success (with_reducible show wpAny _ _ (call (Value.type "str") _) _ _ _)); (fail_if_success (with_reducible show wpAny _ _ (call (Value.builtin "list.append") _) _ _ _)); (fail_if_success (with_reducible show wpAny _ _ (pyIter _) _ _ _)); (fail_if_success (with_reducible show wpAny _ _ (exec (Stmt.For _ _ _ _ _) _) _ _ _)); (fail_if_success (with_reducible show wpAny _ _ (truthy (Value.str (S (_ ++ _)) _)) _ _ _)); (fail_if_success (with_reducible show wpAny _ _ (subscriptTail _ _ (Value.str (S (_ ++ _)) _) _) _ _ _)); first | (with_reducible contradiction) | (first | (k_unfold; (try dsimp only)) | walk1 | (dsimp only; walk1) | (leave1; walk_say "STEP leave1"; try dsimp only) | fail "no step")))
      · refine' c_nlA (w := w) ⟨by k_asm, by k_asm, by k_asm, by k_asm, by k_asm, rfl⟩ t9 (hC1.keeps FG'.keep) (hC2.keeps FG'.keep) G8 H9 ⟨by omega, hi.2⟩ (by omega) (dpl (a := 1) (b := 20) (c := 30) (by decide) hdp) (dpl (a := 3) (b := 150) (c := 250) (by decide) hun) ?hRd2
        intro n10 h10 tk10 gs10 F10 N10 t10 G10 H10 K10
        obtain ⟨hv10, ⟨a101, a102, a103, a104, a105, a106, b101, b102, b103, b104, b105, b106, tw10, c102, c103, ts10, nn10, hd10⟩, ⟨vs10, kl10, hl10, hvs10⟩, HA10⟩ := id H10
        obtain ⟨⟨k10, hx10⟩, ⟨hsh10, tki10, tii10, ki10, hdx10⟩, hps10⟩ := id HA10
        (repeat' ((fail_if_success (with_reducible show wpAny _ _ (subscriptTail _ _ (Value.ref _) (Value.int _ _)) _ _ _)); (fail_if_success (with_reducible show wpAny _ _ (call (Value.ref _) _) _ _ _)); (fail_if_success (with_reducible show wpAny _ _ (call (Value.builtin "len") [Value.ref _]) _ _ _)); (fail_if_success (with_reducible show wpAny _ _ (call (Value.type "str") _) _ _ _)); (fail_if_success (with_reducible show wpAny _ _ (call (Value.builtin "list.append") _) _ _ _)); (fail_if_success (with_reducible show wpAny _ _ (pyIter _) _ _ _)); (fail_if_success (with_reducible show wpAny _ _ (exec (Stmt.For _ _ _ _ _) _) _ _ _)); (fail_if_success (with_reducible show wpAny _ _ (truthy (Value.str (S (_ ++ _)) _)) _ _ _)); (fail_if_success (with_reducible show wpAny _ _ (subscriptTail _ _ (Value.str (S (_ ++ _)) _) _) _ _ _)); first | (with_reducible contradiction) | (first | (k_unfold; (try dsimp only)) | walk1 | (dsimp only; walk1) | (leave1; walk_say "STEP leave1"; try dsimp only) | fail "no step")))
        refine' c_push (w := w) ⟨by k_asm, by k_asm, by k_asm, by k_asm, by k_asm, rfl⟩ t10 HA10 (by decide) (dpl (a := 1) (b := 3) (c := 30) (by decide) hdp) (dpl (a := 3) (b := 20) (c := 250) (by decide) hun) ?hRd3
        intro r11 n11 h11 tk11 F11 N11 t11 A11 K11
        have H11 := H10.acc N10 K11 A11
        (repeat' ((fail_if_success (with_reducible show wpAny _ _ (subscriptTail _ _ (Value.ref _) (Value.int _ _)) _ _ _)); (fail_if_success (with_reducible show wpAny _ _ (call (Value.ref _) _) _ _ _)); (fail_if_success (with_reducible show wpAny _ _ (call (Value.builtin "len") [Value.ref _]) _ _ _)); (fail_if_success (with_reducible show wpAny _ _ (call (Value.type "str") _) _ _ _)); (fail_if_success (with_reducible show wpAny _ _ (call (Value.builtin "list.append") _) _ _ _)); (fail_if_success (with_reducible show wpAny _ _ (pyIter _) _ _ _)); (fail_if_success (with_reducible show wpAny _ _ (exec (Stmt.For _ _ _ _ _) _) _ _ _)); (fail_if_success (with_reducible show wpAny _ _ (truthy (Value.str (S (_ ++ _)) _)) _ _ _)); (fail_if_success (with_reducible show wpAny _ _ (subscriptTail _ _ (Value.str (S (_ ++ _)) _) _) _ _ _)); first | (with_reducible contradiction) | (first | (k_unfold; (try dsimp only)) | walk1 | (dsimp only; walk1) | (leave1; walk_say "STEP leave1"; try dsimp only) | fail "no step")))
        rename_i kF kN kT kX
        exact hret _ _ _ _ kF kN t11 G10 ⟨_, _, _, H11, .head ⟨r11, Str.ofString " ", tf, S wl, tp⟩ rfl rfl (by rw [hps0]; exact hgt) hps0 (by omega)⟩ (K02.trans (K8.trans (K9.toV.trans (K10.trans K11.toV))))
      · refine' c_push (w := w) ⟨by k_asm, by k_asm, by k_asm, by k_asm, by k_asm, rfl⟩ t9 HA9 (by decide) (dpl (a := 1) (b := 3) (c := 30) (by decide) hdp) (dpl (a := 3) (b := 20) (c := 250) (by decide) hun) ?hRd4
        intro r11 n11 h11 tk11 F11 N11 t11 A11 K11
        have H11 := H9.acc (show News g' L' _ n9 by assumption) K11 A11
        have hi0 : ini = 0 := by omega
        rw [hi0] at H11
        (repeat' ((fail_if_success (with_reducible show wpAny _ _ (subscriptTail _ _ (Value.ref _) (Value.int _ _)) _ _ _)); (fail_if_success (with_reducible show wpAny _ _ (call (Value.ref _) _) _ _ _)); (fail_if_success (with_reducible show wpAny _ _ (call (Value.builtin "len") [Value.ref _]) _ _ _)); (fail_if_success (with_reducible show wpAny _ _ (call (Value.type "str") _) _ _ _)); (fail_if_success (with_reducible show wpAny _ _ (call (Value.builtin "list.append") _) _ _ _)); (fail_if_success (with_reducible show wpAny _ _ (pyIter _) _ _ _)); (fail_if_success (with_reducible show wpAny _ _ (exec (Stmt.For _ _ _ _ _) _) _ _ _)); (fail_if_success (with_reducible show wpAny _ _ (truthy (Value.str (S (_ ++ _)) _)) _ _ _)); (fail_if_success (with_reducible show wpAny _ _ (subscriptTail _ _ (Value.str (S (_ ++ _)) _) _) _ _ _)); first | (with_reducible contradiction) | (first | (k_unfold; (try dsimp only)) | walk1 | (dsimp only; walk1) | (leave1; walk_say "STEP leave1"; try dsimp only) | fail "no step")))
        rename_i kF kN kT kX
        exact hret _ _ _ _ kF kN t11 G8 ⟨_, _, _, H11, .alone ⟨r11, Str.ofString " ", tf, S wl, tp⟩ rfl rfl (by rw [hps0]; exact hgt) hps0 hi0⟩ (K02.trans (K8.trans (K9.toV.trans K11.toV)))
  · rename_i hle tkq kF kN kT kX
    exact hret _ _ _ _ kF kN t2 G2 ⟨_, _, _, H2, .fits ⟨r1, Str.ofString " ", tf, S wl, tp⟩ rfl rfl (by omega)⟩ (K1.toV.trans K2.toV)
end Mine
end

section
open PySem PySem.W PyProof.Rows
set_option linter.unusedVariables false
namespace Mine
/-- the parts by their digits -/
def PtsAre (ps : List Part) (cur : List Nat) : Prop := ps.map (fun q => (q.f, q.p)) = cur.map fun d => (Str.ofString " ", S (wd d))
theorem PtsAre.nil : PtsAre [] [] := rfl
theorem PtsAre.snoc {ps : List Part} {cur : List Nat} (h : PtsAre ps cur) {q : Part} {d : Nat} (h1 : q.f = Str.ofString " ") (h2 : q.p = S (wd d)) : PtsAre (ps ++ [q]) (cur ++ [d]) := by
  unfold PtsAre at h ⊢
  rw [List.map_append, List.map_append, h, List.map_cons, List.map_cons, h1, h2]
  rfl
theorem PtsAre.len {ps : List Part} {cur : List Nat} (h : PtsAre ps cur) : ps.length = cur.length := by
  have := congrArg List.length h
  simpa using this
theorem blank_S : Str.ofString " " = S [32] := by decide +kernel
theorem PtsAre.cons_inv {ps : List Part} {d : Nat} {cur : List Nat} (h : PtsAre ps (d :: cur)) : ∃ q r, ps = q :: r ∧ q.f = Str.ofString " " ∧ q.p = S (wd d) ∧ PtsAre r cur := by
  cases ps with
  | nil => cases h
  | cons q r =>
    unfold PtsAre at h
    rw [List.map_cons, List.map_cons] at h
    injection h with h1 h2
    injection h1 with h3 h4
    exact ⟨q, r, rfl, h3, h4, h2⟩
theorem PtsAre.ptx {ps : List Part} {cur : List Nat} (h : PtsAre ps cur) : (ps.map ptx).flatten = rowT cur := by
  induction cur generalizing ps with
  | nil => cases ps with
    | nil => rfl
    | cons q r => cases h
  | cons d cur ih =>
    obtain ⟨q, r, rfl, h1, h2, h3⟩ := h.cons_inv
    rw [List.map_cons, List.flatten_cons, ih h3, rowT_cons]
    unfold Mine.ptx
    rw [h1, h2, blank_S]
    simp [S]
theorem PtsAre.txt {ps : List Part} {cur : List Nat} (h : PtsAre ps cur) : txt ps = S (rowT cur) := by rw [txt_S, h.ptx]
theorem PtsAre.wid {ps : List Part} {cur : List Nat} (h : PtsAre ps cur) : wid ps = ((rowT cur).length : Int) := by
  induction cur generalizing ps with
  | nil => cases ps with
    | nil => rfl
    | cons q r => cases h
  | cons d cur ih =>
    obtain ⟨q, r, rfl, h1, h2, h3⟩ := h.cons_inv
    have := ih h3
    unfold Mine.wid at this ⊢
    rw [List.map_cons, List.sum_cons, this, rowT_cons, h1, h2, blank_S, S_len, S_len]
    simp
    omega
theorem PtsAre.pt {ps : List Part} {cur : List Nat} (h : PtsAre ps cur) (hc : ∀ d ∈ cur, d < 2 ^ 8) : ∀ q ∈ ps, Pt q := by
  intro q hq
  have : (q.f, q.p) ∈ cur.map fun d => (Str.ofString " ", S (wd d)) := by rw [← h]; exact List.mem_map.mpr ⟨q, hq, rfl⟩
  obtain ⟨d, hd, e⟩ := List.mem_map.mp this
  injection e with e1 e2
  exact ⟨e1.symm, wd d, e2.symm, wd_len (hc d hd), fun c hc => wd_range hc⟩
/-- a chunk laid -/
theorem Chunk.laid {wide front ini d : Nat} {lines lines' : List Str} {ps ps' : List Part} {ini' : Int} {ds : List Nat} {done : List (List Nat)} {cur : List Nat} (h : Chunk (wide : Int) lines ps (ini : Int) (wd d) lines' ps' ini') (hl : lines = done.map fun r => S (rowT r)) (hp : PtsAre ps cur) (H : Laid wide front ds done cur ini) :
    ∃ done' cur' iniN, lines' = (done'.map fun r => S (rowT r)) ∧ PtsAre ps' cur' ∧ ini' = ((iniN : Nat) : Int) ∧ Laid wide front (ds ++ [d]) done' cur' iniN ∧ cur' ≠ [] := by
  cases h with
  | fits q h1 h2 h3 =>
    have hq := hp.snoc h1 h2
    rw [hq.wid] at h3
    exact ⟨done, _, ini, hl, hq, rfl, H.fits (by omega), by simp⟩
  | split q h1 h2 h3 h4 =>
    have hq := hp.snoc h1 h2
    rw [hq.wid] at h3
    refine ⟨done ++ [cur], [d], 0, ?_, PtsAre.nil.snoc h1 h2, rfl, H.split (by omega) ?_, by simp⟩
    · rw [List.map_append, hl, hp.txt]; rfl
    · rintro rfl
      exact h4 (List.length_eq_zero_iff.mp hp.len)
  | alone q h1 h2 h3 h4 h5 =>
    subst h4
    have hc : cur = [] := List.length_eq_zero_iff.mp hp.len.symm
    exact ⟨done, [d], 0, hl, PtsAre.nil.snoc h1 h2, rfl, H.alone hc (by omega), by simp⟩
  | head q h1 h2 h3 h4 h5 =>
    have hq := hp.snoc h1 h2
    rw [hq.wid] at h3
    subst h4
    have hc : cur = [] := List.length_eq_zero_iff.mp hp.len.symm
    refine ⟨done ++ [[]], [d], 0, ?_, PtsAre.nil.snoc h1 h2, rfl, H.head (by omega) hc (by omega), by simp⟩
    rw [List.map_append, hl, S_nil]; rfl
theorem StrsAre.vals {vs : List Value} {ts : List Str} (h : StrsAre vs ts) : ∃ l : List (Str × Tok), vs = strValues l ∧ l.map (·.1) = ts := by
  induction h with
  | nil => exact ⟨[], rfl, rfl⟩
  | cons n t h ih =>
    obtain ⟨l, e1, e2⟩ := ih
    exact ⟨(n, t) :: l, by rw [e1]; rfl, by rw [List.map_cons, e2]⟩
theorem sum_le {B : Nat} {ts : List Str} (h : ∀ x ∈ ts, x.length ≤ B) : (ts.map (·.length)).sum ≤ ts.length * B := by
  induction ts with
  | nil => simp
  | cons x r ih =>
    have h1 := h x (.head _)
    have h2 := ih fun y hy => h y (.tail _ hy)
    simp only [List.map_cons, List.sum_cons, List.length_cons, Nat.add_mul, Nat.one_mul]
    omega
/-- join of short texts -/
theorem join_any {prog : Program} {w : World} {A : Around} {E : Value → Shared → Prop} {s : Shared} {Q : Value → Shared → Prop} {D : Addr} {vs : List Value} {ts : List Str} {x : Str} {t : Tok} (hl : s.heap.IsList D vs.toArray) (hs : StrsAre vs ts) (hB : ∀ y ∈ ts, y.length ≤ 1000) (hn : ts.length ≤ 1000) (hx : x.length ≤ 1)
    (h : ∀ t' k, Q (.str (Txt.join x ts) t') { s with toks := k }) : wpAny (model prog w) A (call (.builtin "str.join") [.str x t, .ref D]) Q E s := by
  obtain ⟨l, rfl, e⟩ := StrsAre.vals hs
  refine SC.join hl e (joinOk_of ?_) h
  have h1 := sum_le hB
  have h2 : ts.length * x.length ≤ ts.length * 1 := Nat.mul_le_mul_left _ hx
  omega
set_option maxRecDepth 100000 in
set_option maxHeartbeats 8000000 in
theorem c_vstr {w : World} {p : Program} {loose : List Str} {mean : ExcName → Option Value} {mg mb : Str → Option Value} {dp un : Nat} {gd : Option (List Code)} {cn : Str} {cs : Scope} {a : Addr} {ccd : Value} {cl : List (Str × Addr)} {outer : List Env} {A₀ : Around} {base h₀ : Heap} {L : Addr} {m : Str → Option Value} {news : List (Addr × Obj)} {s : Shared} {Q E : Value → Shared → Prop}
    {v dv l x dx ad : Addr} {wide ini : Int} {lines : List Str} {qs : List Part} {wl : Str} {tf tp tb : Tok}
    (C : Cx w p loose mean mg mb cs outer A₀ base h₀ L m news s.heap) (ht : TabsOk news) (hC1 : CodeHd h₀ 144 140) (hC2 : CodeHd h₀ 151 147) (G : AllBare s.gens) (H : Vf v dv l x dx wide lines (qs ++ [⟨ad, Str.ofString " ", tf, wl, tp⟩]) ini news)
    (hi : 0 ≤ ini ∧ ini ≤ 1000) (hl : lines.length ≤ 200) (hsm0 : Sm (qs ++ [⟨ad, Str.ofString " ", tf, wl, tp⟩])) (hwl : wl ≠ Str.ofString "") (hok : PyData.strOk wl = true) (hon : 0 < ini ∨ (ini = 0 ∧ Txt.isspace (txt (qs ++ [⟨ad, Str.ofString " ", tf, wl, tp⟩])) = false))
    (hB : ∀ y ∈ lines ++ [txt (qs ++ [⟨ad, Str.ofString " ", tf, wl, tp⟩])], y.length ≤ 1000)
    (hdp : dp + 22 < recursionLimit) (hun : un + 160 < cLine)
    (hret : ∀ (t : Tok) (news' : List (Addr × Obj)) (h' : Heap) (tk' : Tok) (gs : Array GenState), Fr h₀ L h' m → News h₀ L h' news' → TabsOk news' → AllBare gs → KpV l x dx news news' → Q (.str (Txt.join (Str.ofString "|") (lines ++ [txt (qs ++ [⟨ad, Str.ofString " ", tf, wl, tp⟩])])) t) ⟨h', gs, s.drawn, tk', s.os⟩) :
    wpAny (model Challenge.rw_nb0260_01.row.prog w) (ktrTop dp un gd cn cs L a ccd cl outer) (call (.ref 42) [.ref v, .str "|" tb]) Q E s := by
  obtain ⟨B, F, X, N, T, hk⟩ := C
  obtain ⟨hv0, ⟨a01, a02, a03, a04, a05, a06, b01, b02, b03, b04, b05, b06, tw0, c02, c03, ts0, nn0, hd0⟩, ⟨vs0, kl0, hl0, hvs0⟩, HA0⟩ := id H
  obtain ⟨⟨k0, hx0⟩, ⟨hsh0, tki0, tii0, ki0, hdx0⟩, hps0⟩ := id HA0
  refine wpAny_call ?_
  (k_dflt (refine' code_def2 ?k1 ?k2 ?k3 ?k4 ?k5 ?kA ?kF ?kK ?k6 ?k7 ?k8 ?k9 ?kB ?_ ?c2 ?c3 ?c4 ?c5; (case kA => exact rfl); (case kF => exact rfl); (case kK => assumption); (case k1 => k_asm); (case k2 => k_asm); (case k3 => k_asm); (case k4 => k_asm); (case k5 => k_asm); (case k6 => k_is); (case k7 => k_is); (case k8 => ktr_room); (case k9 => first | exact BindsTo.of_eq rfl | exact binds_K (by k_in) rfl (by k_is) rfl rfl rfl); (case c5 => decide); (case kB => exact locs2 rfl); (case c2 => exact rfl); (case c3 => exact rfl); (case c4 => exact rfl); k_whole; intro g' L' h' FG' F' N' B' X' T' l1; (try dsimp only); (try k_lift B'); (try k_fold)))
  (repeat' ((fail_if_success (with_reducible show wpAny _ _ (call (Value.ref _) _) _ _ _)); (fail_if_success (with_reducible show wpAny _ _ (call (Value.builtin "str.join") _) _ _ _)); first | (with_reducible contradiction) | (first | (k_unfold; (try dsimp only)) | walk1 | (dsimp only; walk1) | (leave1; walk_say "STEP leave1"; try dsimp only) | fail "no step")))
  refine' c_nlB (w := w) ⟨by k_asm, by k_asm, by k_asm, by k_asm, by k_asm, rfl⟩ ht (hC1.keeps FG'.keep) (hC2.keeps FG'.keep) G H hi hl hsm0 hwl hok hon (dpl (a := 1) (b := 20) (c := 22) (by decide) hdp) (dpl (a := 3) (b := 150) (c := 160) (by decide) hun) ?hR1
  intro n1 h1 tk1 gs1 F1 N1 t1 G1 H1 K1
  obtain ⟨hv1, ⟨a11, a12, a13, a14, a15, a16, b11, b12, b13, b14, b15, b16, tw1, c12, c13, ts1, nn1, hd1⟩, ⟨vs1, kl1, hl1, hvs1⟩, HA1⟩ := id H1
  obtain ⟨⟨k1, hx1⟩, ⟨hsh1, tki1, tii1, ki1, hdx1⟩, hps1⟩ := id HA1
  (repeat' ((fail_if_success (with_reducible show wpAny _ _ (call (Value.ref _) _) _ _ _)); (fail_if_success (with_reducible show wpAny _ _ (call (Value.builtin "str.join") _) _ _ _)); first | (with_reducible contradiction) | (first | (k_unfold; (try dsimp only)) | walk1 | (dsimp only; walk1) | (leave1; walk_say "STEP leave1"; try dsimp only) | fail "no step")))
  refine join_any (News.isList N1 hl1) hvs1 hB (by simp; omega) (by decide) ?_
  intro t2 k2
  (repeat' ((fail_if_success (with_reducible show wpAny _ _ (call (Value.ref _) _) _ _ _)); (fail_if_success (with_reducible show wpAny _ _ (call (Value.builtin "str.join") _) _ _ _)); first | (with_reducible contradiction) | (first | (k_unfold; (try dsimp only)) | walk1 | (dsimp only; walk1) | (leave1; walk_say "STEP leave1"; try dsimp only) | fail "no step")))
  rename_i kF kN kT kX
  exact hret _ _ _ _ _ kF kN t1 G1 K1
end Mine
end

section
open PySem PySem.W PyProof.Rows
set_option linter.unusedVariables false
namespace Mine
section
variable {v dv l x dx I : Addr} {wide ini : Int} {lines : List Str} {ps : List Part} {news : List (Addr × Obj)} {h₀ h : Heap} {L : Addr} {oI : Obj} {c : String}
theorem Vf.offI (H : Vf v dv l x dx wide lines ps ini news) (N : News h₀ L h news) (hI : (I, oI) ∈ news) (hi : Itr "list_iterator" oI) : Vf v dv l x dx wide lines ps ini (off I news) := by
  obtain ⟨hv, ⟨h1, h2, h3, h4, h5, h6, t1, t2, t3, t4, t5, t6, tw, v2, v3, ts, n, hd⟩, ⟨vs, kl, hlm, hvs⟩, ⟨⟨k, hx⟩, ⟨hsh, tki, tii, ki, hdx⟩, hps⟩⟩ := H
  exact ⟨cls_off N hI hv (by rw [hi.1]; nofun), ⟨h1, h2, h3, h4, h5, h6, t1, t2, t3, t4, t5, t6, tw, v2, v3, ts, n, cls_off N hI hd (by rw [hi.1]; simp)⟩, ⟨vs, kl, cls_off N hI hlm (by rw [hi.1]; simp), hvs⟩,
    ⟨k, cls_off N hI hx (by rw [hi.1]; nofun)⟩, ⟨hsh, tki, tii, ki, cls_off N hI hdx (by rw [hi.1]; simp)⟩, fun q hq => cls_off N hI (hps q hq) (by rw [hi.1]; simp)⟩
end
theorem PtsAre.snoc_inv {ps : List Part} {cur : List Nat} {d : Nat} (h : PtsAre ps (cur ++ [d])) : ∃ qs q, ps = qs ++ [q] ∧ q.f = Str.ofString " " ∧ q.p = S (wd d) ∧ PtsAre qs cur := by
  induction cur generalizing ps with
  | nil =>
    obtain ⟨q, r, rfl, h1, h2, h3⟩ := PtsAre.cons_inv h
    have : r = [] := List.length_eq_zero_iff.mp h3.len
    subst this
    exact ⟨[], q, rfl, h1, h2, PtsAre.nil⟩
  | cons e cur ih =>
    obtain ⟨q, r, rfl, h1, h2, h3⟩ := PtsAre.cons_inv h
    obtain ⟨qs, q', rfl, h4, h5, h6⟩ := ih h3
    refine ⟨q :: qs, q', rfl, h4, h5, ?_⟩
    unfold PtsAre at h6 ⊢
    rw [List.map_cons, List.map_cons, h1, h2, h6]
theorem letter_nsp {c : Nat} (h : 97 ≤ c ∧ c < 105) : Unicode.isSpace c = false := by
  have : ∀ i : Fin 8, Unicode.isSpace (97 + i.val) = false := by decide +kernel
  have := this ⟨c - 97, by omega⟩
  rwa [show 97 + (c - 97) = c by omega] at this
theorem row_nsp {cur : List Nat} {d : Nat} (hd : 0 < d) : Txt.isspace (S (rowT (cur ++ [d]))) = false := by
  obtain ⟨c, hc⟩ := List.exists_mem_of_ne_nil _ (wd_ne hd)
  unfold Txt.isspace
  rw [Bool.and_eq_false_iff]
  right
  rw [← Bool.not_eq_true, Array.all_eq_true_iff_forall_mem]
  intro h
  have h1 := h c (by show c ∈ (rowT (cur ++ [d])).toArray; rw [rowT_snoc]; simp [hc])
  rw [letter_nsp (wd_range hc)] at h1
  cases h1
theorem S_ok {l : List Nat} (h : ∀ c ∈ l, c < 128) : PyData.strOk (S l) = true := by
  unfold PyData.strOk
  rw [Array.all_eq_true_iff_forall_mem]
  intro c hc
  have := h c (by simpa [S] using hc)
  simp; omega
theorem last_of {a cur l0 : List Nat} {d : Nat} (h : a ++ cur = l0 ++ [d]) (hc : cur ≠ []) : ∃ c0, cur = c0 ++ [d] := by
  rcases List.eq_nil_or_concat cur with e | ⟨c0, e0, e⟩
  · exact absurd e hc
  · rw [List.concat_eq_append] at e
    subst e
    rw [← List.append_assoc] at h
    have := List.append_inj_right' h rfl
    simp at this
    exact ⟨c0, by rw [this]⟩
theorem bar_S : Str.ofString "|" = S [124] := by decide +kernel
theorem rows_join (done : List (List Nat)) (cur : List Nat) : Txt.join (Str.ofString "|") ((done.map fun r => S (rowT r)) ++ [S (rowT cur)]) = S (gl [124] ((done ++ [cur]).map rowT)) := by
  rw [bar_S, ← join_S]
  simp [Function.comp_def]
theorem gl_len (c B : Nat) : ∀ (ls : List (List Nat)), (∀ x ∈ ls, x.length ≤ B) → (gl [c] ls).length ≤ ls.length * (B + 1)
  | [], _ => by simp [gl]
  | [x], h => by have := h x (.head _); simp [gl]; omega
  | x :: y :: r, h => by
    have h1 := h x (.head _)
    have h2 := gl_len c B (y :: r) fun z hz => h z (.tail _ hz)
    rw [gl_cons]
    simp only [List.length_append, List.length_cons, List.length_nil, Nat.add_mul, Nat.one_mul] at h2 ⊢
    omega
/-- what a turn of the writing loop keeps -/
def RwJ (v dv l x dx : Addr) (wide front : Nat) (ds : List Nat) (n1 : List (Addr × Obj)) (i : Nat) (m1 : Str → Option Value) (news1 : List (Addr × Obj)) (gs : Array GenState) : Prop :=
  m1 (Str.ofString "writer") = some (.ref v) ∧ TabsOk news1 ∧ AllBare gs ∧ KpV l x dx n1 news1 ∧ ∃ lines ps done cur ini, Vf v dv l x dx (wide : Int) lines ps ((ini : Nat) : Int) news1 ∧ lines = (done.map fun r => S (rowT r)) ∧ PtsAre ps cur ∧ Laid wide front (ds.take i) done cur ini ∧ (0 < i → cur ≠ [])
end Mine
end

section
open PySem PySem.W PyProof.Rows
set_option linter.unusedVariables false
namespace Mine
local macro_rules | `(tactic| walk_at "eval Name") => `(tactic| (k_here; k_dflt (refine' ld ?k1 ?k2 ?_; (case k1 => k_asm); (case k2 => first | exact rfl | assumption); k_whole)))
set_option maxRecDepth 100000 in
set_option maxHeartbeats 8000000 in
theorem c_rows {w : World} {p : Program} {loose : List Str} {mean : ExcName → Option Value} {mg mb : Str → Option Value} {dp un : Nat} {gd : Option (List Code)} {cn : Str} {cs : Scope} {a : Addr} {ccd : Value} {cl : List (Str × Addr)} {outer : List Env} {A₀ : Around} {base h₀ : Heap} {L : Addr} {m : Str → Option Value} {news : List (Addr × Obj)} {s : Shared} {Q E : Value → Shared → Prop}
    {r : Addr} {vs : List Value} {k : Nat} {ds l0 : List Nat} {d0 wide front : Nat} {tw th : Tok}
    (C : Cx w p loose mean mg mb cs outer A₀ base h₀ L m news s.heap) (ht : TabsOk news) (hC1 : CodeHd h₀ 144 140) (hC2 : CodeHd h₀ 151 147) (G : AllBare s.gens)
    (hl : (r, listOf vs.toArray k) ∈ news) (hv : StrsAre vs (ds.map fun d => S (wd d))) (hds : ∀ d ∈ ds, d < 2 ^ 8) (hn : ds.length ≤ 60) (hlast : ds = l0 ++ [d0]) (hd0 : 0 < d0) (hf : front ≤ 1000)
    (hdp : dp + 40 < recursionLimit) (hun : un + 300 < cLine)
    (hret : ∀ (D : Addr) (xs : List Value) (kk : Nat) (rows : List (List Nat)) (news' : List (Addr × Obj)) (h' : Heap) (tk' : Tok) (gs : Array GenState), Fr h₀ L h' m → News h₀ L h' news' → TabsOk news' → AllBare gs → Kp news news' → (D, listOf xs.toArray kk) ∈ news' → StrsAre xs (rows.map fun r => S (rowT r)) → rows.flatten = ds → Full wide front rows → rows ≠ [] → rows.length ≤ ds.length + 1 → Q (.ref D) ⟨h', gs, s.drawn, tk', s.os⟩) :
    wpAny (model Challenge.rw_nb0260_01.row.prog w) (ktrTop dp un gd cn cs L a ccd cl outer) (call (.ref 274) [.ref r, .int (wide : Int) tw, .int (front : Int) th]) Q E s := by
  obtain ⟨B, F, X, N, T, hk⟩ := C
  refine wpAny_call ?_
  (k_dflt (refine' code_def2 ?k1 ?k2 ?k3 ?k4 ?k5 ?kA ?kF ?kK ?k6 ?k7 ?k8 ?k9 ?kB ?_ ?c2 ?c3 ?c4 ?c5; (case kA => exact rfl); (case kF => exact rfl); (case kK => assumption); (case k1 => k_asm); (case k2 => k_asm); (case k3 => k_asm); (case k4 => k_asm); (case k5 => k_asm); (case k6 => k_is); (case k7 => k_is); (case k8 => ktr_room); (case k9 => first | exact BindsTo.of_eq rfl | exact binds_K (by k_in) rfl (by k_is) rfl rfl rfl); (case c5 => decide); (case kB => exact locs2 rfl); (case c2 => exact rfl); (case c3 => exact rfl); (case c4 => exact rfl); k_whole; intro g' L' h' FG' F' N' B' X' T' l1; (try dsimp only); (try k_lift B'); (try k_fold)))
  (repeat' ((fail_if_success (with_reducible show wpAny _ _ (call (Value.ref _) _) _ _ _)); (fail_if_success (with_reducible show wpAny _ _ (call (Value.builtin "str.split") _) _ _ _)); (fail_if_success (with_reducible show wpAny _ _ (pyIter _) _ _ _)); (fail_if_success (with_reducible show wpAny _ _ (exec (Stmt.For _ _ _ _ _) _) _ _ _)); first | (with_reducible contradiction) | (first | (k_unfold; (try dsimp only)) | walk1 | (dsimp only; walk1) | (leave1; walk_say "STEP leave1"; try dsimp only) | fail "no step")))
  refine' c_vfmake (w := w) ⟨by k_asm, by k_asm, by k_asm, by k_asm, by k_asm, rfl⟩ ht (dpl (a := 1) (b := 10) (c := 40) (by decide) hdp) (dpl (a := 3) (b := 80) (c := 300) (by decide) hun) ?hR1
  intro v dv l x dx n1 h1 tk1 F1 N1 t1 H1 e1 lo1
  have hl1 := e1 _ hl
  (repeat' ((fail_if_success (with_reducible show wpAny _ _ (call (Value.ref _) _) _ _ _)); (fail_if_success (with_reducible show wpAny _ _ (call (Value.builtin "str.split") _) _ _ _)); (fail_if_success (with_reducible show wpAny _ _ (pyIter _) _ _ _)); (fail_if_success (with_reducible show wpAny _ _ (exec (Stmt.For _ _ _ _ _) _) _ _ _)); first | (with_reducible contradiction) | (first | (k_unfold; (try dsimp only)) | walk1 | (dsimp only; walk1) | (leave1; walk_say "STEP leave1"; try dsimp only) | fail "no step")))
  refine wpAny_For ?_
  (repeat' ((fail_if_success (with_reducible show wpAny _ _ (call (Value.ref _) _) _ _ _)); (fail_if_success (with_reducible show wpAny _ _ (call (Value.builtin "str.split") _) _ _ _)); (fail_if_success (with_reducible show wpAny _ _ (pyIter _) _ _ _)); (fail_if_success (with_reducible show wpAny _ _ (exec (Stmt.For _ _ _ _ _) _) _ _ _)); first | (with_reducible contradiction) | (first | (k_unfold; (try dsimp only)) | walk1 | (dsimp only; walk1) | (leave1; walk_say "STEP leave1"; try dsimp only) | fail "no step")))
  rename_i h2 F2 N2
  refine' iter_list (l := r) (items := vs.toArray) (k := k) (RwJ v dv l x dx wide front ds n1) F2 N2 hl1 ⟨rfl, t1, G, fun q hq _ _ _ _ => hq, [], [], [], [], front, H1, rfl, PtsAre.nil, Laid.start wide front, fun h => absurd h (Nat.lt_irrefl 0)⟩ ?turn ?done
  case turn =>
    intro I i vv m3 n3 h3 tk3 gs3 oI hv3 hJ hr3 hI hoI F3 N3
    obtain ⟨e3, t3, G3, K3, lines, ps, done, cur, ini, H3, hli, hpa, hLa, hc0⟩ := hJ
    rw [List.getElem?_toArray] at hv3
    obtain ⟨y, ty, rfl, hy⟩ := StrsAre.item hv i vv hv3
    rw [List.getElem?_map] at hy
    obtain ⟨d, hd, rfl⟩ := Option.map_eq_some_iff.mp hy
    have hd8 : d < 2 ^ 8 := hds d (List.mem_of_getElem? hd)
    have hdl : (ds.take i).length ≤ 60 := by rw [List.length_take]; omega
    have hcl : cur.length ≤ 60 := by have := congrArg List.length hLa.all; simp at this; omega
    have hcd : ∀ z ∈ cur, z < 2 ^ 8 := fun z hz => hds z (List.mem_of_mem_take (by rw [← hLa.all]; exact List.mem_append_right _ hz))
    have hin : ini ≤ 1000 := by have := hLa.ini; split at this <;> omega
    have hll : lines.length ≤ 100 := by have := hLa.cnt; rw [hli, List.length_map]; omega
    obtain ⟨hv3, ⟨a31, a32, a33, a34, a35, a36, b31, b32, b33, b34, b35, b36, tw3, c32, c33, ts3, nn3, hd3⟩, ⟨vs3, kl3, hl3, hvs3⟩, HA3⟩ := id H3
    obtain ⟨⟨k3, hx3⟩, ⟨hsh3, tki3, tii3, ki3, hdx3⟩, hps3⟩ := id HA3
    (repeat' ((fail_if_success (with_reducible show wpAny _ _ (call (Value.ref _) _) _ _ _)); (fail_if_success (with_reducible show wpAny _ _ (call (Value.builtin "str.split") _) _ _ _)); (fail_if_success (with_reducible show wpAny _ _ (pyIter _) _ _ _)); (fail_if_success (with_reducible show wpAny _ _ (exec (Stmt.For _ _ _ _ _) _) _ _ _)); first | (with_reducible contradiction) | (first | (k_unfold; (try dsimp only)) | walk1 | (dsimp only; walk1) | (leave1; walk_say "STEP leave1"; try dsimp only) | fail "no step")))
    refine' c_chunk0 (w := w) (news := (I, oI) :: n3) ⟨by k_asm, by k_asm, by k_asm, by k_asm, by k_asm, rfl⟩ (t3.mono fun q hq => .tail _ hq) (hC1.keeps FG'.keep) (hC2.keeps FG'.keep) G3 (H3.mono fun q hq => .tail _ hq) ⟨by omega, by omega⟩ hll (hpa.pt hcd) (by rw [hpa.len]; omega) (wd_len hd8) (fun c hc => wd_range hc) (dpl (a := 1) (b := 30) (c := 40) (by decide) hdp) (dpl (a := 3) (b := 250) (c := 300) (by decide) hun) ?hR2
    intro n4 h4 tk4 gs4 F4 N4 t4 G4 hV K4
    obtain ⟨lines', ps', ini', H4, hCh⟩ := hV
    obtain ⟨done', cur', iniN, hli', hpa', rfl, hLa', hc'⟩ := hCh.laid hli hpa hLa
    have hI4 : (I, oI) ∈ n4 := K4 _ (.head _) (Ne.symm (hI _ hl3)) (Ne.symm (hI _ hx3)) (Ne.symm (hI _ hdx3)) hoI.noT
    (repeat' ((fail_if_success (with_reducible show wpAny _ _ (call (Value.ref _) _) _ _ _)); (fail_if_success (with_reducible show wpAny _ _ (call (Value.builtin "str.split") _) _ _ _)); (fail_if_success (with_reducible show wpAny _ _ (pyIter _) _ _ _)); (fail_if_success (with_reducible show wpAny _ _ (exec (Stmt.For _ _ _ _ _) _) _ _ _)); first | (with_reducible contradiction) | (first | (k_unfold; (try dsimp only)) | walk1 | (dsimp only; walk1) | (leave1; walk_say "STEP leave1"; try dsimp only) | fail "no step")))
    have kq : KpV l x dx n3 (off I n4) := fun q h1 h2 h3 h4 h5 => mem_off.mpr ⟨K4 q (.tail _ h1) h2 h3 h4 h5, hI q h1⟩
    have hlr := lo1 _ hl
    refine ⟨_, off I n4, _, _, gs4, rfl, F4, News.sub N4 (off_cover hI4), (fun q hq => ?_), off_ne, e3, t4.offI N4 hI4 hoI, G4, K3.trans kq, lines', ps', done', cur', iniN, H4.offI N4 hI4 hoI, hli', hpa', ?_, fun _ => hc'⟩
    · rw [List.mem_singleton.mp hq]
      exact kq _ hr3 hlr.1 hlr.2.1 hlr.2.2 list_noT
    · rw [take_snoc hd]; exact hLa'
  case done =>
    intro m5 n5 h5 tk5 gs5 hJ hr5 F5 N5
    obtain ⟨e5, t5, G5, K5, lines, ps, done, cur, ini, H5, hli, hpa, hLa, hc0⟩ := hJ
    have hsz : vs.toArray.size = ds.length := by rw [List.size_toArray, StrsAre.length hv, List.length_map]
    have hpos : 0 < ds.length := by rw [hlast]; simp
    rw [hsz, List.take_length] at hLa
    have hcn := hc0 (by rw [hsz]; exact hpos)
    obtain ⟨c0, rfl⟩ := last_of (hLa.all.trans hlast) hcn
    obtain ⟨qs, q, rfl, hq1, hq2, hq3⟩ := hpa.snoc_inv
    obtain ⟨qa, qf, qtf, qp, qtp⟩ := q
    dsimp only at hq1 hq2
    subst hq1 hq2
    have hcl : (c0 ++ [d0]).length ≤ ds.length := by have := congrArg List.length hLa.all; simp at this ⊢; omega
    have hcd : ∀ z ∈ c0 ++ [d0], z < 2 ^ 8 := fun z hz => hds z (by rw [← hLa.all]; exact List.mem_append_right _ hz)
    have hrd : ∀ r ∈ done, ∀ z ∈ r, z < 2 ^ 8 := fun r hr z hz => hds z (by rw [← hLa.all]; exact List.mem_append_left _ (List.mem_flatten.mpr ⟨r, hr, hz⟩))
    have hrl : ∀ r ∈ done, r.length ≤ 60 := fun r hr => by
      have h1 : r.length ≤ done.flatten.length := List.Sublist.length_le (List.sublist_flatten_of_mem hr)
      have h2 := congrArg List.length hLa.all
      simp at h1 h2
      omega
    have hin : ini ≤ 1000 := by have := hLa.ini; split at this <;> omega
    have hll : lines.length ≤ ds.length := by have := hLa.cnt; rw [hli, List.length_map]; omega
    have hPt := hpa.pt hcd
    have hsm : Sm (qs ++ [(⟨qa, Str.ofString " ", qtf, S (wd d0), qtp⟩ : Part)]) := ⟨by rw [hpa.len]; omega, fun q hq => (hPt q hq).small⟩
    have hB : ∀ y ∈ lines ++ [txt (qs ++ [(⟨qa, Str.ofString " ", qtf, S (wd d0), qtp⟩ : Part)])], y.length ≤ 1000 := fun y hy => by
      rcases List.mem_append.mp hy with hy | hy
      · rw [hli] at hy
        obtain ⟨r, hr, rfl⟩ := List.mem_map.mp hy
        have h1 := rowT_len (hrd r hr)
        have h2 := hrl r hr
        rw [S_len]; omega
      · rw [List.mem_singleton.mp hy, hpa.txt, S_len]
        have h1 := rowT_len hcd
        omega
    obtain ⟨hv5, ⟨a51, a52, a53, a54, a55, a56, b51, b52, b53, b54, b55, b56, tw5, c52, c53, ts5, nn5, hd5⟩, ⟨vs5, kl5, hl5, hvs5⟩, HA5⟩ := id H5
    obtain ⟨⟨k5, hx5⟩, ⟨hsh5, tki5, tii5, ki5, hdx5⟩, hps5⟩ := id HA5
    (repeat' ((fail_if_success (with_reducible show wpAny _ _ (call (Value.ref _) _) _ _ _)); (fail_if_success (with_reducible show wpAny _ _ (call (Value.builtin "str.split") _) _ _ _)); (fail_if_success (with_reducible show wpAny _ _ (pyIter _) _ _ _)); (fail_if_success (with_reducible show wpAny _ _ (exec (Stmt.For _ _ _ _ _) _) _ _ _)); first | (with_reducible contradiction) | (first | (k_unfold; (try dsimp only)) | walk1 | (dsimp only; walk1) | (leave1; walk_say "STEP leave1"; try dsimp only) | fail "no step")))
    refine' c_vstr (w := w) ⟨by k_asm, by k_asm, by k_asm, by k_asm, by k_asm, rfl⟩ t5 (hC1.keeps FG'.keep) (hC2.keeps FG'.keep) G5 H5 ⟨by omega, by omega⟩ (by omega) hsm (fun e => wd_ne hd0 (S_inj (e.trans S_nil))) (S_ok fun c hc => by have := wd_range hc; omega) ?hon hB (dpl (a := 1) (b := 22) (c := 40) (by decide) hdp) (dpl (a := 3) (b := 160) (c := 300) (by decide) hun) ?hR3
    case hon =>
      rcases Nat.eq_zero_or_pos ini with h0 | h0
      · exact .inr ⟨by omega, by rw [hpa.txt]; exact row_nsp hd0⟩
      · exact .inl (by omega)
    intro t6 n6 h6 tk6 gs6 F6 N6 ht6 G6 K6
    rw [hpa.txt, hli, rows_join]
    have hgl := gl_len 124 240 ((done ++ [c0 ++ [d0]]).map rowT) fun y hy => by
      obtain ⟨r, hr, rfl⟩ := List.mem_map.mp hy
      rcases List.mem_append.mp hr with hr | hr
      · have h1 := rowT_len (hrd r hr)
        have h2 := hrl r hr
        omega
      · rw [List.mem_singleton.mp hr]
        have h1 := rowT_len hcd
        omega
    have hdn := hLa.cnt
    rw [List.length_map, List.length_append, List.length_singleton] at hgl
    (repeat' ((fail_if_success (with_reducible show wpAny _ _ (call (Value.ref _) _) _ _ _)); (fail_if_success (with_reducible show wpAny _ _ (call (Value.builtin "str.split") _) _ _ _)); (fail_if_success (with_reducible show wpAny _ _ (pyIter _) _ _ _)); (fail_if_success (with_reducible show wpAny _ _ (exec (Stmt.For _ _ _ _ _) _) _ _ _)); first | (with_reducible contradiction) | (first | (k_unfold; (try dsimp only)) | walk1 | (dsimp only; walk1) | (leave1; walk_say "STEP leave1"; try dsimp only) | fail "no step")))
    refine KSpl.split1 (by k_asm) (by k_asm) (by decide) ?_ ?hsz2
    case hsz2 =>
      rw [S_len]
      have : sizeLine = 16777216 := by decide
      rw [this]
      have h3 : (done.length + 1) * (240 + 1) ≤ 61 * 241 := Nat.mul_le_mul_right _ (by omega)
      omega
    intro D l7 h7 k7 e7 a7 F7 N7 lo7
    rw [show Str.ofString "|" = ⟨#[124]⟩ by decide +kernel, rows_split (by simp)] at e7
    rw [e7] at a7
    (repeat' ((fail_if_success (with_reducible show wpAny _ _ (call (Value.ref _) _) _ _ _)); (fail_if_success (with_reducible show wpAny _ _ (call (Value.builtin "str.split") _) _ _ _)); (fail_if_success (with_reducible show wpAny _ _ (pyIter _) _ _ _)); (fail_if_success (with_reducible show wpAny _ _ (exec (Stmt.For _ _ _ _ _) _) _ _ _)); first | (with_reducible contradiction) | (first | (k_unfold; (try dsimp only)) | walk1 | (dsimp only; walk1) | (leave1; walk_say "STEP leave1"; try dsimp only) | fail "no step")))
    rename_i kF kN kT kX
    exact hret D _ 0 (done ++ [c0 ++ [d0]]) _ _ _ _ kF kN (ht6.mono fun q hq => .tail _ hq) G6 (fun q h1 h2 => .tail _ (K6 q (K5 q (e1 q h1) (lo1 q h1).1 (lo1 q h1).2.1 (lo1 q h1).2.2 h2) (lo1 q h1).1 (lo1 q h1).2.1 (lo1 q h1).2.2 h2)) (.head _) a7 (by rw [← hLa.all]; simp) (hLa.full hcn) (by simp) (by simp; omega)
end Mine
end

end

section
local macro_rules | `(tactic| walk_at "eval Name") => `(tactic| (k_here; k_dflt (refine' ld ?k1 ?k2 ?_; (case k1 => k_asm); (case k2 => first | exact rfl | assumption); k_whole)))
local macro_rules | `(tactic| walk_at "call builtin:len") => `(tactic| (k_here; (with_reducible show wpAny _ _ (call (Value.builtin "len") [Value.ref _]) _ _ _); k_dflt (refine' len_rows ?N ?m ?z ?_; (case N => k_asm); (case m => k_mem); (case z => assumption)); intro t' k'; (try dsimp only)))

section
open PySem PySem.W PyProof.Rows
set_option linter.unusedVariables false
namespace Mine
theorem lst_noT {xs : Array Value} {k : Nat} : ¬ isT (listOf xs k) := notT nofun
/-- lists of digits in the ledger -/
inductive Lists (news : List (Addr × Obj)) : List Value → List (List Nat) → Prop
  | nil : Lists news [] []
  | cons {a : Addr} {xs : List Value} {k : Nat} {r : List Nat} {vs : List Value} {rs : List (List Nat)} (h1 : (a, listOf xs.toArray k) ∈ news) (h2 : IntsAre xs (r.map fun x : Nat => (x : Int))) (h : Lists news vs rs) : Lists news (.ref a :: vs) (r :: rs)
theorem Lists.mono {news news' : List (Addr × Obj)} {vs : List Value} {rs : List (List Nat)} (h : Lists news vs rs) (k : ∀ q ∈ news, ¬ isT q.2 → q ∈ news') : Lists news' vs rs := by
  induction h with
  | nil => exact .nil
  | cons h1 h2 _ ih => exact .cons (k _ h1 lst_noT) h2 ih
theorem Lists.len {news : List (Addr × Obj)} {vs : List Value} {rs : List (List Nat)} (h : Lists news vs rs) : vs.length = rs.length := by
  induction h with
  | nil => rfl
  | cons _ _ _ ih => rw [List.length_cons, List.length_cons, ih]
theorem Lists.item {news : List (Addr × Obj)} {vs : List Value} {rs : List (List Nat)} (h : Lists news vs rs) : ∀ {i : Nat} {v : Value}, vs[i]? = some v → ∃ a xs k r, v = .ref a ∧ rs[i]? = some r ∧ (a, listOf xs.toArray k) ∈ news ∧ IntsAre xs (r.map fun x : Nat => (x : Int)) := by
  induction h with
  | nil => intro i v e; simp at e
  | cons h1 h2 _ ih =>
    intro i v e
    cases i with
    | zero => simp at e; exact ⟨_, _, _, _, e.symm, by simp, h1, h2⟩
    | succ i => simp at e; simpa using ih e
theorem Lists.snoc {news : List (Addr × Obj)} {vs : List Value} {rs : List (List Nat)} {a : Addr} {xs : List Value} {k : Nat} {r : List Nat} (h : Lists news vs rs) (h1 : (a, listOf xs.toArray k) ∈ news) (h2 : IntsAre xs (r.map fun x : Nat => (x : Int))) : Lists news (vs ++ [.ref a]) (rs ++ [r]) := by
  induction h with
  | nil => exact .cons h1 h2 .nil
  | cons h3 h4 _ ih => exact .cons h3 h4 ih
theorem drop_at {rs : List (List Nat)} {i : Nat} {r : List Nat} (h : rs[i]? = some r) : (rs.drop i).flatten = r ++ (rs.drop (i + 1)).flatten := by
  obtain ⟨hi, e⟩ := List.getElem?_eq_some_iff.mp h
  rw [List.drop_eq_getElem_cons hi, List.flatten_cons, e]
theorem flat_len {rs : List (List Nat)} {r : List Nat} (h : r ∈ rs) : r.length ≤ rs.flatten.length := List.Sublist.length_le (List.sublist_flatten_of_mem h)
theorem one_shift {n k : Nat} {x : Int} (h : x = ((n * k : Nat) : Int)) : (1 : Int) * 2 ^ x.toNat = ((2 ^ (n * k) : Nat) : Int) := by
  subst h; rw [Int.toNat_natCast]; simp
theorem pow_bits {k : Nat} : Builtin.Int.intBits ((2 ^ k : Nat) : Int) = k + 1 := by
  unfold Builtin.Int.intBits
  rw [if_neg (by have := Nat.two_pow_pos k; simp only [beq_iff_eq]; omega), Int.natAbs_natCast, Nat.log2_two_pow]
set_option maxRecDepth 100000 in
set_option maxHeartbeats 8000000 in
theorem c_torn {w : World} {p : Program} {loose : List Str} {mean : ExcName → Option Value} {mg mb : Str → Option Value} {dp un : Nat} {gd : Option (List Code)} {cn : Str} {cs : Scope} {a : Addr} {ccd : Value} {cl : List (Str × Addr)} {outer : List Env} {A₀ : Around} {base h₀ : Heap} {L : Addr} {m : Str → Option Value} {news : List (Addr × Obj)} {s : Shared} {Q E : Value → Shared → Prop}
    {r : Addr} {vs : List Value} {k n : Nat} {rows : List (List Nat)} {V : Nat} {tV tn : Tok}
    (C : Cx w p loose mean mg mb cs outer A₀ base h₀ L m news s.heap) (ht : TabsOk news)
    (hl : (r, listOf vs.toArray k) ∈ news) (hv : Lists news vs rows) (hds : ∀ r ∈ rows, ∀ d ∈ r, d < 2 ^ n) (hn1 : 1 ≤ n) (hn8 : n ≤ 8) (hfl : n * rows.flatten.length ≤ 100)
    (hV0 : d2 n rows.flatten = V) (hdp : dp + 150 < recursionLimit) (hun : un + 600 < cLine)
    (hret : ∀ (h' : Heap) (tk' : Tok) (news' : List (Addr × Obj)), Fr h₀ L h' m → News h₀ L h' news' → TabsOk news' → Kp news news' → Q (.bool true) { s with heap := h', toks := tk' }) :
    wpAny (model Challenge.rw_nb0260_01.row.prog w) (ktrTop dp un gd cn cs L a ccd cl outer) (call (.ref 286) [.int (V : Int) tV, .ref r, .int (n : Int) tn]) Q E s := by
  obtain ⟨B, F, X, N, T, hk⟩ := C
  subst hV0
  refine wpAny_call ?_
  (k_dflt (refine' code_def2 ?k1 ?k2 ?k3 ?k4 ?k5 ?kA ?kF ?kK ?k6 ?k7 ?k8 ?k9 ?kB ?_ ?c2 ?c3 ?c4 ?c5; (case kA => exact rfl); (case kF => exact rfl); (case kK => assumption); (case k1 => k_asm); (case k2 => k_asm); (case k3 => k_asm); (case k4 => k_asm); (case k5 => k_asm); (case k6 => k_is); (case k7 => k_is); (case k8 => ktr_room); (case k9 => first | exact BindsTo.of_eq rfl | exact binds_K (by k_in) rfl (by k_is) rfl rfl rfl); (case c5 => decide); (case kB => exact locs2 rfl); (case c2 => exact rfl); (case c3 => exact rfl); (case c4 => exact rfl); k_whole; intro g' L' h' FG' F' N' B' X' T' l1; (try dsimp only); (try k_lift B'); (try k_fold)))
  (repeat' ((fail_if_success (with_reducible show wpAny _ _ (call (Value.ref _) _) _ _ _)); (fail_if_success (with_reducible show wpAny _ _ (binaryOp Operator.LShift _ _) _ _ _)); (fail_if_success (with_reducible show wpAny _ _ (pyIter _) _ _ _)); (fail_if_success (with_reducible show wpAny _ _ (exec (Stmt.For _ _ _ _ _) _) _ _ _)); first | (with_reducible contradiction) | (first | (k_unfold; (try dsimp only)) | walk1 | (dsimp only; walk1) | (leave1; walk_say "STEP leave1"; try dsimp only) | fail "no step")))
  refine wpAny_For ?_
  (repeat' ((fail_if_success (with_reducible show wpAny _ _ (call (Value.ref _) _) _ _ _)); (fail_if_success (with_reducible show wpAny _ _ (binaryOp Operator.LShift _ _) _ _ _)); (fail_if_success (with_reducible show wpAny _ _ (pyIter _) _ _ _)); (fail_if_success (with_reducible show wpAny _ _ (exec (Stmt.For _ _ _ _ _) _) _ _ _)); first | (with_reducible contradiction) | (first | (k_unfold; (try dsimp only)) | walk1 | (dsimp only; walk1) | (leave1; walk_say "STEP leave1"; try dsimp only) | fail "no step")))
  rename_i h2 F2 N2
  refine' iter_list (l := r) (items := vs.toArray) (k := k) (fun i m1 news1 gs => m1 (Str.ofString "width") = some (.int (n : Int) tn) ∧ (∃ t, m1 (Str.ofString "left") = some (.int ((d2 n (rows.drop i).flatten : Nat) : Int) t)) ∧ TabsOk news1 ∧ Kp news news1 ∧ gs = s.gens) F2 N2 hl ⟨rfl, ⟨_, rfl⟩, ht, Kp.refl _, rfl⟩ ?turn ?done
  case turn =>
    intro I i v m3 n3 h3 tk3 gs3 oI hv3 hJ hr3 hI hoI F3 N3
    obtain ⟨f1, ⟨t3, f2⟩, ht3, hk3, rfl⟩ := hJ
    rw [List.getElem?_toArray] at hv3
    obtain ⟨a1, xs, kx, r1, rfl, hr1, hm1, hx1⟩ := (hv.mono hk3).item hv3
    have hrm := List.mem_of_getElem? hr1
    have hrl := flat_len hrm
    have hnl : n * r1.length ≤ 100 := Nat.le_trans (Nat.mul_le_mul_left _ hrl) hfl
    have hlr : r1.length ≤ 100 := Nat.le_trans (Nat.le_mul_of_pos_left _ (by omega)) hnl
    have hsz : xs.length = r1.length ∧ r1.length ≤ 1000 := ⟨by rw [IntsAre.length hx1, List.length_map], by omega⟩
    have hdr := drop_at hr1
    have hd1 : ∀ x ∈ r1, x < 2 ^ n := hds r1 hrm
    have hdd : ∀ x ∈ (rows.drop i).flatten, x < 2 ^ n := fun x hx => by
      obtain ⟨l, hl, hx⟩ := List.mem_flatten.mp hx
      exact hds l (List.mem_of_mem_drop hl) x hx
    have hdl : (rows.drop i).flatten.length ≤ rows.flatten.length := by
      conv => rhs; rw [← List.take_append_drop i rows, List.flatten_append, List.length_append]
      omega
    have hV : d2 n (rows.drop i).flatten < 2 ^ 100 := Nat.lt_of_lt_of_le (d2_lt hdd) (Nat.pow_le_pow_right (by decide) (Nat.le_trans (Nat.mul_le_mul_left _ hdl) hfl))
    obtain ⟨hT1, hT2⟩ := torn (rest := (rows.drop (i + 1)).flatten) hd1
    rw [← hdr] at hT1 hT2
    have hI1 : Builtin.Int.intBits (1 : Int) = 1 := by decide
    (repeat' ((fail_if_success (with_reducible show wpAny _ _ (call (Value.ref _) _) _ _ _)); (fail_if_success (with_reducible show wpAny _ _ (binaryOp Operator.LShift _ _) _ _ _)); (fail_if_success (with_reducible show wpAny _ _ (pyIter _) _ _ _)); (fail_if_success (with_reducible show wpAny _ _ (exec (Stmt.For _ _ _ _ _) _) _ _ _)); first | (with_reducible contradiction) | (first | (k_unfold; (try dsimp only)) | walk1 | (dsimp only; walk1) | (leave1; walk_say "STEP leave1"; try dsimp only) | fail "no step")))
    refine lshift_int (Int.mul_nonneg (Int.natCast_nonneg _) (Int.natCast_nonneg _)) (by rw [hI1, ← Int.natCast_mul]; omega) ?_
    rw [one_shift (n := n) (k := r1.length) (by simp)]
    (repeat' ((fail_if_success (with_reducible show wpAny _ _ (call (Value.ref _) _) _ _ _)); (fail_if_success (with_reducible show wpAny _ _ (binaryOp Operator.LShift _ _) _ _ _)); (fail_if_success (with_reducible show wpAny _ _ (pyIter _) _ _ _)); (fail_if_success (with_reducible show wpAny _ _ (exec (Stmt.For _ _ _ _ _) _) _ _ _)); first | (with_reducible contradiction) | (first | (k_unfold; (try dsimp only)) | walk1 | (dsimp only; walk1) | (leave1; walk_say "STEP leave1"; try dsimp only) | fail "no step")))
    refine' c_idm (w := w) ⟨by k_asm, by k_asm, by k_asm, by k_asm, by k_asm, rfl⟩ (ht3.mono fun q hq => .tail _ hq) (Int.natCast_nonneg _) (by have := Nat.two_pow_pos (n * r1.length); omega) (by rw [pow_bits]; omega) (by rw [pow_bits]; have := bits_of_lt hV; omega) (dpl (a := 1) (b := 114) (c := 150) (by decide) hdp) (dpl (a := 3) (b := 520) (c := 600) (by decide) hun) ?hR1
    intro r6 x y n4 h4 tk4 F4 N4 e41 e42 ht4 hk4
    rw [← Int.natCast_ediv, ← Int.natCast_emod, hT1, hT2] at N4
    have hm4 := hk4 _ (.tail _ hm1) lst_noT
    have hI4 := hk4 _ (.head _) hoI.noT
    (repeat' ((fail_if_success (with_reducible show wpAny _ _ (call (Value.ref _) _) _ _ _)); (fail_if_success (with_reducible show wpAny _ _ (binaryOp Operator.LShift _ _) _ _ _)); (fail_if_success (with_reducible show wpAny _ _ (pyIter _) _ _ _)); (fail_if_success (with_reducible show wpAny _ _ (exec (Stmt.For _ _ _ _ _) _) _ _ _)); first | (with_reducible contradiction) | (first | (k_unfold; (try dsimp only)) | walk1 | (dsimp only; walk1) | (leave1; walk_say "STEP leave1"; try dsimp only) | fail "no step")))
    refine' c_d2iF (w := w) (xs := xs) (n := n) (ns := r1) ⟨by k_asm, by k_asm, by k_asm, by k_asm, by k_asm, rfl⟩ (ht4.d2i.mono fun q hq => .tail _ hq) (.tail _ hm4) hx1 rfl hlr (by omega) hd1 (dpl (a := 1) (b := 110) (c := 150) (by decide) hdp) (dpl (a := 3) (b := 500) (c := 600) (by decide) hun) ?hR2
    intro tq n5 h5 tk5 F5 N5 ht5 hk5
    rename_i h4b F4b N4b
    obtain ⟨ht5, hk5⟩ := tabs_d2i N4b (ht4.mono fun q hq => .tail _ hq) ht5 hk5
    (repeat' ((fail_if_success (with_reducible show wpAny _ _ (call (Value.ref _) _) _ _ _)); (fail_if_success (with_reducible show wpAny _ _ (binaryOp Operator.LShift _ _) _ _ _)); (fail_if_success (with_reducible show wpAny _ _ (pyIter _) _ _ _)); (fail_if_success (with_reducible show wpAny _ _ (exec (Stmt.For _ _ _ _ _) _) _ _ _)); first | (with_reducible contradiction) | (first | (k_unfold; (try dsimp only)) | walk1 | (dsimp only; walk1) | (leave1; walk_say "STEP leave1"; try dsimp only) | fail "no step")))
    have hI5 := hk5 _ (.tail _ hI4) hoI.noT
    have hk35 : ∀ q ∈ n3, ¬ isT q.2 → q ∈ off I n5 := fun q hq hn => mem_off.mpr ⟨hk5 _ (.tail _ (hk4 _ (.tail _ hq) hn)) hn, hI q hq⟩
    exact ⟨_, off I n5, _, _, _, rfl, F5, News.sub N5 (off_cover hI5), fun q hq => by rw [List.mem_singleton.mp hq]; exact hk35 _ hr3 lst_noT, off_ne, f1, ⟨_, rfl⟩, ht5.offI N5 hI5 hoI, fun q hq hn => hk35 q (hk3 q hq hn) hn, rfl⟩
  case done =>
    intro m5 n5 h5 tk5 gs5 hJ hr5 F5 N5
    obtain ⟨f1, ⟨t5, f2⟩, ht5, hk5, rfl⟩ := hJ
    rw [List.size_toArray, hv.len, List.drop_length, show d2 n ([] : List (List Nat)).flatten = 0 from rfl] at f2
    (repeat' ((fail_if_success (with_reducible show wpAny _ _ (call (Value.ref _) _) _ _ _)); (fail_if_success (with_reducible show wpAny _ _ (binaryOp Operator.LShift _ _) _ _ _)); (fail_if_success (with_reducible show wpAny _ _ (pyIter _) _ _ _)); (fail_if_success (with_reducible show wpAny _ _ (exec (Stmt.For _ _ _ _ _) _) _ _ _)); first | (with_reducible contradiction) | (first | (k_unfold; (try dsimp only)) | walk1 | (dsimp only; walk1) | (leave1; walk_say "STEP leave1"; try dsimp only) | fail "no step")))
    rename_i kF kN kT kX
    exact hret _ _ _ kF kN ht5 hk5
end Mine
end

section
open PySem PySem.W PyProof.Rows
set_option linter.unusedVariables false
namespace Mine
theorem shift_nat {x n k : Nat} {y : Int} (h : y = ((n * k : Nat) : Int)) : (x : Int) * 2 ^ y.toNat = ((x * 2 ^ (n * k) : Nat) : Int) := by
  subst h; rw [Int.toNat_natCast]; simp
theorem bits_ge {v : Nat} (h : 257 ≤ v) : 2 ≤ Builtin.Int.intBits (v : Int) := by
  unfold Builtin.Int.intBits
  rw [if_neg (by simp; omega), Int.natAbs_natCast]
  have := (Nat.le_log2 (n := v) (k := 1) (by omega)).mpr (by omega)
  omega
theorem rev_at {rs : List (List Nat)} {i : Nat} {r : List Nat} (hi : i < rs.length) (h : rs[rs.length - 1 - i]? = some r) : (rs.drop (rs.length - (i + 1))).flatten = r ++ (rs.drop (rs.length - i)).flatten := by
  have e : rs.length - (i + 1) = rs.length - 1 - i := by omega
  rw [e, drop_at h]
  congr 3
  omega
set_option maxRecDepth 100000 in
set_option maxHeartbeats 8000000 in
theorem c_divided {w : World} {p : Program} {loose : List Str} {mean : ExcName → Option Value} {mg mb : Str → Option Value} {dp un : Nat} {gd : Option (List Code)} {cn : Str} {cs : Scope} {a : Addr} {ccd : Value} {cl : List (Str × Addr)} {outer : List Env} {A₀ : Around} {base h₀ : Heap} {L : Addr} {m : Str → Option Value} {news : List (Addr × Obj)} {s : Shared} {Q E : Value → Shared → Prop}
    {r : Addr} {vs : List Value} {k n dv : Nat} {rows : List (List Nat)} {td tn : Tok}
    (C : Cx w p loose mean mg mb cs outer A₀ base h₀ L m news s.heap) (ht : TabsOk news)
    (hl : (r, listOf vs.toArray k) ∈ news) (hv : Lists news vs rows) (hds : ∀ r ∈ rows, ∀ d ∈ r, d < 2 ^ n) (hn1 : 1 ≤ n) (hn8 : n ≤ 8) (hfl : n * rows.flatten.length ≤ 100) (hdv : 257 ≤ dv) (hdv2 : dv < 2 ^ 30) (hrn : rows.length ≤ 1000)
    (hdp : dp + 150 < recursionLimit) (hun : un + 600 < cLine)
    (hret : ∀ (r : Addr) (x y : Tok) (h' : Heap) (tk' : Tok) (news' : List (Addr × Obj)), Fr h₀ L h' m → News h₀ L h' ((r, { cls := .type "tuple", data := .seq #[.int ((d2 n rows.flatten / dv : Nat) : Int) x, .int ((d2 n rows.flatten % dv : Nat) : Int) y] }) :: news') → TabsOk news' → Kp news news' → Q (.ref r) { s with heap := h', toks := tk' }) :
    wpAny (model Challenge.rw_nb0260_01.row.prog w) (ktrTop dp un gd cn cs L a ccd cl outer) (call (.ref 293) [.ref r, .int (n : Int) tn, .int (dv : Int) td]) Q E s := by
  obtain ⟨B, F, X, N, T, hk⟩ := C
  have hvl : vs.length ≤ 1000 := by rw [hv.len]; exact hrn
  refine wpAny_call ?_
  (k_dflt (refine' code_def2 ?k1 ?k2 ?k3 ?k4 ?k5 ?kA ?kF ?kK ?k6 ?k7 ?k8 ?k9 ?kB ?_ ?c2 ?c3 ?c4 ?c5; (case kA => exact rfl); (case kF => exact rfl); (case kK => assumption); (case k1 => k_asm); (case k2 => k_asm); (case k3 => k_asm); (case k4 => k_asm); (case k5 => k_asm); (case k6 => k_is); (case k7 => k_is); (case k8 => ktr_room); (case k9 => first | exact BindsTo.of_eq rfl | exact binds_K (by k_in) rfl (by k_is) rfl rfl rfl); (case c5 => decide); (case kB => exact locs2 rfl); (case c2 => exact rfl); (case c3 => exact rfl); (case c4 => exact rfl); k_whole; intro g' L' h' FG' F' N' B' X' T' l1; (try dsimp only); (try k_lift B'); (try k_fold)))
  (repeat' ((fail_if_success (with_reducible show wpAny _ _ (call (Value.ref _) _) _ _ _)); (fail_if_success (with_reducible show wpAny _ _ (binaryOp Operator.LShift _ _) _ _ _)); (fail_if_success (with_reducible show wpAny _ _ (pyIter _) _ _ _)); (fail_if_success (with_reducible show wpAny _ _ (exec (Stmt.For _ _ _ _ _) _) _ _ _)); first | (with_reducible contradiction) | (first | (k_unfold; (try dsimp only)) | walk1 | (dsimp only; walk1) | (leave1; walk_say "STEP leave1"; try dsimp only) | fail "no step")))
  refine wpAny_For ?_
  (repeat' ((fail_if_success (with_reducible show wpAny _ _ (call (Value.ref _) _) _ _ _)); (fail_if_success (with_reducible show wpAny _ _ (binaryOp Operator.LShift _ _) _ _ _)); (fail_if_success (with_reducible show wpAny _ _ (pyIter _) _ _ _)); (fail_if_success (with_reducible show wpAny _ _ (exec (Stmt.For _ _ _ _ _) _) _ _ _)); first | (with_reducible contradiction) | (first | (k_unfold; (try dsimp only)) | walk1 | (dsimp only; walk1) | (leave1; walk_say "STEP leave1"; try dsimp only) | fail "no step")))
  rename_i D h2 F2 N2 lD
  have hoff : off D ((D, revObj r ((vs.length : Int) - 1)) :: news) = news := off_self fun q hq => Nat.ne_of_lt (lD q hq)
  refine' iter_rev (l := r) (items := vs) (k := k) (D := D) (fun i m1 news1 gs => m1 (Str.ofString "width") = some (.int (n : Int) tn) ∧ m1 (Str.ofString "divisor") = some (.int (dv : Int) td) ∧ (∃ t, m1 (Str.ofString "quotient") = some (.int ((d2 n (rows.drop (rows.length - i)).flatten / dv : Nat) : Int) t)) ∧ (∃ t, m1 (Str.ofString "rest") = some (.int ((d2 n (rows.drop (rows.length - i)).flatten % dv : Nat) : Int) t)) ∧ TabsOk news1 ∧ Kp news news1 ∧ gs = s.gens) F2 N2 (.head _) (.tail _ hl) ?j0 ?turn ?done
  case j0 =>
    rw [hoff, Nat.sub_zero, List.drop_length, show d2 n ([] : List (List Nat)).flatten = 0 from rfl, Nat.zero_div, Nat.zero_mod]
    exact ⟨rfl, rfl, ⟨_, rfl⟩, ⟨_, rfl⟩, ht, Kp.refl _, rfl⟩
  case turn =>
    intro i v m3 n3 h3 tk3 gs3 oI hi hv3 hJ hr3 hI hoI F3 N3
    obtain ⟨f1, f2, ⟨t3, f3⟩, ⟨t4, f4⟩, ht3, hk3, rfl⟩ := hJ
    obtain ⟨a1, xs, kx, r1, rfl, hr1, hm1, hx1⟩ := (hv.mono hk3).item hv3
    rw [hv.len] at hi hr1
    have hrm := List.mem_of_getElem? hr1
    have hrl := flat_len hrm
    have hnl : n * r1.length ≤ 100 := Nat.le_trans (Nat.mul_le_mul_left _ hrl) hfl
    have hlr : r1.length ≤ 100 := Nat.le_trans (Nat.le_mul_of_pos_left _ (by omega)) hnl
    have hsz : xs.length = r1.length ∧ r1.length ≤ 1000 := ⟨by rw [IntsAre.length hx1, List.length_map], by omega⟩
    have hdr := rev_at hi hr1
    have hd1 : ∀ x ∈ r1, x < 2 ^ n := hds r1 hrm
    have hdd : ∀ x ∈ (rows.drop (rows.length - i)).flatten, x < 2 ^ n := fun x hx => by
      obtain ⟨l, hl, hx⟩ := List.mem_flatten.mp hx
      exact hds l (List.mem_of_mem_drop hl) x hx
    have hdl : (rows.drop (rows.length - i)).flatten.length ≤ rows.flatten.length := by
      conv => rhs; rw [← List.take_append_drop (rows.length - i) rows, List.flatten_append, List.length_append]
      omega
    have hV : d2 n (rows.drop (rows.length - i)).flatten < 2 ^ 100 := Nat.lt_of_lt_of_le (d2_lt hdd) (Nat.pow_le_pow_right (by decide) (Nat.le_trans (Nat.mul_le_mul_left _ hdl) hfl))
    have hstep := divided (n := 0) (k := n * r1.length) (x := d2 n r1) (show 0 < dv by omega) (rfl : d2 n (rows.drop (rows.length - i)).flatten / dv = _) (rfl : d2 n (rows.drop (rows.length - i)).flatten % dv = _)
    rw [← d2_append, ← hdr] at hstep
    have hqb : d2 n (rows.drop (rows.length - i)).flatten / dv < 2 ^ 100 := Nat.lt_of_le_of_lt (Nat.div_le_self _ _) hV
    have hrb : d2 n (rows.drop (rows.length - i)).flatten % dv < 2 ^ 30 := Nat.lt_trans (Nat.mod_lt _ (by omega)) hdv2
    generalize d2 n (rows.drop (rows.length - i)).flatten / dv = qv at *
    generalize d2 n (rows.drop (rows.length - i)).flatten % dv = rv at *
    have hx1b : d2 n r1 < 2 ^ (n * r1.length) := d2_lt hd1
    have hrx : rv * 2 ^ (n * r1.length) + d2 n r1 < 2 ^ (30 + n * r1.length) := by
      rw [Nat.pow_add]
      have : (rv + 1) * 2 ^ (n * r1.length) ≤ 2 ^ 30 * 2 ^ (n * r1.length) := Nat.mul_le_mul_right _ hrb
      rw [Nat.succ_mul] at this
      omega
    have hrbb := bits_of_lt hrb
    have hqbb := bits_of_lt hqb
    have hrxb := bits_of_lt hrx
    (repeat' ((fail_if_success (with_reducible show wpAny _ _ (call (Value.ref _) _) _ _ _)); (fail_if_success (with_reducible show wpAny _ _ (binaryOp Operator.LShift _ _) _ _ _)); (fail_if_success (with_reducible show wpAny _ _ (pyIter _) _ _ _)); (fail_if_success (with_reducible show wpAny _ _ (exec (Stmt.For _ _ _ _ _) _) _ _ _)); first | (with_reducible contradiction) | (first | (k_unfold; (try dsimp only)) | walk1 | (dsimp only; walk1) | (leave1; walk_say "STEP leave1"; try dsimp only) | fail "no step")))
    refine lshift_int (Int.mul_nonneg (Int.natCast_nonneg _) (Int.natCast_nonneg _)) (by rw [← Int.natCast_mul]; omega) ?_
    rw [shift_nat (n := n) (k := r1.length) (by simp)]
    (repeat' ((fail_if_success (with_reducible show wpAny _ _ (call (Value.ref _) _) _ _ _)); (fail_if_success (with_reducible show wpAny _ _ (binaryOp Operator.LShift _ _) _ _ _)); (fail_if_success (with_reducible show wpAny _ _ (pyIter _) _ _ _)); (fail_if_success (with_reducible show wpAny _ _ (exec (Stmt.For _ _ _ _ _) _) _ _ _)); first | (with_reducible contradiction) | (first | (k_unfold; (try dsimp only)) | walk1 | (dsimp only; walk1) | (leave1; walk_say "STEP leave1"; try dsimp only) | fail "no step")))
    refine' c_d2iF (w := w) (news := (D, oI) :: n3) (xs := xs) (n := n) (ns := r1) ⟨by k_asm, by k_asm, by k_asm, by k_asm, by k_asm, rfl⟩ (ht3.d2i.mono fun q hq => .tail _ hq) (.tail _ hm1) hx1 rfl hlr (by omega) hd1 (dpl (a := 1) (b := 110) (c := 150) (by decide) hdp) (dpl (a := 3) (b := 500) (c := 600) (by decide) hun) ?hR2
    intro tq n5 h5 tk5 F5 N5 ht5 hk5
    obtain ⟨ht5, hk5⟩ := tabs_d2i N3 (ht3.mono fun q hq => .tail _ hq) ht5 hk5
    (repeat' ((fail_if_success (with_reducible show wpAny _ _ (call (Value.ref _) _) _ _ _)); (fail_if_success (with_reducible show wpAny _ _ (binaryOp Operator.LShift _ _) _ _ _)); (fail_if_success (with_reducible show wpAny _ _ (pyIter _) _ _ _)); (fail_if_success (with_reducible show wpAny _ _ (exec (Stmt.For _ _ _ _ _) _) _ _ _)); first | (with_reducible contradiction) | (first | (k_unfold; (try dsimp only)) | walk1 | (dsimp only; walk1) | (leave1; walk_say "STEP leave1"; try dsimp only) | fail "no step")))
    rw [← Int.natCast_add]
    refine' c_idm (w := w) ⟨by k_asm, by k_asm, by k_asm, by k_asm, by k_asm, rfl⟩ ht5 (Int.natCast_nonneg _) (by omega) (Nat.le_trans (bits_of_lt hdv2) (by decide)) (by have := intBits_pos (b := (dv : Int)) (by omega); have := bits_ge hdv; omega) (dpl (a := 1) (b := 114) (c := 150) (by decide) hdp) (dpl (a := 3) (b := 520) (c := 600) (by decide) hun) ?hR1
    intro r6 x y n6 h6 tk6 F6 N6 e61 e62 ht6 hk6
    rw [← Int.natCast_ediv, ← Int.natCast_emod] at N6
    (repeat' ((fail_if_success (with_reducible show wpAny _ _ (call (Value.ref _) _) _ _ _)); (fail_if_success (with_reducible show wpAny _ _ (binaryOp Operator.LShift _ _) _ _ _)); (fail_if_success (with_reducible show wpAny _ _ (pyIter _) _ _ _)); (fail_if_success (with_reducible show wpAny _ _ (exec (Stmt.For _ _ _ _ _) _) _ _ _)); first | (with_reducible contradiction) | (first | (k_unfold; (try dsimp only)) | walk1 | (dsimp only; walk1) | (leave1; walk_say "STEP leave1"; try dsimp only) | fail "no step")))
    refine lshift_int (Int.mul_nonneg (Int.natCast_nonneg _) (Int.natCast_nonneg _)) (by rw [← Int.natCast_mul]; omega) ?_
    rw [shift_nat (n := n) (k := r1.length) (by simp)]
    (repeat' ((fail_if_success (with_reducible show wpAny _ _ (call (Value.ref _) _) _ _ _)); (fail_if_success (with_reducible show wpAny _ _ (binaryOp Operator.LShift _ _) _ _ _)); (fail_if_success (with_reducible show wpAny _ _ (pyIter _) _ _ _)); (fail_if_success (with_reducible show wpAny _ _ (exec (Stmt.For _ _ _ _ _) _) _ _ _)); first | (with_reducible contradiction) | (first | (k_unfold; (try dsimp only)) | walk1 | (dsimp only; walk1) | (leave1; walk_say "STEP leave1"; try dsimp only) | fail "no step")))
    rename_i h9 F9 N9
    have hI6 := hk6 _ (hk5 _ (.head _) hoI.noT) hoI.noT
    have N9' : News g' L' h9 n6 := fun q hq => N9 q (.tail _ hq)
    have hk36 : ∀ q ∈ n3, ¬ isT q.2 → q ∈ off D n6 := fun q hq hn => mem_off.mpr ⟨hk6 _ (hk5 _ (.tail _ hq) hn) hn, hI q hq⟩
    exact ⟨_, off D n6, _, _, _, rfl, F9, News.sub N9' (off_cover hI6), fun q hq => by rw [List.mem_singleton.mp hq]; exact hk36 _ hr3 lst_noT, off_ne, f1, f2, ⟨_, by rw [← hstep.1, Int.natCast_add]; rfl⟩, ⟨_, by rw [← hstep.2]; rfl⟩, ht6.offI N9' hI6 hoI, fun q hq hn => hk36 q (hk3 q hq hn) hn, rfl⟩
  case done =>
    intro m5 n5 h5 tk5 gs5 hJ hr5 F5 N5
    obtain ⟨f1, f2, ⟨t3, f3⟩, ⟨t4, f4⟩, ht5, hk5, rfl⟩ := hJ
    rw [hv.len, Nat.sub_self, List.drop_zero] at f3 f4
    (repeat' ((fail_if_success (with_reducible show wpAny _ _ (call (Value.ref _) _) _ _ _)); (fail_if_success (with_reducible show wpAny _ _ (binaryOp Operator.LShift _ _) _ _ _)); (fail_if_success (with_reducible show wpAny _ _ (pyIter _) _ _ _)); (fail_if_success (with_reducible show wpAny _ _ (exec (Stmt.For _ _ _ _ _) _) _ _ _)); first | (with_reducible contradiction) | (first | (k_unfold; (try dsimp only)) | walk1 | (dsimp only; walk1) | (leave1; walk_say "STEP leave1"; try dsimp only) | fail "no step")))
    rename_i lD kF kN kT kX
    exact hret _ _ _ _ _ _ kF kN ht5 hk5
end Mine
end

section
open PySem PySem.W PyProof.Rows
set_option linter.unusedVariables false
namespace Mine
theorem tupK_noT {xs : Array Value} {k : Nat} : ¬ isT (tupK xs k) := notT nofun
/-- three places set aside -/
def off3 (I C D : Addr) (n : List (Addr × Obj)) : List (Addr × Obj) := off I (off C (off D n))
theorem mem_off3 {I C D : Addr} {n : List (Addr × Obj)} {q : Addr × Obj} (h : q ∈ n) (h1 : q.1 ≠ I ∧ q.1 ≠ C ∧ q.1 ≠ D) : q ∈ off3 I C D n := mem_off.mpr ⟨mem_off.mpr ⟨mem_off.mpr ⟨h, h1.2.2⟩, h1.2.1⟩, h1.1⟩
theorem off3_sub {I C D : Addr} {n : List (Addr × Obj)} : ∀ q ∈ off3 I C D n, q ∈ n := fun q h => off_sub q (off_sub q (off_sub q h))
theorem off3_ne {I C D : Addr} {n : List (Addr × Obj)} : ∀ q ∈ off3 I C D n, q.1 ≠ I ∧ q.1 ≠ C ∧ q.1 ≠ D := fun q h => ⟨off_ne q h, off_ne q (off_sub q h), off_ne q (off_sub q (off_sub q h))⟩
theorem off3_cover {I C D : Addr} {oI oC oD : Obj} {n : List (Addr × Obj)} (k : ∀ q ∈ [(I, oI), (C, oC), (D, oD)], q ∈ n) : ∀ q ∈ (I, oI) :: (C, oC) :: (D, oD) :: off3 I C D n, q ∈ n := fun q hq => by
  rcases List.mem_cons.mp hq with rfl | hq
  · exact k _ (.head _)
  rcases List.mem_cons.mp hq with rfl | hq
  · exact k _ (.tail _ (.head _))
  rcases List.mem_cons.mp hq with rfl | hq
  · exact k _ (.tail _ (.tail _ (.head _)))
  · exact off3_sub q hq
/-- a turn's end of a comprehension whose element has called -/
theorem turn_end {h₀ h' : Heap} {L I C D : Addr} {m : Str → Option Value} {s : Shared} {oI oC oD : Obj} {its : Array Value} {kx : Nat} {ax : Addr} {J : Value → List (Addr × Obj) → Prop} {y : Value} {tk : Tok} {nw n2 base : List (Addr × Obj)}
    (F : Fr h₀ L h' m) (N : News h₀ L h' n2) (k : ∀ q ∈ (I, oI) :: (C, oC) :: (D, oD) :: nw, q ∈ n2) (off2 : ∀ q ∈ nw, q.1 ≠ I ∧ q.1 ≠ C ∧ q.1 ≠ D) (hb : ∀ q ∈ base, q ∈ nw) (hs : (ax, listOf its kx) ∈ base) (hJ : ∀ n', (∀ q ∈ nw, q ∈ n') → (∀ q ∈ n2, q.1 ≠ I ∧ q.1 ≠ C ∧ q.1 ≠ D → q ∈ n') → J y n') :
    CmpTurn h₀ L m s I C D oI oC oD (LCg.SrcAt h₀ ax its) J y { s with heap := h', toks := tk } :=
  have kq : ∀ q ∈ nw, q ∈ off3 I C D n2 := fun q hq => mem_off3 (k q (.tail _ (.tail _ (.tail _ hq)))) (off2 q hq)
  ⟨_, _, off3 I C D n2, rfl, F, News.sub N (off3_cover fun q hq => k q (by
    rcases List.mem_cons.mp hq with rfl | hq
    · exact .head _
    rcases List.mem_cons.mp hq with rfl | hq
    · exact .tail _ (.head _)
    · rw [List.mem_singleton.mp hq]; exact .tail _ (.tail _ (.head _)))), off3_ne, .inr ⟨_, kq _ (hb _ hs), rfl, _, rfl⟩, hJ _ kq fun q h1 h2 => mem_off3 h1 h2⟩
theorem line_join (ds : List Nat) : Txt.join (Str.ofString "") (ds.map fun d => S (32 :: wd d)) = S (rowT ds) := by
  rw [S_nil, show (ds.map fun d => S (32 :: wd d)) = (ds.map fun d => 32 :: wd d).map S by rw [List.map_map]; rfl, join_S, gl_nil]
  rfl
theorem rows_line (rows : List (List Nat)) : Txt.join (Str.ofString "") (rows.map fun r => S (rowT r)) = S (rowT rows.flatten) := by
  rw [S_nil, show (rows.map fun r => S (rowT r)) = (rows.map rowT).map S by rw [List.map_map]; rfl, join_S, gl_nil, rowT_flat]
theorem full_tail {wide : Nat} : ∀ {rs : List (List Nat)} {f : Nat} {r : List Nat}, Full wide f (r :: rs) → ∀ r' ∈ rs, r' ≠ []
  | [], _, _, _, r', h => nomatch h
  | r1 :: rs, f, r, h, r', hr => by
    rcases List.mem_cons.mp hr with rfl | hr
    · obtain ⟨d, t, e, _⟩ := h.2.2.1 _ _ rfl
      rw [e]; simp
    · exact full_tail h.2.2.2 r' hr
theorem front_of {w h : Nat} {t0 tw th : Tok} {i : Nat} {v : Value} (e : (#[Value.int 0 t0, Value.int (w : Int) tw, Value.int (h : Int) th])[i]? = some v) (hw : w ≤ 1000) (hh : h ≤ 1000) : ∃ (f : Nat) (t : Tok), v = .int (f : Int) t ∧ f ≤ 1000 := by
  match i, e with
  | 0, e => exact ⟨0, t0, by simpa using e.symm, by decide⟩
  | 1, e => exact ⟨w, tw, by simpa using e.symm, hw⟩
  | 2, e => exact ⟨h, th, by simpa using e.symm, hh⟩
  | i + 3, e => simp at e
theorem off1_mem {D : Addr} : ∀ {l : List (Addr × Obj)}, LCg.Off1 D l → ∀ p ∈ l, D ≠ p.1
  | [], _, _, h => nomatch h
  | _ :: _, x, p, h => by
    rcases List.mem_cons.mp h with rfl | h
    · exact fun e => x.1 e.symm
    · exact off1_mem x.2 p h
theorem ds_len {n v : Nat} (hn3 : 3 ≤ n) (hn8 : n ≤ 8) (hv : v ≤ 2 ^ 88) : n * (i2 n v).length ≤ 100 ∧ (i2 n v).length ≤ 33 := by
  have h1 : nbits v ≤ 89 := nbits_le (Nat.lt_of_le_of_lt hv (by decide))
  rw [i2_length]
  have h2 := Nat.div_mul_le_self (nbits v + n - 1) n
  generalize (nbits v + n - 1) / n = k at h2 ⊢
  rw [Nat.mul_comm] at h2
  refine ⟨by omega, ?_⟩
  have h3 : 3 * k ≤ n * k := Nat.mul_le_mul_right _ hn3
  omega
set_option maxRecDepth 100000 in
set_option maxHeartbeats 8000000 in
theorem c_right {w : World} {p : Program} {loose : List Str} {mean : ExcName → Option Value} {mg mb : Str → Option Value} {dp un : Nat} {gd : Option (List Code)} {cn : Str} {cs : Scope} {a : Addr} {ccd : Value} {cl : List (Str × Addr)} {outer : List Env} {A₀ : Around} {base h₀ : Heap} {L : Addr} {m : Str → Option Value} {news : List (Addr × Obj)} {s : Shared} {Q E : Value → Shared → Prop}
    {v n wide head dv : Nat} {tv tn tw th td : Tok}
    (C : Cx w p loose mean mg mb cs outer A₀ base h₀ L m news s.heap) (ht : TabsOk news) (hFd : TabF 205 155 4 ((Str.ofString "_digits2int" ++ ".<locals>.") ++ "inner") news) (hC1 : CodeHd h₀ 144 140) (hC2 : CodeHd h₀ 151 147) (G : AllBare s.gens)
    (hv1 : 1 ≤ v) (hv2 : v ≤ 2 ^ 88) (hn3 : 3 ≤ n) (hn8 : n ≤ 8) (hw : wide ≤ 1000) (hh : head ≤ 1000) (hdv : 257 ≤ dv) (hdv2 : dv < 2 ^ 30)
    (hdp : dp + 200 < recursionLimit) (hun : un + 800 < cLine)
    (hret : ∀ (h' : Heap) (tk' : Tok) (news' : List (Addr × Obj)) (gs : Array GenState), Fr h₀ L h' m → News h₀ L h' news' → TabsOk news' → AllBare gs → Q (.bool true) ⟨h', gs, s.drawn, tk', s.os⟩) :
    wpAny (model Challenge.rw_nb0260_01.row.prog w) (ktrTop dp un gd cn cs L a ccd cl outer) (call (.ref 298) [.int (v : Int) tv, .int (n : Int) tn, .int (wide : Int) tw, .int (head : Int) th, .int (dv : Int) td]) Q E s := by
  obtain ⟨B, F, X, N, T, hk⟩ := C
  obtain ⟨hl1, hl2⟩ := ds_len hn3 hn8 hv2
  obtain ⟨l0, d0, hlast, hd0⟩ := i2_last (n := n) (a := v) (by omega) hv1
  have hdsn : ∀ d ∈ i2 n v, d < 2 ^ n := fun d hd => i2_lt hd
  have hds8 : ∀ d ∈ i2 n v, d < 2 ^ 8 := fun d hd => Nat.lt_of_lt_of_le (i2_lt hd) (Nat.pow_le_pow_right (by decide) hn8)
  have hsum : d2 n (i2 n v) = v := d2_i2 (by omega)
  have hvb : Builtin.Int.intBits ((v : Nat) : Int) ≤ 89 := bits_of_lt (Nat.lt_of_le_of_lt hv2 (by decide))
  refine wpAny_call ?_
  (k_dflt (refine' code_def2 ?k1 ?k2 ?k3 ?k4 ?k5 ?kA ?kF ?kK ?k6 ?k7 ?k8 ?k9 ?kB ?_ ?c2 ?c3 ?c4 ?c5; (case kA => exact rfl); (case kF => exact rfl); (case kK => assumption); (case k1 => k_asm); (case k2 => k_asm); (case k3 => k_asm); (case k4 => k_asm); (case k5 => k_asm); (case k6 => k_is); (case k7 => k_is); (case k8 => ktr_room); (case k9 => first | exact BindsTo.of_eq rfl | exact binds_K (by k_in) rfl (by k_is) rfl rfl rfl); (case c5 => decide); (case kB => exact locs2 rfl); (case c2 => exact rfl); (case c3 => exact rfl); (case c4 => exact rfl); k_whole; intro g' L' h' FG' F' N' B' X' T' l1; (try dsimp only); (try k_lift B'); (try k_fold)))
  (repeat' ((fail_if_success (with_reducible show wpAny _ _ (call (Value.ref _) _) _ _ _)); (fail_if_success (with_reducible show wpAny _ _ (eval (Expr.ListComp _ _ _ _) _) _ _ _)); (fail_if_success (with_reducible show wpAny _ _ (call (Value.builtin "str.join") _) _ _ _)); (fail_if_success (with_reducible show wpAny _ _ (call (Value.builtin "str.split") _) _ _ _)); (fail_if_success (with_reducible show wpAny _ _ (subscriptTail _ (Expr.Slice _ _ _ _) _ _) _ _ _)); (fail_if_success (with_reducible show LCg.CompSrc _ _ _ _ _ _ _ _ _ _ _ _ _ _)); (fail_if_success (with_reducible show CmpTurn _ _ _ _ _ _ _ _ _ _ _ _ _ _)); (fail_if_success (with_reducible show wpAny _ _ (exec (Stmt.Assign _ (Expr.ListComp _ _ _ _) _) _) _ _ _)); (fail_if_success (with_reducible show wpAny _ _ (pyIter _) _ _ _)); (fail_if_success (with_reducible show wpAny _ _ (exec (Stmt.For _ _ _ _ _) _) _ _ _)); first | (with_reducible contradiction) | (first | (k_unfold; (try dsimp only)) | walk1 | (dsimp only; walk1) | (leave1; walk_say "STEP leave1"; try dsimp only) | fail "no step")))
  (k_dflt (refine LCg.Assign_ListComp_U (F₀ := by k_asm) (by rfl) (by with_unfolding_all rfl) (by rfl) (by decide) (by rfl) (by decide) (by rfl) (by rfl) (by rfl) ?_))
  (repeat' ((fail_if_success (with_reducible show wpAny _ _ (call (Value.ref _) _) _ _ _)); (fail_if_success (with_reducible show wpAny _ _ (eval (Expr.ListComp _ _ _ _) _) _ _ _)); (fail_if_success (with_reducible show wpAny _ _ (call (Value.builtin "str.join") _) _ _ _)); (fail_if_success (with_reducible show wpAny _ _ (call (Value.builtin "str.split") _) _ _ _)); (fail_if_success (with_reducible show wpAny _ _ (subscriptTail _ (Expr.Slice _ _ _ _) _ _) _ _ _)); (fail_if_success (with_reducible show LCg.CompSrc _ _ _ _ _ _ _ _ _ _ _ _ _ _)); (fail_if_success (with_reducible show CmpTurn _ _ _ _ _ _ _ _ _ _ _ _ _ _)); (fail_if_success (with_reducible show wpAny _ _ (exec (Stmt.Assign _ (Expr.ListComp _ _ _ _) _) _) _ _ _)); (fail_if_success (with_reducible show wpAny _ _ (pyIter _) _ _ _)); (fail_if_success (with_reducible show wpAny _ _ (exec (Stmt.For _ _ _ _ _) _) _ _ _)); first | (with_reducible contradiction) | (first | (k_unfold; (try dsimp only)) | walk1 | (dsimp only; walk1) | (leave1; walk_say "STEP leave1"; try dsimp only) | fail "no step")))
  refine' c_i2dF (w := w) (n := n) ⟨by k_asm, by k_asm, by k_asm, by k_asm, by k_asm, rfl⟩ ht.i2d (Int.natCast_nonneg _) (by omega) (by omega) (by omega) (dpl (a := 1) (b := 110) (c := 200) (by decide) hdp) (dpl (a := 3) (b := 500) (c := 800) (by decide) hun) ?hR1
  intro r xs kk n1 h1 tk1 F1 N1 hi1 hne1 lr hf1 hk1
  obtain ⟨ht1, hk1'⟩ := tabs_i2d N' ht hf1 hk1
  rw [Int.toNat_natCast] at hi1
  (repeat' ((fail_if_success (with_reducible show wpAny _ _ (call (Value.ref _) _) _ _ _)); (fail_if_success (with_reducible show wpAny _ _ (eval (Expr.ListComp _ _ _ _) _) _ _ _)); (fail_if_success (with_reducible show wpAny _ _ (call (Value.builtin "str.join") _) _ _ _)); (fail_if_success (with_reducible show wpAny _ _ (call (Value.builtin "str.split") _) _ _ _)); (fail_if_success (with_reducible show wpAny _ _ (subscriptTail _ (Expr.Slice _ _ _ _) _ _) _ _ _)); (fail_if_success (with_reducible show LCg.CompSrc _ _ _ _ _ _ _ _ _ _ _ _ _ _)); (fail_if_success (with_reducible show CmpTurn _ _ _ _ _ _ _ _ _ _ _ _ _ _)); (fail_if_success (with_reducible show wpAny _ _ (exec (Stmt.Assign _ (Expr.ListComp _ _ _ _) _) _) _ _ _)); (fail_if_success (with_reducible show wpAny _ _ (pyIter _) _ _ _)); (fail_if_success (with_reducible show wpAny _ _ (exec (Stmt.For _ _ _ _ _) _) _ _ _)); first | (with_reducible contradiction) | (first | (k_unfold; (try dsimp only)) | walk1 | (dsimp only; walk1) | (leave1; walk_say "STEP leave1"; try dsimp only) | fail "no step")))
  have hxl : xs.length = (i2 n v).length := by rw [IntsAre.length hi1, List.length_map]
  refine' LCg.CompSrc.ledger (its := xs.toArray) (k := kk) rfl (by k_asm) (by k_asm) (.head _) ?hsz ?_
  case hsz => rw [List.size_toArray, hxl]; exact Nat.le_trans hl2 (by decide)
  intro g2
  refine comp_rest (n := xs.toArray.size) (fun i ys nw => (∀ q ∈ (r, listOf xs.toArray kk) :: n1, q ∈ nw) ∧ StrsAre ys (((i2 n v).take i).map fun d => S (wd d))) ?turn ?done _ 0 [] _ (Nat.zero_add _) ⟨fun q hq => hq, .nil⟩
  case turn =>
    rintro i v1 ys nw I oI C oC D m2 h2 tk2 hi hv9 ⟨hb, hys⟩ hN hx F2 N2 off2 ne1 ne2 ne3
    rw [List.getElem?_toArray] at hv9
    obtain ⟨x, tx, hx', rfl⟩ := IntsAre.at' hi1 hv9
    (repeat' ((fail_if_success (with_reducible show wpAny _ _ (call (Value.ref _) _) _ _ _)); (fail_if_success (with_reducible show wpAny _ _ (eval (Expr.ListComp _ _ _ _) _) _ _ _)); (fail_if_success (with_reducible show wpAny _ _ (call (Value.builtin "str.join") _) _ _ _)); (fail_if_success (with_reducible show wpAny _ _ (call (Value.builtin "str.split") _) _ _ _)); (fail_if_success (with_reducible show wpAny _ _ (subscriptTail _ (Expr.Slice _ _ _ _) _ _) _ _ _)); (fail_if_success (with_reducible show LCg.CompSrc _ _ _ _ _ _ _ _ _ _ _ _ _ _)); (fail_if_success (with_reducible show CmpTurn _ _ _ _ _ _ _ _ _ _ _ _ _ _)); (fail_if_success (with_reducible show wpAny _ _ (exec (Stmt.Assign _ (Expr.ListComp _ _ _ _) _) _) _ _ _)); (fail_if_success (with_reducible show wpAny _ _ (pyIter _) _ _ _)); (fail_if_success (with_reducible show wpAny _ _ (exec (Stmt.For _ _ _ _ _) _) _ _ _)); first | (with_reducible contradiction) | (first | (k_unfold; (try dsimp only)) | walk1 | (dsimp only; walk1) | (leave1; walk_say "STEP leave1"; try dsimp only) | fail "no step")))
    refine' c_word (w := w) (news := (I, oI) :: (C, oC) :: (D, LCg.lst ys) :: nw) ⟨by k_asm, by k_asm, by k_asm, by k_asm, by k_asm, rfl⟩ (hf1.mono fun q hq => .tail _ (.tail _ (.tail _ (hb q (.tail _ hq))))) (hds8 _ (List.mem_of_getElem? hx')) (dpl (a := 1) (b := 114) (c := 200) (by decide) hdp) (dpl (a := 3) (b := 520) (c := 800) (by decide) hun) ?hRw
    intro tw9 n2 h3 tk3 F3 N3 k3
    (repeat' ((fail_if_success (with_reducible show wpAny _ _ (call (Value.ref _) _) _ _ _)); (fail_if_success (with_reducible show wpAny _ _ (eval (Expr.ListComp _ _ _ _) _) _ _ _)); (fail_if_success (with_reducible show wpAny _ _ (call (Value.builtin "str.join") _) _ _ _)); (fail_if_success (with_reducible show wpAny _ _ (call (Value.builtin "str.split") _) _ _ _)); (fail_if_success (with_reducible show wpAny _ _ (subscriptTail _ (Expr.Slice _ _ _ _) _ _) _ _ _)); (fail_if_success (with_reducible show LCg.CompSrc _ _ _ _ _ _ _ _ _ _ _ _ _ _)); (fail_if_success (with_reducible show CmpTurn _ _ _ _ _ _ _ _ _ _ _ _ _ _)); (fail_if_success (with_reducible show wpAny _ _ (exec (Stmt.Assign _ (Expr.ListComp _ _ _ _) _) _) _ _ _)); (fail_if_success (with_reducible show wpAny _ _ (pyIter _) _ _ _)); (fail_if_success (with_reducible show wpAny _ _ (exec (Stmt.For _ _ _ _ _) _) _ _ _)); first | (with_reducible contradiction) | (first | (k_unfold; (try dsimp only)) | walk1 | (dsimp only; walk1) | (leave1; walk_say "STEP leave1"; try dsimp only) | fail "no step")))
    refine turn_end F3 N3 k3 off2 hb (.head _) fun n' kn _ => ⟨fun q hq => kn q (hb q hq), ?_⟩
    rw [take_snoc hx', List.map_append]
    exact Mine.StrsAre.snoc hys
  case done =>
    rintro ys nw ⟨hb, hys⟩
    intro D h3 tk3 F3 N3 o3
    rw [List.size_toArray, hxl, List.take_length] at hys
    (repeat' ((fail_if_success (with_reducible show wpAny _ _ (call (Value.ref _) _) _ _ _)); (fail_if_success (with_reducible show wpAny _ _ (eval (Expr.ListComp _ _ _ _) _) _ _ _)); (fail_if_success (with_reducible show wpAny _ _ (call (Value.builtin "str.join") _) _ _ _)); (fail_if_success (with_reducible show wpAny _ _ (call (Value.builtin "str.split") _) _ _ _)); (fail_if_success (with_reducible show wpAny _ _ (subscriptTail _ (Expr.Slice _ _ _ _) _ _) _ _ _)); (fail_if_success (with_reducible show LCg.CompSrc _ _ _ _ _ _ _ _ _ _ _ _ _ _)); (fail_if_success (with_reducible show CmpTurn _ _ _ _ _ _ _ _ _ _ _ _ _ _)); (fail_if_success (with_reducible show wpAny _ _ (exec (Stmt.Assign _ (Expr.ListComp _ _ _ _) _) _) _ _ _)); (fail_if_success (with_reducible show wpAny _ _ (pyIter _) _ _ _)); (fail_if_success (with_reducible show wpAny _ _ (exec (Stmt.For _ _ _ _ _) _) _ _ _)); first | (with_reducible contradiction) | (first | (k_unfold; (try dsimp only)) | walk1 | (dsimp only; walk1) | (leave1; walk_say "STEP leave1"; try dsimp only) | fail "no step")))
    k_dflt (refine LCg.ListComp_U (F₀ := by k_asm) (by rfl) (by decide) (by rfl) (by decide) (by rfl) ?_)
    (repeat' ((fail_if_success (with_reducible show wpAny _ _ (call (Value.ref _) _) _ _ _)); (fail_if_success (with_reducible show wpAny _ _ (eval (Expr.ListComp _ _ _ _) _) _ _ _)); (fail_if_success (with_reducible show wpAny _ _ (call (Value.builtin "str.join") _) _ _ _)); (fail_if_success (with_reducible show wpAny _ _ (call (Value.builtin "str.split") _) _ _ _)); (fail_if_success (with_reducible show wpAny _ _ (subscriptTail _ (Expr.Slice _ _ _ _) _ _) _ _ _)); (fail_if_success (with_reducible show LCg.CompSrc _ _ _ _ _ _ _ _ _ _ _ _ _ _)); (fail_if_success (with_reducible show CmpTurn _ _ _ _ _ _ _ _ _ _ _ _ _ _)); (fail_if_success (with_reducible show wpAny _ _ (exec (Stmt.Assign _ (Expr.ListComp _ _ _ _) _) _) _ _ _)); (fail_if_success (with_reducible show wpAny _ _ (pyIter _) _ _ _)); (fail_if_success (with_reducible show wpAny _ _ (exec (Stmt.For _ _ _ _ _) _) _ _ _)); first | (with_reducible contradiction) | (first | (k_unfold; (try dsimp only)) | walk1 | (dsimp only; walk1) | (leave1; walk_say "STEP leave1"; try dsimp only) | fail "no step")))
    have hyl : ys.length = (i2 n v).length := by rw [StrsAre.length hys, List.length_map]
    refine' LCg.CompSrc.ledger (its := ys.toArray) (k := ys.length) rfl (by k_asm) (by k_asm) (.head _) ?hsz2 ?_
    case hsz2 => rw [List.size_toArray, hyl]; exact Nat.le_trans hl2 (by decide)
    intro g3
    refine comp_rest (n := ys.toArray.size) (fun i zs nw2 => nw2 = (D, LCg.lst ys) :: nw ∧ StrsAre zs (((i2 n v).take i).map fun d => S (32 :: wd d))) ?turn2 ?done2 _ 0 [] _ (Nat.zero_add _) ⟨rfl, .nil⟩
    case turn2 =>
      rintro i v1 zs nw2 I oI C oC D2 m2 h2 tk2 hi hv9 ⟨rfl, hzs⟩ hN hx F2 N2 off2 ne1 ne2 ne3
      rw [List.getElem?_toArray] at hv9
      obtain ⟨y, ty, rfl, hy⟩ := StrsAre.item hys i v1 hv9
      rw [List.getElem?_map] at hy
      obtain ⟨d, hd, rfl⟩ := Option.map_eq_some_iff.mp hy
      have hwl : (S (wd d)).length ≤ 3 := by rw [S_len]; exact wd_len (hds8 _ (List.mem_of_getElem? hd))
      (repeat' ((fail_if_success (with_reducible show wpAny _ _ (call (Value.ref _) _) _ _ _)); (fail_if_success (with_reducible show wpAny _ _ (eval (Expr.ListComp _ _ _ _) _) _ _ _)); (fail_if_success (with_reducible show wpAny _ _ (call (Value.builtin "str.join") _) _ _ _)); (fail_if_success (with_reducible show wpAny _ _ (call (Value.builtin "str.split") _) _ _ _)); (fail_if_success (with_reducible show wpAny _ _ (subscriptTail _ (Expr.Slice _ _ _ _) _ _) _ _ _)); (fail_if_success (with_reducible show LCg.CompSrc _ _ _ _ _ _ _ _ _ _ _ _ _ _)); (fail_if_success (with_reducible show CmpTurn _ _ _ _ _ _ _ _ _ _ _ _ _ _)); (fail_if_success (with_reducible show wpAny _ _ (exec (Stmt.Assign _ (Expr.ListComp _ _ _ _) _) _) _ _ _)); (fail_if_success (with_reducible show wpAny _ _ (pyIter _) _ _ _)); (fail_if_success (with_reducible show wpAny _ _ (exec (Stmt.For _ _ _ _ _) _) _ _ _)); first | (with_reducible contradiction) | (first | (k_unfold; (try dsimp only)) | walk1 | (dsimp only; walk1) | (leave1; walk_say "STEP leave1"; try dsimp only) | fail "no step")))
      rw [show Str.ofString " " ++ S (wd d) = S (32 :: wd d) by rw [blank_S, S_append]; rfl]
      refine ⟨_, _, _, rfl, F2, N2, off2, .inr ⟨_, .head _, rfl, _, rfl⟩, rfl, ?_⟩
      rw [take_snoc hd, List.map_append]
      exact Mine.StrsAre.snoc hzs
    case done2 =>
      rintro zs nw2 ⟨rfl, hzs⟩
      intro D2 h4 tk4 F4 N4 o4
      rw [List.size_toArray, hyl, List.take_length] at hzs
      (repeat' ((fail_if_success (with_reducible show wpAny _ _ (call (Value.ref _) _) _ _ _)); (fail_if_success (with_reducible show wpAny _ _ (eval (Expr.ListComp _ _ _ _) _) _ _ _)); (fail_if_success (with_reducible show wpAny _ _ (call (Value.builtin "str.join") _) _ _ _)); (fail_if_success (with_reducible show wpAny _ _ (call (Value.builtin "str.split") _) _ _ _)); (fail_if_success (with_reducible show wpAny _ _ (subscriptTail _ (Expr.Slice _ _ _ _) _ _) _ _ _)); (fail_if_success (with_reducible show LCg.CompSrc _ _ _ _ _ _ _ _ _ _ _ _ _ _)); (fail_if_success (with_reducible show CmpTurn _ _ _ _ _ _ _ _ _ _ _ _ _ _)); (fail_if_success (with_reducible show wpAny _ _ (exec (Stmt.Assign _ (Expr.ListComp _ _ _ _) _) _) _ _ _)); (fail_if_success (with_reducible show wpAny _ _ (pyIter _) _ _ _)); (fail_if_success (with_reducible show wpAny _ _ (exec (Stmt.For _ _ _ _ _) _) _ _ _)); first | (with_reducible contradiction) | (first | (k_unfold; (try dsimp only)) | walk1 | (dsimp only; walk1) | (leave1; walk_say "STEP leave1"; try dsimp only) | fail "no step")))
      refine join_any (News.isList N4 (.head _)) hzs ?hB (by rw [List.length_map]; omega) (by decide) ?_
      case hB =>
        intro y hy
        obtain ⟨d, hd, rfl⟩ := List.mem_map.mp hy
        have := wd_len (hds8 d hd)
        rw [S_len, List.length_cons]; omega
      intro t5 k5
      rw [line_join]
      (repeat' ((fail_if_success (with_reducible show wpAny _ _ (call (Value.ref _) _) _ _ _)); (fail_if_success (with_reducible show wpAny _ _ (eval (Expr.ListComp _ _ _ _) _) _ _ _)); (fail_if_success (with_reducible show wpAny _ _ (call (Value.builtin "str.join") _) _ _ _)); (fail_if_success (with_reducible show wpAny _ _ (call (Value.builtin "str.split") _) _ _ _)); (fail_if_success (with_reducible show wpAny _ _ (subscriptTail _ (Expr.Slice _ _ _ _) _ _) _ _ _)); (fail_if_success (with_reducible show LCg.CompSrc _ _ _ _ _ _ _ _ _ _ _ _ _ _)); (fail_if_success (with_reducible show CmpTurn _ _ _ _ _ _ _ _ _ _ _ _ _ _)); (fail_if_success (with_reducible show wpAny _ _ (exec (Stmt.Assign _ (Expr.ListComp _ _ _ _) _) _) _ _ _)); (fail_if_success (with_reducible show wpAny _ _ (pyIter _) _ _ _)); (fail_if_success (with_reducible show wpAny _ _ (exec (Stmt.For _ _ _ _ _) _) _ _ _)); first | (with_reducible contradiction) | (first | (k_unfold; (try dsimp only)) | walk1 | (dsimp only; walk1) | (leave1; walk_say "STEP leave1"; try dsimp only) | fail "no step")))
      refine wpAny_For ?_
      (repeat' ((fail_if_success (with_reducible show wpAny _ _ (call (Value.ref _) _) _ _ _)); (fail_if_success (with_reducible show wpAny _ _ (eval (Expr.ListComp _ _ _ _) _) _ _ _)); (fail_if_success (with_reducible show wpAny _ _ (call (Value.builtin "str.join") _) _ _ _)); (fail_if_success (with_reducible show wpAny _ _ (call (Value.builtin "str.split") _) _ _ _)); (fail_if_success (with_reducible show wpAny _ _ (subscriptTail _ (Expr.Slice _ _ _ _) _ _) _ _ _)); (fail_if_success (with_reducible show LCg.CompSrc _ _ _ _ _ _ _ _ _ _ _ _ _ _)); (fail_if_success (with_reducible show CmpTurn _ _ _ _ _ _ _ _ _ _ _ _ _ _)); (fail_if_success (with_reducible show wpAny _ _ (exec (Stmt.Assign _ (Expr.ListComp _ _ _ _) _) _) _ _ _)); (fail_if_success (with_reducible show wpAny _ _ (pyIter _) _ _ _)); (fail_if_success (with_reducible show wpAny _ _ (exec (Stmt.For _ _ _ _ _) _) _ _ _)); first | (with_reducible contradiction) | (first | (k_unfold; (try dsimp only)) | walk1 | (dsimp only; walk1) | (leave1; walk_say "STEP leave1"; try dsimp only) | fail "no step")))
      rename_i T hT FT NT lT
      have hnB : TabsOk ((D, LCg.lst ys) :: nw) := ht1.mono fun q hq => .tail _ (hb q (.tail _ hq))
      have hyD : StrsAre ys ((i2 n v).map fun d => S (wd d)) := hys
      refine' iter_tup (l := T) (k := 0) (fun i m1 news1 gs => m1 (Str.ofString "words") = some (.ref D) ∧ m1 (Str.ofString "line") = some (.str (S (rowT (i2 n v))) t5) ∧ m1 (Str.ofString "wide") = some (.int (wide : Int) tw) ∧ m1 (Str.ofString "number") = some (.int (v : Int) tv) ∧ m1 (Str.ofString "width") = some (.int (n : Int) tn) ∧ m1 (Str.ofString "divisor") = some (.int (dv : Int) td) ∧ AllBare gs ∧ TabsOk news1 ∧ Kp ((D, LCg.lst ys) :: nw) news1 ∧
        (0 < i → ∃ (R : Addr) (ws : List Value) (kw : Nat) (rowsL : List (List Nat)), m1 (Str.ofString "rows") = some (.ref R) ∧ (R, listOf ws.toArray kw) ∈ news1 ∧ StrsAre ws (rowsL.map fun r => S (rowT r)) ∧ rowsL.flatten = i2 n v ∧ rowsL.length ≤ (i2 n v).length + 1))
        FT NT (.head _) ⟨rfl, rfl, rfl, rfl, rfl, rfl, G, hnB.mono fun q hq => .tail _ (.tail _ (.tail _ hq)), fun q hq _ => .tail _ (.tail _ (.tail _ hq)), fun h => absurd h (Nat.lt_irrefl 0)⟩ ?turn3 ?done3
      case turn3 =>
        intro I i v1 m3 n3 h3 tk3 gs3 oI hv3 hJ hr3 hI hoI F3 N3
        obtain ⟨f1, f2, f3, f4, f5, f6, G3, t3, K3, _⟩ := hJ
        obtain ⟨fr, tf, rfl, hfr⟩ := front_of hv3 hw hh
        have hm3 := K3 _ (.head _) lst_noT
        (repeat' ((fail_if_success (with_reducible show wpAny _ _ (call (Value.ref _) _) _ _ _)); (fail_if_success (with_reducible show wpAny _ _ (eval (Expr.ListComp _ _ _ _) _) _ _ _)); (fail_if_success (with_reducible show wpAny _ _ (call (Value.builtin "str.join") _) _ _ _)); (fail_if_success (with_reducible show wpAny _ _ (call (Value.builtin "str.split") _) _ _ _)); (fail_if_success (with_reducible show wpAny _ _ (subscriptTail _ (Expr.Slice _ _ _ _) _ _) _ _ _)); (fail_if_success (with_reducible show LCg.CompSrc _ _ _ _ _ _ _ _ _ _ _ _ _ _)); (fail_if_success (with_reducible show CmpTurn _ _ _ _ _ _ _ _ _ _ _ _ _ _)); (fail_if_success (with_reducible show wpAny _ _ (exec (Stmt.Assign _ (Expr.ListComp _ _ _ _) _) _) _ _ _)); (fail_if_success (with_reducible show wpAny _ _ (pyIter _) _ _ _)); (fail_if_success (with_reducible show wpAny _ _ (exec (Stmt.For _ _ _ _ _) _) _ _ _)); first | (with_reducible contradiction) | (first | (k_unfold; (try dsimp only)) | walk1 | (dsimp only; walk1) | (leave1; walk_say "STEP leave1"; try dsimp only) | fail "no step")))
        refine' c_rows (w := w) (news := (I, oI) :: n3) ⟨by k_asm, by k_asm, by k_asm, by k_asm, by k_asm, rfl⟩ (t3.mono fun q hq => .tail _ hq) (hC1.keeps FG'.keep) (hC2.keeps FG'.keep) G3 (.tail _ hm3) hyD hds8 (by omega) hlast hd0 hfr (dpl (a := 1) (b := 40) (c := 200) (by decide) hdp) (dpl (a := 3) (b := 300) (c := 800) (by decide) hun) ?hR3
        intro R ws kw rowsL n4 h4 tk4 gs4 F4 N4 t4 G4 K4 hR4 hws hfl hFu hne4 hle4
        (repeat' ((fail_if_success (with_reducible show wpAny _ _ (call (Value.ref _) _) _ _ _)); (fail_if_success (with_reducible show wpAny _ _ (eval (Expr.ListComp _ _ _ _) _) _ _ _)); (fail_if_success (with_reducible show wpAny _ _ (call (Value.builtin "str.join") _) _ _ _)); (fail_if_success (with_reducible show wpAny _ _ (call (Value.builtin "str.split") _) _ _ _)); (fail_if_success (with_reducible show wpAny _ _ (subscriptTail _ (Expr.Slice _ _ _ _) _ _) _ _ _)); (fail_if_success (with_reducible show LCg.CompSrc _ _ _ _ _ _ _ _ _ _ _ _ _ _)); (fail_if_success (with_reducible show CmpTurn _ _ _ _ _ _ _ _ _ _ _ _ _ _)); (fail_if_success (with_reducible show wpAny _ _ (exec (Stmt.Assign _ (Expr.ListComp _ _ _ _) _) _) _ _ _)); (fail_if_success (with_reducible show wpAny _ _ (pyIter _) _ _ _)); (fail_if_success (with_reducible show wpAny _ _ (exec (Stmt.For _ _ _ _ _) _) _ _ _)); first | (with_reducible contradiction) | (first | (k_unfold; (try dsimp only)) | walk1 | (dsimp only; walk1) | (leave1; walk_say "STEP leave1"; try dsimp only) | fail "no step")))
        rename_i h5 F5 N5
        have hr8 : ∀ r ∈ rowsL, ∀ d ∈ r, d < 2 ^ 8 := fun r hr d hd => hds8 d (by rw [← hfl]; exact List.mem_flatten.mpr ⟨r, hr, hd⟩)
        have hrl : ∀ r ∈ rowsL, r.length ≤ 33 := fun r hr => by have := flat_len hr; rw [hfl] at this; omega
        refine join_any (News.isList N5 hR4) hws ?hB3 (by rw [List.length_map]; omega) (by decide) ?_
        case hB3 =>
          intro y hy
          obtain ⟨r, hr, rfl⟩ := List.mem_map.mp hy
          have h1 := rowT_len (hr8 r hr)
          have h2 := hrl r hr
          rw [S_len]; omega
        intro t6 k6
        rw [rows_line, hfl]
        have hbb : (S (rowT (i2 n v)) != S (rowT (i2 n v))) = false := by simp
        (repeat' ((fail_if_success (with_reducible show wpAny _ _ (call (Value.ref _) _) _ _ _)); (fail_if_success (with_reducible show wpAny _ _ (eval (Expr.ListComp _ _ _ _) _) _ _ _)); (fail_if_success (with_reducible show wpAny _ _ (call (Value.builtin "str.join") _) _ _ _)); (fail_if_success (with_reducible show wpAny _ _ (call (Value.builtin "str.split") _) _ _ _)); (fail_if_success (with_reducible show wpAny _ _ (subscriptTail _ (Expr.Slice _ _ _ _) _ _) _ _ _)); (fail_if_success (with_reducible show LCg.CompSrc _ _ _ _ _ _ _ _ _ _ _ _ _ _)); (fail_if_success (with_reducible show CmpTurn _ _ _ _ _ _ _ _ _ _ _ _ _ _)); (fail_if_success (with_reducible show wpAny _ _ (exec (Stmt.Assign _ (Expr.ListComp _ _ _ _) _) _) _ _ _)); (fail_if_success (with_reducible show wpAny _ _ (pyIter _) _ _ _)); (fail_if_success (with_reducible show wpAny _ _ (exec (Stmt.For _ _ _ _ _) _) _ _ _)); first | (with_reducible contradiction) | (first | (k_unfold; (try dsimp only)) | walk1 | (dsimp only; walk1) | (leave1; walk_say "STEP leave1"; try dsimp only) | fail "no step")))
        refine' c_full (w := w) ⟨by k_asm, by k_asm, by k_asm, by k_asm, by k_asm, rfl⟩ hR4 hws hr8 (by omega) (fun r hr => by have := hrl r hr; omega) hne4 hFu hfr hw (fun r rs e => full_tail (wide := wide) (f := fr) (r := r) (by rw [← e]; exact hFu)) (dpl (a := 1) (b := 40) (c := 200) (by decide) hdp) (dpl (a := 3) (b := 300) (c := 800) (by decide) hun) ?hR5
        intro h7 tk7 n7 F7 N7 k7
        (repeat' ((fail_if_success (with_reducible show wpAny _ _ (call (Value.ref _) _) _ _ _)); (fail_if_success (with_reducible show wpAny _ _ (eval (Expr.ListComp _ _ _ _) _) _ _ _)); (fail_if_success (with_reducible show wpAny _ _ (call (Value.builtin "str.join") _) _ _ _)); (fail_if_success (with_reducible show wpAny _ _ (call (Value.builtin "str.split") _) _ _ _)); (fail_if_success (with_reducible show wpAny _ _ (subscriptTail _ (Expr.Slice _ _ _ _) _ _) _ _ _)); (fail_if_success (with_reducible show LCg.CompSrc _ _ _ _ _ _ _ _ _ _ _ _ _ _)); (fail_if_success (with_reducible show CmpTurn _ _ _ _ _ _ _ _ _ _ _ _ _ _)); (fail_if_success (with_reducible show wpAny _ _ (exec (Stmt.Assign _ (Expr.ListComp _ _ _ _) _) _) _ _ _)); (fail_if_success (with_reducible show wpAny _ _ (pyIter _) _ _ _)); (fail_if_success (with_reducible show wpAny _ _ (exec (Stmt.For _ _ _ _ _) _) _ _ _)); first | (with_reducible contradiction) | (first | (k_unfold; (try dsimp only)) | walk1 | (dsimp only; walk1) | (leave1; walk_say "STEP leave1"; try dsimp only) | fail "no step")))
        have hI7 := k7 _ (K4 _ (.head _) hoI.noT)
        have kq : ∀ q ∈ n3, ¬ isT q.2 → q ∈ off I n7 := fun q hq hn => mem_off.mpr ⟨k7 _ (K4 _ (.tail _ hq) hn), hI q hq⟩
        exact ⟨_, off I n7, _, _, gs4, rfl, F7, News.sub N7 (off_cover hI7), fun q hq => by rw [List.mem_singleton.mp hq]; exact kq _ hr3 tupK_noT, off_ne, f1, f2, f3, f4, f5, f6, G4, (t4.mono k7).offI N7 hI7 hoI, fun q hq hn => kq q (K3 q hq hn) hn, fun _ => ⟨R, ws, kw, rowsL, rfl, cls_off N7 hI7 (k7 _ hR4) (by rw [hoI.1]; simp), hws, hfl, hle4⟩⟩
      case done3 =>
        intro m5 n5 h5 tk6 gs5 hJ hr5 F5 N5
        obtain ⟨f1, f2, f3, f4, f5, f6, G5, t5', K5, hx5⟩ := hJ
        obtain ⟨R, ws, kw, rowsL, f7, hR5, hws, hfl, hle5⟩ := hx5 (by simp)
        (repeat' ((fail_if_success (with_reducible show wpAny _ _ (call (Value.ref _) _) _ _ _)); (fail_if_success (with_reducible show wpAny _ _ (eval (Expr.ListComp _ _ _ _) _) _ _ _)); (fail_if_success (with_reducible show wpAny _ _ (call (Value.builtin "str.join") _) _ _ _)); (fail_if_success (with_reducible show wpAny _ _ (call (Value.builtin "str.split") _) _ _ _)); (fail_if_success (with_reducible show wpAny _ _ (subscriptTail _ (Expr.Slice _ _ _ _) _ _) _ _ _)); (fail_if_success (with_reducible show LCg.CompSrc _ _ _ _ _ _ _ _ _ _ _ _ _ _)); (fail_if_success (with_reducible show CmpTurn _ _ _ _ _ _ _ _ _ _ _ _ _ _)); (fail_if_success (with_reducible show wpAny _ _ (exec (Stmt.Assign _ (Expr.ListComp _ _ _ _) _) _) _ _ _)); (fail_if_success (with_reducible show wpAny _ _ (pyIter _) _ _ _)); (fail_if_success (with_reducible show wpAny _ _ (exec (Stmt.For _ _ _ _ _) _) _ _ _)); first | (with_reducible contradiction) | (first | (k_unfold; (try dsimp only)) | walk1 | (dsimp only; walk1) | (leave1; walk_say "STEP leave1"; try dsimp only) | fail "no step")))
        have hFd5 := ((hFd.kp hk1').mono (fun q hq => List.mem_cons_of_mem (D, LCg.lst ys) (hb q (.tail _ hq)))).kp K5
        have hr8 : ∀ r ∈ rowsL, ∀ d ∈ r, d < 2 ^ 8 := fun r hr d hd => hds8 d (by rw [← hfl]; exact List.mem_flatten.mpr ⟨r, hr, hd⟩)
        have hrn : ∀ r ∈ rowsL, ∀ d ∈ r, d < 2 ^ n := fun r hr d hd => hdsn d (by rw [← hfl]; exact List.mem_flatten.mpr ⟨r, hr, hd⟩)
        have hrl : ∀ r ∈ rowsL, r.length ≤ 33 := fun r hr => by have := flat_len hr; rw [hfl] at this; omega
        have hwl : ws.length = rowsL.length := by rw [StrsAre.length hws, List.length_map]
        (k_dflt (refine LCg.Assign_ListComp_U (F₀ := by k_asm) (by rfl) (by with_unfolding_all rfl) (by rfl) (by decide) (by rfl) (by decide) (by rfl) (by rfl) (by rfl) ?_))
        (repeat' ((fail_if_success (with_reducible show wpAny _ _ (call (Value.ref _) _) _ _ _)); (fail_if_success (with_reducible show wpAny _ _ (eval (Expr.ListComp _ _ _ _) _) _ _ _)); (fail_if_success (with_reducible show wpAny _ _ (call (Value.builtin "str.join") _) _ _ _)); (fail_if_success (with_reducible show wpAny _ _ (call (Value.builtin "str.split") _) _ _ _)); (fail_if_success (with_reducible show wpAny _ _ (subscriptTail _ (Expr.Slice _ _ _ _) _ _) _ _ _)); (fail_if_success (with_reducible show LCg.CompSrc _ _ _ _ _ _ _ _ _ _ _ _ _ _)); (fail_if_success (with_reducible show CmpTurn _ _ _ _ _ _ _ _ _ _ _ _ _ _)); (fail_if_success (with_reducible show wpAny _ _ (exec (Stmt.Assign _ (Expr.ListComp _ _ _ _) _) _) _ _ _)); (fail_if_success (with_reducible show wpAny _ _ (pyIter _) _ _ _)); (fail_if_success (with_reducible show wpAny _ _ (exec (Stmt.For _ _ _ _ _) _) _ _ _)); first | (with_reducible contradiction) | (first | (k_unfold; (try dsimp only)) | walk1 | (dsimp only; walk1) | (leave1; walk_say "STEP leave1"; try dsimp only) | fail "no step")))
        refine' LCg.CompSrc.ledger (its := ws.toArray) (k := kw) rfl (by k_asm) (by k_asm) hR5 ?hsz5 ?_
        case hsz5 => rw [List.size_toArray, hwl]; exact Nat.le_trans hle5 (Nat.le_trans (Nat.succ_le_succ hl2) (by decide))
        intro g5
        refine comp_rest (n := ws.toArray.size) (fun i zs nw2 => (∀ q ∈ n5, q ∈ nw2) ∧ Lists nw2 zs (rowsL.take i)) ?turn5 ?done5 _ 0 [] _ (Nat.zero_add _) ⟨fun q hq => hq, .nil⟩
        case turn5 =>
          rintro i v1 zs nw2 I oI C oC Dz m2 h2 tk2 hi hv9 ⟨hb5, hzs⟩ hN hx F2 N2 off2 ne1 ne2 ne3
          rw [List.getElem?_toArray] at hv9
          obtain ⟨y, ty, rfl, hy⟩ := StrsAre.item hws i v1 hv9
          rw [List.getElem?_map] at hy
          obtain ⟨ri, hri, rfl⟩ := Option.map_eq_some_iff.mp hy
          have hrm := List.mem_of_getElem? hri
          have hri8 := hr8 ri hrm
          have hlen := rowT_len hri8
          have hril := hrl ri hrm
          (repeat' ((fail_if_success (with_reducible show wpAny _ _ (call (Value.ref _) _) _ _ _)); (fail_if_success (with_reducible show wpAny _ _ (eval (Expr.ListComp _ _ _ _) _) _ _ _)); (fail_if_success (with_reducible show wpAny _ _ (call (Value.builtin "str.join") _) _ _ _)); (fail_if_success (with_reducible show wpAny _ _ (call (Value.builtin "str.split") _) _ _ _)); (fail_if_success (with_reducible show wpAny _ _ (subscriptTail _ (Expr.Slice _ _ _ _) _ _) _ _ _)); (fail_if_success (with_reducible show LCg.CompSrc _ _ _ _ _ _ _ _ _ _ _ _ _ _)); (fail_if_success (with_reducible show CmpTurn _ _ _ _ _ _ _ _ _ _ _ _ _ _)); (fail_if_success (with_reducible show wpAny _ _ (exec (Stmt.Assign _ (Expr.ListComp _ _ _ _) _) _) _ _ _)); (fail_if_success (with_reducible show wpAny _ _ (pyIter _) _ _ _)); (fail_if_success (with_reducible show wpAny _ _ (exec (Stmt.For _ _ _ _ _) _) _ _ _)); first | (with_reducible contradiction) | (first | (k_unfold; (try dsimp only)) | walk1 | (dsimp only; walk1) | (leave1; walk_say "STEP leave1"; try dsimp only) | fail "no step")))
          k_dflt (refine LCg.ListComp_U (F₀ := by k_asm) (by rfl) (by decide) (by rfl) (by decide) (by rfl) ?_)
          (repeat' ((fail_if_success (with_reducible show wpAny _ _ (call (Value.ref _) _) _ _ _)); (fail_if_success (with_reducible show wpAny _ _ (eval (Expr.ListComp _ _ _ _) _) _ _ _)); (fail_if_success (with_reducible show wpAny _ _ (call (Value.builtin "str.join") _) _ _ _)); (fail_if_success (with_reducible show wpAny _ _ (call (Value.builtin "str.split") _) _ _ _)); (fail_if_success (with_reducible show wpAny _ _ (subscriptTail _ (Expr.Slice _ _ _ _) _ _) _ _ _)); (fail_if_success (with_reducible show LCg.CompSrc _ _ _ _ _ _ _ _ _ _ _ _ _ _)); (fail_if_success (with_reducible show CmpTurn _ _ _ _ _ _ _ _ _ _ _ _ _ _)); (fail_if_success (with_reducible show wpAny _ _ (exec (Stmt.Assign _ (Expr.ListComp _ _ _ _) _) _) _ _ _)); (fail_if_success (with_reducible show wpAny _ _ (pyIter _) _ _ _)); (fail_if_success (with_reducible show wpAny _ _ (exec (Stmt.For _ _ _ _ _) _) _ _ _)); first | (with_reducible contradiction) | (first | (k_unfold; (try dsimp only)) | walk1 | (dsimp only; walk1) | (leave1; walk_say "STEP leave1"; try dsimp only) | fail "no step")))
          refine KSpl.split1 (by k_asm) (by k_asm) (by decide) ?_ ?hsz6
          case hsz6 =>
            rw [S_len]
            have : sizeLine = 16777216 := by decide
            omega
          intro D7 l7 h7 k7 e7 a7 F7 N7 lo7
          rw [blank32, row_split] at e7
          rw [e7] at a7
          generalize strValues l7 = sv at N7 a7
          cases a7 with
          | cons n0 t0 a7 =>
          rename_i vr
          have hvrl : vr.length = ri.length := by rw [StrsAre.length a7, List.length_map]
          (repeat' ((fail_if_success (with_reducible show wpAny _ _ (call (Value.ref _) _) _ _ _)); (fail_if_success (with_reducible show wpAny _ _ (eval (Expr.ListComp _ _ _ _) _) _ _ _)); (fail_if_success (with_reducible show wpAny _ _ (call (Value.builtin "str.join") _) _ _ _)); (fail_if_success (with_reducible show wpAny _ _ (call (Value.builtin "str.split") _) _ _ _)); (fail_if_success (with_reducible show wpAny _ _ (subscriptTail _ (Expr.Slice _ _ _ _) _ _) _ _ _)); (fail_if_success (with_reducible show LCg.CompSrc _ _ _ _ _ _ _ _ _ _ _ _ _ _)); (fail_if_success (with_reducible show CmpTurn _ _ _ _ _ _ _ _ _ _ _ _ _ _)); (fail_if_success (with_reducible show wpAny _ _ (exec (Stmt.Assign _ (Expr.ListComp _ _ _ _) _) _) _ _ _)); (fail_if_success (with_reducible show wpAny _ _ (pyIter _) _ _ _)); (fail_if_success (with_reducible show wpAny _ _ (exec (Stmt.For _ _ _ _ _) _) _ _ _)); first | (with_reducible contradiction) | (first | (k_unfold; (try dsimp only)) | walk1 | (dsimp only; walk1) | (leave1; walk_say "STEP leave1"; try dsimp only) | fail "no step")))
          refine kba_turn (value' := PySem.Expr.Name (PySem.Str.ofString "_") ⟨0, 0, 0, 0⟩) (fun _ => rfl) ?_
          k_dflt (refine' kms_slice_lit ?F7 ?N7 ?l7 ?p7 ?q7 ?e7 ?_ ?s7 ?t7 ?z7)
          case F7 => exact F7
          case N7 => exact N7
          case l7 => exact News.isList N7 (.head _)
          case p7 => kmk_part
          case q7 => kmk_part
          case e7 => exact pick1 _ _
          case s7 => with_unfolding_all rfl
          case t7 => kmk_pure
          case z7 => rw [List.size_toArray, List.length_cons, hvrl]; exact Nat.le_trans (Nat.succ_le_succ hril) (by decide)
          intro D8 h8 F8 N8 lo8
          (repeat' ((fail_if_success (with_reducible show wpAny _ _ (call (Value.ref _) _) _ _ _)); (fail_if_success (with_reducible show wpAny _ _ (eval (Expr.ListComp _ _ _ _) _) _ _ _)); (fail_if_success (with_reducible show wpAny _ _ (call (Value.builtin "str.join") _) _ _ _)); (fail_if_success (with_reducible show wpAny _ _ (call (Value.builtin "str.split") _) _ _ _)); (fail_if_success (with_reducible show wpAny _ _ (subscriptTail _ (Expr.Slice _ _ _ _) _ _) _ _ _)); (fail_if_success (with_reducible show LCg.CompSrc _ _ _ _ _ _ _ _ _ _ _ _ _ _)); (fail_if_success (with_reducible show CmpTurn _ _ _ _ _ _ _ _ _ _ _ _ _ _)); (fail_if_success (with_reducible show wpAny _ _ (exec (Stmt.Assign _ (Expr.ListComp _ _ _ _) _) _) _ _ _)); (fail_if_success (with_reducible show wpAny _ _ (pyIter _) _ _ _)); (fail_if_success (with_reducible show wpAny _ _ (exec (Stmt.For _ _ _ _ _) _) _ _ _)); first | (with_reducible contradiction) | (first | (k_unfold; (try dsimp only)) | walk1 | (dsimp only; walk1) | (leave1; walk_say "STEP leave1"; try dsimp only) | fail "no step")))
          refine' LCg.CompSrc.ledger (its := vr.toArray) (k := 0) rfl (by k_asm) (by k_asm) (.head _) ?hsz8 ?_
          case hsz8 => rw [List.size_toArray, hvrl]; exact Nat.le_trans hril (by decide)
          intro g8
          refine comp_rest (n := vr.toArray.size) (fun j ys2 nw3 => (∀ q ∈ (D8, listOf vr.toArray 0) :: (D7, listOf (Value.str (S []) t0 :: vr).toArray 0) :: (I, oI) :: (C, oC) :: (Dz, LCg.lst zs) :: nw2, q ∈ nw3) ∧ IntsAre ys2 ((ri.take j).map fun x : Nat => (x : Int))) ?turn8 ?done8 _ 0 [] _ (Nat.zero_add _) ⟨fun q hq => hq, .nil⟩
          case turn8 =>
            rintro j v1 ys2 nw3 I3 oI3 C3 oC3 D3 m3 h9 tk9 hj hv9 ⟨hb8, hys2⟩ hN3 hx3 F9 N9 off9 ne4 ne5 ne6
            rw [List.getElem?_toArray] at hv9
            obtain ⟨y, ty, rfl, hy⟩ := StrsAre.item a7 j v1 hv9
            rw [List.getElem?_map] at hy
            obtain ⟨d, hd, rfl⟩ := Option.map_eq_some_iff.mp hy
            (repeat' ((fail_if_success (with_reducible show wpAny _ _ (call (Value.ref _) _) _ _ _)); (fail_if_success (with_reducible show wpAny _ _ (eval (Expr.ListComp _ _ _ _) _) _ _ _)); (fail_if_success (with_reducible show wpAny _ _ (call (Value.builtin "str.join") _) _ _ _)); (fail_if_success (with_reducible show wpAny _ _ (call (Value.builtin "str.split") _) _ _ _)); (fail_if_success (with_reducible show wpAny _ _ (subscriptTail _ (Expr.Slice _ _ _ _) _ _) _ _ _)); (fail_if_success (with_reducible show LCg.CompSrc _ _ _ _ _ _ _ _ _ _ _ _ _ _)); (fail_if_success (with_reducible show CmpTurn _ _ _ _ _ _ _ _ _ _ _ _ _ _)); (fail_if_success (with_reducible show wpAny _ _ (exec (Stmt.Assign _ (Expr.ListComp _ _ _ _) _) _) _ _ _)); (fail_if_success (with_reducible show wpAny _ _ (pyIter _) _ _ _)); (fail_if_success (with_reducible show wpAny _ _ (exec (Stmt.For _ _ _ _ _) _) _ _ _)); first | (with_reducible contradiction) | (first | (k_unfold; (try dsimp only)) | walk1 | (dsimp only; walk1) | (leave1; walk_say "STEP leave1"; try dsimp only) | fail "no step")))
            refine' c_digit (w := w) (news := (I3, oI3) :: (C3, oC3) :: (D3, LCg.lst ys2) :: nw3) ⟨by k_asm, by k_asm, by k_asm, by k_asm, by k_asm, rfl⟩ (hFd5.mono fun q hq => .tail _ (.tail _ (.tail _ (hb8 q (.tail _ (.tail _ (.tail _ (.tail _ (.tail _ (hb5 q hq)))))))))) (hri8 d (List.mem_of_getElem? hd)) (dpl (a := 1) (b := 114) (c := 200) (by decide) hdp) (dpl (a := 3) (b := 520) (c := 800) (by decide) hun) ?hRd
            intro td9 n10 h10 tk10 F10 N10 k10
            (repeat' ((fail_if_success (with_reducible show wpAny _ _ (call (Value.ref _) _) _ _ _)); (fail_if_success (with_reducible show wpAny _ _ (eval (Expr.ListComp _ _ _ _) _) _ _ _)); (fail_if_success (with_reducible show wpAny _ _ (call (Value.builtin "str.join") _) _ _ _)); (fail_if_success (with_reducible show wpAny _ _ (call (Value.builtin "str.split") _) _ _ _)); (fail_if_success (with_reducible show wpAny _ _ (subscriptTail _ (Expr.Slice _ _ _ _) _ _) _ _ _)); (fail_if_success (with_reducible show LCg.CompSrc _ _ _ _ _ _ _ _ _ _ _ _ _ _)); (fail_if_success (with_reducible show CmpTurn _ _ _ _ _ _ _ _ _ _ _ _ _ _)); (fail_if_success (with_reducible show wpAny _ _ (exec (Stmt.Assign _ (Expr.ListComp _ _ _ _) _) _) _ _ _)); (fail_if_success (with_reducible show wpAny _ _ (pyIter _) _ _ _)); (fail_if_success (with_reducible show wpAny _ _ (exec (Stmt.For _ _ _ _ _) _) _ _ _)); first | (with_reducible contradiction) | (first | (k_unfold; (try dsimp only)) | walk1 | (dsimp only; walk1) | (leave1; walk_say "STEP leave1"; try dsimp only) | fail "no step")))
            refine turn_end F10 N10 k10 off9 hb8 (.head _) fun n' kn _ => ⟨fun q hq => kn q (hb8 q hq), ?_⟩
            rw [take_snoc hd, List.map_append]
            exact Mine.IntsAre.snoc hys2
          case done8 =>
            rintro ys2 nw3 ⟨hb8, hys2⟩
            intro D9 h9 tk9 F9 N9 o9
            rw [List.size_toArray, hvrl, List.take_length] at hys2
            (repeat' ((fail_if_success (with_reducible show wpAny _ _ (call (Value.ref _) _) _ _ _)); (fail_if_success (with_reducible show wpAny _ _ (eval (Expr.ListComp _ _ _ _) _) _ _ _)); (fail_if_success (with_reducible show wpAny _ _ (call (Value.builtin "str.join") _) _ _ _)); (fail_if_success (with_reducible show wpAny _ _ (call (Value.builtin "str.split") _) _ _ _)); (fail_if_success (with_reducible show wpAny _ _ (subscriptTail _ (Expr.Slice _ _ _ _) _ _) _ _ _)); (fail_if_success (with_reducible show LCg.CompSrc _ _ _ _ _ _ _ _ _ _ _ _ _ _)); (fail_if_success (with_reducible show CmpTurn _ _ _ _ _ _ _ _ _ _ _ _ _ _)); (fail_if_success (with_reducible show wpAny _ _ (exec (Stmt.Assign _ (Expr.ListComp _ _ _ _) _) _) _ _ _)); (fail_if_success (with_reducible show wpAny _ _ (pyIter _) _ _ _)); (fail_if_success (with_reducible show wpAny _ _ (exec (Stmt.For _ _ _ _ _) _) _ _ _)); first | (with_reducible contradiction) | (first | (k_unfold; (try dsimp only)) | walk1 | (dsimp only; walk1) | (leave1; walk_say "STEP leave1"; try dsimp only) | fail "no step")))
            refine turn_end (base := n5) (nw := nw2) F9 N9 (fun q hq => .tail _ (hb8 q (.tail _ (.tail _ hq)))) off2 hb5 hR5 fun n' kn kn2 => ⟨fun q hq => kn q (hb5 q hq), ?_⟩
            rw [take_snoc hri]
            have o9m := off1_mem o9
            exact (hzs.mono fun q hq _ => kn q hq).snoc (kn2 _ (.head _) ⟨o9m _ (hb8 _ (.tail _ (.tail _ (.head _)))), o9m _ (hb8 _ (.tail _ (.tail _ (.tail _ (.head _))))), o9m _ (hb8 _ (.tail _ (.tail _ (.tail _ (.tail _ (.head _))))))⟩) hys2
        case done5 =>
          rintro zs nw2 ⟨hb5, hzs⟩
          intro Rd h6 tk9 F6 N6 o6
          rw [List.size_toArray, hwl, List.take_length] at hzs
          (repeat' ((fail_if_success (with_reducible show wpAny _ _ (call (Value.ref _) _) _ _ _)); (fail_if_success (with_reducible show wpAny _ _ (eval (Expr.ListComp _ _ _ _) _) _ _ _)); (fail_if_success (with_reducible show wpAny _ _ (call (Value.builtin "str.join") _) _ _ _)); (fail_if_success (with_reducible show wpAny _ _ (call (Value.builtin "str.split") _) _ _ _)); (fail_if_success (with_reducible show wpAny _ _ (subscriptTail _ (Expr.Slice _ _ _ _) _ _) _ _ _)); (fail_if_success (with_reducible show LCg.CompSrc _ _ _ _ _ _ _ _ _ _ _ _ _ _)); (fail_if_success (with_reducible show CmpTurn _ _ _ _ _ _ _ _ _ _ _ _ _ _)); (fail_if_success (with_reducible show wpAny _ _ (exec (Stmt.Assign _ (Expr.ListComp _ _ _ _) _) _) _ _ _)); (fail_if_success (with_reducible show wpAny _ _ (pyIter _) _ _ _)); (fail_if_success (with_reducible show wpAny _ _ (exec (Stmt.For _ _ _ _ _) _) _ _ _)); first | (with_reducible contradiction) | (first | (k_unfold; (try dsimp only)) | walk1 | (dsimp only; walk1) | (leave1; walk_say "STEP leave1"; try dsimp only) | fail "no step")))
          refine' c_torn (w := w) (rows := rowsL) (V := v) ⟨by k_asm, by k_asm, by k_asm, by k_asm, by k_asm, rfl⟩ (t5'.mono fun q hq => .tail _ (hb5 q hq)) (.head _) (hzs.mono fun q hq _ => .tail _ hq) hrn (by omega) hn8 (by rw [hfl]; exact hl1) (by rw [hfl, hsum]) (dpl (a := 1) (b := 150) (c := 200) (by decide) hdp) (dpl (a := 3) (b := 600) (c := 800) (by decide) hun) ?hR6
          intro h7 tk7 n7 F7 N7 t7 k7
          (repeat' ((fail_if_success (with_reducible show wpAny _ _ (call (Value.ref _) _) _ _ _)); (fail_if_success (with_reducible show wpAny _ _ (eval (Expr.ListComp _ _ _ _) _) _ _ _)); (fail_if_success (with_reducible show wpAny _ _ (call (Value.builtin "str.join") _) _ _ _)); (fail_if_success (with_reducible show wpAny _ _ (call (Value.builtin "str.split") _) _ _ _)); (fail_if_success (with_reducible show wpAny _ _ (subscriptTail _ (Expr.Slice _ _ _ _) _ _) _ _ _)); (fail_if_success (with_reducible show LCg.CompSrc _ _ _ _ _ _ _ _ _ _ _ _ _ _)); (fail_if_success (with_reducible show CmpTurn _ _ _ _ _ _ _ _ _ _ _ _ _ _)); (fail_if_success (with_reducible show wpAny _ _ (exec (Stmt.Assign _ (Expr.ListComp _ _ _ _) _) _) _ _ _)); (fail_if_success (with_reducible show wpAny _ _ (pyIter _) _ _ _)); (fail_if_success (with_reducible show wpAny _ _ (exec (Stmt.For _ _ _ _ _) _) _ _ _)); first | (with_reducible contradiction) | (first | (k_unfold; (try dsimp only)) | walk1 | (dsimp only; walk1) | (leave1; walk_say "STEP leave1"; try dsimp only) | fail "no step")))
          refine' c_divided (w := w) (rows := rowsL) ⟨by k_asm, by k_asm, by k_asm, by k_asm, by k_asm, rfl⟩ t7 (k7 _ (.head _) lst_noT) (hzs.mono fun q hq hn => k7 q (.tail _ hq) hn) hrn (by omega) hn8 (by rw [hfl]; exact hl1) hdv hdv2 (by omega) (dpl (a := 1) (b := 150) (c := 200) (by decide) hdp) (dpl (a := 3) (b := 600) (c := 800) (by decide) hun) ?hR7
          intro T1 x1 y1 h8 tk8 n8 F8 N8 t8 k8
          rw [hfl, hsum] at N8
          (repeat' ((fail_if_success (with_reducible show wpAny _ _ (call (Value.ref _) _) _ _ _)); (fail_if_success (with_reducible show wpAny _ _ (eval (Expr.ListComp _ _ _ _) _) _ _ _)); (fail_if_success (with_reducible show wpAny _ _ (call (Value.builtin "str.join") _) _ _ _)); (fail_if_success (with_reducible show wpAny _ _ (call (Value.builtin "str.split") _) _ _ _)); (fail_if_success (with_reducible show wpAny _ _ (subscriptTail _ (Expr.Slice _ _ _ _) _ _) _ _ _)); (fail_if_success (with_reducible show LCg.CompSrc _ _ _ _ _ _ _ _ _ _ _ _ _ _)); (fail_if_success (with_reducible show CmpTurn _ _ _ _ _ _ _ _ _ _ _ _ _ _)); (fail_if_success (with_reducible show wpAny _ _ (exec (Stmt.Assign _ (Expr.ListComp _ _ _ _) _) _) _ _ _)); (fail_if_success (with_reducible show wpAny _ _ (pyIter _) _ _ _)); (fail_if_success (with_reducible show wpAny _ _ (exec (Stmt.For _ _ _ _ _) _) _ _ _)); first | (with_reducible contradiction) | (first | (k_unfold; (try dsimp only)) | walk1 | (dsimp only; walk1) | (leave1; walk_say "STEP leave1"; try dsimp only) | fail "no step")))
          refine' c_pos (w := w) ⟨by k_asm, by k_asm, by k_asm, by k_asm, by k_asm, rfl⟩ (t8.mono fun q hq => .tail _ hq) (Int.natCast_nonneg _) (by omega) (Nat.le_trans (bits_of_lt hdv2) (by decide)) (by have := bits_ge hdv; omega) (dpl (a := 1) (b := 112) (c := 200) (by decide) hdp) (dpl (a := 3) (b := 510) (c := 800) (by decide) hun) ?hR8
          intro T2 x2 y2 n9 h9 tk10 F9 N9 e91 e92 t9 k9
          rw [← Int.natCast_ediv, ← Int.natCast_emod] at N9
          have hT1 := k9 _ (.head _) (notT nofun)
          (repeat' ((fail_if_success (with_reducible show wpAny _ _ (call (Value.ref _) _) _ _ _)); (fail_if_success (with_reducible show wpAny _ _ (eval (Expr.ListComp _ _ _ _) _) _ _ _)); (fail_if_success (with_reducible show wpAny _ _ (call (Value.builtin "str.join") _) _ _ _)); (fail_if_success (with_reducible show wpAny _ _ (call (Value.builtin "str.split") _) _ _ _)); (fail_if_success (with_reducible show wpAny _ _ (subscriptTail _ (Expr.Slice _ _ _ _) _ _) _ _ _)); (fail_if_success (with_reducible show LCg.CompSrc _ _ _ _ _ _ _ _ _ _ _ _ _ _)); (fail_if_success (with_reducible show CmpTurn _ _ _ _ _ _ _ _ _ _ _ _ _ _)); (fail_if_success (with_reducible show wpAny _ _ (exec (Stmt.Assign _ (Expr.ListComp _ _ _ _) _) _) _ _ _)); (fail_if_success (with_reducible show wpAny _ _ (pyIter _) _ _ _)); (fail_if_success (with_reducible show wpAny _ _ (exec (Stmt.For _ _ _ _ _) _) _ _ _)); first | (with_reducible contradiction) | (first | (k_unfold; (try dsimp only)) | walk1 | (dsimp only; walk1) | (leave1; walk_say "STEP leave1"; try dsimp only) | fail "no step")))
          rename_i kF kN kT kX
          exact hret _ _ _ _ kF kN (t9.mono fun q hq => .tail _ hq) G5
end Mine
end

end

section
open PySem PySem.W PyProof.Rows
set_option linter.unusedVariables false
namespace Mine
local macro_rules | `(tactic| walk_at "eval Call") => `(tactic| (k_here; k_dflt (refine Call_ ?_)))
theorem law_exec {w : World} {p : Program} {loose : List Str} {mean : ExcName → Option Value} {mg mb : Str → Option Value} {dp un : Nat} {gd : Option (List Code)} {a : Addr} {ccd : Value} {outer : List Env} {A₀ : Around} {base h₀ : Heap} {L : Addr} {news : List (Addr × Obj)} {s : Shared} {Q : Flow → Shared → Prop} {E : Value → Shared → Prop}
    {l : Addr} {vs : List Value} {ns : List Int} {s1 : Stmt} {r1 : List Stmt} {k1 : ScopeKind} {k2 : List (Str × NameKind)} {k3 k4 : Bool} {k5 : List (Str × Const)} (hcs : fnScope (top 27) = ⟨k1, k2, k3, k4, k5⟩) (hB : fnBody (top 27) = s1 :: r1)
    (B : Below A₀ base outer h₀) (F : Fr h₀ L s.heap (fun x => List.lookup x [(Str.ofString "script", Value.ref l)])) (X : (Kf w.params).In h₀) (N : News h₀ L s.heap news) (T : Top p loose mean mg mb h₀)
    (ht : TabsOk news) (hC1 : CodeHd h₀ 144 140) (hC2 : CodeHd h₀ 151 147) (G : AllBare s.gens)
    (hl : base.IsList l vs.toArray) (hi : IntsAre vs ns) (hfit : ns.length ≤ 63) (hdp : dp + 210 < recursionLimit) (hun : un + 900 < cLine)
    (hret : ∀ (h' : Heap) (tk' : Tok) (news' : List (Addr × Obj)) (gs : Array GenState), Fr h₀ L h' (fun x => List.lookup x [(Str.ofString "script", Value.ref l)]) → News h₀ L h' news' → TabsOk news' → AllBare gs → Q (.ret (.bool true)) ⟨h', gs, s.drawn, tk', s.os⟩) :
    wpAny (model Challenge.rw_nb0260_01.row.prog w) (ktrTop dp un gd (Str.ofString "law") ⟨k1, k2, k3, k4, k5⟩ L a ccd [] outer) (execs (s1 :: r1) (envX (Str.ofString "law") ⟨k1, k2, k3, k4, k5⟩ L a ccd [])) Q E s := by
  cases hcs
  cases hB
  (repeat' ((fail_if_success (with_reducible show wpAny _ _ (call (Value.ref _) _) _ _ _)); first | (with_reducible contradiction) | (first | (k_unfold; (try dsimp only)) | walk1 | (dsimp only; walk1) | (leave1; walk_say "STEP leave1"; try dsimp only) | fail "no step")))
  refine' c_num (w := w) ⟨by k_asm, by k_asm, by k_asm, by k_asm, by k_asm, by rfl⟩ ht hl hi hfit (dpl0 (a := 114) (c := 210) (by decide) hdp) (dpl0 (a := 520) (c := 900) (by decide) hun) ?h1
  intro v1 t1 n1 h1 tk1 hv1 hv2 F1 N1 ht1 hF1 K1
  (repeat' ((fail_if_success (with_reducible show wpAny _ _ (call (Value.ref _) _) _ _ _)); first | (with_reducible contradiction) | (first | (k_unfold; (try dsimp only)) | walk1 | (dsimp only; walk1) | (leave1; walk_say "STEP leave1"; try dsimp only) | fail "no step")))
  refine' c_width (w := w) ⟨by k_asm, by k_asm, by k_asm, by k_asm, by k_asm, by rfl⟩ hl hi hfit (dpl0 (a := 2) (c := 210) (by decide) hdp) (dpl0 (a := 10) (c := 900) (by decide) hun) ?h2
  intro v2 t2 h2 tk2 hw2 F2 N2
  (repeat' ((fail_if_success (with_reducible show wpAny _ _ (call (Value.ref _) _) _ _ _)); first | (with_reducible contradiction) | (first | (k_unfold; (try dsimp only)) | walk1 | (dsimp only; walk1) | (leave1; walk_say "STEP leave1"; try dsimp only) | fail "no step")))
  refine' c_wide (w := w) ⟨by k_asm, by k_asm, by k_asm, by k_asm, by k_asm, by rfl⟩ hl hi hfit (dpl0 (a := 2) (c := 210) (by decide) hdp) (dpl0 (a := 10) (c := 900) (by decide) hun) ?h3
  intro v3 t3 h3 tk3 hw3 F3 N3
  (repeat' ((fail_if_success (with_reducible show wpAny _ _ (call (Value.ref _) _) _ _ _)); first | (with_reducible contradiction) | (first | (k_unfold; (try dsimp only)) | walk1 | (dsimp only; walk1) | (leave1; walk_say "STEP leave1"; try dsimp only) | fail "no step")))
  refine' c_head (w := w) ⟨by k_asm, by k_asm, by k_asm, by k_asm, by k_asm, by rfl⟩ hl hi hfit (dpl0 (a := 2) (c := 210) (by decide) hdp) (dpl0 (a := 10) (c := 900) (by decide) hun) ?h4
  intro v4 t4 h4 tk4 hw4 F4 N4
  (repeat' ((fail_if_success (with_reducible show wpAny _ _ (call (Value.ref _) _) _ _ _)); first | (with_reducible contradiction) | (first | (k_unfold; (try dsimp only)) | walk1 | (dsimp only; walk1) | (leave1; walk_say "STEP leave1"; try dsimp only) | fail "no step")))
  refine' c_dvs (w := w) ⟨by k_asm, by k_asm, by k_asm, by k_asm, by k_asm, by rfl⟩ hl hi hfit (dpl0 (a := 2) (c := 210) (by decide) hdp) (dpl0 (a := 10) (c := 900) (by decide) hun) ?h5
  intro v5 t5 h5 tk5 hw5 F5 N5
  (repeat' ((fail_if_success (with_reducible show wpAny _ _ (call (Value.ref _) _) _ _ _)); first | (with_reducible contradiction) | (first | (k_unfold; (try dsimp only)) | walk1 | (dsimp only; walk1) | (leave1; walk_say "STEP leave1"; try dsimp only) | fail "no step")))
  refine' c_right (w := w) ⟨by k_asm, by k_asm, by k_asm, by k_asm, by k_asm, by rfl⟩ ht1 hF1 hC1 hC2 G hv1 hv2 hw2.1 hw2.2 (by omega) (by omega) hw5.1 (by omega) (dpl0 (a := 200) (c := 210) (by decide) hdp) (dpl0 (a := 800) (c := 900) (by decide) hun) ?h6
  intro h6 tk6 n6 gs6 F6 N6 ht6 G6
  (repeat' ((fail_if_success (with_reducible show wpAny _ _ (call (Value.ref _) _) _ _ _)); first | (with_reducible contradiction) | (first | (k_unfold; (try dsimp only)) | walk1 | (dsimp only; walk1) | (leave1; walk_say "STEP leave1"; try dsimp only) | fail "no step")))
  exact hret _ _ _ _ F6 N6 ht6 G6
theorem TabOk.grown {h₀ h : Heap} {L P : Addr} {line col : Nat} {qual : Str} {news : List (Addr × Obj)} (t : TabOk P line col qual news) (N : News h₀ L h news) : ∃ ps, h.get? P = some (tabObj ps) := by
  rcases t with t | ⟨c', oc, vs, x, t, _⟩
  · exact ⟨_, (N _ t).1⟩
  · exact ⟨_, (N _ t).1⟩
/-- the law's end -/
theorem law_post {cw : ClaimW} {cl : Str → Option Addr} {mean : ExcName → Option Value} {args : List WData} {s₁ : Shared} {tabs : List (Addr × Addr)} {h' : Heap} {gs : Array GenState} {tk : Tok} {L : Addr} {m : Str → Option Value}
    (hT : TabsAt tabs s₁.heap) (F : Fr (ghostOf s₁.heap tabs) L h' m) (hg : ∀ q ∈ tabs, ∃ ps, h'.get? q.2 = some (tabObj ps)) (G : AllBare gs) (hr : ∀ x, cw.raises args x = false) (hp : cw.post args (.bool true) args = true) :
    GoodWG cw cl mean args s₁ (.ok (.ret (.bool true))) ⟨h', gs, s₁.drawn, tk, s₁.os⟩ := by
  have keep : ∀ b o, b ∉ tabs.map (·.2) → s₁.heap.get? b = some o → h'.get? b = some o := fun b o hb e => F.keep b o (ghost_ne e hb)
  have tab : ∀ b o, b ∈ tabs.map (·.2) → s₁.heap.get? b = some o → isCodeTable s₁.heap b ∧ o = tabObj #[] ∧ ∃ ps, h'.get? b = some (tabObj ps) := fun b o hb e => by
    obtain ⟨q, hq, rfl⟩ := List.mem_map.mp hb
    have e2 := (hT q hq).2
    rw [e] at e2
    exact ⟨((hT q hq).1.tab (hT q hq).2).isCodeTable, Option.some.inj e2, hg q hq⟩
  refine ⟨.inl ⟨_, .bool true, [], rfl, hr, .bool true, hp, fun _ => ⟨.nil, fun _ h => nomatch h⟩⟩, ⟨fun b o e => ?_, fun b o e => ?_⟩, rfl, G⟩
  · by_cases hb : b ∈ tabs.map (·.2)
    · obtain ⟨ht, rfl, ps, hP⟩ := tab b o hb e
      exact .inr (.inl ⟨ht, rfl, #[], ps, rfl, by rw [Array.empty_append]; exact hP⟩)
    · exact .inl (keep b o hb e)
  · by_cases hb : b ∈ tabs.map (·.2)
    · obtain ⟨_, _, ps, hP⟩ := tab b o hb e
      exact ⟨_, hP⟩
    · exact ⟨o, keep b o hb e⟩
theorem law_true (args : List WData) : (OpenRow.toRowW Challenge.rw_nb0260_01.row).claim.post args (WData.bool true) args = true := by
  refine postW_of (X := true) rfl ?_ rfl
  show WTm.value _ (.eq .res (.lit (.bool true))) _ = _
  first | rfl | wtm_val
end Mine
end

set_option maxRecDepth 100000 in
set_option maxHeartbeats 8000000 in
theorem PySem.Challenge.cw_nb0260_01_holds : PySem.Challenge.rw_nb0260_01.Holds := by
  w_on
  refine holds_law law_ok fun said => ?_
  refine holds_open (q := qv) (loose := lz) (Xt := fun s => xlAt qv [] s && recOk (RowW.records (OpenRow.toRowW PySem.Challenge.rw_nb0260_01.row)) s) (XP := XL qv []) (Yf := Hook.obs Hk) (Ya := Hook.val Hk) (YP := Hook.says Hk)
    (N := 3462) left1 (Hook.of Hk) (Hook.keeps Hk) (fun s e => xl_of s (Bool.and_eq_true_iff.mp e).1) XL.keeps (by rfl) (by rfl) (by rfl)
    (fun s e => recFacts_of (Bool.and_eq_true_iff.mp e).2) (by rfl) (by first | assumption | decide +kernel) (by decide +kernel)
    ⟨rfl, rfl, rfl, rfl, rfl, by decide +kernel⟩ ?hw ?hc
  case hw => w_witness2
  case hc =>
    intro w s₀ s₁ mg mb G Y fa o pm cd doc dV kV ho hd hcd hD hmg hg args vals as hpre hlay hrd hwl hlo
    have KX := km_in_of Y
    have hT8 := km_tabs_of Y
    have X := (Ground.X G).1
    have V := (Ground.X G).2
    refine Ground.open G ?_
    intro T B D TE TW
    try (refine guard_noD D (by decide +kernel) ?_; clear D)
    have hT9 : TabsAt [(144, 140), (151, 147), (202, 198), (209, 205)] s₁.heap := List.forall_mem_cons.mpr ⟨⟨codeHd_of_K (c := 144) (P := 140) KX (by kernel_rfl), hT8 140 (by k_mem)⟩, List.forall_mem_cons.mpr ⟨⟨codeHd_of_K (c := 151) (P := 147) KX (by kernel_rfl), hT8 147 (by k_mem)⟩,
      List.forall_mem_cons.mpr ⟨⟨codeHd_of_K (c := 202) (P := 198) KX (by kernel_rfl), hT8 198 (by k_mem)⟩, List.forall_mem_cons.mpr ⟨⟨codeHd_of_K (c := 209) (P := 205) KX (by kernel_rfl), hT8 205 (by k_mem)⟩, fun _ h => nomatch h⟩⟩⟩⟩
    clear hmg
    wrow_args hpre hlay hrd hwl hlo
    all_goals (
      refine enter_call ?_
      w_top on
      w_call any ho hd hcd hD T F
      clear hd
      kn_ghosts F T
      k_drop)
    all_goals try k_fold
    have hbare : AllBare s₁.gens := AllBare.of_eq hg
    rename_i hI hrr hc1 hc2 hh X' T' K' F' hC1 hC2 hC3 N' l0
    refine law_exec (h₀ := ghostOf s₁.heap [(144, 140), (151, 147), (202, 198), (209, 205)]) (hcs := rfl) (hB := rfl) K' F' X' N' T' ⟨.inl (.head _), .inl (.tail _ (.head _)), .inl (.tail _ (.tail _ (.head _))), .inl (.tail _ (.tail _ (.tail _ (.head _))))⟩ hC1 hC2 hbare lifted hI (by omega) (by decide +kernel) (by decide +kernel) ?_
    intro h' tk' n' gs' F2 N2 t2 G2
    refine law_post hT9 F2 (List.forall_mem_cons.mpr ⟨t2.len.grown N2, List.forall_mem_cons.mpr ⟨t2.str.grown N2, List.forall_mem_cons.mpr ⟨t2.i2d.grown N2, List.forall_mem_cons.mpr ⟨t2.d2i.grown N2, fun _ h => nomatch h⟩⟩⟩⟩) G2 (fun _ => rfl) ?_
    exact law_true _
end
