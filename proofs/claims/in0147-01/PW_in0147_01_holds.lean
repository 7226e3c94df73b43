import PyProof.Rows.All
import Wide.All
import OpenK.AllK
import Wide.FinOn
import PySem.Challenge.RW_in0147_01
set_option Elab.async false

section
open PySem PySem.W PyProof.Rows
namespace Mine
set_option maxRecDepth 100000 in
set_option maxHeartbeats 8000000 in
open_top hd for PySem.Challenge.rw_in0147_01
end Mine
end

section
/- plain lists of signs: the beginnings of a text, its name between quotes, and the climb -/
namespace Mine
/-- without the slashes behind -/
def rs (l : List Nat) : List Nat := (l.reverse.dropWhile (· == 47)).reverse

theorem dw_len (p : Nat → Bool) (l : List Nat) : (l.dropWhile p).length ≤ l.length := by
  induction l with
  | nil => simp
  | cons a r ih => rw [List.dropWhile_cons]; split <;> simp <;> omega

/-- the beginnings, the longest first, of the text whose mirror is given -/
noncomputable def dn (r : List Nat) : List (List Nat) :=
  match _h : r.dropWhile (· == 47) with
  | [] => []
  | a :: q => (a :: q).reverse :: dn (q.dropWhile (· != 47))
termination_by r.length
decreasing_by
  have h1 := dw_len (· == 47) r
  have h2 := dw_len (· != 47) q
  rw [_h] at h1
  simp only [List.length_cons] at h1
  omega

theorem dn_nil_of {r : List Nat} (h : r.dropWhile (· == 47) = []) : dn r = [] := by
  unfold dn; split
  · rfl
  · rename_i e; rw [h] at e; cases e
theorem dn_cons_of {r q : List Nat} {a : Nat} (h : r.dropWhile (· == 47) = a :: q) : dn r = (a :: q).reverse :: dn (q.dropWhile (· != 47)) := by
  rw [dn]; split
  · rename_i e; rw [h] at e; cases e
  · rename_i e; rw [h] at e; cases e; rfl
theorem dn_slash (r : List Nat) : dn (47 :: r) = dn r := by
  have e : (47 :: r).dropWhile (· == 47) = r.dropWhile (· == 47) := by rw [List.dropWhile_cons]; rfl
  cases h : r.dropWhile (· == 47) with
  | nil => rw [dn_nil_of h, dn_nil_of (e.trans h)]
  | cons a q => rw [dn_cons_of h, dn_cons_of (e.trans h)]
theorem dn_nil : dn [] = [] := dn_nil_of rfl
theorem dn_dw (r : List Nat) : dn (r.dropWhile (· == 47)) = dn r := by
  induction r with
  | nil => rfl
  | cons a r ih =>
    rw [List.dropWhile_cons]
    by_cases h : (a == 47) = true
    · rw [if_pos h, ih, show a = 47 from by simpa using h, dn_slash]
    · rw [if_neg h]
theorem dn_other {a : Nat} {q : List Nat} (h : a ≠ 47) : dn (a :: q) = (a :: q).reverse :: dn (q.dropWhile (· != 47)) :=
  dn_cons_of (by rw [List.dropWhile_cons, if_neg (by simpa using h)])

/-- each beginning is one: it does not end in a slash -/
theorem dn_mem {r P : List Nat} (h : P ∈ dn r) : P.reverse <:+ r ∧ P ≠ [] ∧ rs P = P := by
  suffices ∀ n r, r.length ≤ n → P ∈ dn r → P.reverse <:+ r ∧ P ≠ [] ∧ rs P = P from this _ r (Nat.le_refl _) h
  intro n
  induction n with
  | zero => intro r hr h; rw [List.length_eq_zero_iff.mp (Nat.le_zero.mp hr), dn_nil] at h; cases h
  | succ n ih =>
    intro r hr h
    cases e : r.dropWhile (· == 47) with
    | nil => rw [dn_nil_of e] at h; cases h
    | cons a q =>
      have hsuf : (a :: q) <:+ r := e ▸ List.dropWhile_suffix _
      have hlen := hsuf.length_le
      simp only [List.length_cons] at hlen
      rw [dn_cons_of e] at h
      rcases List.mem_cons.mp h with rfl | h
      · have ha : a ≠ 47 := by
          intro q'
          have := List.head?_dropWhile_not (· == 47) r
          rw [e] at this
          simp [q'] at this
        refine ⟨by rw [List.reverse_reverse]; exact hsuf, by simp, ?_⟩
        unfold rs
        rw [List.reverse_reverse, List.dropWhile_cons, if_neg (by simpa using ha)]
      · have h2 := dw_len (· != 47) q
        obtain ⟨h3, h4⟩ := ih _ (by omega) h
        exact ⟨h3.trans ((List.dropWhile_suffix _).trans ((List.suffix_cons a q).trans hsuf)), h4⟩
theorem dn_prefix {l P : List Nat} (h : P ∈ dn l.reverse) : P <+: l := by
  have := (dn_mem h).1
  exact List.reverse_suffix.mp this
theorem dn_lt {r : List Nat} {a : Nat} {P : List Nat} (h : P ∈ dn (r.dropWhile (· != 47))) : P.length < (a :: r).length := by
  have h1 := (dn_mem h).1.length_le
  have h2 := dw_len (· != 47) r
  simp only [List.length_reverse, List.length_cons] at *
  omega

/-- the name behind the opening quote: up to the first quote that stands alone -/
noncomputable def nm : List Nat → List Nat
  | [] => []
  | [c] => if c = 34 then [] else [c]
  | c :: d :: r => if c = 34 then (if d = 34 then 34 :: nm r else []) else c :: nm (d :: r)
/-- each quote twice -/
noncomputable def enc : List Nat → List Nat
  | [] => []
  | c :: r => if c = 34 then 34 :: 34 :: enc r else c :: enc r

theorem nm_plain {c : Nat} (h : c ≠ 34) (r : List Nat) : nm (c :: r) = c :: nm r := by
  cases r with
  | nil => simp [nm, h]
  | cons d r => simp [nm, h]
theorem nm_two (r : List Nat) : nm (34 :: 34 :: r) = 34 :: nm r := by simp [nm]
theorem nm_one {r : List Nat} (h : r.head? ≠ some 34) : nm (34 :: r) = [] := by
  cases r with
  | nil => simp [nm]
  | cons d r =>
    have : d ≠ 34 := by simpa using h
    simp [nm, this]
/-- what may stand behind a name -/
def Shut (V : List Nat) : Prop := V = [] ∨ ∃ V', V = 34 :: V' ∧ V'.head? ≠ some 34
theorem nm_shut {V : List Nat} (h : Shut V) : nm V = [] := by
  rcases h with rfl | ⟨V', rfl, h⟩
  · rfl
  · exact nm_one h
theorem nm_enc (M : List Nat) {V : List Nat} (h : Shut V) : nm (enc M ++ V) = M := by
  induction M with
  | nil => exact nm_shut h
  | cons c r ih =>
    by_cases hc : c = 34
    · subst hc
      rw [enc, if_pos rfl, List.cons_append, List.cons_append, nm_two, ih]
    · rw [enc, if_neg hc, List.cons_append, nm_plain hc, ih]
theorem nm_split (B : List Nat) : ∃ V, B = enc (nm B) ++ V ∧ Shut V := by
  suffices ∀ n B, B.length ≤ n → ∃ V, B = enc (nm B) ++ V ∧ Shut V from this _ B (Nat.le_refl _)
  intro n
  induction n with
  | zero => intro B hB; rw [List.length_eq_zero_iff.mp (Nat.le_zero.mp hB)]; exact ⟨[], rfl, .inl rfl⟩
  | succ n ih =>
    intro B hB
    cases B with
    | nil => exact ⟨[], rfl, .inl rfl⟩
    | cons c r =>
      simp only [List.length_cons] at hB
      by_cases hc : c = 34
      · subst hc
        cases r with
        | nil => exact ⟨[34], by simp [nm, enc], .inr ⟨[], rfl, by simp⟩⟩
        | cons d r =>
          by_cases hd : d = 34
          · subst hd
            simp only [List.length_cons] at hB
            obtain ⟨V, e, hV⟩ := ih r (by omega)
            refine ⟨V, ?_, hV⟩
            rw [nm_two, enc, if_pos rfl]
            simp only [List.cons_append]
            rw [← e]
          · refine ⟨34 :: d :: r, ?_, .inr ⟨d :: r, rfl, by simpa using hd⟩⟩
            rw [nm_one (by simpa using hd)]; rfl
      · obtain ⟨V, e, hV⟩ := ih r (by omega)
        refine ⟨V, ?_, hV⟩
        rw [nm_plain hc, enc, if_neg hc]
        simp only [List.cons_append]
        rw [← e]

theorem enc_append (a b : List Nat) : enc (a ++ b) = enc a ++ enc b := by
  induction a with
  | nil => rfl
  | cons c r ih => by_cases hc : c = 34 <;> simp [enc, hc, ih]
theorem enc_mem {a : List Nat} {c : Nat} : c ∈ enc a ↔ c ∈ a := by
  induction a with
  | nil => simp [enc]
  | cons d r ih => by_cases hc : d = 34 <;> simp [enc, hc, ih]
theorem enc_ne {a : List Nat} (h : a ≠ []) : enc a ≠ [] := by
  cases a with
  | nil => exact absurd rfl h
  | cons d r => by_cases hc : d = 34 <;> simp [enc, hc]

/-- the mirror of a list without a slash is passed whole -/
theorem dw_ne_all {q : List Nat} (h : 47 ∉ q) (r : List Nat) : (q ++ r).dropWhile (· != 47) = r.dropWhile (· != 47) := by
  induction q with
  | nil => rfl
  | cons a q ih =>
    simp only [List.mem_cons, not_or] at h
    rw [List.cons_append, List.dropWhile_cons, if_pos (by simpa using Ne.symm h.1), ih h.2]
theorem dw_ne_slash (r : List Nat) : (47 :: r).dropWhile (· != 47) = 47 :: r := by rw [List.dropWhile_cons]; rfl

/-- a list is one without a slash, or it has a last one -/
theorem last_slash (M : List Nat) : (47 ∉ M) ∨ ∃ M' q, M = M' ++ 47 :: q ∧ 47 ∉ q := by
  induction M with
  | nil => exact .inl (by simp)
  | cons a r ih =>
    rcases ih with h | ⟨M', q, rfl, h⟩
    · by_cases ha : a = 47
      · exact .inr ⟨[], r, by simp [ha], h⟩
      · exact .inl (by simp [Ne.symm ha, h])
    · exact .inr ⟨a :: M', q, by simp, h⟩

/-- one step: behind the last slash stands a piece -/
theorem dn_piece {r q : List Nat} (hq : 47 ∉ q) (hne : q ≠ []) : dn (q ++ 47 :: r) = (q ++ 47 :: r).reverse :: dn r := by
  cases q with
  | nil => exact absurd rfl hne
  | cons a q =>
    simp only [List.mem_cons, not_or] at hq
    rw [List.cons_append, dn_other (Ne.symm hq.1), dw_ne_all hq.2, dw_ne_slash, dn_slash]
theorem dn_single {q : List Nat} (hq : 47 ∉ q) (hne : q ≠ []) : dn q = [q.reverse] := by
  cases q with
  | nil => exact absurd rfl hne
  | cons a q =>
    simp only [List.mem_cons, not_or] at hq
    have e : q.dropWhile (· != 47) = [] := by have := dw_ne_all hq.2 []; simpa using this
    rw [dn_other (Ne.symm hq.1), e, dn_nil]

/-- the head of such a reply -/
def H5 : List Nat := [50, 53, 55, 32, 34]
/-- the name that a reply tells -/
noncomputable def nmOf (R : List Nat) : List Nat := if (R.drop 3).take 2 = [32, 34] then nm (R.drop 5) else []
theorem nmOf_H (B : List Nat) : nmOf (H5 ++ B) = nm B := by simp [nmOf, H5]

/-- what stands at the bottom: an empty name where the first piece is empty -/
def bot (M : List Nat) : List (List Nat) := match M with | [] => [[]] | a :: _ => if a = 47 then [[]] else []

theorem names_enc (M : List Nat) : (dn (H5 ++ enc M).reverse).map nmOf = dn M.reverse ++ bot M := by
  suffices ∀ n (M : List Nat), M.length ≤ n → (dn (H5 ++ enc M).reverse).map nmOf = dn M.reverse ++ bot M from this _ M (Nat.le_refl _)
  intro n
  induction n with
  | zero =>
    intro M hM
    rw [List.length_eq_zero_iff.mp (Nat.le_zero.mp hM)]
    have : dn (H5 ++ enc []).reverse = [H5] := dn_single (by decide) (by decide)
    rw [this]; simp [dn_nil, bot, nmOf, H5, nm]
  | succ n ih =>
    intro M hM
    rcases last_slash M with h | ⟨M', q, rfl, hq⟩
    · cases M with
      | nil =>
        have : dn (H5 ++ enc []).reverse = [H5] := dn_single (by decide) (by decide)
        rw [this]; simp [dn_nil, bot, nmOf, H5, nm]
      | cons a M =>
        have h1 : 47 ∉ (H5 ++ enc (a :: M)).reverse := by
          rw [List.mem_reverse, List.mem_append, enc_mem]
          simp only [not_or]
          exact ⟨by decide, h⟩
        rw [dn_single h1 (by simp [H5]), dn_single (by rw [List.mem_reverse]; exact h) (by simp)]
        simp only [List.map_cons, List.map_nil, List.reverse_reverse]
        have h2 := nm_enc (a :: M) (V := []) (.inl rfl)
        rw [List.append_nil] at h2
        rw [nmOf_H, h2]
        simp only [List.mem_cons, not_or] at h
        simp [bot, Ne.symm h.1]
    · have hb : bot (M' ++ 47 :: q) = bot M' := by cases M' <;> simp [bot]
      simp only [List.length_append, List.length_cons] at hM
      have e1 : (M' ++ 47 :: q).reverse = q.reverse ++ 47 :: M'.reverse := by simp
      have e2 : (H5 ++ enc (M' ++ 47 :: q)).reverse = (enc q).reverse ++ 47 :: (H5 ++ enc M').reverse := by
        rw [enc_append, enc, if_neg (by decide)]; simp
      by_cases hne : q = []
      · subst hne
        rw [hb, e1, e2]
        simp only [enc, List.reverse_nil, List.nil_append]
        rw [dn_slash, dn_slash]
        exact ih M' (by omega)
      · have hqe : 47 ∉ (enc q).reverse := by rw [List.mem_reverse, enc_mem]; exact hq
        have hqr : 47 ∉ q.reverse := by simpa using hq
        rw [hb, e1, e2, dn_piece hqr (by simpa using hne), dn_piece hqe (by simpa using enc_ne hne), ← e1, ← e2]
        simp only [List.map_cons, List.reverse_reverse, List.cons_append]
        have h2 := nm_enc (M' ++ 47 :: q) (V := []) (.inl rfl)
        rw [List.append_nil] at h2
        rw [nmOf_H, h2, ih M' (by omega)]

/-- the climb: each name without the slashes behind it, once, none empty -/
def stepc (acc : List (List Nat)) (n : List Nat) : List (List Nat) := if rs n ∈ acc ++ [[]] then acc else acc ++ [rs n]
def climb (acc : List (List Nat)) (ns : List (List Nat)) : List (List Nat) := ns.foldl stepc acc

theorem climb_cons (acc : List (List Nat)) (n : List Nat) (ns : List (List Nat)) : climb acc (n :: ns) = climb (stepc acc n) ns := rfl
theorem climb_append (acc : List (List Nat)) (a b : List (List Nat)) : climb acc (a ++ b) = climb (climb acc a) b := List.foldl_append
theorem step_old {acc : List (List Nat)} {n : List Nat} (h : rs n ∈ acc ∨ rs n = []) : stepc acc n = acc := by
  unfold stepc
  rw [if_pos]
  rcases h with h | h
  · exact List.mem_append_left _ h
  · rw [h]; exact List.mem_append_right _ (by simp)
theorem step_new {acc : List (List Nat)} {n : List Nat} (h : rs n ∉ acc) (h0 : rs n ≠ []) : stepc acc n = acc ++ [rs n] := by
  unfold stepc
  rw [if_neg]
  simp [h, h0]
theorem climb_old {acc : List (List Nat)} : ∀ {ns : List (List Nat)}, (∀ n ∈ ns, rs n ∈ acc ∨ rs n = []) → climb acc ns = acc
  | [], _ => rfl
  | n :: ns, h => by
    rw [climb_cons, step_old (h n (by simp))]
    exact climb_old fun m hm => h m (by simp [hm])
theorem rs_nil : rs [] = [] := rfl

/-- a falling row of names is climbed as it stands -/
theorem climb_dn (r : List Nat) (acc : List (List Nat)) (h : ∀ P ∈ dn r, P ∉ acc) : climb acc (dn r) = acc ++ dn r := by
  suffices ∀ n (r : List Nat) (acc : List (List Nat)), r.length ≤ n → (∀ P ∈ dn r, P ∉ acc) → climb acc (dn r) = acc ++ dn r from this _ r acc (Nat.le_refl _) h
  intro n
  induction n with
  | zero => intro r acc hr _; rw [List.length_eq_zero_iff.mp (Nat.le_zero.mp hr), dn_nil]; simp [climb]
  | succ n ih =>
    intro r acc hr h
    cases e : r.dropWhile (· == 47) with
    | nil => rw [dn_nil_of e]; simp [climb]
    | cons a q =>
      have hsuf : (a :: q) <:+ r := e ▸ List.dropWhile_suffix _
      have hlen := hsuf.length_le
      simp only [List.length_cons] at hlen
      have h2 := dw_len (· != 47) q
      have hm : (a :: q).reverse ∈ dn r := by rw [dn_cons_of e]; simp
      obtain ⟨_, m2, m3⟩ := dn_mem hm
      rw [dn_cons_of e, climb_cons, step_new (by rw [m3]; exact h _ hm) (by rw [m3]; exact m2), m3, ih _ _ (by omega)]
      · simp
      · intro P hP
        rw [List.mem_append]
        simp only [not_or, List.mem_singleton]
        refine ⟨h P (by rw [dn_cons_of e]; simp [hP]), fun q' => ?_⟩
        have := dn_lt (a := a) hP
        rw [q'] at this
        simp at this

theorem bot_empty {M n : List Nat} (h : n ∈ bot M) : n = [] := by
  cases M with
  | nil => simpa [bot] using h
  | cons a r => by_cases ha : a = 47 <;> simp [bot, ha] at h; exact h

/-- behind the name stands a quote: what lies beyond tells the whole name -/
theorem dn_beyond (X : List Nat) (V : List Nat) (hV : ∃ V', V = 34 :: V') : ∃ Ls : List (List Nat), Ls ≠ [] ∧ (∀ P ∈ Ls, ∃ W, P = X ++ W ∧ W <+: V ∧ W ≠ []) ∧ dn (X ++ V).reverse = Ls ++ dn (X.reverse.dropWhile (· != 47)) := by
  suffices ∀ n V, V.length ≤ n → (∃ V', V = 34 :: V') → ∃ Ls : List (List Nat), Ls ≠ [] ∧ (∀ P ∈ Ls, ∃ W, P = X ++ W ∧ W <+: V ∧ W ≠ []) ∧ dn (X ++ V).reverse = Ls ++ dn (X.reverse.dropWhile (· != 47)) from this _ V (Nat.le_refl _) hV
  intro n
  induction n with
  | zero => rintro V hV ⟨V', rfl⟩; simp at hV
  | succ n ih =>
    rintro V hn ⟨V', rfl⟩
    rcases last_slash (34 :: V') with h | ⟨M, q, e, hq⟩
    · refine ⟨[X ++ 34 :: V'], by simp, fun P hP => ⟨34 :: V', by simpa using hP, List.prefix_refl _, by simp⟩, ?_⟩
      have h1 : 47 ∉ (34 :: V').reverse := by rw [List.mem_reverse]; exact h
      have e1 : (X ++ 34 :: V').reverse = (34 :: V').reverse ++ X.reverse := by simp
      cases e2 : (34 :: V').reverse with
      | nil => simp at e2
      | cons a t =>
        rw [e2] at h1
        simp only [List.mem_cons, not_or] at h1
        have e3 : (X ++ 34 :: V').reverse = a :: (t ++ X.reverse) := by rw [e1, e2]; rfl
        rw [e3, dn_other (Ne.symm h1.1), dw_ne_all h1.2, ← e3, List.reverse_reverse]; rfl
    · have hM : ∃ M', M = 34 :: M' := by
        cases M with
        | nil => simp at e
        | cons a M => exact ⟨M, by simp at e; rw [e.1]⟩
      have hlen : M.length ≤ n := by
        have := congrArg List.length e
        simp only [List.length_cons, List.length_append] at this hn
        omega
      obtain ⟨Ls, h1, h2, h3⟩ := ih M hlen hM
      have e1 : (X ++ 34 :: V').reverse = q.reverse ++ 47 :: (X ++ M).reverse := by rw [e]; simp
      have hsub : M <+: 34 :: V' := by rw [e]; exact List.prefix_append _ _
      by_cases hne : q = []
      · subst hne
        refine ⟨Ls, h1, fun P hP => ?_, ?_⟩
        · obtain ⟨W, a, b, c⟩ := h2 P hP
          exact ⟨W, a, b.trans hsub, c⟩
        · rw [e1, List.reverse_nil, List.nil_append, dn_slash, h3]
      · refine ⟨(X ++ 34 :: V') :: Ls, by simp, fun P hP => ?_, ?_⟩
        · rcases List.mem_cons.mp hP with rfl | hP
          · exact ⟨34 :: V', rfl, List.prefix_refl _, by simp⟩
          · obtain ⟨W, a, b, c⟩ := h2 P hP
            exact ⟨W, a, b.trans hsub, c⟩
        · rw [e1, dn_piece (by rw [List.mem_reverse]; exact hq) (by simpa using hne), ← e1, List.reverse_reverse, h3]; rfl

theorem shut_prefix {V W : List Nat} (h : Shut V) (hW : W <+: V) : Shut W := by
  rcases h with rfl | ⟨V', rfl, h⟩
  · rw [List.prefix_nil.mp hW]; exact .inl rfl
  · cases W with
    | nil => exact .inl rfl
    | cons a W =>
      obtain ⟨rfl, h2⟩ := List.cons_prefix_cons.mp hW
      refine .inr ⟨W, rfl, ?_⟩
      cases W with
      | nil => simp
      | cons b W =>
        cases V' with
        | nil => simp at h2
        | cons d V' =>
          obtain ⟨rfl, _⟩ := List.cons_prefix_cons.mp h2
          simpa using h

theorem dn_rs (M : List Nat) : dn M.reverse = dn (rs M).reverse := by
  unfold rs; rw [List.reverse_reverse, dn_dw]

/-- the law's heart -/
theorem climb_name (B : List Nat) : climb [] ((dn (H5 ++ B).reverse).map nmOf) = dn (nm B).reverse := by
  obtain ⟨V, e, hV⟩ := nm_split B
  have base : ∀ M acc, (∀ P ∈ dn M.reverse, P ∉ acc) → climb acc ((dn (H5 ++ enc M).reverse).map nmOf) = acc ++ dn M.reverse := fun M acc h => by
    rw [names_enc, climb_append, climb_dn _ _ h]
    exact climb_old fun n hn => .inr (by rw [bot_empty hn]; rfl)
  rcases hV with rfl | ⟨V', rfl, hV'⟩
  · rw [List.append_nil] at e
    conv => lhs; rw [e]
    rw [base _ _ (by simp)]; rfl
  · have hS : Shut (34 :: V') := .inr ⟨V', rfl, hV'⟩
    obtain ⟨Ls, h1, h2, h3⟩ := dn_beyond (H5 ++ enc (nm B)) (34 :: V') ⟨V', rfl⟩
    have eB : H5 ++ B = (H5 ++ enc (nm B)) ++ 34 :: V' := by rw [List.append_assoc, ← e]
    rw [eB, h3, List.map_append, climb_append]
    have hN : ∀ P ∈ Ls, nmOf P = nm B := fun P hP => by
      obtain ⟨W, rfl, hW, _⟩ := h2 P hP
      rw [List.append_assoc, nmOf_H, nm_enc _ (shut_prefix hS hW)]
    generalize nm B = N at *
    -- what lies beyond: the name once
    have hL : climb [] (Ls.map nmOf) = if rs N = [] then [] else [rs N] := by
      cases Ls with
      | nil => exact absurd rfl h1
      | cons P Ls =>
        rw [List.map_cons, climb_cons, hN P (by simp)]
        by_cases h0 : rs N = []
        · rw [if_pos h0, step_old (.inr h0)]
          exact climb_old fun n hn => by
            obtain ⟨P', hP', rfl⟩ := List.mem_map.mp hn
            rw [hN P' (by simp [hP'])]; exact .inr h0
        · rw [if_neg h0, step_new (by simp) h0]
          exact climb_old fun n hn => by
            obtain ⟨P', hP', rfl⟩ := List.mem_map.mp hn
            rw [hN P' (by simp [hP'])]; exact .inl (by simp)
    rw [hL]
    rcases last_slash N with h | ⟨M', q, rfl, hq⟩
    · -- no slash in the name
      have h5 : 47 ∉ (H5 ++ enc N).reverse := by
        rw [List.mem_reverse, List.mem_append, enc_mem, not_or]
        exact ⟨by decide, h⟩
      have e5 := dw_ne_all h5 []
      rw [List.append_nil] at e5
      rw [e5]
      show climb _ ((dn []).map nmOf) = _
      rw [dn_nil]
      by_cases h0 : N = []
      · subst h0; rw [rs_nil, if_pos rfl]; exact dn_nil.symm
      · have hr : 47 ∉ N.reverse := by rw [List.mem_reverse]; exact h
        have hmem : N ∈ dn N.reverse := by rw [dn_single hr (by simpa using h0)]; simp
        have := (dn_mem hmem).2.2
        rw [this, if_neg h0, dn_single hr (by simpa using h0), List.reverse_reverse]; rfl
    · have e5 : (H5 ++ enc (M' ++ 47 :: q)).reverse.dropWhile (· != 47) = 47 :: (H5 ++ enc M').reverse := by
        have e6 : (H5 ++ enc (M' ++ 47 :: q)).reverse = (enc q).reverse ++ 47 :: (H5 ++ enc M').reverse := by
          rw [enc_append, enc, if_neg (by decide)]; simp
        rw [e6, dw_ne_all (by rw [List.mem_reverse, enc_mem]; exact hq), dw_ne_slash]
      rw [e5, dn_slash]
      have e7 : (M' ++ 47 :: q).reverse = q.reverse ++ 47 :: M'.reverse := by simp
      by_cases hne : q = []
      · subst hne
        have e8 : dn (M' ++ [47]).reverse = dn M'.reverse := by rw [e7]; simp [dn_slash]
        have e9 : rs (M' ++ [47]) = rs M' := by simp [rs]
        rw [e8, e9]
        by_cases h0 : rs M' = []
        · rw [if_pos h0, base _ _ (by simp)]; rfl
        · rw [if_neg h0, names_enc, climb_append, dn_rs]
          have hd : ∃ q' a, (rs M').reverse = a :: q' := by
            cases hh : (rs M').reverse with
            | nil => exact absurd (by simpa using hh) h0
            | cons a q' => exact ⟨q', a, rfl⟩
          obtain ⟨q', a, hd⟩ := hd
          have ha : a ≠ 47 := by
            intro ea
            have := List.head?_dropWhile_not (· == 47) M'.reverse
            have e10 : M'.reverse.dropWhile (· == 47) = a :: q' := by rw [← hd]; simp [rs]
            rw [e10] at this
            simp [ea] at this
          have e11 : dn (rs M').reverse = rs M' :: dn (q'.dropWhile (· != 47)) := by rw [hd, dn_other ha, ← hd, List.reverse_reverse]
          rw [e11, climb_cons]
          have hrr : rs (rs M') = rs M' := (dn_mem (r := (rs M').reverse) (P := rs M') (by rw [e11]; simp)).2.2
          rw [step_old (.inl (by rw [hrr]; simp)), climb_dn]
          · rw [climb_old fun n hn => .inr (by rw [bot_empty hn]; rfl)]; rfl
          · intro P hP
            have := dn_lt (a := a) hP
            rw [← hd] at this
            simp only [List.mem_singleton]
            intro q''; rw [q''] at this; simp at this
      · have hqr : 47 ∉ q.reverse := by rw [List.mem_reverse]; exact hq
        have e8 := dn_piece (r := M'.reverse) hqr (by simpa using hne)
        rw [← e7, List.reverse_reverse] at e8
        have hmem : (M' ++ 47 :: q) ∈ dn (M' ++ 47 :: q).reverse := by rw [e8]; simp
        rw [(dn_mem hmem).2.2, if_neg (by simp), base, e8]; rfl
        intro P hP
        simp only [List.mem_singleton]
        rintro rfl
        have := (dn_mem hP).1.length_le
        simp at this
        omega

/-- nothing told: nothing climbed -/
theorem climb_none {R : List Nat} (h : (R.drop 3).take 2 ≠ [32, 34]) : climb [] ((dn R.reverse).map nmOf) = [] := by
  refine climb_old fun n hn => .inr ?_
  obtain ⟨P, hP, rfl⟩ := List.mem_map.mp hn
  obtain ⟨t, rfl⟩ := dn_prefix hP
  have : nmOf P = [] := by
    unfold nmOf
    rw [if_neg]
    intro e
    apply h
    have hl : 5 ≤ P.length := by
      have := congrArg List.length e
      simp at this
      omega
    rw [List.drop_append_of_le_length (by omega), List.take_append_of_le_length (by simp; omega), e]
  rw [this]; rfl
theorem climb_all {R : List Nat} (h3 : R.take 3 = [50, 53, 55]) : climb [] ((dn R.reverse).map nmOf) = dn (nmOf R).reverse := by
  by_cases h : (R.drop 3).take 2 = [32, 34]
  · have e : R = H5 ++ R.drop 5 := by
      have e1 : R = R.take 3 ++ R.drop 3 := (List.take_append_drop 3 R).symm
      have e2 : R.drop 3 = (R.drop 3).take 2 ++ (R.drop 3).drop 2 := (List.take_append_drop 2 _).symm
      rw [h3, e2, h, List.drop_drop] at e1
      exact e1
    have e3 : nmOf R = nm (R.drop 5) := by unfold nmOf; rw [if_pos h]
    rw [e3]
    conv => lhs; rw [e]
    exact climb_name _
  · rw [climb_none h]
    have e3 : nmOf R = [] := by unfold nmOf; rw [if_neg h]
    rw [e3]; exact dn_nil.symm
theorem below_bad {R P : List Nat} (h3 : R.take 3 ≠ [50, 53, 55]) (hP : P ∈ dn R.reverse) : P.take 3 ≠ [50, 53, 55] := by
  obtain ⟨t, rfl⟩ := dn_prefix hP
  intro e
  apply h3
  have hl : 3 ≤ P.length := by
    have := congrArg List.length e
    simp at this
    omega
  rw [List.take_append_of_le_length hl, e]
theorem below_good {R P : List Nat} (h3 : R.take 3 = [50, 53, 55]) (hP : P ∈ dn R.reverse) : P.take 3 = [50, 53, 55] := by
  have hne : ∃ u, R = 50 :: 53 :: 55 :: u := ⟨R.drop 3, by
    have e1 : R = R.take 3 ++ R.drop 3 := (List.take_append_drop 3 R).symm
    rw [h3] at e1; exact e1⟩
  obtain ⟨u, rfl⟩ := hne
  suffices h : ∀ n (u P : List Nat), u.length ≤ n → P ∈ dn (50 :: 53 :: 55 :: u).reverse → ∃ t, P = 50 :: 53 :: 55 :: t by
    obtain ⟨t, rfl⟩ := h _ u P (Nat.le_refl _) hP
    rfl
  clear h3 hP
  intro n
  induction n with
  | zero =>
    intro u P hu hP
    rw [List.length_eq_zero_iff.mp (Nat.le_zero.mp hu)] at hP
    rw [dn_single (by decide) (by decide)] at hP
    exact ⟨[], by simpa using hP⟩
  | succ n ih =>
    intro u P hu hP
    rcases last_slash u with h | ⟨M, q, rfl, hq⟩
    · rw [dn_single (by rw [List.mem_reverse]; simp [h]) (by simp)] at hP
      exact ⟨u, by simpa using hP⟩
    · simp only [List.length_append, List.length_cons] at hu
      have e1 : (50 :: 53 :: 55 :: (M ++ 47 :: q)).reverse = q.reverse ++ 47 :: (50 :: 53 :: 55 :: M).reverse := by simp
      rw [e1] at hP
      by_cases hne : q = []
      · subst hne
        rw [List.reverse_nil, List.nil_append, dn_slash] at hP
        exact ih M P (by omega) hP
      · rw [dn_piece (by rw [List.mem_reverse]; exact hq) (by simpa using hne), ← e1, List.reverse_reverse] at hP
        rcases List.mem_cons.mp hP with rfl | hP
        · exact ⟨_, rfl⟩
        · exact ih M P (by omega) hP

end Mine
end

section
open PySem PySem.W PyProof.Rows PySem.Calls
open Builtin Builtin.Str
set_option Elab.async false
namespace Mine
/-- a text's signs -/
def ch (x : PySem.Str) : List Nat := x.cps.toList
def mk (l : List Nat) : PySem.Str := ⟨l.toArray⟩
@[simp] theorem ch_mk (l : List Nat) : ch (mk l) = l := rfl
@[simp] theorem mk_ch (x : PySem.Str) : mk (ch x) = x := by cases x; rfl
theorem ch_inj {x y : PySem.Str} (h : ch x = ch y) : x = y := by rw [← mk_ch x, ← mk_ch y, h]
theorem ch_len (x : PySem.Str) : (ch x).length = x.length := by simp [ch, PySem.Str.length]
theorem ch_append (x y : PySem.Str) : ch (x ++ y) = ch x ++ ch y := by
  show (x.cps ++ y.cps).toList = _
  rw [Array.toList_append]; rfl
theorem eq_ch (x y : PySem.Str) : (x == y) = (ch x == ch y) := by
  rw [Bool.eq_iff_iff]
  simp only [beq_iff_eq]
  exact ⟨fun h => by rw [h], ch_inj⟩
theorem ne_ch (x y : PySem.Str) : (x != y) = (ch x != ch y) := by
  show (!(x == y)) = !(ch x == ch y)
  rw [eq_ch]

theorem clip_lo (a : Nat) (hi : Option Int) (n : Nat) : strSliceIndices (some (a : Int)) hi 1 n = strSliceIndices (some ((min a n : Nat) : Int)) hi 1 n := by
  unfold strSliceIndices
  have e1 : ¬ ((a : Int) < 0) := by omega
  have e2 : ¬ (((min a n : Nat) : Int) < 0) := by omega
  simp only [e1, e2, if_false, show (1 : Int) > 0 by decide, if_true]
  have e : max (0 : Int) (min (a : Int) n) = max 0 (min ((min a n : Nat) : Int) n) := by omega
  rw [e]
theorem clip_hi (lo : Option Int) (b n : Nat) : strSliceIndices lo (some (b : Int)) 1 n = strSliceIndices lo (some ((min b n : Nat) : Int)) 1 n := by
  unfold strSliceIndices
  have e1 : ¬ ((b : Int) < 0) := by omega
  have e2 : ¬ (((min b n : Nat) : Int) < 0) := by omega
  simp only [e1, e2, if_false, show (1 : Int) > 0 by decide, if_true]
  have e : max (0 : Int) (min (b : Int) n) = max 0 (min ((min b n : Nat) : Int) n) := by omega
  rw [e]
theorem slice_ab (x : PySem.Str) (a b : Nat) (hab : a ≤ b) : ch (Txt.slice x (some (a : Int)) (some (b : Int))) = ((ch x).drop a).take (b - a) := by
  have hn := ch_len x
  have e : Txt.slice x (some (a : Int)) (some (b : Int)) = StrLaws.sliceText x (some ((min a x.length : Nat) : Int)) (some ((min b x.length : Nat) : Int)) := by
    unfold Txt.slice StrLaws.sliceText
    rw [clip_lo a, clip_hi _ b]
  rw [e, StrLaws.sliceText_nat x (by omega) (by omega)]
  show ((ch x).drop (min a x.length)).take (min b x.length - min a x.length) = _
  by_cases ha : a ≤ x.length
  · rw [Nat.min_eq_left ha]
    by_cases hb : b ≤ x.length
    · rw [Nat.min_eq_left hb]
    · rw [Nat.min_eq_right (by omega), List.take_of_length_le (by simp; omega), List.take_of_length_le (by simp; omega)]
  · rw [List.drop_of_length_le (l := ch x) (i := a) (by omega), List.drop_of_length_le (l := ch x) (i := min a x.length) (by omega)]; simp
theorem slice_to (x : PySem.Str) (b : Nat) : ch (Txt.slice x none (some (b : Int))) = (ch x).take b := by
  have e : Txt.slice x none (some (b : Int)) = Txt.slice x (some ((0 : Nat) : Int)) (some (b : Int)) := by unfold Txt.slice; rw [StrLaws.sliceIdx_none_lo]; rfl
  rw [e, slice_ab x 0 b (Nat.zero_le _)]; simp
theorem slice_from (x : PySem.Str) (a : Nat) : ch (Txt.slice x (some (a : Int)) none) = (ch x).drop a := by
  have e : Txt.slice x (some (a : Int)) none = Txt.slice x (some (a : Int)) (some (x.length : Int)) := by unfold Txt.slice; rw [StrLaws.sliceIdx_none_hi]
  have hn := ch_len x
  rw [e]
  by_cases ha : a ≤ x.length
  · rw [slice_ab x a _ ha, List.take_of_length_le (by simp; omega)]
  · have e2 : Txt.slice x (some (a : Int)) (some (x.length : Int)) = Txt.slice x (some ((min a x.length : Nat) : Int)) (some (x.length : Int)) := by unfold Txt.slice; rw [clip_lo a]
    rw [e2, slice_ab x _ _ (by omega), List.drop_of_length_le (l := ch x) (i := a) (by omega), List.drop_of_length_le (l := ch x) (i := min a x.length) (by omega)]; simp
theorem item_at (x : PySem.Str) {i : Nat} (h : i < (ch x).length) : ch (Txt.item x (i : Int)) = [(ch x)[i]] := by
  have hl : i < x.cps.size := by simpa [ch] using h
  have e : x.cps[(i : Int).toNat]? = some ((ch x)[i]) := by
    rw [Int.toNat_natCast]
    simp [ch, hl]
  show [(Txt.charAt x i).getD 0] = _
  unfold Txt.charAt
  rw [StrLaws.at_nonneg (by omega) e]; rfl

theorem rstrip_one (x : PySem.Str) : ch (Txt.rstripChars x (PySem.Str.ofString "/")) = rs (ch x) := by
  have hc : (PySem.Str.ofString "/").cps.contains = fun c => c == 47 := by
    rw [show PySem.Str.ofString "/" = ⟨#[47]⟩ from by decide +kernel]
    funext c
    simp [Array.contains]
  have key : ∀ goes : Nat → Bool, ch (Txt.stripBy goes false true x) = ((ch x).reverse.dropWhile goes).reverse := by
    intro goes
    have h1 : stripLo goes false x = 0 := rfl
    have h2 : stripHi goes true x 0 = x.length - ((ch x).reverse.takeWhile goes).length := by simp [stripHi, ch]
    have e3 : (ch x).take (x.length - ((ch x).reverse.takeWhile goes).length) = ((ch x).reverse.dropWhile goes).reverse := by
      have e4 : ch x = ((ch x).reverse.dropWhile goes).reverse ++ ((ch x).reverse.takeWhile goes).reverse := by
        rw [← List.reverse_append, List.takeWhile_append_dropWhile, List.reverse_reverse]
      have e5 := congrArg List.length e4
      rw [ch_len, List.length_append, List.length_reverse, List.length_reverse] at e5
      have e6 : x.length - ((ch x).reverse.takeWhile goes).length = ((ch x).reverse.dropWhile goes).reverse.length := by rw [List.length_reverse]; omega
      rw [e6]
      have e7 : ∀ a b l : List Nat, l = a ++ b → l.take a.length = a := fun a b l e => by rw [e]; exact List.take_left ..
      exact e7 _ _ _ e4
    unfold Txt.stripBy
    split
    · rename_i hs
      unfold stripSame at hs
      rw [h1, h2] at hs
      have : x.length - ((ch x).reverse.takeWhile goes).length = x.length := by simpa using hs
      rw [← e3, this, ← ch_len, List.take_length]
    · unfold PySem.stripped
      rw [h1, h2]
      show (strSub x 0 _).cps.toList = _
      rw [StrLaws.strSub_toList, List.drop_zero, Nat.sub_zero]
      exact e3
  show ch (Txt.stripBy _ false true x) = _
  rw [hc, key]; rfl

theorem sl_is : PySem.Str.ofString "/" = ⟨#[47]⟩ := by decide +kernel
theorem qt_is : PySem.Str.ofString "\"" = ⟨#[34]⟩ := by decide +kernel
theorem at_one (x : PySem.Str) (c i : Nat) : StrLaws.At x ⟨#[c]⟩ x.length i ↔ (ch x)[i]? = some c := StrLaws.subAt_one x c i
theorem rfind_none {x : PySem.Str} (h : 47 ∉ ch x) : Txt.rfind x (PySem.Str.ofString "/") = -1 := by
  rw [sl_is]
  rcases StrLaws.last_spec x ⟨#[47]⟩ with ⟨e, _⟩ | ⟨i, _, hat, _⟩
  · unfold Txt.rfind; rw [e]
  · exact absurd (List.mem_of_getElem? ((at_one x 47 i).mp hat)) h
theorem rfind_some {x : PySem.Str} {M q : List Nat} (e : ch x = M ++ 47 :: q) (hq : 47 ∉ q) : Txt.rfind x (PySem.Str.ofString "/") = (M.length : Int) := by
  rw [sl_is]
  have hat : StrLaws.At x ⟨#[47]⟩ x.length M.length := (at_one x 47 _).mpr (by rw [e]; simp)
  rcases StrLaws.last_spec x ⟨#[47]⟩ with ⟨_, hn⟩ | ⟨i, ei, hi, hl⟩
  · exact absurd hat (hn _)
  · unfold Txt.rfind; rw [ei]
    have h1 : M.length ≤ i := Nat.not_lt.mp fun hlt => hl _ hlt hat
    have h2 : i = M.length := by
      refine Nat.le_antisymm (Nat.not_lt.mp fun hlt => hq ?_) h1
      have h3 := (at_one x 47 i).mp hi
      rw [e, List.getElem?_append_right h1] at h3
      obtain ⟨k, hk⟩ : ∃ k, i - M.length = k + 1 := ⟨i - M.length - 1, by omega⟩
      rw [hk, List.getElem?_cons_succ] at h3
      exact List.mem_of_getElem? h3
    rw [h2]

/-- cut at each c -/
noncomputable def spl (c : Nat) : List Nat → List (List Nat)
  | [] => [[]]
  | a :: r => if a = c then [] :: spl c r else match spl c r with
    | p :: ps => (a :: p) :: ps
    | [] => [[a]]
/-- glued by c -/
noncomputable def glue (c : Nat) : List (List Nat) → List Nat
  | [] => []
  | [p] => p
  | p :: q :: r => p ++ c :: glue c (q :: r)
theorem spl_ne (c : Nat) (l : List Nat) : spl c l ≠ [] := by
  cases l with
  | nil => simp [spl]
  | cons a r => unfold spl; split <;> (try simp); split <;> simp
theorem glue_cons (c : Nat) (p : List Nat) {r : List (List Nat)} (h : r ≠ []) : glue c (p :: r) = p ++ c :: glue c r := by
  cases r with
  | nil => exact absurd rfl h
  | cons q r => rfl
theorem spl_glue (c : Nat) : ∀ (ps : List (List Nat)), ps ≠ [] → (∀ p ∈ ps, c ∉ p) → spl c (glue c ps) = ps
  | [], h, _ => absurd rfl h
  | p :: r, _, hf => by
    have hp := hf p (by simp)
    have one : ∀ (p l : List Nat) (q : List Nat) (qs : List (List Nat)), c ∉ p → spl c l = q :: qs → spl c (p ++ l) = (p ++ q) :: qs := by
      intro p
      induction p with
      | nil => intro l q qs _ h; exact h
      | cons a p ih =>
        intro l q qs hn h
        simp only [List.mem_cons, not_or] at hn
        rw [List.cons_append, spl, if_neg (Ne.symm hn.1), ih l q qs hn.2 h]; rfl
    cases r with
    | nil =>
      have := one p [] [] [] hp rfl
      simpa [glue] using this
    | cons q r =>
      have ih := spl_glue c (q :: r) (by simp) fun x hx => hf x (by simp only [List.mem_cons] at hx ⊢; exact .inr hx)
      show spl c (p ++ c :: glue c (q :: r)) = _
      rw [one p (c :: glue c (q :: r)) [] (q :: r) hp (by rw [spl, if_pos rfl, ih])]; simp
theorem join_glue (c : Nat) : ∀ (ts : List PySem.Str), ch (PySem.Str.join ⟨#[c]⟩ ts) = glue c (ts.map ch)
  | [] => rfl
  | [x] => rfl
  | x :: y :: r => by
    show ch (x ++ ⟨#[c]⟩ ++ PySem.Str.join ⟨#[c]⟩ (y :: r)) = _
    rw [ch_append, ch_append, join_glue c (y :: r)]
    show ch x ++ [c] ++ _ = ch x ++ c :: _
    simp
theorem txt_join (c : Nat) (ts : List PySem.Str) : ch (Txt.join ⟨#[c]⟩ ts) = glue c (ts.map ch) := by
  show ch (glued ⟨#[c]⟩ ts) = _
  rw [StrLaws.glued_eq_join, join_glue]
theorem split_ne (x y : PySem.Str) : Txt.split x y ≠ [] := by
  unfold Txt.split
  split
  · simp
  · split
    · simp
    · rw [StrLaws.partsBetween_eq]
      obtain ⟨p, r, e⟩ := StrLaws.partsFrom_ne x y.length 0 (occurrences x y 0 x.length (x.length + 1))
      rw [e]; simp
theorem txt_split (c : Nat) (x : PySem.Str) : (Txt.split x ⟨#[c]⟩).map ch = spl c (ch x) := by
  have h1 := congrArg ch (StrLaws.join_split x ⟨#[c]⟩)
  rw [join_glue] at h1
  rw [← h1, spl_glue]
  · simpa using split_ne x ⟨#[c]⟩
  · intro p hp
    obtain ⟨t, ht, rfl⟩ := List.mem_map.mp hp
    exact StrLaws.split_free x c t ht
theorem split_sl (x : PySem.Str) : (Txt.split x (PySem.Str.ofString "/")).map ch = spl 47 (ch x) := by rw [sl_is, txt_split]
theorem split_qt (x : PySem.Str) : (Txt.split x (PySem.Str.ofString "\"")).map ch = spl 34 (ch x) := by rw [qt_is, txt_split]
theorem join_sl (ts : List PySem.Str) : ch (Txt.join (PySem.Str.ofString "/") ts) = glue 47 (ts.map ch) := by rw [sl_is, txt_join]

theorem mul_sl (n : Nat) : ch (Txt.mul (PySem.Str.ofString "/") (n : Int)) = List.replicate n 47 := by
  rw [sl_is]
  unfold Txt.mul
  split
  · have : n = 0 := by omega
    subst this; rfl
  · split
    · rename_i h
      have : n = 1 := by
        simp [PySem.Str.length] at h
        omega
      subst this; rfl
    · show (((List.replicate n #[47]).foldl (· ++ ·) #[]) : Array Nat).toList = _
      have gen : ∀ (k : Nat) (acc : Array Nat), ((List.replicate k #[47]).foldl (· ++ ·) acc).toList = acc.toList ++ List.replicate k 47 := by
        intro k
        induction k with
        | zero => intro acc; simp
        | succ k ih => intro acc; rw [List.replicate_succ, List.foldl_cons, ih, Array.toList_append]; simp [List.replicate_succ]
      rw [gen]; simp

/-- what split tells as its head, cut behind the place i -/
def hd1 (l : List Nat) (i : Nat) : List Nat := if l.take i ≠ [] ∧ l.take i ≠ List.replicate (l.take i).length 47 then rs (l.take i) else l.take i
theorem rs_all {l : List Nat} (h : l = List.replicate l.length 47) : rs l = [] := by
  unfold rs
  rw [h, List.reverse_replicate]
  have : ∀ n, (List.replicate n 47).dropWhile (· == 47) = [] := by
    intro n
    induction n with
    | zero => rfl
    | succ n ih => rw [List.replicate_succ, List.dropWhile_cons]; simpa using ih
  rw [this]; rfl
theorem rs_rs (l : List Nat) : rs (rs l) = rs l := by
  unfold rs
  rw [List.reverse_reverse]
  have : ∀ l : List Nat, (l.dropWhile (· == 47)).dropWhile (· == 47) = l.dropWhile (· == 47) := by
    intro l
    induction l with
    | nil => rfl
    | cons a r ih =>
      by_cases h : (a == 47) = true
      · rw [List.dropWhile_cons, if_pos h, ih]
      · rw [List.dropWhile_cons, if_neg h, List.dropWhile_cons, if_neg h]
  rw [this]
theorem hd1_or (l : List Nat) (i : Nat) : rs (hd1 l i) = [] ∨ rs (hd1 l i) = hd1 l i := by
  unfold hd1
  split
  · exact .inr (rs_rs _)
  · rename_i h
    by_cases h0 : l.take i = []
    · rw [h0]; exact .inr rfl
    · exact .inl (rs_all (by
        have : ¬ (l.take i ≠ List.replicate (l.take i).length 47) := fun q => h ⟨h0, q⟩
        exact Decidable.not_not.mp this))
theorem hd1_dn (l : List Nat) (i : Nat) : dn (hd1 l i).reverse = dn (l.take i).reverse := by
  unfold hd1
  split
  · rw [← dn_rs]
  · rfl
theorem hd1_len (l : List Nat) (i : Nat) : (hd1 l i).length ≤ (l.take i).length := by
  unfold hd1
  split
  · unfold rs
    rw [List.length_reverse]
    exact Nat.le_trans (dw_len _ _) (by simp)
  · exact Nat.le_refl _
/-- one turn of the climb -/
theorem turn_dn {x : PySem.Str} (h0 : ch x ≠ []) (hr : rs (ch x) = ch x) :
    ∃ i : Nat, Txt.rfind x (PySem.Str.ofString "/") + 1 = (i : Int) ∧ i < (ch x).length ∧ dn (ch x).reverse = ch x :: dn (hd1 (ch x) i).reverse := by
  rcases last_slash (ch x) with h | ⟨M, q, e, hq⟩
  · refine ⟨0, by rw [rfind_none h]; rfl, List.length_pos_iff.mpr h0, ?_⟩
    rw [hd1_dn, List.take_zero, List.reverse_nil, dn_nil, dn_single (by rw [List.mem_reverse]; exact h) (by simpa using h0), List.reverse_reverse]
  · have hne : q ≠ [] := by
      rintro rfl
      rw [e] at hr
      have := congrArg List.length hr
      have h2 : rs (M ++ [47]) = rs M := by simp [rs]
      rw [h2] at this
      have h3 : (rs M).length ≤ M.length := by unfold rs; rw [List.length_reverse]; exact Nat.le_trans (dw_len _ _) (by simp)
      simp at this
      omega
    refine ⟨M.length + 1, by rw [rfind_some e hq]; rfl, ?_, ?_⟩
    · have := List.length_pos_iff.mpr hne
      rw [e]; simp; omega
    · have e1 : (ch x).take (M.length + 1) = M ++ [47] := by
        rw [e, show M ++ 47 :: q = (M ++ [47]) ++ q by simp, show M.length + 1 = (M ++ [47]).length by simp]
        exact List.take_left ..
      rw [hd1_dn, e1, e]
      have e2 : (M ++ 47 :: q).reverse = q.reverse ++ 47 :: M.reverse := by simp
      rw [e2, dn_piece (by rw [List.mem_reverse]; exact hq) (by simpa using hne), ← e2, List.reverse_reverse]
      congr 1
      rw [List.reverse_append]
      exact (dn_slash _).symm

/-- the law's own climb: by pieces -/
noncomputable def abv (ps : List (List Nat)) : Nat → List (List Nat)
  | 0 => []
  | k + 1 => if ps.getD k [] = [] then abv ps k else glue 47 (ps.take (k + 1)) :: abv ps k
theorem glue_snoc (c : Nat) (p : List Nat) : ∀ (a : List (List Nat)), a ≠ [] → glue c (a ++ [p]) = glue c a ++ c :: p
  | [], h => absurd rfl h
  | [x], _ => rfl
  | x :: y :: r, _ => by
    show x ++ c :: glue c ((y :: r) ++ [p]) = (x ++ c :: glue c (y :: r)) ++ c :: p
    rw [glue_snoc c p (y :: r) (by simp)]; simp
theorem abv_dn {ps : List (List Nat)} (hf : ∀ p ∈ ps, 47 ∉ p) : ∀ k, k ≤ ps.length → abv ps k = dn (glue 47 (ps.take k)).reverse
  | 0, _ => by rw [List.take_zero]; exact dn_nil.symm
  | k + 1, hk => by
    have ih := abv_dn hf k (by omega)
    have hlt : k < ps.length := by omega
    have e1 : ps.take (k + 1) = ps.take k ++ [ps[k]] := by rw [List.take_add_one]; simp [hlt]
    have e2 : ps.getD k [] = ps[k] := by simp [hlt]
    have hq : 47 ∉ ps[k] := hf _ (List.getElem_mem hlt)
    rw [abv, e2]
    by_cases hk0 : k = 0
    · subst hk0
      rw [e1, List.take_zero, List.nil_append]
      show _ = dn (ps[0]).reverse
      split
      · rename_i h; rw [h]; exact dn_nil.symm
      · rename_i h
        rw [dn_single (by rw [List.mem_reverse]; exact hq) (by simpa using h), List.reverse_reverse]; rfl
    · have hne : ps.take k ≠ [] := by
        intro h
        have := congrArg List.length h
        rw [List.length_take, List.length_nil] at this
        omega
      have e3 : (glue 47 (ps.take (k + 1))).reverse = (ps[k]).reverse ++ 47 :: (glue 47 (ps.take k)).reverse := by
        rw [e1, glue_snoc 47 _ _ hne]; simp
      rw [e3]
      split
      · rename_i h; rw [h, List.reverse_nil, List.nil_append, dn_slash, ih]
      · rename_i h
        rw [dn_piece (by rw [List.mem_reverse]; exact hq) (by simpa using h), ← e3, List.reverse_reverse, ih]
theorem spl_free (c : Nat) : ∀ (l : List Nat), ∀ p ∈ spl c l, c ∉ p
  | [], p, hp => by simp [spl] at hp; simp [hp]
  | a :: r, p, hp => by
    have ih := spl_free c r
    unfold spl at hp
    split at hp
    · rcases List.mem_cons.mp hp with rfl | hp
      · simp
      · exact ih p hp
    · rename_i ha
      split at hp
      · rename_i q qs e
        rcases List.mem_cons.mp hp with rfl | hp
        · have := ih q (by rw [e]; simp)
          simp [this, Ne.symm ha]
        · exact ih p (by rw [e]; simp [hp])
      · simp at hp; subst hp; simp [Ne.symm ha]
theorem glue_spl (c : Nat) : ∀ (l : List Nat), glue c (spl c l) = l
  | [] => rfl
  | a :: r => by
    have ih := glue_spl c r
    have hne := spl_ne c r
    unfold spl
    split
    · rename_i ha
      rw [glue_cons c [] hne, ih, ha]; rfl
    · split
      · rename_i q qs e
        rw [e] at ih
        cases qs with
        | nil => simp [glue] at ih ⊢; exact ih
        | cons q2 qs => simp only [glue] at ih ⊢; rw [← ih]; rfl
      · rename_i e; exact absurd e hne
/-- the law's pieces give the same climb -/
theorem above_dn (l : List Nat) : abv (spl 47 l) (spl 47 l).length = dn l.reverse := by
  rw [abv_dn (spl_free 47 l) _ (Nat.le_refl _), List.take_length, glue_spl]

/-- the law's reading of the name: run for run -/
noncomputable def cont : List (List Nat) → List Nat
  | [] => []
  | [_] => []
  | x :: y :: r => if x = [] then 34 :: y ++ cont r else []
theorem nm_runs (p : List Nat) (r : List (List Nat)) (hp : 34 ∉ p) (hr : ∀ q ∈ r, 34 ∉ q) : nm (glue 34 (p :: r)) = p ++ cont r := by
  have plain : ∀ (p X : List Nat), 34 ∉ p → nm (p ++ X) = p ++ nm X := by
    intro p
    induction p with
    | nil => intro X _; rfl
    | cons a p ih =>
      intro X h
      simp only [List.mem_cons, not_or] at h
      rw [List.cons_append, nm_plain (Ne.symm h.1), ih X h.2]; rfl
  suffices ∀ n (p : List Nat) (r : List (List Nat)), r.length ≤ n → 34 ∉ p → (∀ q ∈ r, 34 ∉ q) → nm (glue 34 (p :: r)) = p ++ cont r from this _ p r (Nat.le_refl _) hp hr
  intro n
  induction n with
  | zero =>
    intro p r hn hp _
    rw [List.length_eq_zero_iff.mp (Nat.le_zero.mp hn)]
    show nm p = p ++ []
    have := plain p [] hp
    simpa [nm] using this
  | succ n ih =>
    intro p r hn hp hr
    have front : ∀ (x : List Nat) (Y : List Nat), 34 ∉ x → x ≠ [] → nm (34 :: (x ++ Y)) = [] := fun x Y hx h0 => by
      refine nm_one ?_
      cases x with
      | nil => exact absurd rfl h0
      | cons a x =>
        simp only [List.mem_cons, not_or] at hx
        simpa using fun q => hx.1 q.symm
    match r, hn, hr with
    | [], _, _ =>
      show nm p = p ++ []
      have := plain p [] hp
      simpa [nm] using this
    | [x], _, hr =>
      show nm (p ++ 34 :: x) = p ++ []
      rw [plain p _ hp]
      by_cases h0 : x = []
      · subst h0; rfl
      · have := front x [] (hr x (by simp)) h0
        rw [List.append_nil] at this
        rw [this]
    | x :: y :: r, hn, hr =>
      simp only [List.length_cons] at hn
      show nm (p ++ 34 :: (x ++ 34 :: glue 34 (y :: r))) = p ++ cont (x :: y :: r)
      rw [plain p _ hp, cont]
      by_cases h0 : x = []
      · subst h0
        rw [if_pos rfl, List.nil_append, nm_two, ih y r (by omega) (hr y (by simp)) fun q hq => hr q (by simp [hq])]; rfl
      · rw [front x _ (hr x (by simp)) h0, if_neg h0]
end Mine
end

section
open PySem PySem.W PyProof.Rows PySem.Calls
set_option Elab.async false
namespace Mine
abbrev RetT := Heap → Addr → (Str → Option Value) → List (Addr × Obj) → Shared → (Value → Shared → Prop) → Prop
def CallC (w : World) (f : Addr) (vs : List Value) (R : RetT) : Prop :=
  ∀ (mean : ExcName → Option Value) (mg mb : Str → Option Value) (dp un : Nat) (gd : Option (List Code)) (cn : Str) (cs : Scope) (a : Addr) (ccd : Value) (A₀ : Around) (base h₀ : Heap) (L : Addr) (m : Str → Option Value) (s : Shared) (Q E : Value → Shared → Prop) (news : List (Addr × Obj)),
    Below A₀ base [] h₀ → Fr h₀ L s.heap m → (hd.heap_39 w.params).In h₀ → News h₀ L s.heap news → Top hd.view_39 (looseW hd.view_39 []) mean mg mb h₀ → cs.kind = .function →
    (hd.heap_39 w.params).In base → Top hd.view_39 (looseW hd.view_39 []) mean mg mb base →
    dp + 8 < recursionLimit → un + 60 < cLine → R h₀ L m news s Q →
      wpAny (model Challenge.rw_in0147_01.row.prog w) (ktrTop dp un gd cn cs L a ccd [] []) (call (.ref f) vs) Q E s
abbrev RetStr (r : List Nat) : RetT := fun h₀ L m news s Q => ∀ (t : Tok) (h' : Heap) (tk' : Nat), Fr h₀ L h' m → News h₀ L h' news → Q (.str (mk r) t) { s with heap := h', toks := tk' }
abbrev RetStrs (rs : List (List Nat)) : RetT := fun h₀ L m news s Q => ∀ (b : Addr) (ws : List Value) (n : Nat) (h' : Heap) (tk' : Nat), StrsAre ws (rs.map mk) → (∀ p ∈ news, p.1 ≠ b) → Fr h₀ L h' m → News h₀ L h' ((b, listOf ws.toArray n) :: news) → Q (.ref b) { s with heap := h', toks := tk' }
/-- a tuple of one text -/
def Tup1 (o : Obj) (l : List Nat) : Prop := o.cls = .type "tuple" ∧ ∃ t n, o.data = .seq #[.str (mk l) t] n
abbrev RetTup (l : List Nat) : RetT := fun h₀ L m news s Q => ∀ (b : Addr) (o : Obj) (h' : Heap) (tk' : Nat), Tup1 o l → Fr h₀ L h' m → News h₀ L h' ((b, o) :: news) → Q (.ref b) { s with heap := h', toks := tk' }

theorem fr_over4 {h₀ h : Heap} {L : Addr} {m : Str → Option Value} {x1 x2 x3 x4 : Str} {v1 v2 v3 v4 : Option Value} (e1 : m x1 = v1) (e2 : m x2 = v2) (e3 : m x3 = v3) (e4 : m x4 = v4) (F : Fr h₀ L h m) :
    Fr h₀ L h (fun y => if y = x1 then v1 else if y = x2 then v2 else if y = x3 then v3 else if y = x4 then v4 else m y) := by
  have : (fun y => if y = x1 then v1 else if y = x2 then v2 else if y = x3 then v3 else if y = x4 then v4 else m y) = m := by
    funext y
    repeat' split
    all_goals simp_all
  rw [this]; exact F
end Mine
end

section
open PySem PySem.W PyProof.Rows PySem.Calls
set_option Elab.async false
set_option maxRecDepth 100000
namespace Mine
section
variable {prog : Program} {w : World} {A : Around} {E : Value → Shared → Prop} {h : Heap} {g : Array GenState} {d : Drawn} {t : Nat} {os : OsState} {a : Addr} {o : Obj} {vs : Array Value} {t0 : Addr}

theorem ns_of {c : Value} {od : Option Addr} {es : Array DictEntry} {n : Nat} {sl : Array (Option Value)} {b : Addr} (X : h.get? b = some ⟨c, od, .dict es n, sl⟩) (hk : ∀ e ∈ es, ∃ n t, e.key = .str n t) : h.Ns b (nsFind es) :=
  ⟨_, es, n, X, rfl, hk, fun _ => rfl⟩

theorem own_args {expr : Bool} {Q : Value → Shared → Prop} (X : (hd.heap_39 w.params).In h) (hx : h.get? a = some o) (hc : o.cls = .ref 44) (hd' : o.data = .fields vs) (h0 : vs[0]? = some (.ref t0)) (hq : Q (.ref t0) ⟨h, g, d, t + 1, os⟩) :
    wpAny (model prog w) A (getAttr (.ref a) "args" expr) Q E ⟨h, g, d, t, os⟩ := by
  refine args_attr_own (C := 44) (N := 43) PySem.F.attrBase_Exception (X 44 _ rfl) (ns_of (X 43 _ rfl) ?_) ?_ (.own (X 31 _ rfl) (ns_of (X 30 _ rfl) ?_) ?_ .base) hx hc hd' h0 hq
  · intro e he
    simp only [List.mem_toArray, List.mem_cons, List.not_mem_nil, or_false] at he
    rcases he with rfl | rfl | rfl | rfl <;> exact ⟨_, _, rfl⟩
  · intro n hn
    simp only [quietNames, List.mem_cons, List.not_mem_nil, or_false] at hn
    rcases hn with rfl | rfl | rfl | rfl <;> rfl
  · intro e he
    simp only [List.mem_toArray, List.mem_cons, List.not_mem_nil, or_false] at he
    rcases he with rfl | rfl | rfl | rfl | rfl <;> exact ⟨_, _, rfl⟩
  · intro n hn
    simp only [quietNames, List.mem_cons, List.not_mem_nil, or_false] at hn
    rcases hn with rfl | rfl | rfl | rfl <;> rfl

theorem got_args {h₀ : Heap} {L e b : Addr} {m : Str → Option Value} {news : List (Addr × Obj)} {ws : List Value} {expr : Bool} {Q : Value → Shared → Prop} (F : Fr h₀ L h m) (X : (hd.heap_39 w.params).In h₀)
    (N : News h₀ L h news) (G : Got news e b (.ref 44) ws) (hq : Q (.ref b) ⟨h, g, d, t + 1, os⟩) : wpAny (model prog w) A (getAttr (.ref e) "args" expr) Q E ⟨h, g, d, t, os⟩ := by
  obtain ⟨oe, ot, us, nt, h1, _, hc, hdd, h0, _⟩ := G
  exact own_args (X.keeps F.keep) (N.get h1) hc hdd h0 hq

theorem got_news {h₀ : Heap} {L e b : Addr} {cls : Value} {news n₂ : List (Addr × Obj)} {ws : List Value} (G : Got n₂ e b cls ws) (N₂ : News h₀ L h n₂) (N : News h₀ L h news) :
    ∃ ot nt, ot.cls = .type "tuple" ∧ ot.data = .seq ws.toArray nt ∧ News h₀ L h ((b, ot) :: news) := by
  obtain ⟨oe, ot, us, nt, h1, h2, hc, hdd, h0, hcl, hda⟩ := G
  refine ⟨ot, nt, hcl, hda, fun p hp => ?_⟩
  rcases List.mem_cons.mp hp with rfl | hp
  · exact N₂ _ h2
  · exact N p hp
end
end Mine
end

section
open PySem PySem.W PyProof.Rows PySem.Calls
set_option Elab.async false
set_option maxRecDepth 100000
namespace Mine
section
theorem scan1 {x : Str} {ii : Int} (h0 : 0 ≤ ii) (h1 : ii < x.length) : ∃ c, ch (Txt.item x ii) = [c] ∧ (ch x).drop ii.toNat = c :: (ch x).drop (ii + 1).toNat := by
  obtain ⟨i, rfl⟩ := Int.eq_ofNat_of_zero_le h0
  have hl : i < (ch x).length := by rw [ch_len]; omega
  refine ⟨(ch x)[i], item_at x hl, ?_⟩
  rw [show ((i : Int) + 1).toNat = i + 1 by omega, Int.toNat_natCast]
  exact List.drop_eq_getElem_cons hl
theorem qt_ch : ch (Str.ofString "\"") = [34] := by rw [qt_is]; rfl
theorem isq {x : Str} {c : Nat} (h : ch x = [c]) : (x == Str.ofString "\"") = (c == 34) := by rw [eq_ch, h, qt_ch]; simp
theorem isnq {x : Str} {c : Nat} (h : ch x = [c]) : (x != Str.ofString "\"") = (c != 34) := by rw [ne_ch, h, qt_ch]; simp [bne]

def PJ (x : Str) (t0 : Tok) (news : List (Addr × Obj)) (n : Nat) (m₁ : Str → Option Value) (news₁ : List (Addr × Obj)) : Prop :=
  ∃ (i : Int) (d : Str) (td ti tn : Tok), news₁ = news ∧ m₁ "resp" = some (.str x t0) ∧ m₁ "dirname" = some (.str d td) ∧ m₁ "i" = some (.int i ti) ∧ m₁ "n" = some (.int x.length tn) ∧
    5 ≤ i ∧ i ≤ x.length ∧ n = x.length - i.toNat ∧ (d.length : Int) ≤ i ∧ ch d ++ nm ((ch x).drop i.toNat) = nm ((ch x).drop 5)
theorem PJ_start {x : Str} {t0 : Tok} {news : List (Addr × Obj)} {m₁ : Str → Option Value} {td ti tn : Tok} (h5 : 5 ≤ x.length) (e1 : m₁ "resp" = some (.str x t0)) (e2 : m₁ "dirname" = some (.str (Str.ofString "") td))
    (e3 : m₁ "i" = some (.int 5 ti)) (e4 : m₁ "n" = some (.int x.length tn)) : PJ x t0 news (x.length - 5) m₁ news :=
  ⟨5, _, td, ti, tn, rfl, e1, e2, e3, e4, by omega, by omega, rfl, by show ((0 : Nat) : Int) ≤ 5; omega, rfl⟩
variable {x : Str} {t0 : Tok} {news : List (Addr × Obj)} {ii : Int} {dd : Str}
theorem PJ_next (h5 : 5 ≤ ii) (hlt : ii < x.length) (hd : (dd.length : Int) ≤ ii) (hinv : ch dd ++ nm ((ch x).drop ii.toNat) = nm ((ch x).drop 5))
    (hq : (Txt.item x ii == Str.ofString "\"") = false) {m₁ : Str → Option Value} {td ti tn : Tok} (e1 : m₁ "resp" = some (.str x t0)) (e2 : m₁ "dirname" = some (.str (dd ++ Txt.item x ii) td))
    (e3 : m₁ "i" = some (.int (ii + 1) ti)) (e4 : m₁ "n" = some (.int x.length tn)) : PJ x t0 news (x.length - (ii + 1).toNat) m₁ news := by
  obtain ⟨c, hc, hdr⟩ := scan1 (by omega) hlt
  rw [isq hc] at hq
  have hc34 : c ≠ 34 := by simpa using hq
  refine ⟨ii + 1, _, td, ti, tn, rfl, e1, e2, e3, e4, by omega, by omega, rfl, ?_, ?_⟩
  · rw [Str.length_append, ← ch_len (Txt.item x ii), hc]; simp; omega
  · rw [hdr, nm_plain hc34] at hinv
    rw [ch_append, hc, ← hinv]; simp
theorem PJ_two (h5 : 5 ≤ ii) (hlt : ii < x.length) (hd : (dd.length : Int) ≤ ii) (hinv : ch dd ++ nm ((ch x).drop ii.toNat) = nm ((ch x).drop 5))
    (hq : (Txt.item x ii == Str.ofString "\"") = true) (hl2 : ¬ ((x.length : Int) ≤ ii + 1)) (hq2 : (Txt.item x (ii + 1) != Str.ofString "\"") = false) {m₁ : Str → Option Value} {td ti tn : Tok} (e1 : m₁ "resp" = some (.str x t0)) (e2 : m₁ "dirname" = some (.str (dd ++ Txt.item x ii) td))
    (e3 : m₁ "i" = some (.int (ii + 1 + 1) ti)) (e4 : m₁ "n" = some (.int x.length tn)) : PJ x t0 news (x.length - (ii + 1 + 1).toNat) m₁ news := by
  obtain ⟨c, hc, hdr⟩ := scan1 (by omega) hlt
  obtain ⟨c2, hc2, hdr2⟩ := scan1 (x := x) (ii := ii + 1) (by omega) (by omega)
  rw [isq hc] at hq
  rw [isnq hc2] at hq2
  have hc34 : c = 34 := by simpa using hq
  have hc35 : c2 = 34 := by simpa using hq2
  subst hc34 hc35
  refine ⟨ii + 1 + 1, _, td, ti, tn, rfl, e1, e2, e3, e4, by omega, by omega, rfl, ?_, ?_⟩
  · rw [Str.length_append, ← ch_len (Txt.item x ii), hc]; simp; omega
  · rw [hdr, hdr2, nm_two] at hinv
    rw [ch_append, hc, ← hinv]; simp
theorem PJ_out1 (h5 : 5 ≤ ii) (hlt : ii < x.length) (hinv : ch dd ++ nm ((ch x).drop ii.toNat) = nm ((ch x).drop 5)) (hq : (Txt.item x ii == Str.ofString "\"") = true) (hl2 : (x.length : Int) ≤ ii + 1) : dd = mk (nm ((ch x).drop 5)) := by
  obtain ⟨c, hc, hdr⟩ := scan1 (by omega) hlt
  rw [isq hc] at hq
  have hc34 : c = 34 := by simpa using hq
  subst hc34
  rw [hdr, List.drop_of_length_le (by rw [ch_len]; omega), nm_one (by simp), List.append_nil] at hinv
  rw [← hinv, mk_ch]
theorem PJ_out2 (h5 : 5 ≤ ii) (hlt : ii < x.length) (hinv : ch dd ++ nm ((ch x).drop ii.toNat) = nm ((ch x).drop 5)) (hq : (Txt.item x ii == Str.ofString "\"") = true) (hl2 : ¬ ((x.length : Int) ≤ ii + 1)) (hq2 : (Txt.item x (ii + 1) != Str.ofString "\"") = true) : dd = mk (nm ((ch x).drop 5)) := by
  obtain ⟨c, hc, hdr⟩ := scan1 (by omega) hlt
  obtain ⟨c2, hc2, hdr2⟩ := scan1 (x := x) (ii := ii + 1) (by omega) (by omega)
  rw [isq hc] at hq
  rw [isnq hc2] at hq2
  have hc34 : c = 34 := by simpa using hq
  have hc35 : c2 ≠ 34 := by simpa using hq2
  subst hc34
  rw [hdr, hdr2, nm_one (by simpa using hc35), List.append_nil] at hinv
  rw [← hinv, mk_ch]
theorem PJ_out3 (h5 : 5 ≤ ii) (hlt : ¬ (ii < x.length)) (hinv : ch dd ++ nm ((ch x).drop ii.toNat) = nm ((ch x).drop 5)) : dd = mk (nm ((ch x).drop 5)) := by
  rw [List.drop_of_length_le (by rw [ch_len]; omega)] at hinv
  rw [← hinv]; simp [nm]
/-- the two looks at a reply's head -/
theorem is257 (x : Str) : (Txt.slice x none (some 3) != Str.ofString "257") = ((ch x).take 3 != [50, 53, 55]) := by
  rw [ne_ch, show ((3 : Int)) = ((3 : Nat) : Int) from rfl, slice_to]; rfl
theorem isHead (x : Str) : (Txt.slice x (some 3) (some 5) != Str.ofString " \"") = (((ch x).drop 3).take 2 != [32, 34]) := by
  rw [ne_ch, show ((3 : Int)) = ((3 : Nat) : Int) from rfl, show ((5 : Int)) = ((5 : Nat) : Int) from rfl, slice_ab x 3 5 (by decide)]; rfl
theorem nmOf_yes {x : Str} (h : (Txt.slice x (some 3) (some 5) != Str.ofString " \"") = false) : nmOf (ch x) = nm ((ch x).drop 5) := by
  rw [isHead] at h
  unfold nmOf
  rw [if_pos (by simpa using h)]
theorem nmOf_no {x : Str} (h : (Txt.slice x (some 3) (some 5) != Str.ofString " \"") = true) : nmOf (ch x) = [] := by
  rw [isHead] at h
  unfold nmOf
  rw [if_neg (by simpa using h)]
theorem len5 {x : Str} (h : (Txt.slice x (some 3) (some 5) != Str.ofString " \"") = false) : 5 ≤ x.length := by
  rw [isHead] at h
  have h : ((ch x).drop 3).take 2 = [32, 34] := by simpa using h
  have := congrArg List.length h
  simp [ch_len] at this
  omega
end
local macro_rules | `(tactic| k_room) => `(tactic| ktr_room)
local macro_rules | `(tactic| k_units) => `(tactic| ktr_units)
set_option maxHeartbeats 8000000 in
theorem read_ok (w : World) (x : Str) (t0 : Tok) (hx : x.length ≤ 1000) (h3 : (Txt.slice x none (some 3) != Str.ofString "257") = false) : CallC w 88 [.str x t0] (RetStr (nmOf (ch x))) := by
  unfold CallC
  k_fill
  k_with_none
  intro mean mg mb dp un gd cn cs a ccd A₀ base h₀ L m s Q E news B F KX N T hcs XB TB hdp hun hret
  k_with "exec While Compare cons nil" => (
    refine' While_inv2 (PJ x t0 news) (n₀ := x.length - 5) ?kF ?kN ?kJ ?_ (hE := ?_)
    (case kF => k_asm)
    (case kN => k_asm)
    (case kJ => (refine' PJ_start (len5 (by assumption)) ?ka ?kb ?kc ?kd; (case ka => with_unfolding_all rfl); (case kb => with_unfolding_all rfl); (case kc => with_unfolding_all rfl); (case kd => with_unfolding_all rfl)))
    intro nn m₁ news₁ h₁ tk₁ F₁ N₁ J₁
    unfold PJ at J₁
    obtain ⟨ii, dd, td, ti, tn, en, e1, e2, e3, e4, hi5, hil, hn, hd, hinv⟩ := J₁
    subst en
    have F₂ := fr_over4 e1 e2 e3 e4 F₁
    clear F₁)
  refine wpAny_call ?_
  k_dflt (refine' code_defS0 ?k1 ?k2 ?k3 ?k4 ?k5 ?kA ?k6 ?k7 ?k8 ?k9 ?kB ?_ ?cK ?c2 ?c3 ?c4 ?c5; (case kA => exact rfl); (case k2 => k_asm); (case k1 => k_asm); (case k3 => k_asm); (case k4 => k_asm); (case k5 => k_asm); (case k6 => k_is); (case k7 => k_is); (case k8 => ktr_room); (case k9 => exact BindsTo.of_eq rfl); (case kB => exact locs rfl); (case cK => assumption); (case c2 => exact rfl); (case c3 => exact rfl); (case c4 => exact rfl); (case c5 => decide); k_whole; intro g' L' h' FG' F' N' B' X' T' D'; (try dsimp only); (try k_lift B'); (try k_fold))
  k_steps
  all_goals (try dsimp only [WhileStep2])
  all_goals (try (show wpAny _ _ _ _ _ _; k_steps))
  · rw [nmOf_no (by assumption)] at hret
    exact hret _ _ _ (by assumption) (by assumption)
  · rw [nmOf_yes (by assumption)] at hret
    rw [PJ_out1 hi5 (by assumption) hinv (by assumption) (by assumption)]
    exact hret _ _ _ (by assumption) (by assumption)
  · rw [nmOf_yes (by assumption)] at hret
    rw [PJ_out2 hi5 (by assumption) hinv (by assumption) (by assumption) (by assumption)]
    exact hret _ _ _ (by assumption) (by assumption)
  · refine' ⟨_, _, _, _, x.length - (ii + 1 + 1).toNat, rfl, ?f, ?n, ?lt, ?j⟩
    (case f => assumption)
    (case n => assumption)
    (case lt => omega)
    (case j => (refine' PJ_two hi5 (by assumption) hd hinv (by assumption) (by assumption) (by assumption) ?ka ?kb ?kc ?kd; (case ka => with_unfolding_all rfl); (case kb => with_unfolding_all rfl); (case kc => with_unfolding_all rfl); (case kd => with_unfolding_all rfl)))
  · refine' ⟨_, _, _, _, x.length - (ii + 1).toNat, rfl, ?f, ?n, ?lt, ?j⟩
    (case f => assumption)
    (case n => assumption)
    (case lt => omega)
    (case j => (refine' PJ_next hi5 (by assumption) hd hinv (by assumption) ?ka ?kb ?kc ?kd; (case ka => with_unfolding_all rfl); (case kb => with_unfolding_all rfl); (case kc => with_unfolding_all rfl); (case kd => with_unfolding_all rfl)))
  · rw [nmOf_yes (by assumption)] at hret
    rw [PJ_out3 hi5 (by assumption) hinv]
    exact hret _ _ _ (by assumption) (by assumption)

local macro_rules | `(tactic| walk_at "getAttr ref") => `(tactic| (k_here; (with_reducible show wpAny _ _ (getAttr (Value.ref _) ("args" : Str) _) _ _ _); k_dflt (refine' got_args ?X ?F ?N ?G ?_; (case G => assumption); (case N => assumption); (case X => assumption); (case F => assumption); k_whole); (with_reducible rename News _ _ _ _ => gn1); (with_reducible rename Got _ _ _ _ _ => gn2); (have gn3 := got_news gn2 (by assumption) gn1); (obtain ⟨ot9, nt9, oc9, od9, nw9⟩ := gn3)))
set_option maxHeartbeats 8000000 in
theorem read_bad (w : World) (x : Str) (t0 : Tok) (hx : x.length ≤ 1000) (h3 : (Txt.slice x none (some 3) != Str.ofString "257") = true) : CallC w 88 [.str x t0] (RetTup (ch x)) := by
  unfold CallC
  k_fill
  k_with_none
  intro mean mg mb dp un gd cn cs a ccd A₀ base h₀ L m s Q E news B F KX N T hcs XB TB hdp hun hret
  refine wpAny_call ?_
  k_dflt (refine' code_defS0 ?k1 ?k2 ?k3 ?k4 ?k5 ?kA ?k6 ?k7 ?k8 ?k9 ?kB ?_ ?cK ?c2 ?c3 ?c4 ?c5; (case kA => exact rfl); (case k2 => k_asm); (case k1 => k_asm); (case k3 => k_asm); (case k4 => k_asm); (case k5 => k_asm); (case k6 => k_is); (case k7 => k_is); (case k8 => ktr_room); (case k9 => exact BindsTo.of_eq rfl); (case kB => exact locs rfl); (case cK => assumption); (case c2 => exact rfl); (case c3 => exact rfl); (case c4 => exact rfl); (case c5 => decide); k_whole; intro g' L' h' FG' F' N' B' X' T' D'; (try dsimp only); (try k_lift B'); (try k_fold))
  k_steps
  refine' hret _ _ _ _ ?t ?f ?n
  (case f => assumption)
  (case n => assumption)
  (case t => (refine' ⟨by assumption, t0, _, ?d⟩; (case d => (rw [mk_ch]; assumption))))
end Mine
end

section
open PySem PySem.W PyProof.Rows PySem.Calls
set_option Elab.async false
set_option maxRecDepth 100000
namespace Mine
theorem fr_over3 {h₀ h : Heap} {L : Addr} {m : Str → Option Value} {x1 x2 x3 : Str} {v1 v2 v3 : Option Value} (e1 : m x1 = v1) (e2 : m x2 = v2) (e3 : m x3 = v3) (F : Fr h₀ L h m) :
    Fr h₀ L h (fun y => if y = x1 then v1 else if y = x2 then v2 else if y = x3 then v3 else m y) := by
  have : (fun y => if y = x1 then v1 else if y = x2 then v2 else if y = x3 then v3 else m y) = m := by
    funext y
    repeat' split
    all_goals simp_all
  rw [this]; exact F
theorem nm_len (l : List Nat) : (nm l).length ≤ l.length := by
  suffices ∀ n (l : List Nat), l.length ≤ n → (nm l).length ≤ l.length from this _ l (Nat.le_refl _)
  intro n
  induction n with
  | zero => intro l h; rw [List.length_eq_zero_iff.mp (Nat.le_zero.mp h)]; exact Nat.le_refl _
  | succ n ih =>
    intro l h
    cases l with
    | nil => exact Nat.le_refl _
    | cons c r =>
      simp only [List.length_cons] at h
      by_cases hc : c = 34
      · subst hc
        cases r with
        | nil => simp [nm]
        | cons d r =>
          simp only [List.length_cons] at h
          by_cases hd : d = 34
          · subst hd; rw [nm_two]; have := ih r (by omega); simp only [List.length_cons]; omega
          · rw [nm_one (by simpa using hd)]; simp
      · rw [nm_plain hc]; have := ih r (by omega); simp only [List.length_cons]; omega

theorem spl_len (c : Nat) (l : List Nat) : (spl c l).length ≤ l.length + 1 := by
  induction l with
  | nil => simp [spl]
  | cons a r ih =>
    unfold spl
    split
    · simp; omega
    · split
      · rename_i q qs e
        rw [e] at ih
        simp at ih ⊢; omega
      · simp
theorem getD_len {rl : List Str} {B : Nat} (hB : ∀ a ∈ rl, a.length ≤ B) (j : Nat) : (rl.getD j Str.empty).length ≤ B := by
  rw [List.getD_eq_getElem?_getD]
  cases e : rl[j]? with
  | none => exact Nat.zero_le _
  | some y => exact hB y (List.mem_of_getElem? e)
theorem cont_drop {rl : List Str} {j : Nat} (h : j + 1 < rl.length) : cont ((rl.map ch).drop j) = if ch (rl.getD j Str.empty) = [] then 34 :: ch (rl.getD (j + 1) Str.empty) ++ cont ((rl.map ch).drop (j + 1 + 1)) else [] := by
  have e1 : (rl.map ch).drop j = ch (rl.getD j Str.empty) :: ch (rl.getD (j + 1) Str.empty) :: (rl.map ch).drop (j + 1 + 1) := by
    have h1 : j < (rl.map ch).length := by simp; omega
    have h2 : j + 1 < (rl.map ch).length := by simp; omega
    rw [List.drop_eq_getElem_cons h1, List.drop_eq_getElem_cons h2]
    simp [List.getD_eq_getElem?_getD, show j < rl.length by omega, h]
  rw [e1]; rfl
theorem cont_end {rl : List Str} {j : Nat} (h : ¬ j + 1 < rl.length) : cont ((rl.map ch).drop j) = [] := by
  cases e : (rl.map ch).drop j with
  | nil => rfl
  | cons a r =>
    cases r with
    | nil => rfl
    | cons b r =>
      have := congrArg List.length e
      simp at this
      omega
theorem is_empty (x : Str) : (x == Str.ofString "") = decide (ch x = []) := by
  rw [eq_ch, show ch (Str.ofString "") = [] from rfl, Bool.eq_iff_iff]; simp

def NJ (D : Addr) (rl : List Str) (W : List Nat) (news : List (Addr × Obj)) (n : Nat) (m₁ : Str → Option Value) (news₁ : List (Addr × Obj)) : Prop :=
  ∃ (k : Int) (d : Str) (td tk : Tok), news₁ = news ∧ m₁ "runs" = some (.ref D) ∧ m₁ "name" = some (.str d td) ∧ m₁ "k" = some (.int k tk) ∧
    1 ≤ k ∧ n = rl.length + 1 - k.toNat ∧ rl.length ≤ 1001 ∧ d.length ≤ W.length ∧ ch d ++ cont ((rl.map ch).drop k.toNat) = W
theorem NJ_start {D : Addr} {rl : List Str} {x y : Str} {news : List (Addr × Obj)} {m₁ : Str → Option Value} {td tk : Tok} (hx : x.length ≤ 1000) (he : rl = Txt.split (Txt.slice x (some 5) none) (Str.ofString "\"")) (hy : rl[(0 : Int).toNat]? = some y)
    (e1 : m₁ "runs" = some (.ref D)) (e2 : m₁ "name" = some (.str y td)) (e3 : m₁ "k" = some (.int 1 tk)) : NJ D rl (nm ((ch x).drop 5)) news rl.length m₁ news := by
  have key : ch y ++ cont ((rl.map ch).drop 1) = nm ((ch x).drop 5) := by
    have h1 : rl.map ch = spl 34 ((ch x).drop 5) := by rw [he, split_qt, show ((5 : Int)) = ((5 : Nat) : Int) from rfl, slice_from]
    cases rl with
    | nil => simp at hy
    | cons z rl =>
      have hz : z = y := by simpa using hy
      subst hz
      have hf := spl_free 34 ((ch x).drop 5)
      rw [← h1] at hf
      have h2 := nm_runs (ch z) (rl.map ch) (hf _ (by simp)) (fun q hq => hf q (by rw [List.map_cons]; exact .tail _ hq))
      rw [← List.map_cons, h1, glue_spl] at h2
      exact h2.symm
  refine ⟨1, y, td, tk, rfl, e1, e2, e3, Int.le_refl _, by omega, ?_, ?_, key⟩
  · have := congrArg List.length (congrArg (List.map ch) he)
    rw [split_qt, show ((5 : Int)) = ((5 : Nat) : Int) from rfl, slice_from, List.length_map] at this
    have h2 := spl_len 34 ((ch x).drop 5)
    rw [List.length_drop, ch_len] at h2
    omega
 
  rw [← key, List.length_append, ch_len]; omega
local macro_rules | `(tactic| k_room) => `(tactic| ktr_room)
local macro_rules | `(tactic| k_units) => `(tactic| ktr_units)
theorem NJ_next {D : Addr} {rl : List Str} {W : List Nat} {news : List (Addr × Obj)} {m₁ : Str → Option Value} {kk : Int} {dd : Str} {td tk : Tok} (hk1 : 1 ≤ kk) (hrl : rl.length ≤ 1001) (hinv : ch dd ++ cont ((rl.map ch).drop kk.toNat) = W)
    (hlt : kk + 1 < rl.length) (he : (rl.getD kk.toNat Str.empty == Str.ofString "") = true) (e1 : m₁ "runs" = some (.ref D)) (e2 : m₁ "name" = some (.str (dd ++ Str.ofString "\"" ++ rl.getD (kk + 1).toNat Str.empty) td)) (e3 : m₁ "k" = some (.int (kk + 2) tk)) :
    NJ D rl W news (rl.length + 1 - (kk + 2).toNat) m₁ news := by
  rw [is_empty] at he
  have he : ch (rl.getD kk.toNat Str.empty) = [] := by simpa using he
  have e5 : (kk + 1).toNat = kk.toNat + 1 := by omega
  have e6 : (kk + 2).toNat = kk.toNat + 1 + 1 := by omega
  rw [cont_drop (by omega), if_pos he] at hinv
  have key : ch (dd ++ Str.ofString "\"" ++ rl.getD (kk + 1).toNat Str.empty) ++ cont ((rl.map ch).drop (kk + 2).toNat) = W := by
    rw [ch_append, ch_append, qt_ch, ← hinv, e5, e6]; simp
  refine ⟨kk + 2, _, td, tk, rfl, e1, e2, e3, by omega, rfl, hrl, ?_, key⟩
  rw [← key, List.length_append, ch_len]; omega
theorem NJ_out {rl : List Str} {W : List Nat} {kk : Int} {dd : Str} (hk1 : 1 ≤ kk) (hinv : ch dd ++ cont ((rl.map ch).drop kk.toNat) = W)
    (h : ¬ (kk + 1 < rl.length) ∨ (kk + 1 < rl.length ∧ (rl.getD kk.toNat Str.empty == Str.ofString "") = false)) : dd = mk W := by
  have : cont ((rl.map ch).drop kk.toNat) = [] := by
    rcases h with h | ⟨h1, h2⟩
    · exact cont_end (by omega)
    · rw [cont_drop (by omega), if_neg]
      rw [is_empty] at h2
      simpa using h2
  rw [this, List.append_nil] at hinv
  rw [← hinv, mk_ch]
set_option maxHeartbeats 8000000 in
theorem name_is (w : World) (x : Str) (t0 : Tok) (hx : x.length ≤ 1000) : CallC w 100 [.str x t0] (RetStr (nmOf (ch x))) := by
  unfold CallC
  k_fill
  k_with_none
  intro mean mg mb dp un gd cn cs a ccd A₀ base h₀ L m s Q E news B F KX N T hcs XB TB hdp hun hret
  k_with "exec While BoolOp cons nil" => (
    refine' While_inv2 (NJ ?kD ?kR (nm ((ch x).drop 5)) ?kW) (n₀ := ?kZ) ?kF ?kN ?kJ ?_ (hE := ?_)
    (case kF => k_asm)
    (case kN => k_asm)
    (case kJ => (refine' NJ_start hx ?ka ?kb ?kc ?kd ?ke; (case ka => assumption); (case kb => assumption); (case kc => with_unfolding_all rfl); (case kd => with_unfolding_all rfl); (case ke => with_unfolding_all rfl)))
    intro nn m₁ news₁ h₁ tk₁ F₁ N₁ J₁
    unfold NJ at J₁
    obtain ⟨kk, dd, td, tk, en, e1, e2, e3, hk1, hn, hrl, hd, hinv⟩ := J₁
    subst en
    have hN9 := nm_len ((ch x).drop 5)
    have hN8 : ((ch x).drop 5).length ≤ x.length := by rw [List.length_drop, ch_len]; omega
    have hdd : dd.length ≤ 1000 := by omega
    have hB9 := getD_len (B := (Txt.slice x (some 5) none).length) (by assumption) (kk + 1).toNat
    have F₂ := fr_over3 e1 e2 e3 F₁
    clear F₁)
  refine wpAny_call ?_
  k_dflt cell_enter
  k_steps
  all_goals (try dsimp only [WhileStep2])
  all_goals (try (show wpAny _ _ _ _ _ _; k_steps))
  · rw [nmOf_no (by assumption)] at hret
    exact hret _ _ _ (by assumption) (by assumption)
  · refine' ⟨_, _, _, _, (List.map (fun (x : Str × Tok) => x.1) _).length + 1 - (kk + 2).toNat, rfl, ?f, ?n, ?lt, ?j⟩
    (case f => assumption)
    (case n => assumption)
    (case j => (refine' NJ_next hk1 hrl hinv (by assumption) (by assumption) ?ka ?kb ?kc; (case ka => with_unfolding_all rfl); (case kb => with_unfolding_all rfl); (case kc => with_unfolding_all rfl)))
    (case lt => omega)
  · rw [nmOf_yes (by assumption)] at hret
    rw [NJ_out hk1 hinv (.inr ⟨by assumption, by assumption⟩)]
    exact hret _ _ _ (by assumption) (kst_newsOf (by assumption) fun _ hp => .tail _ hp)
  · rw [nmOf_yes (by assumption)] at hret
    rw [NJ_out hk1 hinv (.inl (by assumption))]
    exact hret _ _ _ (by assumption) (kst_newsOf (by assumption) fun _ hp => .tail _ hp)
end Mine
end

section
open PySem PySem.W PyProof.Rows PySem.Calls
set_option Elab.async false
set_option maxRecDepth 100000
namespace Mine
open LCg LCt
/-- a comprehension with one test, down a range -/
def SrcD (prog : Program) (w : World) (A : Around) (h₀ : Heap) (L : Addr) (m : Str → Option Value) (env : Env) (ct elt : Expr) (x : Str) (scope : Scope) (cl : List (Str × Addr)) (Fin : Shared → List Value → List (Addr × Obj) → Prop) (xv : Value) (s₁ : Shared) : Prop :=
  ∃ r t u v n news, xv = .ref r ∧ A.handled = none ∧ Fr h₀ L s₁.heap m ∧ News h₀ L s₁.heap news ∧ IsRange s₁.heap r ((n : Nat) : Int) 0 (-1) t u v ∧ n ≤ 1001 ∧
    ∀ g, CompRestT prog w A h₀ L m env ct elt x scope cl { s₁ with heap := g } (fun _ => True) (fun i v => ∃ t, v = .int ((n : Int) - (i : Int)) t) (Fin { s₁ with heap := g }) n 0 [] news
section
variable {prog : Program} {w : World} {A : Around} {E : Value → Shared → Prop} {s : Shared} {h₀ : Heap} {L : Addr} {m : Str → Option Value} {env : Env}
theorem down_walks {I : Addr} (hh : A.handled = none) (n : Nat) : Walks prog w A I [I] [I] n (fun i v => ∃ t, v = .int ((n : Int) - (i : Int)) t) (fun i h => IsRangeIter h I ((n : Int) + (i : Nat) * (-1)) ((n : Int) - (i : Nat)) (-1)) :=
  let W : Walks prog w A I [I] [I] n (fun i v => i < n ∧ ∃ t, v = .int ((n : Int) + i * (-1)) t) (fun i h => IsRangeIter h I ((n : Int) + (i : Nat) * (-1)) ((n : Int) - (i : Nat)) (-1)) := (Walks.range hh I n (-1) n).bound
  { sub := W.sub, frame := W.frame, done := W.done, self := W.self,
    item := fun i s Q E hi st hQ => W.item i s Q E hi st fun v h' tk hP => hQ v h' tk (by obtain ⟨_, t, rfl⟩ := hP; exact ⟨t, by rw [show (n : Int) + i * (-1) = n - i by omega]⟩) }
theorem down_st {I : Addr} {n : Nat} : ∀ i (h h' : Heap) (o : Obj) (nw : List (Addr × Obj)), IsRangeIter h I ((n : Int) + (i : Nat) * (-1)) ((n : Int) - (i : Nat)) (-1) → h.get? I = some o → h'.get? I = some o → (∀ b o, h₀.get? b = some o → h'.get? b = some o) → News h₀ L h' nw → True → IsRangeIter h' I ((n : Int) + (i : Nat) * (-1)) ((n : Int) - (i : Nat)) (-1) :=
  fun i h h' o nw st e e' _ _ _ => by
    have st' : h.get? I = some _ := st
    show h'.get? I = some _
    rw [e', ← e]; exact st'
theorem down_size (n : Nat) : Builtin.Range.rangeSize (n : Int) 0 (-1) = (n : Int) := by
  unfold Builtin.Range.rangeSize
  simp
  omega
theorem ListComp_down {ct elt iter : Expr} {x : Str} {px : Pos} {scope : Scope} {cl : List (Str × Addr)} {pos : Pos} {Q : Value → Shared → Prop} (_F₀ : Fr h₀ L s.heap m)
    (hclos : closureFor scope env = pure cl) (hcell : ∀ y ∈ scope.names, y.2 ≠ .cell) (hkind : scope.kind = .function)
    (hnames : ∀ y ∈ scope.names, y.2 = .local → scope.names.lookup y.1 = some .local) (hx : scope.names.lookup x = some .local)
    (h : wpAny (model prog w) A (eval iter env) (SrcD prog w A h₀ L m env ct elt x scope cl (fun s₂ => FinE h₀ L m s₂ Q)) E s)
    (hs : ∀ x, foldedSetIterable iter env x = pure x := by intro _; rfl) :
    wpAny (model prog w) A (eval (.ListComp elt [⟨.Name x px, iter, [ct], 0⟩] scope pos) env) Q E s := by
  rw [eval_ListComp]
  refine wpAny_comprehension_free (use := none) rfl hs hclos hkind hnames (wpAny_mono h (fun xv s₁ h₁ => ?_) fun _ _ e => e)
  obtain ⟨r, t, u, v, n, news, rfl, hh, F, N, hr, hn, R⟩ := h₁
  have hsm : Builtin.Range.small (n : Int) 0 (-1) = true := by
    unfold Builtin.Range.small
    rw [down_size]
    unfold Builtin.Range.rangeFitsLong
    simp only [Bool.and_eq_true, Bool.or_eq_true, decide_eq_true_eq, beq_iff_eq]
    refine ⟨⟨⟨⟨by omega, by omega⟩, by omega⟩, by omega⟩, .inr ?_⟩
    rw [if_neg (by decide)]
    simp
  refine wpAny_pyIter_range hr hsm ?_
  refine block_T (down_walks hh n) (by rw [sizeLine_eq]; omega) (fun i h st => ⟨_, st⟩) down_st hcell hkind hx (by show IsRangeIter _ _ _ _ _; rw [down_size]; simpa using Heap.get?_push_size _ rfl) (fun b hb => ?_)
    (F.keeps fun _ _ e => Heap.get?_push_of_some _ e) (N.grown fun _ _ e => Heap.get?_push_of_some _ e) (Nat.ne_of_lt F.ns.lt) (next_is_new F) (fun p hp => Nat.ne_of_lt (Heap.lt_size (N p hp).1)) trivial (R _) ?_
  · rw [List.mem_singleton.mp hb]
    show s₁.heap.objs.size < (s₁.heap.push _).objs.size
    rw [Heap.size_push]; exact Nat.lt_succ_self _
  · intro D C h tk m' ys news' F' N' o1 hn hC₀ hD₀ hCL hDL hCD offC fin
    refine ⟨m', hn, fun h'' hs'' => fin D h'' tk (F'.change hs'' hCL hC₀) (fun p hp => ?_) o1⟩
    refine ⟨hs''.extBut _ _ ?_ (N' p hp).1, (N' p hp).2⟩
    rcases List.mem_cons.mp hp with rfl | hp
    · exact Ne.symm hCD
    · exact offC p hp

/-- the turns of a comprehension with a test, the ledger the same at each turn's end -/
theorem restT_ind {ct elt : Expr} {x : Str} {scope : Scope} {cl : List (Str × Addr)} {S : List (Addr × Obj) → Prop} {P : Nat → Value → Prop} {Fin : List Value → List (Addr × Obj) → Prop} {n : Nat} {news : List (Addr × Obj)} (G : Nat → Nat → List Value → Prop)
    (start : G n 0 []) (zero : ∀ i ys, G 0 i ys → Fin ys news)
    (step : ∀ k i ys, G (k + 1) i ys → ∀ v I oI C oC D m₂ h tk (E' : Value → Shared → Prop), P i v → NsObj oC m₂ → m₂ x = some v → Fr h₀ L h m → News h₀ L h ((I, oI) :: (C, oC) :: (D, lst ys) :: news) → Off3 I C D news → ((@Ne Nat I C) ∧ (@Ne Nat I D) ∧ (@Ne Nat C D)) →
      wpAny (model prog w) A (isTrue ct (compEnvC scope cl C env) (eval ct (compEnvC scope cl C env))) (fun ok s' => if ok = true then
        wpAny (model prog w) A (eval elt (compEnvC scope cl C env)) (CompEnd h₀ L m { s with heap := h, toks := tk } I oI C oC D (lst ys) S (fun y news' => news' = news ∧ G k (i + 1) (ys ++ [y]))) E' s'
        else CompEnd h₀ L m { s with heap := h, toks := tk } I oI C oC D (lst ys) S (fun _ news' => news' = news ∧ G k (i + 1) ys) Value.none s') E' { s with heap := h, toks := tk }) :
    CompRestT prog w A h₀ L m env ct elt x scope cl s S P Fin n 0 [] news := by
  have key : ∀ k i ys, G k i ys → CompRestT prog w A h₀ L m env ct elt x scope cl s S P Fin k i ys news := by
    intro k
    induction k with
    | zero => intro i ys g; exact zero i ys g
    | succ k ih =>
      intro i ys g
      refine CompRestT.succ fun v I oI C oC D m₂ h tk E' h1 h2 h3 h4 h5 h6 h7 => ?_
      refine wpAny_mono (step k i ys g v I oI C oC D m₂ h tk E' h1 h2 h3 h4 h5 h6 h7) (fun ok s' hs => ?_) fun _ _ e => e
      cases ok with
      | true =>
        rw [if_pos rfl] at hs ⊢
        refine wpAny_mono hs (fun y s'' h8 => ?_) fun _ _ e => e
        obtain ⟨h', tk', news', a1, a2, a3, a4, a5, rfl, a6⟩ := h8
        exact ⟨h', tk', _, a1, a2, a3, a4, a5, ih _ _ a6⟩
      | false =>
        rw [if_neg Bool.false_ne_true] at hs ⊢
        obtain ⟨h', tk', news', a1, a2, a3, a4, a5, rfl, a6⟩ := hs
        exact ⟨h', tk', _, a1, a2, a3, a4, a5, ih _ _ a6⟩
  exact key n 0 [] start

theorem store_piece {M : Model} {name : Str} {cs : Scope} {a c D : Addr} {ccd v : Value} {o oD : Obj} {v₀ : Option Value} {news : List (Addr × Obj)} {x : Str} {Q : Unit → Shared → Prop} {h9 : Heap} (F : Fr h₀ L s.heap m) (N : News h₀ L s.heap ((D, oD) :: (c, o) :: news))
    (N9 : News h₀ L h9 ((c, o) :: news)) (hD : D = h9.objs.size) (l1 : ∀ p ∈ news, p.1 < L) (hcL : c = L + 1) (hd : o.data = .cell v₀)
    (h : ∀ h' o', Fr h₀ L h' m → News h₀ L h' ((D, oD) :: (c, o') :: news) → o'.data = .cell (some v) → Q () { s with heap := h' })
    (hc : (cellsFrom (L + 1) cs.names []).lookup x = some c) (hk : cs.kind = .function) (hx : (envOfC name cs L a ccd).kindOf x = some .cell) : wpAny M A (storeName (envOfC name cs L a ccd) x v) Q E s := by
  have h1 : D ≠ c := by
    have := Heap.lt_size (N9.get (List.mem_cons_self ..))
    rw [hD]; exact Nat.ne_of_gt this
  exact storeX_C F N hc (.tail h1 (.head fun p hp => by rw [hcL]; exact Nat.ne_of_lt (Nat.lt_succ_of_lt (l1 p hp)))) hd h hk hx
end
section
variable {prog : Program} {w : World} {A : Around} {E : Value → Shared → Prop} {h : Heap} {g : Array GenState} {d : Drawn} {tk : Nat} {os : OsState} {h₀ : Heap} {L : Addr} {m : Str → Option Value} {news : List (Addr × Obj)}
theorem slice_take {value slice : Expr} {D : Addr} {l : List (Str × Tok)} {k : Int} {u : Tok} {Q : Value → Shared → Prop}
    (F : Fr h₀ L h m) (N : News h₀ L h news) (hm : (D, ({ cls := .type "list", data := .seq (strValues l).toArray } : Obj)) ∈ news) (h0 : 0 ≤ k) (hsz : l.length ≤ 1001)
    (hq : ∀ h', Fr h₀ L h' m → News h₀ L h' ((h.objs.size + 1, { cls := .type "list", data := .seq (strValues (l.take k.toNat)).toArray }) :: news) → Q (.ref (h.objs.size + 1)) ⟨h', g, d, tk, os⟩)
    (hs : subscripted slice false (.ref D) (.ref h.objs.size) = operate [.ref h.objs.size, .ref D] (getItem (.ref D) (.ref h.objs.size)) := by with_unfolding_all rfl)
    (ht : ∀ r, letTemporaryGo value (.ref D) r = pure () := by intro _; with_unfolding_all rfl) :
    wpAny (model prog w) A (subscriptTail value slice (.ref D) (.ref h.objs.size)) Q E ⟨h.push { cls := .type "slice", data := .fields #[.none, .int k u, .none] }, g, d, tk, os⟩ := by
  obtain ⟨k, rfl⟩ := Int.eq_ofNat_of_zero_le h0
  have hL : h.IsList D (strValues l).toArray := ⟨_, N.get hm, rfl, _, rfl⟩
  refine slice_list (s := ⟨h, g, d, tk, os⟩) F N hL .none (.int _ u) (fun h' F' N' => ?_) hs ht (by simp [strValues]; rw [sizeLine_eq]; omega)
  have e : slicePick (strValues l).toArray none (some (k : Int)) none = (strValues (l.take k)).toArray := by rw [slicePick_upto']; simp [strValues]
  rw [e] at N'
  rw [Int.toNat_natCast] at hq
  exact hq h' F' N'
theorem take_B {l : List (Str × Tok)} {B k : Nat} (hB : ∀ a ∈ l.map (·.1), a.length ≤ B) (hle : B ≤ 1000) : ∀ a ∈ (l.take k).map (·.1), a.length ≤ 1000 := fun a ha => by
  rw [List.map_take] at ha
  exact Nat.le_trans (hB a (List.mem_of_mem_take ha)) hle
theorem join_list {sep : Str} {t : Tok} {D : Addr} {l : List (Str × Tok)} {Q : Value → Shared → Prop} (N : News h₀ L h news) (hm : (D, ({ cls := .type "list", data := .seq (strValues l).toArray } : Obj)) ∈ news)
    (hB : ∀ a ∈ l.map (·.1), a.length ≤ 1000) (hsz : l.length ≤ 1001) (hsep : sep.length ≤ 1) (hq : ∀ t' k, Q (.str (Txt.join sep (l.map (·.1))) t') ⟨h, g, d, k, os⟩) :
    wpAny (model prog w) A (call (.builtin "str.join") [.str sep t, .ref D]) Q E ⟨h, g, d, tk, os⟩ := by
  refine SC.join (s := ⟨h, g, d, tk, os⟩) ⟨_, N.get hm, rfl, _, rfl⟩ rfl (joinOk_of ?_) hq
  have h1 := StrLaws.sumLen_le (B := 1000) (l.map (·.1)) hB
  have h2 : (l.map (·.1)).length ≤ 1001 := by simpa using hsz
  have h3 : (l.map (·.1)).length * sep.length ≤ 1001 * 1 := Nat.mul_le_mul h2 hsep
  omega
end
theorem off1_mem {D : Addr} (l : List (Addr × Obj)) (x : Off1 D l) : ∀ p ∈ l, p.1 ≠ D := by
  induction l with
  | nil => intro p h; cases h
  | cons q r ih =>
    intro p h
    rcases List.mem_cons.mp h with rfl | h
    · exact x.1
    · exact ih x.2 p h
theorem strs_snoc : ∀ {ys : List Value} {a : List Str} (y : Str) (t : Tok), StrsAre ys a → StrsAre (ys ++ [.str y t]) (a ++ [y])
  | _, _, y, t, .nil => .cons y t .nil
  | _, _, y, t, .cons z u h => .cons z u (strs_snoc y t h)
theorem getD_ch (rl : List Str) (j : Nat) : (rl.map ch).getD j [] = ch (rl.getD j Str.empty) := by
  rw [List.getD_eq_getElem?_getD, List.getD_eq_getElem?_getD, List.getElem?_map]
  cases rl[j]? <;> rfl
theorem not_empty (x : Str) : (x != Str.ofString "") = !decide (ch x = []) := by
  show (!(x == Str.ofString "")) = _
  rw [is_empty]
theorem abv_skip {lq : List (Str × Tok)} {i k : Nat} (h1 : k + 1 + i = lq.length) (h : ((List.map (fun x => x.1) lq).getD ((lq.length : Int) - (i : Int) - 1).toNat Str.empty != Str.ofString "") = false) : abv ((lq.map (·.1)).map ch) (k + 1) = abv ((lq.map (·.1)).map ch) k := by
  rw [show ((lq.length : Int) - (i : Int) - 1).toNat = k by omega, not_empty] at h
  have h : ch ((List.map (fun x => x.1) lq).getD k Str.empty) = [] := by simpa using h
  rw [abv, getD_ch, if_pos h]
theorem abv_take {lq : List (Str × Tok)} {i k : Nat} (h1 : k + 1 + i = lq.length) (h : ((List.map (fun x => x.1) lq).getD ((lq.length : Int) - (i : Int) - 1).toNat Str.empty != Str.ofString "") = true) :
    abv ((lq.map (·.1)).map ch) (k + 1) = ch (Txt.join (Str.ofString "/") (List.map (fun x => x.1) (List.take ((lq.length : Int) - (i : Int)).toNat lq))) :: abv ((lq.map (·.1)).map ch) k := by
  rw [show ((lq.length : Int) - (i : Int) - 1).toNat = k by omega, not_empty] at h
  have h : ch ((List.map (fun x => x.1) lq).getD k Str.empty) ≠ [] := by simpa using h
  rw [abv, getD_ch, if_neg h, show ((lq.length : Int) - (i : Int)).toNat = k + 1 by omega, join_sl, List.map_take, List.map_take]
local macro_rules | `(tactic| k_room) => `(tactic| ktr_room)
local macro_rules | `(tactic| k_units) => `(tactic| ktr_units)
local macro_rules | `(tactic| walk_at "storeName") => `(tactic| (k_here; (with_reducible show wpAny _ _ (storeName (envOfC _ _ _ _ _) _ _) _ _ _); k_dflt (refine' store_piece ?F ?N ?N9 ?hD ?l1 ?hcL ?hd ?_ ?hc ?hk ?hx; (case F => k_asm); (case N => k_asm); (case hD => exact rfl); (case N9 => assumption); (case l1 => assumption); (case hcL => exact rfl); (case hd => assumption); (case hc => exact rfl); (case hk => exact rfl); (case hx => exact rfl); k_whole); intro h' o' F' N' d'))
local macro_rules | `(tactic| walk_at "eval ListComp") => `(tactic| (k_here; k_dflt (refine ListComp_down (by k_asm) (by with_unfolding_all rfl) (by decide) (by rfl) (by decide) (by rfl) ?_)))
local macro_rules | `(tactic| walk_at "subscriptTail Name Slice ref ref") => `(tactic| (k_here; (k_dflt (refine' slice_take ?F ?N ?hm ?h0 ?h1 ?_; (case F => k_asm); (case N => k_asm); (case hm => k_mem); (case h0 => omega); (case h1 => omega); k_whole)); intro h' F' N'; (try dsimp only at F' N' ⊢)))
local macro_rules | `(tactic| walk_at "call builtin:str.join") => `(tactic| (k_here; (k_dflt (refine' join_list ?N ?hm ?hB ?hz ?hp ?_; (case N => k_asm); (case hm => k_mem); (case hB => exact take_B (by assumption) (by assumption)); (case hz => (rw [List.length_take]; omega)); (case hp => decide +kernel); k_whole)); intro t' k'))
set_option maxHeartbeats 8000000 in
theorem above_is (w : World) (x : Str) (t0 : Tok) (hx : x.length ≤ 1000) : CallC w 93 [.str x t0] (RetStrs (dn (ch x).reverse)) := by
  unfold CallC
  k_fill
  k_with_none
  intro mean mg mb dp un gd cn cs a ccd A₀ base h₀ L m s Q E news B F KX N T hcs XB TB hdp hun hret
  refine wpAny_call ?_
  k_dflt (refine' code_defC ?k1 ?k2 ?k3 ?k4 ?k5 ?kA ?kF ?kK ?k6 ?k7 ?k8 ?k9 ?kB ?kD ?_ ?c2 ?c3 ?c4; (case kA => exact rfl); (case kF => exact rfl); (case kK => assumption); (case k1 => k_asm); (case k2 => k_asm); (case k3 => k_asm); (case k4 => k_asm); (case k5 => k_asm); (case k6 => k_is); (case k7 => k_is); (case k8 => ktr_room); (case k9 => exact BindsTo.of_eq rfl); (case kB => exact rfl); (case kD => decide +kernel); (case c2 => exact rfl); (case c3 => exact rfl); (case c4 => exact rfl); k_whole; intro g' L' h' tk' cells' FG' F' N' Y' B' X' T' l1; k_cells Y'; (try simp only [List.cons_append, List.nil_append] at N'); (try dsimp only); (try k_fold))
  k_steps
  rename List (Str × Tok) => lq
  rename (List.map _ lq = Txt.split _ _) => hlq
  have hlen : lq.length ≤ 1001 := by
    have h1 := congrArg List.length (congrArg (List.map ch) hlq)
    rw [split_sl, List.length_map, List.length_map] at h1
    have h2 := spl_len 47 (ch x)
    rw [ch_len] at h2
    omega
  refine' ⟨_, _, _, _, lq.length, _, rfl, rfl, ?f, ?n, ?r, hlen, ?c⟩
  (case f => assumption)
  (case n => assumption)
  (case r => assumption)
  intro g9
  dsimp only
  refine restT_ind (fun k i ys => ∃ acc : List (List Nat), k + i = lq.length ∧ StrsAre ys (acc.map mk) ∧ acc ++ abv ((lq.map (·.1)).map ch) k = dn (ch x).reverse) ⟨[], rfl, .nil, ?_⟩ ?_ ?_
  · rw [List.nil_append]
    have h1 := congrArg (List.map ch) hlq
    rw [split_sl] at h1
    rw [h1, ← above_dn, ← h1]; simp
  · rintro i ys ⟨acc, h1, h2, h3⟩
    unfold FinE
    intro D' h' tk' F' N' o1'
    dsimp only
    refine' leaveK_ F' N' ?_
    intro kF kN
    show Q (Value.ref D') _
    have h4 : acc = dn (ch x).reverse := by rw [← h3, abv, List.append_nil]
    rw [← h4] at hret
    refine' hret D' ys ys.length _ _ h2 (fun p hp => off1_mem _ o1' p (by repeat' (first | exact hp | apply List.mem_cons_of_mem))) kF (kst_newsOf kN ?_)
    intro p hp
    rcases List.mem_cons.mp hp with rfl | hp
    · exact .head _
    · exact .tail _ (.tail _ (.tail _ hp))
  · rintro k i ys ⟨acc, h1, h2, h3⟩ v' I' oI' C' oC' D' m' h' tk' E' ⟨t9, rfl⟩ hC' hx' F' N' off' ne'
    dsimp only
    k_steps
    · refine' CompEnd.intro (by assumption) (by assumption) _ (fun p hp => .tail _ hp) off' trivial ⟨rfl, acc ++ [ch (Txt.join (Str.ofString "/") (List.map (fun x => x.1) (List.take ((lq.length : Int) - (i : Int)).toNat lq)))], by omega, ?_, ?_⟩
      rotate_left
      · rw [← h3, abv_take h1 (by assumption)]; simp
      · rw [List.map_append, List.map_singleton, mk_ch]
        exact strs_snoc _ _ h2
    · refine' CompEnd.intro F' N' _ (fun p hp => hp) off' trivial ⟨rfl, acc, by omega, h2, ?_⟩
      rw [← h3, abv_skip h1 (by assumption)]
end Mine
end

section
open PySem PySem.W PyProof.Rows PySem.Calls
set_option Elab.async false
set_option maxRecDepth 100000
namespace Mine
section
variable {prog : Program} {w : World} {A₀ A : Around} {s : Shared} {base h₀ : Heap} {L a : Addr} {m : Str → Option Value} {cn : Str} {cs : Scope} {ccd : Value} {K : Frag} {p : Program} {loose : List Str} {mean : ExcName → Option Value} {mg mb : Str → Option Value}
    {R : Result → Shared → Prop} {name qual : Str} {params : Arguments} {body : List Stmt} {scope : Scope} {dV kV doc pm cdv ct oc : Value} {an od : Option Addr} {osl : Array (Option Value)} {f : Addr} {args : Args} {binds : List (Str × Value)}
/-- a call whose body stands on the whole heap of the caller -/
theorem code_whole (B : Below A₀ base [] h₀) (F : Fr h₀ L s.heap m) (X₀ : K.In h₀) (T : Top p loose mean mg mb h₀) (hA : A.frames = some [envOf cn cs L a ccd])
    (ho : K.lookup f = some ⟨oc, od, .func (fnOf name qual params body scope dV kV doc pm an cdv ct), osl⟩) (hcd : codeIn K cdv qual = true) (hroom : A.depth < recursionLimit)
    (hbind : BindsTo s (fnOf name qual params body scope dV kV doc pm an cdv ct) args binds) (hloc : ∀ y ∈ binds, scope.names.lookup y.1 = some .local)
    (h : ∀ L' h₁, Fr h₀ L s.heap m → Fr s.heap L' h₁ (fun y => binds.reverse.lookup y) → News s.heap L' h₁ [] → Below A base [envOf cn cs L a ccd] s.heap → K.In s.heap → Top p loose mean mg mb s.heap → KtsDicts ([envOf cn cs L a ccd].filterMap (·.frame)) s.heap →
      wpAny (model prog w) (A.deeper (envOf qual scope L' f cdv)) (execs body (envOf qual scope L' f cdv))
        (fun fl s' => LeaveS0 ([envOf cn cs L a ccd].filterMap (·.frame)) h₀ L m s.heap R (match fl with | .ret v => v | _ => .none) s')
        (fun e s' => wpAny (model prog w) (A.deeper (envOf qual scope L' f cdv)) (leaving (envOf qual scope L' f cdv) e) (fun _ s'' => R (.error e) s'') (fun e' s'' => R (.error e') s'') s')
        { s with heap := h₁, toks := s.toks + binds.length })
    (hck : cs.kind = .function) (hco : scope.isCoroutine = false) (hgen : scope.isGenerator = false) (hk : scope.kind = .function)
    (hcell : ∀ x ∈ scope.names, x.2 ≠ .cell) : codeAny (model prog w) A (.call (.ref f) args) R s := by
  have X := X₀.keeps F.keep
  refine codeAny_call_def (fd := fnOf name qual params body scope dV kV doc pm an cdv ct) (body := body) (binds := binds) hroom (X _ _ ho) rfl (T.nolimit.keeps F.keep) (codeRec_of X hcd) rfl hbind hcell hloc (fun h₁ hns hk₁ => ?_) hco hgen hk
  obtain ⟨oL, es, ep, hLg, hLd, hN, hNs, st, B₂⟩ := kts_enter B F News.nil hA hck
  have hD : KtsDicts ([envOf cn cs L a ccd].filterMap (·.frame)) s.heap := fun b hb => by
    rcases kts_mem hb with rfl | z
    · exact ⟨oL, es, ep, hLg, hLd⟩
    · simp at z
  refine wpAny_mono (h s.heap.objs.size h₁ F ⟨hns, fun b o e => hk₁ b o e, Nat.le_refl _⟩ News.nil B₂ X (T.keeps F.keep) hD) (fun fl s' hl => ?_) fun _ _ y => y
  obtain ⟨g', L', m', news', T', F', N', k⟩ := hl
  have nL₀ : h₀.get? L = none := kts_self F
  obtain ⟨sl, hs⟩ := T'.up hLg
  refine k ⟨hNs sl _ (F'.keep _ _ hs), fun b o e => F'.keep b o (T'.other b o (F.keep b o e) fun q => ?_), F.above⟩ fun p hp => ⟨(N' p hp).1, fun q => ?_, ?_⟩
  · rcases kts_mem q with z | z
    · rw [z, nL₀] at e; cases e
    · simp at z
  · have := (N' p hp).2.2; rw [q, hs] at this; cases this
  · cases q : h₀.get? p.1 with
    | none => rfl
    | some o =>
      obtain ⟨sl', hs'⟩ := T'.up (F.keep _ _ q)
      have := (N' p hp).2.2
      rw [hs'] at this
      cases this
end
/-- a new tuple of one text -/
abbrev RetNew (l : List Nat) : RetT := fun h₀ L m news s Q => ∀ (b : Addr) (o : Obj) (h' : Heap) (tk' : Nat), Tup1 o l → s.heap.get? b = none → Fr h₀ L h' m → News h₀ L h' ((b, o) :: news) → Q (.ref b) { s with heap := h', toks := tk' }
theorem fin_new {h g' h' h₀ : Heap} {L L' b : Addr} {o : Obj} {m' : Str → Option Value} {nw news : List (Addr × Obj)} {cn : Str} {cs : Scope} {a : Addr} {ccd : Value} (T : KtsTurn ([envX cn cs L a ccd []].filterMap (·.frame)) h g') (F' : Fr g' L' h' m') (N' : News g' L' h' nw) (hm : (b, o) ∈ nw) (N : News h₀ L h news) (N₂ : News h₀ L h' [(b, o)]) :
    h.get? b = none ∧ News h₀ L h' ((b, o) :: news) := by
  refine ⟨?_, fun p hp => ?_⟩
  · cases q : h.get? b with
    | none => rfl
    | some o' =>
      obtain ⟨sl, hs⟩ := T.up q
      have := (N' _ hm).2.2
      rw [hs] at this
      cases this
  · rcases List.mem_cons.mp hp with rfl | hp
    · exact N₂ _ (List.mem_singleton.mpr rfl)
    · refine ⟨F'.keep _ _ (T.other _ _ (N p hp).1 fun q => ?_), (N p hp).2⟩
      rcases kts_mem (outer := []) q with z | z
      · exact (N p hp).2.1 z
      · simp at z
local macro_rules | `(tactic| k_room) => `(tactic| ktr_room)
local macro_rules | `(tactic| k_units) => `(tactic| ktr_units)
local macro_rules | `(tactic| walk_at "getAttr ref") => `(tactic| (k_here; (with_reducible show wpAny _ _ (getAttr (Value.ref _) ("args" : Str) _) _ _ _); k_dflt (refine' got_args ?X ?F ?N ?G ?_; (case G => assumption); (case N => assumption); (case X => assumption); (case F => assumption); k_whole); (with_reducible rename News _ _ _ _ => gn1); (with_reducible rename Got _ _ _ _ _ => gn2); (have gn3 := got_news gn2 (by assumption) gn1); (obtain ⟨ot9, nt9, oc9, od9, nw9⟩ := gn3)))
set_option maxHeartbeats 8000000 in
theorem read_new (w : World) (x : Str) (t0 : Tok) (hx : x.length ≤ 1000) (h3 : (Txt.slice x none (some 3) != Str.ofString "257") = true) : CallC w 88 [.str x t0] (RetNew (ch x)) := by
  unfold CallC
  k_fill
  k_with_none
  intro mean mg mb dp un gd cn cs a ccd A₀ base h₀ L m s Q E news B F KX N T hcs XB TB hdp hun hret
  refine wpAny_call ?_
  have N0 := N
  clear N
  k_dflt (refine' code_whole ?k1 ?k2 ?k3 ?k5 ?kA ?k6 ?k7 ?k8 ?k9 ?kB ?_ ?cK ?c2 ?c3 ?c4 ?c5; (case kA => exact rfl); (case k2 => k_asm); (case k1 => k_asm); (case k3 => k_asm); (case k5 => k_asm); (case k6 => k_is); (case k7 => k_is); (case k8 => ktr_room); (case k9 => exact BindsTo.of_eq rfl); (case kB => exact locs rfl); (case cK => assumption); (case c2 => exact rfl); (case c3 => exact rfl); (case c4 => exact rfl); (case c5 => decide); k_whole; intro L' h' FG' F' N' B' X' T' D'; (try dsimp only); (try k_lift B'); (try k_fold))
  k_steps
  rename KtsTurn _ _ _ => T9
  have done : ∀ {b : Addr} {o : Obj} {h' : Heap} {tk' : Nat} {g' : Heap} {L' : Addr} {m' : Str → Option Value} {nw : List (Addr × Obj)}, KtsTurn ([envX cn cs L a ccd []].filterMap (·.frame)) s.heap g' → Fr g' L' h' m' → News g' L' h' nw → (b, o) ∈ nw → Tup1 o (ch x) → Fr h₀ L h' m → News h₀ L h' [(b, o)] →
      Q (.ref b) { s with heap := h', toks := tk' } := fun T F' N' hm t f n =>
    let r := fin_new T F' N' hm N0 n
    hret _ _ _ _ t r.1 f r.2
  refine' done T9 (h' := _) ?F ?N ?hm ?t ?f ?n
  (case f => assumption)
  (case n => assumption)
  (case F => assumption)
  (case N => assumption)
  (case hm => exact .head _)
  (case t => (refine' ⟨by assumption, t0, _, ?d⟩; (case d => (rw [mk_ch]; assumption))))
end Mine
end

section
open PySem PySem.W PyProof.Rows PySem.Calls
set_option Elab.async false
set_option maxRecDepth 100000
namespace Mine
section
variable {prog : Program} {w : World} {A : Around} {E : Value → Shared → Prop} {s : Shared}

/-- what a generator function's end looks like -/
abbrev endsWith (P : Nat → Shared → Shared → Prop) : GenEnd := fun n s₀ r s₁ => r = .ok (.ret .none) ∧ P n s₀ s₁

/-- a generator function is woken by next: it gives the text it yields, or ends -/
theorem wake_next {a : Addr} {g n : Nat} {gs : GenState} {P : Nat → Shared → Shared → Prop} {Y : Protocol} {Q : Option Value → Shared → Prop} (hh : A.handled = none) (hl : s.heap.NoLimit) (hroom : A.depth < recursionLimit) (hg : s.heap.IsGen a g) (hgs : s.gens[g]? = some gs)
    (hgo : gs.Goes (model prog w) A.in1 (endsWith P) Y n (.send .none) (s.setGen g .running))
    (hY : ∀ v s₁ gs', gs'.bare = true → Y (n - 1) (s.setGen g .running) v s₁ (fun r' s'' => match n with
        | 0 => False
        | m + 1 => gs'.Goes (model prog w) A.in1 (endsWith P) Y m r' s'') → Q (some v) (s₁.setGen g gs'))
    (hP : ∀ s₁, P n (s.setGen g .running) s₁ → ∀ h', (∀ b o, s₁.heap.get? b = some o → h'.get? b = some o) → Q none { s₁.setGen g .finished with heap := h' }) :
    wpAny (model prog w) A (pyNext (.ref a)) Q E s := by
  have stops : ∀ s₁, P n (s.setGen g .running) s₁ → ∀ (h' : Heap), (∀ b o, s₁.heap.get? b = some o → h'.get? b = some o) → Q none { s₁.setGen g .finished with heap := h' } := hP
  unfold pyNext
  refine wpAny_bind (wpAny_attempt (wpAny_callSpecial?_slot (name := Str.ofString "__next__") hg.typeIs slot_gen_next (wpAny_call_entry slot_gen_next hg.typeIs entry_gen_next ?_ (args_gen_next _))))
  show wpAny _ A.in1 (Builtin.Generator.genWake (.ref a) (.send .none)) _ _ s
  unfold Builtin.Generator.genWake
  refine wpAny_bind (wpAny_holding (wpAny_genNumber hg (wpAny_bind (wpAny_genState hgs ?_))))
  rcases gs with _ | _ | _ | _
  case running => exact False.elim hgo
  case finished => exact False.elim hgo
  all_goals
    refine wpAny_bind (wpAny_roomToWake hl hroom ?_)
    show wpAny _ A.in1 (.resume g (.send .none) [] _) _ _ s
    refine wpAny_resumeQ hgs hgo (fun x s₁ hx => ?_) (fun v s₁ gs' hb hv => wpAny_pure ⟨v, rfl, wpAny_pure (hY v s₁ gs' hb hv)⟩)
    obtain ⟨rfl, hp⟩ := hx
    show wpAny _ A.in1 (newExc (.type "StopIteration") [] >>= _) _ _ _
    refine wpAny_bind ?_
    simp only [newExc, newTuple]
    refine wpAny_bind (wpAny_newObj_type ?_ (by size_fits))
    refine wpAny_bind (m := firstArgMember _ _) (wpAny_of_eq (a := Value.none) (by first | rfl | (simp only [firstArgMember]; rfl)) ?_)
    refine wpAny_newObj_type ?_ (by size_fits)
    simp only [raiseNew]
    refine wpAny_bind (wpAny_bind (wpAny_handled ?_))
    first | rw [show A.in1.handled = none from hh] | rw [hh]
    refine wpAny_throw (wpAny_bind (wpAny_isInstance (T := "StopIteration") (b := true) ⟨_, Heap.get?_push_size _ rfl, rfl⟩ isSubtype_stop (wpAny_pure (stops s₁ hp _ fun b o hb => Heap.get?_push_of_some _ (Heap.get?_push_of_some _ hb)))))
end

section
variable {prog : Program} {w : World} {A : Around}
/-- the object at C alone changes -/
abbrev Since (C : Addr) (s₀ s : Shared) : Prop := GenSince C [] s₀ s
abbrev lastly (C : Addr) : GenEnd := endsWith fun n s₀ s₁ => n = 0 ∧ Since C s₀ s₁
/-- the texts of ds are yielded in turn -/
def tellsOf (C : Addr) (fp : List Addr) (ds : List (List Nat)) : Protocol := fun m s₀ v s kap =>
  (∃ t, v = .str (mk (ds.getD (ds.length - 1 - m) [])) t) ∧ Since C s₀ s ∧ ∀ s'' : Shared, (∀ b ∈ C :: fp, ∀ o, s.heap.get? b = some o → s''.heap.get? b = some o) → kap (.send .none) s''
/-- the generator object a, number g, has told the first j texts of ds -/
def ToldTo (prog : Program) (w : World) (A : Around) (a : Addr) (g : Nat) (C : Addr) (fp : List Addr) (ds : List (List Nat)) (j : Nat) (s : Shared) : Prop :=
  s.heap.IsGen a g ∧ s.heap.NoLimit ∧ ∃ gs, s.gens[g]? = some gs ∧ ∀ s'' : Shared, (∀ b ∈ C :: fp, ∀ o, s.heap.get? b = some o → s''.heap.get? b = some o) →
    gs.Goes (model prog w) A.in1 (lastly C) (tellsOf C fp ds) (ds.length - j) (.send .none) s''
theorem tells_walks (hh : A.handled = none) (a : Addr) (g : Nat) (C : Addr) (fp : List Addr) (ds : List (List Nat)) (haC : a ≠ C) (haf : a ∉ fp)
    (hroom : A.depth < recursionLimit) (hcs : cStatics ∈ fp) (hcC : cStatics ≠ C) :
    WalksS prog w A a (a :: C :: fp) [C] (GenOnlyQ g) ds.length (fun j y => ∃ t, y = .str (mk (ds.getD j [])) t) (ToldTo prog w A a g C fp ds) where
  sub := fun b hb => by rw [List.mem_singleton.mp hb]; exact List.mem_cons_of_mem _ (List.mem_cons_self ..)
  grefl := fun _ => .inl rfl
  gtrans := fun _ _ _ x y => x.trans y
  frame := fun j s h' tk st _ hk => by
    obtain ⟨⟨o, nm, qn, ho, r⟩, ⟨mc, hns, hnn⟩, gs, hgs, hgo⟩ := st
    exact ⟨⟨o, nm, qn, hk a (List.mem_cons_self ..) o ho, r⟩, ⟨mc, hns.at' fun o e => hk cStatics (List.mem_cons_of_mem _ (List.mem_cons_of_mem _ hcs)) o e, hnn⟩, gs, hgs,
      fun s'' hal => hgo s'' fun b hb o e => hal b hb o (hk b (List.mem_cons_of_mem _ hb) o e)⟩
  item := fun j s Q E hj st hQ => by
    obtain ⟨hg, hl, gs, hgs, hgo⟩ := st
    obtain ⟨m, hm⟩ : ∃ m, ds.length - j = m + 1 := ⟨ds.length - j - 1, by omega⟩
    rw [hm] at hgo
    refine wpAny_with_toks (Nat.le_refl s.toks) ?_
    refine wake_next hh hl hroom hg hgs (hgo _ fun _ _ _ e => e) (fun v s₁ gs' hb hv => ?_) (fun s₁ hp _ _ => absurd hp.1 (Nat.succ_ne_zero m))
    obtain ⟨hF, ⟨h₁, tk₁, rfl, hk₁⟩, hkap⟩ := hv
    rw [show ds.length - 1 - (m + 1 - 1) = j by omega] at hF
    intro htk
    have up : ∀ b o, b ≠ C → s.heap.get? b = some o → h₁.get? b = some o := fun b o hb e => hk₁ b o hb List.not_mem_nil e
    have hgg := setGen_self (x := gs') (setGen_self (x := GenState.running) hgs)
    obtain ⟨o, nm, qn, ho, r⟩ := hg
    obtain ⟨mc, hns, hnn⟩ := hl
    refine hQ v _ hF ⟨⟨o, nm, qn, up a o haC ho, r⟩, ⟨mc, hns.at' fun o e => up cStatics o hcC e, hnn⟩, gs', hgg, fun s'' hal => ?_⟩
      ⟨fun b o hb e => up b o (fun h => hb (h ▸ List.mem_cons_self ..)) e, GenOnlyQ.of ((GenOnly.setGen s g .running).trans (GenOnly.setGen _ g gs')) hgg hb, rfl, rfl, htk⟩
    rw [show ds.length - (j + 1) = m by omega]
    exact hkap s'' hal
  done := fun s Q E st hQ => by
    obtain ⟨hg, hl, gs, hgs, hgo⟩ := st
    rw [Nat.sub_self] at hgo
    refine wpAny_with_toks (Nat.le_refl s.toks) ?_
    refine wake_next hh hl hroom hg hgs (hgo _ fun _ _ _ e => e) (fun v s₁ gs' hb hv => (hv.2.2 s₁ fun _ _ _ e => e).elim) (fun s₁ hp h' hk => ?_)
    obtain ⟨_, h₁, tk₁, rfl, hk₁⟩ := hp
    intro htk
    exact hQ _ ⟨fun b o hb e => hk b o (hk₁ b o (fun h => hb (h ▸ List.mem_cons_self ..)) List.not_mem_nil e), GenOnlyQ.of ((GenOnly.setGen s g .running).trans (GenOnly.setGen _ g .finished)) (setGen_self (gs := .running) (setGen_self hgs)) rfl, rfl, rfl, htk⟩
  self := fun _ _ _ _ st hQ => wpAny_pyIter_gen st.1 hQ
end
end Mine
end

section
open PySem PySem.W PyProof.Rows PySem.Calls
set_option Elab.async false
set_option maxRecDepth 100000
namespace Mine
theorem dn_none {l : List Nat} (h : rs l = []) : dn l.reverse = [] := by rw [dn_rs, h]; exact dn_nil
theorem getD_of_drop {ds : List (List Nat)} {j : Nat} {a : List Nat} {r : List (List Nat)} (h : ds.drop j = a :: r) : ds.getD j [] = a ∧ ds.drop (j + 1) = r := by
  have h1 : ds[j]? = some a := by
    have := congrArg List.head? h
    rwa [List.head?_drop, List.head?_cons] at this
  refine ⟨by rw [List.getD_eq_getElem?_getD, h1]; rfl, ?_⟩
  have := congrArg List.tail h
  rwa [List.tail_drop] at this
section
variable {prog : Program} {w : World} {A : Around}
/-- a goal kept whole -/
structure Post (P : Prop) : Prop where
  out : P
/-- the parts of the code of 81, each told by what it does; l stands for the path's text -/
structure Parts (prog : Program) (w : World) (D U : Nat) (fr : List Env) (env : Env) (test y : Expr) (asg0 asg : Stmt) (C : Addr) (fp : List Addr) (ds : List (List Nat)) (l₀ : List Nat) (St : List Nat → Shared → Prop) : Prop where
  keep : ∀ l s s'', St l s → (∀ b ∈ C :: fp, ∀ o, s.heap.get? b = some o → s''.heap.get? b = some o) → St l s''
  first : ∀ d u g, d ≤ D → u ≤ U → ∀ s E, St l₀ s → wpAny (model prog w) ⟨none, d, some fr, g, u⟩ (exec asg0 env) (fun f s' => Post (f = .next ∧ St (rs l₀) s' ∧ Since C s s')) E s
  test : ∀ d u g, d ≤ D → u ≤ U → ∀ l s E, St l s → wpAny (model prog w) ⟨none, d, some fr, g, u⟩ (isTrue test env (eval test env)) (fun b s' => Post (b = decide (rs l ≠ []) ∧ St l s' ∧ Since C s s')) E s
  told : ∀ d u g, d ≤ D → u ≤ U → ∀ l s E, St l s → wpAny (model prog w) ⟨none, d, some fr, g, u⟩ (eval y env) (fun v s' => Post ((∃ t, v = .str (mk l) t) ∧ St l s' ∧ Since C s s')) E s
  next : ∀ d u g, d ≤ D → u ≤ U → ∀ l s E, St l s → rs l ≠ [] → rs l = l → wpAny (model prog w) ⟨none, d, some fr, g, u⟩ (exec asg env) (fun f s' => Post (f = .next ∧ (∃ l', St l' s' ∧ dn l.reverse = l :: dn l'.reverse ∧ (rs l' = [] ∨ rs l' = l')) ∧ Since C s s')) E s
/-- a place in the stack where the parts may run -/
def Fits (D U : Nat) (fr : List Env) (A : Around) : Prop := A.handled = none ∧ A.frames = some fr ∧ A.depth ≤ D ∧ A.units ≤ U
theorem Fits.wp {D U : Nat} {fr : List Env} {A : Around} {M : Model} {α : Type} {m : Sem α} {Q : α → Shared → Prop} {E : Value → Shared → Prop} {s : Shared} (h : Fits D U fr A)
    (k : ∀ d u g, d ≤ D → u ≤ U → wpAny M ⟨none, d, some fr, g, u⟩ m Q E s) : wpAny M A m Q E s := by
  obtain ⟨x, d, f, g, u⟩ := A
  obtain ⟨h1, h2, h3, h4⟩ := h
  cases h1
  cases h2
  exact k d u g h3 h4
theorem func_weight (b : List Stmt) (env : Env) : (Code.func b env).weight = 1 := rfl
theorem func_units (b : List Stmt) (env : Env) : (Code.func b env).cUnits = 3 := rfl
theorem loop_weight (t : Expr) (b o : List Stmt) (env : Env) : (Code.whileLoop t b o env).weight = 0 := rfl
theorem loop_units (t : Expr) (b o : List Stmt) (env : Env) : (Code.whileLoop t b o env).cUnits = 0 := rfl

theorem Since.trans {C : Addr} {s₀ s s' : Shared} (x : Since C s₀ s) (y : Since C s s') : Since C s₀ s' := by
  obtain ⟨h', tk, rfl, k⟩ := y
  exact x.step k

theorem seg_tells {D U : Nat} {fr : List Env} {env : Env} {test y : Expr} {asg0 asg : Stmt} {yp ep : Pos} {C : Addr} {fp : List Addr} {ds : List (List Nat)} {l₀ : List Nat} {St : List Nat → Shared → Prop} {fs : List Frame}
    (H : Parts prog w D U fr env test y asg0 asg C fp ds l₀ St) (hA : Fits D U fr (A.over (.whileLoop test [.Expr (.Yield (some y) yp) ep, asg] [] env) fs))
    (hfs : splitAtGen fs = none) (hfg : fs.any Frame.guarded = false) (hco : env.scope.isCoroutine = false) (hi : interactive env = false)
    (hend : ∀ s₀ s, Since C s₀ s → Seg (model prog w) A (lastly C) (tellsOf C fp ds) 0 s₀ (.whileLoop test [.Expr (.Yield (some y) yp) ep, asg] [] env) (.pure (.done .next)) fs s) :
    ∀ (k : Nat) (s₀ s : Shared) (l : List Nat), St l s → (rs l = [] ∨ rs l = l) → k ≤ ds.length → (dn l.reverse).length = k → dn l.reverse = ds.drop (ds.length - k) → Since C s₀ s →
      Seg (model prog w) A (lastly C) (tellsOf C fp ds) k s₀ (.whileLoop test [.Expr (.Yield (some y) yp) ep, asg] [] env) ((model prog w).den (.whileLoop test [.Expr (.Yield (some y) yp) ep, asg] [] env)) fs s := by
  intro k
  induction k with
  | zero =>
    intro s₀ s l hst hl hk hn hd hs
    have h0 : rs l = [] := by
      rcases hl with h | h
      · exact h
      · rcases hq : rs l with _ | ⟨a, r⟩
        · rfl
        · exfalso
          have h1 : dn l.reverse = [] := List.eq_nil_of_length_eq_zero hn
          have h2 : ch (mk l) = l := ch_mk l
          obtain ⟨i, _, _, h3⟩ := turn_dn (x := mk l) (by rw [h2, ← h, hq]; exact List.cons_ne_nil _ _) (by rw [h2, h])
          rw [h2, h1] at h3
          cases h3
    refine seg_whileLoop (wpAny_mono (hA.wp fun d u g hd hu => H.test d u g hd hu l s _ hst) (fun b s' hb => ?_) fun _ _ e => e)
    obtain ⟨⟨rfl, hst', hs'⟩⟩ := hb
    rw [if_neg (by simp [h0])]
    exact seg_execs_nil (hend _ _ (Since.trans hs hs'))
  | succ k ih =>
    intro s₀ s l hst hl hk hn hd hs
    have h0 : rs l ≠ [] := fun h => by rw [dn_none h] at hn; cases hn
    have h1 : rs l = l := hl.resolve_left h0
    refine seg_whileLoop (wpAny_mono (hA.wp fun d u g hd hu => H.test d u g hd hu l s (fun x s' => Seg (model prog w) A (lastly C) (tellsOf C fp ds) (k + 1) s₀ (.whileLoop test [.Expr (.Yield (some y) yp) ep, asg] [] env) ((do noteFrame x env; theTreesLotGoes x : Sem Unit).wrap (fun _ => .raise x) .raise id id) fs s') hst) (fun b s' hb => ?_) fun _ _ e => e)
    obtain ⟨⟨rfl, hst', hs'⟩⟩ := hb
    rw [if_pos (by simp [h0])]
    refine seg_execs_cons (seg_Expr_Yield hfs rfl hfg (wpAny_mono (hA.wp fun d u g hd hu => H.told d u g hd hu l s' (fun x s' => Seg (model prog w) A (lastly C) (tellsOf C fp ds) (k + 1) s₀ (.whileLoop test [.Expr (.Yield (some y) yp) ep, asg] [] env) ((do noteFrame x env; theTreesLotGoes x : Sem Unit).wrap (fun _ => .raise x) .raise id id) fs s') hst') (fun v s₂ hv => ?_) fun _ _ e => e) hco hi)
    intro kap hkap
    obtain ⟨⟨⟨t, rfl⟩, hst₂, hs₂⟩⟩ := hv
    have hidx : ds.length - 1 - k = ds.length - (k + 1) := by omega
    have key : ∀ l' : List Nat, dn l.reverse = l :: dn l'.reverse → ds.getD (ds.length - (k + 1)) [] = l ∧ dn l'.reverse = ds.drop (ds.length - k) := by
      intro l' e
      rw [hd] at e
      obtain ⟨a1, a2⟩ := getD_of_drop e
      refine ⟨a1, ?_⟩
      rw [← a2]
      congr 1
      omega
    have hhead : ds.getD (ds.length - (k + 1)) [] = l := by
      have h2 : ch (mk l) = l := ch_mk l
      obtain ⟨i, _, _, h3⟩ := turn_dn (x := mk l) (by rw [h2]; intro e; rw [e] at h0; exact h0 rfl) (by rw [h2, h1])
      rw [h2] at h3
      exact (key _ h3).1
    refine ⟨⟨t, by rw [hidx, hhead]⟩, Since.trans (Since.trans hs hs') hs₂, fun s'' hal => hkap _ _ ?_⟩
    show Seg _ _ _ _ _ _ _ _ _ _
    refine seg_execs_cons (seg_wrap (wpAny_mono (hA.wp fun d u g hd hu => H.next d u g hd hu l s'' _ (H.keep l s₂ s'' hst₂ hal) h0 h1) (fun f s₃ hf => ?_) fun _ _ e => e))
    obtain ⟨⟨rfl, ⟨l', hst₃, hdn, hl'⟩, hs₃⟩⟩ := hf
    refine seg_execs_nil (seg_again rfl (ih _ _ l' hst₃ hl' (by omega) ?_ (key l' hdn).2 hs₃))
    rw [hdn] at hn
    simpa using hn

theorem seg_starts {D U : Nat} {outer : List Env} {env : Env} {test y : Expr} {asg0 asg : Stmt} {yp ep wp : Pos} {C : Addr} {fp : List Addr} {l₀ : List Nat} {St : List Nat → Shared → Prop}
    (H : Parts prog w D U (env :: outer) env test y asg0 asg C fp (dn l₀.reverse) l₀ St) (hh : A.handled = none) (hf : A.frames = some outer) (hd : A.depth + 3 ≤ D) (hu : A.units + 20 ≤ U)
    (hco : env.scope.isCoroutine = false) (hi : interactive env = false) (s₀ s : Shared) (hst : St l₀ s) (hs : Since C s₀ s) :
    Seg (model prog w) A (lastly C) (tellsOf C fp (dn l₀.reverse)) (dn l₀.reverse).length s₀ (.func [asg0, .While test [.Expr (.Yield (some y) yp) ep, asg] [] wp] env)
      ((model prog w).den (.func [asg0, .While test [.Expr (.Yield (some y) yp) ep, asg] [] wp] env)) [] s := by
  have fit1 : Fits D U (env :: outer) (A.over (.func [asg0, .While test [.Expr (.Yield (some y) yp) ep, asg] [] wp] env) []) := by
    refine ⟨hh, ?_, ?_, ?_⟩
    · show pushEnvs [env] (pushEnvs [] A.frames) = _
      rw [hf]; rfl
    · show A.depth + 0 + _ ≤ D
      rw [func_weight]
      omega
    · show A.units + 0 + _ ≤ U
      rw [func_units]
      omega
  refine seg_func (seg_execs_cons (seg_wrap (wpAny_mono (fit1.wp fun d u g hd hu => H.first d u g hd hu s _ hst) (fun f s₁ hf1 => ?_) fun _ _ e => e)))
  obtain ⟨⟨rfl, hst₁, hs₁⟩⟩ := hf1
  refine seg_execs_cons (seg_While fun p => ?_)
  refine seg_tells H ?_ rfl rfl hco hi (fun s₀ s₂ h2 => ?_) _ _ _ _ hst₁ (.inr (rs_rs _)) (Nat.le_refl _) (by rw [← dn_rs]) (by rw [← dn_rs, Nat.sub_self]; rfl) (Since.trans hs hs₁)
  refine ⟨hh, ?_, ?_, ?_⟩
  · show pushEnvs [] (pushEnvs [env] A.frames) = _
    rw [hf]; rfl
  · show A.depth + ((Code.func _ _).weight + 0) + (Code.whileLoop _ _ _ _).weight ≤ D
    rw [func_weight, loop_weight]
    omega
  · show A.units + ((Code.func _ _).cUnits + 0) + (Code.whileLoop _ _ _ _).cUnits ≤ U
    rw [func_units, loop_units]
    omega
  · refine seg_leaf (.ok .next) ?_
    exact seg_end (.ok (.ret .none)) ⟨rfl, rfl, h2⟩
end
end Mine
end

section
open PySem PySem.W PyProof.Rows PySem.Calls
set_option Elab.async false
set_option maxRecDepth 100000
namespace Mine
section
variable {prog : Program} {w : World} {A : Around} {s : Shared} {h₀ base : Heap} {L : Addr} {m : Str → Option Value} {news : List (Addr × Obj)} {K : Frag} {p : Program} {loose : List Str} {mean : ExcName → Option Value} {mg mb : Str → Option Value} {A₀ : Around}
/-- a call of a generator function: nothing of it runs yet -/
theorem code_gen {env : Env} {outer : List Env} {R : Result → Shared → Prop} {name qual : Str} {params : Arguments} {body : List Stmt} {scope : Scope} {dV kV doc pm cdv ct oc : Value} {an od : Option Addr} {osl : Array (Option Value)} {f : Addr} {args : Args} {binds : List (Str × Value)}
    (B : Below A₀ base outer h₀) (F : Fr h₀ L s.heap m) (X₀ : K.In h₀) (N : News h₀ L s.heap news) (T : Top p loose mean mg mb h₀) (hA : A.frames = some (env :: outer)) (hf : env.frame = some L) (hke : env.scope.kind = .function)
    (ho : K.lookup f = some ⟨oc, od, .func (fnOf name qual params body scope dV kV doc pm an cdv ct), osl⟩) (hcd : codeIn K cdv qual = true) (hroom : A.depth < recursionLimit)
    (hbind : BindsTo s (fnOf name qual params body scope dV kV doc pm an cdv ct) args binds) (hloc : ∀ y ∈ binds, scope.names.lookup y.1 = some .local)
    (h : ∀ (g : Heap) (h₁ : Heap) (tk nm qn : Nat) (hb : Heap), g.objs.size = s.heap.objs.size → (∀ b o, g.get? b = some o → s.heap.get? b = some o) → Fr h₀ L g m → Fr g s.heap.objs.size h₁ (fun y => binds.reverse.lookup y) → News g s.heap.objs.size h₁ news → Below A base (env :: outer) g → K.In g → Top p loose mean mg mb g →
      (∀ b o, s.heap.get? b = some o → h₁.get? b = some o) → h₁.objs.size = s.heap.objs.size + 1 → hb = h₁.push { cls := .type "generator", data := .fields #[.int s.gens.size 0, .str name nm, .str qual qn] } →
      R (.ok (.ret (.ref h₁.objs.size))) { s with heap := hb, gens := s.gens.push (.fresh (.func body (envOf qual scope s.heap.objs.size f cdv))), toks := tk })
    (hco : scope.isCoroutine = false) (hgen : scope.isGenerator = true) (hk : scope.kind = .function)
    (hcell : ∀ x ∈ scope.names, x.2 ≠ .cell) : codeAny (model prog w) A (.call (.ref f) args) R s := by
  obtain ⟨FG, BG, st, _⟩ := groundX (R := R) B F N hA hf hke
  refine codeAny_call_generator hroom ((X₀.keeps F.keep) _ _ ho) rfl hco hgen rfl (codeRec_of (X₀.keeps F.keep) hcd) (hbind _ _ _ _ ?_)
  refine wpAny_newFunctionEnv hcell hloc (fun h₁ hns hsb => ?_) hk
  have hk₁ : ∀ b o, s.heap.get? b = some o → h₁.get? b = some o := fun b o e => hsb.extBut b o (Nat.ne_of_lt (Heap.lt_size e)) (Heap.get?_push_of_some _ e)
  refine ⟨(T.nolimit.keeps F.keep).keeps hk₁, ?_⟩
  exact h (hideAll s.heap (news.map (·.1))) h₁ _ _ _ _ (hideAll_size _ _) (fun b o e => of_hideAll _ e) FG ⟨hns, fun b o e => hk₁ b o (of_hideAll _ e), Nat.le_of_eq (hideAll_size _ _)⟩
    (fun p hp => ⟨hk₁ _ _ (N p hp).1, Nat.ne_of_lt (Heap.lt_size (N p hp).1), hideAll_none _ (List.mem_map_of_mem hp)⟩) BG (X₀.keeps fun b o e => st b o e) (T.keeps fun b o e => st b o e) hk₁ (by rw [hsb.1, Heap.size_push]) rfl
end

theorem fr_over1 {h₀ h : Heap} {L : Addr} {m : Str → Option Value} {x : Str} {v : Option Value} (e : m x = v) (F : Fr h₀ L h m) : Fr h₀ L h (fun y => if y = x then v else m y) := by
  have : (fun y => if y = x then v else m y) = m := by
    funext y
    split
    · simp_all
    · rfl
  rw [this]; exact F
/-- what is known of a path's text in the frame of 81 -/
def PathIs (g : Heap) (C : Addr) (l : List Nat) (s : Shared) : Prop := ∃ x : Str, ch x = l ∧ x.length ≤ 1000 ∧ ∃ m t, Fr g C s.heap m ∧ m "path" = some (.str x t)
/-- a ledger of all but C and the ground -/
theorem whole_ledger (g : Heap) (C : Addr) (h : Heap) : ∃ news, News g C h news ∧ ∀ b o, b ≠ C → h.get? b = some o → g.get? b = none → (b, o) ∈ news := by
  classical
  refine ⟨(List.range h.objs.size).filterMap fun b => if b = C ∨ (g.get? b).isSome then none else (h.get? b).map (b, ·), fun p hp => ?_, fun b o hb e q => ?_⟩
  · obtain ⟨b, _, hb⟩ := List.mem_filterMap.mp hp
    split at hb
    · cases hb
    · rename_i hn
      obtain ⟨o, ho, rfl⟩ := Option.map_eq_some_iff.mp hb
      refine ⟨ho, fun e => hn (.inl e), ?_⟩
      cases q : g.get? b with
      | none => rfl
      | some o' => exact absurd (.inr (by rw [q]; rfl)) hn
  · refine List.mem_filterMap.mpr ⟨b, List.mem_range.mpr (Heap.lt_size e), ?_⟩
    rw [if_neg (by rw [q]; simp [hb]), e]; rfl
theorem since_of {g : Heap} {C : Addr} {s : Shared} {news news' : List (Addr × Obj)} {m m' : Str → Option Value} {h' : Heap} {tk' : Nat} (F : Fr g C s.heap m) (hall : ∀ b o, b ≠ C → s.heap.get? b = some o → g.get? b = none → (b, o) ∈ news)
    (F' : Fr g C h' m') (N' : News g C h' news') (hsub : ∀ p ∈ news, p ∈ news') : Since C s { s with heap := h', toks := tk' } := by
  refine ⟨h', tk', rfl, fun b o hb _ e => ?_⟩
  cases q : g.get? b with
  | none => exact N'.get (hsub _ (hall b o hb e q))
  | some o' =>
    have h1 := F.keep b o' q
    rw [h1] at e
    cases e
    exact F'.keep b o q

theorem strs_items : ∀ (vs : List Value) (ds : List (List Nat)), vs.length = ds.length → (∀ (j : Nat) (v : Value), vs[j]? = some v → ∃ t, v = Value.str (mk (ds.getD j [])) t) → StrsAre vs (ds.map mk)
  | [], [], _, _ => .nil
  | v :: vs, d :: ds, hl, h => by
    obtain ⟨t, rfl⟩ := h 0 v rfl
    exact .cons _ t (strs_items vs ds (by simpa using hl) fun j v hv => h (j + 1) v (by simpa using hv))
  | [], _ :: _, hl, _ => by cases hl
  | _ :: _, [], hl, _ => by cases hl

/-- a fresh generator that is to tell the texts ds -/
def Anc (prog : Program) (w : World) (A : Around) (h₀ : Heap) (L : Addr) (news : List (Addr × Obj)) (ds : List (List Nat)) (I : Addr) (g₀ : Array GenState) (h : Heap) (gens : Array GenState) : Prop :=
  ∃ C no fp, (∀ d tk os, ToldTo prog w A.in1.in1 I no C fp ds 0 ⟨h, gens, d, tk, os⟩) ∧ I ≠ C ∧ cStatics ∈ fp ∧ cStatics ≠ C ∧ (∀ b ∈ fp, b < I) ∧ C < I ∧ I < h.objs.size ∧
    h₀.get? C = none ∧ C ≠ L ∧ (∀ p ∈ news, p.1 ≠ C) ∧ ((∀ y ∈ g₀, y.bare = true) → ∀ y ∈ gens, y.bare = true)

theorem list_anc {prog : Program} {w : World} {A : Around} {E : Value → Shared → Prop} {h₀ h : Heap} {L : Addr} {m : Str → Option Value} {news : List (Addr × Obj)} {ds : List (List Nat)} {I : Addr} {g₀ gens : Array GenState} {d : Drawn} {tk : Nat} {os : OsState} {Q : Value → Shared → Prop}
    (H : Anc prog w A h₀ L news ds I g₀ h gens) (hh : A.handled = none) (hroom : A.depth + 3 < recursionLimit) (F : Fr h₀ L h m) (N : News h₀ L h news) (hn : ds.length ≤ sizeLine)
    (hret : ∀ ws n h' tk' g', StrsAre ws (ds.map mk) → Fr h₀ L h' m → News h₀ L h' ((h.objs.size, listOf ws.toArray n) :: news) → ((∀ y ∈ g₀, y.bare = true) → ∀ y ∈ g', y.bare = true) → Q (.ref h.objs.size) ⟨h', g', d, tk', os⟩) :
    wpAny (model prog w) A (call (.type "list") [.ref I]) Q E ⟨h, gens, d, tk, os⟩ := by
  obtain ⟨C, no, fp, st, hIC, hcs, hcC, hfp, hC, hI, hC₀, hCL, hCn, hb⟩ := H
  have hIf : I ∉ fp := fun q => Nat.lt_irrefl _ (hfp _ q)
  have W := tells_walks (prog := prog) (w := w) (A := A.in1.in1) hh I no C fp ds hIC hIf (by show A.depth < _; omega) hcs hcC
  refine call_list_gen W (fun i s h => h.1.typeIs) (st d tk os) (fun b hb => ?_) (List.mem_cons_self ..) (fun s' acc' c' mv hl items => ?_) hn
  · show b < h.objs.size
    rcases List.mem_cons.mp hb with rfl | hb
    · exact hI
    rcases List.mem_cons.mp hb with rfl | hb
    · exact Nat.lt_trans hC hI
    · exact Nat.lt_trans (hfp b hb) hI
  obtain ⟨h', g', d', tk', os'⟩ := s'
  obtain ⟨mh, mg, md, mo, _⟩ := mv
  dsimp only at mh mg md mo hl ⊢
  subst md mo
  have up : ∀ b o, b ≠ C → h.get? b = some o → h'.get? b = some o := fun b o hb e => mh b o (by
    intro q
    rcases List.mem_cons.mp q with q | q
    · exact Nat.ne_of_lt (Heap.lt_size e) q
    · exact hb (List.mem_singleton.mp q)) (Heap.get?_push_of_some _ e)
  have hnew := next_is_new F
  refine hret acc'.toList c' h' tk' g' (strs_items _ _ (by rw [Array.length_toList]; exact items.1) fun j v hv => items.2 j v (by rwa [Array.getElem?_toList] at hv))
    ⟨F.ns.at' fun o e => up L o (Ne.symm hCL) e, fun b o e => up b o (fun q => by rw [q, hC₀] at e; cases e) (F.keep b o e), F.above⟩ ?_ (fun hg => mg.bare (hb hg))
  intro p hp
  rcases List.mem_cons.mp hp with rfl | hp
  · exact ⟨hl, Nat.ne_of_gt F.ns.lt, hnew⟩
  · exact ⟨up _ _ (hCn p hp) (N p hp).1, (N p hp).2⟩

theorem cut_keep {x : Str} {i : Nat} (hi : Txt.rfind x (Str.ofString "/") + 1 = (i : Int))
    (h : ((Txt.slice x none (some (Txt.rfind x (Str.ofString "/") + 1))).length : Int) = 0 ∨ (Txt.slice x none (some (Txt.rfind x (Str.ofString "/") + 1)) != Txt.mul (Str.ofString "/") ((Txt.slice x none (some (Txt.rfind x (Str.ofString "/") + 1))).length : Int)) = false) :
    ch (Txt.slice x none (some (Txt.rfind x (Str.ofString "/") + 1))) = hd1 (ch x) i := by
  have e : ch (Txt.slice x none (some (Txt.rfind x (Str.ofString "/") + 1))) = (ch x).take i := by rw [hi, slice_to]
  unfold hd1
  rw [if_neg, e]
  rintro ⟨h1, h2⟩
  rcases h with h | h
  · rw [← ch_len, e] at h
    exact h1 (List.eq_nil_of_length_eq_zero (by omega))
  · rw [ne_ch, mul_sl, ← ch_len, e] at h
    exact h2 (by simpa using h)
theorem cut_strip {x : Str} {i : Nat} (hi : Txt.rfind x (Str.ofString "/") + 1 = (i : Int)) (h1 : ((Txt.slice x none (some (Txt.rfind x (Str.ofString "/") + 1))).length : Int) ≠ 0)
    (h2 : (Txt.slice x none (some (Txt.rfind x (Str.ofString "/") + 1)) != Txt.mul (Str.ofString "/") ((Txt.slice x none (some (Txt.rfind x (Str.ofString "/") + 1))).length : Int)) = true) :
    ch (Txt.rstripChars (Txt.slice x none (some (Txt.rfind x (Str.ofString "/") + 1))) (Str.ofString "/")) = hd1 (ch x) i := by
  have e : ch (Txt.slice x none (some (Txt.rfind x (Str.ofString "/") + 1))) = (ch x).take i := by rw [hi, slice_to]
  unfold hd1
  rw [rstrip_one, e, if_pos]
  rw [← ch_len, e] at h1
  rw [ne_ch, mul_sl, ← ch_len, e] at h2
  exact ⟨fun q => h1 (by rw [q]; rfl), by simpa using h2⟩
theorem strip_test (x : Str) : (((Txt.rstripChars x (Str.ofString "/")).length : Int) != 0) = decide (rs (ch x) ≠ []) := by
  rw [← ch_len, rstrip_one]
  cases rs (ch x) with
  | nil => rfl
  | cons a r =>
    simp
    omega
local macro_rules | `(tactic| k_room) => `(tactic| ktr_room)
local macro_rules | `(tactic| k_units) => `(tactic| ktr_units)
set_option maxHeartbeats 8000000 in
theorem anc_call (w : World) (x : Str) (t0 : Tok) (hx : x.length ≤ 1000) (mean : ExcName → Option Value) (mg mb : Str → Option Value) (dp un : Nat) (gd : Option (List Code)) (cn : Str) (cs : Scope) (a : Addr) (ccd : Value) (A₀ : Around) (base h₀ : Heap) (L : Addr) (m : Str → Option Value) (s : Shared) (Q E : Value → Shared → Prop) (news : List (Addr × Obj))
    (B : Below A₀ base [] h₀) (F : Fr h₀ L s.heap m) (KX : (hd.heap_39 w.params).In h₀) (N : News h₀ L s.heap news) (T : Top hd.view_39 (looseW hd.view_39 []) mean mg mb h₀) (hcs : cs.kind = .function)
    (XB : (hd.heap_39 w.params).In base) (TB : Top hd.view_39 (looseW hd.view_39 []) mean mg mb base) (hdp : dp + 40 < recursionLimit) (hun : un + 200 < cLine)
    (hret : ∀ (A' : Around) I h' tk' g', A' = ktrTop dp un gd cn cs L a ccd [] [] → Anc Challenge.rw_in0147_01.row.prog w A' h₀ L news (dn (ch x).reverse) I s.gens h' g' → Fr h₀ L h' m → News h₀ L h' news → Q (.ref I) { s with heap := h', gens := g', toks := tk' }) :
    wpAny (model Challenge.rw_in0147_01.row.prog w) (ktrTop dp un gd cn cs L a ccd [] []) (call (.ref 81) [.str x t0]) Q E s := by
  revert KX
  k_fill
  k_with_none
  intro KX
  refine wpAny_call ?_
  k_dflt (refine' code_gen ?k1 ?k2 ?k3 ?k4 ?k5 ?kA ?kF ?kK ?k6 ?k7 ?k8 ?k9 ?kB ?_ ?c2 ?c3 ?c4 ?c5; (case kA => exact rfl); (case kF => exact rfl); (case kK => assumption); (case k1 => k_asm); (case k2 => k_asm); (case k3 => k_asm); (case k4 => k_asm); (case k5 => k_asm); (case k6 => k_is); (case k7 => k_is); (case k8 => ktr_room); (case k9 => exact BindsTo.of_eq rfl); (case c5 => decide); (case kB => exact locs rfl); (case c2 => exact rfl); (case c3 => exact rfl); (case c4 => exact rfl); k_whole)
  intro g h₁ tk nm qn hb hgs hgk FG F₁ N₁ B₁ X₁ T₁ hk₁ hsz hbe
  have hk₂ : ∀ b o, h₁.get? b = some o → hb.get? b = some o := fun b o e => by rw [hbe]; exact Heap.get?_push_of_some _ e
  have hk₃ : ∀ b o, s.heap.get? b = some o → hb.get? b = some o := fun b o e => hk₂ b o (hk₁ b o e)
  have hnl : s.heap.NoLimit := T.nolimit.keeps F.keep
  have hclt : cStatics < s.heap.objs.size := let ⟨_, hn, _⟩ := hnl; hn.lt
  refine hret _ _ _ _ _ rfl ⟨s.heap.objs.size, s.gens.size, List.range s.heap.objs.size, fun d tk os => ⟨?gen, hnl.keeps hk₃, _, Array.getElem?_push_size .., fun s'' hal => ⟨rfl, ?go⟩⟩, ?_, List.mem_range.mpr hclt, Nat.ne_of_lt hclt, ?_, ?_, ?_, ?_, ?_, ?_, ?_⟩ (F.keeps hk₃) (N.grown hk₃)
  case gen => rw [hbe]; exact ⟨_, _, _, Heap.get?_push_size _ rfl, rfl, rfl, rfl⟩
  case go =>
    refine seg_starts (D := dp + 30) (U := un + 150) (St := PathIs g s.heap.objs.size) ?H rfl rfl ?hd ?hu rfl rfl _ _ ?st (GenSince.refl _ _ _)
    case hd => show dp + 3 ≤ dp + 30; omega
    case hu => show un + 1 + 1 + 1 + 20 ≤ un + 150; omega
    case st =>
      have F₂ := F₁.keeps hk₂
      obtain ⟨oC, es, ep, ho, hd1, hd2, hd3⟩ := F₂.ns
      refine ⟨x, rfl, hx, _, t0, ⟨⟨oC, es, ep, hal _ (List.mem_cons_self ..) _ ho, hd1, hd2, hd3⟩, fun b o e => hal b (List.mem_cons_of_mem _ (List.mem_range.mpr (by rw [← hgs]; exact Heap.lt_size e))) o (F₂.keep b o e), F₂.above⟩, ?_⟩
      with_unfolding_all rfl
    case H =>
      clear hal hret hbe hk₁ hk₂ hk₃ hsz hnl FG F₁ N₁ F N hgk KX T B
      obtain ⟨C, hC⟩ : ∃ C, C = s.heap.objs.size := ⟨_, rfl⟩
      rw [← hC] at hgs hclt ⊢
      clear hC
      clear s''
      clear s
      refine ⟨?keep, ?first, ?test, ?told, ?next⟩
      case keep =>
        rintro l s s'' ⟨x, e, hx, m, t, F, hm⟩ hal
        obtain ⟨oC, es, ep, ho, hd1, hd2, hd3⟩ := F.ns
        exact ⟨x, e, hx, m, t, ⟨⟨oC, es, ep, hal _ (List.mem_cons_self ..) _ ho, hd1, hd2, hd3⟩, fun b o e => hal b (List.mem_cons_of_mem _ (List.mem_range.mpr (by rw [← hgs]; exact Heap.lt_size e))) o (F.keep b o e), F.above⟩, hm⟩
      case first =>
        rintro d u gd hdd huu s E ⟨x, e, hx, m, t, F, hm⟩
        obtain ⟨news, N, hall⟩ := whole_ledger g C s.heap
        have fin : ∀ {news' : List (Addr × Obj)} {m' : Str → Option Value} {h' : Heap} {tk' : Nat}, Fr g C h' m' → News g C h' news' → (∀ p ∈ news, p ∈ news') → Since C s { s with heap := h', toks := tk' } := since_of F hall
        have pth : PathIs g C _ s := ⟨x, e, hx, m, t, F, hm⟩
        replace F := fr_over1 hm F
        k_steps
        exact ⟨by trivial, ⟨_, by rw [rstrip_one, e], by omega, _, _, by assumption, by with_unfolding_all rfl⟩, fin (by assumption) (by assumption) fun p hp => hp⟩
      case test =>
        rintro d u gd hdd huu l s E ⟨x, e, hx, m, t, F, hm⟩
        obtain ⟨news, N, hall⟩ := whole_ledger g C s.heap
        have fin : ∀ {news' : List (Addr × Obj)} {m' : Str → Option Value} {h' : Heap} {tk' : Nat}, Fr g C h' m' → News g C h' news' → (∀ p ∈ news, p ∈ news') → Since C s { s with heap := h', toks := tk' } := since_of F hall
        have pth : PathIs g C _ s := ⟨x, e, hx, m, t, F, hm⟩
        replace F := fr_over1 hm F
        k_steps
        exact ⟨by rw [← e]; exact strip_test x, pth, ⟨_, _, rfl, fun b o _ _ e => e⟩⟩
      case told =>
        rintro d u gd hdd huu l s E ⟨x, e, hx, m, t, F, hm⟩
        obtain ⟨news, N, hall⟩ := whole_ledger g C s.heap
        have fin : ∀ {news' : List (Addr × Obj)} {m' : Str → Option Value} {h' : Heap} {tk' : Nat}, Fr g C h' m' → News g C h' news' → (∀ p ∈ news, p ∈ news') → Since C s { s with heap := h', toks := tk' } := since_of F hall
        have pth : PathIs g C _ s := ⟨x, e, hx, m, t, F, hm⟩
        replace F := fr_over1 hm F
        k_steps
        exact ⟨⟨t, by rw [← e, mk_ch]⟩, pth, GenSince.refl _ _ _⟩
      case next =>
        rintro d u gd hdd huu l s E ⟨x, e, hx, m, t, F, hm⟩ h0 h1
        obtain ⟨news, N, hall⟩ := whole_ledger g C s.heap
        have fin : ∀ {news' : List (Addr × Obj)} {m' : Str → Option Value} {h' : Heap} {tk' : Nat}, Fr g C h' m' → News g C h' news' → (∀ p ∈ news, p ∈ news') → Since C s { s with heap := h', toks := tk' } := since_of F hall
        have pth : PathIs g C _ s := ⟨x, e, hx, m, t, F, hm⟩
        replace F := fr_over1 hm F
        obtain ⟨i, hi, hlt, hdn⟩ := turn_dn (x := x) (fun q => h0 (by rw [← e, q]; rfl)) (by rw [e, h1])
        k_steps
        · refine ⟨by trivial, ⟨hd1 (ch x) i, ⟨_, cut_strip hi (by assumption) (by assumption), by omega, _, _, by assumption, by with_unfolding_all rfl⟩, by rw [← e]; exact hdn, hd1_or _ _⟩, fin (by assumption) (by assumption) fun p hp => ?_⟩
          repeat' (first | exact hp | apply List.mem_cons_of_mem)
        · refine ⟨by trivial, ⟨hd1 (ch x) i, ⟨_, cut_keep hi (.inr (by assumption)), by omega, _, _, by assumption, by with_unfolding_all rfl⟩, by rw [← e]; exact hdn, hd1_or _ _⟩, fin (by assumption) (by assumption) fun p hp => ?_⟩
          repeat' (first | exact hp | apply List.mem_cons_of_mem)
        · refine ⟨by trivial, ⟨hd1 (ch x) i, ⟨_, cut_keep hi (.inl (by assumption)), by omega, _, _, by assumption, by with_unfolding_all rfl⟩, by rw [← e]; exact hdn, hd1_or _ _⟩, fin (by assumption) (by assumption) fun p hp => ?_⟩
          repeat' (first | exact hp | apply List.mem_cons_of_mem)
  · rw [hsz]; exact Nat.succ_ne_self _
  · intro b hb
    rw [hsz]
    exact Nat.lt_succ_of_lt (List.mem_range.mp hb)
  · rw [hsz]; exact Nat.lt_succ_self _
  · rw [hbe, Heap.size_push]; exact Nat.lt_succ_self _
  · exact next_is_new F
  · exact Nat.ne_of_gt F.ns.lt
  · exact fun p hp => Nat.ne_of_lt (Heap.lt_size (N p hp).1)
  · intro hg y hy
    rcases Array.mem_push.mp hy with hy | rfl
    · exact hg y hy
    · rfl
end Mine
end

section
open PySem PySem.W PyProof.Rows PySem.Calls
set_option Elab.async false
set_option maxRecDepth 100000
namespace Mine
section
variable {prog : Program} {w : World} {A : Around} {s : Shared} {env : Env} {h₀ : Heap}
/-- the end of a turn of a loop whose turns may wake generators -/
def FreeEnd (h₀ : Heap) (L : Addr) (J : (Str → Option Value) → Array GenState → Prop) (own : List (Addr × Obj)) (d : Drawn) (os : OsState) (s' : Shared) : Prop :=
  ∃ m' news', Fr h₀ L s'.heap m' ∧ News h₀ L s'.heap news' ∧ (∀ p ∈ own, p ∈ news') ∧ J m' s'.gens ∧ s'.drawn = d ∧ s'.os = os
def FreePost (h₀ : Heap) (L : Addr) (J : (Str → Option Value) → Array GenState → Prop) (own : List (Addr × Obj)) (d : Drawn) (os : OsState) (Q : Flow → Shared → Prop) (f : Flow) (s' : Shared) : Prop :=
  match f with
  | .ret v => Q (.ret v) s'
  | .brk => Q .next s'
  | _ => FreeEnd h₀ L J own d os s'

/-- the end of a turn is reached: one name for both ways -/
theorem free_next {L : Addr} {J : (Str → Option Value) → Array GenState → Prop} {own : List (Addr × Obj)} {d : Drawn} {os : OsState} {Q : Flow → Shared → Prop} {s' : Shared} (h : FreeEnd h₀ L J own d os s') : FreePost h₀ L J own d os Q .next s' := h
theorem free_cont {L : Addr} {J : (Str → Option Value) → Array GenState → Prop} {own : List (Addr × Obj)} {d : Drawn} {os : OsState} {Q : Flow → Shared → Prop} {s' : Shared} (h : FreeEnd h₀ L J own d os s') : FreePost h₀ L J own d os Q .cont s' := h

def LoopFree (prog : Program) (w : World) (A : Around) (h₀ : Heap) (env : Env) (x : Str) (body : List Stmt) (Q : Flow → Shared → Prop) (E : Value → Shared → Prop) (it : Value) (s₂ : Shared) : Prop :=
  ∃ (I : Addr) (fp wr : List Addr) (n : Nat) (P : Nat → Value → Prop) (St : Nat → Heap → Prop) (m : Str → Option Value) (J : Nat → (Str → Option Value) → Array GenState → Prop),
    it = .ref I ∧ Walks prog w A I fp wr n P St ∧ env.locals ∉ fp ∧ (∀ b ∈ wr, h₀.get? b = none) ∧ St 0 s₂.heap ∧ Fr h₀ env.locals s₂.heap m ∧ J 0 m s₂.gens ∧
    (∀ i v m₁ g₁ h tk own, i < n → P i v → J i m₁ g₁ → Fr h₀ env.locals h (fun y => if y = x then some v else m₁ y) → News h₀ env.locals h own →
      wpAny (model prog w) A (execs body env) (FreePost h₀ env.locals (J (i + 1)) own s₂.drawn s₂.os Q) E ⟨h, g₁, s₂.drawn, tk, s₂.os⟩) ∧
    ∀ h g tk m', Fr h₀ env.locals h m' → J n m' g → Q .next ⟨h, g, s₂.drawn, tk, s₂.os⟩

theorem For_free {E : Value → Shared → Prop} {Q : Flow → Shared → Prop} {x : Str} {px pos : Pos} {iter : Expr} {body : List Stmt} {m₀ : Str → Option Value} (_F : Fr h₀ env.locals s.heap m₀) (hx : env.kindOf x = some .local)
    (hp : (env.scope.kind == .class || (env.scope.kind == .module && env.locals != env.globals)) = false)
    (h : wpAny (model prog w) A (eval iter env) (fun xv s₁ => wpAny (model prog w) A (pyIter xv) (fun it s₂ => LoopFree prog w A h₀ env x body Q E it s₂) E s₁) E s)
    (hs : ∀ x, foldedSetIterable iter env x = pure x := by intro _; rfl)
    (hE : PassesOwn (model prog w) A env E := by passes_own) :
    wpAny (model prog w) A (exec (.For (.Name x px) iter body [] pos) env) Q E s := by
  refine wpAny_For (wpAny_mono h (fun xv s₁ h₁ => wpAny_mono h₁ (fun it s₂ h₂ => ?_) fun _ _ e => e) fun _ _ e => e) hs
  obtain ⟨I, fp, wr, n, P, St, m, J, rfl, W, hLf, hwr, hst, F, h0, step, hQ⟩ := h₂
  have hLw : env.locals ∉ wr := fun h => hLf (W.sub _ h)
  have old : ∀ b o, h₀.get? b = some o → b ∉ wr := fun b o e hb => by rw [hwr b hb] at e; cases e
  refine codeAny_forLoop (fun k s' => ∃ h' g' tk m' i, s' = ⟨h', g', s₂.drawn, tk, s₂.os⟩ ∧ St i h' ∧ Fr h₀ env.locals h' m' ∧ J i m' g' ∧ i ≤ n ∧ k = n + 1 - i) ?_ (n + 1) ⟨s₂.heap, s₂.gens, s₂.toks, m, 0, rfl, hst, F, h0, Nat.zero_le _, rfl⟩
  rintro k s' ⟨h', g', tk, m', i, rfl, hst', F', hJ, hi, rfl⟩
  have next : ∀ h₁ : Heap, (∀ b o, b ∉ wr → h'.get? b = some o → h₁.get? b = some o) → Fr h₀ env.locals h₁ m' := fun h₁ hk₁ =>
    ⟨F'.ns.at' fun o e => hk₁ _ o hLw e, fun b o e => hk₁ b o (old b o e) (F'.keep b o e), F'.above⟩
  by_cases hlt : i < n
  · refine W.item i _ _ _ hlt hst' fun v h₁ tk₁ hP hst₁ hk₁ => ?_
    have F₁ := next h₁ hk₁
    refine wpAny_assign_Name (wpAny_storeName_local hx F₁.ns (fun h₂ hn₂ hs₂ => ?_) hp)
    have F₂ := F₁.set hn₂ hs₂
    have Nown : News h₀ env.locals h₂ (ownOf h₀ fp h₂) := news_ownOf hLf
    have hst₂ : St (i + 1) h₂ := W.frame _ _ _ hst₁ fun b hb o e => (hs₂.2 b fun q => hLf (q ▸ hb)).trans e
    refine wpAny_mono (wpAny_passesOwn hE (step i v m' g' h₂ _ (ownOf h₀ fp h₂) hlt hP hJ F₂ Nown)) (fun f s₃ h₃ => ?_) fun _ _ e => e
    have fin : FreeEnd h₀ env.locals (J (i + 1)) (ownOf h₀ fp h₂) s₂.drawn s₂.os s₃ → ∃ m, m < n + 1 - i ∧ ∃ h' g' tk m' i, s₃ = ⟨h', g', s₂.drawn, tk, s₂.os⟩ ∧ St i h' ∧ Fr h₀ env.locals h' m' ∧ J i m' g' ∧ i ≤ n ∧ m = n + 1 - i := by
      rintro ⟨m₂, news₂, F₃, N₃, ho, hJ₃, hd, hos⟩
      obtain ⟨h₃', g₃, d₃, tk₃, os₃⟩ := s₃
      dsimp only at F₃ N₃ hJ₃ hd hos
      subst hd hos
      refine ⟨n + 1 - (i + 1), by omega, h₃', g₃, tk₃, m₂, i + 1, rfl, ?_, F₃, hJ₃, hlt, rfl⟩
      refine W.frame _ _ _ hst₂ fun b hb o e => ?_
      cases hn : h₀.get? b with
      | some o₀ =>
        have : o₀ = o := by have := F₂.keep b o₀ hn; rw [e] at this; exact (Option.some.inj this).symm
        exact this ▸ F₃.keep b o₀ hn
      | none => exact (N₃ _ (ho _ (mem_ownOf hb hn e))).1
    cases f with
    | ret v => exact h₃
    | brk => exact h₃
    | cont => exact fin h₃
    | next => exact fin h₃
  · have hin : i = n := by omega
    subst hin
    exact W.done _ _ _ hst' fun h₁ tk₁ hk₁ => wpAny_execs_nil (hQ h₁ g' tk₁ m' (next h₁ hk₁) hJ)

/-- over a written tuple -/
theorem iter_free {E : Value → Shared → Prop} {Q : Flow → Shared → Prop} {x : Str} {body : List Stmt} {t : Addr} {items : Array Value} {m : Str → Option Value} (J : (Str → Option Value) → Array GenState → Prop) (hh : A.handled = none)
    (F : Fr h₀ env.locals s.heap m) (ht : s.heap.IsTuple t items) (htL : t ≠ env.locals) (hj : J m s.gens)
    (turn : ∀ v m₁ g₁ h tk own, v ∈ items → J m₁ g₁ → Fr h₀ env.locals h (fun y => if y = x then some v else m₁ y) → News h₀ env.locals h own →
      wpAny (model prog w) A (execs body env) (FreePost h₀ env.locals J own s.drawn s.os Q) E ⟨h, g₁, s.drawn, tk, s.os⟩)
    (done : ∀ h g tk m', Fr h₀ env.locals h m' → J m' g → Q .next ⟨h, g, s.drawn, tk, s.os⟩) :
    wpAny (model prog w) A (pyIter (.ref t)) (fun it s₂ => LoopFree prog w A h₀ env x body Q E it s₂) E s := by
  obtain ⟨o, ho, _⟩ := id ht
  have hne : t ≠ s.heap.objs.size := Nat.ne_of_lt (Heap.lt_size ho)
  refine wpAny_pyIter_tuple ht ⟨_, _, _, _, _, _, m, fun _ => J, rfl, Walks.tuple hh s.heap.objs.size t hne items, ?_, ?_, ⟨⟨_, Heap.get?_push_size _ rfl, rfl, rfl⟩, ht.push _⟩, F.push _, hj, ?_, done⟩
  · intro hm
    rcases List.mem_cons.mp hm with hm | hm
    · exact Nat.ne_of_lt F.ns.lt hm
    · exact htL (List.mem_singleton.mp hm).symm
  · intro b hb
    rw [List.mem_singleton.mp hb]
    exact next_is_new F
  · exact fun i v m₁ g₁ h tk own hi hP hJ F₁ N₁ => turn v m₁ g₁ h tk own (Array.mem_of_getElem? hP) hJ F₁ N₁
/-- over a list that the turns leave alone -/
theorem iter_freeL {E : Value → Shared → Prop} {Q : Flow → Shared → Prop} {x : Str} {body : List Stmt} {t : Addr} {items : Array Value} {m : Str → Option Value} (J : Nat → (Str → Option Value) → Array GenState → Prop) (hh : A.handled = none)
    (F : Fr h₀ env.locals s.heap m) (ht : s.heap.IsList t items) (htL : t ≠ env.locals) (hj : J 0 m s.gens)
    (turn : ∀ i v m₁ g₁ h tk own, items[i]? = some v → J i m₁ g₁ → Fr h₀ env.locals h (fun y => if y = x then some v else m₁ y) → News h₀ env.locals h own →
      wpAny (model prog w) A (execs body env) (FreePost h₀ env.locals (J (i + 1)) own s.drawn s.os Q) E ⟨h, g₁, s.drawn, tk, s.os⟩)
    (done : ∀ h g tk m', Fr h₀ env.locals h m' → J items.size m' g → Q .next ⟨h, g, s.drawn, tk, s.os⟩) :
    wpAny (model prog w) A (pyIter (.ref t)) (fun it s₂ => LoopFree prog w A h₀ env x body Q E it s₂) E s := by
  obtain ⟨o, ho, _⟩ := id ht
  have hne : t ≠ s.heap.objs.size := Nat.ne_of_lt (Heap.lt_size ho)
  refine wpAny_pyIter_list ht ⟨_, _, _, _, _, _, m, J, rfl, Walks.list hh s.heap.objs.size t hne items, ?_, ?_, ⟨⟨_, Heap.get?_push_size _ rfl, rfl, rfl⟩, ht.push _⟩, F.push _, hj, ?_, done⟩
  · intro hm
    rcases List.mem_cons.mp hm with hm | hm
    · exact Nat.ne_of_lt F.ns.lt hm
    · exact htL (List.mem_singleton.mp hm).symm
  · intro b hb
    rw [List.mem_singleton.mp hb]
    exact next_is_new F
  · exact fun i v m₁ g₁ h tk own hi hP hJ F₁ N₁ => turn i v m₁ g₁ h tk own hP hJ F₁ N₁
/-- the text so far, in the frame of law -/
def TextIs (k : Nat) (m : Str → Option Value) : Prop := ∃ x t, m "text" = some (.str x t) ∧ x.length ≤ k
abbrev Bare (g : Array GenState) : Prop := ∀ y ∈ g, y.bare = true
theorem bare_of {g : Array GenState} (h : g = #[]) : Bare g := by subst h; intro y hy; simp at hy
/-- what holds between two turns of law's loops -/
def SJ (k : Nat) (m : Str → Option Value) (g : Array GenState) : Prop := TextIs k m ∧ Bare g
theorem script_loop {E : Value → Shared → Prop} {Q : Flow → Shared → Prop} {xn : Str} {body : List Stmt} {t : Addr} {vs : List Value} {ns : List Int} {nn : Nat} {m : Str → Option Value} {news : List (Addr × Obj)} {x0 : Str} {t0 : Tok} (hh : A.handled = none)
    (F : Fr h₀ env.locals s.heap m) (N : News h₀ env.locals s.heap news) (hm : (t, listOf vs.toArray nn) ∈ news) (hi : IntsAre vs ns) (h0 : m "text" = some (.str x0 t0)) (hx0 : x0.length ≤ 0) (hxn : Str.ofString "text" ≠ xn) (hg : Bare s.gens)
    (turn : ∀ (i : Nat) (n : Int) (tn : Tok) (x : Str) (tt : Tok) (m₁ : Str → Option Value) (g₁ : Array GenState) (h : Heap) (tk : Nat) (own : List (Addr × Obj)), x.length ≤ 2 * i → i < ns.length → Bare g₁ → Fr h₀ env.locals h (fun y => if y = "text" then some (.str x tt) else if y = xn then some (.int n tn) else m₁ y) → News h₀ env.locals h own →
      wpAny (model prog w) A (execs body env) (FreePost h₀ env.locals (SJ (2 * (i + 1))) own s.drawn s.os Q) E ⟨h, g₁, s.drawn, tk, s.os⟩)
    (done : ∀ (x : Str) (tt : Tok) (m₁ : Str → Option Value) (g₁ : Array GenState) (h : Heap) (tk : Nat), x.length ≤ 2 * ns.length → Bare g₁ → Fr h₀ env.locals h (fun y => if y = "text" then some (.str x tt) else m₁ y) → News h₀ env.locals h [] → Q .next ⟨h, g₁, s.drawn, tk, s.os⟩) :
    wpAny (model prog w) A (pyIter (.ref t)) (fun it s₂ => LoopFree prog w A h₀ env xn body Q E it s₂) E s := by
  have hl : s.heap.IsList t vs.toArray := ⟨_, N.get hm, rfl, nn, rfl⟩
  have hlen : vs.toArray.size = ns.length := by simp [hi.length]
  refine iter_freeL (fun i => SJ (2 * i)) hh F hl (N _ hm).2.1 ⟨⟨x0, t0, h0, hx0⟩, hg⟩ ?_ ?_
  · rintro i v m₁ g₁ h tk own hv ⟨⟨x, tt, hx, hl⟩, hg⟩ F₁ N₁
    have hv' : vs[i]? = some v := by simpa using hv
    have hlt : i < vs.length := by
      rcases Nat.lt_or_ge i vs.length with h | h
      · exact h
      · rw [List.getElem?_eq_none h] at hv'; cases hv'
    obtain ⟨n, tn, rfl⟩ := hi.all v (List.mem_of_getElem? hv')
    refine turn i n tn x tt m₁ g₁ h tk own hl (by rw [← hi.length]; exact hlt) hg (fr_over1 ?_ F₁) N₁
    rw [if_neg hxn]; exact hx
  · rintro h g tk m' F' ⟨⟨x, tt, hx, hl⟩, hg⟩
    rw [hlen] at hl
    exact done x tt m' g h tk hl hg (fr_over1 hx F') News.nil
theorem heads_loop {E : Value → Shared → Prop} {Q : Flow → Shared → Prop} {xn : Str} {body : List Stmt} {t : Addr} {ot : Obj} {items : Array Value} {nt : Nat} {m : Str → Option Value} {news : List (Addr × Obj)} {x0 : Str} {t0 : Tok} (hh : A.handled = none)
    (F : Fr h₀ env.locals s.heap m) (N : News h₀ env.locals s.heap news) (hm : (t, ot) ∈ news) (hc : ot.cls = .type "tuple") (hd : ot.data = .seq items nt) (hi : ∀ v ∈ items, ∃ x t, v = Value.str x t ∧ x.length ≤ 8)
    (h0 : m "text" = some (.str x0 t0)) (hx0 : x0.length ≤ 100) (hxn : Str.ofString "text" ≠ xn) (hg : Bare s.gens)
    (turn : ∀ (hd : Str) (th : Tok) (x : Str) (tt : Tok) (m₁ : Str → Option Value) (g₁ : Array GenState) (h : Heap) (tk : Nat) (own : List (Addr × Obj)), hd.length ≤ 8 → x.length ≤ 100 → Bare g₁ → Fr h₀ env.locals h (fun y => if y = "text" then some (.str x tt) else if y = xn then some (.str hd th) else m₁ y) → News h₀ env.locals h own →
      wpAny (model prog w) A (execs body env) (FreePost h₀ env.locals (SJ 100) own s.drawn s.os Q) E ⟨h, g₁, s.drawn, tk, s.os⟩)
    (done : ∀ m₁ g₁ h tk, Bare g₁ → Fr h₀ env.locals h m₁ → News h₀ env.locals h [] → Q .next ⟨h, g₁, s.drawn, tk, s.os⟩) :
    wpAny (model prog w) A (pyIter (.ref t)) (fun it s₂ => LoopFree prog w A h₀ env xn body Q E it s₂) E s := by
  refine iter_free (SJ 100) hh F ⟨_, N.get hm, hc, nt, hd⟩ (N _ hm).2.1 ⟨⟨x0, t0, h0, hx0⟩, hg⟩ ?_ ?_
  · rintro v m₁ g₁ h tk own hv ⟨⟨x, tt, hx, hl⟩, hg⟩ F₁ N₁
    obtain ⟨hd, th, rfl, hh⟩ := hi v hv
    refine turn hd th x tt m₁ g₁ h tk own hh hl hg (fr_over1 ?_ F₁) N₁
    rw [if_neg hxn]; exact hx
  · rintro h g tk m' F' ⟨_, hg⟩
    exact done m' g h tk hg F' News.nil
end
section
variable {prog : Program} {w : World} {A : Around} {E : Value → Shared → Prop} {s : Shared} {h₀ : Heap} {L : Addr}
theorem fm8 (n : Int) : 0 ≤ n.fmod 8 ∧ n.fmod 8 < 8 := by rw [Int.fmod_eq_emod_of_nonneg _ (by decide)]; omega
theorem bounds_of (l : List Str) (h : l.all (fun a => decide (a.length ≤ 2)) = true) : ∀ a ∈ l, a.length ≤ 2 := fun a ha => by simpa using List.all_eq_true.mp h a ha
/-- a text out of a written menu: only its length is kept -/
theorem menu_item {value slice : Expr} {l : Addr} {ws : List Str} {vs : List Value} {i : Int} {u : Tok} {news : List (Addr × Obj)} {Q : Value → Shared → Prop} (N : News h₀ L s.heap news) (hm : (l, ({ cls := .type "tuple", data := .seq vs.toArray } : Obj)) ∈ news)
    (hw : StrsAre vs ws) (hB : ∀ a ∈ ws, a.length ≤ 2) (h0 : 0 ≤ i) (h1 : i < (ws.length : Int)) (hz : ws.length ≤ 10) (h : ∀ y t', y.length ≤ 2 → Q (.str y t') s)
    (hs : subscripted slice false (.ref l) (.int i u) = operate [.ref l, .int i u] (getItem (.ref l) (.int i u)) := by with_unfolding_all rfl) :
    wpAny (model prog w) A (subscriptTail value slice (.ref l) (.int i u)) Q E s := by
  refine KTb.item_tup ⟨_, N.get hm, rfl, _, rfl⟩ hw h0 h1 (by omega) (fun t' hlt => h _ t' ?_) hs
  rw [List.getD_eq_getElem?_getD, List.getElem?_eq_getElem hlt]
  exact hB _ (List.getElem_mem hlt)
end
theorem turn_end {h₀ : Heap} {L : Addr} {own : List (Addr × Obj)} {d : Drawn} {os : OsState} {s' : Shared} {k : Nat} {m' : Str → Option Value} {news' : List (Addr × Obj)} {x : Str} {t : Tok} (F' : Fr h₀ L s'.heap m') (N' : News h₀ L s'.heap news') (hs : ∀ p ∈ own, p ∈ news') (hm : m' "text" = some (.str x t)) (hl : x.length ≤ k)
    (hg : Bare s'.gens) (hd : s'.drawn = d) (ho : s'.os = os) : FreeEnd h₀ L (SJ k) own d os s' := ⟨m', news', F', N', hs, ⟨⟨x, t, hm, hl⟩, hg⟩, hd, ho⟩
theorem one_len (c : Nat) : ({ cps := #[c] } : Str).length = 1 := rfl
theorem grown {x y : Str} (hx : x.length ≤ 40) (hy : y.length ≤ 20) : (x ++ y).length ≤ 100 := by
  have e := ch_append x y
  rw [← ch_len, e, List.length_append, ch_len, ch_len]
  omega
end Mine
end

section
open PySem PySem.W PyProof.Rows PySem.Calls
set_option Elab.async false
set_option maxRecDepth 100000
namespace Mine
theorem use_call {w : World} {f : Addr} {vs : List Value} {R : RetT} {mean : ExcName → Option Value} {mg mb : Str → Option Value} {dp un : Nat} {gd : Option (List Code)} {cn : Str} {cs : Scope} {a : Addr} {ccd : Value} {A₀ : Around} {base h₀ : Heap} {L : Addr} {m : Str → Option Value} {s : Shared} {Q E : Value → Shared → Prop} {news : List (Addr × Obj)}
    (C : CallC w f vs R) (B : Below A₀ base [] h₀) (F : Fr h₀ L s.heap m) (KX : (hd.heap_39 w.params).In h₀) (N : News h₀ L s.heap news) (T : Top hd.view_39 (looseW hd.view_39 []) mean mg mb h₀) (hcs : cs.kind = .function)
    (XB : (hd.heap_39 w.params).In base) (TB : Top hd.view_39 (looseW hd.view_39 []) mean mg mb base) (hdp : dp + 8 < recursionLimit) (hun : un + 60 < cLine) (hR : R h₀ L m news s Q) :
    wpAny (model Challenge.rw_in0147_01.row.prog w) (ktrTop dp un gd cn cs L a ccd [] []) (call (.ref f) vs) Q E s :=
  C _ _ _ _ _ _ _ _ _ _ _ _ _ _ _ _ _ _ _ B F KX N T hcs XB TB hdp hun hR
theorem use_anc {w : World} {x : Str} {t0 : Tok} {mean : ExcName → Option Value} {mg mb : Str → Option Value} {dp un : Nat} {gd : Option (List Code)} {cn : Str} {cs : Scope} {a : Addr} {ccd : Value} {A₀ : Around} {base h₀ : Heap} {L : Addr} {m : Str → Option Value} {s : Shared} {Q E : Value → Shared → Prop} {news : List (Addr × Obj)}
    (hx : x.length ≤ 1000) (B : Below A₀ base [] h₀) (F : Fr h₀ L s.heap m) (KX : (hd.heap_39 w.params).In h₀) (N : News h₀ L s.heap news) (T : Top hd.view_39 (looseW hd.view_39 []) mean mg mb h₀) (hcs : cs.kind = .function)
    (XB : (hd.heap_39 w.params).In base) (TB : Top hd.view_39 (looseW hd.view_39 []) mean mg mb base) (hdp : dp + 40 < recursionLimit) (hun : un + 200 < cLine)
    (hR : ∀ I h' tk' g', Anc Challenge.rw_in0147_01.row.prog w (ktrTop dp un gd cn cs L a ccd [] []) h₀ L news (dn (ch x).reverse) I s.gens h' g' → Fr h₀ L h' m → News h₀ L h' news → Q (.ref I) { s with heap := h', gens := g', toks := tk' }) :
    wpAny (model Challenge.rw_in0147_01.row.prog w) (ktrTop dp un gd cn cs L a ccd [] []) (call (.ref 81) [.str x t0]) Q E s :=
  anc_call w x t0 hx mean mg mb dp un gd cn cs a ccd A₀ base h₀ L m s Q E news B F KX N T hcs XB TB hdp hun fun A' I h' tk' g' e H F' N' => hR I h' tk' g' (e ▸ H) F' N'
theorem dn_few (l : List Nat) : (dn l.reverse).length ≤ l.length := by
  have key : ∀ n (r : List Nat), r.length ≤ n → (dn r).length ≤ r.length := by
    intro n
    induction n with
    | zero => intro r h; have : r = [] := List.eq_nil_of_length_eq_zero (by omega); subst this; rw [dn_nil]; exact Nat.le_refl _
    | succ n ih =>
      intro r h
      rcases r with _ | ⟨a, q⟩
      · rw [dn_nil]; exact Nat.le_refl _
      · by_cases e : a = 47
        · subst e
          rw [dn_slash]
          have := ih q (by simpa using h)
          simp only [List.length_cons]
          omega
        · rw [dn_other e]
          have h1 := dw_len (· != 47) q
          have := ih (q.dropWhile (· != 47)) (by simp only [List.length_cons] at h; omega)
          simp only [List.length_cons]
          omega
  have := key l.length l.reverse (by simp)
  simpa using this
theorem few_dn {x : Str} (h : x.length ≤ 1000) : (dn (ch x).reverse).length ≤ sizeLine := by
  have := dn_few (ch x)
  rw [ch_len] at this
  rw [sizeLine_eq]
  omega
theorem use_list {prog : Program} {w : World} {A : Around} {E : Value → Shared → Prop} {h₀ h : Heap} {L : Addr} {m : Str → Option Value} {news : List (Addr × Obj)} {ds : List (List Nat)} {I : Addr} {g₀ gens : Array GenState} {d : Drawn} {tk : Nat} {os : OsState} {Q : Value → Shared → Prop}
    (H : Anc prog w A h₀ L news ds I g₀ h gens) (hg : Bare g₀) (hh : A.handled = none) (hroom : A.depth + 3 < recursionLimit) (F : Fr h₀ L h m) (N : News h₀ L h news) (hn : ds.length ≤ sizeLine)
    (hret : ∀ b ws n h' tk' g', StrsAre ws (ds.map mk) → Fr h₀ L h' m → News h₀ L h' ((b, listOf ws.toArray n) :: news) → Bare g' → Q (.ref b) ⟨h', g', d, tk', os⟩) :
    wpAny (model prog w) A (call (.type "list") [.ref I]) Q E ⟨h, gens, d, tk, os⟩ :=
  list_anc H hh hroom F N hn fun ws n h' tk' g' a b c e => hret _ ws n h' tk' g' a b c (e hg)
end Mine
end

section
open PySem PySem.W PyProof.Rows PySem.Calls
set_option Elab.async false
set_option maxRecDepth 100000
namespace Mine
open LCg SeqAt
/-- tuples of one text, each new in its turn -/
inductive Tups : List (Addr × Obj) → List Value → List (List Nat) → Prop
  | nil : Tups [] [] []
  | snoc {nw ys ds b o l} : Tups nw ys ds → Tup1 o l → Tups ((b, o) :: nw) (ys ++ [.ref b]) (ds ++ [l])
section
variable {prog : Program} {w : World} {A : Around} {E : Value → Shared → Prop} {s : Shared} {h₀ : Heap} {L : Addr} {news : List (Addr × Obj)} {Q : Value → Shared → Prop}
theorem eq_one (x : Str) (t u : Tok) : EqAt A s (.str x t) (.str x u) true := by
  have h := (SeqRoads2.EqGives.str x x t u).at A s
  simpa using h
theorem tup_is {b : Addr} {o : Obj} {l : List Nat} (hb : s.heap.get? b = some o) (ht : Tup1 o l) : ∃ t, s.heap.IsTuple b #[.str (mk l) t] := by
  obtain ⟨hc, t, n, hd⟩ := ht
  exact ⟨t, o, hb, hc, n, hd⟩
theorem eq_tup {b c : Addr} {o o' : Obj} {l : List Nat} (hb : s.heap.get? b = some o) (hc : s.heap.get? c = some o') (ht : Tup1 o l) (hu : Tup1 o' l) (hr : A.units < cLine) : EqAt A s (.ref b) (.ref c) true := by
  by_cases e : b = c
  · subst e; exact EqAt.same _
  · obtain ⟨t, ht⟩ := tup_is hb ht
    obtain ⟨u, hu⟩ := tup_is hc hu
    have := RcAt.tuples (e := fun _ => true) ht hu hr (fun j h1 h2 => by
      have : j = 0 := by simpa using h1
      subst this
      exact eq_one _ _ _)
    exact EqAt.of_refs e (by simpa using this)
theorem ne_tup {a b : Addr} {o1 o2 : Obj} {l : List Nat} (N : News h₀ L s.heap news) (m1 : (a, o1) ∈ news) (m2 : (b, o2) ∈ news) (e1 : Tup1 o1 l) (e2 : Tup1 o2 l) (hu : A.units + 64 < cLine) (h : Q (.bool false) s) : wpAny (model prog w) A (compareOp .NotEq (.ref a) (.ref b)) Q E s := by
  obtain ⟨t, ht⟩ := tup_is (N.get m1) e1
  obtain ⟨u, hu'⟩ := tup_is (N.get m2) e2
  have := RcNeAt.tuples (A := A) (e := fun _ => true) ht hu' (by omega) (fun j h1 h2 => by
    have : j = 0 := by simpa using h1
    subst this
    exact eq_one _ _ _)
  exact this prog w E Q (by simpa using h)
theorem strs_at {ds : List (List Nat)} : ∀ {ws us : List Value}, StrsAre ws (ds.map mk) → StrsAre us (ds.map mk) → ws.length = us.length ∧ ∀ j (h1 : j < ws.length) (h2 : j < us.length), EqAt A s ws[j] us[j] true := by
  induction ds with
  | nil =>
    intro ws us h1 h2
    cases h1
    cases h2
    exact ⟨rfl, fun j h1 _ => absurd h1 (Nat.not_lt_zero _)⟩
  | cons d ds ih =>
    intro ws us h1 h2
    cases h1 with
    | cons _ t r =>
      cases h2 with
      | cons _ u q =>
        obtain ⟨e1, e2⟩ := ih r q
        refine ⟨by simp [e1], fun j h1 h2 => ?_⟩
        cases j with
        | zero => exact eq_one _ _ _
        | succ j => exact e2 j (by simpa using h1) (by simpa using h2)
theorem all_true (n : Nat) : ((List.range n).all fun _ => true) = true := by
  rw [List.all_eq_true]; exact fun _ _ => rfl
theorem ne_lists {a b : Addr} {o1 o2 : Obj} {ws us : List Value} {n1 n2 : Nat} (N : News h₀ L s.heap news) (m1 : (a, o1) ∈ news) (m2 : (b, o2) ∈ news) (c1 : o1.cls = .type "list") (c2 : o2.cls = .type "list") (d1 : o1.data = .seq ws.toArray n1) (d2 : o2.data = .seq us.toArray n2)
    (hl : ws.length = us.length) (he : ∀ j (h1 : j < ws.length) (h2 : j < us.length), EqAt A.in1 s ws[j] us[j] true) (hu : A.units + 64 < cLine) (h : Q (.bool false) s) : wpAny (model prog w) A (compareOp .NotEq (.ref a) (.ref b)) Q E s := by
  have := RcNeAt.lists (A := A) (e := fun _ => true) ⟨_, N.get m1, c1, _, d1⟩ ⟨_, N.get m2, c2, _, d2⟩ (by simpa using hl) (by omega) (fun j h1 h2 => by simpa using he j (by simpa using h1) (by simpa using h2))
  exact this prog w E Q (by rw [all_true]; exact h)
theorem ne_strs {a b : Addr} {o1 o2 : Obj} {ws us : List Value} {n1 n2 : Nat} {ds ds' : List (List Nat)} (N : News h₀ L s.heap news) (m1 : (a, o1) ∈ news) (m2 : (b, o2) ∈ news) (c1 : o1.cls = .type "list") (c2 : o2.cls = .type "list") (d1 : o1.data = .seq ws.toArray n1) (d2 : o2.data = .seq us.toArray n2)
    (e1 : StrsAre ws (ds.map mk)) (e2 : StrsAre us (ds'.map mk)) (he : ds' = ds) (hu : A.units + 64 < cLine) (h : Q (.bool false) s) : wpAny (model prog w) A (compareOp .NotEq (.ref a) (.ref b)) Q E s := by
  subst he
  obtain ⟨x1, x2⟩ := strs_at (A := A.in1) (s := s) e1 e2
  exact ne_lists N m1 m2 c1 c2 d1 d2 x1 x2 hu h
theorem tups_len {t1 : List (Addr × Obj)} {ws : List Value} {ds : List (List Nat)} (T : Tups t1 ws ds) : ws.length = ds.length := by
  induction T with
  | nil => rfl
  | snoc _ _ ih => simp [ih]
theorem tups_item {t1 : List (Addr × Obj)} {ws : List Value} {ds : List (List Nat)} (T : Tups t1 ws ds) : ∀ j (h1 : j < ws.length) (h2 : j < ds.length), ∃ b o, ws[j] = .ref b ∧ (b, o) ∈ t1 ∧ Tup1 o ds[j] := by
  induction T with
  | nil => intro j h1 _; cases h1
  | @snoc nw ys ds b o l T t ih =>
    intro j h1 h2
    have hl := tups_len T
    by_cases hj : j < ys.length
    · obtain ⟨b', o', x1, x2, x3⟩ := ih j hj (by omega)
      refine ⟨b', o', ?_, .tail _ x2, ?_⟩
      · rw [List.getElem_append_left hj]; exact x1
      · rw [List.getElem_append_left (by omega)]; exact x3
    · have : j = ys.length := by simp at h1; omega
      subst this
      refine ⟨b, o, by simp, .head _, ?_⟩
      simpa [hl] using t
theorem ne_tups {a b : Addr} {o1 o2 : Obj} {ws us : List Value} {n1 n2 : Nat} {ds : List (List Nat)} {t1 t2 : List (Addr × Obj)} (N : News h₀ L s.heap news) (m1 : (a, o1) ∈ news) (m2 : (b, o2) ∈ news) (c1 : o1.cls = .type "list") (c2 : o2.cls = .type "list") (d1 : o1.data = .seq ws.toArray n1) (d2 : o2.data = .seq us.toArray n2)
    (e1 : Tups t1 ws ds) (e2 : Tups t2 us ds) (s1 : ∀ p ∈ t1, p ∈ news) (s2 : ∀ p ∈ t2, p ∈ news) (hu : A.units + 64 < cLine) (h : Q (.bool false) s) : wpAny (model prog w) A (compareOp .NotEq (.ref a) (.ref b)) Q E s := by
  have l1 := tups_len e1
  have l2 := tups_len e2
  refine ne_lists N m1 m2 c1 c2 d1 d2 (by omega) (fun j h1 h2 => ?_) hu h
  obtain ⟨b1, p1, x1, x2, x3⟩ := tups_item e1 j h1 (by omega)
  obtain ⟨b2, p2, y1, y2, y3⟩ := tups_item e2 j h2 (by omega)
  rw [x1, y1]
  exact eq_tup (N.get (s1 _ x2)) (N.get (s2 _ y2)) x3 y3 (by show A.units + 1 < cLine; omega)
end
theorem item_of {ws : List Value} {ds : List (List Nat)} (H : StrsAre ws (ds.map mk)) {i : Nat} {v : Value} (h : ws.toArray[i]? = some v) : ∃ l t, ds[i]? = some l ∧ v = .str (mk l) t := by
  have h' : ws[i]? = some v := by simpa using h
  clear h
  induction ds generalizing ws i with
  | nil => cases H; simp at h'
  | cons d ds ih =>
    cases H with
    | cons _ t r =>
      cases i with
      | zero => exact ⟨d, t, rfl, by simpa using h'.symm⟩
      | succ i => simpa using ih r (by simpa using h')
section
variable {prog : Program} {w : World} {A : Around} {s : Shared} {h₀ : Heap} {L : Addr} {m : Str → Option Value} {env : Env}
/-- the turns of a comprehension, by what holds between them -/
theorem rest_ind {elt : Expr} {x : Str} {scope : Scope} {cl : List (Str × Addr)} {S : List (Addr × Obj) → Prop} {P : Nat → Value → Prop} {Fin : List Value → List (Addr × Obj) → Prop} {n : Nat} {news : List (Addr × Obj)} (G : Nat → Nat → List Value → List (Addr × Obj) → Prop)
    (start : G n 0 [] news) (zero : ∀ i ys nw, G 0 i ys nw → Fin ys nw)
    (step : ∀ k i ys nw, G (k + 1) i ys nw → ∀ v I oI C oC D m₂ h tk (E' : Value → Shared → Prop), P i v → NsObj oC m₂ → m₂ x = some v → Fr h₀ L h m → News h₀ L h ((I, oI) :: (C, oC) :: (D, lst ys) :: nw) → Off3 I C D nw → ((@Ne Nat I C) ∧ (@Ne Nat I D) ∧ (@Ne Nat C D)) →
      wpAny (model prog w) A (eval elt (compEnvC scope cl C env)) (CompEnd h₀ L m { s with heap := h, toks := tk } I oI C oC D (lst ys) S (fun y nw' => G k (i + 1) (ys ++ [y]) nw')) E' { s with heap := h, toks := tk }) :
    CompRest prog w A h₀ L m env elt x scope cl s S P Fin n 0 [] news := by
  have key : ∀ k i ys nw, G k i ys nw → CompRest prog w A h₀ L m env elt x scope cl s S P Fin k i ys nw := by
    intro k
    induction k with
    | zero => intro i ys nw g; exact zero i ys nw g
    | succ k ih =>
      intro i ys nw g
      refine CompRest.succ fun v I oI C oC D m₂ h tk E' h1 h2 h3 h4 h5 h6 h7 => ?_
      refine wpAny_mono (step k i ys nw g v I oI C oC D m₂ h tk E' h1 h2 h3 h4 h5 h6 h7) (fun y s'' h8 => ?_) fun _ _ e => e
      obtain ⟨h', tk', news', a1, a2, a3, a4, a5, a6⟩ := h8
      exact ⟨h', tk', _, a1, a2, a3, a4, a5, ih _ _ _ a6⟩
  exact key n 0 [] news start
end
theorem use_new {w : World} {f : Addr} {vs : List Value} {l : List Nat} {mean : ExcName → Option Value} {mg mb : Str → Option Value} {dp un : Nat} {gd : Option (List Code)} {cn : Str} {cs : Scope} {a : Addr} {ccd : Value} {A₀ : Around} {base h₀ : Heap} {L : Addr} {m : Str → Option Value} {s : Shared} {Q E : Value → Shared → Prop} {news : List (Addr × Obj)}
    (C : CallC w f vs (RetNew l)) (B : Below A₀ base [] h₀) (F : Fr h₀ L s.heap m) (KX : (hd.heap_39 w.params).In h₀) (N : News h₀ L s.heap news) (T : Top hd.view_39 (looseW hd.view_39 []) mean mg mb h₀) (hcs : cs.kind = .function)
    (XB : (hd.heap_39 w.params).In base) (TB : Top hd.view_39 (looseW hd.view_39 []) mean mg mb base) (hdp : dp + 8 < recursionLimit) (hun : un + 60 < cLine)
    (hR : ∀ (b : Addr) (o : Obj) (h' : Heap) (tk' : Nat), Tup1 o l → (∀ p ∈ news, p.1 ≠ b) → Fr h₀ L h' m → News h₀ L h' ((b, o) :: news) → Q (.ref b) { s with heap := h', toks := tk' }) :
    wpAny (model Challenge.rw_in0147_01.row.prog w) (ktrTop dp un gd cn cs L a ccd [] []) (call (.ref f) vs) Q E s :=
  C _ _ _ _ _ _ _ _ _ _ _ _ _ _ _ _ _ _ _ B F KX N T hcs XB TB hdp hun fun b o h' tk' t nb F' N' => hR b o h' tk' t (fun p hp e => by have := (N p hp).1; rw [e, nb] at this; cases this) F' N'
end Mine
end

section
open PySem PySem.W PyProof.Rows PySem.Calls
set_option Elab.async false
set_option maxRecDepth 100000
namespace Mine
open LCg SeqAt
section
variable {prog : Program} {w : World} {A : Around} {s : Shared} {h₀ : Heap} {L : Addr} {m : Str → Option Value} {env : Env}
theorem len_of_strs {ws : List Value} {ds : List (List Nat)} (H : StrsAre ws (ds.map mk)) : ws.length = ds.length := by rw [H.length, List.length_map]
/-- a comprehension over a list of texts that gives a text for each -/
theorem comp_strs (f : List Nat → List Nat) {elt : Expr} {x : Str} {scope : Scope} {cl : List (Str × Addr)} {Fin : Shared → List Value → List (Addr × Obj) → Prop} {ax : Addr} {ws : List Value} {n : Nat} {ds : List (List Nat)} {news : List (Addr × Obj)} (hh : A.handled = none) (F : Fr h₀ L s.heap m) (N : News h₀ L s.heap news)
    (hm : (ax, listOf ws.toArray n) ∈ news) (sa : StrsAre ws (ds.map mk)) (hsz : ds.length ≤ sizeLine)
    (step : ∀ ys l t I oI C oC D m₂ h tk (E' : Value → Shared → Prop), l ∈ ds → NsObj oC m₂ → m₂ x = some (.str (mk l) t) → Fr h₀ L h m → News h₀ L h ((I, oI) :: (C, oC) :: (D, lst ys) :: news) →
      wpAny (model prog w) A (eval elt (compEnvC scope cl C env)) (fun y s' => Post (∃ t h' tk', y = .str (mk (f l)) t ∧ s' = { s with heap := h', toks := tk' } ∧ Fr h₀ L h' m ∧ News h₀ L h' ((I, oI) :: (C, oC) :: (D, lst ys) :: news))) E' { s with heap := h, toks := tk })
    (done : ∀ g ys, StrsAre ys ((ds.map f).map mk) → Fin { s with heap := g } ys news) :
    CompSrc prog w A h₀ L m env elt x scope cl Fin (.ref ax) s := by
  have hlen := len_of_strs sa
  refine CompSrc.ledger hh F N hm (by simpa [hlen] using hsz) fun g => ?_
  refine rest_ind (fun k i ys nw => nw = news ∧ k + i = ds.length ∧ StrsAre ys (((ds.map f).take i).map mk)) ⟨rfl, by simp [hlen], .nil⟩ ?_ ?_
  · rintro i ys nw ⟨rfl, hk, hy⟩
    have : ((ds.map f).take i) = ds.map f := List.take_of_length_le (by simp; omega)
    rw [this] at hy
    exact done g ys hy
  · rintro k i ys nw ⟨rfl, hk, hy⟩ v I oI C oC D m₂ h tk E' hv hC hx F' N' off _
    obtain ⟨l, t, hl, rfl⟩ := item_of sa hv
    refine wpAny_mono (step ys l t I oI C oC D m₂ h tk E' (List.mem_of_getElem? hl) hC hx F' N') (fun y s' hp => ?_) fun _ _ e => e
    obtain ⟨⟨t', h', tk', rfl, rfl, F'', N''⟩⟩ := hp
    refine ⟨h', tk', nw, rfl, F'', N'', off, .inr ⟨_, hm, rfl, _, rfl⟩, rfl, by omega, ?_⟩
    have : (ds.map f).take (i + 1) = (ds.map f).take i ++ [f l] := by
      rw [List.take_add_one, List.getElem?_map, hl]; rfl
    rw [this, List.map_append]
    exact strs_snoc _ _ hy
/-- a comprehension over a list of texts that gives a new tuple of the text for each -/
theorem comp_tups {elt : Expr} {x : Str} {scope : Scope} {cl : List (Str × Addr)} {Fin : Shared → List Value → List (Addr × Obj) → Prop} {ax : Addr} {ws : List Value} {n : Nat} {ds : List (List Nat)} {news : List (Addr × Obj)} (hh : A.handled = none) (F : Fr h₀ L s.heap m) (N : News h₀ L s.heap news)
    (hm : (ax, listOf ws.toArray n) ∈ news) (sa : StrsAre ws (ds.map mk)) (hsz : ds.length ≤ sizeLine)
    (step : ∀ nw ys l t I oI C oC D m₂ h tk (E' : Value → Shared → Prop), l ∈ ds → NsObj oC m₂ → m₂ x = some (.str (mk l) t) → Fr h₀ L h m → News h₀ L h ((I, oI) :: (C, oC) :: (D, lst ys) :: nw) →
      wpAny (model prog w) A (eval elt (compEnvC scope cl C env)) (fun y s' => Post (∃ b o h' tk', y = .ref b ∧ Tup1 o l ∧ (@Ne Nat b I ∧ @Ne Nat b C ∧ @Ne Nat b D) ∧ s' = { s with heap := h', toks := tk' } ∧ Fr h₀ L h' m ∧ News h₀ L h' ((b, o) :: (I, oI) :: (C, oC) :: (D, lst ys) :: nw))) E' { s with heap := h, toks := tk })
    (done : ∀ g ys tups, Tups tups ys ds → Fin { s with heap := g } ys (tups ++ news)) :
    CompSrc prog w A h₀ L m env elt x scope cl Fin (.ref ax) s := by
  have hlen := len_of_strs sa
  refine CompSrc.ledger hh F N hm (by simpa [hlen] using hsz) fun g => ?_
  refine rest_ind (fun k i ys nw => ∃ tups, nw = tups ++ news ∧ k + i = ds.length ∧ Tups tups ys (ds.take i)) ⟨[], rfl, by simp [hlen], .nil⟩ ?_ ?_
  · rintro i ys nw ⟨tups, rfl, hk, hy⟩
    rw [List.take_of_length_le (by omega)] at hy
    exact done g ys tups hy
  · rintro k i ys nw ⟨tups, rfl, hk, hy⟩ v I oI C oC D m₂ h tk E' hv hC hx F' N' off _
    obtain ⟨l, t, hl, rfl⟩ := item_of sa hv
    refine wpAny_mono (step _ ys l t I oI C oC D m₂ h tk E' (List.mem_of_getElem? hl) hC hx F' N') (fun y s' hp => ?_) fun _ _ e => e
    obtain ⟨⟨b, o, h', tk', rfl, ht, ⟨n1, n2, n3⟩, rfl, F'', N''⟩⟩ := hp
    refine ⟨h', tk', (b, o) :: (tups ++ news), rfl, F'', fun p hp => N'' p ?_, ⟨⟨n1, n2, n3⟩, off⟩, .inr ⟨_, .tail _ (List.mem_append.mpr (.inr hm)), rfl, _, rfl⟩, (b, o) :: tups, rfl, by omega, ?_⟩
    · rcases List.mem_cons.mp hp with rfl | hp
      · exact .tail _ (.head _)
      · rcases List.mem_cons.mp hp with rfl | hp
        · exact .tail _ (.tail _ (.head _))
        · rcases List.mem_cons.mp hp with rfl | hp
          · exact .tail _ (.tail _ (.tail _ (.head _)))
          · rcases List.mem_cons.mp hp with rfl | hp
            · exact .head _
            · exact .tail _ (.tail _ (.tail _ (.tail _ hp)))
    · have : ds.take (i + 1) = ds.take i ++ [l] := by rw [List.take_add_one, hl]; rfl
      rw [this]
      exact .snoc hy ht
end
theorem tail_news {h₀ h : Heap} {L : Addr} {p : Addr × Obj} {a b : List (Addr × Obj)} (N : News h₀ L h (p :: (a ++ b))) : News h₀ L h (p :: (b ++ a)) := fun q hq => N q (by
  rcases List.mem_cons.mp hq with rfl | hq
  · exact .head _
  · rcases List.mem_append.mp hq with hq | hq
    · exact .tail _ (List.mem_append.mpr (.inr hq))
    · exact .tail _ (List.mem_append.mpr (.inl hq)))
/-- the same beginning of a text, below it -/
theorem low_len {R l : List Nat} (h : l ∈ dn R.reverse) {n : Nat} (hn : R.length ≤ n) : (mk l).length ≤ n := by
  have := (dn_prefix h).length_le
  rw [← ch_len, ch_mk]
  omega
theorem is257t (x : Str) : (Txt.slice x none (some 3) != Str.ofString "257") = !decide ((ch x).take 3 = [50, 53, 55]) := by
  have e : ch (Txt.slice x none (some 3)) = (ch x).take 3 := slice_to x 3
  have e2 : ch (Str.ofString "257") = [50, 53, 55] := by decide +kernel
  rw [ne_ch, e, e2]
  by_cases h : (ch x).take 3 = [50, 53, 55]
  · rw [h]; decide
  · simp [h]
theorem low_good {x : Str} {l : List Nat} (h3 : (Txt.slice x none (some 3) != Str.ofString "257") = false) (h : l ∈ dn (ch x).reverse) : (Txt.slice (mk l) none (some 3) != Str.ofString "257") = false := by
  rw [is257t] at h3 ⊢
  have h3 : (ch x).take 3 = [50, 53, 55] := by simpa using h3
  have := below_good h3 h
  rw [ch_mk]
  simp [this]
theorem low_bad {x : Str} {l : List Nat} (h3 : (Txt.slice x none (some 3) != Str.ofString "257") = true) (h : l ∈ dn (ch x).reverse) : (Txt.slice (mk l) none (some 3) != Str.ofString "257") = true := by
  rw [is257t] at h3 ⊢
  have h3 : (ch x).take 3 ≠ [50, 53, 55] := by simpa using h3
  have := below_bad h3 h
  rw [ch_mk]
  simp [this]
theorem nm_le : ∀ (n : Nat) (l : List Nat), l.length ≤ n → (nm l).length ≤ l.length := by
  intro n
  induction n with
  | zero => intro l h; have : l = [] := List.eq_nil_of_length_eq_zero (by omega); subst this; simp [nm]
  | succ n ih =>
    intro l h
    rcases l with _ | ⟨a, r⟩
    · simp [nm]
    · by_cases ha : a = 34
      · subst ha
        rcases r with _ | ⟨b, q⟩
        · rw [nm_one (by simp)]; simp
        · by_cases hb : b = 34
          · subst hb
            rw [nm_two]
            have := ih q (by simp only [List.length_cons] at h; omega)
            simp only [List.length_cons]
            omega
          · rw [nm_one (by simpa using hb)]; simp
      · rw [nm_plain ha]
        have := ih r (by simp only [List.length_cons] at h; omega)
        simp only [List.length_cons]
        omega
theorem name_len {x : Str} {n : Nat} (h : x.length ≤ n) : (mk (nmOf (ch x))).length ≤ n := by
  rw [← ch_len, ch_mk]
  rw [← ch_len] at h
  unfold nmOf
  split
  · have h1 := nm_le _ ((ch x).drop 5) (Nat.le_refl _)
    rw [List.length_drop] at h1
    omega
  · simp
theorem tup_mk {o : Obj} {l : List Nat} (h : Tup1 o (ch (mk l))) : Tup1 o l := by rwa [ch_mk] at h
theorem off3_of {b I C D : Addr} {oI oC oD : Obj} {nw : List (Addr × Obj)} (h : ∀ p ∈ (I, oI) :: (C, oC) :: (D, oD) :: nw, p.1 ≠ b) : (@Ne Nat b I ∧ @Ne Nat b C ∧ @Ne Nat b D) :=
  ⟨Ne.symm (h _ (.head _)), Ne.symm (h _ (.tail _ (.head _))), Ne.symm (h _ (.tail _ (.tail _ (.head _))))⟩
end Mine
end

section
open PySem PySem.W PyProof.Rows PySem.Calls
set_option Elab.async false
set_option maxRecDepth 100000
namespace Mine
/-- between two turns of the loop that climbs -/
def CJ (xn : Str) (m₀ : Str → Option Value) (cl du : Addr) (od : Obj) (rest : List (Addr × Obj)) (b : Nat) (acc : List (List Nat)) (m : Str → Option Value) (nx : List (Addr × Obj)) : Prop :=
  (∀ z, z ≠ xn → m z = m₀ z) ∧ ∃ us k, nx = (cl, listOf us.toArray k) :: (du, od) :: rest ∧ StrsAre us (acc.map mk) ∧ us.length ≤ b
section
variable {prog : Program} {w : World} {A : Around} {s : Shared} {env : Env} {h₀ : Heap}
theorem climb_loop {E : Value → Shared → Prop} {Q : Flow → Shared → Prop} {xn : Str} {body : List Stmt} {l cl du : Addr} {ol oc od : Obj} {ws : List Value} {n : Nat} {ds : List (List Nat)} {all rest : List (Addr × Obj)} {m₀ : Str → Option Value} (hh : A.handled = none) (F : Fr h₀ env.locals s.heap m₀) (N : News h₀ env.locals s.heap all)
    (hl : (l, ol) ∈ all) (cl' : ol.cls = .type "list") (dl : ol.data = .seq ws.toArray n) (sa : StrsAre ws (ds.map mk)) (hc : (cl, oc) ∈ all) (hoc : oc = listOf #[] 0) (hd : (du, od) ∈ all) (h1 : cl ≠ l) (h2 : du ≠ l) (h3 : ∀ p ∈ rest, p ∈ all) (h4 : ∀ p ∈ rest, p.1 ≠ l) (h5 : ∀ p ∈ (du, od) :: rest, p.1 ≠ cl)
    (turn : ∀ i (nmx : List Nat) (t : Tok) (acc : List (List Nat)) (us : List Value) (k : Nat) (h : Heap) (tk : Nat) (own : List (Addr × Obj)), nmx ∈ ds → i < ds.length → us.length ≤ i → StrsAre us (acc.map mk) → Fr h₀ env.locals h (fun y => if y = xn then some (.str (mk nmx) t) else m₀ y) →
      News h₀ env.locals h ((cl, listOf us.toArray k) :: (du, od) :: (rest ++ own)) → (∀ p ∈ (du, od) :: (rest ++ own), p.1 ≠ cl) →
      wpAny (model prog w) A (execs body env) (InvPostN h₀ env.locals (CJ xn m₀ cl du od rest (i + 1) (stepc acc nmx)) own (((cl, oc) :: (du, od) :: rest).map (·.1)) { s with heap := h, toks := tk } Q) E { s with heap := h, toks := tk })
    (done : ∀ (us : List Value) (k : Nat) (u : Option Value) (h : Heap) (tk : Nat), StrsAre us ((climb [] ds).map mk) → Fr h₀ env.locals h (fun y => if y = xn then u else m₀ y) → News h₀ env.locals h ((cl, listOf us.toArray k) :: (du, od) :: rest) → Q .next { s with heap := h, toks := tk }) :
    wpAny (model prog w) A (pyIter (.ref l)) (fun it s₂ => LoopAtV prog w A h₀ env xn body Q E it s₂) E s := by
  have hls : s.heap.IsList l ws.toArray := ⟨_, N.get hl, cl', n, dl⟩
  have hne : l ≠ s.heap.objs.size := Nat.ne_of_lt (Heap.lt_size (N.get hl))
  have hlen : ws.toArray.size = ds.length := by simp [len_of_strs sa]
  refine wpAny_pyIter_list hls ?_
  have W := Walks.list (prog := prog) (w := w) hh s.heap.objs.size l hne ws.toArray
  refine loop_invN (news := (cl, oc) :: (du, od) :: rest) (fun i m nx => CJ xn m₀ cl du od rest i (climb [] (ds.take i)) m nx) W ?_ ?_ ?_ ?_ ⟨⟨_, Heap.get?_push_size _ rfl, rfl, rfl⟩, hls.push _⟩ (F.push _) ?_ ⟨fun _ _ => rfl, [], 0, by rw [hoc], .nil, Nat.le_refl _⟩ ?_ ?_
  · intro hm
    rcases List.mem_cons.mp hm with hm | hm
    · exact Nat.ne_of_lt F.ns.lt hm
    · exact (N _ hl).2.1 (List.mem_singleton.mp hm).symm
  · intro b hb
    rw [List.mem_singleton.mp hb]
    exact next_is_new F
  · intro p hp hI
    have hlt : p.1 < s.heap.objs.size := by
      rcases List.mem_cons.mp hp with rfl | hp
      · exact Heap.lt_size (N.get hc)
      · rcases List.mem_cons.mp hp with rfl | hp
        · exact Heap.lt_size (N.get hd)
        · exact Heap.lt_size (N.get (h3 p hp))
    exact Nat.ne_of_lt hlt (List.mem_singleton.mp hI)
  · intro p hp hI
    have hx : p.1 < s.heap.objs.size ∧ p.1 ≠ l := by
      rcases List.mem_cons.mp hp with rfl | hp
      · exact ⟨Heap.lt_size (N.get hc), h1⟩
      · rcases List.mem_cons.mp hp with rfl | hp
        · exact ⟨Heap.lt_size (N.get hd), h2⟩
        · exact ⟨Heap.lt_size (N.get (h3 p hp)), h4 p hp⟩
    rcases List.mem_cons.mp hI with hI | hI
    · exact Nat.ne_of_lt hx.1 hI
    · exact hx.2 (List.mem_singleton.mp hI)
  · intro p hp
    rcases List.mem_cons.mp hp with rfl | hp
    · exact ⟨Heap.get?_push_of_some _ (N.get hc), (N _ hc).2⟩
    · rcases List.mem_cons.mp hp with rfl | hp
      · exact ⟨Heap.get?_push_of_some _ (N.get hd), (N _ hd).2⟩
      · exact ⟨Heap.get?_push_of_some _ (N.get (h3 p hp)), (N _ (h3 p hp)).2⟩
  · rintro i v m₁ news₁ h tk own hi hP _ hoff ⟨hm, us, k, rfl, hu, hul⟩ F₁ N₁
    obtain ⟨nmx, t, hn, rfl⟩ := item_of sa hP
    have e : (fun y => if y = xn then some (Value.str (mk nmx) t) else m₁ y) = fun y => if y = xn then some (Value.str (mk nmx) t) else m₀ y := by
      funext y
      by_cases hy : y = xn
      · rw [if_pos hy, if_pos hy]
      · rw [if_neg hy, if_neg hy, hm y hy]
    rw [e] at F₁
    have hs : climb [] (ds.take (i + 1)) = stepc (climb [] (ds.take i)) nmx := by
      rw [List.take_add_one, hn]
      simp [climb_append, climb_cons, climb]
    rw [hs]
    exact turn i nmx t _ us k h tk own (List.mem_of_getElem? hn) (by rw [← hlen]; exact hi) hul hu F₁ N₁ (fun p hp => by
      rcases List.mem_cons.mp hp with rfl | hp
      · exact h5 _ (.head _)
      · rcases List.mem_append.mp hp with hp | hp
        · exact h5 _ (.tail _ hp)
        · exact hoff p hp cl (.head _))
  · rintro m₁ nx h tk ⟨hm, us, k, rfl, hu, _⟩ F₁ N₁
    rw [hlen, List.take_length] at hu
    have e : m₁ = fun y => if y = xn then m₁ xn else m₀ y := by
      funext y
      by_cases hy : y = xn
      · rw [if_pos hy, hy]
      · rw [if_neg hy, hm y hy]
    rw [e] at F₁
    exact done us k _ h tk hu F₁ N₁
end
theorem climb_due {x : Str} {us : List Value} (h3 : (Txt.slice x none (some 3) != Str.ofString "257") = false) (hu : StrsAre us ((climb [] ((dn (ch x).reverse).map nmOf)).map mk)) : StrsAre us ((dn (ch (mk (nmOf (ch x)))).reverse).map mk) := by
  rw [is257t] at h3
  have h3 : (ch x).take 3 = [50, 53, 55] := by simpa using h3
  rw [climb_all h3] at hu
  rwa [ch_mk]
theorem head_ne {a b : Addr} {o : Obj} {r : List (Addr × Obj)} (h : ∀ p ∈ (a, o) :: r, p.1 ≠ b) : b ≠ a := fun e => h _ (.head _) e.symm
theorem off_tail {D : Addr} {pre own : List (Addr × Obj)} (h : LCg.Off1 D (pre ++ own)) : ∀ p ∈ own, p.1 ≠ D := fun p hp => off1_mem _ h p (List.mem_append.mpr (.inr hp))
theorem off2_tail {D : Addr} {x y : Addr × Obj} {own : List (Addr × Obj)} (h : LCg.Off1 D (x :: y :: own)) : ∀ p ∈ own, p.1 ≠ D := fun p hp => off1_mem _ h p (.tail _ (.tail _ hp))
theorem names_len {x : Str} {l : List Nat} (hx : x.length ≤ 1000) (h : l ∈ (dn (ch x).reverse).map nmOf) : (mk l).length ≤ 1000 := by
  obtain ⟨r, hr, rfl⟩ := List.mem_map.mp h
  have h1 : (mk r).length ≤ 1000 := low_len hr (by rw [ch_len]; exact hx)
  have := name_len h1
  rwa [ch_mk] at this
theorem lt_off {cl du : Addr} {od : Obj} {own : List (Addr × Obj)} (h1 : du < cl) (h2 : ∀ p ∈ own, p.1 < cl) : ∀ p ∈ (du, od) :: own, p.1 ≠ cl := fun p hp => by
  rcases List.mem_cons.mp hp with rfl | hp
  · exact Nat.ne_of_lt h1
  · exact Nat.ne_of_lt (h2 p hp)
end Mine
end

section
open PySem PySem.W PyProof.Rows PySem.Calls
set_option Elab.async false
set_option maxRecDepth 100000
namespace Mine
open SeqAt
section
variable {prog : Program} {w : World} {A : Around} {E : Value → Shared → Prop} {s : Shared} {h₀ : Heap} {L : Addr} {m : Str → Option Value} {news : List (Addr × Obj)} {Q : Value → Shared → Prop}
theorem add_strs {a b : Addr} {o2 : Obj} {us : List Value} {k n2 : Nat} {y : Str} {t : Tok} (F : Fr h₀ L s.heap m) (N : News h₀ L s.heap news) (m1 : (a, listOf us.toArray k) ∈ news) (m2 : (b, o2) ∈ news) (c2 : o2.cls = .type "list") (d2 : o2.data = .seq #[Value.str y t] n2) (hz : us.length ≤ 2000)
    (h : ∀ D h', Fr h₀ L h' m → News h₀ L h' ((D, listOf (us ++ [Value.str y t]).toArray 0) :: news) → (∀ p ∈ news, p.1 < D) → Q (.ref D) { s with heap := h' }) : wpAny (model prog w) A (binaryOp .Add (.ref a) (.ref b)) Q E s :=
  kmk_add_lit F N ⟨_, N.get m1, rfl, _, rfl⟩ ⟨_, N.get m2, c2, _, d2⟩ (by simp) h (by rw [sizeLine_eq]; simp; omega)
def isT (l : List Nat) : Value → Bool
  | .str z _ => ch z == l
  | _ => false
theorem any_strs {l : List Nat} {acc : List (List Nat)} : ∀ {us : List Value}, StrsAre us (acc.map mk) → us.any (isT l) = acc.any (· == l) := by
  induction acc with
  | nil => intro us h; cases h; rfl
  | cons a acc ih =>
    intro us h
    cases h with
    | cons _ t r => simp [isT, ch_mk, ih r]
theorem str_of {acc : List Str} : ∀ {us : List Value}, StrsAre us acc → ∀ v ∈ us, ∃ z t, v = .str z t := by
  induction acc with
  | nil => intro us h v hv; cases h; cases hv
  | cons a acc ih =>
    intro us h v hv
    cases h with
    | cons _ t r =>
      rcases List.mem_cons.mp hv with rfl | hv
      · exact ⟨_, _, rfl⟩
      · exact ih r v hv
theorem not_in {x y : Str} {tx t : Tok} {D : Addr} {us : List Value} {n : Nat} {acc : List (List Nat)} {l : List Nat} (N : News h₀ L s.heap news) (m1 : (D, listOf (us ++ [Value.str y t]).toArray n) ∈ news) (hu : StrsAre us (acc.map mk)) (hx : ch x = l) (hy : ch y = [])
    (h : Q (.bool (!decide (l ∈ acc ++ [[]]))) s) : wpAny (model prog w) A (compareOp .NotIn (.str x tx) (.ref D)) Q E s := by
  refine notIn_listAt (isT l) ⟨_, N.get m1, rfl, _, rfl⟩ (fun v hv => ?_) ?_
  · have hv : v ∈ us ++ [Value.str y t] := by simpa using hv
    have : ∃ z u, v = .str z u := by
      rcases List.mem_append.mp hv with hv | hv
      · exact str_of hu v hv
      · exact ⟨_, _, List.mem_singleton.mp hv⟩
    obtain ⟨z, u, rfl⟩ := this
    have := (SeqRoads2.EqGives.str z x u tx).at A.in1 s
    rw [← hx]
    exact this
  · have e : (us ++ [Value.str y t]).toArray.any (isT l) = decide (l ∈ acc ++ [[]]) := by
      rw [List.any_toArray, List.any_append, any_strs hu]
      simp only [List.any_cons, List.any_nil, isT, hy, Bool.or_false]
      rw [Bool.eq_iff_iff]
      simp only [Bool.or_eq_true, List.any_eq_true, beq_iff_eq, decide_eq_true_eq, List.mem_append, List.mem_singleton]
      constructor
      · rintro (⟨a, ha, rfl⟩ | h)
        · exact .inl ha
        · exact .inr h.symm
      · rintro (h | h)
        · exact .inl ⟨_, h, rfl⟩
        · exact .inr h.symm
    rw [e]
    exact h
theorem ne_self {x : Str} {t u : Tok} (h : Q (.bool false) s) : wpAny (model prog w) A (compareOp .NotEq (.str x t) (.str x u)) Q E s :=
  RcNeAt.str_str x t x u prog w E Q (by simpa using h)
theorem app_cl {cl du : Addr} {od : Obj} {us : List Value} {k : Nat} {x : Value} {tail : List (Addr × Obj)} (F : Fr h₀ L s.heap m) (N : News h₀ L s.heap news) (m1 : (cl, listOf us.toArray k) ∈ news) (hs : ∀ p ∈ (du, od) :: tail, p ∈ news) (off : ∀ p ∈ (du, od) :: tail, p.1 ≠ cl) (hz : us.length ≤ 2000)
    (h : ∀ h', Fr h₀ L h' m → News h₀ L h' ((cl, listOf (us ++ [x]).toArray (k + 1)) :: (du, od) :: tail) → Q .none { s with heap := h' }) : wpAny (model prog w) A (call (.builtin "list.append") [.ref cl, x]) Q E s := by
  have N1 : News h₀ L s.heap ((cl, listOf us.toArray k) :: (du, od) :: tail) := fun p hp => by
    rcases List.mem_cons.mp hp with rfl | hp
    · exact N _ m1
    · exact N _ (hs p hp)
  refine append_K F N1 (.head off) (fun h' F' N' => h h' F' ?_) (by rw [sizeLine_eq]; simp; omega)
  have e : us.toArray.push x = (us ++ [x]).toArray := by simp
  rw [e] at N'
  exact N'
end
theorem step_in {acc : List (List Nat)} {l : List Nat} (h : (!decide (rs l ∈ acc ++ [[]])) = false) : stepc acc l = acc := by
  unfold stepc
  have h : rs l ∈ acc ++ [[]] := by simpa only [Bool.not_eq_false', decide_eq_true_eq] using h
  rw [if_pos h]
theorem step_out {acc : List (List Nat)} {l : List Nat} (h : (!decide (rs l ∈ acc ++ [[]])) = true) : stepc acc l = acc ++ [rs l] := by
  unfold stepc
  have h : rs l ∉ acc ++ [[]] := by simpa only [Bool.not_eq_true', decide_eq_false_iff_not] using h
  rw [if_neg h]
theorem allLt_mem {d : Addr} {l : List (Addr × Obj)} (h : AllLt d l) : ∀ p ∈ l, p.1 < d := by
  induction l with
  | nil => intro p hp; cases hp
  | cons q r ih =>
    intro p hp
    rcases List.mem_cons.mp hp with rfl | hp
    · exact h.1
    · exact ih h.2 p hp
theorem lt_offA {cl du a b c : Addr} {od : Obj} {own : List (Addr × Obj)} (h : du < cl ∧ a < cl ∧ b < cl ∧ c < cl ∧ AllLt cl own) : ∀ p ∈ (du, od) :: own, p.1 ≠ cl := lt_off h.1 (allLt_mem h.2.2.2.2)
theorem cj_end {xn : Str} {m₀ : Str → Option Value} {v : Option Value} {cl du : Addr} {od : Obj} {rest : List (Addr × Obj)} {b : Nat} {acc : List (List Nat)} {us : List Value} {k : Nat} (hs : StrsAre us (acc.map mk)) (hl : us.length ≤ b) : CJ xn m₀ cl du od rest b acc (fun y => if y = xn then v else m₀ y) ((cl, listOf us.toArray k) :: (du, od) :: rest) :=
  ⟨fun _ hz => if_neg hz, us, k, rfl, hs, hl⟩
theorem climb_few {x : Str} {i : Nat} (h : i < ((dn (ch x).reverse).map nmOf).length) (hx : x.length ≤ 1000) : i < 1000 := by
  have := dn_few (ch x)
  rw [ch_len] at this
  rw [List.length_map] at h
  omega
theorem climb_same {acc : List (List Nat)} {l : List Nat} {us : List Value} (h : StrsAre us (acc.map mk)) (hi : rs l ∈ acc ++ [[]]) : StrsAre us ((stepc acc l).map mk) := by
  unfold stepc
  rw [if_pos hi]; exact h
theorem climb_new {acc : List (List Nat)} {l : List Nat} {us : List Value} {t : Tok} (h : StrsAre us (acc.map mk)) (hi : rs l ∉ acc ++ [[]]) : StrsAre (us ++ [Value.str (Txt.rstripChars (mk l) (Str.ofString "/")) t]) ((stepc acc l).map mk) := by
  unfold stepc
  rw [if_neg hi, List.map_append]
  have e : Txt.rstripChars (mk l) (Str.ofString "/") = mk (rs l) := ch_inj (by rw [rstrip_one, ch_mk, ch_mk])
  rw [e]
  exact strs_snoc _ _ h
theorem inv_end {h₀ h' : Heap} {L : Addr} {xn : Str} {m₀ : Str → Option Value} {v : Option Value} {cl du : Addr} {oc od : Obj} {rest own news' : List (Addr × Obj)} {b : Nat} {acc : List (List Nat)} {us : List Value} {k : Nat} {s₁ : Shared} {tk : Nat} (F' : Fr h₀ L h' (fun y => if y = xn then v else m₀ y)) (N' : News h₀ L h' news')
    (m1 : (cl, listOf us.toArray k) ∈ news') (hu : StrsAre us (acc.map mk)) (hl : us.length ≤ b) (hs : ∀ p ∈ (du, od) :: rest, p ∈ news') (ho : ∀ p ∈ own, p ∈ news') :
    InvEndN h₀ L (CJ xn m₀ cl du od rest b acc) own (((cl, oc) :: (du, od) :: rest).map (·.1)) s₁ { s₁ with heap := h', toks := tk } :=
  InvEndN.intro F' N' (cj_end hu hl) rfl (fun p hp => by
    rcases List.mem_cons.mp hp with rfl | hp
    · exact m1
    · exact hs p hp) ho
end Mine
end

section
open PySem PySem.W PyProof.Rows PySem.Calls
set_option Elab.async false
set_option maxRecDepth 100000
namespace Mine
open SeqAt
theorem off_new {D' I C D : Addr} {nw : List (Addr × Obj)} (h : I < D' ∧ C < D' ∧ D < D' ∧ AllLt D' nw) : (@Ne Nat D' I ∧ @Ne Nat D' C ∧ @Ne Nat D' D) :=
  ⟨Nat.ne_of_gt h.1, Nat.ne_of_gt h.2.1, Nat.ne_of_gt h.2.2.1⟩
theorem tup1_new (l : List Nat) (t : Tok) (n : Nat) : Tup1 ({ cls := .type "tuple", data := .seq #[.str (mk l) t] n } : Obj) l := ⟨rfl, t, n, rfl⟩
section
variable {h₀ h' : Heap} {L : Addr} {xn : Str} {m₀ : Str → Option Value} {v : Option Value} {cl du : Addr} {oc od : Obj} {rest own : List (Addr × Obj)} {b : Nat} {acc : List (List Nat)} {l : List Nat} {us : List Value} {k : Nat} {s₁ : Shared} {tk : Nat}
theorem inv_same {p q : Addr × Obj} (F' : Fr h₀ L h' (fun y => if y = xn then v else m₀ y)) (N' : News h₀ L h' (p :: q :: (cl, listOf us.toArray k) :: (du, od) :: (rest ++ own)))
    (hu : StrsAre us (acc.map mk)) (hi : rs l ∈ acc ++ [[]]) (hl : us.length ≤ b) :
    InvEndN h₀ L (CJ xn m₀ cl du od rest (b + 1) (stepc acc l)) own (((cl, oc) :: (du, od) :: rest).map (·.1)) s₁ { s₁ with heap := h', toks := tk } :=
  inv_end F' N' (.tail _ (.tail _ (.head _))) (climb_same hu hi) (Nat.le_succ_of_le hl)
    (fun r hr => .tail _ (.tail _ (.tail _ (by
      rcases List.mem_cons.mp hr with rfl | hr
      · exact .head _
      · exact .tail _ (List.mem_append.mpr (.inl hr))))))
    (fun r hr => .tail _ (.tail _ (.tail _ (.tail _ (List.mem_append.mpr (.inr hr))))))
theorem inv_new {t : Tok} (F' : Fr h₀ L h' (fun y => if y = xn then v else m₀ y)) (N' : News h₀ L h' ((cl, listOf (us ++ [Value.str (Txt.rstripChars (mk l) (Str.ofString "/")) t]).toArray k) :: (du, od) :: (rest ++ own)))
    (hu : StrsAre us (acc.map mk)) (hi : rs l ∉ acc ++ [[]]) (hl : us.length ≤ b) :
    InvEndN h₀ L (CJ xn m₀ cl du od rest (b + 1) (stepc acc l)) own (((cl, oc) :: (du, od) :: rest).map (·.1)) s₁ { s₁ with heap := h', toks := tk } :=
  inv_end F' N' (.head _) (climb_new hu hi) (by simpa using hl)
    (fun r hr => .tail _ (by
      rcases List.mem_cons.mp hr with rfl | hr
      · exact .head _
      · exact .tail _ (List.mem_append.mpr (.inl hr))))
    (fun r hr => .tail _ (.tail _ (List.mem_append.mpr (.inr hr))))
end
theorem law_true {c : ClaimW} {cl : Str → Option Addr} {mean : ExcName → Option Value} {args : List WData} {s₁ : Shared} {h : Heap} {g : Array GenState} {d : Drawn} {t : Nat} {L : Addr} {m : Str → Option Value}
    (F : Fr s₁.heap L h m) (hb : Bare g) (hr : ∀ cls, c.raises args cls = false) (hp : c.post args (.bool true) args = true) : GoodWG c cl mean args s₁ (.ok (.ret (.bool true))) ⟨h, g, d, t, s₁.os⟩ :=
  ⟨.inl ⟨_, _, [], rfl, hr, ReadsW.bool true, hp, fun _ => ⟨List.nodup_nil, fun _ hm => (nomatch hm)⟩⟩, .of_keep F.keep, rfl, hb⟩
end Mine
end

section
open PySem PySem.W PyProof.Rows PySem.Calls
set_option Elab.async false
set_option maxRecDepth 100000
set_option maxHeartbeats 8000000
namespace Mine
local macro_rules | `(tactic| walk_at "exec For Name Subscript cons nil") => `(tactic| (k_here; (rename Fr _ _ _ _ => lF'); (with_unfolding_all refine' For_free lF' ?k1 ?k2 ?_; (case k1 => exact rfl); (case k2 => exact rfl); k_whole)))
local macro_rules | `(tactic| walk_at "exec For Name Tuple cons nil") => `(tactic| (k_here; (rename Fr _ _ _ _ => lF'); (with_unfolding_all refine' For_free lF' ?k1 ?k2 ?_; (case k1 => exact rfl); (case k2 => exact rfl); k_whole)))
local macro_rules | `(tactic| walk_at "pyIter ref") => `(tactic| (k_here; (with_reducible show wpAny _ _ (pyIter (Value.ref _)) (fun it s₂ => LoopFree _ _ _ _ _ _ _ _ _ it s₂) _ _); (k_dflt (refine' heads_loop ?qhh ?qF ?qN ?qhm ?qhc ?qhd ?qhi ?qh0 ?qhx ?qhn ?qhg ?qturn ?qdone; (case qhh => exact rfl); (case qF => assumption); (case qN => assumption); (case qhm => k_mem); (case qhc => exact rfl); (case qhd => exact rfl); (case qhi => (intro v hv; simp only [List.mem_toArray, List.mem_cons, List.not_mem_nil, or_false] at hv; rcases hv with rfl | rfl | rfl | rfl | rfl <;> exact ⟨_, _, rfl, by decide +kernel⟩)); (case qh0 => with_unfolding_all exact rfl); (case qhx => exact grown (by omega) (by decide +kernel)); (case qhn => decide +kernel); (case qhg => assumption))); (intro hd th x tt m₁ g₁ h tk own hl hl2 hg F N; (try dsimp only at F N ⊢)); rotate_left; (intro m₁ g₁ h tk hg F N; (try dsimp only at F N ⊢)); rotate_right; (rcases Bool.eq_false_or_eq_true (Txt.slice (hd ++ x) none (some 3) != Str.ofString "257") with h3 | h3)))
local macro_rules | `(tactic| walk_at "pyIter ref") => `(tactic| (k_here; (with_reducible show wpAny _ _ (pyIter (Value.ref _)) (fun it s₂ => LoopFree _ _ _ _ _ _ _ _ _ it s₂) _ _); (k_dflt (refine' script_loop ?hh ?F ?N ?hm ?hi ?h0 ?hx ?hn ?hg ?turn ?done; (case hh => exact rfl); (case F => assumption); (case N => assumption); (case hm => k_mem); (case hi => assumption); (case h0 => with_unfolding_all exact rfl); (case hx => decide +kernel); (case hn => decide +kernel); (case hg => assumption))); (intro i n tn x tt m₁ g₁ h tk own hl hi hg F N; (try dsimp only at F N ⊢)); rotate_left; (intro x tt m₁ g₁ h tk hl hg F N; (try dsimp only at F N ⊢)); rotate_right))
local macro_rules | `(tactic| walk_at "FreePost") => `(tactic| ((first | refine free_next ?_ | refine free_cont ?_); refine' turn_end ?F ?N ?hs ?hm ?hl ?hg ?hd ?ho; (case F => dsimp only; assumption); (case N => dsimp only; assumption); (case hs => (intro p hp; (repeat' (first | exact hp | exact List.mem_append_left _ hp | exact List.mem_append_left _ (List.mem_append_left _ hp) | apply List.mem_cons_of_mem)))); (case hm => with_unfolding_all exact rfl); (case hl => first | omega | (simp only [one_len] at *; omega)); (case hg => dsimp only; assumption); (case hd => rfl); (case ho => rfl)))
local macro_rules | `(tactic| walk_at "subscriptTail Tuple cons Name ref int") => `(tactic| (k_here; (k_dflt (refine' menu_item ?N ?hm ?hw ?hB ?h0 ?h1 ?hz ?_; (case N => k_asm); (case hm => k_mem); (case hw => repeat constructor); (case hB => exact bounds_of _ (by decide +kernel)); (case h0 => first | exact (fm8 _).1 | omega); (case h1 => (simp only [List.length_cons, List.length_nil]; omega)); (case hz => decide); k_whole)); intro y9 t9 hy9))
local macro_rules | `(tactic| walk_at "call ref") => `(tactic| (k_here; k_dflt (with_unfolding_all refine' use_new (read_new _ _ _ ?hx ?h3) ?kB ?kF ?kK ?kN ?kT ?kc ?kXB ?kTB ?kd ?ku ?_; (case h3 => assumption); (case hx => omega); (case kB => k_asm); (case kF => k_asm); (case kK => k_asm); (case kN => k_asm); (case kT => k_asm); (case kc => exact rfl); (case kXB => k_asm); (case kTB => k_asm); (case kd => decide +kernel); (case ku => decide +kernel); k_whole); intro b9 o9 h9 tk9 to9 nb9 F9 N9))
local macro_rules | `(tactic| walk_at "call ref") => `(tactic| (k_here; k_dflt (with_unfolding_all refine' use_call (read_ok _ _ _ ?hx ?h3) ?kB ?kF ?kK ?kN ?kT ?kc ?kXB ?kTB ?kd ?ku ?_; (case h3 => assumption); (case hx => omega); (case kB => k_asm); (case kF => k_asm); (case kK => k_asm); (case kN => k_asm); (case kT => k_asm); (case kc => exact rfl); (case kXB => k_asm); (case kTB => k_asm); (case kd => decide +kernel); (case ku => decide +kernel); k_whole); intro t9 h9 tk9 F9 N9))
local macro_rules | `(tactic| walk_at "call ref") => `(tactic| (k_here; k_dflt (with_unfolding_all refine' use_anc ?hx ?kB ?kF ?kK ?kN ?kT ?kc ?kXB ?kTB ?kd ?ku ?_; (case hx => first | omega | exact name_len (by omega)); (case kB => k_asm); (case kF => k_asm); (case kK => k_asm); (case kN => k_asm); (case kT => k_asm); (case kc => exact rfl); (case kXB => k_asm); (case kTB => k_asm); (case kd => decide +kernel); (case ku => decide +kernel); k_whole); intro I9 h9 tk9 g9 An9 F9 N9))
local macro_rules | `(tactic| walk_at "call type:list") => `(tactic| (k_here; k_dflt (refine' use_list ?H ?g ?hh ?hr ?F ?N ?hn ?_; (case H => assumption); (case g => first | assumption | (dsimp only; assumption)); (case hh => exact rfl); (case hr => (show 1 + claimMargin + 1 + 3 < recursionLimit); decide +kernel); (case F => assumption); (case N => assumption); (case hn => first | exact few_dn (by omega) | exact few_dn (name_len (by omega))); k_whole); intro b9 ws9 n9 h9 tk9 g9 sa9 F9 N9 bg9))
local macro_rules | `(tactic| walk_at "call ref") => `(tactic| (k_here; k_dflt (with_unfolding_all refine' use_call (above_is _ _ _ ?hx) ?kB ?kF ?kK ?kN ?kT ?kc ?kXB ?kTB ?kd ?ku ?_; (case hx => first | omega | exact name_len (by omega)); (case kB => k_asm); (case kF => k_asm); (case kK => k_asm); (case kN => k_asm); (case kT => k_asm); (case kc => exact rfl); (case kXB => k_asm); (case kTB => k_asm); (case kd => decide +kernel); (case ku => decide +kernel); k_whole); intro b9 ws9 n9 h9 tk9 sa9 nb9 F9 N9))
local macro_rules | `(tactic| walk_at "call ref") => `(tactic| (k_here; k_dflt (with_unfolding_all refine' use_call (name_is _ _ _ ?hx) ?kB ?kF ?kK ?kN ?kT ?kc ?kXB ?kTB ?kd ?ku ?_; (case hx => omega); (case kB => k_asm); (case kF => k_asm); (case kK => k_asm); (case kN => k_asm); (case kT => k_asm); (case kc => exact rfl); (case kXB => k_asm); (case kTB => k_asm); (case kd => decide +kernel); (case ku => decide +kernel); k_whole); intro t9 h9 tk9 F9 N9))
local macro_rules | `(tactic| walk_at "compareOp NotEq ref ref") => `(tactic| (k_here; (k_dflt (refine' ne_tup ?N ?m1 ?m2 ?e1 ?e2 ?hu ?_; (case N => k_asm); (case m1 => k_mem); (case m2 => k_mem); (case e1 => first | assumption | exact ⟨rfl, _, _, by rw [mk_ch]⟩); (case e2 => first | assumption | exact ⟨rfl, _, _, by rw [mk_ch]⟩); (case hu => exact Nat.le_of_ble_eq_true rfl); k_whole))))
local macro_rules | `(tactic| walk_at "compareOp NotEq ref ref") => `(tactic| (k_here; (k_dflt (refine' ne_strs ?N ?m1 ?m2 ?c1 ?c2 ?d1 ?d2 ?e1 ?e2 ?he ?hu ?_; (case N => k_asm); (case m1 => k_mem); (case m2 => k_mem); (case c1 => exact rfl); (case c2 => exact rfl); (case d1 => exact rfl); (case d2 => exact rfl); (case e1 => assumption); (case e2 => assumption); (case he => first | rfl | fail "he"); (case hu => exact Nat.le_of_ble_eq_true rfl); k_whole))))
local macro_rules | `(tactic| walk_at "compareOp NotEq ref ref") => `(tactic| (k_here; (k_dflt (refine' ne_tups ?N ?m1 ?m2 ?c1 ?c2 ?d1 ?d2 ?e1 ?e2 ?s1 ?s2 ?hu ?_; (case N => k_asm); (case m1 => k_mem); (case m2 => k_mem); (case c1 => exact rfl); (case c2 => exact rfl); (case d1 => exact rfl); (case d2 => exact rfl); (case e1 => assumption); (case e2 => assumption); (case s1 => (intro p hp; simp only [List.mem_cons, List.mem_append]; simp [hp])); (case s2 => (intro p hp; simp only [List.mem_cons, List.mem_append]; simp [hp])); (case hu => exact Nat.le_of_ble_eq_true rfl); k_whole))))
local macro_rules | `(tactic| walk_at "eval ListComp") => `(tactic| (k_here; k_dflt (refine LCg.ListComp_U (F₀ := by k_asm) (by with_unfolding_all rfl) (by decide) (by rfl) (by decide) (by rfl) ?_)))
local macro_rules | `(tactic| walk_at "CompSrc") => `(tactic| (k_here; (k_dflt (refine' comp_tups ?wh ?wF ?wN ?wm ?ws ?wz ?wstep ?wdone; (case wh => exact rfl); (case wF => assumption); (case wN => assumption); (case wm => k_mem); (case ws => assumption); (case wz => exact few_dn (by omega)))); (intro nw9 ys9 l9 t9 I9 oI9 C9 oC9 D9 m9 h9 tk9 E9 hl9 hC9 hx9 F9 N9; have hz9 := low_len hl9 (n := 1000) (by rw [ch_len]; omega); have hb9 := low_bad (by assumption) hl9; (try dsimp only at F9 N9 ⊢)); rotate_left; (intro g9 ys9 tups9 sa9; (first | unfold LCg.FinA | unfold LCg.FinE); intro D9 h9 tk9 F9 N9 _o9; replace N9 := tail_news N9; (try simp only [List.cons_append, List.nil_append] at N9); (try dsimp only at F9 N9 ⊢)); rotate_right))
local macro_rules | `(tactic| walk_at "CompSrc") => `(tactic| (k_here; (k_dflt (refine' comp_tups ?yh ?yF ?yN ?ym ?ys ?yz ?ystep ?ydone; (case yh => exact rfl); (case yF => assumption); (case yN => assumption); (case ym => k_mem); (case ys => assumption); (case yz => exact few_dn (by omega)))); (intro nw9 ys9 l9 t9 I9 oI9 C9 oC9 D9 m9 h9 tk9 E9 hl9 hC9 hx9 F9 N9; have hz9 := low_len hl9 (n := 1000) (by rw [ch_len]; omega); have hb9 := low_bad (by assumption) hl9; (try dsimp only at F9 N9 ⊢)); rotate_left; (intro g9 ys9 tups9 sa9; (first | unfold LCg.FinA | unfold LCg.FinE); intro D9 h9 tk9 F9 N9 _o9; replace N9 := tail_news N9; (try simp only [List.cons_append, List.nil_append] at N9); (try dsimp only at F9 N9 ⊢)); rotate_right))
local macro_rules | `(tactic| walk_at "CompSrc") => `(tactic| (k_here; (k_dflt ((refine' comp_strs nmOf ?zh ?zF ?zN ?zm ?zs ?zz ?zstep ?zdone); (case zh => exact rfl); (case zF => assumption); (case zN => assumption); (case zm => k_mem); (case zs => assumption); (case zz => exact few_dn (by omega)))); (intro ys9 l9 t9 I9 oI9 C9 oC9 D9 m9 h9 tk9 E9 hl9 hC9 hx9 F9 N9; have hz9 := low_len hl9 (n := 1000) (by rw [ch_len]; omega); have hb9 := low_good (by assumption) hl9; (try dsimp only at F9 N9 ⊢)); rotate_left; (intro g9 ys9 sa9; (first | unfold LCg.FinA | unfold LCg.FinE); intro D9 h9 tk9 F9 N9 _o9; (try dsimp only at F9 N9 ⊢)); rotate_right))
local macro_rules | `(tactic| walk_at "Post") => `(tactic| (first | exact ⟨⟨_, _, _, by rw [ch_mk], rfl, by assumption, by assumption⟩⟩ | exact ⟨⟨_, _, _, _, rfl, tup_mk (by assumption), off3_of (by assumption), rfl, by assumption, by assumption⟩⟩ | exact ⟨⟨_, _, _, _, rfl, tup1_new _ _ _, off_new (by assumption), rfl, by assumption, by assumption⟩⟩))
local macro_rules | `(tactic| walk_at "exec For Name Name cons nil") => `(tactic| (k_here; (rename Fr _ _ _ _ => lF'); (with_unfolding_all refine' For_invVF lF' ?nk1 ?nk2 ?_; (case nk1 => exact rfl); (case nk2 => exact rfl); k_whole)))
local macro_rules | `(tactic| walk_at "pyIter ref") => `(tactic| (k_here; (with_reducible show wpAny _ _ (pyIter (Value.ref _)) (fun it s₂ => LoopAtV _ _ _ _ _ _ _ _ _ it s₂) _ _); (k_dflt ((refine' climb_loop ?vhh ?vF ?vN ?vl ?vcl ?vdl ?vsa ?vc ?vo ?vd ?v1 ?v2 ?v3 ?v4 ?v5 ?vturn ?vdone); (case vhh => exact rfl); (case vF => assumption); (case vN => assumption); (case vl => k_mem); (case vcl => exact rfl); (case vdl => exact rfl); (case vsa => assumption); (case vc => exact .head _); (case vo => rfl); (case vd => exact .tail _ (.head _)); (case v1 => (apply Nat.ne_of_gt; omega)); (case v2 => exact head_ne (by assumption)); (case v4 => exact off2_tail (by assumption)); (case v3 => (intro p hp; (repeat' (first | exact hp | apply List.mem_cons_of_mem)))); (case v5 => exact lt_offA (by assumption)))); (intro i9 nm9 t9 acc9 us9 k9 h9 tk9 own9 hn9 hi9 hl9 hu9 F9 N9 of9; have hc9 := climb_few hi9 (by omega); have hz9 := names_len (by omega) hn9; (try dsimp only at F9 N9 ⊢)); rotate_left; (intro us9 k9 u9 h9 tk9 hu9 F9 N9; replace hu9 := climb_due (by assumption) hu9; (try dsimp only at F9 N9 ⊢)); rotate_right))
local macro_rules | `(tactic| walk_at "binaryOp Add ref ref") => `(tactic| (k_here; k_dflt (refine' add_strs ?gF ?gN ?g1 ?g2 ?gc ?gd ?gz ?_; (case gF => k_asm); (case gN => k_asm); (case g1 => k_mem); (case g2 => k_mem); (case gc => exact rfl); (case gd => exact rfl); (case gz => omega); k_whole); intro D9 h9 F9 N9 l9))
local macro_rules | `(tactic| walk_at "compareOp NotIn str ref") => `(tactic| (k_here; k_dflt (refine' not_in ?eN ?e1 ?eu ?ex ?ey ?_; (case eN => k_asm); (case e1 => k_mem); (case eu => assumption); (case ex => (rw [rstrip_one, ch_mk])); (case ey => rfl); k_whole)))
local macro_rules | `(tactic| walk_at "compareOp NotEq str str") => `(tactic| (k_here; k_dflt (with_reducible refine ne_self ?_)))
local macro_rules | `(tactic| walk_at "call builtin:list.append") => `(tactic| (k_here; k_dflt (refine' app_cl ?pF ?pN ?p1 ?ps ?po ?pz ?_; (case pF => k_asm); (case pN => k_asm); (case p1 => k_mem); (case po => assumption); (case ps => (intro p hp; (repeat' (first | exact hp | apply List.mem_cons_of_mem)))); (case pz => omega); k_whole); intro h9 F9 N9))
local macro_rules | `(tactic| walk_at "InvEndN") => `(tactic| (first | exact inv_same (by assumption) (by assumption) (by assumption) (by assumption) (by assumption) | exact inv_new (by assumption) (by assumption) (by assumption) (by assumption) (by assumption)))
theorem whole_law : PySem.Challenge.rw_in0147_01.Holds := hd (by
  lge_go0
  (with_reducible rename LGe.Mark => hM9)
  clear hM9
  k_drop
  rename (_ = #[]) => hg9
  have hB := bare_of hg9
  repeat' (first | (k_unfold; (try dsimp only)) | (k_end; exact law_true (by assumption) (by assumption) (raisesW_false (by wrow_none_raised)) (by wrow_post)) | walk1 | (dsimp only; walk1) | (leave1; (try dsimp only)) | fail "no step"))
end Mine
end

theorem PySem.Challenge.cw_in0147_01_holds : PySem.Challenge.rw_in0147_01.Holds :=
  Mine.whole_law
