/-
  Plain mathematics of unescaping, no program in sight: what net/url's first look counts, and the laws that hold of unescaping. No condition.
-/
import Derived.Test.YtjfgadnjdcopcaaDoorPlain
namespace Go.Proofs.YtjfgadnjdcopcaaDoor.Pl

/-- net/url's first look: how many escapes, whether a plus sign matters; none where an escape is broken -/
def scan (q : Bool) : List UInt8 → Option (Nat × Bool)
  | [] => some (0, false)
  | c :: r =>
    if c = 37 then
      match r with
      | a :: b :: r' => if hexB a && hexB b then (scan q r').map (fun p => (p.1 + 1, p.2)) else none
      | _ => none
    else (scan q r).map (fun p => (p.1, (q && c == 43) || p.2))
theorem scan_nil (q : Bool) : scan q [] = some (0, false) := by rw [scan.eq_def]
theorem scan_hex (q : Bool) (a b : UInt8) (r : List UInt8) (h : (hexB a && hexB b) = true) : scan q (37 :: a :: b :: r) = (scan q r).map (fun p => (p.1 + 1, p.2)) := by
  rw [scan.eq_def]; simp only [if_true, h]
theorem scan_bad (q : Bool) (a b : UInt8) (r : List UInt8) (h : (hexB a && hexB b) = false) : scan q (37 :: a :: b :: r) = none := by
  rw [scan.eq_def]; simp [h]
theorem scan_short0 (q : Bool) : scan q [37] = none := by rw [scan.eq_def]; simp
theorem scan_short1 (q : Bool) (a : UInt8) : scan q [37, a] = none := by rw [scan.eq_def]; simp
theorem scan_other (q : Bool) (c : UInt8) (r : List UInt8) (h : c ≠ 37) : scan q (c :: r) = (scan q r).map (fun p => (p.1, (q && c == 43) || p.2)) := by
  rw [scan.eq_def]; simp [h]

/-- what a plus sign is unescaped to -/
def pl (q : Bool) : UInt8 := if q then 32 else 43

/-- the look and the unescaping go together -/
theorem scan_une (q : Bool) (l : List UInt8) : (scan q l = none ∧ une (pl q) l = none) ∨ (∃ n h r, scan q l = some (n, h) ∧ une (pl q) l = some r ∧ r.length + 2 * n = l.length ∧ (n = 0 → h = false → r = l) ∧ n = l.count 37) := by
  refine une_ind (P := fun l => (scan q l = none ∧ une (pl q) l = none) ∨ (∃ n h r, scan q l = some (n, h) ∧ une (pl q) l = some r ∧ r.length + 2 * n = l.length ∧ (n = 0 → h = false → r = l) ∧ n = l.count 37)) ?_ ?_ ?_ ?_ ?_ ?_ l
  · exact Or.inr ⟨0, false, [], scan_nil q, une_nil _, rfl, fun _ _ => rfl, rfl⟩
  · exact Or.inl ⟨scan_short0 q, une_short0 _⟩
  · intro a; exact Or.inl ⟨scan_short1 q a, une_short1 _ a⟩
  · intro a b r h; exact Or.inl ⟨scan_bad q a b r h, une_bad _ a b r h⟩
  · intro a b r h ih
    rcases ih with ⟨h1, h2⟩ | ⟨n, hp, x, h1, h2, h3, _, h5⟩
    · exact Or.inl ⟨by rw [scan_hex q a b r h, h1]; rfl, by rw [une_hex _ a b r h, h2]; rfl⟩
    · refine Or.inr ⟨n + 1, hp, _, by rw [scan_hex q a b r h, h1]; rfl, by rw [une_hex _ a b r h, h2]; rfl, by simp; omega, fun e => by omega, ?_⟩
      have e1 : a ≠ 37 := by intro e; subst e; exact absurd h (by simp [hexB])
      have e2 : b ≠ 37 := by intro e; subst e; exact absurd h (by cases hexB a <;> decide)
      rw [List.count_cons_self, List.count_cons_of_ne e1, List.count_cons_of_ne e2, h5]
  · intro c r hc ih
    rcases ih with ⟨h1, h2⟩ | ⟨n, hp, x, h1, h2, h3, h4, h5⟩
    · exact Or.inl ⟨by rw [scan_other q c r hc, h1]; rfl, by rw [une_other _ c r hc, h2]; rfl⟩
    · refine Or.inr ⟨n, (q && c == 43) || hp, _, by rw [scan_other q c r hc, h1]; rfl, by rw [une_other _ c r hc, h2]; rfl, by simp; omega, fun e1 e2 => ?_, by rw [List.count_cons_of_ne hc, h5]⟩
      rw [Bool.or_eq_false_iff] at e2
      rw [h4 e1 e2.2]
      congr 1
      split
      · rename_i e
        subst e
        cases q
        · rfl
        · simp at e2
      · rfl

/-! ### Cutting a text -/
/-- whether a text ends within what could be an escape -/
def openB : List UInt8 → Bool
  | [] => false
  | [a] => a == 37
  | [a, b] => a == 37 || b == 37
  | _ :: b :: c :: r => openB (b :: c :: r)
theorem open_tail (c : UInt8) (r : List UInt8) (h : openB (c :: r) = false) : openB r = false := by
  match r with
  | [] => rfl
  | [a] => simp only [openB, Bool.or_eq_false_iff] at h ⊢; exact h.2
  | [a, b] => simpa only [openB] using h
  | a :: b :: d :: r => simpa only [openB] using h
theorem une_append (p : UInt8) (s t : List UInt8) (h : openB s = false) : une p (s ++ t) = (une p s).bind (fun a => (une p t).map (a ++ ·)) := by
  revert h
  refine une_ind (P := fun s => openB s = false → une p (s ++ t) = (une p s).bind (fun a => (une p t).map (a ++ ·))) ?_ ?_ ?_ ?_ ?_ ?_ s
  · intro _; rw [une_nil]; show une p t = _; cases une p t <;> simp
  · intro h; exact absurd h (by decide)
  · intro a h; simp [openB] at h
  · intro a b r h _
    rw [une_bad _ a b r h]
    show une p (37 :: a :: b :: (r ++ t)) = _
    rw [une_bad _ a b _ h]; rfl
  · intro a b r h ih ho
    rw [une_hex _ a b r h]
    show une p (37 :: a :: b :: (r ++ t)) = _
    rw [une_hex _ a b _ h, ih (open_tail _ _ (open_tail _ _ (open_tail _ _ ho)))]
    cases une p r <;> cases une p t <;> simp
  · intro c r hc ih ho
    rw [une_other _ c r hc]
    show une p (c :: (r ++ t)) = _
    rw [une_other _ c _ hc, ih (open_tail _ _ ho)]
    cases une p r <;> cases une p t <;> simp

/-! ### Small letters -/
def low1 (c : UInt8) : UInt8 := if 65 ≤ c && c ≤ 70 then c + 32 else c
def small : List UInt8 → List UInt8
  | [] => []
  | c :: r =>
    if c = 37 then
      match r with
      | a :: b :: r' => 37 :: low1 a :: low1 b :: small r'
      | r => 37 :: r
    else c :: small r
theorem small_nil : small [] = [] := by rw [small.eq_def]
theorem small_pct (a b : UInt8) (r : List UInt8) : small (37 :: a :: b :: r) = 37 :: low1 a :: low1 b :: small r := by rw [small.eq_def]; simp
theorem small_short0 : small [37] = [37] := by rw [small.eq_def]; simp
theorem small_short1 (a : UInt8) : small [37, a] = [37, a] := by rw [small.eq_def]; simp
theorem small_other (c : UInt8) (r : List UInt8) (h : c ≠ 37) : small (c :: r) = c :: small r := by rw [small.eq_def]; simp [h]
theorem low_hex : ∀ c : UInt8, hexB (low1 c) = hexB c := forall_byte _ (by decide +kernel)
theorem low_hv : ∀ c : UInt8, hexB c = true → hv (low1 c) = hv c := forall_byte _ (by decide +kernel)
theorem pct_ind {P : List UInt8 → Prop} (h0 : P []) (h1 : P [37]) (h2 : ∀ a, P [37, a]) (h3 : ∀ a b r, P r → P (37 :: a :: b :: r)) (h5 : ∀ c r, c ≠ 37 → P r → P (c :: r)) (l : List UInt8) : P l := by
  suffices H : ∀ n (l : List UInt8), l.length ≤ n → P l from H l.length l (Nat.le_refl _)
  intro n
  induction n with
  | zero => intro l hl; have : l = [] := List.length_eq_zero_iff.1 (by omega); rw [this]; exact h0
  | succ n ih =>
    intro l hl
    match l with
    | [] => exact h0
    | c :: r =>
      by_cases hc : c = 37
      · subst hc
        match r with
        | [] => exact h1
        | [a] => exact h2 a
        | a :: b :: r' => exact h3 a b r' (ih r' (by simp at hl; omega))
      · exact h5 c r hc (ih r (by simp at hl; omega))
theorem small_length (l : List UInt8) : (small l).length = l.length := by
  refine pct_ind (P := fun l => (small l).length = l.length) ?_ ?_ ?_ ?_ ?_ l
  · rw [small_nil]
  · rw [small_short0]
  · intro a; rw [small_short1]
  · intro a b r ih; rw [small_pct]; simp [ih]
  · intro c r hc ih; rw [small_other c r hc]; simp [ih]
theorem une_small (p : UInt8) (l : List UInt8) : une p (small l) = une p l := by
  refine une_ind (P := fun l => une p (small l) = une p l) ?_ ?_ ?_ ?_ ?_ ?_ l
  · rw [small_nil]
  · rw [small_short0]
  · intro a; rw [small_short1]
  · intro a b r h; rw [small_pct, une_bad _ a b r h, une_bad _ _ _ _ (by rw [low_hex, low_hex]; exact h)]
  · intro a b r h ih
    have h' := h
    rw [Bool.and_eq_true] at h'
    rw [small_pct, une_hex _ a b r h, une_hex _ _ _ _ (by rw [low_hex, low_hex]; exact h), ih, low_hv a h'.1, low_hv b h'.2]
  · intro c r hc ih; rw [small_other c r hc, une_other _ c _ hc, une_other _ c r hc, ih]

/-! ### The two roads -/
theorem wr_cons (c : UInt8) (r : List UInt8) (a : UInt8) (to : List UInt8) : wr (c :: r) a to = wf a to c ++ wr r a to := by unfold wr; rw [List.flatMap_cons]
theorem wr_map (l : List UInt8) (a b : UInt8) : wr l a [b] = l.map (fun c => if c = a then b else c) := by
  induction l with
  | nil => rfl
  | cons c r ih => rw [wr_cons, ih, List.map_cons]; unfold wf; split <;> rfl
theorem hex_ne43 : ∀ c : UInt8, hexB c = true → c ≠ 43 := forall_byte _ (by decide +kernel)
theorem roads (l : List UInt8) : une 32 l = une 43 (wr l 43 [32]) := by
  refine une_ind (P := fun l => une 32 l = une 43 (wr l 43 [32])) ?_ ?_ ?_ ?_ ?_ ?_ l
  · rfl
  · rfl
  · intro a
    have e : wr [37, a] 43 [32] = [37, if a = 43 then 32 else a] := by rw [wr_map]; rfl
    rw [une_short1, e, une_short1]
  · intro a b r h
    rw [une_bad _ a b r h, wr_cons, wr_cons, wr_cons]
    have hx : ∀ c : UInt8, ∃ d, wf 43 [32] c = [d] ∧ hexB d = hexB c := by
      intro c; unfold wf; split
      · rename_i e; subst e; exact ⟨32, rfl, by decide⟩
      · exact ⟨c, rfl, rfl⟩
    obtain ⟨d, hd, hdh⟩ := hx a
    obtain ⟨e, he, heh⟩ := hx b
    rw [hd, he]
    show _ = une 43 (37 :: d :: e :: _)
    rw [une_bad _ d e _ (by rw [hdh, heh]; exact h)]
  · intro a b r h ih
    have h' := h
    rw [Bool.and_eq_true] at h'
    rw [une_hex _ a b r h, wr_cons, wr_cons, wr_cons]
    unfold wf
    rw [if_neg (by decide : (37 : UInt8) ≠ 43), if_neg (hex_ne43 a h'.1), if_neg (hex_ne43 b h'.2)]
    show _ = une 43 (37 :: a :: b :: _)
    rw [une_hex _ a b _ h, ih]
    rfl
  · intro c r hc ih
    rw [une_other _ c r hc, wr_cons, ih]
    unfold wf
    split
    · show _ = une 43 (32 :: _)
      rw [une_other _ 32 _ (by decide)]
      rfl
    · rename_i hn
      show _ = une 43 (c :: _)
      rw [une_other _ c _ hc, if_neg hn]
      rfl
theorem wr_none (l : List UInt8) (a : UInt8) (to : List UInt8) (h : l.count a = 0) : wr l a to = l :=
  flat_one l (fun c hc => by unfold wf; rw [if_neg (fun e => List.count_eq_zero.1 h (by rw [← e]; exact hc))])
theorem road_q (l : List UInt8) : une 43 (queryE l) = some (wr l 32 [43]) := by
  have := une_queryE 43 l []
  rw [List.append_nil, une_nil] at this
  rw [this, wr_map]; simp
theorem road_p (l : List UInt8) : une 32 (pathE l) = some (wr l 43 [32]) := by
  have := une_pathE 32 l []
  rw [List.append_nil, une_nil] at this
  rw [this, wr_map]; simp
theorem une_kept (p : UInt8) (l : List UInt8) (h1 : l.count 37 = 0) (h2 : l.count 43 = 0) : une p l = some l := by
  induction l with
  | nil => rfl
  | cons c r ih =>
    have e1 : c ≠ 37 := fun e => by subst e; simp at h1
    have e2 : c ≠ 43 := fun e => by subst e; simp at h2
    rw [List.count_cons_of_ne e1] at h1
    rw [List.count_cons_of_ne e2] at h2
    rw [une_other _ c r e1, ih h1 h2, if_neg e2]; rfl

/-! ### A % that is escaped; every byte as an escape; a broken escape -/
def every (hi lo l : List UInt8) : List UInt8 := l.flatMap (pct hi lo)
theorem every_cc (p : UInt8) (l : List UInt8) : une p (every capD capD l) = some l := by
  have := une_flat0 p _ id (fun c x => pct_une capD capD p c x (digits_cc c)) l; simpa [every] using this
theorem every_lc (p : UInt8) (l : List UInt8) : une p (every lowD capD l) = some l := by
  have := une_flat0 p _ id (fun c x => pct_une lowD capD p c x (digits_lc c)) l; simpa [every] using this
theorem every_cl (p : UInt8) (l : List UInt8) : une p (every capD lowD l) = some l := by
  have := une_flat0 p _ id (fun c x => pct_une capD lowD p c x (digits_cl c)) l; simpa [every] using this
theorem every_ll (p : UInt8) (l : List UInt8) : une p (every lowD lowD l) = some l := by
  have := une_flat0 p _ id (fun c x => pct_une lowD lowD p c x (digits_ll c)) l; simpa [every] using this
theorem every_length (hi lo l : List UInt8) : (every hi lo l).length = 3 * l.length := by
  unfold every
  induction l with
  | nil => rfl
  | cons c r ih => rw [List.flatMap_cons, List.length_append, ih]; simp [pct]; omega
theorem twice_p (l : List UInt8) : une 43 (wr l 37 [37, 50, 53]) = some l := by
  have := une_flat0 43 (wf 37 [37, 50, 53]) id (fun c x => by
    unfold wf; split
    · rename_i e; subst e
      show une 43 (37 :: 50 :: 53 :: x) = _
      rw [une_hex _ _ _ _ (by decide)]; rfl
    · rename_i e
      show une 43 (c :: x) = _
      rw [une_other _ c x e]
      by_cases h : c = 43
      · subst h; rfl
      · rw [if_neg h]; rfl) l
  simpa [wr] using this
theorem twice_q (l : List UInt8) : une 32 (wr (wr l 37 [37, 50, 53]) 43 [37, 50, 66]) = some l := by
  have h : wr (wr l 37 [37, 50, 53]) 43 [37, 50, 66] = l.flatMap (fun c => (wf 37 [37, 50, 53] c).flatMap (wf 43 [37, 50, 66])) := by unfold wr; rw [List.flatMap_assoc]
  rw [h]
  have := une_flat0 32 (fun c => (wf 37 [37, 50, 53] c).flatMap (wf 43 [37, 50, 66])) id (fun c x => by
    by_cases e : c = 37
    · subst e
      show une 32 (37 :: 50 :: 53 :: x) = _
      rw [une_hex _ _ _ _ (by decide)]; rfl
    · by_cases e2 : c = 43
      · subst e2
        show une 32 (37 :: 50 :: 66 :: x) = _
        rw [une_hex _ _ _ _ (by decide)]; rfl
      · have : (wf 37 [37, 50, 53] c).flatMap (wf 43 [37, 50, 66]) = [c] := by simp [wf, e, e2]
        show une 32 ((wf 37 [37, 50, 53] c).flatMap (wf 43 [37, 50, 66]) ++ x) = _
        rw [this]
        show une 32 (c :: x) = _
        rw [une_other _ c x e]; simp [e2]) l
  simpa using this
/-- two digits at a text's head -/
def hexTwo : List UInt8 → Bool
  | a :: b :: _ => hexB a && hexB b
  | _ => false
theorem broken_head (p : UInt8) (t : List UInt8) (h : hexTwo t = false) : une p (37 :: t) = none := by
  match t, h with
  | [], _ => exact une_short0 p
  | [a], _ => exact une_short1 p a
  | a :: b :: r, h => exact une_bad p a b r h
theorem broken_p (s t : List UInt8) (h : hexTwo t = false) : une 43 (pathE s ++ 37 :: t) = none := by rw [une_pathE, broken_head _ t h]; rfl
theorem broken_q (s t : List UInt8) (h : hexTwo t = false) : une 32 (queryE s ++ 37 :: t) = none := by rw [une_queryE, broken_head _ t h]; rfl
end Go.Proofs.YtjfgadnjdcopcaaDoor.Pl
