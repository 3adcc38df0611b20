/-
  Plain mathematics, no program in sight: what net/url's escapes and the reference do to lists of bytes, and the laws that hold between them. No condition.
-/
namespace Go.Proofs.YtjfgadnjdcopcaaDoor.Pl

/-! ### Bytes -/
theorem forall_byte (P : UInt8 → Prop) (h : ∀ n : Fin 256, P (UInt8.ofNat n.val)) (c : UInt8) : P c := by
  have := h ⟨c.toNat, c.toNat_lt⟩
  simpa using this

def unres (c : UInt8) : Bool := (65 ≤ c && c ≤ 90) || (97 ≤ c && c ≤ 122) || (48 ≤ c && c ≤ 57) || c == 45 || c == 46 || c == 95 || c == 126
def pkeep (c : UInt8) : Bool := unres c || c == 36 || c == 38 || c == 43 || c == 58 || c == 61 || c == 64
def hexB (c : UInt8) : Bool := (48 ≤ c && c ≤ 57) || (97 ≤ c && c ≤ 102) || (65 ≤ c && c ≤ 70)
/-- the rows of digits -/
def capD : List UInt8 := [48, 49, 50, 51, 52, 53, 54, 55, 56, 57, 65, 66, 67, 68, 69, 70]
def lowD : List UInt8 := [48, 49, 50, 51, 52, 53, 54, 55, 56, 57, 97, 98, 99, 100, 101, 102]
/-- what a digit stands for -/
def hv (c : UInt8) : Nat := 9 * (c.toNat / 64) + c.toNat % 16
/-- a byte written as an escape, the digits out of two rows -/
def pct (hi lo : List UInt8) (c : UInt8) : List UInt8 := [37, hi.getD (c.toNat / 16) 0, lo.getD (c.toNat % 16) 0]
/-- what the two escapes make of a byte -/
def pf (c : UInt8) : List UInt8 := if pkeep c then [c] else pct capD capD c
def qf (c : UInt8) : List UInt8 := if c == 32 then [43] else if unres c then [c] else pct capD capD c

/-! ### Unescaping -/
def une (pl : UInt8) : List UInt8 → Option (List UInt8)
  | [] => some []
  | c :: r =>
    if c = 37 then
      match r with
      | a :: b :: r' => if hexB a && hexB b then (une pl r').map (UInt8.ofNat (hv a * 16 + hv b) :: ·) else none
      | _ => none
    else (une pl r).map ((if c = 43 then pl else c) :: ·)

theorem une_nil (pl : UInt8) : une pl [] = some [] := by rw [une.eq_def]
theorem une_hex (pl a b : UInt8) (r : List UInt8) (h : (hexB a && hexB b) = true) : une pl (37 :: a :: b :: r) = (une pl r).map (UInt8.ofNat (hv a * 16 + hv b) :: ·) := by
  rw [une.eq_def]; simp only [if_true, h]
theorem une_bad (pl a b : UInt8) (r : List UInt8) (h : (hexB a && hexB b) = false) : une pl (37 :: a :: b :: r) = none := by
  rw [une.eq_def]; simp [h]
theorem une_short0 (pl : UInt8) : une pl [37] = none := by rw [une.eq_def]; simp
theorem une_short1 (pl a : UInt8) : une pl [37, a] = none := by rw [une.eq_def]; simp
theorem une_other (pl c : UInt8) (r : List UInt8) (h : c ≠ 37) : une pl (c :: r) = (une pl r).map ((if c = 43 then pl else c) :: ·) := by
  rw [une.eq_def]; simp [h]

/-- induction along the escapes -/
theorem une_ind {P : List UInt8 → Prop} (h0 : P []) (h1 : P [37]) (h2 : ∀ a, P [37, a]) (h3 : ∀ a b r, (hexB a && hexB b) = false → P (37 :: a :: b :: r))
    (h4 : ∀ a b r, (hexB a && hexB b) = true → P r → P (37 :: a :: b :: r)) (h5 : ∀ c r, c ≠ 37 → P r → P (c :: r)) (l : List UInt8) : P l := by
  suffices H : ∀ n (l : List UInt8), l.length ≤ n → P l from H l.length l (Nat.le_refl _)
  intro n
  induction n with
  | zero => intro l hl; have : l = [] := List.length_eq_zero_iff.1 (by omega); rw [this]; exact h0
  | succ n ih =>
    intro l hl
    match l with
    | [] => exact h0
    | c :: r =>
      by_cases hc : c = 37
      · subst hc
        match r with
        | [] => exact h1
        | [a] => exact h2 a
        | a :: b :: r' =>
          cases hh : (hexB a && hexB b)
          · exact h3 a b r' hh
          · exact h4 a b r' hh (ih r' (by simp at hl; omega))
      · exact h5 c r hc (ih r (by simp at hl; omega))

/-! ### What an escape is unescaped to -/
theorem pct_une (hi lo : List UInt8) (pl : UInt8) (c : UInt8) (x : List UInt8)
    (h : (hexB (hi.getD (c.toNat / 16) 0) && hexB (lo.getD (c.toNat % 16) 0)) = true ∧ UInt8.ofNat (hv (hi.getD (c.toNat / 16) 0) * 16 + hv (lo.getD (c.toNat % 16) 0)) = c) :
    une pl (pct hi lo c ++ x) = (une pl x).map (c :: ·) := by
  show une pl (37 :: _ :: _ :: x) = _
  rw [une_hex _ _ _ _ h.1, h.2]

theorem digits_cc : ∀ c : UInt8, (hexB (capD.getD (c.toNat / 16) 0) && hexB (capD.getD (c.toNat % 16) 0)) = true ∧ UInt8.ofNat (hv (capD.getD (c.toNat / 16) 0) * 16 + hv (capD.getD (c.toNat % 16) 0)) = c :=
  forall_byte _ (by decide +kernel)
theorem digits_lc : ∀ c : UInt8, (hexB (lowD.getD (c.toNat / 16) 0) && hexB (capD.getD (c.toNat % 16) 0)) = true ∧ UInt8.ofNat (hv (lowD.getD (c.toNat / 16) 0) * 16 + hv (capD.getD (c.toNat % 16) 0)) = c :=
  forall_byte _ (by decide +kernel)
theorem digits_cl : ∀ c : UInt8, (hexB (capD.getD (c.toNat / 16) 0) && hexB (lowD.getD (c.toNat % 16) 0)) = true ∧ UInt8.ofNat (hv (capD.getD (c.toNat / 16) 0) * 16 + hv (lowD.getD (c.toNat % 16) 0)) = c :=
  forall_byte _ (by decide +kernel)
theorem digits_ll : ∀ c : UInt8, (hexB (lowD.getD (c.toNat / 16) 0) && hexB (lowD.getD (c.toNat % 16) 0)) = true ∧ UInt8.ofNat (hv (lowD.getD (c.toNat / 16) 0) * 16 + hv (lowD.getD (c.toNat % 16) 0)) = c :=
  forall_byte _ (by decide +kernel)

/-- byte by byte: each byte's escape is unescaped to one byte -/
theorem une_flat (pl : UInt8) (f : UInt8 → List UInt8) (g : UInt8 → UInt8) (h : ∀ c x, une pl (f c ++ x) = (une pl x).map (g c :: ·)) (s x : List UInt8) :
    une pl (s.flatMap f ++ x) = (une pl x).map (s.map g ++ ·) := by
  induction s with
  | nil => simp
  | cons c r ih =>
    rw [List.flatMap_cons, List.append_assoc, h, ih]
    cases une pl x <;> simp
theorem une_flat0 (pl : UInt8) (f : UInt8 → List UInt8) (g : UInt8 → UInt8) (h : ∀ c x, une pl (f c ++ x) = (une pl x).map (g c :: ·)) (s : List UInt8) :
    une pl (s.flatMap f) = some (s.map g) := by
  have := une_flat pl f g h s []
  simpa [une_nil] using this

theorem ne37_p : ∀ c : UInt8, pkeep c = true → c ≠ 37 := forall_byte _ (by decide +kernel)
theorem ne37_u : ∀ c : UInt8, unres c = true → c ≠ 37 ∧ c ≠ 43 := forall_byte _ (by decide +kernel)

/-- PathEscape's bytes by PathUnescape, and by QueryUnescape (plus signs become spaces) -/
theorem une_pf (pl : UInt8) (c : UInt8) (x : List UInt8) : une pl (pf c ++ x) = (une pl x).map ((if c = 43 then pl else c) :: ·) := by
  unfold pf
  split
  · rename_i h
    show une pl (c :: x) = _
    rw [une_other _ _ _ (ne37_p c h)]
  · rename_i h
    rw [pct_une _ _ _ _ _ (digits_cc c)]
    have : c ≠ 43 := fun e => h (by subst e; decide)
    simp [this]
/-- QueryEscape's bytes by either way -/
theorem une_qf (pl : UInt8) (c : UInt8) (x : List UInt8) : une pl (qf c ++ x) = (une pl x).map ((if c = 32 then pl else c) :: ·) := by
  unfold qf
  split
  · rename_i h
    have h' : c = 32 := by simpa using h
    subst h'
    show une pl (43 :: x) = _
    rw [une_other _ _ _ (by decide)]
    simp
  · rename_i h0
    have h' : c ≠ 32 := by simpa using h0
    rw [if_neg h']
    split
    · rename_i h
      show une pl (c :: x) = _
      rw [une_other _ _ _ (ne37_u c h).1, if_neg (ne37_u c h).2]
    · rw [pct_une _ _ _ _ _ (digits_cc c)]

def pathE (s : List UInt8) : List UInt8 := s.flatMap pf
def queryE (s : List UInt8) : List UInt8 := s.flatMap qf

theorem une_pathE (pl : UInt8) (s x : List UInt8) : une pl (pathE s ++ x) = (une pl x).map (s.map (fun c => if c = 43 then pl else c) ++ ·) := une_flat pl pf _ (une_pf pl) s x
theorem une_queryE (pl : UInt8) (s x : List UInt8) : une pl (queryE s ++ x) = (une pl x).map (s.map (fun c => if c = 32 then pl else c) ++ ·) := une_flat pl qf _ (une_qf pl) s x
theorem map_same {g : UInt8 → UInt8} (h : ∀ c, g c = c) (s : List UInt8) : s.map g = s := by
  induction s with
  | nil => rfl
  | cons c r ih => simp [h c, ih]
theorem path_inverse (s : List UInt8) : une 43 (pathE s) = some s := by
  have := une_pathE 43 s []
  rw [List.append_nil, une_nil, map_same (by intro c; split <;> simp_all)] at this
  simpa using this
theorem query_inverse (s : List UInt8) : une 32 (queryE s) = some s := by
  have := une_queryE 32 s []
  rw [List.append_nil, une_nil, map_same (by intro c; split <;> simp_all)] at this
  simpa using this

theorem pathE_inj {s t : List UInt8} : pathE s = pathE t ↔ s = t := by
  constructor
  · intro h
    have h1 := path_inverse s
    rw [h, path_inverse t] at h1
    exact (Option.some.inj h1).symm
  · intro h; rw [h]
theorem queryE_inj {s t : List UInt8} : queryE s = queryE t ↔ s = t := by
  constructor
  · intro h
    have h1 := query_inverse s
    rw [h, query_inverse t] at h1
    exact (Option.some.inj h1).symm
  · intro h; rw [h]

/-! ### Lengths and counts, byte by byte -/
theorem flat_length (f : UInt8 → List UInt8) (h : ∀ c, (f c).length = 1 + 2 * (f c).count 37) (s : List UInt8) : (s.flatMap f).length = s.length + 2 * (s.flatMap f).count 37 := by
  induction s with
  | nil => rfl
  | cons c r ih =>
    rw [List.flatMap_cons, List.length_append, List.count_append, List.length_cons, ih, h c]
    omega
theorem flat_count (f : UInt8 → List UInt8) (a b : UInt8) (h : ∀ c, (f c).count a = [c].count b) (s : List UInt8) : (s.flatMap f).count a = s.count b := by
  induction s with
  | nil => rfl
  | cons c r ih =>
    rw [List.flatMap_cons, List.count_append, ih, h c, ← List.count_append]
    rfl
theorem flat_mem (f : UInt8 → List UInt8) (a : UInt8) (h : ∀ c, (f c).count a = 0) (s : List UInt8) : (s.flatMap f).count a = 0 := by
  induction s with
  | nil => rfl
  | cons c r ih => rw [List.flatMap_cons, List.count_append, ih, h c]
theorem pathE_length (s : List UInt8) : (pathE s).length = s.length + 2 * (pathE s).count 37 := flat_length pf (forall_byte _ (by decide +kernel)) s
theorem queryE_length (s : List UInt8) : (queryE s).length = s.length + 2 * (queryE s).count 37 := flat_length qf (forall_byte _ (by decide +kernel)) s
theorem flat_le (f : UInt8 → List UInt8) (h : ∀ c, (f c).length ≤ 3) (s : List UInt8) : (s.flatMap f).length ≤ 3 * s.length := by
  induction s with
  | nil => simp
  | cons c r ih => have := h c; rw [List.flatMap_cons, List.length_append, List.length_cons]; omega
theorem flat_ge (f : UInt8 → List UInt8) (h : ∀ c, 1 ≤ (f c).length) (s : List UInt8) : s.length ≤ (s.flatMap f).length := by
  induction s with
  | nil => simp
  | cons c r ih => have := h c; rw [List.flatMap_cons, List.length_append, List.length_cons]; omega
theorem pf_len : ∀ c, 1 ≤ (pf c).length ∧ (pf c).length ≤ 3 := forall_byte _ (by decide +kernel)
theorem qf_len : ∀ c, 1 ≤ (qf c).length ∧ (qf c).length ≤ 3 := forall_byte _ (by decide +kernel)
theorem pathE_le (s : List UInt8) : (pathE s).length ≤ 3 * s.length := flat_le pf (fun c => (pf_len c).2) s
theorem queryE_le (s : List UInt8) : (queryE s).length ≤ 3 * s.length := flat_le qf (fun c => (qf_len c).2) s
theorem pathE_ge (s : List UInt8) : s.length ≤ (pathE s).length := flat_ge pf (fun c => (pf_len c).1) s
theorem queryE_ge (s : List UInt8) : s.length ≤ (queryE s).length := flat_ge qf (fun c => (qf_len c).1) s
theorem pathE_append (s t : List UInt8) : pathE (s ++ t) = pathE s ++ pathE t := List.flatMap_append
theorem queryE_append (s t : List UInt8) : queryE (s ++ t) = queryE s ++ queryE t := List.flatMap_append
theorem pathE_slash (s : List UInt8) : (pathE s).count 47 = 0 ∧ (pathE s).count 63 = 0 ∧ (pathE s).count 35 = 0 :=
  ⟨flat_mem pf _ (forall_byte _ (by decide +kernel)) s, flat_mem pf _ (forall_byte _ (by decide +kernel)) s, flat_mem pf _ (forall_byte _ (by decide +kernel)) s⟩
theorem plus_for_space (s : List UInt8) : (queryE s).count 43 = s.count 32 ∧ (pathE s).count 43 = s.count 43 :=
  ⟨flat_count qf 43 32 (forall_byte _ (by decide +kernel)) s, flat_count pf 43 43 (forall_byte _ (by decide +kernel)) s⟩

/-- whether a byte stands in a text -/
def isIn (l : List UInt8) (b : UInt8) : Bool := decide (0 < l.count b)

/-! ### The reference's escapes -/
/-- spec.escape: each byte that is neither unreserved nor in 'keep' as an escape -/
def sf (keep : List UInt8) (c : UInt8) : List UInt8 := if unres c || isIn keep c then [c] else pct capD capD c
def specE (keep s : List UInt8) : List UInt8 := s.flatMap (sf keep)
/-- spec.swap, laws.write: a text for each byte of one kind -/
def wf (a : UInt8) (to : List UInt8) (c : UInt8) : List UInt8 := if c = a then to else [c]
def wr (s : List UInt8) (a : UInt8) (to : List UInt8) : List UInt8 := s.flatMap (wf a to)
def keepP : List UInt8 := [36, 38, 43, 58, 61, 64]

theorem flat_congr {f g : UInt8 → List UInt8} (h : ∀ c, f c = g c) (s : List UInt8) : s.flatMap f = s.flatMap g := by
  induction s with
  | nil => rfl
  | cons c r ih => rw [List.flatMap_cons, List.flatMap_cons, h c, ih]
theorem exact_path (s : List UInt8) : pathE s = specE keepP s := flat_congr (forall_byte _ (by decide +kernel)) s
theorem exact_query (s : List UInt8) : queryE s = wr (specE [32] s) 32 [43] := by
  unfold wr specE
  rw [List.flatMap_assoc]
  exact flat_congr (forall_byte _ (by decide +kernel)) s
theorem path_twice (s : List UInt8) : pathE (pathE s) = wr (pathE s) 37 [37, 50, 53] := by
  unfold wr pathE
  rw [List.flatMap_assoc, List.flatMap_assoc]
  exact flat_congr (forall_byte _ (by decide +kernel)) s
theorem query_twice (s : List UInt8) : queryE (queryE s) = wr (wr (queryE s) 37 [37, 50, 53]) 43 [37, 50, 66] := by
  unfold wr queryE
  rw [List.flatMap_assoc, List.flatMap_assoc, List.flatMap_assoc]
  exact flat_congr (forall_byte _ (by decide +kernel)) s
theorem flat_one {f : UInt8 → List UInt8} (s : List UInt8) (h : ∀ c ∈ s, f c = [c]) : s.flatMap f = s := by
  induction s with
  | nil => rfl
  | cons c r ih => rw [List.flatMap_cons, h c (by simp), ih (fun d hd => h d (by simp [hd]))]; rfl
theorem plain_f : ∀ c : UInt8, unres c = true → pf c = [c] ∧ qf c = [c] := forall_byte _ (by decide +kernel)
theorem plain_kept (s : List UInt8) (h : ∀ c ∈ s, unres c = true) : pathE s = s ∧ queryE s = s :=
  ⟨flat_one s (fun c hc => (plain_f c (h c hc)).1), flat_one s (fun c hc => (plain_f c (h c hc)).2)⟩

/-! ### laws.consists -/
def cons (more : List UInt8) : List UInt8 → Bool
  | [] => true
  | c :: r =>
    if c = 37 then
      match r with
      | a :: b :: r' => if hexB a && hexB b then cons more r' else false
      | _ => false
    else if unres c || isIn more c then cons more r else false
theorem cons_nil (more : List UInt8) : cons more [] = true := by rw [cons.eq_def]
theorem cons_hex (more : List UInt8) (a b : UInt8) (r : List UInt8) (h : (hexB a && hexB b) = true) : cons more (37 :: a :: b :: r) = cons more r := by
  rw [cons.eq_def]; simp only [if_true, h]
theorem cons_bad (more : List UInt8) (a b : UInt8) (r : List UInt8) (h : (hexB a && hexB b) = false) : cons more (37 :: a :: b :: r) = false := by
  rw [cons.eq_def]; simp [h]
theorem cons_short0 (more : List UInt8) : cons more [37] = false := by rw [cons.eq_def]; simp
theorem cons_short1 (more : List UInt8) (a : UInt8) : cons more [37, a] = false := by rw [cons.eq_def]; simp
theorem cons_ok (more : List UInt8) (c : UInt8) (r : List UInt8) (h : c ≠ 37) (h2 : (unres c || isIn more c) = true) : cons more (c :: r) = cons more r := by
  rw [cons.eq_def]; simp only [h, if_false, h2, if_true]
theorem cons_no (more : List UInt8) (c : UInt8) (r : List UInt8) (h : c ≠ 37) (h2 : (unres c || isIn more c) = false) : cons more (c :: r) = false := by
  rw [cons.eq_def]; simp only [h, if_false, h2]; simp
theorem cons_flat (more : List UInt8) (f : UInt8 → List UInt8)
    (h : ∀ c, (∃ d, f c = [d] ∧ d ≠ 37 ∧ (unres d || isIn more d) = true) ∨ (∃ a b, f c = [37, a, b] ∧ (hexB a && hexB b) = true)) (s : List UInt8) : cons more (s.flatMap f) = true := by
  induction s with
  | nil => exact cons_nil _
  | cons c r ih =>
    rw [List.flatMap_cons]
    rcases h c with ⟨d, hf, hd, hk⟩ | ⟨a, b, hf, hh⟩
    · rw [hf]; show cons more (d :: _) = true; rw [cons_ok _ _ _ hd hk]; exact ih
    · rw [hf]; show cons more (37 :: a :: b :: _) = true; rw [cons_hex _ _ _ _ hh]; exact ih
def moreP : List UInt8 := [33, 36, 38, 39, 40, 41, 42, 43, 44, 59, 61, 58, 64]
def moreQ : List UInt8 := [33, 36, 39, 40, 41, 42, 43, 44, 58, 64, 47, 63]
theorem keep_more : ∀ c : UInt8, pkeep c = true → (unres c || isIn moreP c) = true := forall_byte _ (by decide +kernel)
theorem path_safe (s : List UInt8) : cons moreP (pathE s) = true := by
  refine cons_flat moreP pf (fun c => ?_) s
  cases h : pkeep c
  · exact Or.inr ⟨_, _, by unfold pf; rw [h]; rfl, (digits_cc c).1⟩
  · exact Or.inl ⟨c, by unfold pf; rw [h]; rfl, ne37_p c h, keep_more c h⟩
theorem query_safe (s : List UInt8) : cons moreQ (queryE s) = true := by
  refine cons_flat moreQ qf (fun c => ?_) s
  by_cases h0 : c = 32
  · exact Or.inl ⟨43, by subst h0; rfl, by decide, by decide⟩
  · have h0' : (c == 32) = false := by simpa using h0
    cases h : unres c
    · exact Or.inr ⟨_, _, by unfold qf; rw [h0', h]; rfl, (digits_cc c).1⟩
    · exact Or.inl ⟨c, by unfold qf; rw [h0', h]; rfl, (ne37_u c h).1, by rw [h]; rfl⟩
end Go.Proofs.YtjfgadnjdcopcaaDoor.Pl
